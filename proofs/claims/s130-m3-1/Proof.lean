import JvmDerived
import JvmDerived.Pilot.@@N@@Statement
import JvmDerived.Pilot.@@N@@Code
set_option linter.unusedVariables false
set_option linter.unusedSimpArgs false
namespace Jvm.Pilot.@@N@@
open Jvm Jvm.ClassFile Sem Op Lib Jvm.Free Jvm.Stand Jvm.LawKit Jvm.RoadKit Bundle Jvm.Pilot.@@N@@.Jvm.D
theorem tw {Z : State} {a0 : Array Value} (hw : ∀ d ∈ tables_1, d.before a0 Z = true) (i : Nat) {d : Jvm.Cond} (hd : tables_1[i]? = some d := by rfl) : d.before a0 Z = true := hw d (List.mem_of_getElem? hd)
abbrev own_Nar : Prop := False
abbrev own_EL : List (String × Nat) := [("java/lang/String", 7), ("java/lang/StringLatin1", 151)]
section Own
variable {p : Program} {l : Launch} {e : Env} {R : Room} {s : State} {m : MethodId} {args : Array Value} {below : List Frame} {meth : Method} {c : Code} {Z : State} {a0 : Array Value} {y : MethodName} {bytes : ByteArray} {maxL : Nat} {ret : Option FieldType} {T : State} {h : Heap} {ce sl : Nat} {sf : List Addr} {G : State → Prop} {pc : Nat} {L : Array Slot} {S : List Value}
/-- where a walk stands: the state T, its heap h, what has been made, the cells that no constant books -/
def Wk (p : Program) (l : Launch) (e : Env) (R : Room) (s : State) (m : MethodId) (args : Array Value) (below : List Frame) (meth : Method) (c : Code) (Z : State) (y : MethodName) (bytes : ByteArray) (maxL : Nat) (ret : Option FieldType) (T : State) (h : Heap) (ce sl : Nat) (sf : List Addr) : Prop :=
  ∃ (vm0 : Vm) (k0 : Nat) (locs : List Loc), Stand p l e R (s.setVm vm0) m args below meth c T locs ce sl ∧ T.heap = h ∧ s.Since vm0 k0 ∧ k0 ≤ h.size ∧ Z.Warmed39 (s.setVm vm0).vm ∧ (s.setVm vm0).vm.findClass y.cls = some m.cls ∧ Fr Z.heap.size locs ∧ (own_Nar → s.WarmedH vm0) ∧ CHr Z own_EL s.vm s.heap vm0 h ∧ (∀ x ∈ sf, x < h.size ∧ Safe Z own_EL vm0 h x) ∧ Ext Z.heap h ∧ (∃ a1, EW Z a1 own_EL) ∧ p.tables.exec = Jvm.exec ∧ c.code = bytes ∧ c.maxLocals = maxL ∧ meth.name = y.name ∧ meth.sig.returnType = ret ∧ meth.locks = false
def Go (p : Program) (e : Env) (below : List Frame) (G : State → Prop) (T : State) (g : JFrame) : Prop := ∃ u, Steps p.tables e below (T.setTop g) u ∧ G u
theorem Go.st {T' : State} {g g' : JFrame} (K : Go p e below G T' g') (f : ∀ u, Steps p.tables e below (T'.setTop g') u → Steps p.tables e below (T.setTop g) u) : Go p e below G T g := by
  obtain ⟨u, k, q⟩ := K
  exact ⟨u, f u k, q⟩
theorem Go.cut {g g' : JFrame} (A : Go p e below G T g' → Go p e below G T g) (B : Go p e below G T g') : Go p e below G T g := A B
theorem Go.eq {g g' : JFrame} (K : Go p e below G T g') (q : g' = g) : Go p e below G T g := q ▸ K
theorem Go.cutW {g g' : JFrame} (W : Wk p l e R s m args below meth c Z y bytes maxL ret T h ce sl sf) (A : (∀ T', Wk p l e R s m args below meth c Z y bytes maxL ret T' h ce sl sf → Go p e below G T' g') → Go p e below G T g) (B : ∀ T', Wk p l e R s m args below meth c Z y bytes maxL ret T' h ce sl sf → Go p e below G T' g') : Go p e below G T g := A B
theorem own_ext_refl (h : Heap) : Ext h h := ⟨Nat.le_refl _, fun _ _ q => q⟩
theorem own_ext_trans {h h' h2 : Heap} (A : Ext h h') (B : Ext h' h2) : Ext h h2 := ⟨Nat.le_trans A.1 B.1, fun x c q => B.2 x c (A.2 x c q)⟩
theorem own_ext_wr {h0 h h' : Heap} {a : Addr} {i : Nat} {v : Value} (E : Ext h0 h) (W : Wr h h' a i v) (q : h0.size ≤ a) : Ext h0 h' := by
  refine ⟨Nat.le_trans E.1 (Nat.le_of_eq W.size.symm), fun x cc r => ?_⟩
  obtain ⟨c', e1, -, -, -, e5, -⟩ := wr_at W (E.2 x cc r)
  have hlt := (Array.getElem?_eq_some_iff.mp r).1
  rw [e1, e5 (Nat.ne_of_lt (Nat.lt_of_lt_of_le hlt q))]
theorem own_ext_keep {h0 h h' : Heap} {a : Addr} (E : Ext h0 h) (K : Keep h h' [a]) (q : h0.size ≤ a) : Ext h0 h' := ⟨Nat.le_trans E.1 K.1, fun x cc r => K.2.1 x cc (E.2 x cc r) fun z => by
  have hlt := (Array.getElem?_eq_some_iff.mp r).1
  rw [List.mem_singleton.mp z] at hlt; omega⟩
theorem own_ns_root {O K : String} {n : Nat} (w : (Jvm.Cond.noSuperclass O).before a0 Z = true) (wk : (Jvm.Cond.instantiable K n).before a0 Z = true) (hn : O ≠ K) : NS Z O K := by
  obtain ⟨c, k, h1, h2, h3, -, -⟩ := Cond.noSuperclass_spec w
  obtain ⟨t, kt, g1, -⟩ := Cond.instantiable_spec wk
  have ne := ids_ne h1 g1 hn
  refine ⟨c, t, h1, g1, fun fuel => ?_⟩
  cases fuel with
  | zero => rfl
  | succ f => simp [Vm.isSubclassAux, ne, h2, h3]
theorem own_ns_no {C S' K : String} {n : Nat} (w : (Jvm.Cond.superclass C S').before a0 Z = true) (wk : (Jvm.Cond.instantiable K n).before a0 Z = true) (N : NS Z C K) (hn : C ≠ K) : ∃ c t, Z.vm.findClass C = some c ∧ Z.vm.findClass K = some t ∧ Z.vm.assignable c t = false := by
  obtain ⟨c, t, h0, g0, n3⟩ := N
  obtain ⟨p, k, kp, h1, h2, h3, h4, h5, -, h7⟩ := Cond.superclass_spec h0 w
  obtain ⟨t', kt, g1, g2, g3, g4, -⟩ := Cond.instantiable_spec wk
  cases g0.symm.trans g1
  have g7 : kt.isInterface = false := by cases q : kt.isInterface <;> simp_all
  have ne := ids_ne h0 g0 hn
  refine ⟨c, t, h0, g0, ?_⟩
  show Z.vm.assignableAux (255 + 1) c t = false
  simp [Vm.assignableAux, ne, h2, g2, h5, g3, g7, Vm.isSubclass, n3]
theorem Wk.old (W : Wk p l e R s m args below meth c Z y bytes maxL ret T h ce sl sf) : Ext Z.heap h := by obtain ⟨vm0, k0, locs, X, eT, hS, hk, hZ, hown, hF, hN, hC, hsf, hE, ⟨a1, hEL⟩, hx, hby, hml, hnm, hrt, hlk⟩ := W; exact hE
theorem Wk.mono (W : Wk p l e R s m args below meth c Z y bytes maxL ret T h ce sl sf) {ce' sl' : Nat} (q : ce ≤ ce') (r : sl ≤ sl') : Wk p l e R s m args below meth c Z y bytes maxL ret T h ce' sl' sf := by
  obtain ⟨vm0, k0, locs, X, eT, hS, hk, hZ, hown, hF, hN, hC, hsf, hE, ⟨a1, hEL⟩, hx, hby, hml, hnm, hrt, hlk⟩ := W
  exact ⟨vm0, k0, locs, X.mono q r, eT, hS, hk, hZ, hown, hF, hN, hC, hsf, hE, ⟨a1, hEL⟩, hx, hby, hml, hnm, hrt, hlk⟩
theorem Wk.drop (W : Wk p l e R s m args below meth c Z y bytes maxL ret T h ce sl sf) {sf' : List Addr} (q : ∀ x ∈ sf', x ∈ sf) : Wk p l e R s m args below meth c Z y bytes maxL ret T h ce sl sf' := by
  obtain ⟨vm0, k0, locs, X, eT, hS, hk, hZ, hown, hF, hN, hC, hsf, hE, ⟨a1, hEL⟩, hx, hby, hml, hnm, hrt, hlk⟩ := W
  exact ⟨vm0, k0, locs, X, eT, hS, hk, hZ, hown, hF, hN, hC, fun x hx => hsf x (q x hx), hE, ⟨a1, hEL⟩, hx, hby, hml, hnm, hrt, hlk⟩
theorem o_iloadN (pc' : Nat) (W : Wk p l e R s m args below meth c Z y bytes maxL ret T h ce sl sf) {k : Fin 4} {v : Int32} (hd : decode bytes pc = .ok (.iload_n k, 1)) (hl : L[k.val]? = some (.val (.int v))) (K : Go p e below G T (mkF m pc' L (.int v :: S))) (hp : pc + 1 = pc' := by rfl) : Go p e below G T (mkF m pc L (S)) := by
  subst hp
  obtain ⟨vm0, k0, locs, X, eT, hS, hk, hZ, hown, hF, hN, hC, hsf, hE, ⟨a1, hEL⟩, hx, hby, hml, hnm, hrt, hlk⟩ := W
  subst hby
  exact K.st fun u k => XS.iloadN X.here hx rfl hd hl k
theorem o_iload (pc' : Nat) (W : Wk p l e R s m args below meth c Z y bytes maxL ret T h ce sl sf) {k : Nat} {v : Int32} (hd : decode bytes pc = .ok (.iload k, 2)) (hl : L[k]? = some (.val (.int v))) (K : Go p e below G T (mkF m pc' L (.int v :: S))) (hp : pc + 2 = pc' := by rfl) : Go p e below G T (mkF m pc L (S)) := by
  subst hp
  obtain ⟨vm0, k0, locs, X, eT, hS, hk, hZ, hown, hF, hN, hC, hsf, hE, ⟨a1, hEL⟩, hx, hby, hml, hnm, hrt, hlk⟩ := W
  subst hby
  exact K.st fun u k => XS.iload X.here hx rfl hd hl k
theorem o_lloadN (pc' : Nat) (W : Wk p l e R s m args below meth c Z y bytes maxL ret T h ce sl sf) {k : Fin 4} {v : Int64} (hd : decode bytes pc = .ok (.lload_n k, 1)) (hl : L[k.val]? = some (.val (.long v))) (K : Go p e below G T (mkF m pc' L (.long v :: S))) (hp : pc + 1 = pc' := by rfl) : Go p e below G T (mkF m pc L (S)) := by
  subst hp
  obtain ⟨vm0, k0, locs, X, eT, hS, hk, hZ, hown, hF, hN, hC, hsf, hE, ⟨a1, hEL⟩, hx, hby, hml, hnm, hrt, hlk⟩ := W
  subst hby
  exact K.st fun u k => XT.lloadN X.here hx rfl hd hl k
theorem o_lload (pc' : Nat) (W : Wk p l e R s m args below meth c Z y bytes maxL ret T h ce sl sf) {k : Nat} {v : Int64} (hd : decode bytes pc = .ok (.lload k, 2)) (hl : L[k]? = some (.val (.long v))) (K : Go p e below G T (mkF m pc' L (.long v :: S))) (hp : pc + 2 = pc' := by rfl) : Go p e below G T (mkF m pc L (S)) := by
  subst hp
  obtain ⟨vm0, k0, locs, X, eT, hS, hk, hZ, hown, hF, hN, hC, hsf, hE, ⟨a1, hEL⟩, hx, hby, hml, hnm, hrt, hlk⟩ := W
  subst hby
  exact K.st fun u k => XT.lload X.here hx rfl hd hl k
theorem o_aloadN (pc' : Nat) (W : Wk p l e R s m args below meth c Z y bytes maxL ret T h ce sl sf) {k : Fin 4} {v : Value} (hd : decode bytes pc = .ok (.aload_n k, 1)) (hl : L[k.val]? = some (.val v)) (hv : v.isRef = true) (K : Go p e below G T (mkF m pc' L (v :: S))) (hp : pc + 1 = pc' := by rfl) : Go p e below G T (mkF m pc L (S)) := by
  subst hp
  obtain ⟨vm0, k0, locs, X, eT, hS, hk, hZ, hown, hF, hN, hC, hsf, hE, ⟨a1, hEL⟩, hx, hby, hml, hnm, hrt, hlk⟩ := W
  subst hby
  exact K.st fun u k => XS.aloadN X.here hx rfl hd hl hv k
theorem o_aload (pc' : Nat) (W : Wk p l e R s m args below meth c Z y bytes maxL ret T h ce sl sf) {k : Nat} {v : Value} (hd : decode bytes pc = .ok (.aload k, 2)) (hl : L[k]? = some (.val v)) (hv : v.isRef = true) (K : Go p e below G T (mkF m pc' L (v :: S))) (hp : pc + 2 = pc' := by rfl) : Go p e below G T (mkF m pc L (S)) := by
  subst hp
  obtain ⟨vm0, k0, locs, X, eT, hS, hk, hZ, hown, hF, hN, hC, hsf, hE, ⟨a1, hEL⟩, hx, hby, hml, hnm, hrt, hlk⟩ := W
  subst hby
  exact K.st fun u k => XS.aload X.here hx rfl hd hl hv k
theorem o_istoreN (pc' : Nat) (W : Wk p l e R s m args below meth c Z y bytes maxL ret T h ce sl sf) {k : Fin 4} {v : Int32} (L' : Array Slot) (hd : decode bytes pc = .ok (.istore_n k, 1)) (hl : storeLocals L k.val (.int v) = some L') (K : Go p e below G T (mkF m pc' L' (S))) (hp : pc + 1 = pc' := by rfl) : Go p e below G T (mkF m pc L (.int v :: S)) := by
  subst hp
  obtain ⟨vm0, k0, locs, X, eT, hS, hk, hZ, hown, hF, hN, hC, hsf, hE, ⟨a1, hEL⟩, hx, hby, hml, hnm, hrt, hlk⟩ := W
  subst hby
  exact K.st fun u k => XS.istoreN X.here hx rfl hd rfl hl k
theorem o_istore (pc' : Nat) (W : Wk p l e R s m args below meth c Z y bytes maxL ret T h ce sl sf) {k : Nat} {v : Int32} (L' : Array Slot) (hd : decode bytes pc = .ok (.istore k, 2)) (hl : storeLocals L k (.int v) = some L') (K : Go p e below G T (mkF m pc' L' (S))) (hp : pc + 2 = pc' := by rfl) : Go p e below G T (mkF m pc L (.int v :: S)) := by
  subst hp
  obtain ⟨vm0, k0, locs, X, eT, hS, hk, hZ, hown, hF, hN, hC, hsf, hE, ⟨a1, hEL⟩, hx, hby, hml, hnm, hrt, hlk⟩ := W
  subst hby
  exact K.st fun u k => XS.istore X.here hx rfl hd rfl hl k
theorem o_lstoreN (pc' : Nat) (W : Wk p l e R s m args below meth c Z y bytes maxL ret T h ce sl sf) {k : Fin 4} {v : Int64} (L' : Array Slot) (hd : decode bytes pc = .ok (.lstore_n k, 1)) (hl : storeLocals L k.val (.long v) = some L') (K : Go p e below G T (mkF m pc' L' (S))) (hp : pc + 1 = pc' := by rfl) : Go p e below G T (mkF m pc L (.long v :: S)) := by
  subst hp
  obtain ⟨vm0, k0, locs, X, eT, hS, hk, hZ, hown, hF, hN, hC, hsf, hE, ⟨a1, hEL⟩, hx, hby, hml, hnm, hrt, hlk⟩ := W
  subst hby
  exact K.st fun u k => XT.lstoreN X.here hx rfl hd rfl hl k
theorem o_lstore (pc' : Nat) (W : Wk p l e R s m args below meth c Z y bytes maxL ret T h ce sl sf) {k : Nat} {v : Int64} (L' : Array Slot) (hd : decode bytes pc = .ok (.lstore k, 2)) (hl : storeLocals L k (.long v) = some L') (K : Go p e below G T (mkF m pc' L' (S))) (hp : pc + 2 = pc' := by rfl) : Go p e below G T (mkF m pc L (.long v :: S)) := by
  subst hp
  obtain ⟨vm0, k0, locs, X, eT, hS, hk, hZ, hown, hF, hN, hC, hsf, hE, ⟨a1, hEL⟩, hx, hby, hml, hnm, hrt, hlk⟩ := W
  subst hby
  exact K.st fun u k => XT.lstore X.here hx rfl hd rfl hl k
theorem o_astoreN (pc' : Nat) (W : Wk p l e R s m args below meth c Z y bytes maxL ret T h ce sl sf) {k : Fin 4} {v : Value} (L' : Array Slot) (hd : decode bytes pc = .ok (.astore_n k, 1)) (hv : v.isRef = true) (hl : storeLocals L k.val v = some L') (K : Go p e below G T (mkF m pc' L' (S))) (hp : pc + 1 = pc' := by rfl) : Go p e below G T (mkF m pc L (v :: S)) := by
  subst hp
  obtain ⟨vm0, k0, locs, X, eT, hS, hk, hZ, hown, hF, hN, hC, hsf, hE, ⟨a1, hEL⟩, hx, hby, hml, hnm, hrt, hlk⟩ := W
  subst hby
  exact K.st fun u k => XS.astoreN X.here hx rfl hd rfl hv hl k
theorem o_astore (pc' : Nat) (W : Wk p l e R s m args below meth c Z y bytes maxL ret T h ce sl sf) {k : Nat} {v : Value} (L' : Array Slot) (hd : decode bytes pc = .ok (.astore k, 2)) (hv : v.isRef = true) (hl : storeLocals L k v = some L') (K : Go p e below G T (mkF m pc' L' (S))) (hp : pc + 2 = pc' := by rfl) : Go p e below G T (mkF m pc L (v :: S)) := by
  subst hp
  obtain ⟨vm0, k0, locs, X, eT, hS, hk, hZ, hown, hF, hN, hC, hsf, hE, ⟨a1, hEL⟩, hx, hby, hml, hnm, hrt, hlk⟩ := W
  subst hby
  exact K.st fun u k => XS.astore X.here hx rfl hd rfl hv hl k
theorem o_iconst (pc' : Nat) (W : Wk p l e R s m args below meth c Z y bytes maxL ret T h ce sl sf) {i : Int} (v : Int32) (hd : decode bytes pc = .ok (.iconst i, 1)) (hv : Int32.ofInt i = v) (K : Go p e below G T (mkF m pc' L (.int v :: S))) (hp : pc + 1 = pc' := by rfl) : Go p e below G T (mkF m pc L (S)) := by
  subst hp
  obtain ⟨vm0, k0, locs, X, eT, hS, hk, hZ, hown, hF, hN, hC, hsf, hE, ⟨a1, hEL⟩, hx, hby, hml, hnm, hrt, hlk⟩ := W
  subst hby
  exact K.st fun u k => XT.iconstV X.here hx rfl v hd hv k
theorem o_bipush (pc' : Nat) (W : Wk p l e R s m args below meth c Z y bytes maxL ret T h ce sl sf) {i : Int} (v : Int32) (hd : decode bytes pc = .ok (.bipush i, 2)) (hv : (Int8.ofInt i).toInt32 = v) (K : Go p e below G T (mkF m pc' L (.int v :: S))) (hp : pc + 2 = pc' := by rfl) : Go p e below G T (mkF m pc L (S)) := by
  subst hp
  obtain ⟨vm0, k0, locs, X, eT, hS, hk, hZ, hown, hF, hN, hC, hsf, hE, ⟨a1, hEL⟩, hx, hby, hml, hnm, hrt, hlk⟩ := W
  subst hby
  exact K.st fun u k => XT.bipushV X.here hx rfl v hd hv k
theorem o_sipush (pc' : Nat) (W : Wk p l e R s m args below meth c Z y bytes maxL ret T h ce sl sf) {i : Int} (v : Int32) (hd : decode bytes pc = .ok (.sipush i, 3)) (hv : (Int16.ofInt i).toInt32 = v) (K : Go p e below G T (mkF m pc' L (.int v :: S))) (hp : pc + 3 = pc' := by rfl) : Go p e below G T (mkF m pc L (S)) := by
  subst hp
  obtain ⟨vm0, k0, locs, X, eT, hS, hk, hZ, hown, hF, hN, hC, hsf, hE, ⟨a1, hEL⟩, hx, hby, hml, hnm, hrt, hlk⟩ := W
  subst hby
  exact K.st fun u k => XT.sipushV X.here hx rfl v hd hv k
theorem o_lconst (pc' : Nat) (W : Wk p l e R s m args below meth c Z y bytes maxL ret T h ce sl sf) {i : Fin 2} (v : Int64) (hd : decode bytes pc = .ok (.lconst i, 1)) (hv : Int64.ofNat i = v) (K : Go p e below G T (mkF m pc' L (.long v :: S))) (hp : pc + 1 = pc' := by rfl) : Go p e below G T (mkF m pc L (S)) := by
  subst hp
  obtain ⟨vm0, k0, locs, X, eT, hS, hk, hZ, hown, hF, hN, hC, hsf, hE, ⟨a1, hEL⟩, hx, hby, hml, hnm, hrt, hlk⟩ := W
  subst hby
  exact K.st fun u k => XT.lconstV X.here hx rfl v hd hv k
theorem o_null (pc' : Nat) (W : Wk p l e R s m args below meth c Z y bytes maxL ret T h ce sl sf)  (hd : decode bytes pc = .ok (.aconst_null, 1))  (K : Go p e below G T (mkF m pc' L (.null :: S))) (hp : pc + 1 = pc' := by rfl) : Go p e below G T (mkF m pc L (S)) := by
  subst hp
  obtain ⟨vm0, k0, locs, X, eT, hS, hk, hZ, hown, hF, hN, hC, hsf, hE, ⟨a1, hEL⟩, hx, hby, hml, hnm, hrt, hlk⟩ := W
  subst hby
  exact K.st fun u k => XS.aconstNull X.here hx rfl hd  k
theorem o_iadd (pc' : Nat) (W : Wk p l e R s m args below meth c Z y bytes maxL ret T h ce sl sf) {x z : Int32} (hd : decode bytes pc = .ok (.iadd, 1))  (K : Go p e below G T (mkF m pc' L (.int (x + z) :: S))) (hp : pc + 1 = pc' := by rfl) : Go p e below G T (mkF m pc L (.int z :: .int x :: S)) := by
  subst hp
  obtain ⟨vm0, k0, locs, X, eT, hS, hk, hZ, hown, hF, hN, hC, hsf, hE, ⟨a1, hEL⟩, hx, hby, hml, hnm, hrt, hlk⟩ := W
  subst hby
  exact K.st fun u k => XS.iadd X.here hx rfl hd rfl k
theorem o_isub (pc' : Nat) (W : Wk p l e R s m args below meth c Z y bytes maxL ret T h ce sl sf) {x z : Int32} (hd : decode bytes pc = .ok (.isub, 1))  (K : Go p e below G T (mkF m pc' L (.int (x - z) :: S))) (hp : pc + 1 = pc' := by rfl) : Go p e below G T (mkF m pc L (.int z :: .int x :: S)) := by
  subst hp
  obtain ⟨vm0, k0, locs, X, eT, hS, hk, hZ, hown, hF, hN, hC, hsf, hE, ⟨a1, hEL⟩, hx, hby, hml, hnm, hrt, hlk⟩ := W
  subst hby
  exact K.st fun u k => XS.isub X.here hx rfl hd rfl k
theorem o_iand (pc' : Nat) (W : Wk p l e R s m args below meth c Z y bytes maxL ret T h ce sl sf) {x z : Int32} (hd : decode bytes pc = .ok (.iand, 1))  (K : Go p e below G T (mkF m pc' L (.int (x &&& z) :: S))) (hp : pc + 1 = pc' := by rfl) : Go p e below G T (mkF m pc L (.int z :: .int x :: S)) := by
  subst hp
  obtain ⟨vm0, k0, locs, X, eT, hS, hk, hZ, hown, hF, hN, hC, hsf, hE, ⟨a1, hEL⟩, hx, hby, hml, hnm, hrt, hlk⟩ := W
  subst hby
  exact K.st fun u k => XS.iand X.here hx rfl hd rfl k
theorem o_imul (pc' : Nat) (W : Wk p l e R s m args below meth c Z y bytes maxL ret T h ce sl sf) {x z : Int32} (hd : decode bytes pc = .ok (.imul, 1))  (K : Go p e below G T (mkF m pc' L (.int (x * z) :: S))) (hp : pc + 1 = pc' := by rfl) : Go p e below G T (mkF m pc L (.int z :: .int x :: S)) := by
  subst hp
  obtain ⟨vm0, k0, locs, X, eT, hS, hk, hZ, hown, hF, hN, hC, hsf, hE, ⟨a1, hEL⟩, hx, hby, hml, hnm, hrt, hlk⟩ := W
  subst hby
  exact K.st fun u k => XS.imul X.here hx rfl hd rfl k
theorem o_ior (pc' : Nat) (W : Wk p l e R s m args below meth c Z y bytes maxL ret T h ce sl sf) {x z : Int32} (hd : decode bytes pc = .ok (.ior, 1))  (K : Go p e below G T (mkF m pc' L (.int (x ||| z) :: S))) (hp : pc + 1 = pc' := by rfl) : Go p e below G T (mkF m pc L (.int z :: .int x :: S)) := by
  subst hp
  obtain ⟨vm0, k0, locs, X, eT, hS, hk, hZ, hown, hF, hN, hC, hsf, hE, ⟨a1, hEL⟩, hx, hby, hml, hnm, hrt, hlk⟩ := W
  subst hby
  exact K.st fun u k => XT.ior X.here hx rfl hd rfl k
theorem o_ishl (pc' : Nat) (W : Wk p l e R s m args below meth c Z y bytes maxL ret T h ce sl sf) {x z : Int32} (hd : decode bytes pc = .ok (.ishl, 1))  (K : Go p e below G T (mkF m pc' L (.int (x <<< (z &&& 31)) :: S))) (hp : pc + 1 = pc' := by rfl) : Go p e below G T (mkF m pc L (.int z :: .int x :: S)) := by
  subst hp
  obtain ⟨vm0, k0, locs, X, eT, hS, hk, hZ, hown, hF, hN, hC, hsf, hE, ⟨a1, hEL⟩, hx, hby, hml, hnm, hrt, hlk⟩ := W
  subst hby
  exact K.st fun u k => XT.ishl X.here hx rfl hd rfl k
theorem o_iushr (pc' : Nat) (W : Wk p l e R s m args below meth c Z y bytes maxL ret T h ce sl sf) {x z : Int32} (hd : decode bytes pc = .ok (.iushr, 1))  (K : Go p e below G T (mkF m pc' L (.int (XT.ushr x z) :: S))) (hp : pc + 1 = pc' := by rfl) : Go p e below G T (mkF m pc L (.int z :: .int x :: S)) := by
  subst hp
  obtain ⟨vm0, k0, locs, X, eT, hS, hk, hZ, hown, hF, hN, hC, hsf, hE, ⟨a1, hEL⟩, hx, hby, hml, hnm, hrt, hlk⟩ := W
  subst hby
  exact K.st fun u k => XT.iushr X.here hx rfl hd rfl k
theorem o_ishr (pc' : Nat) (W : Wk p l e R s m args below meth c Z y bytes maxL ret T h ce sl sf) {x z : Int32} (hd : decode bytes pc = .ok (.ishr, 1))  (K : Go p e below G T (mkF m pc' L (.int (x >>> (z &&& 31)) :: S))) (hp : pc + 1 = pc' := by rfl) : Go p e below G T (mkF m pc L (.int z :: .int x :: S)) := by
  subst hp
  obtain ⟨vm0, k0, locs, X, eT, hS, hk, hZ, hown, hF, hN, hC, hsf, hE, ⟨a1, hEL⟩, hx, hby, hml, hnm, hrt, hlk⟩ := W
  subst hby
  exact K.st fun u k => XT.ishr X.here hx rfl hd rfl k
theorem o_ladd (pc' : Nat) (W : Wk p l e R s m args below meth c Z y bytes maxL ret T h ce sl sf) {x z : Int64} (hd : decode bytes pc = .ok (.ladd, 1))  (K : Go p e below G T (mkF m pc' L (.long (x + z) :: S))) (hp : pc + 1 = pc' := by rfl) : Go p e below G T (mkF m pc L (.long z :: .long x :: S)) := by
  subst hp
  obtain ⟨vm0, k0, locs, X, eT, hS, hk, hZ, hown, hF, hN, hC, hsf, hE, ⟨a1, hEL⟩, hx, hby, hml, hnm, hrt, hlk⟩ := W
  subst hby
  exact K.st fun u k => XT.ladd X.here hx rfl hd rfl k
theorem o_land (pc' : Nat) (W : Wk p l e R s m args below meth c Z y bytes maxL ret T h ce sl sf) {x z : Int64} (hd : decode bytes pc = .ok (.land, 1))  (K : Go p e below G T (mkF m pc' L (.long (x &&& z) :: S))) (hp : pc + 1 = pc' := by rfl) : Go p e below G T (mkF m pc L (.long z :: .long x :: S)) := by
  subst hp
  obtain ⟨vm0, k0, locs, X, eT, hS, hk, hZ, hown, hF, hN, hC, hsf, hE, ⟨a1, hEL⟩, hx, hby, hml, hnm, hrt, hlk⟩ := W
  subst hby
  exact K.st fun u k => XT.land X.here hx rfl hd rfl k
theorem o_lushr (pc' : Nat) (W : Wk p l e R s m args below meth c Z y bytes maxL ret T h ce sl sf) {x : Int64} {z : Int32} (hd : decode bytes pc = .ok (.lushr, 1))  (K : Go p e below G T (mkF m pc' L (.long (XT.ushrL x z) :: S))) (hp : pc + 1 = pc' := by rfl) : Go p e below G T (mkF m pc L (.int z :: .long x :: S)) := by
  subst hp
  obtain ⟨vm0, k0, locs, X, eT, hS, hk, hZ, hown, hF, hN, hC, hsf, hE, ⟨a1, hEL⟩, hx, hby, hml, hnm, hrt, hlk⟩ := W
  subst hby
  exact K.st fun u k => XT.lushr X.here hx rfl hd rfl k
theorem o_lcmp (pc' : Nat) (W : Wk p l e R s m args below meth c Z y bytes maxL ret T h ce sl sf) {x z : Int64} (hd : decode bytes pc = .ok (.lcmp, 1))  (K : Go p e below G T (mkF m pc' L (.int (XT.cmpL x z) :: S))) (hp : pc + 1 = pc' := by rfl) : Go p e below G T (mkF m pc L (.long z :: .long x :: S)) := by
  subst hp
  obtain ⟨vm0, k0, locs, X, eT, hS, hk, hZ, hown, hF, hN, hC, hsf, hE, ⟨a1, hEL⟩, hx, hby, hml, hnm, hrt, hlk⟩ := W
  subst hby
  exact K.st fun u k => XT.lcmp X.here hx rfl hd rfl k
theorem o_i2c (pc' : Nat) (W : Wk p l e R s m args below meth c Z y bytes maxL ret T h ce sl sf) {x : Int32} (hd : decode bytes pc = .ok (.i2c, 1))  (K : Go p e below G T (mkF m pc' L (.int x.toUInt32.toUInt16.toUInt32.toInt32 :: S))) (hp : pc + 1 = pc' := by rfl) : Go p e below G T (mkF m pc L (.int x :: S)) := by
  subst hp
  obtain ⟨vm0, k0, locs, X, eT, hS, hk, hZ, hown, hF, hN, hC, hsf, hE, ⟨a1, hEL⟩, hx, hby, hml, hnm, hrt, hlk⟩ := W
  subst hby
  exact K.st fun u k => XT.i2c X.here hx rfl hd rfl k
theorem o_i2b (pc' : Nat) (W : Wk p l e R s m args below meth c Z y bytes maxL ret T h ce sl sf) {x : Int32} (hd : decode bytes pc = .ok (.i2b, 1))  (K : Go p e below G T (mkF m pc' L (.int x.toInt8.toInt32 :: S))) (hp : pc + 1 = pc' := by rfl) : Go p e below G T (mkF m pc L (.int x :: S)) := by
  subst hp
  obtain ⟨vm0, k0, locs, X, eT, hS, hk, hZ, hown, hF, hN, hC, hsf, hE, ⟨a1, hEL⟩, hx, hby, hml, hnm, hrt, hlk⟩ := W
  subst hby
  exact K.st fun u k => XT.i2b X.here hx rfl hd rfl k
theorem o_i2l (pc' : Nat) (W : Wk p l e R s m args below meth c Z y bytes maxL ret T h ce sl sf) {x : Int32} (hd : decode bytes pc = .ok (.i2l, 1))  (K : Go p e below G T (mkF m pc' L (.long x.toInt64 :: S))) (hp : pc + 1 = pc' := by rfl) : Go p e below G T (mkF m pc L (.int x :: S)) := by
  subst hp
  obtain ⟨vm0, k0, locs, X, eT, hS, hk, hZ, hown, hF, hN, hC, hsf, hE, ⟨a1, hEL⟩, hx, hby, hml, hnm, hrt, hlk⟩ := W
  subst hby
  exact K.st fun u k => XT.i2l X.here hx rfl hd rfl k
theorem o_l2i (pc' : Nat) (W : Wk p l e R s m args below meth c Z y bytes maxL ret T h ce sl sf) {x : Int64} (hd : decode bytes pc = .ok (.l2i, 1))  (K : Go p e below G T (mkF m pc' L (.int x.toInt32 :: S))) (hp : pc + 1 = pc' := by rfl) : Go p e below G T (mkF m pc L (.long x :: S)) := by
  subst hp
  obtain ⟨vm0, k0, locs, X, eT, hS, hk, hZ, hown, hF, hN, hC, hsf, hE, ⟨a1, hEL⟩, hx, hby, hml, hnm, hrt, hlk⟩ := W
  subst hby
  exact K.st fun u k => XT.l2i X.here hx rfl hd rfl k
theorem o_dup (pc' : Nat) (W : Wk p l e R s m args below meth c Z y bytes maxL ret T h ce sl sf) {v : Value} (hd : decode bytes pc = .ok (.dup, 1)) (hc : v.category = 1) (K : Go p e below G T (mkF m pc' L (v :: v :: S))) (hp : pc + 1 = pc' := by rfl) : Go p e below G T (mkF m pc L (v :: S)) := by
  subst hp
  obtain ⟨vm0, k0, locs, X, eT, hS, hk, hZ, hown, hF, hN, hC, hsf, hE, ⟨a1, hEL⟩, hx, hby, hml, hnm, hrt, hlk⟩ := W
  subst hby
  exact K.st fun u k => XS.dup X.here hx rfl hd rfl hc k
theorem o_pop (pc' : Nat) (W : Wk p l e R s m args below meth c Z y bytes maxL ret T h ce sl sf) {v : Value} (hd : decode bytes pc = .ok (.pop, 1)) (hc : v.category = 1) (K : Go p e below G T (mkF m pc' L (S))) (hp : pc + 1 = pc' := by rfl) : Go p e below G T (mkF m pc L (v :: S)) := by
  subst hp
  obtain ⟨vm0, k0, locs, X, eT, hS, hk, hZ, hown, hF, hN, hC, hsf, hE, ⟨a1, hEL⟩, hx, hby, hml, hnm, hrt, hlk⟩ := W
  subst hby
  exact K.st fun u k => XT.pop X.here hx rfl hd rfl hc k
theorem o_iinc (pc' : Nat) (W : Wk p l e R s m args below meth c Z y bytes maxL ret T h ce sl sf) {k : Nat} {i : Int} {x : Int32} (v : Int32) (L' : Array Slot) (hd : decode bytes pc = .ok (.iinc k i, 3)) (hl : L[k]? = some (.val (.int x))) (hv : x + Int32.ofInt i = v) (hl' : storeLocals L k (.int v) = some L') (K : Go p e below G T (mkF m pc' L' (S))) (hp : pc + 3 = pc' := by rfl) : Go p e below G T (mkF m pc L (S)) := by
  subst hp
  obtain ⟨vm0, k0, locs, X, eT, hS, hk, hZ, hown, hF, hN, hC, hsf, hE, ⟨a1, hEL⟩, hx, hby, hml, hnm, hrt, hlk⟩ := W
  subst hby
  exact K.st fun u k => XS.iinc X.here hx rfl hd hl (hv ▸ hl') k
theorem o_irem (pc' : Nat) (W : Wk p l e R s m args below meth c Z y bytes maxL ret T h ce sl sf) {x z : Int32} (hd : decode bytes pc = .ok (.irem, 1)) (hz : z ≠ 0) (K : Go p e below G T (mkF m pc' L (.int (x % z) :: S))) (hp : pc + 1 = pc' := by rfl) : Go p e below G T (mkF m pc L (.int z :: .int x :: S)) := by
  subst hp
  obtain ⟨vm0, k0, locs, X, eT, hS, hk, hZ, hown, hF, hN, hC, hsf, hE, ⟨a1, hEL⟩, hx, hby, hml, hnm, hrt, hlk⟩ := W
  subst hby
  exact K.st fun u k => iremM X hx (g := mkF m pc L (.int z :: .int x :: S)) rfl hd rfl hz k
theorem o_goto (pc' : Nat) (W : Wk p l e R s m args below meth c Z y bytes maxL ret T h ce sl sf)  {o : Int} (hd : decode bytes pc = .ok (.goto o, 3))  (K : Go p e below G T (mkF m pc' L (S))) (ho : 0 ≤ (pc : Int) + o := by decide) (hp : ((pc : Int) + o).toNat = pc' := by decide) : Go p e below G T (mkF m pc L (S)) := by
  obtain ⟨vm0, k0, locs, X, eT, hS, hk, hZ, hown, hF, hN, hC, hsf, hE, ⟨a1, hEL⟩, hx, hby, hml, hnm, hrt, hlk⟩ := W
  subst hby
  exact K.st fun u k => XS.goto X.here hx rfl (pc0 := pc) rfl hd ho hp k
theorem o_ifeq (pt pf : Nat) (W : Wk p l e R s m args below meth c Z y bytes maxL ret T h ce sl sf) {x : Int32} {o : Int} (hd : decode bytes pc = .ok (.ifCond .eq o, 3)) (K1 : x = 0 → Go p e below G T (mkF m pt L S)) (K2 : ¬ x = 0 → Go p e below G T (mkF m pf L S)) (ho : 0 ≤ (pc : Int) + o := by decide) (hp : ((pc : Int) + o).toNat = pt := by decide) (hq : pc + 3 = pf := by rfl) : Go p e below G T (mkF m pc L (.int x :: S)) := by
  subst hq
  obtain ⟨vm0, k0, locs, X, eT, hS, hk, hZ, hown, hF, hN, hC, hsf, hE, ⟨a1, hEL⟩, hx, hby, hml, hnm, hrt, hlk⟩ := W
  subst hby
  by_cases q : x = 0
  · exact (K1 q).st fun u k => XS.ifYes X.here hx rfl (pc0 := pc) rfl hd rfl (XT.i0_eq_t q) ho hp k
  · exact (K2 q).st fun u k => XS.ifNo X.here hx rfl hd rfl (XT.i0_eq_f q) k
theorem o_ifne (pt pf : Nat) (W : Wk p l e R s m args below meth c Z y bytes maxL ret T h ce sl sf) {x : Int32} {o : Int} (hd : decode bytes pc = .ok (.ifCond .ne o, 3)) (K1 : ¬ x = 0 → Go p e below G T (mkF m pt L S)) (K2 : x = 0 → Go p e below G T (mkF m pf L S)) (ho : 0 ≤ (pc : Int) + o := by decide) (hp : ((pc : Int) + o).toNat = pt := by decide) (hq : pc + 3 = pf := by rfl) : Go p e below G T (mkF m pc L (.int x :: S)) := by
  subst hq
  obtain ⟨vm0, k0, locs, X, eT, hS, hk, hZ, hown, hF, hN, hC, hsf, hE, ⟨a1, hEL⟩, hx, hby, hml, hnm, hrt, hlk⟩ := W
  subst hby
  by_cases q : x = 0
  · exact (K2 q).st fun u k => XS.ifNo X.here hx rfl hd rfl (XT.i0_ne_f q) k
  · exact (K1 q).st fun u k => XS.ifYes X.here hx rfl (pc0 := pc) rfl hd rfl (XT.i0_ne_t q) ho hp k
theorem o_iflt (pt pf : Nat) (W : Wk p l e R s m args below meth c Z y bytes maxL ret T h ce sl sf) {x : Int32} {o : Int} (hd : decode bytes pc = .ok (.ifCond .lt o, 3)) (K1 : x < 0 → Go p e below G T (mkF m pt L S)) (K2 : ¬ x < 0 → Go p e below G T (mkF m pf L S)) (ho : 0 ≤ (pc : Int) + o := by decide) (hp : ((pc : Int) + o).toNat = pt := by decide) (hq : pc + 3 = pf := by rfl) : Go p e below G T (mkF m pc L (.int x :: S)) := by
  subst hq
  obtain ⟨vm0, k0, locs, X, eT, hS, hk, hZ, hown, hF, hN, hC, hsf, hE, ⟨a1, hEL⟩, hx, hby, hml, hnm, hrt, hlk⟩ := W
  subst hby
  by_cases q : x < 0
  · exact (K1 q).st fun u k => XS.ifYes X.here hx rfl (pc0 := pc) rfl hd rfl (XT.i0_lt_t q) ho hp k
  · exact (K2 q).st fun u k => XS.ifNo X.here hx rfl hd rfl (XT.i0_lt_f q) k
theorem o_ifge (pt pf : Nat) (W : Wk p l e R s m args below meth c Z y bytes maxL ret T h ce sl sf) {x : Int32} {o : Int} (hd : decode bytes pc = .ok (.ifCond .ge o, 3)) (K1 : ¬ x < 0 → Go p e below G T (mkF m pt L S)) (K2 : x < 0 → Go p e below G T (mkF m pf L S)) (ho : 0 ≤ (pc : Int) + o := by decide) (hp : ((pc : Int) + o).toNat = pt := by decide) (hq : pc + 3 = pf := by rfl) : Go p e below G T (mkF m pc L (.int x :: S)) := by
  subst hq
  obtain ⟨vm0, k0, locs, X, eT, hS, hk, hZ, hown, hF, hN, hC, hsf, hE, ⟨a1, hEL⟩, hx, hby, hml, hnm, hrt, hlk⟩ := W
  subst hby
  by_cases q : x < 0
  · exact (K2 q).st fun u k => XS.ifNo X.here hx rfl hd rfl (XT.i0_ge_f q) k
  · exact (K1 q).st fun u k => XS.ifYes X.here hx rfl (pc0 := pc) rfl hd rfl (XT.i0_ge_t q) ho hp k
theorem o_ifgt (pt pf : Nat) (W : Wk p l e R s m args below meth c Z y bytes maxL ret T h ce sl sf) {x : Int32} {o : Int} (hd : decode bytes pc = .ok (.ifCond .gt o, 3)) (K1 : 0 < x → Go p e below G T (mkF m pt L S)) (K2 : ¬ 0 < x → Go p e below G T (mkF m pf L S)) (ho : 0 ≤ (pc : Int) + o := by decide) (hp : ((pc : Int) + o).toNat = pt := by decide) (hq : pc + 3 = pf := by rfl) : Go p e below G T (mkF m pc L (.int x :: S)) := by
  subst hq
  obtain ⟨vm0, k0, locs, X, eT, hS, hk, hZ, hown, hF, hN, hC, hsf, hE, ⟨a1, hEL⟩, hx, hby, hml, hnm, hrt, hlk⟩ := W
  subst hby
  by_cases q : 0 < x
  · exact (K1 q).st fun u k => XS.ifYes X.here hx rfl (pc0 := pc) rfl hd rfl (XT.i0_gt_t q) ho hp k
  · exact (K2 q).st fun u k => XS.ifNo X.here hx rfl hd rfl (XT.i0_gt_f q) k
theorem o_ifle (pt pf : Nat) (W : Wk p l e R s m args below meth c Z y bytes maxL ret T h ce sl sf) {x : Int32} {o : Int} (hd : decode bytes pc = .ok (.ifCond .le o, 3)) (K1 : ¬ 0 < x → Go p e below G T (mkF m pt L S)) (K2 : 0 < x → Go p e below G T (mkF m pf L S)) (ho : 0 ≤ (pc : Int) + o := by decide) (hp : ((pc : Int) + o).toNat = pt := by decide) (hq : pc + 3 = pf := by rfl) : Go p e below G T (mkF m pc L (.int x :: S)) := by
  subst hq
  obtain ⟨vm0, k0, locs, X, eT, hS, hk, hZ, hown, hF, hN, hC, hsf, hE, ⟨a1, hEL⟩, hx, hby, hml, hnm, hrt, hlk⟩ := W
  subst hby
  by_cases q : 0 < x
  · exact (K2 q).st fun u k => XS.ifNo X.here hx rfl hd rfl (XT.i0_le_f q) k
  · exact (K1 q).st fun u k => XS.ifYes X.here hx rfl (pc0 := pc) rfl hd rfl (XT.i0_le_t q) ho hp k
theorem o_iceq (pt pf : Nat) (W : Wk p l e R s m args below meth c Z y bytes maxL ret T h ce sl sf) {x z : Int32} {o : Int} (hd : decode bytes pc = .ok (.if_icmp .eq o, 3)) (K1 : x = z → Go p e below G T (mkF m pt L S)) (K2 : ¬ x = z → Go p e below G T (mkF m pf L S)) (ho : 0 ≤ (pc : Int) + o := by decide) (hp : ((pc : Int) + o).toNat = pt := by decide) (hq : pc + 3 = pf := by rfl) : Go p e below G T (mkF m pc L (.int z :: .int x :: S)) := by
  subst hq
  obtain ⟨vm0, k0, locs, X, eT, hS, hk, hZ, hown, hF, hN, hC, hsf, hE, ⟨a1, hEL⟩, hx, hby, hml, hnm, hrt, hlk⟩ := W
  subst hby
  by_cases q : x = z
  · exact (K1 q).st fun u k => XS.icmpYes X.here hx rfl (pc0 := pc) rfl hd rfl (XT.ii_eq_t q) ho hp k
  · exact (K2 q).st fun u k => XS.icmpNo X.here hx rfl hd rfl (XT.ii_eq_f q) k
theorem o_icne (pt pf : Nat) (W : Wk p l e R s m args below meth c Z y bytes maxL ret T h ce sl sf) {x z : Int32} {o : Int} (hd : decode bytes pc = .ok (.if_icmp .ne o, 3)) (K1 : ¬ x = z → Go p e below G T (mkF m pt L S)) (K2 : x = z → Go p e below G T (mkF m pf L S)) (ho : 0 ≤ (pc : Int) + o := by decide) (hp : ((pc : Int) + o).toNat = pt := by decide) (hq : pc + 3 = pf := by rfl) : Go p e below G T (mkF m pc L (.int z :: .int x :: S)) := by
  subst hq
  obtain ⟨vm0, k0, locs, X, eT, hS, hk, hZ, hown, hF, hN, hC, hsf, hE, ⟨a1, hEL⟩, hx, hby, hml, hnm, hrt, hlk⟩ := W
  subst hby
  by_cases q : x = z
  · exact (K2 q).st fun u k => XS.icmpNo X.here hx rfl hd rfl (XT.ii_ne_f q) k
  · exact (K1 q).st fun u k => XS.icmpYes X.here hx rfl (pc0 := pc) rfl hd rfl (XT.ii_ne_t q) ho hp k
theorem o_iclt (pt pf : Nat) (W : Wk p l e R s m args below meth c Z y bytes maxL ret T h ce sl sf) {x z : Int32} {o : Int} (hd : decode bytes pc = .ok (.if_icmp .lt o, 3)) (K1 : x < z → Go p e below G T (mkF m pt L S)) (K2 : ¬ x < z → Go p e below G T (mkF m pf L S)) (ho : 0 ≤ (pc : Int) + o := by decide) (hp : ((pc : Int) + o).toNat = pt := by decide) (hq : pc + 3 = pf := by rfl) : Go p e below G T (mkF m pc L (.int z :: .int x :: S)) := by
  subst hq
  obtain ⟨vm0, k0, locs, X, eT, hS, hk, hZ, hown, hF, hN, hC, hsf, hE, ⟨a1, hEL⟩, hx, hby, hml, hnm, hrt, hlk⟩ := W
  subst hby
  by_cases q : x < z
  · exact (K1 q).st fun u k => XS.icmpYes X.here hx rfl (pc0 := pc) rfl hd rfl (XT.ii_lt_t q) ho hp k
  · exact (K2 q).st fun u k => XS.icmpNo X.here hx rfl hd rfl (XT.ii_lt_f q) k
theorem o_icge (pt pf : Nat) (W : Wk p l e R s m args below meth c Z y bytes maxL ret T h ce sl sf) {x z : Int32} {o : Int} (hd : decode bytes pc = .ok (.if_icmp .ge o, 3)) (K1 : ¬ x < z → Go p e below G T (mkF m pt L S)) (K2 : x < z → Go p e below G T (mkF m pf L S)) (ho : 0 ≤ (pc : Int) + o := by decide) (hp : ((pc : Int) + o).toNat = pt := by decide) (hq : pc + 3 = pf := by rfl) : Go p e below G T (mkF m pc L (.int z :: .int x :: S)) := by
  subst hq
  obtain ⟨vm0, k0, locs, X, eT, hS, hk, hZ, hown, hF, hN, hC, hsf, hE, ⟨a1, hEL⟩, hx, hby, hml, hnm, hrt, hlk⟩ := W
  subst hby
  by_cases q : x < z
  · exact (K2 q).st fun u k => XS.icmpNo X.here hx rfl hd rfl (XT.ii_ge_f q) k
  · exact (K1 q).st fun u k => XS.icmpYes X.here hx rfl (pc0 := pc) rfl hd rfl (XT.ii_ge_t q) ho hp k
theorem o_icgt (pt pf : Nat) (W : Wk p l e R s m args below meth c Z y bytes maxL ret T h ce sl sf) {x z : Int32} {o : Int} (hd : decode bytes pc = .ok (.if_icmp .gt o, 3)) (K1 : z < x → Go p e below G T (mkF m pt L S)) (K2 : ¬ z < x → Go p e below G T (mkF m pf L S)) (ho : 0 ≤ (pc : Int) + o := by decide) (hp : ((pc : Int) + o).toNat = pt := by decide) (hq : pc + 3 = pf := by rfl) : Go p e below G T (mkF m pc L (.int z :: .int x :: S)) := by
  subst hq
  obtain ⟨vm0, k0, locs, X, eT, hS, hk, hZ, hown, hF, hN, hC, hsf, hE, ⟨a1, hEL⟩, hx, hby, hml, hnm, hrt, hlk⟩ := W
  subst hby
  by_cases q : z < x
  · exact (K1 q).st fun u k => XS.icmpYes X.here hx rfl (pc0 := pc) rfl hd rfl (XT.ii_gt_t q) ho hp k
  · exact (K2 q).st fun u k => XS.icmpNo X.here hx rfl hd rfl (XT.ii_gt_f q) k
theorem o_icle (pt pf : Nat) (W : Wk p l e R s m args below meth c Z y bytes maxL ret T h ce sl sf) {x z : Int32} {o : Int} (hd : decode bytes pc = .ok (.if_icmp .le o, 3)) (K1 : ¬ z < x → Go p e below G T (mkF m pt L S)) (K2 : z < x → Go p e below G T (mkF m pf L S)) (ho : 0 ≤ (pc : Int) + o := by decide) (hp : ((pc : Int) + o).toNat = pt := by decide) (hq : pc + 3 = pf := by rfl) : Go p e below G T (mkF m pc L (.int z :: .int x :: S)) := by
  subst hq
  obtain ⟨vm0, k0, locs, X, eT, hS, hk, hZ, hown, hF, hN, hC, hsf, hE, ⟨a1, hEL⟩, hx, hby, hml, hnm, hrt, hlk⟩ := W
  subst hby
  by_cases q : z < x
  · exact (K2 q).st fun u k => XS.icmpNo X.here hx rfl hd rfl (XT.ii_le_f q) k
  · exact (K1 q).st fun u k => XS.icmpYes X.here hx rfl (pc0 := pc) rfl hd rfl (XT.ii_le_t q) ho hp k
theorem o_lceq (pt pf : Nat) (W : Wk p l e R s m args below meth c Z y bytes maxL ret T h ce sl sf) {x z : Int64} {o : Int} (hd : decode bytes pc = .ok (.ifCond .eq o, 3)) (K1 : x = z → Go p e below G T (mkF m pt L S)) (K2 : ¬ x = z → Go p e below G T (mkF m pf L S)) (ho : 0 ≤ (pc : Int) + o := by decide) (hp : ((pc : Int) + o).toNat = pt := by decide) (hq : pc + 3 = pf := by rfl) : Go p e below G T (mkF m pc L (.int (XT.cmpL x z) :: S)) := by
  subst hq
  obtain ⟨vm0, k0, locs, X, eT, hS, hk, hZ, hown, hF, hN, hC, hsf, hE, ⟨a1, hEL⟩, hx, hby, hml, hnm, hrt, hlk⟩ := W
  subst hby
  by_cases q : x = z
  · exact (K1 q).st fun u k => XS.ifYes X.here hx rfl (pc0 := pc) rfl hd rfl (XT.ll_eq_t q) ho hp k
  · exact (K2 q).st fun u k => XS.ifNo X.here hx rfl hd rfl (XT.ll_eq_f q) k
theorem o_lcne (pt pf : Nat) (W : Wk p l e R s m args below meth c Z y bytes maxL ret T h ce sl sf) {x z : Int64} {o : Int} (hd : decode bytes pc = .ok (.ifCond .ne o, 3)) (K1 : ¬ x = z → Go p e below G T (mkF m pt L S)) (K2 : x = z → Go p e below G T (mkF m pf L S)) (ho : 0 ≤ (pc : Int) + o := by decide) (hp : ((pc : Int) + o).toNat = pt := by decide) (hq : pc + 3 = pf := by rfl) : Go p e below G T (mkF m pc L (.int (XT.cmpL x z) :: S)) := by
  subst hq
  obtain ⟨vm0, k0, locs, X, eT, hS, hk, hZ, hown, hF, hN, hC, hsf, hE, ⟨a1, hEL⟩, hx, hby, hml, hnm, hrt, hlk⟩ := W
  subst hby
  by_cases q : x = z
  · exact (K2 q).st fun u k => XS.ifNo X.here hx rfl hd rfl (XT.ll_ne_f q) k
  · exact (K1 q).st fun u k => XS.ifYes X.here hx rfl (pc0 := pc) rfl hd rfl (XT.ll_ne_t q) ho hp k
theorem o_lclt (pt pf : Nat) (W : Wk p l e R s m args below meth c Z y bytes maxL ret T h ce sl sf) {x z : Int64} {o : Int} (hd : decode bytes pc = .ok (.ifCond .lt o, 3)) (K1 : x < z → Go p e below G T (mkF m pt L S)) (K2 : ¬ x < z → Go p e below G T (mkF m pf L S)) (ho : 0 ≤ (pc : Int) + o := by decide) (hp : ((pc : Int) + o).toNat = pt := by decide) (hq : pc + 3 = pf := by rfl) : Go p e below G T (mkF m pc L (.int (XT.cmpL x z) :: S)) := by
  subst hq
  obtain ⟨vm0, k0, locs, X, eT, hS, hk, hZ, hown, hF, hN, hC, hsf, hE, ⟨a1, hEL⟩, hx, hby, hml, hnm, hrt, hlk⟩ := W
  subst hby
  by_cases q : x < z
  · exact (K1 q).st fun u k => XS.ifYes X.here hx rfl (pc0 := pc) rfl hd rfl (XT.ll_lt_t q) ho hp k
  · exact (K2 q).st fun u k => XS.ifNo X.here hx rfl hd rfl (XT.ll_lt_f q) k
theorem o_lcge (pt pf : Nat) (W : Wk p l e R s m args below meth c Z y bytes maxL ret T h ce sl sf) {x z : Int64} {o : Int} (hd : decode bytes pc = .ok (.ifCond .ge o, 3)) (K1 : ¬ x < z → Go p e below G T (mkF m pt L S)) (K2 : x < z → Go p e below G T (mkF m pf L S)) (ho : 0 ≤ (pc : Int) + o := by decide) (hp : ((pc : Int) + o).toNat = pt := by decide) (hq : pc + 3 = pf := by rfl) : Go p e below G T (mkF m pc L (.int (XT.cmpL x z) :: S)) := by
  subst hq
  obtain ⟨vm0, k0, locs, X, eT, hS, hk, hZ, hown, hF, hN, hC, hsf, hE, ⟨a1, hEL⟩, hx, hby, hml, hnm, hrt, hlk⟩ := W
  subst hby
  by_cases q : x < z
  · exact (K2 q).st fun u k => XS.ifNo X.here hx rfl hd rfl (XT.ll_ge_f q) k
  · exact (K1 q).st fun u k => XS.ifYes X.here hx rfl (pc0 := pc) rfl hd rfl (XT.ll_ge_t q) ho hp k
theorem o_lcgt (pt pf : Nat) (W : Wk p l e R s m args below meth c Z y bytes maxL ret T h ce sl sf) {x z : Int64} {o : Int} (hd : decode bytes pc = .ok (.ifCond .gt o, 3)) (K1 : z < x → Go p e below G T (mkF m pt L S)) (K2 : ¬ z < x → Go p e below G T (mkF m pf L S)) (ho : 0 ≤ (pc : Int) + o := by decide) (hp : ((pc : Int) + o).toNat = pt := by decide) (hq : pc + 3 = pf := by rfl) : Go p e below G T (mkF m pc L (.int (XT.cmpL x z) :: S)) := by
  subst hq
  obtain ⟨vm0, k0, locs, X, eT, hS, hk, hZ, hown, hF, hN, hC, hsf, hE, ⟨a1, hEL⟩, hx, hby, hml, hnm, hrt, hlk⟩ := W
  subst hby
  by_cases q : z < x
  · exact (K1 q).st fun u k => XS.ifYes X.here hx rfl (pc0 := pc) rfl hd rfl (XT.ll_gt_t q) ho hp k
  · exact (K2 q).st fun u k => XS.ifNo X.here hx rfl hd rfl (XT.ll_gt_f q) k
theorem o_lcle (pt pf : Nat) (W : Wk p l e R s m args below meth c Z y bytes maxL ret T h ce sl sf) {x z : Int64} {o : Int} (hd : decode bytes pc = .ok (.ifCond .le o, 3)) (K1 : ¬ z < x → Go p e below G T (mkF m pt L S)) (K2 : z < x → Go p e below G T (mkF m pf L S)) (ho : 0 ≤ (pc : Int) + o := by decide) (hp : ((pc : Int) + o).toNat = pt := by decide) (hq : pc + 3 = pf := by rfl) : Go p e below G T (mkF m pc L (.int (XT.cmpL x z) :: S)) := by
  subst hq
  obtain ⟨vm0, k0, locs, X, eT, hS, hk, hZ, hown, hF, hN, hC, hsf, hE, ⟨a1, hEL⟩, hx, hby, hml, hnm, hrt, hlk⟩ := W
  subst hby
  by_cases q : z < x
  · exact (K2 q).st fun u k => XS.ifNo X.here hx rfl hd rfl (XT.ll_le_f q) k
  · exact (K1 q).st fun u k => XS.ifYes X.here hx rfl (pc0 := pc) rfl hd rfl (XT.ll_le_t q) ho hp k
theorem o_ifY (pc' : Nat) (W : Wk p l e R s m args below meth c Z y bytes maxL ret T h ce sl sf) {cd : ClassFile.Cond} {x : Int32} {o : Int} (hd : decode bytes pc = .ok (.ifCond cd o, 3)) (hc : ifCond.holds cd x = true) (K : Go p e below G T (mkF m pc' L (S))) (ho : 0 ≤ (pc : Int) + o := by decide) (hp : ((pc : Int) + o).toNat = pc' := by decide) : Go p e below G T (mkF m pc L (.int x :: S)) := by
  obtain ⟨vm0, k0, locs, X, eT, hS, hk, hZ, hown, hF, hN, hC, hsf, hE, ⟨a1, hEL⟩, hx, hby, hml, hnm, hrt, hlk⟩ := W
  subst hby
  exact K.st fun u k => XS.ifYes X.here hx rfl (pc0 := pc) rfl hd rfl hc ho hp k
theorem o_ifN (pc' : Nat) (W : Wk p l e R s m args below meth c Z y bytes maxL ret T h ce sl sf) {cd : ClassFile.Cond} {o : Int} {x : Int32} (hd : decode bytes pc = .ok (.ifCond cd o, 3)) (hc : ifCond.holds cd x = false) (K : Go p e below G T (mkF m pc' L (S))) (hp : pc + 3 = pc' := by rfl) : Go p e below G T (mkF m pc L (.int x :: S)) := by
  subst hp
  obtain ⟨vm0, k0, locs, X, eT, hS, hk, hZ, hown, hF, hN, hC, hsf, hE, ⟨a1, hEL⟩, hx, hby, hml, hnm, hrt, hlk⟩ := W
  subst hby
  exact K.st fun u k => XS.ifNo X.here hx rfl hd rfl hc k
theorem o_icY (pc' : Nat) (W : Wk p l e R s m args below meth c Z y bytes maxL ret T h ce sl sf) {cd : ClassFile.Cond} {x z : Int32} {o : Int} (hd : decode bytes pc = .ok (.if_icmp cd o, 3)) (hc : if_icmp.holds cd x z = true) (K : Go p e below G T (mkF m pc' L (S))) (ho : 0 ≤ (pc : Int) + o := by decide) (hp : ((pc : Int) + o).toNat = pc' := by decide) : Go p e below G T (mkF m pc L (.int z :: .int x :: S)) := by
  obtain ⟨vm0, k0, locs, X, eT, hS, hk, hZ, hown, hF, hN, hC, hsf, hE, ⟨a1, hEL⟩, hx, hby, hml, hnm, hrt, hlk⟩ := W
  subst hby
  exact K.st fun u k => XS.icmpYes X.here hx rfl (pc0 := pc) rfl hd rfl hc ho hp k
theorem o_icN (pc' : Nat) (W : Wk p l e R s m args below meth c Z y bytes maxL ret T h ce sl sf) {cd : ClassFile.Cond} {o : Int} {x z : Int32} (hd : decode bytes pc = .ok (.if_icmp cd o, 3)) (hc : if_icmp.holds cd x z = false) (K : Go p e below G T (mkF m pc' L (S))) (hp : pc + 3 = pc' := by rfl) : Go p e below G T (mkF m pc L (.int z :: .int x :: S)) := by
  subst hp
  obtain ⟨vm0, k0, locs, X, eT, hS, hk, hZ, hown, hF, hN, hC, hsf, hE, ⟨a1, hEL⟩, hx, hby, hml, hnm, hrt, hlk⟩ := W
  subst hby
  exact K.st fun u k => XS.icmpNo X.here hx rfl hd rfl hc k
theorem o_nullY (pc' : Nat) (W : Wk p l e R s m args below meth c Z y bytes maxL ret T h ce sl sf)  {o : Int} (hd : decode bytes pc = .ok (.ifnull o, 3))  (K : Go p e below G T (mkF m pc' L (S))) (ho : 0 ≤ (pc : Int) + o := by decide) (hp : ((pc : Int) + o).toNat = pc' := by decide) : Go p e below G T (mkF m pc L (.null :: S)) := by
  obtain ⟨vm0, k0, locs, X, eT, hS, hk, hZ, hown, hF, hN, hC, hsf, hE, ⟨a1, hEL⟩, hx, hby, hml, hnm, hrt, hlk⟩ := W
  subst hby
  exact K.st fun u k => XS.ifnullYes X.here hx rfl (pc0 := pc) rfl hd rfl ho hp k
theorem o_nullN (pc' : Nat) (W : Wk p l e R s m args below meth c Z y bytes maxL ret T h ce sl sf) {o : Int} {a : Addr} (hd : decode bytes pc = .ok (.ifnull o, 3))  (K : Go p e below G T (mkF m pc' L (S))) (hp : pc + 3 = pc' := by rfl) : Go p e below G T (mkF m pc L (.ref a :: S)) := by
  subst hp
  obtain ⟨vm0, k0, locs, X, eT, hS, hk, hZ, hown, hF, hN, hC, hsf, hE, ⟨a1, hEL⟩, hx, hby, hml, hnm, hrt, hlk⟩ := W
  subst hby
  exact K.st fun u k => XS.ifnullNo X.here hx rfl hd rfl k
theorem o_nnY (pc' : Nat) (W : Wk p l e R s m args below meth c Z y bytes maxL ret T h ce sl sf) {a : Addr} {o : Int} (hd : decode bytes pc = .ok (.ifnonnull o, 3))  (K : Go p e below G T (mkF m pc' L (S))) (ho : 0 ≤ (pc : Int) + o := by decide) (hp : ((pc : Int) + o).toNat = pc' := by decide) : Go p e below G T (mkF m pc L (.ref a :: S)) := by
  obtain ⟨vm0, k0, locs, X, eT, hS, hk, hZ, hown, hF, hN, hC, hsf, hE, ⟨a1, hEL⟩, hx, hby, hml, hnm, hrt, hlk⟩ := W
  subst hby
  exact K.st fun u k => XT.ifnonnullYes X.here hx rfl (pc0 := pc) rfl hd rfl ho hp k
theorem o_nnN (pc' : Nat) (W : Wk p l e R s m args below meth c Z y bytes maxL ret T h ce sl sf) {o : Int} (hd : decode bytes pc = .ok (.ifnonnull o, 3))  (K : Go p e below G T (mkF m pc' L (S))) (hp : pc + 3 = pc' := by rfl) : Go p e below G T (mkF m pc L (.null :: S)) := by
  subst hp
  obtain ⟨vm0, k0, locs, X, eT, hS, hk, hZ, hown, hF, hN, hC, hsf, hE, ⟨a1, hEL⟩, hx, hby, hml, hnm, hrt, hlk⟩ := W
  subst hby
  exact K.st fun u k => XT.ifnonnullNo X.here hx rfl hd rfl k
theorem o_aceq (pt pf : Nat) (W : Wk p l e R s m args below meth c Z y bytes maxL ret T h ce sl sf) {x z : Value} (h1 : x.isRef = true) (h2 : z.isRef = true) {o : Int} (hd : decode bytes pc = .ok (.if_acmp .eq o, 3)) (K1 : x = z → Go p e below G T (mkF m pt L S)) (K2 : ¬ x = z → Go p e below G T (mkF m pf L S)) (ho : 0 ≤ (pc : Int) + o := by decide) (hp : ((pc : Int) + o).toNat = pt := by decide) (hq : pc + 3 = pf := by rfl) : Go p e below G T (mkF m pc L (z :: x :: S)) := by
  subst hq hp
  obtain ⟨vm0, k0, locs, X, eT, hS, hk, hZ, hown, hF, hN, hC, hsf, hE, ⟨a1, hEL⟩, hx, hby, hml, hnm, hrt, hlk⟩ := W
  subst hby
  by_cases q : x = z
  · exact (K1 q).st fun u k => acmp X hx (g := mkF m pc L (z :: x :: S)) rfl h1 h2 (same := true) rfl hd rfl (by simp [q]) ho (by rfl) k
  · exact (K2 q).st fun u k => acmp X hx (g := mkF m pc L (z :: x :: S)) rfl h1 h2 (same := false) rfl hd rfl (by simp [q]) ho (by rfl) k
theorem o_acne (pt pf : Nat) (W : Wk p l e R s m args below meth c Z y bytes maxL ret T h ce sl sf) {x z : Value} (h1 : x.isRef = true) (h2 : z.isRef = true) {o : Int} (hd : decode bytes pc = .ok (.if_acmp .ne o, 3)) (K1 : ¬ x = z → Go p e below G T (mkF m pt L S)) (K2 : x = z → Go p e below G T (mkF m pf L S)) (ho : 0 ≤ (pc : Int) + o := by decide) (hp : ((pc : Int) + o).toNat = pt := by decide) (hq : pc + 3 = pf := by rfl) : Go p e below G T (mkF m pc L (z :: x :: S)) := by
  subst hq hp
  obtain ⟨vm0, k0, locs, X, eT, hS, hk, hZ, hown, hF, hN, hC, hsf, hE, ⟨a1, hEL⟩, hx, hby, hml, hnm, hrt, hlk⟩ := W
  subst hby
  by_cases q : x = z
  · exact (K2 q).st fun u k => acmp X hx (g := mkF m pc L (z :: x :: S)) rfl h1 h2 (same := true) rfl hd rfl (by simp [q]) ho (by rfl) k
  · exact (K1 q).st fun u k => acmp X hx (g := mkF m pc L (z :: x :: S)) rfl h1 h2 (same := false) rfl hd rfl (by simp [q]) ho (by rfl) k
theorem o_ldcI (pc' : Nat) (W : Wk p l e R s m args below meth c Z y bytes maxL ret T h ce sl sf) {i : Nat} {v : Int32} (w : (Jvm.Cond.constant y.cls i v).before a0 Z = true) (hd : decode bytes pc = .ok (.ldc i, 2)) (K : Go p e below G T (mkF m pc' L (.int v :: S))) (hp : pc + 2 = pc' := by rfl) : Go p e below G T (mkF m pc L S) := by
  subst hp
  obtain ⟨vm0, k0, locs, X, eT, hS, hk, hZ, hown, hF, hN, hC, hsf, hE, ⟨a1, hEL⟩, hx, hby, hml, hnm, hrt, hlk⟩ := W
  subst hby
  exact K.st fun u k => X.ldcI hx hown (mv hZ w) (g := mkF m pc L S) rfl hd k
theorem o_ldc2J (pc' : Nat) (W : Wk p l e R s m args below meth c Z y bytes maxL ret T h ce sl sf) {i : Nat} {v : Int64} (w : (Jvm.Cond.constantLong y.cls i v).before a0 Z = true) (hd : decode bytes pc = .ok (.ldc2_w i, 3)) (K : Go p e below G T (mkF m pc' L (.long v :: S))) (hp : pc + 3 = pc' := by rfl) : Go p e below G T (mkF m pc L S) := by
  subst hp
  obtain ⟨vm0, k0, locs, X, eT, hS, hk, hZ, hown, hF, hN, hC, hsf, hE, ⟨a1, hEL⟩, hx, hby, hml, hnm, hrt, hlk⟩ := W
  subst hby
  exact K.st fun u k => X.ldc2J hx hown (mv hZ w) (g := mkF m pc L S) rfl hd k
theorem o_getF (pc' : Nat) (W : Wk p l e R s m args below meth c Z y bytes maxL ret T h ce sl sf) {i : Nat} {R0 O n d : String} {a : Addr} {v : Value} (w : (Jvm.Cond.fieldLink y.cls i R0 n d).before a0 Z = true) (F : Fld Z h a O n d v) (hd : decode bytes pc = .ok (.getfield i, 3)) (K : ∀ T', Wk p l e R s m args below meth c Z y bytes maxL ret T' h ce sl sf → Go p e below G T' (mkF m pc' L (v :: S))) (via : Via Z R0 O n d := by exact Via.refl) (hp : pc + 3 = pc' := by rfl) : Go p e below G T (mkF m pc L (.ref a :: S)) := by
  subst hp
  obtain ⟨vm0, k0, locs, X, eT, hS, hk, hZ, hown, hF, hN, hC, hsf, hE, ⟨a1, hEL⟩, hx, hby, hml, hnm, hrt, hlk⟩ := W
  subst hby
  obtain ⟨T', X', e', st⟩ := getF X hx hZ hown (host := "") (Or.inl w) via eT F (g := mkF m pc L (.ref a :: S)) rfl rfl hd
  exact (K T' ⟨vm0, k0, locs, X', e', hS, hk, hZ, hown, hF, hN, hC, hsf, hE, ⟨a1, hEL⟩, hx, rfl, hml, hnm, hrt, hlk⟩).st st
theorem o_getS (pc' : Nat) (W : Wk p l e R s m args below meth c Z y bytes maxL ret T h ce sl sf) {i : Nat} {R0 O n d : String} {v : Value} (w : (Jvm.Cond.fieldLink y.cls i R0 n d).before a0 Z = true) (F : Sta Z Z.heap O n d v) (hd : decode bytes pc = .ok (.getstatic i, 3)) (K : ∀ T', Wk p l e R s m args below meth c Z y bytes maxL ret T' h ce sl sf → Go p e below G T' (mkF m pc' L (v :: S))) (via : Via Z R0 O n d := by exact Via.refl) (hp : pc + 3 = pc' := by rfl) : Go p e below G T (mkF m pc L S) := by
  subst hp
  obtain ⟨vm0, k0, locs, X, eT, hS, hk, hZ, hown, hF, hN, hC, hsf, hE, ⟨a1, hEL⟩, hx, hby, hml, hnm, hrt, hlk⟩ := W
  subst hby
  obtain ⟨T', X', e', st⟩ := getS X hx hZ hown w via eT (Sta.ext hE F) (g := mkF m pc L S) rfl hd (host := "")
  exact (K T' ⟨vm0, k0, locs, X', e', hS, hk, hZ, hown, hF, hN, hC, hsf, hE, ⟨a1, hEL⟩, hx, rfl, hml, hnm, hrt, hlk⟩).st st
theorem o_cast (pc' : Nat) (W : Wk p l e R s m args below meth c Z y bytes maxL ret T h ce sl sf) {i : Nat} {K0 : String} {a : Addr} (w : (Jvm.Cond.classLink y.cls i K0).before a0 Z = true) (F : Ins Z h a K0 true) (hd : decode bytes pc = .ok (.checkcast i, 3)) (K : ∀ T', Wk p l e R s m args below meth c Z y bytes maxL ret T' h ce sl sf → Go p e below G T' (mkF m pc' L (.ref a :: S))) (hp : pc + 3 = pc' := by rfl) : Go p e below G T (mkF m pc L (.ref a :: S)) := by
  subst hp
  obtain ⟨vm0, k0, locs, X, eT, hS, hk, hZ, hown, hF, hN, hC, hsf, hE, ⟨a1, hEL⟩, hx, hby, hml, hnm, hrt, hlk⟩ := W
  subst hby
  obtain ⟨T', X', e', st⟩ := castY X hx hZ hown w eT F (g := mkF m pc L (.ref a :: S)) rfl rfl hd
  exact (K T' ⟨vm0, k0, locs, X', e', hS, hk, hZ, hown, hF, hN, hC, hsf, hE, ⟨a1, hEL⟩, hx, rfl, hml, hnm, hrt, hlk⟩).st st
theorem o_instY (pc' : Nat) (W : Wk p l e R s m args below meth c Z y bytes maxL ret T h ce sl sf) {i : Nat} {K0 : String} {a : Addr} (w : (Jvm.Cond.classLink y.cls i K0).before a0 Z = true) (F : Ins Z h a K0 true) (hd : decode bytes pc = .ok (.instanceof i, 3)) (K : ∀ T', Wk p l e R s m args below meth c Z y bytes maxL ret T' h ce sl sf → Go p e below G T' (mkF m pc' L (.int 1 :: S))) (hp : pc + 3 = pc' := by rfl) : Go p e below G T (mkF m pc L (.ref a :: S)) := by
  subst hp
  obtain ⟨vm0, k0, locs, X, eT, hS, hk, hZ, hown, hF, hN, hC, hsf, hE, ⟨a1, hEL⟩, hx, hby, hml, hnm, hrt, hlk⟩ := W
  subst hby
  obtain ⟨T', X', e', st⟩ := instY X hx hZ hown w eT F (g := mkF m pc L (.ref a :: S)) rfl rfl hd
  exact (K T' ⟨vm0, k0, locs, X', e', hS, hk, hZ, hown, hF, hN, hC, hsf, hE, ⟨a1, hEL⟩, hx, rfl, hml, hnm, hrt, hlk⟩).st st
theorem o_instN (pc' : Nat) (W : Wk p l e R s m args below meth c Z y bytes maxL ret T h ce sl sf) {i : Nat} {K0 C : String} {a : Addr} (w : (Jvm.Cond.classLink y.cls i K0).before a0 Z = true) (E : Exa Z h a C) (F : ∃ c t, Z.vm.findClass C = some c ∧ Z.vm.findClass K0 = some t ∧ Z.vm.assignable c t = false) (hd : decode bytes pc = .ok (.instanceof i, 3)) (K : ∀ T', Wk p l e R s m args below meth c Z y bytes maxL ret T' h ce sl sf → Go p e below G T' (mkF m pc' L (.int 0 :: S))) (hp : pc + 3 = pc' := by rfl) : Go p e below G T (mkF m pc L (.ref a :: S)) := by
  subst hp
  obtain ⟨vm0, k0, locs, X, eT, hS, hk, hZ, hown, hF, hN, hC, hsf, hE, ⟨a1, hEL⟩, hx, hby, hml, hnm, hrt, hlk⟩ := W
  subst hby
  obtain ⟨T', X', e', st⟩ := instNo X hx hZ hown w eT E F (g := mkF m pc L (.ref a :: S)) rfl rfl hd
  exact (K T' ⟨vm0, k0, locs, X', e', hS, hk, hZ, hown, hF, hN, hC, hsf, hE, ⟨a1, hEL⟩, hx, rfl, hml, hnm, hrt, hlk⟩).st st
theorem o_instNull (pc' : Nat) (W : Wk p l e R s m args below meth c Z y bytes maxL ret T h ce sl sf) {i : Nat} (hd : decode bytes pc = .ok (.instanceof i, 3)) (K : Go p e below G T (mkF m pc' L (.int 0 :: S))) (hp : pc + 3 = pc' := by rfl) : Go p e below G T (mkF m pc L (.null :: S)) := by
  subst hp
  obtain ⟨vm0, k0, locs, X, eT, hS, hk, hZ, hown, hF, hN, hC, hsf, hE, ⟨a1, hEL⟩, hx, hby, hml, hnm, hrt, hlk⟩ := W
  subst hby
  exact K.st fun u k => X.instanceofNull hx (g := mkF m pc L (.null :: S)) rfl rfl hd u k
theorem o_castNull (pc' : Nat) (W : Wk p l e R s m args below meth c Z y bytes maxL ret T h ce sl sf) {i : Nat} (hd : decode bytes pc = .ok (.checkcast i, 3)) (K : Go p e below G T (mkF m pc' L (.null :: S))) (hp : pc + 3 = pc' := by rfl) : Go p e below G T (mkF m pc L (.null :: S)) := by
  subst hp
  obtain ⟨vm0, k0, locs, X, eT, hS, hk, hZ, hown, hF, hN, hC, hsf, hE, ⟨a1, hEL⟩, hx, hby, hml, hnm, hrt, hlk⟩ := W
  subst hby
  exact K.st fun u k => X.checkcastNull hx (g := mkF m pc L (.null :: S)) rfl rfl hd u k
theorem o_iaload (pc' : Nat) (W : Wk p l e R s m args below meth c Z y bytes maxL ret T h ce sl sf) {a : Addr} {cl : Cell} {j : Int32} {v : Value} (A : Arr Z h a cl .int) (hj : ¬ (j < 0 ∨ cl.slots.size ≤ j.toNatClampNeg)) (hv : cl.slots[j.toNatClampNeg]? = some v) (hd : decode bytes pc = .ok (.iaload, 1)) (K : Go p e below G T (mkF m pc' L (v :: S))) (hp : pc + 1 = pc' := by rfl) : Go p e below G T (mkF m pc L (.int j :: .ref a :: S)) := by
  subst hp
  obtain ⟨vm0, k0, locs, X, eT, hS, hk, hZ, hown, hF, hN, hC, hsf, hE, ⟨a1, hEL⟩, hx, hby, hml, hnm, hrt, hlk⟩ := W
  subst hby
  exact K.st fun u k => X.iaload hx (by rw [eT]; exact A.1) (State.isArrayOf_alike hZ.alike A.2.1) A.2.2 hj hv (g := mkF m pc L (.int j :: .ref a :: S)) rfl rfl hd u k
theorem o_caload (pc' : Nat) (W : Wk p l e R s m args below meth c Z y bytes maxL ret T h ce sl sf) {a : Addr} {cl : Cell} {j : Int32} {v : Value} (A : Arr Z h a cl .char) (hj : ¬ (j < 0 ∨ cl.slots.size ≤ j.toNatClampNeg)) (hv : cl.slots[j.toNatClampNeg]? = some v) (hd : decode bytes pc = .ok (.caload, 1)) (K : Go p e below G T (mkF m pc' L (v :: S))) (hp : pc + 1 = pc' := by rfl) : Go p e below G T (mkF m pc L (.int j :: .ref a :: S)) := by
  subst hp
  obtain ⟨vm0, k0, locs, X, eT, hS, hk, hZ, hown, hF, hN, hC, hsf, hE, ⟨a1, hEL⟩, hx, hby, hml, hnm, hrt, hlk⟩ := W
  subst hby
  exact K.st fun u k => X.caload hx (by rw [eT]; exact A.1) (State.isArrayOf_alike hZ.alike A.2.1) A.2.2 hj hv (g := mkF m pc L (.int j :: .ref a :: S)) rfl rfl hd u k
theorem o_baload (pc' : Nat) (W : Wk p l e R s m args below meth c Z y bytes maxL ret T h ce sl sf) {a : Addr} {cl : Cell} {j : Int32} {v : Value} (A : Arr Z h a cl .byte) (hj : ¬ (j < 0 ∨ cl.slots.size ≤ j.toNatClampNeg)) (hv : cl.slots[j.toNatClampNeg]? = some v) (hd : decode bytes pc = .ok (.baload, 1)) (K : Go p e below G T (mkF m pc' L (v :: S))) (hp : pc + 1 = pc' := by rfl) : Go p e below G T (mkF m pc L (.int j :: .ref a :: S)) := by
  subst hp
  obtain ⟨vm0, k0, locs, X, eT, hS, hk, hZ, hown, hF, hN, hC, hsf, hE, ⟨a1, hEL⟩, hx, hby, hml, hnm, hrt, hlk⟩ := W
  subst hby
  exact K.st fun u k => X.baloadBytes hx (by rw [eT]; exact A.1) (State.isArrayOf_alike hZ.alike A.2.1) A.2.2 hj hv (g := mkF m pc L (.int j :: .ref a :: S)) rfl rfl hd u k
theorem o_laload (pc' : Nat) (W : Wk p l e R s m args below meth c Z y bytes maxL ret T h ce sl sf) {a : Addr} {cl : Cell} {j : Int32} {v : Value} (A : Arr Z h a cl .long) (hj : ¬ (j < 0 ∨ cl.slots.size ≤ j.toNatClampNeg)) (hv : cl.slots[j.toNatClampNeg]? = some v) (hd : decode bytes pc = .ok (.laload, 1)) (K : Go p e below G T (mkF m pc' L (v :: S))) (hp : pc + 1 = pc' := by rfl) : Go p e below G T (mkF m pc L (.int j :: .ref a :: S)) := by
  subst hp
  obtain ⟨vm0, k0, locs, X, eT, hS, hk, hZ, hown, hF, hN, hC, hsf, hE, ⟨a1, hEL⟩, hx, hby, hml, hnm, hrt, hlk⟩ := W
  subst hby
  exact K.st fun u k => X.laload hx (by rw [eT]; exact A.1) (State.isArrayOf_alike hZ.alike A.2.1) A.2.2 hj hv (g := mkF m pc L (.int j :: .ref a :: S)) rfl rfl hd u k
theorem o_aaload (pc' : Nat) (W : Wk p l e R s m args below meth c Z y bytes maxL ret T h ce sl sf) {a : Addr} {cl : Cell} {j : Int32} {v : Value} {ty : FieldType} (A : Arr Z h a cl ty) (hty : ty.isReference = true) (hj : ¬ (j < 0 ∨ cl.slots.size ≤ j.toNatClampNeg)) (hv : cl.slots[j.toNatClampNeg]? = some v) (hd : decode bytes pc = .ok (.aaload, 1)) (K : Go p e below G T (mkF m pc' L (v :: S))) (hp : pc + 1 = pc' := by rfl) : Go p e below G T (mkF m pc L (.int j :: .ref a :: S)) := by
  subst hp
  obtain ⟨vm0, k0, locs, X, eT, hS, hk, hZ, hown, hF, hN, hC, hsf, hE, ⟨a1, hEL⟩, hx, hby, hml, hnm, hrt, hlk⟩ := W
  subst hby
  exact K.st fun u k => X.aaload hx (by rw [eT]; exact A.1) (State.isArrayOf_alike hZ.alike A.2.1) hty A.2.2 hj hv (g := mkF m pc L (.int j :: .ref a :: S)) rfl rfl hd u k
theorem o_alen (pc' : Nat) (W : Wk p l e R s m args below meth c Z y bytes maxL ret T h ce sl sf) {a : Addr} {cl : Cell} {ty : FieldType} (n : Int32) (A : Arr Z h a cl ty) (hn : cl.slots.size.toInt32 = n) (hd : decode bytes pc = .ok (.arraylength, 1)) (K : Go p e below G T (mkF m pc' L (.int n :: S))) (hp : pc + 1 = pc' := by rfl) : Go p e below G T (mkF m pc L (.ref a :: S)) := by
  subst hp hn
  obtain ⟨vm0, k0, locs, X, eT, hS, hk, hZ, hown, hF, hN, hC, hsf, hE, ⟨a1, hEL⟩, hx, hby, hml, hnm, hrt, hlk⟩ := W
  subst hby
  exact K.st fun u k => X.arraylength hx (by rw [eT]; exact A.1) (State.isArrayOf_alike hZ.alike A.2.1) (g := mkF m pc L (.ref a :: S)) rfl rfl hd u k
theorem o_ialoadV (pc' : Nat) (W : Wk p l e R s m args below meth c Z y bytes maxL ret T h ce sl sf) {a : Addr} {k : ClassId} {z j : Int32} {vs : List Value} {dv v : Value} (A : Arv Z h a k .int z vs dv) (hj : ¬ j < 0 ∧ j < z) (hv : vs.getD j.toNatClampNeg dv = v) (hd : decode bytes pc = .ok (.iaload, 1)) (K : Go p e below G T (mkF m pc' L (v :: S))) (hp : pc + 1 = pc' := by rfl) : Go p e below G T (mkF m pc L (.int j :: .ref a :: S)) := by
  obtain ⟨cl, A1, A2, A3, A4, A5, A6⟩ := A
  exact o_iaload pc' W A1 (inb_of A3 hj) (Has.at A5 (inb_of A3 hj) hv) hd K hp
theorem o_caloadV (pc' : Nat) (W : Wk p l e R s m args below meth c Z y bytes maxL ret T h ce sl sf) {a : Addr} {k : ClassId} {z j : Int32} {vs : List Value} {dv v : Value} (A : Arv Z h a k .char z vs dv) (hj : ¬ j < 0 ∧ j < z) (hv : vs.getD j.toNatClampNeg dv = v) (hd : decode bytes pc = .ok (.caload, 1)) (K : Go p e below G T (mkF m pc' L (v :: S))) (hp : pc + 1 = pc' := by rfl) : Go p e below G T (mkF m pc L (.int j :: .ref a :: S)) := by
  obtain ⟨cl, A1, A2, A3, A4, A5, A6⟩ := A
  exact o_caload pc' W A1 (inb_of A3 hj) (Has.at A5 (inb_of A3 hj) hv) hd K hp
theorem o_baloadV (pc' : Nat) (W : Wk p l e R s m args below meth c Z y bytes maxL ret T h ce sl sf) {a : Addr} {k : ClassId} {z j : Int32} {vs : List Value} {dv v : Value} (A : Arv Z h a k .byte z vs dv) (hj : ¬ j < 0 ∧ j < z) (hv : vs.getD j.toNatClampNeg dv = v) (hd : decode bytes pc = .ok (.baload, 1)) (K : Go p e below G T (mkF m pc' L (v :: S))) (hp : pc + 1 = pc' := by rfl) : Go p e below G T (mkF m pc L (.int j :: .ref a :: S)) := by
  obtain ⟨cl, A1, A2, A3, A4, A5, A6⟩ := A
  exact o_baload pc' W A1 (inb_of A3 hj) (Has.at A5 (inb_of A3 hj) hv) hd K hp
theorem o_alenV (pc' : Nat) (W : Wk p l e R s m args below meth c Z y bytes maxL ret T h ce sl sf) {a : Addr} {k : ClassId} {z : Int32} {ty : FieldType} {vs : List Value} {dv : Value} (A : Arv Z h a k ty z vs dv) (hd : decode bytes pc = .ok (.arraylength, 1)) (K : Go p e below G T (mkF m pc' L (.int z :: S))) (hp : pc + 1 = pc' := by rfl) : Go p e below G T (mkF m pc L (.ref a :: S)) := by
  obtain ⟨cl, A1, A2, A3, A4, A5, A6⟩ := A
  exact o_alen pc' W z A1 (len_of A3 A4) hd K hp
theorem o_new (pc' : Nat) (W : Wk p l e R s m args below meth c Z y bytes maxL ret T h ce sl sf) {C : String} {i n : Nat} (w : (Jvm.Cond.classLink y.cls i C).before a0 Z = true) (wi : (Jvm.Cond.instantiable C n).before a0 Z = true) (wz : (Jvm.Cond.initialized C).before a0 Z = true) (hd : decode bytes pc = .ok (.new i, 3))
    (K : ∀ T' h' a, Wk p l e R s m args below meth c Z y bytes maxL ret T' h' (ce + 1) (sl + n) (a :: sf) → Ext h h' → Exa Z h' a C → (∀ {O nm d : String} {ty : FieldType}, Laid Z a0 C O nm d → parseFieldDescriptor d = some ty → Fld Z h' a O nm d (defaultValue ty)) → h.size ≤ a → Z.heap.size ≤ a → Go p e below G T' (mkF m pc' L (.ref a :: S)))
    (hc : ce + 1 ≤ R.cells := by decide) (hs : sl + n ≤ R.slots := by decide) (hp : pc + 3 = pc' := by rfl) : Go p e below G T (mkF m pc L S) := by
  subst hp
  obtain ⟨vm0, k0, locs, X, eT, hS, hk, hZ, hown, hF, hN, hC, hsf, hE, ⟨a1, hEL⟩, hx, hby, hml, hnm, hrt, hlk⟩ := W
  subst hby
  obtain ⟨T', h', X', e', E, A, D, -, st⟩ := newO X hx hZ hown w wi wz eT (g := mkF m pc L S) rfl hd hc hs
  refine (K T' h' h.size ⟨vm0, k0, locs, X', e', hS, Nat.le_trans hk E.1, hZ, hown, hF, hN, hC.trans (CHr.ext E hC.1), fun x q => ?_, own_ext_trans hE E, ⟨a1, hEL⟩, hx, rfl, hml, hnm, hrt, hlk⟩ E A D (Nat.le_refl _) hE.1).st st
  rcases List.mem_cons.mp q with rfl | q
  · exact ⟨A.lt, Safe.ext E hC.1 (Safe.new (Nat.le_refl _))⟩
  · exact ⟨Nat.lt_of_lt_of_le (hsf x q).1 E.1, Safe.ext E hC.1 (hsf x q).2⟩
theorem own_pad {a : Addr} {k : ClassId} {ty : FieldType} {z : Int32} {dv : Value} (n : Nat) (A : Arv Z h a k ty z [] dv) : Arv Z h a k ty z (List.replicate n dv) dv := A.pad fun i => by
  rw [List.getD_eq_getElem?_getD, List.getElem?_replicate]; split <;> simp
theorem o_newarray (pc' : Nat) (cap : Nat) (W : Wk p l e R s m args below meth c Z y bytes maxL ret T h ce sl sf) {aty : ArrayType} {n : Int32} (w : (Jvm.Cond.arrayClass (newarray.typeOf aty)).before a0 Z = true) (hd : decode bytes pc = .ok (.newarray aty, 2)) (hn : ¬ n < 0) (hcap : n.toNatClampNeg ≤ cap)
    (K : ∀ T' h' a k, Wk p l e R s m args below meth c Z y bytes maxL ret T' h' (ce + 1) (sl + cap) (a :: sf) → Ext h h' → Arv Z h' a k (newarray.typeOf aty) n [] (defaultValue (newarray.typeOf aty)) → h.size ≤ a → Z.heap.size ≤ a → Go p e below G T' (mkF m pc' L (.ref a :: S)))
    (hb : cap * 8 ≤ 536870912 := by decide) (hc : ce + 1 ≤ R.cells := by decide) (hs : sl + cap ≤ R.slots := by decide) (hp : pc + 2 = pc' := by rfl) : Go p e below G T (mkF m pc L (.int n :: S)) := by
  subst hp
  obtain ⟨vm0, k0, locs, X, eT, hS, hk, hZ, hown, hF, hN, hC, hsf, hE, ⟨a1, hEL⟩, hx, hby, hml, hnm, hrt, hlk⟩ := W
  subst hby
  obtain ⟨T', h', cA, X', e', E, A, st⟩ := newP X hx hZ w eT (g := mkF m pc L (.int n :: S)) rfl hd rfl hn hcap hb hc hs
  refine (K T' h' h.size cA ⟨vm0, k0, locs, X', e', hS, Nat.le_trans hk E.1, hZ, hown, hF, hN, hC.trans (CHr.ext E hC.1), fun x q => ?_, own_ext_trans hE E, ⟨a1, hEL⟩, hx, rfl, hml, hnm, hrt, hlk⟩ E (Arv.new A hn) (Nat.le_refl _) hE.1).st st
  rcases List.mem_cons.mp q with rfl | q
  · exact ⟨A.lt, Safe.ext E hC.1 (Safe.new (Nat.le_refl _))⟩
  · exact ⟨Nat.lt_of_lt_of_le (hsf x q).1 E.1, Safe.ext E hC.1 (hsf x q).2⟩
theorem o_putF (pc' : Nat) (W : Wk p l e R s m args below meth c Z y bytes maxL ret T h ce sl sf) {i kk : Nat} {R0 O n d C : String} {ty : FieldType} {a : Addr} {v old : Value} (w : (Jvm.Cond.fieldLink y.cls i R0 n d).before a0 Z = true) (F : Fld Z h a O n d old) (E : Exa Z h a C) (Lz : (Jvm.Cond.lays C O n d).before a0 Z = true ∨ ((Jvm.Cond.laysFinal C O n d).before a0 Z = true ∧ y.cls = O ∧ y.name = "<init>")) (wi : (Jvm.Cond.instantiable C kk).before a0 Z = true) (hty : parseFieldDescriptor d = some ty) (hn : narrow ty v = v) (hf : fits ty v = true) (hsafe : a ∈ sf ∨ (C ≠ "java/lang/String" ∧ C ≠ "[B")) (ha : Z.heap.size ≤ a) (hd : decode bytes pc = .ok (.putfield i, 3))
    (K : ∀ T' h', Wk p l e R s m args below meth c Z y bytes maxL ret T' h' ce sl sf → Wr h h' a (Jvm.RoadKit.slotOf Z O n d) v → Go p e below G T' (mkF m pc' L S)) (via : Via Z R0 O n d := by exact Via.refl) (hp : pc + 3 = pc' := by rfl) : Go p e below G T (mkF m pc L (v :: .ref a :: S)) := by
  subst hp
  obtain ⟨vm0, k0, locs, X, eT, hS, hk, hZ, hown, hF, hN, hC, hsf, hE, ⟨a1, hEL⟩, hx, hby, hml, hnm, hrt, hlk⟩ := W
  subst hby
  have hsa : Safe Z own_EL vm0 h a := hsafe.elim (fun q => (hsf a q).2) fun q => Safe.exa hZ.alike E q.1 q.2
  obtain ⟨T', h', X', e', Wr0, st⟩ := putF X hx hZ hown (host := "") (Or.inl w) via eT F E (Lz.imp id fun q => ⟨q.1, q.2.1, hnm.trans q.2.2⟩) wi hty hn hf (g := mkF m pc L (v :: .ref a :: S)) rfl rfl hd
  exact (K T' h' ⟨vm0, k0, _, X', e', hS, Nat.le_trans hk (Nat.le_of_eq Wr0.size.symm), hZ, hown, Fr.snoc X' hF ha, hN, hC.trans (CHr.wr Wr0 hsa hC.1), fun x q => ⟨Nat.lt_of_lt_of_le (hsf x q).1 (Nat.le_of_eq Wr0.size.symm), Safe.wr Wr0 hsa hC.1 (hsf x q).2⟩, own_ext_wr hE Wr0 ha, ⟨a1, hEL⟩, hx, rfl, hml, hnm, hrt, hlk⟩ Wr0).st st
theorem o_initO (pc' : Nat) (W : Wk p l e R s m args below meth c Z y bytes maxL ret T h ce sl sf) {i : Nat} {a : Addr} (w1 : (Jvm.Cond.methodLink y.cls i Lib.objectInit).before a0 Z = true) (w2 : (Jvm.Cond.instanceMethod Lib.objectInit).before a0 Z = true) (w3 : (Jvm.Cond.code Lib.objectInit ⟨#[0xb1]⟩ 1 none).before a0 Z = true) (hd : decode bytes pc = .ok (.invokespecial i, 3)) (K : ∀ T', Wk p l e R s m args below meth c Z y bytes maxL ret T' h ce sl sf → Go p e below G T' (mkF m pc' L S)) (hsz : L.size = maxL := by rfl) (hf : 1 ≤ R.frames := by decide) (hl : (S.map fun v => v.category).sum + 12 ≤ R.locals := by first | decide | exact Nat.le_of_ble_eq_true rfl) (hp : pc + 3 = pc' := by rfl) : Go p e below G T (mkF m pc L (.ref a :: S)) := by
  subst hp
  obtain ⟨vm0, k0, locs, X, eT, hS, hk, hZ, hown, hF, hN, hC, hsf, hE, ⟨a1, hEL⟩, hx, hby, hml, hnm, hrt, hlk⟩ := W
  subst hby
  obtain ⟨T', X', e', st⟩ := initO X hx hZ hown w1 w2 w3 eT (g := mkF m pc L (.ref a :: S)) rfl (by rw [hml]; exact hsz) rfl hd hf (W := (S.map fun v => v.category).sum) (by show 2 * 0 + _ ≤ _; omega) hl
  exact (K T' ⟨vm0, k0, locs, X', e', hS, hk, hZ, hown, hF, hN, hC, hsf, hE, ⟨a1, hEL⟩, hx, rfl, hml, hnm, hrt, hlk⟩).st st
theorem o_castore (pc' : Nat) (i : Nat) (W : Wk p l e R s m args below meth c Z y bytes maxL ret T h ce sl sf) {a : Addr} {k : ClassId} {z j x : Int32} {vs : List Value} {dv : Value} (A : Arv Z h a k .char z vs dv) (hj : ¬ j < 0 ∧ j < z) (hi : j.toNatClampNeg = i) (hlt : i < vs.length)  (ha : Z.heap.size ≤ a) (hd : decode bytes pc = .ok (.castore, 1))
    (K : ∀ T' h', Wk p l e R s m args below meth c Z y bytes maxL ret T' h' ce sl sf → Wr h h' a j.toNatClampNeg (.int (nar .char x)) → Arv Z h' a k .char z (vs.set i (.int (nar .char x))) dv → Go p e below G T' (mkF m pc' L S)) (hp : pc + 1 = pc' := by rfl) : Go p e below G T (mkF m pc L (.int x :: .int j :: .ref a :: S)) := by
  subst hp
  obtain ⟨vm0, k0, locs, X, eT, hS, hk, hZ, hown, hF, hN, hC, hsf, hE, ⟨a1, hEL⟩, hx, hby, hml, hnm, hrt, hlk⟩ := W
  subst hby
  obtain ⟨cl, A1, A2, A3, A4, A5, A6⟩ := A
  have hsa : Safe Z own_EL vm0 h a := Safe.arr hZ.alike A1 (by decide)
  obtain ⟨T', h', X', e', Wr0, st⟩ := stC X hx hZ eT A1 (inb_of A3 hj) (g := mkF m pc L (.int x :: .int j :: .ref a :: S)) rfl rfl hd
  exact (K T' h' ⟨vm0, k0, _, X', e', hS, Nat.le_trans hk (Nat.le_of_eq Wr0.size.symm), hZ, hown, Fr.snoc X' hF ha, hN, hC.trans (CHr.wr Wr0 hsa hC.1), fun x q => ⟨Nat.lt_of_lt_of_le (hsf x q).1 (Nat.le_of_eq Wr0.size.symm), Safe.wr Wr0 hsa hC.1 (hsf x q).2⟩, own_ext_wr hE Wr0 ha, ⟨a1, hEL⟩, hx, rfl, hml, hnm, hrt, hlk⟩ Wr0 (Arv.set A1 A2 A3 A4 A5 A6 (fits_nar_char x) Wr0 i hi hlt)).st st
theorem o_bastore (pc' : Nat) (i : Nat) (W : Wk p l e R s m args below meth c Z y bytes maxL ret T h ce sl sf) {a : Addr} {k : ClassId} {z j x : Int32} {vs : List Value} {dv : Value} (A : Arv Z h a k .byte z vs dv) (hj : ¬ j < 0 ∧ j < z) (hi : j.toNatClampNeg = i) (hlt : i < vs.length) (hsafe : a ∈ sf) (ha : Z.heap.size ≤ a) (hd : decode bytes pc = .ok (.bastore, 1))
    (K : ∀ T' h', Wk p l e R s m args below meth c Z y bytes maxL ret T' h' ce sl sf → Wr h h' a j.toNatClampNeg (.int (nar .byte x)) → Arv Z h' a k .byte z (vs.set i (.int (nar .byte x))) dv → Go p e below G T' (mkF m pc' L S)) (hp : pc + 1 = pc' := by rfl) : Go p e below G T (mkF m pc L (.int x :: .int j :: .ref a :: S)) := by
  subst hp
  obtain ⟨vm0, k0, locs, X, eT, hS, hk, hZ, hown, hF, hN, hC, hsf, hE, ⟨a1, hEL⟩, hx, hby, hml, hnm, hrt, hlk⟩ := W
  subst hby
  obtain ⟨cl, A1, A2, A3, A4, A5, A6⟩ := A
  have hsa : Safe Z own_EL vm0 h a := (hsf a hsafe).2
  obtain ⟨T', h', X', e', Wr0, st⟩ := stB X hx hZ eT A1 (inb_of A3 hj) (g := mkF m pc L (.int x :: .int j :: .ref a :: S)) rfl rfl hd
  exact (K T' h' ⟨vm0, k0, _, X', e', hS, Nat.le_trans hk (Nat.le_of_eq Wr0.size.symm), hZ, hown, Fr.snoc X' hF ha, hN, hC.trans (CHr.wr Wr0 hsa hC.1), fun x q => ⟨Nat.lt_of_lt_of_le (hsf x q).1 (Nat.le_of_eq Wr0.size.symm), Safe.wr Wr0 hsa hC.1 (hsf x q).2⟩, own_ext_wr hE Wr0 ha, ⟨a1, hEL⟩, hx, rfl, hml, hnm, hrt, hlk⟩ Wr0 (Arv.set A1 A2 A3 A4 A5 A6 (fits_nar_byte x) Wr0 i hi hlt)).st st
theorem o_iastore (pc' : Nat) (i : Nat) (W : Wk p l e R s m args below meth c Z y bytes maxL ret T h ce sl sf) {a : Addr} {k : ClassId} {z j x : Int32} {vs : List Value} {dv : Value} (A : Arv Z h a k .int z vs dv) (hj : ¬ j < 0 ∧ j < z) (hi : j.toNatClampNeg = i) (hlt : i < vs.length)  (ha : Z.heap.size ≤ a) (hd : decode bytes pc = .ok (.iastore, 1))
    (K : ∀ T' h', Wk p l e R s m args below meth c Z y bytes maxL ret T' h' ce sl sf → Wr h h' a j.toNatClampNeg (.int x) → Arv Z h' a k .int z (vs.set i (.int x)) dv → Go p e below G T' (mkF m pc' L S)) (hp : pc + 1 = pc' := by rfl) : Go p e below G T (mkF m pc L (.int x :: .int j :: .ref a :: S)) := by
  subst hp
  obtain ⟨vm0, k0, locs, X, eT, hS, hk, hZ, hown, hF, hN, hC, hsf, hE, ⟨a1, hEL⟩, hx, hby, hml, hnm, hrt, hlk⟩ := W
  subst hby
  obtain ⟨cl, A1, A2, A3, A4, A5, A6⟩ := A
  have hsa : Safe Z own_EL vm0 h a := Safe.arr hZ.alike A1 (by decide)
  obtain ⟨T', h', X', e', Wr0, st⟩ := stI X hx hZ eT A1 (inb_of A3 hj) (g := mkF m pc L (.int x :: .int j :: .ref a :: S)) rfl rfl hd
  exact (K T' h' ⟨vm0, k0, _, X', e', hS, Nat.le_trans hk (Nat.le_of_eq Wr0.size.symm), hZ, hown, Fr.snoc X' hF ha, hN, hC.trans (CHr.wr Wr0 hsa hC.1), fun x q => ⟨Nat.lt_of_lt_of_le (hsf x q).1 (Nat.le_of_eq Wr0.size.symm), Safe.wr Wr0 hsa hC.1 (hsf x q).2⟩, own_ext_wr hE Wr0 ha, ⟨a1, hEL⟩, hx, rfl, hml, hnm, hrt, hlk⟩ Wr0 (Arv.set A1 A2 A3 A4 A5 A6 (rfl) Wr0 i hi hlt)).st st
theorem o_arraycopy (pc' : Nat) (W : Wk p l e R s m args below meth c Z y bytes maxL ret T h ce sl sf) {i : Nat} {a b : Addr} {k k' : ClassId} {z z' sp dp nn : Int32} {vs vd us : List Value} {dv dd : Value} {ty : FieldType} (w1 : (Jvm.Cond.methodLink y.cls i Jvm.Stand.acN).before a0 Z = true) (w2 : (Jvm.Cond.native Jvm.Stand.acN).before a0 Z = true) (w3 : (Jvm.Cond.static Jvm.Stand.acN).before a0 Z = true) (w4 : (Jvm.Cond.initialized "java/lang/System").before a0 Z = true) (A : Arv Z h a k ty z vs dv) (B : Arv Z h b k' ty z' vd dd) (hty : refKind ty = false)
    (h1 : ¬ sp < 0) (h2 : ¬ dp < 0) (h3 : ¬ nn < 0) (h4 : sp.toNatClampNeg + nn.toNatClampNeg ≤ z.toNatClampNeg) (h5 : dp.toNatClampNeg + nn.toNatClampNeg ≤ z'.toNatClampNeg) (hus : us = (List.range nn.toNatClampNeg).map fun i => vs.getD (sp.toNatClampNeg + i) dv) (hlv : dp.toNatClampNeg + nn.toNatClampNeg ≤ vd.length) (hsafe : b ∈ sf) (hb : Z.heap.size ≤ b) (hd : decode bytes pc = .ok (.invokestatic i, 3))
    (K : ∀ T' h', Wk p l e R s m args below meth c Z y bytes maxL ret T' h' ce sl sf → Keep h h' [b] → Arv Z h' b k' ty z' (vd.take dp.toNatClampNeg ++ us ++ vd.drop (dp.toNatClampNeg + nn.toNatClampNeg)) dd → Go p e below G T' (mkF m pc' L S)) (hsz : L.size = maxL := by rfl) (hf : 1 ≤ R.frames := by decide) (hl : (S.map fun v => v.category).sum + (nativeFrameWords "java/lang/System" "arraycopy" 5 + 11) ≤ R.locals := by first | decide | exact Nat.le_of_ble_eq_true rfl) (hp : pc + 3 = pc' := by rfl) : Go p e below G T (mkF m pc L (.int nn :: .int dp :: .ref b :: .int sp :: .ref a :: S)) := by
  subst hp
  obtain ⟨vm0, k0, locs, X, eT, hS, hk, hZ, hown, hF, hN, hC, hsf, hE, ⟨a1, hEL⟩, hx, hby, hml, hnm, hrt, hlk⟩ := W
  subst hby
  obtain ⟨T', h', L', X', e', N', Kp, A', st⟩ := cpA X hx hZ hown w1 w2 w3 w4 eT A B (Or.inl ⟨rfl, hty⟩) h1 h2 h3 h4 h5 hus hlv hF hb (g := mkF m pc L (.int nn :: .int dp :: .ref b :: .int sp :: .ref a :: S)) rfl (by rw [hml]; exact hsz) rfl hd hf (W := (S.map fun v => v.category).sum) (by show 2 * 0 + _ ≤ _; omega) hl
  have hs1 : ∀ x ∈ [b], Safe Z own_EL vm0 h x := fun x q => by rw [List.mem_singleton.mp q]; exact (hsf b hsafe).2
  have hE' : Ext Z.heap h' := ⟨Nat.le_trans hE.1 Kp.1, fun x cc r => Kp.2.1 x cc (hE.2 x cc r) fun q => by
    have hlt := (Array.getElem?_eq_some_iff.mp r).1
    rw [List.mem_singleton.mp q] at hlt; omega⟩
  exact (K T' h' ⟨vm0, k0, L', X', e', hS, Nat.le_trans hk Kp.1, hZ, hown, N', hN, hC.trans (CHr.keep Kp hs1 hC.1), fun x q => ⟨Nat.lt_of_lt_of_le (hsf x q).1 Kp.1, Safe.keep Kp hs1 hC.1 (hsf x q).2⟩, hE', ⟨a1, hEL⟩, hx, rfl, hml, hnm, hrt, hlk⟩ Kp A').st st
theorem o_clone (pc' : Nat) (cap : Nat) (W : Wk p l e R s m args below meth c Z y bytes maxL ret T h ce sl sf) {i : Nat} {ad : String} {a : Addr} {k : ClassId} {ty : FieldType} {z : Int32} {vs : List Value} {dv : Value} (w1 : (Jvm.Cond.methodLink y.cls i ⟨ad, "clone", "()Ljava/lang/Object;"⟩).before a0 Z = true) (w2 : (Jvm.Cond.sameMethod ad "java/lang/Object" "clone" "()Ljava/lang/Object;").before a0 Z = true) (w3 : (Jvm.Cond.native ⟨"java/lang/Object", "clone", "()Ljava/lang/Object;"⟩).before a0 Z = true) (w4 : (Jvm.Cond.instanceMethod ⟨"java/lang/Object", "clone", "()Ljava/lang/Object;"⟩).before a0 Z = true) (w5 : (Jvm.Cond.selects ad ⟨ad, "clone", "()Ljava/lang/Object;"⟩ ⟨"java/lang/Object", "clone", "()Ljava/lang/Object;"⟩).before a0 Z = true) (w6 : (Jvm.Cond.castable ad "java/lang/Cloneable").before a0 Z = true) (F : Arv Z h a k ty z vs dv) (E : Exa Z h a ad) (hd : decode bytes pc = .ok (.invokevirtual i, 3)) (hcap : z.toNatClampNeg ≤ cap)
    (K : ∀ T' h' b, Wk p l e R s m args below meth c Z y bytes maxL ret T' h' (ce + 1) (sl + cap) (b :: sf) → Ext h h' → Arv Z h' b k ty z vs dv → Exa Z h' b ad → h.size ≤ b → Z.heap.size ≤ b → Go p e below G T' (mkF m pc' L (.ref b :: S))) (hsz : L.size = maxL := by rfl) (hf : 1 ≤ R.frames := by decide) (hl : (S.map fun v => v.category).sum + 14 ≤ R.locals := by first | decide | exact Nat.le_of_ble_eq_true rfl) (hc : ce + 1 ≤ R.cells := by decide) (hs : sl + cap ≤ R.slots := by decide) (hp : pc + 3 = pc' := by rfl) : Go p e below G T (mkF m pc L (.ref a :: S)) := by
  subst hp
  obtain ⟨vm0, k0, locs, X, eT, hS, hk, hZ, hown, hF, hN, hC, hsf, hE, ⟨a1, hEL⟩, hx, hby, hml, hnm, hrt, hlk⟩ := W
  subst hby
  obtain ⟨T', h', X', e', Ee, A, Ex, st⟩ := cloneH X hx hZ hown w1 w2 w3 w4 w5 w6 eT (hs := []) F E (g := mkF m pc L (.ref a :: S)) rfl (by rw [hml]; exact hsz) rfl hd hf (W := (S.map fun v => v.category).sum) (by show 2 * 0 + _ ≤ _; omega) hl hcap hc hs
  refine (K T' h' h.size ⟨vm0, k0, locs, X', e', hS, Nat.le_trans hk Ee.1, hZ, hown, hF, hN, hC.trans (CHr.ext Ee hC.1), fun x q => ?_, own_ext_trans hE Ee, ⟨a1, hEL⟩, hx, rfl, hml, hnm, hrt, hlk⟩ Ee A Ex (Nat.le_refl _) hE.1).st st
  rcases List.mem_cons.mp q with rfl | q
  · exact ⟨Ex.lt, Safe.ext Ee hC.1 (Safe.new (Nat.le_refl _))⟩
  · exact ⟨Nat.lt_of_lt_of_le (hsf x q).1 Ee.1, Safe.ext Ee hC.1 (hsf x q).2⟩
theorem own_ew {a1 a2 : Array Value} (E : EW Z a1 own_EL) : EW Z a2 own_EL := fun q hq => by
  obtain ⟨t, h1, h2⟩ := E q hq
  exact ⟨t, mvS (s := Z) (vm0 := Z.vm) (State.Warmed39.refl Z) h1, h2⟩
theorem o_ldcS (pc' : Nat) (n : Nat) (W : Wk p l e R s m args below meth c Z y bytes maxL ret T h ce sl sf) {i : Nat} {text : String} (hnar : ¬ own_Nar) (w : (Jvm.Cond.stringLink y.cls i text).before a0 Z = true) (wS : ∀ a ∈ Bundle.stringAtoms, a.before a0 Z = true) (hd : decode bytes pc = .ok (.ldc i, 2)) (hn : 4 * text.toList.length ≤ n)
    (K : ∀ T' h' a, Wk p l e R s m args below meth c Z y bytes maxL ret T' h' (ce + 2) (sl + (n + 4)) sf → Ext h h' → Go p e below G T' (mkF m pc' L (.ref a :: S))) (hbig : n ≤ 536870912 := by decide) (hc : ce + 2 ≤ R.cells := by decide) (hs : sl + (n + 4) ≤ R.slots := by decide) (hp : pc + 2 = pc' := by rfl) : Go p e below G T (mkF m pc L S) := by
  subst hp
  obtain ⟨vm0, k0, locs, X, eT, hS, hk, hZ, hown, hF, hN, hC, hsf, hE, ⟨a1, hEL⟩, hx, hby, hml, hnm, hrt, hlk⟩ := W
  subst hby
  obtain ⟨a, T', h', k1, X', e', E, hS', hk', hZ', hown', hC', -, st⟩ := ldcOH X hx hZ hown w wS eT hS hk (own_ew hEL) hC.1 (g := mkF m pc L S) rfl hd hn hbig hc hs
  exact (K T' h' a ⟨T'.vm, k1, locs, X', e', hS', hk', hZ', hown', hF, fun q => absurd q hnar, hC.trans hC', fun x q => ⟨Nat.lt_of_lt_of_le (hsf x q).1 E.1, hC'.safe (hsf x q).1 (hsf x q).2⟩, own_ext_trans hE E, ⟨a1, hEL⟩, hx, rfl, hml, hnm, hrt, hlk⟩ E).st st
theorem o_ldcC (pc' : Nat) (n : Nat) (W : Wk p l e R s m args below meth c Z y bytes maxL ret T h ce sl sf) {i : Nat} {text : String} {vs : List Value} {z : Int32} (hnar : ¬ own_Nar) (w : (Jvm.Cond.stringLink y.cls i text).before a0 Z = true) (wS : ∀ a ∈ Bundle.stringAtoms, a.before a0 Z = true) (hmem : (y.cls, i) ∈ own_EL) (ht : (∀ c ∈ text.toList, c.toNat < 256) ∧ text.toList.map (fun c => Value.int (Jvm.Lit.byteI c.toNat.toUInt16)) = vs) (hz : ¬ z < 0) (hzl : z.toNatClampNeg = vs.length) (hd : decode bytes pc = .ok (.ldc i, 2)) (hn : 4 * text.toList.length ≤ n)
    (K : ∀ T' h' a b k, Wk p l e R s m args below meth c Z y bytes maxL ret T' h' (ce + 2) (sl + (n + 4)) sf → Ext h h' → Exa Z h' a "java/lang/String" → Fld Z h' a "java/lang/String" "coder" "B" (.int 0) → Fld Z h' a "java/lang/String" "value" "[B" (.ref b) → Arv Z h' b k .byte z vs (.int 0) → (∀ x ∈ sf, x ≠ a ∧ x ≠ b) → Go p e below G T' (mkF m pc' L (.ref a :: S))) (hbig : n ≤ 536870912 := by decide) (hc : ce + 2 ≤ R.cells := by decide) (hs : sl + (n + 4) ≤ R.slots := by decide) (hp : pc + 2 = pc' := by rfl) : Go p e below G T (mkF m pc L S) := by
  subst hp
  obtain ⟨vm0, k0, locs, X, eT, hS, hk, hZ, hown, hF, hN, hC, hsf, hE, ⟨a1, hEL⟩, hx, hby, hml, hnm, hrt, hlk⟩ := W
  subst hby
  obtain ⟨a, T', h', k1, b, k, X', e', E, hS', hk', hZ', hown', q1, q2, q3, q4, q5, q6, hC', -, hsaf, st⟩ := ldcCH X hx hZ hown w wS eT hS hk (own_ew hEL) hmem hC.1 ht hz hzl (g := mkF m pc L S) rfl hd hn hbig hc hs
  exact (K T' h' a b k ⟨T'.vm, k1, locs, X', e', hS', hk', hZ', hown', hF, fun q => absurd q hnar, hC.trans hC', fun x q => ⟨Nat.lt_of_lt_of_le (hsf x q).1 E.1, hC'.safe (hsf x q).1 (hsf x q).2⟩, own_ext_trans hE E, ⟨a1, hEL⟩, hx, rfl, hml, hnm, hrt, hlk⟩ E q1 q2 q3 q4 fun x q => hsaf x (hC'.safe (hsf x q).1 (hsf x q).2)).st st
/-- what a body's end leaves -/
def Gd (s : State) (below : List Frame) (Z : State) (Q : Option Value → Heap → Prop) (kc ks : Nat) (u : State) : Prop := u.status = .running ∧ ∃ (v : Option Value) (Lc : List Loc), Ended u below (.returned v) ∧ Q v u.heap ∧ Fr Z.heap.size Lc ∧ CHr Z own_EL s.vm s.heap u.vm u.heap ∧ Ext Z.heap u.heap ∧ (own_Nar → s.WarmedH u.vm) ∧ ReturnedEndW s (.returned v) u Lc kc ks
/-- a body's contract: from the heap h0, with the arguments as', it returns and leaves Q -/
def Con (l : Launch) (Z : State) (y : MethodName) (bytes : ByteArray) (maxL : Nat) (ret : Option FieldType) (rm : Room) (as' : Array Value) (h0 : Heap) (sf0 : List Addr) (Q : Option Value → Heap → Prop) : Prop :=
  ∀ ws : List Jvm.Cond, MetFree l y (head1 (Jvm.Cond.code y bytes maxL ret :: ws) rm) (fun a U => a = as' ∧ Z.Warmed39 U.vm ∧ U.heap = h0 ∧ CHv Z own_EL U.vm h0 ∧ ∀ x ∈ sf0, Safe Z own_EL U.vm h0 x) (fun _ _ _ _ _ => True)
    (fun _ U o U' => ∃ v Lc, o = .returned v ∧ Q v U'.heap ∧ Fr Z.heap.size Lc ∧ CHr Z own_EL U.vm U.heap U'.vm U'.heap ∧ Ext Z.heap U'.heap ∧ (own_Nar → U.WarmedH U'.vm) ∧ ReturnedEndW U o U' Lc rm.cells rm.slots)
/-- a value is returned -/
abbrev QV (Q : Value → Heap → Prop) (v : Option Value) (h : Heap) : Prop := ∃ w, v = some w ∧ Q w h
/-- nothing is returned -/
abbrev Q0 (Q : Heap → Prop) (v : Option Value) (h : Heap) : Prop := v = none ∧ Q h
theorem Con.of {rm : Room} {as' : Array Value} {h0 : Heap} {sf0 : List Addr} {Q : Option Value → Heap → Prop} {L0 : Array Slot} (hp : plainFor y = true) (hE : Ext Z.heap h0) (hEL : ∃ a1, EW Z a1 own_EL) (hsf : ∀ x ∈ sf0, x < h0.size)
    (hent : ∀ m : MethodId, entryFrame m as' maxL = mkF m 0 L0 [])
    (body : ∀ (p : Program) (e : Env) (s : State) (m : MethodId) (args : Array Value) (below : List Frame) (meth : Method) (c : Code) (T : State), Wk p l e rm s m args below meth c Z y bytes maxL ret T h0 0 0 sf0 → Go p e below (Gd s below Z Q rm.cells rm.slots) T (mkF m 0 L0 [])) :
    Con l Z y bytes maxL ret rm as' h0 sf0 Q := by
  intro ws
  refine MetFree.of_bodySF hp hisR ?_
  intro p e s m args below meth c s₁ Bd hml hP hK
  obtain ⟨rfl, hZ, hh, hCH, hsaf⟩ := hP
  have X0 : Stand p l e rm (s.setVm s.vm) m args below meth c s₁ [] 0 0 := Stand.of_body Bd
  have e0 : s₁.heap = h0 := by rw [← hh, Bd.state]; rfl
  have hlk : meth.locks = false := by first | exact Bd.notSynchronized | exact BodyLoose.notSynchronized Bd
  have W : Wk p l e rm s m args below meth c Z y bytes maxL ret s₁ h0 0 0 sf0 :=
    ⟨s.vm, 0, [], X0, e0, (State.WarmedH.refl s).since 0, Nat.zero_le _, hZ, findClass_of_methodNamed Bd.named, Fr.nil _, fun _ => State.WarmedH.refl s, by rw [hh]; exact CHr.refl hCH, fun x hx => ⟨hsf x hx, hsaf x hx⟩, hE, hEL, Bd.exec, Bd.bytes, hml, (name_of_methodNamed Bd.named Bd.method).1, Bd.returns, hlk⟩
  obtain ⟨u, k, g1, v, Lc, g2, g3, g4, g5, g6, g7, g8⟩ := body p e s m args below meth c s₁ W
  exact ⟨u, _, castTop (hent m) k, g1, g2, v, Lc, rfl, g3, g4, g5, g6, g7, g8⟩
theorem o_end {Q : Option Value → Heap → Prop} {kc ks : Nat} (W : Wk p l e R s m args below meth c Z y bytes maxL ret T h ce sl sf) {v : Option Value} {g : JFrame} (hv : meth.sig.returnType = none → v = none) (hq : Q v h) (hc : ce ≤ kc) (hs : sl ≤ ks)
    (K : ∀ fs : List Frame, (∀ (f : JFrame) (acts : List Action), f.method = m → f.locked = none → f.entered = [] → (doReturn e (T.setTop f) acts v).1 = T.setFrames fs) → Steps p.tables e below (T.setTop g) (T.setFrames fs)) : Go p e below (Gd s below Z Q kc ks) T g := by
  obtain ⟨vm0, k0, locs, X, eT, hS, hk, hZ, hown, hF, hN, hC, hsf, hE, ⟨a1, hEL⟩, hx, hby, hml, hnm, hrt, hlk⟩ := W
  subst eT
  obtain ⟨fs, hr, hrun, hended, hW⟩ := (X.mono hc hs).leaveW hS hk (v := v) hv hlk
  have hC2 := hC.trans (CHv.at X hZ hEL hC.1)
  refine ⟨T.setFrames fs, K fs hr, hrun, v, locs, hended, hq, hF, hC2, hE, fun q => ?_, hW⟩
  exact State.WarmedH.trans (t := s.setVm vm0) (hN q) X.warmed
theorem o_iret {Q : Value → Heap → Prop} {kc ks : Nat} (W : Wk p l e R s m args below meth c Z y bytes maxL (some .int) T h ce sl sf) {x : Int32} (hd : decode bytes pc = .ok (.ireturn, 1)) (hq : Q (.int x) h) (hc : ce ≤ kc := by decide) (hs : sl ≤ ks := by decide) : Go p e below (Gd s below Z (QV Q) kc ks) T (mkF m pc L (.int x :: S)) := by
  have W2 := W
  obtain ⟨vm0, k0, locs, X, eT, hS, hk, hZ, hown, hF, hN, hC, hsf, hE, ⟨a1, hEL⟩, hx, hby, hml, hnm, hrt, hlk⟩ := W2
  subst hby
  exact o_end W (v := some (.int x)) (fun q => by rw [hrt] at q; cases q) ⟨_, rfl, hq⟩ hc hs fun fs hr => retOut X hx hrt rfl (Or.inl ⟨rfl, Or.inl rfl, x, rfl⟩) hd hr
theorem o_nret {Q : Value → Heap → Prop} {kc ks : Nat} {t : FieldType} (W : Wk p l e R s m args below meth c Z y bytes maxL (some t) T h ce sl sf) {x : Int32} (x' : Int32) (ht : t = .boolean ∨ t = .byte ∨ t = .char ∨ t = .short) (hn : nar t x = x') (hd : decode bytes pc = .ok (.ireturn, 1)) (hq : Q (.int x') h) (hc : ce ≤ kc := by decide) (hs : sl ≤ ks := by decide) : Go p e below (Gd s below Z (QV Q) kc ks) T (mkF m pc L (.int x :: S)) := by
  have W2 := W
  obtain ⟨vm0, k0, locs, X, eT, hS, hk, hZ, hown, hF, hN, hC, hsf, hE, ⟨a1, hEL⟩, hx, hby, hml, hnm, hrt, hlk⟩ := W2
  subst hby hn
  exact o_end W (v := some (.int (nar t x))) (fun q => by rw [hrt] at q; cases q) ⟨_, rfl, hq⟩ hc hs fun fs hr => retN X hx hrt ht hd hr
theorem o_aret {Q : Value → Heap → Prop} {kc ks : Nat} {t : FieldType} (W : Wk p l e R s m args below meth c Z y bytes maxL (some t) T h ce sl sf) {x : Value} (ht : t.isReference = true) (hv : x.isRef = true) (hn : narrow t x = x) (hd : decode bytes pc = .ok (.areturn, 1)) (hq : Q x h) (hc : ce ≤ kc := by decide) (hs : sl ≤ ks := by decide) : Go p e below (Gd s below Z (QV Q) kc ks) T (mkF m pc L (x :: S)) := by
  have W2 := W
  obtain ⟨vm0, k0, locs, X, eT, hS, hk, hZ, hown, hF, hN, hC, hsf, hE, ⟨a1, hEL⟩, hx, hby, hml, hnm, hrt, hlk⟩ := W2
  subst hby
  exact o_end W (v := some x) (fun q => by rw [hrt] at q; cases q) ⟨_, rfl, hq⟩ hc hs fun fs hr => retOut X hx hrt hn (Or.inr (Or.inr (Or.inr (Or.inr ⟨rfl, ht, hv⟩)))) hd hr
theorem o_ret {Q : Heap → Prop} {kc ks : Nat} (W : Wk p l e R s m args below meth c Z y bytes maxL none T h ce sl sf) (hd : decode bytes pc = .ok (.return_, 1)) (hq : Q h) (hc : ce ≤ kc := by decide) (hs : sl ≤ ks := by decide) : Go p e below (Gd s below Z (Q0 Q) kc ks) T (mkF m pc L []) := by
  have W2 := W
  obtain ⟨vm0, k0, locs, X, eT, hS, hk, hZ, hown, hF, hN, hC, hsf, hE, ⟨a1, hEL⟩, hx, hby, hml, hnm, hrt, hlk⟩ := W2
  subst hby
  exact o_end W (v := none) (fun _ => rfl) ⟨rfl, hq⟩ hc hs fun fs hr => X.returnOut hx hrt hd hr
theorem own_back {vm0 : Vm} {y' : MethodName} {bytes' : ByteArray} {maxL' : Nat} {ret' : Option FieldType} {rm : Room} {as' : Array Value} {sf' : List Addr} {Q : Option Value → Heap → Prop} {len Wd : Nat} {a1 : Array Value} (C : Con l Z y' bytes' maxL' ret' rm as' h sf' Q) (hZ : Z.Warmed39 (s.setVm vm0).vm) (wc : (Jvm.Cond.code y' bytes' maxL' ret').before a0 Z = true) (wz : (Jvm.Cond.initialized y'.cls).before a0 Z = true)
    (hf : rm.frames + 1 ≤ R.frames) (hl : Wd + (maxL' + 11) + rm.locals ≤ R.locals) (hEL : EW Z a1 own_EL) (H : CHv Z own_EL vm0 h) (hsf : ∀ x ∈ sf', x < h.size ∧ Safe Z own_EL vm0 h x) :
    BackS l R p e below (s.setVm vm0) args y' len Wd (fun A a => a = as' ∧ A.U.heap = h ∧ A.cells + rm.cells ≤ R.cells ∧ A.slots + rm.slots ≤ R.slots)
      (fun A _ v B => ∃ Lc, Q v B.U.heap ∧ Fr Z.heap.size Lc ∧ B.locs = A.locs ++ Lc ∧ B.cells = A.cells + rm.cells ∧ B.slots = A.slots + rm.slots ∧ CHr Z own_EL vm0 h B.U.vm B.U.heap ∧ Ext Z.heap B.U.heap ∧ (own_Nar → A.U.WarmedH B.U.vm)) :=
  BackS.of_freeW (bytes := bytes') (maxL := maxL') (ret := ret') (E := fun _ first o t Lc k n => k = rm.cells ∧ n = rm.slots ∧ (∃ v, o = .returned v ∧ Q v t.heap) ∧ Fr Z.heap.size Lc ∧ CHr Z own_EL first.vm first.heap t.vm t.heap ∧ Ext Z.heap t.heap ∧ (own_Nar → first.WarmedH t.vm)) (C []) hf hl
    (fun m meth c A a Y hp => have hU : Z.Warmed39 A.U.vm := wtrans (s := s.setVm vm0) hZ Y.warmed
      ⟨by show (Jvm.Cond.and _ .tt).before a A.U = true; rw [Cond.before_and, mv hU wc]; rfl, mv hU wc, mv hU wz, hp.2.2.1, hp.2.2.2⟩)
    (fun m meth c A a g mk Y hp => ⟨hp.1, wtrans (s := s.setVm vm0) hZ Y.warmed, hp.2.1, (CHv.at Y hZ hEL H).1, fun x hx => (CHv.at Y hZ hEL H).safe (hsf x hx).1 (hsf x hx).2⟩) (fun _ _ _ _ _ _ _ _ _ => trivial)
    (fun _ _ _ _ ⟨v, Lc, h1, h2, h3, h4, h5, h6, h7⟩ => ⟨Lc, _, _, h7, rfl, rfl, ⟨v, h1, h2⟩, h3, h4, h5, h6⟩)
    (fun m meth c A a g mk v t Lc k n Y hp _ _ ⟨e1, e2, ⟨v', e3, e4⟩, e5, e6, e7, e8⟩ => by
      cases e3; subst e1 e2
      refine ⟨Lc, e4, e5, rfl, rfl, rfl, (CHv.at Y hZ hEL H).trans ?_, e7, fun q => ?_⟩
      · rw [← hp.2.1]; exact e6
      · exact e8 q)
theorem o_static (pc' : Nat) (A : List Value) (W : Wk p l e R s m args below meth c Z y bytes maxL ret T h ce sl sf) {y' : MethodName} {bytes' : ByteArray} {maxL' : Nat} {ret' : Option FieldType} {rm : Room} {sf' : List Addr} {Q : Option Value → Heap → Prop} {stk : List Value} {i : Nat} (w1 : (Jvm.Cond.methodLink y.cls i y').before a0 Z = true) (w2 : (Jvm.Cond.static y').before a0 Z = true) (wz : (Jvm.Cond.initialized y'.cls).before a0 Z = true) (wc : (Jvm.Cond.code y' bytes' maxL' ret').before a0 Z = true) (C : Con l Z y' bytes' maxL' ret' rm A.toArray h sf' Q) {ps : List FieldType} {rt : Option FieldType} (hpd : parseMethodDescriptor y'.desc = some ⟨ps, rt⟩) (hd : decode bytes pc = .ok (.invokestatic i, 3)) (hst : stk = A.reverse ++ S) (hsub : ∀ x ∈ sf', x ∈ sf) (K : ∀ T' h' v, Wk p l e R s m args below meth c Z y bytes maxL ret T' h' (ce + rm.cells) (sl + rm.slots) sf → Q v h' → h.size ≤ h'.size → Go p e below G T' (mkF m pc' L (v.toList ++ S))) (hsz : L.size = maxL := by rfl) (hln : A.length = ps.length := by rfl) (hy : y'.cls ≠ "java/lang/invoke/MethodHandle" ∧ y'.cls ≠ "java/lang/invoke/VarHandle" := by decide) (hf : rm.frames + 1 ≤ R.frames := by decide) (hl : (S.map fun v => v.category).sum + (maxL' + 11) + rm.locals ≤ R.locals := by first | decide | exact Nat.le_of_ble_eq_true rfl) (hc : ce + rm.cells ≤ R.cells := by decide) (hs : sl + rm.slots ≤ R.slots := by decide) (hp : pc + 3 = pc' := by rfl) : Go p e below G T (mkF m pc L stk) := by
  subst hp
  obtain ⟨vm0, k0, locs, X, eT, hS, hk, hZ, hown, hF, hN, hC, hsf, hE, ⟨a1, hEL⟩, hx, hby, hml, hnm, hrt, hlk⟩ := W
  subst hby
  obtain ⟨v, vm₁, ⟨T', locs', ce', sl'⟩, hW1, X', hS', hge, ⟨Lc, hQ, hFr, e1, e2, e3, hC', hE', hN'⟩, st⟩ := callSS X hx (y := y') hown (mvT hZ w1) (mvT hZ w2) (mvT hZ wz) (mvT hZ wc) hy (own_back (Wd := (S.map fun v => v.category).sum) C hZ wc wz hf hl hEL hC.1 fun x hx => hsf x (hsub x hx)) (g := mkF m pc L stk) rfl (by rw [hml]; exact hsz) (argsL := A) (rest := S) (lenOf hpd hln) hst (by show 2 * 0 + _ ≤ _; omega) hd (fun _ _ => ⟨rfl, eT, hc, hs⟩)
  dsimp only [Pt.U, Pt.locs, Pt.cells, Pt.slots] at X' hS' hge hQ e1 e2 e3 hC' hE' hN' st
  subst e1 e2 e3 eT
  refine (K T' T'.heap v ⟨T'.vm, T'.heap.size, locs ++ Lc, X', rfl, hS.trans hS' (Nat.le_trans hk hge), Nat.le_refl _, State.Warmed39.trans (t := s.setVm vm0) hZ hS'.1, by rw [show (s.setVm T'.vm).vm = T'.vm from rfl, hS'.1.alike.findClass]; exact hown, hF.app hFr, fun q => ?_, hC.trans hC', fun x hx => ⟨Nat.lt_of_lt_of_le (hsf x hx).1 hge, hC'.safe (hsf x hx).1 (hsf x hx).2⟩, hE', ⟨a1, hEL⟩, hx, rfl, hml, hnm, hrt, hlk⟩ hQ hge).st fun u k => st.trans k
  exact State.WarmedH.trans (t := s.setVm vm0) (hN q) (State.WarmedH.trans (s := s.setVm vm0) (t := T.setVm vm₁) hW1 (hN' q))
theorem o_special (pc' : Nat) (A : List Value) (W : Wk p l e R s m args below meth c Z y bytes maxL ret T h ce sl sf) {y' : MethodName} {bytes' : ByteArray} {maxL' : Nat} {rm : Room} {sf' : List Addr} {Q : Option Value → Heap → Prop} {stk : List Value} {i : Nat} {a : Addr} (w1 : (Jvm.Cond.methodLink y.cls i y').before a0 Z = true) (w2 : (Jvm.Cond.instanceMethod y').before a0 Z = true) (wz : (Jvm.Cond.initialized y'.cls).before a0 Z = true) (wc : (Jvm.Cond.code y' bytes' maxL' none).before a0 Z = true) (C : Con l Z y' bytes' maxL' none rm (.ref a :: A).toArray h sf' Q) {ps : List FieldType} {rt : Option FieldType} (hpd : parseMethodDescriptor y'.desc = some ⟨ps, rt⟩) (hd : decode bytes pc = .ok (.invokespecial i, 3)) (hst : stk = A.reverse ++ .ref a :: S) (hsub : ∀ x ∈ sf', x ∈ sf) (K : ∀ T' h' v, Wk p l e R s m args below meth c Z y bytes maxL ret T' h' (ce + rm.cells) (sl + rm.slots) sf → Q v h' → h.size ≤ h'.size → Go p e below G T' (mkF m pc' L (v.toList ++ S))) (hin : y'.name = "<init>" := by rfl) (hsz : L.size = maxL := by rfl) (hln : A.length = ps.length := by rfl) (hy : y'.cls ≠ "java/lang/invoke/MethodHandle" ∧ y'.cls ≠ "java/lang/invoke/VarHandle" := by decide) (hf : rm.frames + 1 ≤ R.frames := by decide) (hl : (S.map fun v => v.category).sum + (maxL' + 11) + rm.locals ≤ R.locals := by first | decide | exact Nat.le_of_ble_eq_true rfl) (hc : ce + rm.cells ≤ R.cells := by decide) (hs : sl + rm.slots ≤ R.slots := by decide) (hp : pc + 3 = pc' := by rfl) : Go p e below G T (mkF m pc L stk) := by
  subst hp
  obtain ⟨vm0, k0, locs, X, eT, hS, hk, hZ, hown, hF, hN, hC, hsf, hE, ⟨a1, hEL⟩, hx, hby, hml, hnm, hrt, hlk⟩ := W
  subst hby
  obtain ⟨v, vm₁, ⟨T', locs', ce', sl'⟩, hW1, X', hS', hge, ⟨Lc, hQ, hFr, e1, e2, e3, hC', hE', hN'⟩, st⟩ := X.specialBackS hx (y := y') hin hown (mvT hZ w1) (mvT hZ w2) (mvT hZ wc) hy (own_back (Wd := (S.map fun v => v.category).sum) C hZ wc wz hf hl hEL hC.1 fun x hx => hsf x (hsub x hx)) (g := mkF m pc L stk) rfl (by rw [hml]; exact hsz) (Steps.refl _) (a := a) (argsL := A) (rest := S) (lenOf hpd hln) hst (by show 2 * 0 + _ ≤ _; omega) hd (fun _ _ => ⟨rfl, eT, hc, hs⟩)
  dsimp only [Pt.U, Pt.locs, Pt.cells, Pt.slots] at X' hS' hge hQ e1 e2 e3 hC' hE' hN' st
  subst e1 e2 e3 eT
  refine (K T' T'.heap v ⟨T'.vm, T'.heap.size, locs ++ Lc, X', rfl, hS.trans hS' (Nat.le_trans hk hge), Nat.le_refl _, State.Warmed39.trans (t := s.setVm vm0) hZ hS'.1, by rw [show (s.setVm T'.vm).vm = T'.vm from rfl, hS'.1.alike.findClass]; exact hown, hF.app hFr, fun q => ?_, hC.trans hC', fun x hx => ⟨Nat.lt_of_lt_of_le (hsf x hx).1 hge, hC'.safe (hsf x hx).1 (hsf x hx).2⟩, hE', ⟨a1, hEL⟩, hx, rfl, hml, hnm, hrt, hlk⟩ hQ hge).st fun u k => st.trans k
  exact State.WarmedH.trans (t := s.setVm vm0) (hN q) (State.WarmedH.trans (s := s.setVm vm0) (t := T.setVm vm₁) hW1 (hN' q))
theorem o_virtual (pc' : Nat) (A : List Value) (W : Wk p l e R s m args below meth c Z y bytes maxL ret T h ce sl sf) {y' : MethodName} {bytes' : ByteArray} {maxL' : Nat} {ret' : Option FieldType} {rm : Room} {sf' : List Addr} {Q : Option Value → Heap → Prop} {stk : List Value} {i : Nat} {a : Addr} {C0 : String} (w1 : (Jvm.Cond.methodLink y.cls i y').before a0 Z = true) (w2 : (Jvm.Cond.declares y').before a0 Z = true) (w3 : (Jvm.Cond.selects C0 y' y').before a0 Z = true) (w4 : (Jvm.Cond.instanceMethod y').before a0 Z = true) (wz : (Jvm.Cond.initialized y'.cls).before a0 Z = true) (wc : (Jvm.Cond.code y' bytes' maxL' ret').before a0 Z = true) (E : Exa Z h a C0) (C : Con l Z y' bytes' maxL' ret' rm (.ref a :: A).toArray h sf' Q) {ps : List FieldType} {rt : Option FieldType} (hpd : parseMethodDescriptor y'.desc = some ⟨ps, rt⟩) (hd : decode bytes pc = .ok (.invokevirtual i, 3)) (hst : stk = A.reverse ++ .ref a :: S) (hsub : ∀ x ∈ sf', x ∈ sf) (K : ∀ T' h' v, Wk p l e R s m args below meth c Z y bytes maxL ret T' h' (ce + rm.cells) (sl + rm.slots) sf → Q v h' → h.size ≤ h'.size → Go p e below G T' (mkF m pc' L (v.toList ++ S))) (hsz : L.size = maxL := by rfl) (hln : A.length = ps.length := by rfl) (hy : y'.cls ≠ "java/lang/invoke/MethodHandle" ∧ y'.cls ≠ "java/lang/invoke/VarHandle" := by decide) (hf : rm.frames + 1 ≤ R.frames := by decide) (hl : (S.map fun v => v.category).sum + (maxL' + 11) + rm.locals ≤ R.locals := by first | decide | exact Nat.le_of_ble_eq_true rfl) (hc : ce + rm.cells ≤ R.cells := by decide) (hs : sl + rm.slots ≤ R.slots := by decide) (hp : pc + 3 = pc' := by rfl) : Go p e below G T (mkF m pc L stk) := by
  subst hp
  obtain ⟨vm0, k0, locs, X, eT, hS, hk, hZ, hown, hF, hN, hC, hsf, hE, ⟨a1, hEL⟩, hx, hby, hml, hnm, hrt, hlk⟩ := W
  subst hby
  obtain ⟨cB, kB, qa, qb, qc⟩ := isOf (T := T) hZ eT E
  obtain ⟨v, vm₁, ⟨T', locs', ce', sl'⟩, hW1, X', hS', hge, ⟨Lc, hQ, hFr, e1, e2, e3, hC', hE', hN'⟩, st⟩ := X.virtualBackS hx (y := y') (z := y') hown (mvT hZ w1) (mvT hZ w2) (notFace_of_selects (args := args) (mvT hZ w3)) (mvT hZ w3) (mvT hZ w4) hy (own_back (Wd := (S.map fun v => v.category).sum) C hZ wc wz hf hl hEL hC.1 fun x hx => hsf x (hsub x hx)) qa qc (g := mkF m pc L stk) rfl (by rw [hml]; exact hsz) (Steps.refl _) (argsL := A) (rest := S) (lenOf hpd hln) hst (by show 2 * 0 + _ ≤ _; omega) hd (fun _ _ => ⟨rfl, eT, hc, hs⟩)
  dsimp only [Pt.U, Pt.locs, Pt.cells, Pt.slots] at X' hS' hge hQ e1 e2 e3 hC' hE' hN' st
  subst e1 e2 e3 eT
  refine (K T' T'.heap v ⟨T'.vm, T'.heap.size, locs ++ Lc, X', rfl, hS.trans hS' (Nat.le_trans hk hge), Nat.le_refl _, State.Warmed39.trans (t := s.setVm vm0) hZ hS'.1, by rw [show (s.setVm T'.vm).vm = T'.vm from rfl, hS'.1.alike.findClass]; exact hown, hF.app hFr, fun q => ?_, hC.trans hC', fun x hx => ⟨Nat.lt_of_lt_of_le (hsf x hx).1 hge, hC'.safe (hsf x hx).1 (hsf x hx).2⟩, hE', ⟨a1, hEL⟩, hx, rfl, hml, hnm, hrt, hlk⟩ hQ hge).st fun u k => st.trans k
  exact State.WarmedH.trans (t := s.setVm vm0) (hN q) (State.WarmedH.trans (s := s.setVm vm0) (t := T.setVm vm₁) hW1 (hN' q))
theorem o_virtualUp (pc' : Nat) (A : List Value) (W : Wk p l e R s m args below meth c Z y bytes maxL ret T h ce sl sf) {y' : MethodName} {bytes' : ByteArray} {maxL' : Nat} {ret' : Option FieldType} {rm : Room} {sf' : List Addr} {Q : Option Value → Heap → Prop} {stk : List Value} {i : Nat} {a : Addr} {C0 owner : String} {x' : MethodName} (w1 : (Jvm.Cond.methodLink y.cls i x').before a0 Z = true) (w2 : (Jvm.Cond.sameMethod x'.cls owner x'.name x'.desc).before a0 Z = true) (w5 : (Jvm.Cond.declares ⟨owner, x'.name, x'.desc⟩).before a0 Z = true) (w3 : (Jvm.Cond.selects C0 x' y').before a0 Z = true) (w4 : (Jvm.Cond.instanceMethod y').before a0 Z = true) (wz : (Jvm.Cond.initialized y'.cls).before a0 Z = true) (wc : (Jvm.Cond.code y' bytes' maxL' ret').before a0 Z = true) (E : Exa Z h a C0) (C : Con l Z y' bytes' maxL' ret' rm (.ref a :: A).toArray h sf' Q) {ps : List FieldType} {rt : Option FieldType} (hpd : parseMethodDescriptor x'.desc = some ⟨ps, rt⟩) (hd : decode bytes pc = .ok (.invokevirtual i, 3)) (hst : stk = A.reverse ++ .ref a :: S) (hsub : ∀ x ∈ sf', x ∈ sf) (K : ∀ T' h' v, Wk p l e R s m args below meth c Z y bytes maxL ret T' h' (ce + rm.cells) (sl + rm.slots) sf → Q v h' → h.size ≤ h'.size → Go p e below G T' (mkF m pc' L (v.toList ++ S))) (hsz : L.size = maxL := by rfl) (hln : A.length = ps.length := by rfl) (hy : owner ≠ "java/lang/invoke/MethodHandle" ∧ owner ≠ "java/lang/invoke/VarHandle" := by decide) (hf : rm.frames + 1 ≤ R.frames := by decide) (hl : (S.map fun v => v.category).sum + (maxL' + 11) + rm.locals ≤ R.locals := by first | decide | exact Nat.le_of_ble_eq_true rfl) (hc : ce + rm.cells ≤ R.cells := by decide) (hs : sl + rm.slots ≤ R.slots := by decide) (hp : pc + 3 = pc' := by rfl) : Go p e below G T (mkF m pc L stk) := by
  subst hp
  obtain ⟨vm0, k0, locs, X, eT, hS, hk, hZ, hown, hF, hN, hC, hsf, hE, ⟨a1, hEL⟩, hx, hby, hml, hnm, hrt, hlk⟩ := W
  subst hby
  obtain ⟨cB, kB, qa, qb, qc⟩ := isOf (T := T) hZ eT E
  obtain ⟨v, vm₁, ⟨T', locs', ce', sl'⟩, hW1, X', hS', hge, ⟨Lc, hQ, hFr, e1, e2, e3, hC', hE', hN'⟩, st⟩ := X.virtualBackUpS hx (x := x') (y := y') (owner := owner) hown (mvT hZ w1) (mvT hZ w2) (mvT hZ w5) hy (mvT hZ w3) (mvT hZ w4) (own_back (Wd := (S.map fun v => v.category).sum) C hZ wc wz hf hl hEL hC.1 fun x hx => hsf x (hsub x hx)) qa qc (g := mkF m pc L stk) rfl (by rw [hml]; exact hsz) (Steps.refl _) (argsL := A) (rest := S) (lenOf hpd hln) hst (by show 2 * 0 + _ ≤ _; omega) hd (fun _ _ => ⟨rfl, eT, hc, hs⟩)
  dsimp only [Pt.U, Pt.locs, Pt.cells, Pt.slots] at X' hS' hge hQ e1 e2 e3 hC' hE' hN' st
  subst e1 e2 e3 eT
  refine (K T' T'.heap v ⟨T'.vm, T'.heap.size, locs ++ Lc, X', rfl, hS.trans hS' (Nat.le_trans hk hge), Nat.le_refl _, State.Warmed39.trans (t := s.setVm vm0) hZ hS'.1, by rw [show (s.setVm T'.vm).vm = T'.vm from rfl, hS'.1.alike.findClass]; exact hown, hF.app hFr, fun q => ?_, hC.trans hC', fun x hx => ⟨Nat.lt_of_lt_of_le (hsf x hx).1 hge, hC'.safe (hsf x hx).1 (hsf x hx).2⟩, hE', ⟨a1, hEL⟩, hx, rfl, hml, hnm, hrt, hlk⟩ hQ hge).st fun u k => st.trans k
  exact State.WarmedH.trans (t := s.setVm vm0) (hN q) (State.WarmedH.trans (s := s.setVm vm0) (t := T.setVm vm₁) hW1 (hN' q))
end Own
theorem own_sx {Z : State} {args a0 : Array Value} {C n d K : String} (hx : (Jvm.Cond.exactly (Jvm.Term.static C n d) K).value args Z none Z [] = some true) (hi : (Jvm.Cond.initialized C).before a0 Z = true) (hl : (Jvm.Cond.laysStatic C n d).before a0 Z = true) : ∃ a, Sta Z Z.heap C n d (.ref a) ∧ Exa Z Z.heap a K ∧ (Jvm.Term.static C n d).eval args Z none [] Z = some (.ref a) := by
  obtain ⟨a', c', cell, k, e1, -⟩ := Cond.exactly_spec (Cond.before_iff.mpr hx)
  exact ⟨a', Sta.start (args := a0) e1 (Or.inr ⟨hi, hl⟩), Exa.start e1 hx, e1⟩
theorem own_fx {Z : State} {args : Array Value} {t : Jvm.Term} {a : Addr} {O n d : String} {v : Value} {u : Jvm.Term} (e : t.eval args Z none [] Z = some (.ref a)) (hu : u.eval args Z none [] Z = some v) (hx : (Jvm.Cond.eq (Jvm.Term.field t O n d) u).value args Z none Z [] = some true) (hk : ∀ w, Kin v w → Kin w v → (Jvm.Cond.eq (Jvm.Term.field t O n d) u).value args Z none Z [] = some true → (Jvm.Term.field t O n d).eval args Z none [] Z = some w → w = v) : Fld Z Z.heap a O n d v := by
  obtain ⟨x, y, e1, e2, k1, k2⟩ := cmp_v (Or.inl hx)
  cases hu.symm.trans e2
  have q := hk x k2 k1 hx e1
  subst q
  refine Fld.start ?_
  have e3 := e1
  simp only [Jvm.Term.eval, e, Option.bind_eq_bind, Option.bind_some] at e3
  exact e3
theorem own_fi {Z : State} {args : Array Value} {t : Jvm.Term} {a : Addr} {O n d : String} {k : Int32} (e : t.eval args Z none [] Z = some (.ref a)) (hx : (Jvm.Cond.eq (Jvm.Term.field t O n d) (Jvm.Term.int k)).value args Z none Z [] = some true) : Fld Z Z.heap a O n d (.int k) := by
  refine own_fx e (Jvm.Term.int_eval k) hx fun w k1 k2 h1 h2 => ?_
  obtain ⟨z, rfl⟩ := k1
  simp [Jvm.Cond.value, h2, Jvm.Term.int_eval] at h1
  rw [h1]
theorem d1_0 : decode method_3_code 0 = .ok (.iload_n 0, 1) := by decide +kernel
theorem d1_1 : decode method_3_code 1 = .ok (.iconst 3, 1) := by decide +kernel
theorem d1_2 : decode method_3_code 2 = .ok (.iand, 1) := by decide +kernel
theorem d1_3 : decode method_3_code 3 = .ok (.iconst 3, 1) := by decide +kernel
theorem d1_4 : decode method_3_code 4 = .ok (.irem, 1) := by decide +kernel
theorem d1_5 : decode method_3_code 5 = .ok (.istore_n 1, 1) := by decide +kernel
theorem d1_6 : decode method_3_code 6 = .ok (.iload_n 1, 1) := by decide +kernel
theorem d1_7 : decode method_3_code 7 = .ok (.ifCond .ne 8, 3) := by decide +kernel
theorem d1_10 : decode method_3_code 10 = .ok (.bipush 45, 2) := by decide +kernel
theorem d1_12 : decode method_3_code 12 = .ok (.goto 15, 3) := by decide +kernel
theorem d1_15 : decode method_3_code 15 = .ok (.iload_n 1, 1) := by decide +kernel
theorem d1_16 : decode method_3_code 16 = .ok (.iconst 1, 1) := by decide +kernel
theorem d1_17 : decode method_3_code 17 = .ok (.if_icmp .ne 8, 3) := by decide +kernel
theorem d1_20 : decode method_3_code 20 = .ok (.bipush 49, 2) := by decide +kernel
theorem d1_22 : decode method_3_code 22 = .ok (.goto 5, 3) := by decide +kernel
theorem d1_25 : decode method_3_code 25 = .ok (.bipush 48, 2) := by decide +kernel
theorem d1_27 : decode method_3_code 27 = .ok (.ireturn, 1) := by decide +kernel
theorem d2_0 : decode method_4_code 0 = .ok (.iload_n 0, 1) := by decide +kernel
theorem d2_1 : decode method_4_code 1 = .ok (.iconst 3, 1) := by decide +kernel
theorem d2_2 : decode method_4_code 2 = .ok (.iand, 1) := by decide +kernel
theorem d2_3 : decode method_4_code 3 = .ok (.istore_n 1, 1) := by decide +kernel
theorem d2_4 : decode method_4_code 4 = .ok (.iload_n 1, 1) := by decide +kernel
theorem d2_5 : decode method_4_code 5 = .ok (.iconst 1, 1) := by decide +kernel
theorem d2_6 : decode method_4_code 6 = .ok (.if_icmp .ne 8, 3) := by decide +kernel
theorem d2_9 : decode method_4_code 9 = .ok (.bipush 49, 2) := by decide +kernel
theorem d2_11 : decode method_4_code 11 = .ok (.goto 15, 3) := by decide +kernel
theorem d2_14 : decode method_4_code 14 = .ok (.iload_n 1, 1) := by decide +kernel
theorem d2_15 : decode method_4_code 15 = .ok (.iconst 2, 1) := by decide +kernel
theorem d2_16 : decode method_4_code 16 = .ok (.if_icmp .ne 8, 3) := by decide +kernel
theorem d2_19 : decode method_4_code 19 = .ok (.bipush 57, 2) := by decide +kernel
theorem d2_21 : decode method_4_code 21 = .ok (.goto 5, 3) := by decide +kernel
theorem d2_24 : decode method_4_code 24 = .ok (.bipush 48, 2) := by decide +kernel
theorem d2_26 : decode method_4_code 26 = .ok (.ireturn, 1) := by decide +kernel
theorem d3_0 : decode method_5_code 0 = .ok (.iload_n 1, 1) := by decide +kernel
theorem d3_1 : decode method_5_code 1 = .ok (.ifCond .ne 14, 3) := by decide +kernel
theorem d3_4 : decode method_5_code 4 = .ok (.new 33, 3) := by decide +kernel
theorem d3_7 : decode method_5_code 7 = .ok (.dup, 1) := by decide +kernel
theorem d3_8 : decode method_5_code 8 = .ok (.iconst 0, 1) := by decide +kernel
theorem d3_9 : decode method_5_code 9 = .ok (.newarray .char, 2) := by decide +kernel
theorem d3_11 : decode method_5_code 11 = .ok (.invokespecial 35, 3) := by decide +kernel
theorem d3_14 : decode method_5_code 14 = .ok (.areturn, 1) := by decide +kernel
theorem d3_15 : decode method_5_code 15 = .ok (.iload_n 1, 1) := by decide +kernel
theorem d3_16 : decode method_5_code 16 = .ok (.iconst 1, 1) := by decide +kernel
theorem d3_17 : decode method_5_code 17 = .ok (.if_icmp .ne 20, 3) := by decide +kernel
theorem d3_20 : decode method_5_code 20 = .ok (.new 33, 3) := by decide +kernel
theorem d3_23 : decode method_5_code 23 = .ok (.dup, 1) := by decide +kernel
theorem d3_24 : decode method_5_code 24 = .ok (.iconst 1, 1) := by decide +kernel
theorem d3_25 : decode method_5_code 25 = .ok (.newarray .char, 2) := by decide +kernel
theorem d3_27 : decode method_5_code 27 = .ok (.dup, 1) := by decide +kernel
theorem d3_28 : decode method_5_code 28 = .ok (.iconst 0, 1) := by decide +kernel
theorem d3_29 : decode method_5_code 29 = .ok (.aload_n 0, 1) := by decide +kernel
theorem d3_30 : decode method_5_code 30 = .ok (.iconst 0, 1) := by decide +kernel
theorem d3_31 : decode method_5_code 31 = .ok (.caload, 1) := by decide +kernel
theorem d3_32 : decode method_5_code 32 = .ok (.castore, 1) := by decide +kernel
theorem d3_33 : decode method_5_code 33 = .ok (.invokespecial 35, 3) := by decide +kernel
theorem d3_36 : decode method_5_code 36 = .ok (.areturn, 1) := by decide +kernel
theorem d3_37 : decode method_5_code 37 = .ok (.iload_n 1, 1) := by decide +kernel
theorem d3_38 : decode method_5_code 38 = .ok (.iconst 2, 1) := by decide +kernel
theorem d3_39 : decode method_5_code 39 = .ok (.if_icmp .ne 26, 3) := by decide +kernel
theorem d3_42 : decode method_5_code 42 = .ok (.new 33, 3) := by decide +kernel
theorem d3_45 : decode method_5_code 45 = .ok (.dup, 1) := by decide +kernel
theorem d3_46 : decode method_5_code 46 = .ok (.iconst 2, 1) := by decide +kernel
theorem d3_47 : decode method_5_code 47 = .ok (.newarray .char, 2) := by decide +kernel
theorem d3_49 : decode method_5_code 49 = .ok (.dup, 1) := by decide +kernel
theorem d3_50 : decode method_5_code 50 = .ok (.iconst 0, 1) := by decide +kernel
theorem d3_51 : decode method_5_code 51 = .ok (.aload_n 0, 1) := by decide +kernel
theorem d3_52 : decode method_5_code 52 = .ok (.iconst 0, 1) := by decide +kernel
theorem d3_53 : decode method_5_code 53 = .ok (.caload, 1) := by decide +kernel
theorem d3_54 : decode method_5_code 54 = .ok (.castore, 1) := by decide +kernel
theorem d3_55 : decode method_5_code 55 = .ok (.dup, 1) := by decide +kernel
theorem d3_56 : decode method_5_code 56 = .ok (.iconst 1, 1) := by decide +kernel
theorem d3_57 : decode method_5_code 57 = .ok (.aload_n 0, 1) := by decide +kernel
theorem d3_58 : decode method_5_code 58 = .ok (.iconst 1, 1) := by decide +kernel
theorem d3_59 : decode method_5_code 59 = .ok (.caload, 1) := by decide +kernel
theorem d3_60 : decode method_5_code 60 = .ok (.castore, 1) := by decide +kernel
theorem d3_61 : decode method_5_code 61 = .ok (.invokespecial 35, 3) := by decide +kernel
theorem d3_64 : decode method_5_code 64 = .ok (.areturn, 1) := by decide +kernel
theorem d3_65 : decode method_5_code 65 = .ok (.new 33, 3) := by decide +kernel
theorem d3_68 : decode method_5_code 68 = .ok (.dup, 1) := by decide +kernel
theorem d3_69 : decode method_5_code 69 = .ok (.iconst 3, 1) := by decide +kernel
theorem d3_70 : decode method_5_code 70 = .ok (.newarray .char, 2) := by decide +kernel
theorem d3_72 : decode method_5_code 72 = .ok (.dup, 1) := by decide +kernel
theorem d3_73 : decode method_5_code 73 = .ok (.iconst 0, 1) := by decide +kernel
theorem d3_74 : decode method_5_code 74 = .ok (.aload_n 0, 1) := by decide +kernel
theorem d3_75 : decode method_5_code 75 = .ok (.iconst 0, 1) := by decide +kernel
theorem d3_76 : decode method_5_code 76 = .ok (.caload, 1) := by decide +kernel
theorem d3_77 : decode method_5_code 77 = .ok (.castore, 1) := by decide +kernel
theorem d3_78 : decode method_5_code 78 = .ok (.dup, 1) := by decide +kernel
theorem d3_79 : decode method_5_code 79 = .ok (.iconst 1, 1) := by decide +kernel
theorem d3_80 : decode method_5_code 80 = .ok (.aload_n 0, 1) := by decide +kernel
theorem d3_81 : decode method_5_code 81 = .ok (.iconst 1, 1) := by decide +kernel
theorem d3_82 : decode method_5_code 82 = .ok (.caload, 1) := by decide +kernel
theorem d3_83 : decode method_5_code 83 = .ok (.castore, 1) := by decide +kernel
theorem d3_84 : decode method_5_code 84 = .ok (.dup, 1) := by decide +kernel
theorem d3_85 : decode method_5_code 85 = .ok (.iconst 2, 1) := by decide +kernel
theorem d3_86 : decode method_5_code 86 = .ok (.aload_n 0, 1) := by decide +kernel
theorem d3_87 : decode method_5_code 87 = .ok (.iconst 2, 1) := by decide +kernel
theorem d3_88 : decode method_5_code 88 = .ok (.caload, 1) := by decide +kernel
theorem d3_89 : decode method_5_code 89 = .ok (.castore, 1) := by decide +kernel
theorem d3_90 : decode method_5_code 90 = .ok (.invokespecial 35, 3) := by decide +kernel
theorem d3_93 : decode method_5_code 93 = .ok (.areturn, 1) := by decide +kernel
theorem d22_0 : decode method_6_code 0 = .ok (.iload_n 1, 1) := by decide +kernel
theorem d22_1 : decode method_6_code 1 = .ok (.istore_n 2, 1) := by decide +kernel
theorem d22_2 : decode method_6_code 2 = .ok (.iload_n 2, 1) := by decide +kernel
theorem d22_3 : decode method_6_code 3 = .ok (.iconst 3, 1) := by decide +kernel
theorem d22_4 : decode method_6_code 4 = .ok (.if_icmp .ne 13, 3) := by decide +kernel
theorem d22_7 : decode method_6_code 7 = .ok (.aload_n 0, 1) := by decide +kernel
theorem d22_8 : decode method_6_code 8 = .ok (.iconst 2, 1) := by decide +kernel
theorem d22_9 : decode method_6_code 9 = .ok (.caload, 1) := by decide +kernel
theorem d22_10 : decode method_6_code 10 = .ok (.bipush 48, 2) := by decide +kernel
theorem d22_12 : decode method_6_code 12 = .ok (.if_icmp .ne 5, 3) := by decide +kernel
theorem d22_15 : decode method_6_code 15 = .ok (.iconst 2, 1) := by decide +kernel
theorem d22_16 : decode method_6_code 16 = .ok (.istore_n 2, 1) := by decide +kernel
theorem d22_17 : decode method_6_code 17 = .ok (.iload_n 2, 1) := by decide +kernel
theorem d22_18 : decode method_6_code 18 = .ok (.iconst 2, 1) := by decide +kernel
theorem d22_19 : decode method_6_code 19 = .ok (.if_icmp .ne 13, 3) := by decide +kernel
theorem d22_22 : decode method_6_code 22 = .ok (.aload_n 0, 1) := by decide +kernel
theorem d22_23 : decode method_6_code 23 = .ok (.iconst 1, 1) := by decide +kernel
theorem d22_24 : decode method_6_code 24 = .ok (.caload, 1) := by decide +kernel
theorem d22_25 : decode method_6_code 25 = .ok (.bipush 48, 2) := by decide +kernel
theorem d22_27 : decode method_6_code 27 = .ok (.if_icmp .ne 5, 3) := by decide +kernel
theorem d22_30 : decode method_6_code 30 = .ok (.iconst 1, 1) := by decide +kernel
theorem d22_31 : decode method_6_code 31 = .ok (.istore_n 2, 1) := by decide +kernel
theorem d22_32 : decode method_6_code 32 = .ok (.iload_n 2, 1) := by decide +kernel
theorem d22_33 : decode method_6_code 33 = .ok (.iconst 1, 1) := by decide +kernel
theorem d22_34 : decode method_6_code 34 = .ok (.if_icmp .ne 13, 3) := by decide +kernel
theorem d22_37 : decode method_6_code 37 = .ok (.aload_n 0, 1) := by decide +kernel
theorem d22_38 : decode method_6_code 38 = .ok (.iconst 0, 1) := by decide +kernel
theorem d22_39 : decode method_6_code 39 = .ok (.caload, 1) := by decide +kernel
theorem d22_40 : decode method_6_code 40 = .ok (.bipush 48, 2) := by decide +kernel
theorem d22_42 : decode method_6_code 42 = .ok (.if_icmp .ne 5, 3) := by decide +kernel
theorem d22_45 : decode method_6_code 45 = .ok (.iconst 0, 1) := by decide +kernel
theorem d22_46 : decode method_6_code 46 = .ok (.istore_n 2, 1) := by decide +kernel
theorem d22_47 : decode method_6_code 47 = .ok (.iload_n 2, 1) := by decide +kernel
theorem d22_48 : decode method_6_code 48 = .ok (.ireturn, 1) := by decide +kernel
theorem d10_0 : decode prog_34_method_1_code 0 = .ok (.aload_n 0, 1) := by decide +kernel
theorem d10_1 : decode prog_34_method_1_code 1 = .ok (.invokespecial 1, 3) := by decide +kernel
theorem d10_4 : decode prog_34_method_1_code 4 = .ok (.aload_n 3, 1) := by decide +kernel
theorem d10_5 : decode prog_34_method_1_code 5 = .ok (.invokevirtual 7, 3) := by decide +kernel
theorem d10_8 : decode prog_34_method_1_code 8 = .ok (.istore 4, 2) := by decide +kernel
theorem d10_10 : decode prog_34_method_1_code 10 = .ok (.iload 4, 2) := by decide +kernel
theorem d10_12 : decode prog_34_method_1_code 12 = .ok (.ifCond .le 22, 3) := by decide +kernel
theorem d10_15 : decode prog_34_method_1_code 15 = .ok (.aload_n 3, 1) := by decide +kernel
theorem d10_16 : decode prog_34_method_1_code 16 = .ok (.iload 4, 2) := by decide +kernel
theorem d10_18 : decode prog_34_method_1_code 18 = .ok (.iconst 1, 1) := by decide +kernel
theorem d10_19 : decode prog_34_method_1_code 19 = .ok (.isub, 1) := by decide +kernel
theorem d10_20 : decode prog_34_method_1_code 20 = .ok (.invokevirtual 13, 3) := by decide +kernel
theorem d10_23 : decode prog_34_method_1_code 23 = .ok (.bipush 48, 2) := by decide +kernel
theorem d10_25 : decode prog_34_method_1_code 25 = .ok (.if_icmp .ne 9, 3) := by decide +kernel
theorem d10_28 : decode prog_34_method_1_code 28 = .ok (.iinc 4 (-1), 3) := by decide +kernel
theorem d10_31 : decode prog_34_method_1_code 31 = .ok (.goto (-21), 3) := by decide +kernel
theorem d10_34 : decode prog_34_method_1_code 34 = .ok (.aload_n 0, 1) := by decide +kernel
theorem d10_35 : decode prog_34_method_1_code 35 = .ok (.aload_n 1, 1) := by decide +kernel
theorem d10_36 : decode prog_34_method_1_code 36 = .ok (.putfield 17, 3) := by decide +kernel
theorem d10_39 : decode prog_34_method_1_code 39 = .ok (.aload_n 0, 1) := by decide +kernel
theorem d10_40 : decode prog_34_method_1_code 40 = .ok (.iload_n 2, 1) := by decide +kernel
theorem d10_41 : decode prog_34_method_1_code 41 = .ok (.putfield 23, 3) := by decide +kernel
theorem d10_44 : decode prog_34_method_1_code 44 = .ok (.aload_n 0, 1) := by decide +kernel
theorem d10_45 : decode prog_34_method_1_code 45 = .ok (.aload_n 3, 1) := by decide +kernel
theorem d10_46 : decode prog_34_method_1_code 46 = .ok (.iconst 0, 1) := by decide +kernel
theorem d10_47 : decode prog_34_method_1_code 47 = .ok (.iload 4, 2) := by decide +kernel
theorem d10_49 : decode prog_34_method_1_code 49 = .ok (.invokevirtual 27, 3) := by decide +kernel
theorem d10_52 : decode prog_34_method_1_code 52 = .ok (.putfield 31, 3) := by decide +kernel
theorem d10_55 : decode prog_34_method_1_code 55 = .ok (.return_, 1) := by decide +kernel
theorem d23_0 : decode prog_34_method_4_code 0 = .ok (.aload_n 1, 1) := by decide +kernel
theorem d23_1 : decode prog_34_method_4_code 1 = .ok (.instanceof 18, 3) := by decide +kernel
theorem d23_4 : decode prog_34_method_4_code 4 = .ok (.ifCond .eq 51, 3) := by decide +kernel
theorem d23_7 : decode prog_34_method_4_code 7 = .ok (.aload_n 1, 1) := by decide +kernel
theorem d23_8 : decode prog_34_method_4_code 8 = .ok (.checkcast 18, 3) := by decide +kernel
theorem d23_11 : decode prog_34_method_4_code 11 = .ok (.astore_n 2, 1) := by decide +kernel
theorem d23_12 : decode prog_34_method_4_code 12 = .ok (.aload_n 0, 1) := by decide +kernel
theorem d23_13 : decode prog_34_method_4_code 13 = .ok (.getfield 17, 3) := by decide +kernel
theorem d23_16 : decode prog_34_method_4_code 16 = .ok (.aload_n 2, 1) := by decide +kernel
theorem d23_17 : decode prog_34_method_4_code 17 = .ok (.getfield 17, 3) := by decide +kernel
theorem d23_20 : decode prog_34_method_4_code 20 = .ok (.invokevirtual 79, 3) := by decide +kernel
theorem d23_23 : decode prog_34_method_4_code 23 = .ok (.ifCond .eq 32, 3) := by decide +kernel
theorem d23_26 : decode prog_34_method_4_code 26 = .ok (.aload_n 0, 1) := by decide +kernel
theorem d23_27 : decode prog_34_method_4_code 27 = .ok (.getfield 23, 3) := by decide +kernel
theorem d23_30 : decode prog_34_method_4_code 30 = .ok (.aload_n 2, 1) := by decide +kernel
theorem d23_31 : decode prog_34_method_4_code 31 = .ok (.getfield 23, 3) := by decide +kernel
theorem d23_34 : decode prog_34_method_4_code 34 = .ok (.if_icmp .ne 21, 3) := by decide +kernel
theorem d23_37 : decode prog_34_method_4_code 37 = .ok (.aload_n 0, 1) := by decide +kernel
theorem d23_38 : decode prog_34_method_4_code 38 = .ok (.getfield 31, 3) := by decide +kernel
theorem d23_41 : decode prog_34_method_4_code 41 = .ok (.aload_n 2, 1) := by decide +kernel
theorem d23_42 : decode prog_34_method_4_code 42 = .ok (.getfield 31, 3) := by decide +kernel
theorem d23_45 : decode prog_34_method_4_code 45 = .ok (.invokevirtual 79, 3) := by decide +kernel
theorem d23_48 : decode prog_34_method_4_code 48 = .ok (.ifCond .eq 7, 3) := by decide +kernel
theorem d23_51 : decode prog_34_method_4_code 51 = .ok (.iconst 1, 1) := by decide +kernel
theorem d23_52 : decode prog_34_method_4_code 52 = .ok (.goto 4, 3) := by decide +kernel
theorem d23_55 : decode prog_34_method_4_code 55 = .ok (.iconst 0, 1) := by decide +kernel
theorem d23_56 : decode prog_34_method_4_code 56 = .ok (.ireturn, 1) := by decide +kernel
theorem d8_0 : decode jdk_52_method_21_code 0 = .ok (.iconst 0, 1) := by decide +kernel
theorem d8_1 : decode jdk_52_method_21_code 1 = .ok (.istore 5, 2) := by decide +kernel
theorem d8_3 : decode jdk_52_method_21_code 3 = .ok (.iload 5, 2) := by decide +kernel
theorem d8_5 : decode jdk_52_method_21_code 5 = .ok (.iload 4, 2) := by decide +kernel
theorem d8_7 : decode jdk_52_method_21_code 7 = .ok (.if_icmp .ge 37, 3) := by decide +kernel
theorem d8_10 : decode jdk_52_method_21_code 10 = .ok (.aload_n 0, 1) := by decide +kernel
theorem d8_11 : decode jdk_52_method_21_code 11 = .ok (.iload_n 1, 1) := by decide +kernel
theorem d8_12 : decode jdk_52_method_21_code 12 = .ok (.caload, 1) := by decide +kernel
theorem d8_13 : decode jdk_52_method_21_code 13 = .ok (.istore 6, 2) := by decide +kernel
theorem d8_15 : decode jdk_52_method_21_code 15 = .ok (.iload 6, 2) := by decide +kernel
theorem d8_17 : decode jdk_52_method_21_code 17 = .ok (.sipush 255, 3) := by decide +kernel
theorem d8_20 : decode jdk_52_method_21_code 20 = .ok (.if_icmp .le 6, 3) := by decide +kernel
theorem d8_23 : decode jdk_52_method_21_code 23 = .ok (.iload 5, 2) := by decide +kernel
theorem d8_25 : decode jdk_52_method_21_code 25 = .ok (.ireturn, 1) := by decide +kernel
theorem d8_26 : decode jdk_52_method_21_code 26 = .ok (.aload_n 2, 1) := by decide +kernel
theorem d8_27 : decode jdk_52_method_21_code 27 = .ok (.iload_n 3, 1) := by decide +kernel
theorem d8_28 : decode jdk_52_method_21_code 28 = .ok (.iload 6, 2) := by decide +kernel
theorem d8_30 : decode jdk_52_method_21_code 30 = .ok (.i2b, 1) := by decide +kernel
theorem d8_31 : decode jdk_52_method_21_code 31 = .ok (.bastore, 1) := by decide +kernel
theorem d8_32 : decode jdk_52_method_21_code 32 = .ok (.iinc 1 1, 3) := by decide +kernel
theorem d8_35 : decode jdk_52_method_21_code 35 = .ok (.iinc 3 1, 3) := by decide +kernel
theorem d8_38 : decode jdk_52_method_21_code 38 = .ok (.iinc 5 1, 3) := by decide +kernel
theorem d8_41 : decode jdk_52_method_21_code 41 = .ok (.goto (-38), 3) := by decide +kernel
theorem d8_44 : decode jdk_52_method_21_code 44 = .ok (.iload 4, 2) := by decide +kernel
theorem d8_46 : decode jdk_52_method_21_code 46 = .ok (.ireturn, 1) := by decide +kernel
theorem pn0 : plainName "java/lang/StringUTF16" = true := by first | (simp [plainName, overriddenIn]; done) | decide +kernel
theorem d7_0 : decode jdk_52_method_16_code 0 = .ok (.iload_n 2, 1) := by decide +kernel
theorem d7_1 : decode jdk_52_method_16_code 1 = .ok (.newarray .byte, 2) := by decide +kernel
theorem d7_3 : decode jdk_52_method_16_code 3 = .ok (.astore_n 3, 1) := by decide +kernel
theorem d7_4 : decode jdk_52_method_16_code 4 = .ok (.aload_n 0, 1) := by decide +kernel
theorem d7_5 : decode jdk_52_method_16_code 5 = .ok (.iload_n 1, 1) := by decide +kernel
theorem d7_6 : decode jdk_52_method_16_code 6 = .ok (.aload_n 3, 1) := by decide +kernel
theorem d7_7 : decode jdk_52_method_16_code 7 = .ok (.iconst 0, 1) := by decide +kernel
theorem d7_8 : decode jdk_52_method_16_code 8 = .ok (.iload_n 2, 1) := by decide +kernel
theorem d7_9 : decode jdk_52_method_16_code 9 = .ok (.invokestatic 115, 3) := by decide +kernel
theorem d7_12 : decode jdk_52_method_16_code 12 = .ok (.istore 4, 2) := by decide +kernel
theorem d7_14 : decode jdk_52_method_16_code 14 = .ok (.iload 4, 2) := by decide +kernel
theorem d7_16 : decode jdk_52_method_16_code 16 = .ok (.iload_n 2, 1) := by decide +kernel
theorem d7_17 : decode jdk_52_method_16_code 17 = .ok (.if_icmp .eq 40, 3) := by decide +kernel
theorem d7_20 : decode jdk_52_method_16_code 20 = .ok (.aload_n 0, 1) := by decide +kernel
theorem d7_21 : decode jdk_52_method_16_code 21 = .ok (.iload_n 1, 1) := by decide +kernel
theorem d7_22 : decode jdk_52_method_16_code 22 = .ok (.iload_n 2, 1) := by decide +kernel
theorem d7_23 : decode jdk_52_method_16_code 23 = .ok (.invokestatic 119, 3) := by decide +kernel
theorem d7_26 : decode jdk_52_method_16_code 26 = .ok (.astore 5, 2) := by decide +kernel
theorem d7_28 : decode jdk_52_method_16_code 28 = .ok (.aload 5, 2) := by decide +kernel
theorem d7_30 : decode jdk_52_method_16_code 30 = .ok (.iload 4, 2) := by decide +kernel
theorem d7_32 : decode jdk_52_method_16_code 32 = .ok (.invokestatic 71, 3) := by decide +kernel
theorem d7_35 : decode jdk_52_method_16_code 35 = .ok (.sipush 255, 3) := by decide +kernel
theorem d7_38 : decode jdk_52_method_16_code 38 = .ok (.if_icmp .gt 16, 3) := by decide +kernel
theorem d7_41 : decode jdk_52_method_16_code 41 = .ok (.aload 5, 2) := by decide +kernel
theorem d7_43 : decode jdk_52_method_16_code 43 = .ok (.iconst 0, 1) := by decide +kernel
theorem d7_44 : decode jdk_52_method_16_code 44 = .ok (.aload_n 3, 1) := by decide +kernel
theorem d7_45 : decode jdk_52_method_16_code 45 = .ok (.iconst 0, 1) := by decide +kernel
theorem d7_46 : decode jdk_52_method_16_code 46 = .ok (.iload_n 2, 1) := by decide +kernel
theorem d7_47 : decode jdk_52_method_16_code 47 = .ok (.invokestatic 123, 3) := by decide +kernel
theorem d7_50 : decode jdk_52_method_16_code 50 = .ok (.iload_n 2, 1) := by decide +kernel
theorem d7_51 : decode jdk_52_method_16_code 51 = .ok (.if_icmp .eq 6, 3) := by decide +kernel
theorem d7_54 : decode jdk_52_method_16_code 54 = .ok (.aload 5, 2) := by decide +kernel
theorem d7_56 : decode jdk_52_method_16_code 56 = .ok (.areturn, 1) := by decide +kernel
theorem d7_57 : decode jdk_52_method_16_code 57 = .ok (.aload_n 3, 1) := by decide +kernel
theorem d7_58 : decode jdk_52_method_16_code 58 = .ok (.areturn, 1) := by decide +kernel
theorem pd0 : parseMethodDescriptor "([CI[BII)I" = some ⟨[(.array .char), .int, (.array .byte), .int, .int], some .int⟩ := by decide +kernel
theorem d9_0 : decode jdk_52_method_15_code 0 = .ok (.iload_n 1, 1) := by decide +kernel
theorem d9_1 : decode jdk_52_method_15_code 1 = .ok (.aload_n 0, 1) := by decide +kernel
theorem d9_2 : decode jdk_52_method_15_code 2 = .ok (.arraylength, 1) := by decide +kernel
theorem d9_3 : decode jdk_52_method_15_code 3 = .ok (.isub, 1) := by decide +kernel
theorem d9_4 : decode jdk_52_method_15_code 4 = .ok (.bipush 31, 2) := by decide +kernel
theorem d9_6 : decode jdk_52_method_15_code 6 = .ok (.iushr, 1) := by decide +kernel
theorem d9_7 : decode jdk_52_method_15_code 7 = .ok (.i2b, 1) := by decide +kernel
theorem d9_8 : decode jdk_52_method_15_code 8 = .ok (.ireturn, 1) := by decide +kernel
theorem d5_0 : decode jdk_42_method_149_code 0 = .ok (.aload_n 0, 1) := by decide +kernel
theorem d5_1 : decode jdk_42_method_149_code 1 = .ok (.invokespecial 1, 3) := by decide +kernel
theorem d5_4 : decode jdk_42_method_149_code 4 = .ok (.iload_n 3, 1) := by decide +kernel
theorem d5_5 : decode jdk_42_method_149_code 5 = .ok (.ifCond .ne 22, 3) := by decide +kernel
theorem d5_8 : decode jdk_42_method_149_code 8 = .ok (.aload_n 0, 1) := by decide +kernel
theorem d5_9 : decode jdk_42_method_149_code 9 = .ok (.ldc 7, 2) := by decide +kernel
theorem d5_11 : decode jdk_42_method_149_code 11 = .ok (.getfield 9, 3) := by decide +kernel
theorem d5_14 : decode jdk_42_method_149_code 14 = .ok (.putfield 9, 3) := by decide +kernel
theorem d5_17 : decode jdk_42_method_149_code 17 = .ok (.aload_n 0, 1) := by decide +kernel
theorem d5_18 : decode jdk_42_method_149_code 18 = .ok (.ldc 7, 2) := by decide +kernel
theorem d5_20 : decode jdk_42_method_149_code 20 = .ok (.getfield 15, 3) := by decide +kernel
theorem d5_23 : decode jdk_42_method_149_code 23 = .ok (.putfield 15, 3) := by decide +kernel
theorem d5_26 : decode jdk_42_method_149_code 26 = .ok (.return_, 1) := by decide +kernel
theorem d5_27 : decode jdk_42_method_149_code 27 = .ok (.getstatic 38, 3) := by decide +kernel
theorem d5_30 : decode jdk_42_method_149_code 30 = .ok (.ifCond .eq 28, 3) := by decide +kernel
theorem d5_33 : decode jdk_42_method_149_code 33 = .ok (.aload_n 1, 1) := by decide +kernel
theorem d5_34 : decode jdk_42_method_149_code 34 = .ok (.iload_n 2, 1) := by decide +kernel
theorem d5_35 : decode jdk_42_method_149_code 35 = .ok (.iload_n 3, 1) := by decide +kernel
theorem d5_36 : decode jdk_42_method_149_code 36 = .ok (.invokestatic 177, 3) := by decide +kernel
theorem d5_39 : decode jdk_42_method_149_code 39 = .ok (.astore 5, 2) := by decide +kernel
theorem d5_41 : decode jdk_42_method_149_code 41 = .ok (.aload_n 0, 1) := by decide +kernel
theorem d5_42 : decode jdk_42_method_149_code 42 = .ok (.aload 5, 2) := by decide +kernel
theorem d5_44 : decode jdk_42_method_149_code 44 = .ok (.iload_n 3, 1) := by decide +kernel
theorem d5_45 : decode jdk_42_method_149_code 45 = .ok (.invokestatic 47, 3) := by decide +kernel
theorem d5_48 : decode jdk_42_method_149_code 48 = .ok (.putfield 15, 3) := by decide +kernel
theorem d5_51 : decode jdk_42_method_149_code 51 = .ok (.aload_n 0, 1) := by decide +kernel
theorem d5_52 : decode jdk_42_method_149_code 52 = .ok (.aload 5, 2) := by decide +kernel
theorem d5_54 : decode jdk_42_method_149_code 54 = .ok (.putfield 9, 3) := by decide +kernel
theorem d5_57 : decode jdk_42_method_149_code 57 = .ok (.return_, 1) := by decide +kernel
theorem d5_58 : decode jdk_42_method_149_code 58 = .ok (.aload_n 0, 1) := by decide +kernel
theorem d5_59 : decode jdk_42_method_149_code 59 = .ok (.iconst 1, 1) := by decide +kernel
theorem d5_60 : decode jdk_42_method_149_code 60 = .ok (.putfield 15, 3) := by decide +kernel
theorem d5_63 : decode jdk_42_method_149_code 63 = .ok (.aload_n 0, 1) := by decide +kernel
theorem d5_64 : decode jdk_42_method_149_code 64 = .ok (.aload_n 1, 1) := by decide +kernel
theorem d5_65 : decode jdk_42_method_149_code 65 = .ok (.iload_n 2, 1) := by decide +kernel
theorem d5_66 : decode jdk_42_method_149_code 66 = .ok (.iload_n 3, 1) := by decide +kernel
theorem d5_67 : decode jdk_42_method_149_code 67 = .ok (.invokestatic 180, 3) := by decide +kernel
theorem d5_70 : decode jdk_42_method_149_code 70 = .ok (.putfield 9, 3) := by decide +kernel
theorem d5_73 : decode jdk_42_method_149_code 73 = .ok (.return_, 1) := by decide +kernel
theorem pn1 : plainName "java/lang/String" = true := by first | (simp [plainName, overriddenIn]; done) | decide +kernel
theorem pd1 : parseMethodDescriptor "([CII)[B" = some ⟨[(.array .char), .int, .int], some (.array .byte)⟩ := by decide +kernel
theorem pd2 : parseMethodDescriptor "([BI)B" = some ⟨[(.array .byte), .int], some .byte⟩ := by decide +kernel
theorem d4_0 : decode jdk_42_method_3_code 0 = .ok (.aload_n 0, 1) := by decide +kernel
theorem d4_1 : decode jdk_42_method_3_code 1 = .ok (.aload_n 1, 1) := by decide +kernel
theorem d4_2 : decode jdk_42_method_3_code 2 = .ok (.iconst 0, 1) := by decide +kernel
theorem d4_3 : decode jdk_42_method_3_code 3 = .ok (.aload_n 1, 1) := by decide +kernel
theorem d4_4 : decode jdk_42_method_3_code 4 = .ok (.arraylength, 1) := by decide +kernel
theorem d4_5 : decode jdk_42_method_3_code 5 = .ok (.aconst_null, 1) := by decide +kernel
theorem d4_6 : decode jdk_42_method_3_code 6 = .ok (.invokespecial 27, 3) := by decide +kernel
theorem d4_9 : decode jdk_42_method_3_code 9 = .ok (.return_, 1) := by decide +kernel
theorem pd3 : parseMethodDescriptor "([CIILjava/lang/Void;)V" = some ⟨[(.array .char), .int, .int, (.object "java/lang/Void")], none⟩ := by decide +kernel
theorem d30_0 : decode jdk_43_method_13_code 0 = .ok (.aload_n 0, 1) := by decide +kernel
theorem d30_1 : decode jdk_43_method_13_code 1 = .ok (.arraylength, 1) := by decide +kernel
theorem d30_2 : decode jdk_43_method_13_code 2 = .ok (.aload_n 1, 1) := by decide +kernel
theorem d30_3 : decode jdk_43_method_13_code 3 = .ok (.arraylength, 1) := by decide +kernel
theorem d30_4 : decode jdk_43_method_13_code 4 = .ok (.if_icmp .ne 30, 3) := by decide +kernel
theorem d30_7 : decode jdk_43_method_13_code 7 = .ok (.iconst 0, 1) := by decide +kernel
theorem d30_8 : decode jdk_43_method_13_code 8 = .ok (.istore_n 2, 1) := by decide +kernel
theorem d30_9 : decode jdk_43_method_13_code 9 = .ok (.iload_n 2, 1) := by decide +kernel
theorem d30_10 : decode jdk_43_method_13_code 10 = .ok (.aload_n 0, 1) := by decide +kernel
theorem d30_11 : decode jdk_43_method_13_code 11 = .ok (.arraylength, 1) := by decide +kernel
theorem d30_12 : decode jdk_43_method_13_code 12 = .ok (.if_icmp .ge 20, 3) := by decide +kernel
theorem d30_15 : decode jdk_43_method_13_code 15 = .ok (.aload_n 0, 1) := by decide +kernel
theorem d30_16 : decode jdk_43_method_13_code 16 = .ok (.iload_n 2, 1) := by decide +kernel
theorem d30_17 : decode jdk_43_method_13_code 17 = .ok (.baload, 1) := by decide +kernel
theorem d30_18 : decode jdk_43_method_13_code 18 = .ok (.aload_n 1, 1) := by decide +kernel
theorem d30_19 : decode jdk_43_method_13_code 19 = .ok (.iload_n 2, 1) := by decide +kernel
theorem d30_20 : decode jdk_43_method_13_code 20 = .ok (.baload, 1) := by decide +kernel
theorem d30_21 : decode jdk_43_method_13_code 21 = .ok (.if_icmp .eq 5, 3) := by decide +kernel
theorem d30_24 : decode jdk_43_method_13_code 24 = .ok (.iconst 0, 1) := by decide +kernel
theorem d30_25 : decode jdk_43_method_13_code 25 = .ok (.ireturn, 1) := by decide +kernel
theorem d30_26 : decode jdk_43_method_13_code 26 = .ok (.iinc 2 1, 3) := by decide +kernel
theorem d30_29 : decode jdk_43_method_13_code 29 = .ok (.goto (-20), 3) := by decide +kernel
theorem d30_32 : decode jdk_43_method_13_code 32 = .ok (.iconst 1, 1) := by decide +kernel
theorem d30_33 : decode jdk_43_method_13_code 33 = .ok (.ireturn, 1) := by decide +kernel
theorem d30_34 : decode jdk_43_method_13_code 34 = .ok (.iconst 0, 1) := by decide +kernel
theorem d30_35 : decode jdk_43_method_13_code 35 = .ok (.ireturn, 1) := by decide +kernel
theorem pn2 : plainName "java/lang/StringLatin1" = true := by first | (simp [plainName, overriddenIn]; done) | decide +kernel
theorem d29_0 : decode jdk_42_method_66_code 0 = .ok (.aload_n 0, 1) := by decide +kernel
theorem d29_1 : decode jdk_42_method_66_code 1 = .ok (.aload_n 1, 1) := by decide +kernel
theorem d29_2 : decode jdk_42_method_66_code 2 = .ok (.if_acmp .ne 5, 3) := by decide +kernel
theorem d29_5 : decode jdk_42_method_66_code 5 = .ok (.iconst 1, 1) := by decide +kernel
theorem d29_6 : decode jdk_42_method_66_code 6 = .ok (.ireturn, 1) := by decide +kernel
theorem d29_7 : decode jdk_42_method_66_code 7 = .ok (.aload_n 1, 1) := by decide +kernel
theorem d29_8 : decode jdk_42_method_66_code 8 = .ok (.instanceof 10, 3) := by decide +kernel
theorem d29_11 : decode jdk_42_method_66_code 11 = .ok (.ifCond .eq 43, 3) := by decide +kernel
theorem d29_14 : decode jdk_42_method_66_code 14 = .ok (.aload_n 1, 1) := by decide +kernel
theorem d29_15 : decode jdk_42_method_66_code 15 = .ok (.checkcast 10, 3) := by decide +kernel
theorem d29_18 : decode jdk_42_method_66_code 18 = .ok (.astore_n 2, 1) := by decide +kernel
theorem d29_19 : decode jdk_42_method_66_code 19 = .ok (.getstatic 38, 3) := by decide +kernel
theorem d29_22 : decode jdk_42_method_66_code 22 = .ok (.ifCond .eq 14, 3) := by decide +kernel
theorem d29_25 : decode jdk_42_method_66_code 25 = .ok (.aload_n 0, 1) := by decide +kernel
theorem d29_26 : decode jdk_42_method_66_code 26 = .ok (.getfield 15, 3) := by decide +kernel
theorem d29_29 : decode jdk_42_method_66_code 29 = .ok (.aload_n 2, 1) := by decide +kernel
theorem d29_30 : decode jdk_42_method_66_code 30 = .ok (.getfield 15, 3) := by decide +kernel
theorem d29_33 : decode jdk_42_method_66_code 33 = .ok (.if_icmp .ne 21, 3) := by decide +kernel
theorem d29_36 : decode jdk_42_method_66_code 36 = .ok (.aload_n 0, 1) := by decide +kernel
theorem d29_37 : decode jdk_42_method_66_code 37 = .ok (.getfield 9, 3) := by decide +kernel
theorem d29_40 : decode jdk_42_method_66_code 40 = .ok (.aload_n 2, 1) := by decide +kernel
theorem d29_41 : decode jdk_42_method_66_code 41 = .ok (.getfield 9, 3) := by decide +kernel
theorem d29_44 : decode jdk_42_method_66_code 44 = .ok (.invokestatic 541, 3) := by decide +kernel
theorem d29_47 : decode jdk_42_method_66_code 47 = .ok (.ifCond .eq 7, 3) := by decide +kernel
theorem d29_50 : decode jdk_42_method_66_code 50 = .ok (.iconst 1, 1) := by decide +kernel
theorem d29_51 : decode jdk_42_method_66_code 51 = .ok (.goto 4, 3) := by decide +kernel
theorem d29_54 : decode jdk_42_method_66_code 54 = .ok (.iconst 0, 1) := by decide +kernel
theorem d29_55 : decode jdk_42_method_66_code 55 = .ok (.ireturn, 1) := by decide +kernel
theorem pd4 : parseMethodDescriptor "([B[B)Z" = some ⟨[(.array .byte), (.array .byte)], some .boolean⟩ := by decide +kernel
theorem d12_0 : decode jdk_42_method_152_code 0 = .ok (.getstatic 38, 3) := by decide +kernel
theorem d12_3 : decode jdk_42_method_152_code 3 = .ok (.ifCond .eq 10, 3) := by decide +kernel
theorem d12_6 : decode jdk_42_method_152_code 6 = .ok (.aload_n 0, 1) := by decide +kernel
theorem d12_7 : decode jdk_42_method_152_code 7 = .ok (.getfield 15, 3) := by decide +kernel
theorem d12_10 : decode jdk_42_method_152_code 10 = .ok (.goto 4, 3) := by decide +kernel
theorem d12_13 : decode jdk_42_method_152_code 13 = .ok (.iconst 1, 1) := by decide +kernel
theorem d12_14 : decode jdk_42_method_152_code 14 = .ok (.ireturn, 1) := by decide +kernel
theorem d11_0 : decode jdk_42_method_54_code 0 = .ok (.aload_n 0, 1) := by decide +kernel
theorem d11_1 : decode jdk_42_method_54_code 1 = .ok (.getfield 9, 3) := by decide +kernel
theorem d11_4 : decode jdk_42_method_54_code 4 = .ok (.arraylength, 1) := by decide +kernel
theorem d11_5 : decode jdk_42_method_54_code 5 = .ok (.aload_n 0, 1) := by decide +kernel
theorem d11_6 : decode jdk_42_method_54_code 6 = .ok (.invokevirtual 335, 3) := by decide +kernel
theorem d11_9 : decode jdk_42_method_54_code 9 = .ok (.ishr, 1) := by decide +kernel
theorem d11_10 : decode jdk_42_method_54_code 10 = .ok (.ireturn, 1) := by decide +kernel
theorem pd5 : parseMethodDescriptor "()B" = some ⟨[], some .byte⟩ := by decide +kernel
theorem d14_0 : decode jdk_42_method_154_code 0 = .ok (.getstatic 38, 3) := by decide +kernel
theorem d14_3 : decode jdk_42_method_154_code 3 = .ok (.ifCond .eq 14, 3) := by decide +kernel
theorem d14_6 : decode jdk_42_method_154_code 6 = .ok (.aload_n 0, 1) := by decide +kernel
theorem d14_7 : decode jdk_42_method_154_code 7 = .ok (.getfield 15, 3) := by decide +kernel
theorem d14_10 : decode jdk_42_method_154_code 10 = .ok (.ifCond .ne 7, 3) := by decide +kernel
theorem d14_13 : decode jdk_42_method_154_code 13 = .ok (.iconst 1, 1) := by decide +kernel
theorem d14_14 : decode jdk_42_method_154_code 14 = .ok (.goto 4, 3) := by decide +kernel
theorem d14_17 : decode jdk_42_method_154_code 17 = .ok (.iconst 0, 1) := by decide +kernel
theorem d14_18 : decode jdk_42_method_154_code 18 = .ok (.ireturn, 1) := by decide +kernel
theorem d17_0 : decode jdk_41_method_11_code 0 = .ok (.iload_n 0, 1) := by decide +kernel
theorem d17_1 : decode jdk_41_method_11_code 1 = .ok (.ifCond .lt 8, 3) := by decide +kernel
theorem d17_4 : decode jdk_41_method_11_code 4 = .ok (.iload_n 0, 1) := by decide +kernel
theorem d17_5 : decode jdk_41_method_11_code 5 = .ok (.iload_n 1, 1) := by decide +kernel
theorem d17_6 : decode jdk_41_method_11_code 6 = .ok (.if_icmp .lt 10, 3) := by decide +kernel
theorem d17_9 : decode jdk_41_method_11_code 9 = .ok (.aload_n 2, 1) := by decide +kernel
theorem d17_10 : decode jdk_41_method_11_code 10 = .ok (.iload_n 0, 1) := by decide +kernel
theorem d17_11 : decode jdk_41_method_11_code 11 = .ok (.iload_n 1, 1) := by decide +kernel
theorem d17_12 : decode jdk_41_method_11_code 12 = .ok (.invokestatic 95, 3) := by decide +kernel
theorem d17_15 : decode jdk_41_method_11_code 15 = .ok (.athrow, 1) := by decide +kernel
theorem d17_16 : decode jdk_41_method_11_code 16 = .ok (.iload_n 0, 1) := by decide +kernel
theorem d17_17 : decode jdk_41_method_11_code 17 = .ok (.ireturn, 1) := by decide +kernel
theorem pn3 : plainName "jdk/internal/util/Preconditions" = true := by first | (simp [plainName, overriddenIn]; done) | decide +kernel
theorem d16_0 : decode jdk_42_method_155_code 0 = .ok (.iload_n 0, 1) := by decide +kernel
theorem d16_1 : decode jdk_42_method_155_code 1 = .ok (.iload_n 1, 1) := by decide +kernel
theorem d16_2 : decode jdk_42_method_155_code 2 = .ok (.getstatic 1053, 3) := by decide +kernel
theorem d16_5 : decode jdk_42_method_155_code 5 = .ok (.invokestatic 1059, 3) := by decide +kernel
theorem d16_8 : decode jdk_42_method_155_code 8 = .ok (.pop, 1) := by decide +kernel
theorem d16_9 : decode jdk_42_method_155_code 9 = .ok (.return_, 1) := by decide +kernel
theorem pd6 : parseMethodDescriptor "(IILjava/util/function/BiFunction;)I" = some ⟨[.int, .int, (.object "java/util/function/BiFunction")], some .int⟩ := by decide +kernel
theorem d15_0 : decode jdk_43_method_2_code 0 = .ok (.iload_n 1, 1) := by decide +kernel
theorem d15_1 : decode jdk_43_method_2_code 1 = .ok (.aload_n 0, 1) := by decide +kernel
theorem d15_2 : decode jdk_43_method_2_code 2 = .ok (.arraylength, 1) := by decide +kernel
theorem d15_3 : decode jdk_43_method_2_code 3 = .ok (.invokestatic 9, 3) := by decide +kernel
theorem d15_6 : decode jdk_43_method_2_code 6 = .ok (.aload_n 0, 1) := by decide +kernel
theorem d15_7 : decode jdk_43_method_2_code 7 = .ok (.iload_n 1, 1) := by decide +kernel
theorem d15_8 : decode jdk_43_method_2_code 8 = .ok (.baload, 1) := by decide +kernel
theorem d15_9 : decode jdk_43_method_2_code 9 = .ok (.sipush 255, 3) := by decide +kernel
theorem d15_12 : decode jdk_43_method_2_code 12 = .ok (.iand, 1) := by decide +kernel
theorem d15_13 : decode jdk_43_method_2_code 13 = .ok (.i2c, 1) := by decide +kernel
theorem d15_14 : decode jdk_43_method_2_code 14 = .ok (.ireturn, 1) := by decide +kernel
theorem pd7 : parseMethodDescriptor "(II)V" = some ⟨[.int, .int], none⟩ := by decide +kernel
theorem d13_0 : decode jdk_42_method_56_code 0 = .ok (.aload_n 0, 1) := by decide +kernel
theorem d13_1 : decode jdk_42_method_56_code 1 = .ok (.invokevirtual 492, 3) := by decide +kernel
theorem d13_4 : decode jdk_42_method_56_code 4 = .ok (.ifCond .eq 12, 3) := by decide +kernel
theorem d13_7 : decode jdk_42_method_56_code 7 = .ok (.aload_n 0, 1) := by decide +kernel
theorem d13_8 : decode jdk_42_method_56_code 8 = .ok (.getfield 9, 3) := by decide +kernel
theorem d13_11 : decode jdk_42_method_56_code 11 = .ok (.iload_n 1, 1) := by decide +kernel
theorem d13_12 : decode jdk_42_method_56_code 12 = .ok (.invokestatic 495, 3) := by decide +kernel
theorem d13_15 : decode jdk_42_method_56_code 15 = .ok (.ireturn, 1) := by decide +kernel
theorem d13_16 : decode jdk_42_method_56_code 16 = .ok (.aload_n 0, 1) := by decide +kernel
theorem d13_17 : decode jdk_42_method_56_code 17 = .ok (.getfield 9, 3) := by decide +kernel
theorem d13_20 : decode jdk_42_method_56_code 20 = .ok (.iload_n 1, 1) := by decide +kernel
theorem d13_21 : decode jdk_42_method_56_code 21 = .ok (.invokestatic 498, 3) := by decide +kernel
theorem d13_24 : decode jdk_42_method_56_code 24 = .ok (.ireturn, 1) := by decide +kernel
theorem pd8 : parseMethodDescriptor "()Z" = some ⟨[], some .boolean⟩ := by decide +kernel
theorem pd9 : parseMethodDescriptor "([BI)C" = some ⟨[(.array .byte), .int], some .char⟩ := by decide +kernel
theorem d20_0 : decode jdk_41_method_12_code 0 = .ok (.iload_n 0, 1) := by decide +kernel
theorem d20_1 : decode jdk_41_method_12_code 1 = .ok (.ifCond .lt 13, 3) := by decide +kernel
theorem d20_4 : decode jdk_41_method_12_code 4 = .ok (.iload_n 0, 1) := by decide +kernel
theorem d20_5 : decode jdk_41_method_12_code 5 = .ok (.iload_n 1, 1) := by decide +kernel
theorem d20_6 : decode jdk_41_method_12_code 6 = .ok (.if_icmp .gt 8, 3) := by decide +kernel
theorem d20_9 : decode jdk_41_method_12_code 9 = .ok (.iload_n 1, 1) := by decide +kernel
theorem d20_10 : decode jdk_41_method_12_code 10 = .ok (.iload_n 2, 1) := by decide +kernel
theorem d20_11 : decode jdk_41_method_12_code 11 = .ok (.if_icmp .le 11, 3) := by decide +kernel
theorem d20_14 : decode jdk_41_method_12_code 14 = .ok (.aload_n 3, 1) := by decide +kernel
theorem d20_15 : decode jdk_41_method_12_code 15 = .ok (.iload_n 0, 1) := by decide +kernel
theorem d20_16 : decode jdk_41_method_12_code 16 = .ok (.iload_n 1, 1) := by decide +kernel
theorem d20_17 : decode jdk_41_method_12_code 17 = .ok (.iload_n 2, 1) := by decide +kernel
theorem d20_18 : decode jdk_41_method_12_code 18 = .ok (.invokestatic 99, 3) := by decide +kernel
theorem d20_21 : decode jdk_41_method_12_code 21 = .ok (.athrow, 1) := by decide +kernel
theorem d20_22 : decode jdk_41_method_12_code 22 = .ok (.iload_n 0, 1) := by decide +kernel
theorem d20_23 : decode jdk_41_method_12_code 23 = .ok (.ireturn, 1) := by decide +kernel
theorem d19_0 : decode jdk_42_method_158_code 0 = .ok (.iload_n 0, 1) := by decide +kernel
theorem d19_1 : decode jdk_42_method_158_code 1 = .ok (.iload_n 1, 1) := by decide +kernel
theorem d19_2 : decode jdk_42_method_158_code 2 = .ok (.iload_n 2, 1) := by decide +kernel
theorem d19_3 : decode jdk_42_method_158_code 3 = .ok (.getstatic 1053, 3) := by decide +kernel
theorem d19_6 : decode jdk_42_method_158_code 6 = .ok (.invokestatic 1062, 3) := by decide +kernel
theorem d19_9 : decode jdk_42_method_158_code 9 = .ok (.pop, 1) := by decide +kernel
theorem d19_10 : decode jdk_42_method_158_code 10 = .ok (.return_, 1) := by decide +kernel
theorem pd10 : parseMethodDescriptor "(IIILjava/util/function/BiFunction;)I" = some ⟨[.int, .int, .int, (.object "java/util/function/BiFunction")], some .int⟩ := by decide +kernel
theorem d27_0 : decode jdk_29_method_69_code 0 = .ok (.iload_n 0, 1) := by decide +kernel
theorem d27_1 : decode jdk_29_method_69_code 1 = .ok (.iload_n 1, 1) := by decide +kernel
theorem d27_2 : decode jdk_29_method_69_code 2 = .ok (.if_icmp .gt 7, 3) := by decide +kernel
theorem d27_5 : decode jdk_29_method_69_code 5 = .ok (.iload_n 0, 1) := by decide +kernel
theorem d27_6 : decode jdk_29_method_69_code 6 = .ok (.goto 4, 3) := by decide +kernel
theorem d27_9 : decode jdk_29_method_69_code 9 = .ok (.iload_n 1, 1) := by decide +kernel
theorem d27_10 : decode jdk_29_method_69_code 10 = .ok (.ireturn, 1) := by decide +kernel
theorem d26_0 : decode jdk_65_method_131_code 0 = .ok (.iload_n 1, 1) := by decide +kernel
theorem d26_1 : decode jdk_65_method_131_code 1 = .ok (.iload_n 0, 1) := by decide +kernel
theorem d26_2 : decode jdk_65_method_131_code 2 = .ok (.if_icmp .ge 35, 3) := by decide +kernel
theorem d26_5 : decode jdk_65_method_131_code 5 = .ok (.new 43, 3) := by decide +kernel
theorem d26_8 : decode jdk_65_method_131_code 8 = .ok (.dup, 1) := by decide +kernel
theorem d26_9 : decode jdk_65_method_131_code 9 = .ok (.new 45, 3) := by decide +kernel
theorem d26_12 : decode jdk_65_method_131_code 12 = .ok (.dup, 1) := by decide +kernel
theorem d26_13 : decode jdk_65_method_131_code 13 = .ok (.invokespecial 47, 3) := by decide +kernel
theorem d26_16 : decode jdk_65_method_131_code 16 = .ok (.iload_n 0, 1) := by decide +kernel
theorem d26_17 : decode jdk_65_method_131_code 17 = .ok (.invokevirtual 54, 3) := by decide +kernel
theorem d26_20 : decode jdk_65_method_131_code 20 = .ok (.ldc_w 337, 3) := by decide +kernel
theorem d26_23 : decode jdk_65_method_131_code 23 = .ok (.invokevirtual 50, 3) := by decide +kernel
theorem d26_26 : decode jdk_65_method_131_code 26 = .ok (.iload_n 1, 1) := by decide +kernel
theorem d26_27 : decode jdk_65_method_131_code 27 = .ok (.invokevirtual 54, 3) := by decide +kernel
theorem d26_30 : decode jdk_65_method_131_code 30 = .ok (.invokevirtual 61, 3) := by decide +kernel
theorem d26_33 : decode jdk_65_method_131_code 33 = .ok (.invokespecial 65, 3) := by decide +kernel
theorem d26_36 : decode jdk_65_method_131_code 36 = .ok (.athrow, 1) := by decide +kernel
theorem d26_37 : decode jdk_65_method_131_code 37 = .ok (.return_, 1) := by decide +kernel
theorem pn4 : plainName "java/util/Arrays" = true := by first | (simp [plainName, overriddenIn]; done) | decide +kernel
theorem d25_0 : decode jdk_65_method_133_code 0 = .ok (.iload_n 1, 1) := by decide +kernel
theorem d25_1 : decode jdk_65_method_133_code 1 = .ok (.iload_n 2, 1) := by decide +kernel
theorem d25_2 : decode jdk_65_method_133_code 2 = .ok (.invokestatic 343, 3) := by decide +kernel
theorem d25_5 : decode jdk_65_method_133_code 5 = .ok (.iload_n 2, 1) := by decide +kernel
theorem d25_6 : decode jdk_65_method_133_code 6 = .ok (.iload_n 1, 1) := by decide +kernel
theorem d25_7 : decode jdk_65_method_133_code 7 = .ok (.isub, 1) := by decide +kernel
theorem d25_8 : decode jdk_65_method_133_code 8 = .ok (.istore_n 3, 1) := by decide +kernel
theorem d25_9 : decode jdk_65_method_133_code 9 = .ok (.iload_n 3, 1) := by decide +kernel
theorem d25_10 : decode jdk_65_method_133_code 10 = .ok (.newarray .byte, 2) := by decide +kernel
theorem d25_12 : decode jdk_65_method_133_code 12 = .ok (.astore 4, 2) := by decide +kernel
theorem d25_14 : decode jdk_65_method_133_code 14 = .ok (.aload_n 0, 1) := by decide +kernel
theorem d25_15 : decode jdk_65_method_133_code 15 = .ok (.iload_n 1, 1) := by decide +kernel
theorem d25_16 : decode jdk_65_method_133_code 16 = .ok (.aload 4, 2) := by decide +kernel
theorem d25_18 : decode jdk_65_method_133_code 18 = .ok (.iconst 0, 1) := by decide +kernel
theorem d25_19 : decode jdk_65_method_133_code 19 = .ok (.aload_n 0, 1) := by decide +kernel
theorem d25_20 : decode jdk_65_method_133_code 20 = .ok (.arraylength, 1) := by decide +kernel
theorem d25_21 : decode jdk_65_method_133_code 21 = .ok (.iload_n 1, 1) := by decide +kernel
theorem d25_22 : decode jdk_65_method_133_code 22 = .ok (.isub, 1) := by decide +kernel
theorem d25_23 : decode jdk_65_method_133_code 23 = .ok (.iload_n 3, 1) := by decide +kernel
theorem d25_24 : decode jdk_65_method_133_code 24 = .ok (.invokestatic 304, 3) := by decide +kernel
theorem d25_27 : decode jdk_65_method_133_code 27 = .ok (.invokestatic 150, 3) := by decide +kernel
theorem d25_30 : decode jdk_65_method_133_code 30 = .ok (.aload 4, 2) := by decide +kernel
theorem d25_32 : decode jdk_65_method_133_code 32 = .ok (.areturn, 1) := by decide +kernel
theorem pd11 : parseMethodDescriptor "(II)I" = some ⟨[.int, .int], some .int⟩ := by decide +kernel
theorem d24_0 : decode jdk_65_method_132_code 0 = .ok (.iload_n 1, 1) := by decide +kernel
theorem d24_1 : decode jdk_65_method_132_code 1 = .ok (.ifCond .ne 9, 3) := by decide +kernel
theorem d24_4 : decode jdk_65_method_132_code 4 = .ok (.iload_n 2, 1) := by decide +kernel
theorem d24_5 : decode jdk_65_method_132_code 5 = .ok (.aload_n 0, 1) := by decide +kernel
theorem d24_6 : decode jdk_65_method_132_code 6 = .ok (.arraylength, 1) := by decide +kernel
theorem d24_7 : decode jdk_65_method_132_code 7 = .ok (.if_icmp .eq 10, 3) := by decide +kernel
theorem d24_10 : decode jdk_65_method_132_code 10 = .ok (.aload_n 0, 1) := by decide +kernel
theorem d24_11 : decode jdk_65_method_132_code 11 = .ok (.iload_n 1, 1) := by decide +kernel
theorem d24_12 : decode jdk_65_method_132_code 12 = .ok (.iload_n 2, 1) := by decide +kernel
theorem d24_13 : decode jdk_65_method_132_code 13 = .ok (.invokestatic 339, 3) := by decide +kernel
theorem d24_16 : decode jdk_65_method_132_code 16 = .ok (.areturn, 1) := by decide +kernel
theorem d24_17 : decode jdk_65_method_132_code 17 = .ok (.aload_n 0, 1) := by decide +kernel
theorem d24_18 : decode jdk_65_method_132_code 18 = .ok (.invokevirtual 310, 3) := by decide +kernel
theorem d24_21 : decode jdk_65_method_132_code 21 = .ok (.checkcast 311, 3) := by decide +kernel
theorem d24_24 : decode jdk_65_method_132_code 24 = .ok (.areturn, 1) := by decide +kernel
theorem pd12 : parseMethodDescriptor "([BII)[B" = some ⟨[(.array .byte), .int, .int], some (.array .byte)⟩ := by decide +kernel
theorem d28_0 : decode jdk_42_method_151_code 0 = .ok (.aload_n 0, 1) := by decide +kernel
theorem d28_1 : decode jdk_42_method_151_code 1 = .ok (.invokespecial 1, 3) := by decide +kernel
theorem d28_4 : decode jdk_42_method_151_code 4 = .ok (.aload_n 0, 1) := by decide +kernel
theorem d28_5 : decode jdk_42_method_151_code 5 = .ok (.aload_n 1, 1) := by decide +kernel
theorem d28_6 : decode jdk_42_method_151_code 6 = .ok (.putfield 9, 3) := by decide +kernel
theorem d28_9 : decode jdk_42_method_151_code 9 = .ok (.aload_n 0, 1) := by decide +kernel
theorem d28_10 : decode jdk_42_method_151_code 10 = .ok (.iload_n 2, 1) := by decide +kernel
theorem d28_11 : decode jdk_42_method_151_code 11 = .ok (.putfield 15, 3) := by decide +kernel
theorem d28_14 : decode jdk_42_method_151_code 14 = .ok (.return_, 1) := by decide +kernel
theorem d21_0 : decode jdk_43_method_47_code 0 = .ok (.iload_n 2, 1) := by decide +kernel
theorem d21_1 : decode jdk_43_method_47_code 1 = .ok (.ifCond .ne 6, 3) := by decide +kernel
theorem d21_4 : decode jdk_43_method_47_code 4 = .ok (.ldc 151, 2) := by decide +kernel
theorem d21_6 : decode jdk_43_method_47_code 6 = .ok (.areturn, 1) := by decide +kernel
theorem d21_7 : decode jdk_43_method_47_code 7 = .ok (.new 1, 3) := by decide +kernel
theorem d21_10 : decode jdk_43_method_47_code 10 = .ok (.dup, 1) := by decide +kernel
theorem d21_11 : decode jdk_43_method_47_code 11 = .ok (.aload_n 0, 1) := by decide +kernel
theorem d21_12 : decode jdk_43_method_47_code 12 = .ok (.iload_n 1, 1) := by decide +kernel
theorem d21_13 : decode jdk_43_method_47_code 13 = .ok (.iload_n 1, 1) := by decide +kernel
theorem d21_14 : decode jdk_43_method_47_code 14 = .ok (.iload_n 2, 1) := by decide +kernel
theorem d21_15 : decode jdk_43_method_47_code 15 = .ok (.iadd, 1) := by decide +kernel
theorem d21_16 : decode jdk_43_method_47_code 16 = .ok (.invokestatic 232, 3) := by decide +kernel
theorem d21_19 : decode jdk_43_method_47_code 19 = .ok (.iconst 0, 1) := by decide +kernel
theorem d21_20 : decode jdk_43_method_47_code 20 = .ok (.invokespecial 112, 3) := by decide +kernel
theorem d21_23 : decode jdk_43_method_47_code 23 = .ok (.areturn, 1) := by decide +kernel
theorem pd13 : parseMethodDescriptor "([BB)V" = some ⟨[(.array .byte), .byte], none⟩ := by decide +kernel
theorem d18_0 : decode jdk_42_method_92_code 0 = .ok (.aload_n 0, 1) := by decide +kernel
theorem d18_1 : decode jdk_42_method_92_code 1 = .ok (.invokevirtual 505, 3) := by decide +kernel
theorem d18_4 : decode jdk_42_method_92_code 4 = .ok (.istore_n 3, 1) := by decide +kernel
theorem d18_5 : decode jdk_42_method_92_code 5 = .ok (.iload_n 1, 1) := by decide +kernel
theorem d18_6 : decode jdk_42_method_92_code 6 = .ok (.iload_n 2, 1) := by decide +kernel
theorem d18_7 : decode jdk_42_method_92_code 7 = .ok (.iload_n 3, 1) := by decide +kernel
theorem d18_8 : decode jdk_42_method_92_code 8 = .ok (.invokestatic 521, 3) := by decide +kernel
theorem d18_11 : decode jdk_42_method_92_code 11 = .ok (.iload_n 1, 1) := by decide +kernel
theorem d18_12 : decode jdk_42_method_92_code 12 = .ok (.ifCond .ne 10, 3) := by decide +kernel
theorem d18_15 : decode jdk_42_method_92_code 15 = .ok (.iload_n 2, 1) := by decide +kernel
theorem d18_16 : decode jdk_42_method_92_code 16 = .ok (.iload_n 3, 1) := by decide +kernel
theorem d18_17 : decode jdk_42_method_92_code 17 = .ok (.if_icmp .ne 5, 3) := by decide +kernel
theorem d18_20 : decode jdk_42_method_92_code 20 = .ok (.aload_n 0, 1) := by decide +kernel
theorem d18_21 : decode jdk_42_method_92_code 21 = .ok (.areturn, 1) := by decide +kernel
theorem d18_22 : decode jdk_42_method_92_code 22 = .ok (.iload_n 2, 1) := by decide +kernel
theorem d18_23 : decode jdk_42_method_92_code 23 = .ok (.iload_n 1, 1) := by decide +kernel
theorem d18_24 : decode jdk_42_method_92_code 24 = .ok (.isub, 1) := by decide +kernel
theorem d18_25 : decode jdk_42_method_92_code 25 = .ok (.istore 4, 2) := by decide +kernel
theorem d18_27 : decode jdk_42_method_92_code 27 = .ok (.aload_n 0, 1) := by decide +kernel
theorem d18_28 : decode jdk_42_method_92_code 28 = .ok (.invokevirtual 492, 3) := by decide +kernel
theorem d18_31 : decode jdk_42_method_92_code 31 = .ok (.ifCond .eq 16, 3) := by decide +kernel
theorem d18_34 : decode jdk_42_method_92_code 34 = .ok (.aload_n 0, 1) := by decide +kernel
theorem d18_35 : decode jdk_42_method_92_code 35 = .ok (.getfield 9, 3) := by decide +kernel
theorem d18_38 : decode jdk_42_method_92_code 38 = .ok (.iload_n 1, 1) := by decide +kernel
theorem d18_39 : decode jdk_42_method_92_code 39 = .ok (.iload 4, 2) := by decide +kernel
theorem d18_41 : decode jdk_42_method_92_code 41 = .ok (.invokestatic 685, 3) := by decide +kernel
theorem d18_44 : decode jdk_42_method_92_code 44 = .ok (.goto 13, 3) := by decide +kernel
theorem d18_47 : decode jdk_42_method_92_code 47 = .ok (.aload_n 0, 1) := by decide +kernel
theorem d18_48 : decode jdk_42_method_92_code 48 = .ok (.getfield 9, 3) := by decide +kernel
theorem d18_51 : decode jdk_42_method_92_code 51 = .ok (.iload_n 1, 1) := by decide +kernel
theorem d18_52 : decode jdk_42_method_92_code 52 = .ok (.iload 4, 2) := by decide +kernel
theorem d18_54 : decode jdk_42_method_92_code 54 = .ok (.invokestatic 689, 3) := by decide +kernel
theorem d18_57 : decode jdk_42_method_92_code 57 = .ok (.areturn, 1) := by decide +kernel
theorem pd14 : parseMethodDescriptor "()I" = some ⟨[], some .int⟩ := by decide +kernel
theorem pd15 : parseMethodDescriptor "(III)V" = some ⟨[.int, .int, .int], none⟩ := by decide +kernel
theorem pd16 : parseMethodDescriptor "([BII)Ljava/lang/String;" = some ⟨[(.array .byte), .int, .int], some (.object "java/lang/String")⟩ := by decide +kernel
theorem pn5 : plainName "com/example/indelible_trail/indelibletrail/model/XmlDateTimeEqualsPinLaw" = true := by first | (simp [plainName, overriddenIn]; done) | decide +kernel
theorem pd17 : parseMethodDescriptor "([C)V" = some ⟨[(.array .char)], none⟩ := by decide +kernel
theorem pn6 : plainName "com/example/indelible_trail/indelibletrail/model/XmlDateTime" = true := by first | (simp [plainName, overriddenIn]; done) | decide +kernel
theorem pd18 : parseMethodDescriptor "(II)Ljava/lang/String;" = some ⟨[.int, .int], some (.object "java/lang/String")⟩ := by decide +kernel
theorem pd19 : parseMethodDescriptor "(I)C" = some ⟨[.int], some .char⟩ := by decide +kernel
theorem pd20 : parseMethodDescriptor "(Ljava/lang/Object;)Z" = some ⟨[(.object "java/lang/Object")], some .boolean⟩ := by decide +kernel
theorem pd21 : parseMethodDescriptor "([CI)Ljava/lang/String;" = some ⟨[(.array .char), .int], some (.object "java/lang/String")⟩ := by decide +kernel
theorem pd22 : parseMethodDescriptor "(Ljava/lang/String;ILjava/lang/String;)V" = some ⟨[(.object "java/lang/String"), .int, (.object "java/lang/String")], none⟩ := by decide +kernel
theorem pd23 : parseMethodDescriptor "([CI)I" = some ⟨[(.array .char), .int], some .int⟩ := by decide +kernel
def own_b (c : Int32) : Int32 := c.toInt8.toInt32
theorem own_bb (c : Int32) : nar .byte (own_b c) = own_b c := by simp [nar, own_b]
def own_ch (cs : List Int32) : Prop := ∀ c ∈ cs, ¬ c < 0 ∧ ¬ (255 : Int32) < c
def own_bl : List Int32 → Nat → List Value
  | [], _ => []
  | _ :: cs, 0 => .int 0 :: own_bl cs 0
  | c :: cs, i + 1 => .int (own_b c) :: own_bl cs i
theorem own_bl_len : ∀ (cs : List Int32) (i : Nat), (own_bl cs i).length = cs.length
  | [], _ => rfl
  | _ :: cs, 0 => by simp [own_bl, own_bl_len cs 0]
  | _ :: cs, i + 1 => by simp [own_bl, own_bl_len cs i]
theorem own_bl_set : ∀ (cs : List Int32) (i : Nat), i < cs.length → (own_bl cs i).set i (.int (own_b (cs.getD i 0))) = own_bl cs (i + 1)
  | [], _, h => absurd h (Nat.not_lt_zero _)
  | c :: cs, 0, _ => by simp [own_bl]
  | c :: cs, i + 1, h => by
    have q := own_bl_set cs i (by simpa using h)
    simp only [own_bl, List.set_cons_succ, List.getD_cons_succ, q]
theorem own_bl_all : ∀ (cs : List Int32), own_bl cs cs.length = cs.map fun c => .int (own_b c)
  | [] => rfl
  | c :: cs => by simp [own_bl, own_bl_all cs]
theorem own_bl_0 : ∀ (cs : List Int32) (i : Nat), (own_bl cs 0).getD i (.int 0) = .int 0
  | [], i => by simp [own_bl]
  | c :: cs, 0 => by simp [own_bl]
  | c :: cs, i + 1 => by simp only [own_bl, List.getD_cons_succ]; exact own_bl_0 cs i
theorem own_gd (cs : List Int32) (i : Nat) : (cs.map Value.int).getD i (.int 0) = .int (cs.getD i 0) := by
  simp only [List.getD_eq_getElem?_getD, List.getElem?_map]
  cases cs[i]? <;> rfl
theorem own_gb (cs : List Int32) (i : Nat) : (cs.map fun c => Value.int (own_b c)).getD i (.int 0) = .int (own_b (cs.getD i 0)) := by
  simp only [List.getD_eq_getElem?_getD, List.getElem?_map]
  cases cs[i]? <;> rfl
theorem own_gm (cs : List Int32) (i : Nat) (h : i < cs.length) : cs.getD i 0 ∈ cs := by
  rw [List.getD_eq_getElem?_getD, List.getElem?_eq_getElem h]; exact List.getElem_mem h
theorem own_b_and : ∀ k : Fin 256, own_b (Int32.ofNat k.val) &&& 255 = Int32.ofNat k.val := by decide +kernel
theorem own_b_back {c : Int32} (h : ¬ c < 0 ∧ ¬ (255 : Int32) < c) : own_b c &&& 255 = c := by
  have q := nat_of h.1
  have h2 := h.2
  rw [Int32.lt_iff_toInt_lt] at h2
  have e : (255 : Int32).toInt = 255 := rfl
  have z := own_b_and ⟨c.toNatClampNeg, by omega⟩
  have e2 : Int32.ofNat c.toNatClampNeg = c := (back32 h.1).1
  simp only [e2] at z
  exact z
theorem own_b_inj {c d : Int32} (h : ¬ c < 0 ∧ ¬ (255 : Int32) < c) (h' : ¬ d < 0 ∧ ¬ (255 : Int32) < d) (e : own_b c = own_b d) : c = d := by
  rw [← own_b_back h, ← own_b_back h', e]
theorem own_list {a b : List Int32} (hl : a.length = b.length) (h : ∀ k, k < a.length → a.getD k 0 = b.getD k 0) : a = b := by
  apply List.ext_getElem hl
  intro i h1 h2
  have q := h i h1
  rw [List.getD_eq_getElem?_getD, List.getD_eq_getElem?_getD, List.getElem?_eq_getElem h1, List.getElem?_eq_getElem h2] at q
  exact q
def own_bi (b : Bool) : Int32 := if b = true then 1 else 0
theorem own_bi0 (b : Bool) : own_bi b = 0 ↔ b = false := by cases b <;> decide
theorem own_bin (b : Bool) : nar .boolean (own_bi b) = own_bi b := by cases b <;> decide
/-- the String at a spells cs (Latin-1) -/
def Str (Z : State) (h : Heap) (a : Addr) (cs : List Int32) : Prop := Exa Z h a "java/lang/String" ∧ Fld Z h a "java/lang/String" "coder" "B" (.int 0) ∧ ∃ (b : Addr) (k : ClassId) (n : Int32), Fld Z h a "java/lang/String" "value" "[B" (.ref b) ∧ Arv Z h b k .byte n (cs.map fun c => .int (own_b c)) (.int 0) ∧ n.toNatClampNeg = cs.length
theorem Str.ext {Z : State} {h h' : Heap} {a : Addr} {cs : List Int32} (X : Str Z h a cs) (E : Ext h h') : Str Z h' a cs := by
  obtain ⟨h1, h2, b, k, n, h3, h4, h5⟩ := X
  exact ⟨h1.ext E, h2.ext E, b, k, n, h3.ext E, h4.ext E, h5⟩
theorem own_fldinj {Z : State} {h : Heap} {a : Addr} {C n d : String} {v w : Value} (F : Fld Z h a C n d v) (G : Fld Z h a C n d w) : v = w := by
  obtain ⟨c1, _, _, _, _, h1, h2, -, -, -, -, h7⟩ := F
  obtain ⟨c2, _, _, _, _, g1, g2, -, -, -, -, g7⟩ := G
  cases h1.symm.trans g1; cases h2.symm.trans g2; exact Option.some.inj (h7.symm.trans g7)
theorem Str.inj {Z : State} {h : Heap} {a : Addr} {cs cs' : List Int32} (X : Str Z h a cs) (Y : Str Z h a cs') (hc : own_ch cs) (hc' : own_ch cs') : cs = cs' := by
  obtain ⟨-, -, b, k, n, h3, h4, h5⟩ := X
  obtain ⟨-, -, b', k', n', g3, g4, g5⟩ := Y
  cases own_fldinj h3 g3
  obtain ⟨c1, A1, -, S1, -, H1, -⟩ := h4
  obtain ⟨c2, A2, -, S2, -, H2, -⟩ := g4
  cases A1.1.symm.trans A2.1
  have hl : cs.length = cs'.length := by omega
  refine own_list hl fun i hi => ?_
  have e1 := H1 i (by omega)
  have e2 := H2 i (by omega)
  rw [own_gb] at e1 e2
  have e := Option.some.inj (e1.symm.trans e2)
  injection e with e
  exact own_b_inj (hc _ (own_gm cs i hi)) (hc' _ (own_gm cs' i (by omega))) e
theorem own_n {n : Int32} {k : Nat} (h0 : ¬ n < 0) (h : n.toNatClampNeg = k) : n.toInt = k := by rw [nat_of h0, h]
theorem own_ltI {x n : Int32} {i k : Nat} (h1 : x.toInt = i) (h2 : n.toInt = k) (h : i < k) : x < n := by rw [Int32.lt_iff_toInt_lt]; omega
theorem own_geI {x n : Int32} {i k : Nat} (h1 : x.toInt = i) (h2 : n.toInt = k) (h : k ≤ i) : ¬ x < n := by rw [Int32.lt_iff_toInt_lt]; omega
theorem own_inc1 {x : Int32} {i : Nat} (h1 : x.toInt = i) (h : i < 100000) : (x + 1).toInt = ((i + 1 : Nat) : Int) := by
  have e3 : (1 : Int32).toInt = 1 := rfl
  rw [XT.add32 ⟨by omega, by omega⟩]; omega
theorem own_nn {x : Int32} {i : Nat} (h1 : x.toInt = i) : ¬ x < 0 := by rw [XT.negI32]; omega
theorem own_cl {x : Int32} {i : Nat} (h1 : x.toInt = i) : x.toNatClampNeg = i := by
  have := nat_of (own_nn h1); omega
theorem own_nar256 : ∀ k : Fin 256, nar .char (Int32.ofNat k.val) = Int32.ofNat k.val := by decide +kernel
theorem own_rng256 {P : Int32 → Prop} (H : ∀ k : Fin 256, P (Int32.ofNat k.val)) {c : Int32} (h : ¬ c < 0 ∧ ¬ (255 : Int32) < c) : P c := by
  have q := nat_of h.1
  have h2 := h.2
  rw [Int32.lt_iff_toInt_lt] at h2
  have e : (255 : Int32).toInt = 255 := rfl
  have z := H ⟨c.toNatClampNeg, by omega⟩
  have e2 : Int32.ofNat c.toNatClampNeg = c := (back32 h.1).1
  simp only [e2] at z
  exact z
theorem own_nar {c : Int32} (h : ¬ c < 0 ∧ ¬ (255 : Int32) < c) : nar .char c = c := own_rng256 (P := fun c => nar .char c = c) own_nar256 h
theorem own_ch0 : own_ch [] := fun _ h => nomatch h
theorem own_chS {c : Int32} {cs : List Int32} (h : ¬ c < 0 ∧ ¬ (255 : Int32) < c) (t : own_ch cs) : own_ch (c :: cs) := fun x hx => (List.mem_cons.mp hx).elim (fun e => e ▸ h) (t x)
theorem own_u16 (t : UInt32) (h : t.toNat < 65536) : t.toUInt16.toUInt32 = t := by
  apply UInt32.toNat_inj.mp
  rw [UInt16.toNat_toUInt32, UInt32.toNat_toUInt16]
  exact Nat.mod_eq_of_lt h
theorem own_nc' (x : Int32) : x.toUInt32.toUInt16.toUInt32.toInt32.toUInt32.toUInt16.toUInt32.toInt32 = x.toUInt32.toUInt16.toUInt32.toInt32 := by
  have : x.toUInt32.toUInt16.toUInt32.toInt32.toUInt32 = x.toUInt32.toUInt16.toUInt32 := rfl
  rw [this, own_u16 x.toUInt32.toUInt16.toUInt32 (by rw [UInt16.toNat_toUInt32]; exact UInt16.toNat_lt _)]
theorem own_nc (x : Int32) : nar .char x.toUInt32.toUInt16.toUInt32.toInt32 = x.toUInt32.toUInt16.toUInt32.toInt32 := own_nc' x
theorem own_m255 (x : Int32) : (x &&& 255).toUInt32.toNat ≤ 255 := by
  have q : (x &&& 255).toUInt32.toNat = x.toBitVec.toNat &&& 255 := by
    show (x &&& 255).toBitVec.toNat = _
    simp
  rw [q]; exact Nat.and_le_right
theorem own_c255 (x : Int32) : ¬ (x &&& 255).toUInt32.toUInt16.toUInt32.toInt32 < 0 ∧ ¬ (255 : Int32) < (x &&& 255).toUInt32.toUInt16.toUInt32.toInt32 := by
  have h2 := own_m255 x
  rw [own_u16 _ (by omega)]
  have e : (x &&& 255).toUInt32.toInt32.toInt = (x &&& 255).toUInt32.toNat := by
    show ((x &&& 255).toUInt32).toBitVec.toInt = _
    rw [BitVec.toInt_eq_toNat_of_lt]
    · rfl
    · show 2 * (x &&& 255).toUInt32.toNat < 2 ^ 32
      omega
  constructor
  · rw [XT.negI32]; omega
  · rw [Int32.lt_iff_toInt_lt]; have : (255 : Int32).toInt = 255 := rfl; omega
theorem own_rf {v : Value} {t : FieldType} (h : v.isRef = true) (ht : t.isReference = true) : fits t v = true ∧ narrow t v = v := by
  rcases ref_cases h with rfl | ⟨a, rfl⟩ <;> cases t <;> simp_all [FieldType.isReference, fits, narrow]
theorem own_comp {s : State} {args a0 : Array Value} (hw1 : (Jvm.Cond.initializedFor "java/lang/String" "COMPACT_STRINGS" "Z").before args s = true) (h1 : (Jvm.Cond.isInt (Jvm.Term.static "java/lang/String" "COMPACT_STRINGS" "Z")).before args s = true) (h2 : (Jvm.Cond.not (Jvm.Cond.eq (Jvm.Term.static "java/lang/String" "COMPACT_STRINGS" "Z") (Jvm.Term.int 0))).before args s = true) : ∃ cz : Int32, ¬ cz = 0 ∧ Sta s s.heap "java/lang/String" "COMPACT_STRINGS" "Z" (.int cz) := by
  obtain ⟨cz, ev⟩ := is_v (Cond.before_iff.mp h1)
  refine ⟨cz, fun e => ?_, Sta.start ev (Or.inl hw1)⟩
  have q := not_v (Cond.before_iff.mp h2)
  simp [Jvm.Cond.value, ev, Jvm.Term.int_eval, e] at q
theorem own_modm (x k n : Int32) (hk : ¬ k < 0) (hn : 0 < n.toInt) : 0 ≤ ((x &&& k) % n).toInt ∧ ((x &&& k) % n).toInt < n.toInt := by
  have h0 : ¬ (x &&& k) < 0 := fun q => absurd ((XT.and_neg32 x k).mp q).2 hk
  rw [XT.negI32] at h0
  rw [Int32.toInt_mod]
  exact ⟨Int.tmod_nonneg _ (by omega), Int.tmod_lt_of_pos _ hn⟩
theorem own_mod (x n : Int32) (hn : 0 < n.toInt) : 0 ≤ ((x &&& 2147483647) % n).toInt ∧ ((x &&& 2147483647) % n).toInt < n.toInt := by
  have h0 : ¬ (x &&& 2147483647) < 0 := fun q => absurd ((XT.and_neg32 x 2147483647).mp q).2 (by decide)
  rw [XT.negI32] at h0
  rw [Int32.toInt_mod]
  exact ⟨Int.tmod_nonneg _ (by omega), Int.tmod_lt_of_pos _ hn⟩
set_option maxRecDepth 65536
set_option maxHeartbeats 4000000
theorem own_wS {Z : State} {b0 : Array Value} (hw : ∀ d ∈ tables_1, d.before b0 Z = true) : ∀ a ∈ Bundle.stringAtoms, a.before b0 Z = true := by
  intro a ha
  simp only [Bundle.stringAtoms, List.mem_cons, List.not_mem_nil, or_false] at ha
  rcases ha with rfl | rfl | rfl | rfl | rfl | rfl | rfl
  · exact tw hw 13
  · exact tw hw 12
  · exact tw hw 25
  · exact tw hw 26
  · exact tw hw 27
  · exact tw hw 28
  · exact tw hw 29
theorem own_ew0 {Z : State} {b0 : Array Value} (hw : ∀ d ∈ tables_1, d.before b0 Z = true) : EW Z b0 own_EL := (EW.cons (tw hw 24) (by decide) (EW.cons (tw hw 101) (by decide) EW.nil))
theorem con_cmpL (l : Launch) (Z : State) (b0 : Array Value) (hw : ∀ d ∈ tables_1, d.before b0 Z = true) (src dst : Addr) (ks kd : ClassId) (n : Int32) (cs : List Int32) (hn : n.toNatClampNeg = cs.length) (hbig : cs.length < 5000) (hcs : own_ch cs) (h0 : Heap) (hE : Ext Z.heap h0) (As : Arv Z h0 src ks .char n (cs.map Value.int) (.int 0)) (Ad : Arv Z h0 dst kd .byte n (own_bl cs 0) (.int 0)) (hne : src ≠ dst) (zd : Z.heap.size ≤ dst) : Con l Z (⟨"java/lang/StringUTF16", "compress", "([CI[BII)I"⟩ : MethodName) jdk_52_method_21_code 7 (some .int) ({ frames := 0, cells := 0, slots := 0, locals := 0 } : Room) #[(.ref src), (.int 0), (.ref dst), (.int 0), (.int n)] h0 [dst] (QV fun w h => w = .int n ∧ Keep h0 h [dst] ∧ Arv Z h dst kd .byte n (cs.map fun c => .int (own_b c)) (.int 0)) := by
  refine Con.of (plainFor_of_name pn0) hE ⟨b0, own_ew0 hw⟩ (fun x hx => by rw [List.mem_singleton.mp hx]; exact Ad.lt) (L0 := #[.val (.ref src), .val (.int 0), .val (.ref dst), .val (.int 0), .val (.int n), .unset, .unset]) (fun m => by first | (simp [entryFrame, mkF, argsToLocals, Value.category]; done) | rfl) ?_
  intro p e s m args below meth c T W
  have hn0 : ¬ n < 0 := by obtain ⟨cl, A1, A2, A3, A4, A5, A6⟩ := As; exact A4
  have hnI := own_n hn0 hn
  have loop : ∀ (r i : Nat) (x : Int32) (T : State) (h : Heap) (s6 : Slot), i + r = cs.length → x.toInt = i → (s6 = .unset ∨ ∃ w, s6 = .val w ∧ w.category = 1) → Wk p l e ({ frames := 0, cells := 0, slots := 0, locals := 0 } : Room) s m args below meth c Z (⟨"java/lang/StringUTF16", "compress", "([CI[BII)I"⟩ : MethodName) jdk_52_method_21_code 7 (some .int) T h 0 0 [dst] → Arv Z h src ks .char n (cs.map Value.int) (.int 0) → Arv Z h dst kd .byte n (own_bl cs i) (.int 0) → Keep h0 h [dst] → Go p e below (Gd s below Z (QV fun w h => w = .int n ∧ Keep h0 h [dst] ∧ Arv Z h dst kd .byte n (cs.map fun c => .int (own_b c)) (.int 0)) (({ frames := 0, cells := 0, slots := 0, locals := 0 } : Room)).cells (({ frames := 0, cells := 0, slots := 0, locals := 0 } : Room)).slots) T (mkF m 3 #[.val (.ref src), .val (.int x), .val (.ref dst), .val (.int x), .val (.int n), .val (.int x), s6] []) := by
    intro r
    induction r with
    | zero =>
      intro i x T h s6 hi hx h6 W As Ad K
      refine o_iload 5 W d8_3 rfl ?_
      refine o_iload 7 W d8_5 rfl ?_
      refine o_icY 44 W d8_7 (XT.ii_ge_t (own_geI hx hnI (by omega))) ?_
      refine o_iload 46 W d8_44 rfl ?_
      have e : i = cs.length := by omega
      rw [e, own_bl_all] at Ad
      exact o_iret W d8_46 (⟨rfl, K, Ad⟩)
    | succ r ih =>
      intro i x T h s6 hi hx h6 W As Ad K
      have hlt : i < cs.length := by omega
      have hj := And.intro (own_nn hx) (own_ltI hx hnI hlt)
      have hc := hcs _ (own_gm cs i hlt)
      refine o_iload 5 W d8_3 rfl ?_
      refine o_iload 7 W d8_5 rfl ?_
      refine o_icN 10 W d8_7 (XT.ii_ge_f (own_ltI hx hnI hlt)) ?_
      refine o_aloadN 11 W d8_10 rfl rfl ?_
      refine o_iloadN 12 W d8_11 rfl ?_
      refine o_caloadV 13 W As hj ((congrArg (fun z => (cs.map Value.int).getD z (.int 0)) (own_cl hx)).trans (own_gd cs i)) d8_12 ?_
      refine o_istore 15 W #[.val (.ref src), .val (.int x), .val (.ref dst), .val (.int x), .val (.int n), .val (.int x), .val (.int (cs.getD i 0))] d8_13 (by first | exact XS.store1 rfl h6 rfl | (rcases h6 with rfl | ⟨w, rfl, hw6⟩ <;> first | rfl | simp [storeLocals, storeSelf, setAt, hw6])) ?_
      refine o_iload 17 W d8_15 rfl ?_
      refine o_sipush 20 W (255) d8_17 (by first | rfl | decide) ?_
      refine o_icY 26 W d8_20 (XT.ii_le_t hc.2) ?_
      refine o_aloadN 27 W d8_26 rfl rfl ?_
      refine o_iloadN 28 W d8_27 rfl ?_
      refine o_iload 30 W d8_28 rfl ?_
      refine o_i2b 31 W d8_30 ?_
      refine o_bastore 32 i W Ad hj (own_cl hx) (by rw [own_bl_len]; exact hlt) (List.mem_singleton.mpr rfl) zd d8_31 (fun T h W w1 Ad => ?_)
      have Ad : Arv Z h dst kd .byte n (own_bl cs (i + 1)) (.int 0) := by rw [← own_bl_set cs i hlt, ← own_bb]; exact Ad
      refine o_iinc 35 W (x + (1 : Int32)) #[.val (.ref src), .val (.int (x + (1 : Int32))), .val (.ref dst), .val (.int x), .val (.int n), .val (.int x), .val (.int (cs.getD i 0))] d8_32 rfl rfl rfl ?_
      refine o_iinc 38 W (x + (1 : Int32)) #[.val (.ref src), .val (.int (x + (1 : Int32))), .val (.ref dst), .val (.int (x + (1 : Int32))), .val (.int n), .val (.int x), .val (.int (cs.getD i 0))] d8_35 rfl rfl rfl ?_
      refine o_iinc 41 W (x + (1 : Int32)) #[.val (.ref src), .val (.int (x + (1 : Int32))), .val (.ref dst), .val (.int (x + (1 : Int32))), .val (.int n), .val (.int (x + (1 : Int32))), .val (.int (cs.getD i 0))] d8_38 rfl rfl rfl ?_
      refine o_goto 3 W d8_41 ?_
      exact ih (i + 1) (x + 1) T h _ (by omega) (own_inc1 hx (by omega)) (Or.inr ⟨_, rfl, rfl⟩) W (As.other w1 hne) Ad (K.wr w1 (Or.inl (List.mem_singleton.mpr rfl)))
  refine o_iconst 1 W (0) d8_0 (by first | rfl | decide) ?_
  refine o_istore 3 W #[.val (.ref src), .val (.int 0), .val (.ref dst), .val (.int 0), .val (.int n), .val (.int (0 : Int32)), .unset] d8_1 rfl ?_
  exact loop cs.length 0 0 T h0 _ (by omega) rfl (Or.inl rfl) W As Ad (Keep.refl _ _)
theorem con_cmp (l : Launch) (Z : State) (b0 : Array Value) (hw : ∀ d ∈ tables_1, d.before b0 Z = true) (src : Addr) (ks : ClassId) (n : Int32) (cs : List Int32) (hn : n.toNatClampNeg = cs.length) (hbig : cs.length ≤ 16) (hcs : own_ch cs) (h0 : Heap) (hE : Ext Z.heap h0) (As : Arv Z h0 src ks .char n (cs.map Value.int) (.int 0)) : Con l Z (⟨"java/lang/StringUTF16", "compress", "([CII)[B"⟩ : MethodName) jdk_52_method_16_code 6 (some (.array .byte)) ({ frames := 1, cells := 1, slots := 16, locals := 40 } : Room) #[(.ref src), (.int 0), (.int n)] h0 [] (QV fun w h => ∃ d kd, w = .ref d ∧ h0.size ≤ d ∧ Ext h0 h ∧ Arv Z h d kd .byte n (cs.map fun c => .int (own_b c)) (.int 0)) := by
  refine Con.of (plainFor_of_name pn0) hE ⟨b0, own_ew0 hw⟩ all0 (L0 := #[.val (.ref src), .val (.int 0), .val (.int n), .unset, .unset, .unset]) (fun m => by first | (simp [entryFrame, mkF, argsToLocals, Value.category]; done) | rfl) ?_
  intro p e s m args below meth c T W
  have hn0 : ¬ n < 0 := by obtain ⟨cl, A1, A2, A3, A4, A5, A6⟩ := As; exact A4
  refine o_iloadN 1 W d7_0 rfl ?_
  refine o_newarray 3 16 W (tw hw 25) d7_1 hn0 (by omega) (fun T h d kd W Ed Ad gd zd => ?_)
  have hlt := As.lt
  have As := As.ext Ed
  have Ad : Arv Z h d kd .byte n (own_bl cs 0) (.int 0) := Arv.pad Ad fun i => by rw [own_bl_0]; rfl
  refine o_astoreN 4 W #[.val (.ref src), .val (.int 0), .val (.int n), .val (.ref d), .unset, .unset] d7_3 rfl rfl ?_
  refine o_aloadN 5 W d7_4 rfl rfl ?_
  refine o_iloadN 6 W d7_5 rfl ?_
  refine o_aloadN 7 W d7_6 rfl rfl ?_
  refine o_iconst 8 W (0) d7_7 (by first | rfl | decide) ?_
  refine o_iloadN 9 W d7_8 rfl ?_
  refine o_static 12 [(.ref src), (.int 0), (.ref d), (.int (0 : Int32)), (.int n)] W (tw hw 40) (tw hw 41) (tw hw 38) (tw hw 42) (con_cmpL l Z b0 hw src d ks kd n cs hn (by omega) hcs _ W.old As Ad (Nat.ne_of_lt (Nat.lt_of_lt_of_le hlt gd)) zd) pd0 d7_9 rfl (fun x hx => hx) (fun T h v W qq gg => ?_)
  obtain ⟨_, rfl, rfl, K, Ad⟩ := qq
  show Go p e below _ _ (mkF m 12 #[.val (.ref src), .val (.int 0), .val (.int n), .val (.ref d), .unset, .unset] [(.int n)])
  refine o_istore 14 W #[.val (.ref src), .val (.int 0), .val (.int n), .val (.ref d), .val (.int n), .unset] d7_12 rfl ?_
  refine o_iload 16 W d7_14 rfl ?_
  refine o_iloadN 17 W d7_16 rfl ?_
  refine o_icY 57 W d7_17 (XT.ii_eq_t rfl) ?_
  refine o_aloadN 58 W d7_57 rfl rfl ?_
  exact o_aret W rfl rfl rfl d7_58 (⟨d, kd, rfl, gd, own_ext_keep Ed K gd, Ad⟩)
theorem con_cod (l : Launch) (Z : State) (b0 : Array Value) (hw : ∀ d ∈ tables_1, d.before b0 Z = true) (d : Addr) (kd : ClassId) (n : Int32) (vs : List Value) (h0 : Heap) (hE : Ext Z.heap h0) (Ad : Arv Z h0 d kd .byte n vs (.int 0)) : Con l Z (⟨"java/lang/StringUTF16", "coderFromArrayLen", "([BI)B"⟩ : MethodName) jdk_52_method_15_code 2 (some .byte) ({ frames := 0, cells := 0, slots := 0, locals := 0 } : Room) #[(.ref d), (.int n)] h0 [] (QV fun w h => w = .int 0 ∧ h0 = h) := by
  refine Con.of (plainFor_of_name pn0) hE ⟨b0, own_ew0 hw⟩ all0 (L0 := #[.val (.ref d), .val (.int n)]) (fun m => by first | (simp [entryFrame, mkF, argsToLocals, Value.category]; done) | rfl) ?_
  intro p e s m args below meth c T W
  refine o_iloadN 1 W d9_0 rfl ?_
  refine o_aloadN 2 W d9_1 rfl rfl ?_
  refine o_alenV 3 W Ad d9_2 ?_
  refine o_isub 4 W d9_3 ?_
  refine o_bipush 6 W (31) d9_4 (by first | rfl | decide) ?_
  refine o_iushr 7 W d9_6 ?_
  refine o_i2b 8 W d9_7 ?_
  exact o_nret W 0 (by simp) (by rw [Int32.sub_self]; rfl) d9_8 (⟨rfl, rfl⟩)
theorem con_sin2 (l : Launch) (Z : State) (b0 : Array Value) (hw : ∀ d ∈ tables_1, d.before b0 Z = true) (a src : Addr) (ks : ClassId) (n : Int32) (cs : List Int32) (hn : n.toNatClampNeg = cs.length) (hbig : cs.length ≤ 16) (hcs : own_ch cs) (h0 : Heap) (hE : Ext Z.heap h0) (As : Arv Z h0 src ks .char n (cs.map Value.int) (.int 0)) (A : Exa Z h0 a "java/lang/String") (F1 : Fld Z h0 a "java/lang/String" "value" "[B" .null) (F2 : Fld Z h0 a "java/lang/String" "coder" "B" (.int 0)) (za : Z.heap.size ≤ a) (cz : Int32) (hcz : ¬ cz = 0) (SC : Sta Z Z.heap "java/lang/String" "COMPACT_STRINGS" "Z" (.int cz)) : Con l Z (⟨"java/lang/String", "<init>", "([CIILjava/lang/Void;)V"⟩ : MethodName) jdk_42_method_149_code 6 none ({ frames := 2, cells := 5, slots := 24, locals := 64 } : Room) #[(.ref a), (.ref src), (.int 0), (.int n), .null] h0 [a] (Q0 fun h => Keep h0 h [a] ∧ Str Z h a cs) := by
  refine Con.of (plainFor_of_name pn1) hE ⟨b0, own_ew0 hw⟩ (fun x hx => by rw [List.mem_singleton.mp hx]; exact A.lt) (L0 := #[.val (.ref a), .val (.ref src), .val (.int 0), .val (.int n), .val (.null), .unset]) (fun m => by first | (simp [entryFrame, mkF, argsToLocals, Value.category]; done) | rfl) ?_
  intro p e s m args below meth c T W
  have hn0 : ¬ n < 0 := by obtain ⟨cl, A1, A2, A3, A4, A5, A6⟩ := As; exact A4
  have hnI := own_n hn0 hn
  refine o_aloadN 1 W d5_0 rfl rfl ?_
  refine o_initO 4 W (tw hw 21) (tw hw 22) (tw hw 23) d5_1 (fun T W => ?_)
  refine o_iloadN 5 W d5_4 rfl ?_
  have F0 := A
  refine o_ifne 27 8 W d5_5 (fun c5 => ?_) (fun c5 => ?_)
  · refine o_getS 30 W (tw hw 35) SC d5_27 fun T W => ?_
    refine o_ifN 33 W d5_30 (XT.i0_eq_f hcz) ?_
    refine o_aloadN 34 W d5_33 rfl rfl ?_
    refine o_iloadN 35 W d5_34 rfl ?_
    refine o_iloadN 36 W d5_35 rfl ?_
    refine o_static 39 [(.ref src), (.int 0), (.int n)] W (tw hw 36) (tw hw 37) (tw hw 38) (tw hw 39) (con_cmp l Z b0 hw src ks n cs hn hbig hcs _ W.old As) pd1 d5_36 rfl all0 (fun T h v W qq gg => ?_)
    obtain ⟨_, rfl, d, kd, rfl, gd, Ed, Ad⟩ := qq
    show Go p e below _ _ (mkF m 39 #[.val (.ref a), .val (.ref src), .val (.int 0), .val (.int n), .val (.null), .unset] [(.ref d)])
    have A := A.ext Ed
    have F1 := F1.ext Ed
    have F2 := F2.ext Ed
    have K0 := (Keep.refl h0 [a]).ext Ed
    have had : d ≠ a := Nat.ne_of_gt (Nat.lt_of_lt_of_le F0.lt gd)
    refine o_astore 41 W #[.val (.ref a), .val (.ref src), .val (.int 0), .val (.int n), .val (.null), .val (.ref d)] d5_39 rfl rfl ?_
    refine o_aloadN 42 W d5_41 rfl rfl ?_
    refine o_aload 44 W d5_42 rfl rfl ?_
    refine o_iloadN 45 W d5_44 rfl ?_
    refine o_static 48 [(.ref d), (.int n)] W (tw hw 43) (tw hw 44) (tw hw 38) (tw hw 45) (con_cod l Z b0 hw d kd n _ _ W.old Ad) pd2 d5_45 rfl all0 (fun T h v W qq gg => ?_)
    obtain ⟨_, rfl, rfl, rfl⟩ := qq
    show Go p e below _ _ (mkF m 48 #[.val (.ref a), .val (.ref src), .val (.int 0), .val (.int n), .val (.null), .val (.ref d)] [(.int 0), (.ref a)])
    refine o_putF 51 W (tw hw 31) F2 A (Or.inr ⟨(tw hw 27), rfl, rfl⟩) (tw hw 12) (ty := .byte) (by decide) rfl rfl (Or.inl (List.mem_singleton.mpr rfl)) za d5_48 (fun T h W w1 => ?_)
    have K0 := K0.wr w1 (Or.inl (List.mem_singleton.mpr rfl))
    have A := A.wr w1
    have F2 := F2.same w1
    have F1 := F1.other w1 (Or.inr (slot_ne (C := "java/lang/String") (Or.inr (tw hw 26)) (Or.inr (tw hw 27)) (by decide) (t := (.array .byte)) (t' := .byte) (by decide) (by decide)))
    have Ad := Ad.other w1 had
    refine o_aloadN 52 W d5_51 rfl rfl ?_
    refine o_aload 54 W d5_52 rfl rfl ?_
    refine o_putF 57 W (tw hw 30) F1 A (Or.inr ⟨(tw hw 26), rfl, rfl⟩) (tw hw 12) (ty := (.array .byte)) (by decide) rfl rfl (Or.inl (List.mem_singleton.mpr rfl)) za d5_54 (fun T h W w2 => ?_)
    have K0 := K0.wr w2 (Or.inl (List.mem_singleton.mpr rfl))
    have A := A.wr w2
    have F1 := F1.same w2
    have F2 := F2.other w2 (Or.inr (slot_ne (C := "java/lang/String") (Or.inr (tw hw 27)) (Or.inr (tw hw 26)) (by decide) (t := .byte) (t' := (.array .byte)) (by decide) (by decide)))
    have Ad := Ad.other w2 had
    exact o_ret W d5_57 (⟨K0, A, F2, d, kd, n, F1, Ad, hn⟩)
  · obtain rfl : cs = [] := List.eq_nil_of_length_eq_zero (by rw [c5] at hnI; have : (0 : Int32).toInt = 0 := rfl; omega)
    refine o_aloadN 9 W d5_8 rfl rfl ?_
    refine o_ldcC 11 0 W (vs := []) (z := 0) (fun q => q) (tw hw 24) (own_wS hw) (by first | (simp [own_EL]; done) | simp [own_EL, x]) (by decide) (by decide) rfl d5_9 (by decide) (fun T h t bt kt W Et Xt Ct Vt At nt => ?_)
    have A := A.ext Et
    have F1 := F1.ext Et
    have F2 := F2.ext Et
    have K0 := (Keep.refl h0 [a]).ext Et
    have nt := nt a (List.mem_singleton.mpr rfl)
    refine o_getF 14 W (tw hw 30) Vt d5_11 (fun T W => ?_)
    refine o_putF 17 W (tw hw 30) F1 A (Or.inr ⟨(tw hw 26), rfl, rfl⟩) (tw hw 12) (ty := (.array .byte)) (by decide) rfl rfl (Or.inl (List.mem_singleton.mpr rfl)) za d5_14 (fun T h W w1 => ?_)
    have K0 := K0.wr w1 (Or.inl (List.mem_singleton.mpr rfl))
    have A := A.wr w1
    have F1 := F1.same w1
    have F2 := F2.other w1 (Or.inr (slot_ne (C := "java/lang/String") (Or.inr (tw hw 27)) (Or.inr (tw hw 26)) (by decide) (t := .byte) (t' := (.array .byte)) (by decide) (by decide)))
    have At := At.other w1 nt.2.symm
    refine o_aloadN 18 W d5_17 rfl rfl ?_
    refine o_ldcC 20 0 W (vs := []) (z := 0) (fun q => q) (tw hw 24) (own_wS hw) (by first | (simp [own_EL]; done) | simp [own_EL, x]) (by decide) (by decide) rfl d5_18 (by decide) (fun T h u bu ku W Eu Xu Cu Vu Au nu => ?_)
    have A := A.ext Eu
    have F1 := F1.ext Eu
    have F2 := F2.ext Eu
    have At := At.ext Eu
    have K0 := K0.ext Eu
    refine o_getF 23 W (tw hw 31) Cu d5_20 (fun T W => ?_)
    refine o_putF 26 W (tw hw 31) F2 A (Or.inr ⟨(tw hw 27), rfl, rfl⟩) (tw hw 12) (ty := .byte) (by decide) rfl rfl (Or.inl (List.mem_singleton.mpr rfl)) za d5_23 (fun T h W w2 => ?_)
    have K0 := K0.wr w2 (Or.inl (List.mem_singleton.mpr rfl))
    have A := A.wr w2
    have F2 := F2.same w2
    have F1 := F1.other w2 (Or.inr (slot_ne (C := "java/lang/String") (Or.inr (tw hw 26)) (Or.inr (tw hw 27)) (by decide) (t := (.array .byte)) (t' := .byte) (by decide) (by decide)))
    have At := At.other w2 nt.2.symm
    exact o_ret W d5_26 (⟨K0, A, F2, bt, kt, 0, F1, At, rfl⟩)
theorem con_sin (l : Launch) (Z : State) (b0 : Array Value) (hw : ∀ d ∈ tables_1, d.before b0 Z = true) (a src : Addr) (ks : ClassId) (n : Int32) (cs : List Int32) (hn : n.toNatClampNeg = cs.length) (hbig : cs.length ≤ 16) (hcs : own_ch cs) (h0 : Heap) (hE : Ext Z.heap h0) (As : Arv Z h0 src ks .char n (cs.map Value.int) (.int 0)) (A : Exa Z h0 a "java/lang/String") (F1 : Fld Z h0 a "java/lang/String" "value" "[B" .null) (F2 : Fld Z h0 a "java/lang/String" "coder" "B" (.int 0)) (za : Z.heap.size ≤ a) (cz : Int32) (hcz : ¬ cz = 0) (SC : Sta Z Z.heap "java/lang/String" "COMPACT_STRINGS" "Z" (.int cz)) : Con l Z (⟨"java/lang/String", "<init>", "([C)V"⟩ : MethodName) jdk_42_method_3_code 2 none ({ frames := 3, cells := 5, slots := 24, locals := 96 } : Room) #[(.ref a), (.ref src)] h0 [a] (Q0 fun h => Keep h0 h [a] ∧ Str Z h a cs) := by
  refine Con.of (plainFor_of_name pn1) hE ⟨b0, own_ew0 hw⟩ (fun x hx => by rw [List.mem_singleton.mp hx]; exact A.lt) (L0 := #[.val (.ref a), .val (.ref src)]) (fun m => by first | (simp [entryFrame, mkF, argsToLocals, Value.category]; done) | rfl) ?_
  intro p e s m args below meth c T W
  refine o_aloadN 1 W d4_0 rfl rfl ?_
  refine o_aloadN 2 W d4_1 rfl rfl ?_
  refine o_iconst 3 W (0) d4_2 (by first | rfl | decide) ?_
  refine o_aloadN 4 W d4_3 rfl rfl ?_
  refine o_alenV 5 W As d4_4 ?_
  refine o_null 6 W d4_5 ?_
  refine o_special 9 [(.ref src), (.int (0 : Int32)), (.int n), (.null)] W (tw hw 17) (tw hw 18) (tw hw 13) (tw hw 20) (con_sin2 l Z b0 hw a src ks n cs hn hbig hcs _ W.old As A F1 F2 za cz hcz SC) pd3 d4_6 rfl (fun x hx => hx) (fun T h v W qq gg => ?_)
  obtain ⟨rfl, K0, X⟩ := qq
  show Go p e below _ _ (mkF m 9 #[.val (.ref a), .val (.ref src)] [])
  exact o_ret W d4_9 (⟨K0, X⟩)
theorem con_leq (l : Launch) (Z : State) (b0 : Array Value) (hw : ∀ d ∈ tables_1, d.before b0 Z = true) (d1 : Addr) (k1 : ClassId) (n1 : Int32) (cs1 : List Int32) (hn1 : n1.toNatClampNeg = cs1.length) (hb1 : cs1.length < 5000) (hc1 : own_ch cs1) (d2 : Addr) (k2 : ClassId) (n2 : Int32) (cs2 : List Int32) (hn2 : n2.toNatClampNeg = cs2.length) (hb2 : cs2.length < 5000) (hc2 : own_ch cs2) (h0 : Heap) (hE : Ext Z.heap h0) (A1 : Arv Z h0 d1 k1 .byte n1 (cs1.map fun c => .int (own_b c)) (.int 0)) (A2 : Arv Z h0 d2 k2 .byte n2 (cs2.map fun c => .int (own_b c)) (.int 0)) : Con l Z (⟨"java/lang/StringLatin1", "equals", "([B[B)Z"⟩ : MethodName) jdk_43_method_13_code 3 (some .boolean) ({ frames := 0, cells := 0, slots := 0, locals := 0 } : Room) #[(.ref d1), (.ref d2)] h0 [] (QV fun w h => w = .int (own_bi (decide (cs1 = cs2))) ∧ h0 = h) := by
  refine Con.of (plainFor_of_name pn2) hE ⟨b0, own_ew0 hw⟩ all0 (L0 := #[.val (.ref d1), .val (.ref d2), .unset]) (fun m => by first | (simp [entryFrame, mkF, argsToLocals, Value.category]; done) | rfl) ?_
  intro p e s m args below meth c T W
  have m1 : ¬ n1 < 0 := by obtain ⟨cl, B1, B2, B3, B4, B5, B6⟩ := A1; exact B4
  have i1 := own_n m1 hn1
  have m2 : ¬ n2 < 0 := by obtain ⟨cl, B1, B2, B3, B4, B5, B6⟩ := A2; exact B4
  have i2 := own_n m2 hn2
  refine o_aloadN 1 W d30_0 rfl rfl ?_
  refine o_alenV 2 W A1 d30_1 ?_
  refine o_aloadN 3 W d30_2 rfl rfl ?_
  refine o_alenV 4 W A2 d30_3 ?_
  refine o_icne 34 7 W d30_4 (fun c4 => ?_) (fun c4 => ?_)
  · refine o_iconst 35 W (0) d30_34 (by first | rfl | decide) ?_
    exact o_nret W (0 : Int32) (by simp) (by decide) d30_35 (⟨by rw [decide_eq_false (fun e => c4 (Int32.toInt_inj.mp (by rw [i1, i2, e])))]; rfl, rfl⟩)
  · have hl : cs1.length = cs2.length := by rw [c4] at i1; omega
    have loop : ∀ (r i : Nat) (x : Int32) (T : State), i + r = cs1.length → x.toInt = i → (∀ k, k < i → cs1.getD k 0 = cs2.getD k 0) → Wk p l e ({ frames := 0, cells := 0, slots := 0, locals := 0 } : Room) s m args below meth c Z (⟨"java/lang/StringLatin1", "equals", "([B[B)Z"⟩ : MethodName) jdk_43_method_13_code 3 (some .boolean) T h0 0 0 [] → Go p e below (Gd s below Z (QV fun w h => w = .int (own_bi (decide (cs1 = cs2))) ∧ h0 = h) (({ frames := 0, cells := 0, slots := 0, locals := 0 } : Room)).cells (({ frames := 0, cells := 0, slots := 0, locals := 0 } : Room)).slots) T (mkF m 9 #[.val (.ref d1), .val (.ref d2), .val (.int x)] []) := by
      intro r
      induction r with
      | zero =>
        intro i x T hi hx he W
        refine o_iloadN 10 W d30_9 rfl ?_
        refine o_aloadN 11 W d30_10 rfl rfl ?_
        refine o_alenV 12 W A1 d30_11 ?_
        refine o_icY 32 W d30_12 (XT.ii_ge_t (own_geI hx i1 (by omega))) ?_
        refine o_iconst 33 W (1) d30_32 (by first | rfl | decide) ?_
        exact o_nret W (1 : Int32) (by simp) (by decide) d30_33 (⟨by rw [decide_eq_true (own_list hl fun k hk => he k (by omega))]; rfl, rfl⟩)
      | succ r ih =>
        intro i x T hi hx he W
        have hlt : i < cs1.length := by omega
        refine o_iloadN 10 W d30_9 rfl ?_
        refine o_aloadN 11 W d30_10 rfl rfl ?_
        refine o_alenV 12 W A1 d30_11 ?_
        refine o_icN 15 W d30_12 (XT.ii_ge_f (own_ltI hx i1 hlt)) ?_
        refine o_aloadN 16 W d30_15 rfl rfl ?_
        refine o_iloadN 17 W d30_16 rfl ?_
        refine o_baloadV 18 W A1 ⟨own_nn hx, own_ltI hx i1 (by omega)⟩ ((congrArg (fun z => (cs1.map fun c => Value.int (own_b c)).getD z (.int 0)) (own_cl hx)).trans (own_gb cs1 i)) d30_17 ?_
        refine o_aloadN 19 W d30_18 rfl rfl ?_
        refine o_iloadN 20 W d30_19 rfl ?_
        refine o_baloadV 21 W A2 ⟨own_nn hx, own_ltI hx i2 (by omega)⟩ ((congrArg (fun z => (cs2.map fun c => Value.int (own_b c)).getD z (.int 0)) (own_cl hx)).trans (own_gb cs2 i)) d30_20 ?_
        refine o_iceq 26 24 W d30_21 (fun c21 => ?_) (fun c21 => ?_)
        · have he2 := own_b_inj (hc1 _ (own_gm cs1 i hlt)) (hc2 _ (own_gm cs2 i (by omega))) c21
          refine o_iinc 29 W (x + (1 : Int32)) #[.val (.ref d1), .val (.ref d2), .val (.int (x + (1 : Int32)))] d30_26 rfl rfl rfl ?_
          refine o_goto 9 W d30_29 ?_
          exact ih (i + 1) (x + 1) T (by omega) (own_inc1 hx (by omega)) (fun k hk => if z : k < i then he k z else (by obtain rfl : k = i := (by omega); exact he2)) W
        · refine o_iconst 25 W (0) d30_24 (by first | rfl | decide) ?_
          exact o_nret W (0 : Int32) (by simp) (by decide) d30_25 (⟨by rw [decide_eq_false (fun e => c21 (by rw [e]))]; rfl, rfl⟩)
    refine o_iconst 8 W (0) d30_7 (by first | rfl | decide) ?_
    refine o_istoreN 9 W #[.val (.ref d1), .val (.ref d2), .val (.int (0 : Int32))] d30_8 rfl ?_
    exact loop cs1.length 0 0 T (by omega) rfl (fun k hk => absurd hk (Nat.not_lt_zero _)) W
theorem con_seq (l : Launch) (Z : State) (b0 : Array Value) (hw : ∀ d ∈ tables_1, d.before b0 Z = true) (a o : Addr) (cs1 cs2 : List Int32) (hb1 : cs1.length < 5000) (hc1 : own_ch cs1) (hb2 : cs2.length < 5000) (hc2 : own_ch cs2) (h0 : Heap) (hE : Ext Z.heap h0) (X1 : Str Z h0 a cs1) (X2 : Str Z h0 o cs2) (cz : Int32) (hcz : ¬ cz = 0) (SC : Sta Z Z.heap "java/lang/String" "COMPACT_STRINGS" "Z" (.int cz)) : Con l Z (⟨"java/lang/String", "equals", "(Ljava/lang/Object;)Z"⟩ : MethodName) jdk_42_method_66_code 3 (some .boolean) ({ frames := 1, cells := 0, slots := 0, locals := 16 } : Room) #[(.ref a), (.ref o)] h0 [] (QV fun w h => w = .int (own_bi (decide (cs1 = cs2))) ∧ h0 = h) := by
  refine Con.of (plainFor_of_name pn1) hE ⟨b0, own_ew0 hw⟩ all0 (L0 := #[.val (.ref a), .val (.ref o), .unset]) (fun m => by first | (simp [entryFrame, mkF, argsToLocals, Value.category]; done) | rfl) ?_
  intro p e s m args below meth c T W
  refine o_aloadN 1 W d29_0 rfl rfl ?_
  refine o_aloadN 2 W d29_1 rfl rfl ?_
  refine o_acne 7 5 W rfl rfl d29_2 (fun c2 => ?_) (fun c2 => ?_)
  · obtain ⟨E1, C1, d1, k1, n1, V1, A1, l1⟩ := X1
    obtain ⟨E2, C2, d2, k2, n2, V2, A2, l2⟩ := X2
    refine o_aloadN 8 W d29_7 rfl rfl ?_
    refine o_instY 11 W (tw hw 143) (Ins.self E2) d29_8 (fun T W => ?_)
    refine o_ifN 14 W d29_11 (by decide) ?_
    refine o_aloadN 15 W d29_14 rfl rfl ?_
    refine o_cast 18 W (tw hw 143) (Ins.self E2) d29_15 (fun T W => ?_)
    refine o_astoreN 19 W #[.val (.ref a), .val (.ref o), .val (.ref o)] d29_18 rfl rfl ?_
    refine o_getS 22 W (tw hw 35) SC d29_19 fun T W => ?_
    refine o_ifN 25 W d29_22 (XT.i0_eq_f hcz) ?_
    refine o_aloadN 26 W d29_25 rfl rfl ?_
    refine o_getF 29 W (tw hw 31) C1 d29_26 (fun T W => ?_)
    refine o_aloadN 30 W d29_29 rfl rfl ?_
    refine o_getF 33 W (tw hw 31) C2 d29_30 (fun T W => ?_)
    refine o_icN 36 W d29_33 (by decide) ?_
    refine o_aloadN 37 W d29_36 rfl rfl ?_
    refine o_getF 40 W (tw hw 30) V1 d29_37 (fun T W => ?_)
    refine o_aloadN 41 W d29_40 rfl rfl ?_
    refine o_getF 44 W (tw hw 30) V2 d29_41 (fun T W => ?_)
    refine o_static 47 [(.ref d1), (.ref d2)] W (tw hw 144) (tw hw 145) (tw hw 72) (tw hw 146) (con_leq l Z b0 hw d1 k1 n1 cs1 l1 hb1 hc1 d2 k2 n2 cs2 l2 hb2 hc2 _ W.old A1 A2) pd4 d29_44 rfl all0 (fun T h v W qq gg => ?_)
    obtain ⟨_, rfl, rfl, rfl⟩ := qq
    show Go p e below _ _ (mkF m 47 #[.val (.ref a), .val (.ref o), .val (.ref o)] [(.int (own_bi (decide (cs1 = cs2))))])
    refine o_ifeq 54 50 W d29_47 (fun c47 => ?_) (fun c47 => ?_)
    · refine o_iconst 55 W (0) d29_54 (by first | rfl | decide) ?_
      exact o_nret W (0 : Int32) (by simp) (by decide) d29_55 (⟨by rw [(own_bi0 _).mp c47]; rfl, rfl⟩)
    · refine o_iconst 51 W (1) d29_50 (by first | rfl | decide) ?_
      refine o_goto 55 W d29_51 ?_
      exact o_nret W (1 : Int32) (by simp) (by decide) d29_55 (⟨by cases q : decide (cs1 = cs2); exact absurd ((own_bi0 _).mpr q) c47; rfl, rfl⟩)
  · refine o_iconst 6 W (1) d29_5 (by first | rfl | decide) ?_
    simp only [Value.ref.injEq] at c2
    exact o_nret W (1 : Int32) (by simp) (by decide) d29_6 (⟨by rw [decide_eq_true (X1.inj (c2 ▸ X2) hc1 hc2)]; rfl, rfl⟩)
theorem con_seqI (l : Launch) (Z : State) (b0 : Array Value) (hw : ∀ d ∈ tables_1, d.before b0 Z = true) (a : Addr) (h0 : Heap) (hE : Ext Z.heap h0) : Con l Z (⟨"java/lang/String", "equals", "(Ljava/lang/Object;)Z"⟩ : MethodName) jdk_42_method_66_code 3 (some .boolean) ({ frames := 1, cells := 0, slots := 0, locals := 16 } : Room) #[(.ref a), (.ref a)] h0 [] (QV fun w h => w = .int 1 ∧ h0 = h) := by
  refine Con.of (plainFor_of_name pn1) hE ⟨b0, own_ew0 hw⟩ all0 (L0 := #[.val (.ref a), .val (.ref a), .unset]) (fun m => by first | (simp [entryFrame, mkF, argsToLocals, Value.category]; done) | rfl) ?_
  intro p e s m args below meth c T W
  refine o_aloadN 1 W d29_0 rfl rfl ?_
  refine o_aloadN 2 W d29_1 rfl rfl ?_
  refine o_acne 7 5 W rfl rfl d29_2 (fun c2 => ?_) (fun c2 => ?_)
  · exact absurd rfl c2
  · refine o_iconst 6 W (1) d29_5 (by first | rfl | decide) ?_
    exact o_nret W (1 : Int32) (by simp) (by decide) d29_6 (⟨rfl, rfl⟩)
theorem con_cdr (l : Launch) (Z : State) (b0 : Array Value) (hw : ∀ d ∈ tables_1, d.before b0 Z = true) (a : Addr) (h0 : Heap) (hE : Ext Z.heap h0) (F : Fld Z h0 a "java/lang/String" "coder" "B" (.int 0)) (cz : Int32) (hcz : ¬ cz = 0) (SC : Sta Z Z.heap "java/lang/String" "COMPACT_STRINGS" "Z" (.int cz)) : Con l Z (⟨"java/lang/String", "coder", "()B"⟩ : MethodName) jdk_42_method_152_code 1 (some .byte) ({ frames := 0, cells := 0, slots := 0, locals := 0 } : Room) #[(.ref a)] h0 [] (QV fun w h => w = .int 0 ∧ h0 = h) := by
  refine Con.of (plainFor_of_name pn1) hE ⟨b0, own_ew0 hw⟩ all0 (L0 := #[.val (.ref a)]) (fun m => by first | (simp [entryFrame, mkF, argsToLocals, Value.category]; done) | rfl) ?_
  intro p e s m args below meth c T W
  refine o_getS 3 W (tw hw 35) SC d12_0 fun T W => ?_
  refine o_ifN 6 W d12_3 (XT.i0_eq_f hcz) ?_
  refine o_aloadN 7 W d12_6 rfl rfl ?_
  refine o_getF 10 W (tw hw 31) F d12_7 (fun T W => ?_)
  refine o_goto 14 W d12_10 ?_
  exact o_nret W (0 : Int32) (by simp) (by decide) d12_14 (⟨rfl, rfl⟩)
theorem con_len (l : Launch) (Z : State) (b0 : Array Value) (hw : ∀ d ∈ tables_1, d.before b0 Z = true) (a : Addr) (cs : List Int32) (h0 : Heap) (hE : Ext Z.heap h0) (X : Str Z h0 a cs) (cz : Int32) (hcz : ¬ cz = 0) (SC : Sta Z Z.heap "java/lang/String" "COMPACT_STRINGS" "Z" (.int cz)) : Con l Z (⟨"java/lang/String", "length", "()I"⟩ : MethodName) jdk_42_method_54_code 1 (some .int) ({ frames := 1, cells := 0, slots := 0, locals := 16 } : Room) #[(.ref a)] h0 [] (QV fun w h => ∃ n : Int32, w = .int n ∧ n.toInt = cs.length ∧ h0 = h) := by
  refine Con.of (plainFor_of_name pn1) hE ⟨b0, own_ew0 hw⟩ all0 (L0 := #[.val (.ref a)]) (fun m => by first | (simp [entryFrame, mkF, argsToLocals, Value.category]; done) | rfl) ?_
  intro p e s m args below meth c T W
  obtain ⟨E1, C1, d, k, n, V1, A1, l1⟩ := X
  have hn0 : ¬ n < 0 := by obtain ⟨cl, B1, B2, B3, B4, B5, B6⟩ := A1; exact B4
  refine o_aloadN 1 W d11_0 rfl rfl ?_
  refine o_getF 4 W (tw hw 30) V1 d11_1 (fun T W => ?_)
  refine o_alenV 5 W A1 d11_4 ?_
  refine o_aloadN 6 W d11_5 rfl rfl ?_
  refine o_virtual 9 [] W (tw hw 55) (tw hw 56) (tw hw 58) (tw hw 57) (tw hw 13) (tw hw 59) (E1) (con_cdr l Z b0 hw a _ W.old C1 cz hcz SC) pd5 d11_6 rfl all0 (fun T h v W qq gg => ?_)
  obtain ⟨_, rfl, rfl, rfl⟩ := qq
  show Go p e below _ _ (mkF m 9 #[.val (.ref a)] [(.int (0 : Int32)), (.int n)])
  refine o_ishr 10 W d11_9 ?_
  exact o_iret W d11_10 (⟨n, by simp, own_n hn0 l1, rfl⟩)
theorem con_lat (l : Launch) (Z : State) (b0 : Array Value) (hw : ∀ d ∈ tables_1, d.before b0 Z = true) (a : Addr) (h0 : Heap) (hE : Ext Z.heap h0) (F : Fld Z h0 a "java/lang/String" "coder" "B" (.int 0)) (cz : Int32) (hcz : ¬ cz = 0) (SC : Sta Z Z.heap "java/lang/String" "COMPACT_STRINGS" "Z" (.int cz)) : Con l Z (⟨"java/lang/String", "isLatin1", "()Z"⟩ : MethodName) jdk_42_method_154_code 1 (some .boolean) ({ frames := 0, cells := 0, slots := 0, locals := 0 } : Room) #[(.ref a)] h0 [] (QV fun w h => w = .int 1 ∧ h0 = h) := by
  refine Con.of (plainFor_of_name pn1) hE ⟨b0, own_ew0 hw⟩ all0 (L0 := #[.val (.ref a)]) (fun m => by first | (simp [entryFrame, mkF, argsToLocals, Value.category]; done) | rfl) ?_
  intro p e s m args below meth c T W
  refine o_getS 3 W (tw hw 35) SC d14_0 fun T W => ?_
  refine o_ifN 6 W d14_3 (XT.i0_eq_f hcz) ?_
  refine o_aloadN 7 W d14_6 rfl rfl ?_
  refine o_getF 10 W (tw hw 31) F d14_7 (fun T W => ?_)
  refine o_ifN 13 W d14_10 (by decide) ?_
  refine o_iconst 14 W (1) d14_13 (by first | rfl | decide) ?_
  refine o_goto 18 W d14_14 ?_
  exact o_nret W (1 : Int32) (by simp) (by decide) d14_18 (⟨rfl, rfl⟩)
theorem con_pci (l : Launch) (Z : State) (b0 : Array Value) (hw : ∀ d ∈ tables_1, d.before b0 Z = true) (i n : Int32) (vf : Value) (rf : vf.isRef = true) (h1 : ¬ i < 0) (h2 : i < n) (h0 : Heap) (hE : Ext Z.heap h0) : Con l Z (⟨"jdk/internal/util/Preconditions", "checkIndex", "(IILjava/util/function/BiFunction;)I"⟩ : MethodName) jdk_41_method_11_code 3 (some .int) ({ frames := 0, cells := 0, slots := 0, locals := 0 } : Room) #[(.int i), (.int n), vf] h0 [] (QV fun w h => w = .int i ∧ h0 = h) := by
  refine Con.of (plainFor_of_name pn3) hE ⟨b0, own_ew0 hw⟩ all0 (L0 := #[.val (.int i), .val (.int n), .val vf]) (fun m => by first | (simp [entryFrame, mkF, argsToLocals, Value.category, XT.cat1 rf]; done) | rfl | (rcases ref_cases rf with rfl | ⟨_, rfl⟩ <;> rfl)) ?_
  intro p e s m args below meth c T W
  refine o_iloadN 1 W d17_0 rfl ?_
  refine o_ifN 4 W d17_1 (XT.i0_lt_f h1) ?_
  refine o_iloadN 5 W d17_4 rfl ?_
  refine o_iloadN 6 W d17_5 rfl ?_
  refine o_icY 16 W d17_6 (XT.ii_lt_t h2) ?_
  refine o_iloadN 17 W d17_16 rfl ?_
  exact o_iret W d17_17 (⟨rfl, rfl⟩)
theorem con_cki (l : Launch) (Z : State) (b0 : Array Value) (hw : ∀ d ∈ tables_1, d.before b0 Z = true) (i n : Int32) (vf : Value) (rf : vf.isRef = true) (SF : Sta Z Z.heap "jdk/internal/util/Preconditions" "SIOOBE_FORMATTER" "Ljava/util/function/BiFunction;" vf) (h1 : ¬ i < 0) (h2 : i < n) (h0 : Heap) (hE : Ext Z.heap h0) : Con l Z (⟨"java/lang/String", "checkIndex", "(II)V"⟩ : MethodName) jdk_42_method_155_code 2 none ({ frames := 1, cells := 0, slots := 0, locals := 16 } : Room) #[(.int i), (.int n)] h0 [] (Q0 fun h => h0 = h) := by
  refine Con.of (plainFor_of_name pn1) hE ⟨b0, own_ew0 hw⟩ all0 (L0 := #[.val (.int i), .val (.int n)]) (fun m => by first | (simp [entryFrame, mkF, argsToLocals, Value.category]; done) | rfl) ?_
  intro p e s m args below meth c T W
  refine o_iloadN 1 W d16_0 rfl ?_
  refine o_iloadN 2 W d16_1 rfl ?_
  refine o_getS 5 W (tw hw 77) SF d16_2 fun T W => ?_
  refine o_static 8 [(.int i), (.int n), vf] W (tw hw 79) (tw hw 80) (tw hw 78) (tw hw 81) (con_pci l Z b0 hw i n vf rf h1 h2 _ W.old) pd6 d16_5 rfl all0 (fun T h v W qq gg => ?_)
  obtain ⟨_, rfl, rfl, rfl⟩ := qq
  show Go p e below _ _ (mkF m 8 #[.val (.int i), .val (.int n)] [(.int i)])
  refine o_pop 9 W d16_8 rfl ?_
  exact o_ret W d16_9 (rfl)
theorem con_lch (l : Launch) (Z : State) (b0 : Array Value) (hw : ∀ d ∈ tables_1, d.before b0 Z = true) (d : Addr) (k : ClassId) (n i : Int32) (cs : List Int32) (l1 : n.toNatClampNeg = cs.length) (hc : own_ch cs) (vf : Value) (rf : vf.isRef = true) (SF : Sta Z Z.heap "jdk/internal/util/Preconditions" "SIOOBE_FORMATTER" "Ljava/util/function/BiFunction;" vf) (h1 : ¬ i < 0) (h2 : i < n) (h0 : Heap) (hE : Ext Z.heap h0) (A1 : Arv Z h0 d k .byte n (cs.map fun c => .int (own_b c)) (.int 0)) : Con l Z (⟨"java/lang/StringLatin1", "charAt", "([BI)C"⟩ : MethodName) jdk_43_method_2_code 2 (some .char) ({ frames := 2, cells := 0, slots := 0, locals := 40 } : Room) #[(.ref d), (.int i)] h0 [] (QV fun w h => w = .int (cs.getD i.toNatClampNeg 0) ∧ h0 = h) := by
  refine Con.of (plainFor_of_name pn2) hE ⟨b0, own_ew0 hw⟩ all0 (L0 := #[.val (.ref d), .val (.int i)]) (fun m => by first | (simp [entryFrame, mkF, argsToLocals, Value.category]; done) | rfl) ?_
  intro p e s m args below meth c T W
  have hn0 : ¬ n < 0 := by obtain ⟨cl, B1, B2, B3, B4, B5, B6⟩ := A1; exact B4
  have hlt : i.toNatClampNeg < cs.length := by have q1 := nat_of h1; have q2 := own_n hn0 l1; have q3 := h2; rw [Int32.lt_iff_toInt_lt] at q3; omega
  have hr := hc _ (own_gm cs _ hlt)
  refine o_iloadN 1 W d15_0 rfl ?_
  refine o_aloadN 2 W d15_1 rfl rfl ?_
  refine o_alenV 3 W A1 d15_2 ?_
  refine o_static 6 [(.int i), (.int n)] W (tw hw 74) (tw hw 75) (tw hw 13) (tw hw 76) (con_cki l Z b0 hw i n vf rf SF h1 h2 _ W.old) pd7 d15_3 rfl all0 (fun T h v W qq gg => ?_)
  obtain ⟨rfl, rfl⟩ := qq
  show Go p e below _ _ (mkF m 6 #[.val (.ref d), .val (.int i)] [])
  refine o_aloadN 7 W d15_6 rfl rfl ?_
  refine o_iloadN 8 W d15_7 rfl ?_
  refine o_baloadV 9 W A1 ⟨h1, h2⟩ (own_gb cs _) d15_8 ?_
  refine o_sipush 12 W (255) d15_9 (by first | rfl | decide) ?_
  refine o_iand 13 W d15_12 ?_
  refine o_i2c 14 W d15_13 ?_
  exact o_nret W _ (by simp) (by rw [own_b_back hr]; exact (own_nc _).trans (own_nar hr)) d15_14 (⟨rfl, rfl⟩)
theorem con_cat (l : Launch) (Z : State) (b0 : Array Value) (hw : ∀ d ∈ tables_1, d.before b0 Z = true) (a : Addr) (i : Int32) (cs : List Int32) (hc : own_ch cs) (cz : Int32) (hcz : ¬ cz = 0) (SC : Sta Z Z.heap "java/lang/String" "COMPACT_STRINGS" "Z" (.int cz)) (vf : Value) (rf : vf.isRef = true) (SF : Sta Z Z.heap "jdk/internal/util/Preconditions" "SIOOBE_FORMATTER" "Ljava/util/function/BiFunction;" vf) (h1 : ¬ i < 0) (h2 : i.toInt < cs.length) (h0 : Heap) (hE : Ext Z.heap h0) (X : Str Z h0 a cs) : Con l Z (⟨"java/lang/String", "charAt", "(I)C"⟩ : MethodName) jdk_42_method_56_code 2 (some .char) ({ frames := 3, cells := 0, slots := 0, locals := 64 } : Room) #[(.ref a), (.int i)] h0 [] (QV fun w h => w = .int (cs.getD i.toNatClampNeg 0) ∧ h0 = h) := by
  refine Con.of (plainFor_of_name pn1) hE ⟨b0, own_ew0 hw⟩ all0 (L0 := #[.val (.ref a), .val (.int i)]) (fun m => by first | (simp [entryFrame, mkF, argsToLocals, Value.category]; done) | rfl) ?_
  intro p e s m args below meth c T W
  obtain ⟨E1, C1, d, k, n, V1, A1, l1⟩ := X
  have hn0 : ¬ n < 0 := by obtain ⟨cl, B1, B2, B3, B4, B5, B6⟩ := A1; exact B4
  have hin : i < n := by rw [Int32.lt_iff_toInt_lt, own_n hn0 l1]; exact h2
  have hlt : i.toNatClampNeg < cs.length := by have q1 := nat_of h1; omega
  have hr := hc _ (own_gm cs _ hlt)
  refine o_aloadN 1 W d13_0 rfl rfl ?_
  refine o_virtual 4 [] W (tw hw 65) (tw hw 66) (tw hw 68) (tw hw 67) (tw hw 13) (tw hw 69) (E1) (con_lat l Z b0 hw a _ W.old C1 cz hcz SC) pd8 d13_1 rfl all0 (fun T h v W qq gg => ?_)
  obtain ⟨_, rfl, rfl, rfl⟩ := qq
  show Go p e below _ _ (mkF m 4 #[.val (.ref a), .val (.int i)] [(.int (1 : Int32))])
  refine o_ifN 7 W d13_4 (by decide) ?_
  refine o_aloadN 8 W d13_7 rfl rfl ?_
  refine o_getF 11 W (tw hw 30) V1 d13_8 (fun T W => ?_)
  refine o_iloadN 12 W d13_11 rfl ?_
  refine o_static 15 [(.ref d), (.int i)] W (tw hw 70) (tw hw 71) (tw hw 72) (tw hw 73) (con_lch l Z b0 hw d k n i cs l1 hc vf rf SF h1 hin _ W.old A1) pd9 d13_12 rfl all0 (fun T h v W qq gg => ?_)
  obtain ⟨_, rfl, rfl, rfl⟩ := qq
  show Go p e below _ _ (mkF m 15 #[.val (.ref a), .val (.int i)] [(.int (cs.getD i.toNatClampNeg 0))])
  exact o_nret W _ (by simp) (own_nar hr) d13_15 (⟨rfl, rfl⟩)
def own_sub (cs : List Int32) (b n : Nat) : List Int32 := (cs.drop b).take n
theorem own_sub_map (cs : List Int32) (b n : Nat) (h : b + n ≤ cs.length) : ((List.range n).map fun i => (cs.map fun c => Value.int (own_b c)).getD (b + i) (.int 0)) = (own_sub cs b n).map fun c => .int (own_b c) := by
  apply List.ext_getElem
  · simp [own_sub]; omega
  · intro i h1 h2
    simp only [List.length_map, List.length_range] at h1
    have h3 : b + i < cs.length := by omega
    simp [own_sub, own_gb, List.getD_eq_getElem?_getD, List.getElem?_eq_getElem h3]
theorem own_sub_len (cs : List Int32) (b n : Nat) (h : b + n ≤ cs.length) : (own_sub cs b n).length = n := by simp [own_sub]; omega
theorem own_sub_ch {cs : List Int32} (h : own_ch cs) (b n : Nat) : own_ch (own_sub cs b n) := fun c hc => h c (List.mem_of_mem_drop (List.mem_of_mem_take hc))
theorem own_sub_all (cs : List Int32) : own_sub cs 0 cs.length = cs := by simp [own_sub]
theorem own_subI {x z : Int32} {i k : Nat} (h1 : x.toInt = i) (h2 : z.toInt = k) (h : k ≤ i) (hb : i < 100000) : (x - z).toInt = ((i - k : Nat) : Int) := by
  rw [XT.sub32 ⟨by omega, by omega⟩]; omega
theorem own_addI {x z : Int32} {i k : Nat} (h1 : x.toInt = i) (h2 : z.toInt = k) (hb : i + k < 100000) : (x + z).toInt = ((i + k : Nat) : Int) := by
  rw [XT.add32 ⟨by omega, by omega⟩]; omega
theorem con_fti (l : Launch) (Z : State) (b0 : Array Value) (hw : ∀ d ∈ tables_1, d.before b0 Z = true) (i j n : Int32) (vf : Value) (rf : vf.isRef = true) (h1 : ¬ i < 0) (h2 : ¬ j < i) (h3 : ¬ n < j) (h0 : Heap) (hE : Ext Z.heap h0) : Con l Z (⟨"jdk/internal/util/Preconditions", "checkFromToIndex", "(IIILjava/util/function/BiFunction;)I"⟩ : MethodName) jdk_41_method_12_code 4 (some .int) ({ frames := 0, cells := 0, slots := 0, locals := 0 } : Room) #[(.int i), (.int j), (.int n), vf] h0 [] (QV fun w h => w = .int i ∧ h0 = h) := by
  refine Con.of (plainFor_of_name pn3) hE ⟨b0, own_ew0 hw⟩ all0 (L0 := #[.val (.int i), .val (.int j), .val (.int n), .val vf]) (fun m => by first | (simp [entryFrame, mkF, argsToLocals, Value.category, XT.cat1 rf]; done) | rfl | (rcases ref_cases rf with rfl | ⟨_, rfl⟩ <;> rfl)) ?_
  intro p e s m args below meth c T W
  refine o_iloadN 1 W d20_0 rfl ?_
  refine o_ifN 4 W d20_1 (XT.i0_lt_f h1) ?_
  refine o_iloadN 5 W d20_4 rfl ?_
  refine o_iloadN 6 W d20_5 rfl ?_
  refine o_icN 9 W d20_6 (XT.ii_gt_f h2) ?_
  refine o_iloadN 10 W d20_9 rfl ?_
  refine o_iloadN 11 W d20_10 rfl ?_
  refine o_icY 22 W d20_11 (XT.ii_le_t h3) ?_
  refine o_iloadN 23 W d20_22 rfl ?_
  exact o_iret W d20_23 (⟨rfl, rfl⟩)
theorem con_cbe (l : Launch) (Z : State) (b0 : Array Value) (hw : ∀ d ∈ tables_1, d.before b0 Z = true) (i j n : Int32) (vf : Value) (rf : vf.isRef = true) (SF : Sta Z Z.heap "jdk/internal/util/Preconditions" "SIOOBE_FORMATTER" "Ljava/util/function/BiFunction;" vf) (h1 : ¬ i < 0) (h2 : ¬ j < i) (h3 : ¬ n < j) (h0 : Heap) (hE : Ext Z.heap h0) : Con l Z (⟨"java/lang/String", "checkBoundsBeginEnd", "(III)V"⟩ : MethodName) jdk_42_method_158_code 3 none ({ frames := 1, cells := 0, slots := 0, locals := 16 } : Room) #[(.int i), (.int j), (.int n)] h0 [] (Q0 fun h => h0 = h) := by
  refine Con.of (plainFor_of_name pn1) hE ⟨b0, own_ew0 hw⟩ all0 (L0 := #[.val (.int i), .val (.int j), .val (.int n)]) (fun m => by first | (simp [entryFrame, mkF, argsToLocals, Value.category]; done) | rfl) ?_
  intro p e s m args below meth c T W
  refine o_iloadN 1 W d19_0 rfl ?_
  refine o_iloadN 2 W d19_1 rfl ?_
  refine o_iloadN 3 W d19_2 rfl ?_
  refine o_getS 6 W (tw hw 77) SF d19_3 fun T W => ?_
  refine o_static 9 [(.int i), (.int j), (.int n), vf] W (tw hw 95) (tw hw 96) (tw hw 78) (tw hw 97) (con_fti l Z b0 hw i j n vf rf h1 h2 h3 _ W.old) pd10 d19_6 rfl all0 (fun T h v W qq gg => ?_)
  obtain ⟨_, rfl, rfl, rfl⟩ := qq
  show Go p e below _ _ (mkF m 9 #[.val (.int i), .val (.int j), .val (.int n)] [(.int i)])
  refine o_pop 10 W d19_9 rfl ?_
  exact o_ret W d19_10 (rfl)
theorem con_min (l : Launch) (Z : State) (b0 : Array Value) (hw : ∀ d ∈ tables_1, d.before b0 Z = true) (i j : Int32) (h0 : Heap) (hE : Ext Z.heap h0) : Con l Z (⟨"java/lang/Math", "min", "(II)I"⟩ : MethodName) jdk_29_method_69_code 2 (some .int) ({ frames := 0, cells := 0, slots := 0, locals := 0 } : Room) #[(.int i), (.int j)] h0 [] (QV fun w h => w = .int (if j < i then j else i) ∧ h0 = h) := by
  refine Con.of (by first | decide | decide +kernel) hE ⟨b0, own_ew0 hw⟩ all0 (L0 := #[.val (.int i), .val (.int j)]) (fun m => by first | (simp [entryFrame, mkF, argsToLocals, Value.category]; done) | rfl) ?_
  intro p e s m args below meth c T W
  refine o_iloadN 1 W d27_0 rfl ?_
  refine o_iloadN 2 W d27_1 rfl ?_
  refine o_icgt 9 5 W d27_2 (fun c2 => ?_) (fun c2 => ?_)
  · refine o_iloadN 10 W d27_9 rfl ?_
    exact o_iret W d27_10 (⟨by rw [if_pos c2], rfl⟩)
  · refine o_iloadN 6 W d27_5 rfl ?_
    refine o_goto 10 W d27_6 ?_
    exact o_iret W d27_10 (⟨by rw [if_neg c2], rfl⟩)
theorem con_ckl (l : Launch) (Z : State) (b0 : Array Value) (hw : ∀ d ∈ tables_1, d.before b0 Z = true) (i j : Int32) (h2 : ¬ j < i) (h0 : Heap) (hE : Ext Z.heap h0) : Con l Z (⟨"java/util/Arrays", "checkLength", "(II)V"⟩ : MethodName) jdk_65_method_131_code 2 none ({ frames := 0, cells := 0, slots := 0, locals := 0 } : Room) #[(.int i), (.int j)] h0 [] (Q0 fun h => h0 = h) := by
  refine Con.of (plainFor_of_name pn4) hE ⟨b0, own_ew0 hw⟩ all0 (L0 := #[.val (.int i), .val (.int j)]) (fun m => by first | (simp [entryFrame, mkF, argsToLocals, Value.category]; done) | rfl) ?_
  intro p e s m args below meth c T W
  refine o_iloadN 1 W d26_0 rfl ?_
  refine o_iloadN 2 W d26_1 rfl ?_
  refine o_icY 37 W d26_2 (XT.ii_ge_t h2) ?_
  exact o_ret W d26_37 (rfl)
theorem con_crb (l : Launch) (Z : State) (b0 : Array Value) (hw : ∀ d ∈ tables_1, d.before b0 Z = true) (d : Addr) (k : ClassId) (n f t : Int32) (cs : List Int32) (fi ti : Nat) (l1 : n.toNatClampNeg = cs.length) (hbig : cs.length ≤ 16) (hf : f.toInt = fi) (ht : t.toInt = ti) (h1 : fi ≤ ti) (h2 : ti ≤ cs.length) (h0 : Heap) (hE : Ext Z.heap h0) (A1 : Arv Z h0 d k .byte n (cs.map fun c => .int (own_b c)) (.int 0)) : Con l Z (⟨"java/util/Arrays", "copyOfRangeByte", "([BII)[B"⟩ : MethodName) jdk_65_method_133_code 5 (some (.array .byte)) ({ frames := 1, cells := 1, slots := 16, locals := 32 } : Room) #[(.ref d), (.int f), (.int t)] h0 [] (QV fun w h => ∃ (o : Addr) (ko : ClassId) (no : Int32), w = .ref o ∧ h0.size ≤ o ∧ Ext h0 h ∧ Arv Z h o ko .byte no ((own_sub cs fi (ti - fi)).map fun c => .int (own_b c)) (.int 0) ∧ no.toNatClampNeg = (own_sub cs fi (ti - fi)).length) := by
  refine Con.of (plainFor_of_name pn4) hE ⟨b0, own_ew0 hw⟩ all0 (L0 := #[.val (.ref d), .val (.int f), .val (.int t), .unset, .unset]) (fun m => by first | (simp [entryFrame, mkF, argsToLocals, Value.category]; done) | rfl) ?_
  intro p e s m args below meth c T W
  have hn0 : ¬ n < 0 := by obtain ⟨cl, B1, B2, B3, B4, B5, B6⟩ := A1; exact B4
  have hnI := own_n hn0 l1
  refine o_iloadN 1 W d25_0 rfl ?_
  refine o_iloadN 2 W d25_1 rfl ?_
  refine o_static 5 [(.int f), (.int t)] W (tw hw 123) (tw hw 124) (tw hw 118) (tw hw 125) (con_ckl l Z b0 hw f t (own_geI ht hf h1) _ W.old) pd7 d25_2 rfl all0 (fun T h v W qq gg => ?_)
  obtain ⟨rfl, rfl⟩ := qq
  show Go p e below _ _ (mkF m 5 #[.val (.ref d), .val (.int f), .val (.int t), .unset, .unset] [])
  refine o_iloadN 6 W d25_5 rfl ?_
  refine o_iloadN 7 W d25_6 rfl ?_
  refine o_isub 8 W d25_7 ?_
  refine o_istoreN 9 W #[.val (.ref d), .val (.int f), .val (.int t), .val (.int (t - f)), .unset] d25_8 rfl ?_
  refine o_iloadN 10 W d25_9 rfl ?_
  have hq := own_subI ht hf h1 (by omega)
  generalize t - f = q at hq ⊢
  show Go p e below _ _ (mkF m 10 #[.val (.ref d), .val (.int f), .val (.int t), .val (.int q), .unset] [(.int q)])
  refine o_newarray 12 16 W (tw hw 25) d25_10 (own_nn hq) (by rw [own_cl hq]; omega) (fun T h o ko W Eo Ao go zo => ?_)
  have hlt := A1.lt
  have A1 := A1.ext Eo
  have Ao := own_pad (ti - fi) Ao
  refine o_astore 14 W #[.val (.ref d), .val (.int f), .val (.int t), .val (.int q), .val (.ref o)] d25_12 rfl rfl ?_
  refine o_aloadN 15 W d25_14 rfl rfl ?_
  refine o_iloadN 16 W d25_15 rfl ?_
  refine o_aload 18 W d25_16 rfl rfl ?_
  refine o_iconst 19 W (0) d25_18 (by first | rfl | decide) ?_
  refine o_aloadN 20 W d25_19 rfl rfl ?_
  refine o_alenV 21 W A1 d25_20 ?_
  refine o_iloadN 22 W d25_21 rfl ?_
  refine o_isub 23 W d25_22 ?_
  refine o_iloadN 24 W d25_23 rfl ?_
  have hm := own_subI hnI hf (by omega) (by omega)
  generalize n - f = v at hm ⊢
  show Go p e below _ _ (mkF m 24 #[.val (.ref d), .val (.int f), .val (.int t), .val (.int q), .val (.ref o)] [(.int q), (.int v), (.int (0 : Int32)), (.ref o), (.int f), (.ref d)])
  refine o_static 27 [(.int v), (.int q)] W (tw hw 126) (tw hw 127) (tw hw 128) (tw hw 129) (con_min l Z b0 hw v q _ W.old) pd11 d25_24 rfl all0 (fun T h v W qq gg => ?_)
  obtain ⟨_, rfl, rfl, rfl⟩ := qq
  show Go p e below _ _ (mkF m 27 #[.val (.ref d), .val (.int f), .val (.int t), .val (.int q), .val (.ref o)] [(.int (if q < v then q else v)), (.int (0 : Int32)), (.ref o), (.int f), (.ref d)])
  have hr : (if q < v then q else v).toInt = ((ti - fi : Nat) : Int) := by split; exact hq; rename_i z; rw [Int32.lt_iff_toInt_lt] at z; omega
  generalize (if q < v then q else v) = u at hr ⊢
  show Go p e below _ _ (mkF m 27 #[.val (.ref d), .val (.int f), .val (.int t), .val (.int q), .val (.ref o)] [(.int u), (.int (0 : Int32)), (.ref o), (.int f), (.ref d)])
  refine o_arraycopy 30 W (tw hw 130) (tw hw 133) (tw hw 131) (tw hw 132) A1 Ao rfl (own_nn hf) (by decide) (own_nn hr) (by rw [own_cl hf, own_cl hr, l1]; omega) (by rw [own_cl hr, own_cl hq]; show 0 + _ ≤ _; omega) rfl (by rw [own_cl hr]; simp) (by simp) zo d25_27 (fun T h W Kc Ac => ?_)
  rw [own_cl hr, own_cl hf, own_sub_map cs fi (ti - fi) (by omega)] at Ac
  have Ac : Arv Z h o ko .byte q ((own_sub cs fi (ti - fi)).map fun c => .int (own_b c)) (.int 0) := by simp at Ac; exact Ac
  refine o_aload 32 W d25_30 rfl rfl ?_
  exact o_aret W rfl rfl rfl d25_32 (⟨o, ko, q, rfl, go, own_ext_keep Eo Kc go, Ac, by rw [own_cl hq, own_sub_len cs _ _ (by omega)]⟩)
theorem con_cor (l : Launch) (Z : State) (b0 : Array Value) (hw : ∀ d ∈ tables_1, d.before b0 Z = true) (d : Addr) (k : ClassId) (n f t : Int32) (cs : List Int32) (fi ti : Nat) (l1 : n.toNatClampNeg = cs.length) (hbig : cs.length ≤ 16) (hf : f.toInt = fi) (ht : t.toInt = ti) (h1 : fi ≤ ti) (h2 : ti ≤ cs.length) (h0 : Heap) (hE : Ext Z.heap h0) (A1 : Arv Z h0 d k .byte n (cs.map fun c => .int (own_b c)) (.int 0)) (hne : ¬ (fi = 0 ∧ ti = cs.length)) : Con l Z (⟨"java/util/Arrays", "copyOfRange", "([BII)[B"⟩ : MethodName) jdk_65_method_132_code 3 (some (.array .byte)) ({ frames := 2, cells := 1, slots := 16, locals := 56 } : Room) #[(.ref d), (.int f), (.int t)] h0 [] (QV fun w h => ∃ (o : Addr) (ko : ClassId) (no : Int32), w = .ref o ∧ h0.size ≤ o ∧ Ext h0 h ∧ Arv Z h o ko .byte no ((own_sub cs fi (ti - fi)).map fun c => .int (own_b c)) (.int 0) ∧ no.toNatClampNeg = (own_sub cs fi (ti - fi)).length) := by
  refine Con.of (plainFor_of_name pn4) hE ⟨b0, own_ew0 hw⟩ all0 (L0 := #[.val (.ref d), .val (.int f), .val (.int t)]) (fun m => by first | (simp [entryFrame, mkF, argsToLocals, Value.category]; done) | rfl) ?_
  intro p e s m args below meth c T W
  have hn0 : ¬ n < 0 := by obtain ⟨cl, B1, B2, B3, B4, B5, B6⟩ := A1; exact B4
  have hnI := own_n hn0 l1
  have z0 : (0 : Int32).toInt = 0 := rfl
  refine o_iloadN 1 W d24_0 rfl ?_
  refine o_ifne 10 4 W d24_1 (fun c1 => ?_) (fun c1 => ?_)
  · refine o_aloadN 11 W d24_10 rfl rfl ?_
    refine o_iloadN 12 W d24_11 rfl ?_
    refine o_iloadN 13 W d24_12 rfl ?_
    refine o_static 16 [(.ref d), (.int f), (.int t)] W (tw hw 120) (tw hw 121) (tw hw 118) (tw hw 122) (con_crb l Z b0 hw d k n f t cs fi ti l1 hbig hf ht h1 h2 _ W.old A1) pd12 d24_13 rfl all0 (fun T h v W qq gg => ?_)
    obtain ⟨_, rfl, o, ko, no, rfl, r1, r2, r3, r4⟩ := qq
    show Go p e below _ _ (mkF m 16 #[.val (.ref d), .val (.int f), .val (.int t)] [(.ref o)])
    exact o_aret W rfl rfl rfl d24_16 (⟨o, ko, no, rfl, r1, r2, r3, r4⟩)
  · refine o_iloadN 5 W d24_4 rfl ?_
    refine o_aloadN 6 W d24_5 rfl rfl ?_
    refine o_alenV 7 W A1 d24_6 ?_
    refine o_iceq 17 10 W d24_7 (fun c7 => ?_) (fun c7 => ?_)
    · exact absurd ⟨by rw [c1] at hf; omega, by rw [c7] at ht; omega⟩ hne
    · refine o_aloadN 11 W d24_10 rfl rfl ?_
      refine o_iloadN 12 W d24_11 rfl ?_
      refine o_iloadN 13 W d24_12 rfl ?_
      refine o_static 16 [(.ref d), (.int f), (.int t)] W (tw hw 120) (tw hw 121) (tw hw 118) (tw hw 122) (con_crb l Z b0 hw d k n f t cs fi ti l1 hbig hf ht h1 h2 _ W.old A1) pd12 d24_13 rfl all0 (fun T h v W qq gg => ?_)
      obtain ⟨_, rfl, o, ko, no, rfl, r1, r2, r3, r4⟩ := qq
      show Go p e below _ _ (mkF m 16 #[.val (.ref d), .val (.int f), .val (.int t)] [(.ref o)])
      exact o_aret W rfl rfl rfl d24_16 (⟨o, ko, no, rfl, r1, r2, r3, r4⟩)
theorem con_sbb (l : Launch) (Z : State) (b0 : Array Value) (hw : ∀ d ∈ tables_1, d.before b0 Z = true) (a d : Addr) (k : ClassId) (n : Int32) (cs : List Int32) (l1 : n.toNatClampNeg = cs.length) (h0 : Heap) (hE : Ext Z.heap h0) (A1 : Arv Z h0 d k .byte n (cs.map fun c => .int (own_b c)) (.int 0)) (hne : d ≠ a) (A : Exa Z h0 a "java/lang/String") (F1 : Fld Z h0 a "java/lang/String" "value" "[B" .null) (F2 : Fld Z h0 a "java/lang/String" "coder" "B" (.int 0)) (za : Z.heap.size ≤ a) : Con l Z (⟨"java/lang/String", "<init>", "([BB)V"⟩ : MethodName) jdk_42_method_151_code 3 none ({ frames := 1, cells := 0, slots := 0, locals := 16 } : Room) #[(.ref a), (.ref d), (.int 0)] h0 [a] (Q0 fun h => Keep h0 h [a] ∧ Str Z h a cs) := by
  refine Con.of (plainFor_of_name pn1) hE ⟨b0, own_ew0 hw⟩ (fun x hx => by rw [List.mem_singleton.mp hx]; exact A.lt) (L0 := #[.val (.ref a), .val (.ref d), .val (.int 0)]) (fun m => by first | (simp [entryFrame, mkF, argsToLocals, Value.category]; done) | rfl) ?_
  intro p e s m args below meth c T W
  have K0 := Keep.refl h0 [a]
  refine o_aloadN 1 W d28_0 rfl rfl ?_
  refine o_initO 4 W (tw hw 21) (tw hw 22) (tw hw 23) d28_1 (fun T W => ?_)
  refine o_aloadN 5 W d28_4 rfl rfl ?_
  refine o_aloadN 6 W d28_5 rfl rfl ?_
  refine o_putF 9 W (tw hw 30) F1 A (Or.inr ⟨(tw hw 26), rfl, rfl⟩) (tw hw 12) (ty := (.array .byte)) (by decide) rfl rfl (Or.inl (List.mem_singleton.mpr rfl)) za d28_6 (fun T h W w1 => ?_)
  have K0 := K0.wr w1 (Or.inl (List.mem_singleton.mpr rfl))
  have A := A.wr w1
  have F1 := F1.same w1
  have F2 := F2.other w1 (Or.inr (slot_ne (C := "java/lang/String") (Or.inr (tw hw 27)) (Or.inr (tw hw 26)) (by decide) (t := .byte) (t' := (.array .byte)) (by decide) (by decide)))
  have A1 := A1.other w1 hne
  refine o_aloadN 10 W d28_9 rfl rfl ?_
  refine o_iloadN 11 W d28_10 rfl ?_
  refine o_putF 14 W (tw hw 31) F2 A (Or.inr ⟨(tw hw 27), rfl, rfl⟩) (tw hw 12) (ty := .byte) (by decide) rfl rfl (Or.inl (List.mem_singleton.mpr rfl)) za d28_11 (fun T h W w2 => ?_)
  have K0 := K0.wr w2 (Or.inl (List.mem_singleton.mpr rfl))
  have A := A.wr w2
  have F2 := F2.same w2
  have F1 := F1.other w2 (Or.inr (slot_ne (C := "java/lang/String") (Or.inr (tw hw 26)) (Or.inr (tw hw 27)) (by decide) (t := (.array .byte)) (t' := .byte) (by decide) (by decide)))
  have A1 := A1.other w2 hne
  exact o_ret W d28_14 (⟨K0, A, F2, d, k, n, F1, A1, l1⟩)
theorem con_nst (l : Launch) (Z : State) (b0 : Array Value) (hw : ∀ d ∈ tables_1, d.before b0 Z = true) (d : Addr) (k : ClassId) (n f q : Int32) (cs : List Int32) (fi qi : Nat) (l1 : n.toNatClampNeg = cs.length) (hbig : cs.length ≤ 16) (hf : f.toInt = fi) (hq : q.toInt = qi) (h2 : fi + qi ≤ cs.length) (hne : ¬ (fi = 0 ∧ qi = cs.length)) (h0 : Heap) (hE : Ext Z.heap h0) (A1 : Arv Z h0 d k .byte n (cs.map fun c => .int (own_b c)) (.int 0)) : Con l Z (⟨"java/lang/StringLatin1", "newString", "([BII)Ljava/lang/String;"⟩ : MethodName) jdk_43_method_47_code 3 (some (.object "java/lang/String")) ({ frames := 3, cells := 4, slots := 24, locals := 88 } : Room) #[(.ref d), (.int f), (.int q)] h0 [] (QV fun w h => ∃ o, w = .ref o ∧ Str Z h o (own_sub cs fi qi) ∧ Ext h0 h) := by
  refine Con.of (plainFor_of_name pn2) hE ⟨b0, own_ew0 hw⟩ all0 (L0 := #[.val (.ref d), .val (.int f), .val (.int q)]) (fun m => by first | (simp [entryFrame, mkF, argsToLocals, Value.category]; done) | rfl) ?_
  intro p e s m args below meth c T W
  have z0 : (0 : Int32).toInt = 0 := rfl
  refine o_iloadN 1 W d21_0 rfl ?_
  refine o_ifne 7 4 W d21_1 (fun c1 => ?_) (fun c1 => ?_)
  · refine o_new 10 W (tw hw 115) (tw hw 12) (tw hw 13) d21_7 (fun T h o W Eo Ao Do go zo => ?_)
    have Po := Do (Or.inr (tw hw 26)) (ty := .array .byte) (by decide)
    have Co := Do (Or.inr (tw hw 27)) (ty := .byte) (by decide)
    have A1 := A1.ext Eo
    refine o_dup 11 W d21_10 rfl ?_
    refine o_aloadN 12 W d21_11 rfl rfl ?_
    refine o_iloadN 13 W d21_12 rfl ?_
    refine o_iloadN 14 W d21_13 rfl ?_
    refine o_iloadN 15 W d21_14 rfl ?_
    refine o_iadd 16 W d21_15 ?_
    refine o_static 19 [(.ref d), (.int f), (.int (f + q))] W (tw hw 116) (tw hw 117) (tw hw 118) (tw hw 119) (con_cor l Z b0 hw d k n f (f + q) cs fi (fi + qi) l1 hbig hf (own_addI hf hq (by omega)) (by omega) h2 _ W.old A1 (by omega)) pd12 d21_16 rfl all0 (fun T h v W qq gg => ?_)
    obtain ⟨_, rfl, e', ke, ne, rfl, ge, Ee, Ae, le⟩ := qq
    show Go p e below _ _ (mkF m 19 #[.val (.ref d), .val (.int f), .val (.int q)] [(.ref e'), (.ref o), (.ref o)])
    rw [Nat.add_sub_cancel_left] at Ae le
    have hoe := Ao.lt
    have Ao := Ao.ext Ee
    have Po := Po.ext Ee
    have Co := Co.ext Ee
    refine o_iconst 20 W (0) d21_19 (by first | rfl | decide) ?_
    refine o_special 23 [(.ref e'), (.int (0 : Int32))] W (tw hw 134) (tw hw 135) (tw hw 13) (tw hw 136) (con_sbb l Z b0 hw o e' ke ne _ le _ W.old Ae (Nat.ne_of_gt (Nat.lt_of_lt_of_le hoe ge)) Ao Po Co zo) pd13 d21_20 rfl (by simp) (fun T h v W qq gg => ?_)
    obtain ⟨rfl, Ko, Xo⟩ := qq
    show Go p e below _ _ (mkF m 23 #[.val (.ref d), .val (.int f), .val (.int q)] [(.ref o)])
    exact o_aret W rfl rfl rfl d21_23 (⟨o, rfl, Xo, own_ext_keep (own_ext_trans Eo Ee) Ko go⟩)
  · refine o_ldcC 6 0 W (vs := []) (z := 0) (fun q => q) (tw hw 101) (own_wS hw) (by first | (simp [own_EL]; done) | simp [own_EL, x]) (by decide) (by decide) rfl d21_4 (by decide) (fun T h t bt kt W Et Xt Ct Vt At nt => ?_)
    obtain rfl : qi = 0 := by rw [c1] at hq; omega
    exact o_aret W rfl rfl rfl d21_6 (⟨t, rfl, ⟨Xt, Ct, bt, kt, 0, Vt, by simpa [own_sub] using At, by first | (simp [own_sub]; done) | (simp [own_sub]; rfl)⟩, Et⟩)
theorem con_sub (l : Launch) (Z : State) (b0 : Array Value) (hw : ∀ d ∈ tables_1, d.before b0 Z = true) (a : Addr) (f t : Int32) (cs : List Int32) (fi ti : Nat) (hbig : cs.length ≤ 16) (hf : f.toInt = fi) (ht : t.toInt = ti) (h1 : fi ≤ ti) (h2 : ti ≤ cs.length) (h0 : Heap) (hE : Ext Z.heap h0) (X : Str Z h0 a cs) (cz : Int32) (hcz : ¬ cz = 0) (SC : Sta Z Z.heap "java/lang/String" "COMPACT_STRINGS" "Z" (.int cz)) (vf : Value) (rf : vf.isRef = true) (SF : Sta Z Z.heap "jdk/internal/util/Preconditions" "SIOOBE_FORMATTER" "Ljava/util/function/BiFunction;" vf) : Con l Z (⟨"java/lang/String", "substring", "(II)Ljava/lang/String;"⟩ : MethodName) jdk_42_method_92_code 5 (some (.object "java/lang/String")) ({ frames := 4, cells := 4, slots := 24, locals := 120 } : Room) #[(.ref a), (.int f), (.int t)] h0 [] (QV fun w h => ∃ o, w = .ref o ∧ Str Z h o (own_sub cs fi (ti - fi)) ∧ Ext h0 h) := by
  refine Con.of (plainFor_of_name pn1) hE ⟨b0, own_ew0 hw⟩ all0 (L0 := #[.val (.ref a), .val (.int f), .val (.int t), .unset, .unset]) (fun m => by first | (simp [entryFrame, mkF, argsToLocals, Value.category]; done) | rfl) ?_
  intro p e s m args below meth c T W
  have z0 : (0 : Int32).toInt = 0 := rfl
  have E1 := X.1
  refine o_aloadN 1 W d18_0 rfl rfl ?_
  refine o_virtual 4 [] W (tw hw 91) (tw hw 51) (tw hw 53) (tw hw 52) (tw hw 13) (tw hw 54) (E1) (con_len l Z b0 hw a cs _ W.old X cz hcz SC) pd14 d18_1 rfl all0 (fun T h v W qq gg => ?_)
  obtain ⟨_, rfl, n, rfl, hn, rfl⟩ := qq
  show Go p e below _ _ (mkF m 4 #[.val (.ref a), .val (.int f), .val (.int t), .unset, .unset] [(.int n)])
  refine o_istoreN 5 W #[.val (.ref a), .val (.int f), .val (.int t), .val (.int n), .unset] d18_4 rfl ?_
  refine o_iloadN 6 W d18_5 rfl ?_
  refine o_iloadN 7 W d18_6 rfl ?_
  refine o_iloadN 8 W d18_7 rfl ?_
  refine o_static 11 [(.int f), (.int t), (.int n)] W (tw hw 92) (tw hw 93) (tw hw 13) (tw hw 94) (con_cbe l Z b0 hw f t n vf rf SF (own_nn hf) (own_geI ht hf h1) (own_geI hn ht h2) _ W.old) pd15 d18_8 rfl all0 (fun T h v W qq gg => ?_)
  obtain ⟨rfl, rfl⟩ := qq
  show Go p e below _ _ (mkF m 11 #[.val (.ref a), .val (.int f), .val (.int t), .val (.int n), .unset] [])
  refine o_iloadN 12 W d18_11 rfl ?_
  refine o_ifne 22 15 W d18_12 (fun c12 => ?_) (fun c12 => ?_)
  · have hz : ¬ (fi = 0 ∧ ti = cs.length) := fun z => c12 (Int32.toInt_inj.mp (by rw [hf, z0]; omega))
    refine o_iloadN 23 W d18_22 rfl ?_
    refine o_iloadN 24 W d18_23 rfl ?_
    refine o_isub 25 W d18_24 ?_
    refine o_istore 27 W #[.val (.ref a), .val (.int f), .val (.int t), .val (.int n), .val (.int (t - f))] d18_25 rfl ?_
    refine o_aloadN 28 W d18_27 rfl rfl ?_
    have hq := own_subI ht hf h1 (by omega)
    generalize t - f = q at hq ⊢
    show Go p e below _ _ (mkF m 28 #[.val (.ref a), .val (.int f), .val (.int t), .val (.int n), .val (.int q)] [(.ref a)])
    obtain ⟨-, C1, d, k, nn, V1, A1, l1⟩ := X
    refine o_virtual 31 [] W (tw hw 65) (tw hw 66) (tw hw 68) (tw hw 67) (tw hw 13) (tw hw 69) (E1) (con_lat l Z b0 hw a _ W.old C1 cz hcz SC) pd8 d18_28 rfl all0 (fun T h v W qq gg => ?_)
    obtain ⟨_, rfl, rfl, rfl⟩ := qq
    show Go p e below _ _ (mkF m 31 #[.val (.ref a), .val (.int f), .val (.int t), .val (.int n), .val (.int q)] [(.int (1 : Int32))])
    refine o_ifN 34 W d18_31 (by decide) ?_
    refine o_aloadN 35 W d18_34 rfl rfl ?_
    refine o_getF 38 W (tw hw 30) V1 d18_35 (fun T W => ?_)
    refine o_iloadN 39 W d18_38 rfl ?_
    refine o_iload 41 W d18_39 rfl ?_
    refine o_static 44 [(.ref d), (.int f), (.int q)] W (tw hw 98) (tw hw 99) (tw hw 72) (tw hw 100) (con_nst l Z b0 hw d k nn f q cs fi (ti - fi) l1 hbig hf hq (by omega) (by omega) _ W.old A1) pd16 d18_41 rfl all0 (fun T h v W qq gg => ?_)
    obtain ⟨_, rfl, o, rfl, Xo, Eo⟩ := qq
    show Go p e below _ _ (mkF m 44 #[.val (.ref a), .val (.int f), .val (.int t), .val (.int n), .val (.int q)] [(.ref o)])
    refine o_goto 57 W d18_44 ?_
    exact o_aret W rfl rfl rfl d18_57 (⟨o, rfl, Xo, Eo⟩)
  · refine o_iloadN 16 W d18_15 rfl ?_
    refine o_iloadN 17 W d18_16 rfl ?_
    refine o_icne 22 20 W d18_17 (fun c17 => ?_) (fun c17 => ?_)
    · have hz : ¬ (fi = 0 ∧ ti = cs.length) := fun z => c17 (Int32.toInt_inj.mp (by rw [ht, hn]; omega))
      refine o_iloadN 23 W d18_22 rfl ?_
      refine o_iloadN 24 W d18_23 rfl ?_
      refine o_isub 25 W d18_24 ?_
      refine o_istore 27 W #[.val (.ref a), .val (.int f), .val (.int t), .val (.int n), .val (.int (t - f))] d18_25 rfl ?_
      refine o_aloadN 28 W d18_27 rfl rfl ?_
      have hq := own_subI ht hf h1 (by omega)
      generalize t - f = q at hq ⊢
      show Go p e below _ _ (mkF m 28 #[.val (.ref a), .val (.int f), .val (.int t), .val (.int n), .val (.int q)] [(.ref a)])
      obtain ⟨-, C1, d, k, nn, V1, A1, l1⟩ := X
      refine o_virtual 31 [] W (tw hw 65) (tw hw 66) (tw hw 68) (tw hw 67) (tw hw 13) (tw hw 69) (E1) (con_lat l Z b0 hw a _ W.old C1 cz hcz SC) pd8 d18_28 rfl all0 (fun T h v W qq gg => ?_)
      obtain ⟨_, rfl, rfl, rfl⟩ := qq
      show Go p e below _ _ (mkF m 31 #[.val (.ref a), .val (.int f), .val (.int t), .val (.int n), .val (.int q)] [(.int (1 : Int32))])
      refine o_ifN 34 W d18_31 (by decide) ?_
      refine o_aloadN 35 W d18_34 rfl rfl ?_
      refine o_getF 38 W (tw hw 30) V1 d18_35 (fun T W => ?_)
      refine o_iloadN 39 W d18_38 rfl ?_
      refine o_iload 41 W d18_39 rfl ?_
      refine o_static 44 [(.ref d), (.int f), (.int q)] W (tw hw 98) (tw hw 99) (tw hw 72) (tw hw 100) (con_nst l Z b0 hw d k nn f q cs fi (ti - fi) l1 hbig hf hq (by omega) (by omega) _ W.old A1) pd16 d18_41 rfl all0 (fun T h v W qq gg => ?_)
      obtain ⟨_, rfl, o, rfl, Xo, Eo⟩ := qq
      show Go p e below _ _ (mkF m 44 #[.val (.ref a), .val (.int f), .val (.int t), .val (.int n), .val (.int q)] [(.ref o)])
      refine o_goto 57 W d18_44 ?_
      exact o_aret W rfl rfl rfl d18_57 (⟨o, rfl, Xo, Eo⟩)
    · refine o_aloadN 21 W d18_20 rfl rfl ?_
      obtain rfl : fi = 0 := by rw [c12] at hf; omega
      obtain rfl : ti = cs.length := by rw [c17] at ht; omega
      exact o_aret W rfl rfl rfl d18_21 (⟨a, rfl, by rw [Nat.sub_zero, own_sub_all]; exact X, own_ext_refl _⟩)
def own_yc (k : Int32) : Int32 := if (k &&& 3) % 3 = 0 then 45 else if (k &&& 3) % 3 = 1 then 49 else 48
def own_fc (k : Int32) : Int32 := if k &&& 3 = 1 then 49 else if k &&& 3 = 2 then 57 else 48
theorem own_ycr (k : Int32) : ¬ own_yc k < 0 ∧ ¬ (255 : Int32) < own_yc k := by unfold own_yc; split; decide; split <;> decide
theorem own_fcr (k : Int32) : ¬ own_fc k < 0 ∧ ¬ (255 : Int32) < own_fc k := by unfold own_fc; split; decide; split <;> decide
def own_strip (cs : List Int32) : Nat → Nat
  | 0 => 0
  | k + 1 => if cs.getD k 0 = 48 then own_strip cs k else k + 1
theorem own_strip_s (cs : List Int32) (k : Nat) : own_strip cs (k + 1) = if cs.getD k 0 = 48 then own_strip cs k else k + 1 := rfl
theorem own_strip_le (cs : List Int32) : ∀ k, own_strip cs k ≤ k
  | 0 => Nat.le_refl _
  | k + 1 => by unfold own_strip; split; exact Nat.le_succ_of_le (own_strip_le cs k); exact Nat.le_refl _
theorem own_strip_take (cs : List Int32) (n : Nat) : ∀ k, k ≤ n → own_strip (cs.take n) k = own_strip cs k
  | 0, _ => rfl
  | k + 1, h => by
    have e : (cs.take n).getD k 0 = cs.getD k 0 := by
      simp only [List.getD_eq_getElem?_getD, List.getElem?_take]
      rw [if_pos (by omega)]
    unfold own_strip; rw [e, own_strip_take cs n k (by omega)]
theorem own_take_len {cs : List Int32} {n : Nat} (h : n ≤ cs.length) : (cs.take n).length = n := by simp; omega
theorem own_take_ch {cs : List Int32} (h : own_ch cs) (n : Nat) : own_ch (cs.take n) := fun c hc => h c (List.mem_of_mem_take hc)
theorem own_sub_take (cs : List Int32) (n k : Nat) (h : k ≤ n) : own_sub (cs.take n) 0 k = cs.take k := by
  simp [own_sub, List.take_take]; omega
theorem own_take2 (a b c d : Int32) (i j : Nat) (hi : i ≤ 2) (hj : j ≤ 2) : ([a, b].take i = [c, d].take j) ↔ (i = j ∧ (i < 1 ∨ a = c) ∧ (i < 2 ∨ b = d)) := by
  have h1 : i = 0 ∨ i = 1 ∨ i = 2 := by omega
  have h2 : j = 0 ∨ j = 1 ∨ j = 2 := by omega
  rcases h1 with rfl | rfl | rfl <;> rcases h2 with rfl | rfl | rfl <;> simp
theorem own_take3 (a b c d e f : Int32) (i j : Nat) (hi : i ≤ 3) (hj : j ≤ 3) : ([a, b, c].take i = [d, e, f].take j) ↔ (i = j ∧ (i < 1 ∨ a = d) ∧ (i < 2 ∨ b = e) ∧ (i < 3 ∨ c = f)) := by
  have h1 : i = 0 ∨ i = 1 ∨ i = 2 ∨ i = 3 := by omega
  have h2 : j = 0 ∨ j = 1 ∨ j = 2 ∨ j = 3 := by omega
  rcases h1 with rfl | rfl | rfl | rfl <;> rcases h2 with rfl | rfl | rfl | rfl <;> simp
theorem own_eqI {x z : Int32} {i k : Nat} (h1 : x.toInt = i) (h2 : z.toInt = k) : x = z ↔ i = k := by
  constructor
  · intro e; rw [e] at h1; omega
  · intro e; exact Int32.toInt_inj.mp (by omega)
theorem own_lteI {x z : Int32} {i k : Nat} (h1 : x.toInt = i) (h2 : z.toInt = k) : x < z ↔ i < k := by rw [Int32.lt_iff_toInt_lt]; omega
theorem own_and3 (x : Int32) : ∃ n : Nat, (x &&& 3).toInt = n ∧ n ≤ 3 := by
  have h0 : ¬ (x &&& 3) < 0 := fun q => absurd ((XT.and_neg32 x 3).mp q).2 (by decide)
  have e : (x &&& 3).toInt = ((x &&& 3).toBitVec.toNat : Int) := by
    have := nat_of h0
    rw [XT.neg32] at h0
    show (x &&& 3).toBitVec.toInt = _
    rw [BitVec.toInt_eq_msb_cond, if_neg h0]
  have h2 : (x &&& 3).toBitVec.toNat = x.toBitVec.toNat &&& 3 := by
    show (x.toBitVec &&& (3 : Int32).toBitVec).toNat = _
    rw [BitVec.toNat_and]; rfl
  exact ⟨_, e, by rw [h2]; exact Nat.and_le_right⟩
theorem own_m3 (x : Int32) : ∃ n : Nat, ((x &&& 3) % 3).toInt = n ∧ n ≤ 2 := by
  have h := own_modm x 3 3 (by decide) (by decide)
  have h7 : (3 : Int32).toInt = 3 := rfl
  exact ⟨((x &&& 3) % 3).toInt.toNat, by omega, by omega⟩
theorem con_yc (l : Launch) (Z : State) (b0 : Array Value) (hw : ∀ d ∈ tables_1, d.before b0 Z = true) (k : Int32) (h0 : Heap) (hE : Ext Z.heap h0) : Con l Z (⟨"com/example/indelible_trail/indelibletrail/model/XmlDateTimeEqualsPinLaw", "yc", "(I)C"⟩ : MethodName) method_3_code 2 (some .char) ({ frames := 0, cells := 0, slots := 0, locals := 0 } : Room) #[(.int k)] h0 [] (QV fun w h => w = .int (own_yc k) ∧ h0 = h) := by
  refine Con.of (plainFor_of_name pn5) hE ⟨b0, own_ew0 hw⟩ all0 (L0 := #[.val (.int k), .unset]) (fun m => by first | (simp [entryFrame, mkF, argsToLocals, Value.category]; done) | rfl) ?_
  intro p e s m args below meth c T W
  refine o_iloadN 1 W d1_0 rfl ?_
  refine o_iconst 2 W (3) d1_1 (by first | rfl | decide) ?_
  refine o_iand 3 W d1_2 ?_
  refine o_iconst 4 W (3) d1_3 (by first | rfl | decide) ?_
  refine o_irem 5 W d1_4 (by decide) ?_
  refine o_istoreN 6 W #[.val (.int k), .val (.int ((k &&& (3 : Int32)) % (3 : Int32)))] d1_5 rfl ?_
  refine o_iloadN 7 W d1_6 rfl ?_
  refine o_ifne 15 10 W d1_7 (fun c7 => ?_) (fun c7 => ?_)
  · refine o_iloadN 16 W d1_15 rfl ?_
    refine o_iconst 17 W (1) d1_16 (by first | rfl | decide) ?_
    refine o_icne 25 20 W d1_17 (fun c17 => ?_) (fun c17 => ?_)
    · refine o_bipush 27 W (48) d1_25 (by first | rfl | decide) ?_
      exact o_nret W (48 : Int32) (by simp) (by decide) d1_27 (⟨by simp [own_yc, c7, c17], rfl⟩)
    · refine o_bipush 22 W (49) d1_20 (by first | rfl | decide) ?_
      refine o_goto 27 W d1_22 ?_
      exact o_nret W (49 : Int32) (by simp) (by decide) d1_27 (⟨by simp [own_yc, c7, c17], rfl⟩)
  · refine o_bipush 12 W (45) d1_10 (by first | rfl | decide) ?_
    refine o_goto 27 W d1_12 ?_
    exact o_nret W (45 : Int32) (by simp) (by decide) d1_27 (⟨by simp [own_yc, c7], rfl⟩)
theorem con_fc (l : Launch) (Z : State) (b0 : Array Value) (hw : ∀ d ∈ tables_1, d.before b0 Z = true) (k : Int32) (h0 : Heap) (hE : Ext Z.heap h0) : Con l Z (⟨"com/example/indelible_trail/indelibletrail/model/XmlDateTimeEqualsPinLaw", "fc", "(I)C"⟩ : MethodName) method_4_code 2 (some .char) ({ frames := 0, cells := 0, slots := 0, locals := 0 } : Room) #[(.int k)] h0 [] (QV fun w h => w = .int (own_fc k) ∧ h0 = h) := by
  refine Con.of (plainFor_of_name pn5) hE ⟨b0, own_ew0 hw⟩ all0 (L0 := #[.val (.int k), .unset]) (fun m => by first | (simp [entryFrame, mkF, argsToLocals, Value.category]; done) | rfl) ?_
  intro p e s m args below meth c T W
  refine o_iloadN 1 W d2_0 rfl ?_
  refine o_iconst 2 W (3) d2_1 (by first | rfl | decide) ?_
  refine o_iand 3 W d2_2 ?_
  refine o_istoreN 4 W #[.val (.int k), .val (.int (k &&& (3 : Int32)))] d2_3 rfl ?_
  refine o_iloadN 5 W d2_4 rfl ?_
  refine o_iconst 6 W (1) d2_5 (by first | rfl | decide) ?_
  refine o_icne 14 9 W d2_6 (fun c6 => ?_) (fun c6 => ?_)
  · refine o_iloadN 15 W d2_14 rfl ?_
    refine o_iconst 16 W (2) d2_15 (by first | rfl | decide) ?_
    refine o_icne 24 19 W d2_16 (fun c16 => ?_) (fun c16 => ?_)
    · refine o_bipush 26 W (48) d2_24 (by first | rfl | decide) ?_
      exact o_nret W (48 : Int32) (by simp) (by decide) d2_26 (⟨by simp [own_fc, c6, c16], rfl⟩)
    · refine o_bipush 21 W (57) d2_19 (by first | rfl | decide) ?_
      refine o_goto 26 W d2_21 ?_
      exact o_nret W (57 : Int32) (by simp) (by decide) d2_26 (⟨by simp [own_fc, c6, c16], rfl⟩)
  · refine o_bipush 11 W (49) d2_9 (by first | rfl | decide) ?_
    refine o_goto 26 W d2_11 ?_
    exact o_nret W (49 : Int32) (by simp) (by decide) d2_26 (⟨by simp [own_fc, c6], rfl⟩)
theorem own_tk0 (cs : List Int32) (h : 0 ≤ cs.length) : cs.take 0 = [] := by
  apply List.ext_getElem
  · simp <;> omega
  · intro i h1 h2
    have h3 : i < 0 := by simpa using h2
    have h4 : i < cs.length := by omega
    simp only [List.getElem_take]
    have q : cs[i] = cs.getD i 0 := by rw [List.getD_eq_getElem?_getD, List.getElem?_eq_getElem h4]; rfl
    rw [q]
    have z : False := by omega
    exact z.elim
theorem own_tk1 (cs : List Int32) (h : 1 ≤ cs.length) : cs.take 1 = [cs.getD 0 0] := by
  apply List.ext_getElem
  · simp <;> omega
  · intro i h1 h2
    have h3 : i < 1 := by simpa using h2
    have h4 : i < cs.length := by omega
    simp only [List.getElem_take]
    have q : cs[i] = cs.getD i 0 := by rw [List.getD_eq_getElem?_getD, List.getElem?_eq_getElem h4]; rfl
    rw [q]
    have z : i = 0 := by omega
    subst z; rfl
theorem own_tk2 (cs : List Int32) (h : 2 ≤ cs.length) : cs.take 2 = [cs.getD 0 0, cs.getD 1 0] := by
  apply List.ext_getElem
  · simp <;> omega
  · intro i h1 h2
    have h3 : i < 2 := by simpa using h2
    have h4 : i < cs.length := by omega
    simp only [List.getElem_take]
    have q : cs[i] = cs.getD i 0 := by rw [List.getD_eq_getElem?_getD, List.getElem?_eq_getElem h4]; rfl
    rw [q]
    have z : i = 0 ∨ i = 1 := by omega
    rcases z with rfl | rfl <;> rfl
theorem own_tk3 (cs : List Int32) (h : 3 ≤ cs.length) : cs.take 3 = [cs.getD 0 0, cs.getD 1 0, cs.getD 2 0] := by
  apply List.ext_getElem
  · simp <;> omega
  · intro i h1 h2
    have h3 : i < 3 := by simpa using h2
    have h4 : i < cs.length := by omega
    simp only [List.getElem_take]
    have q : cs[i] = cs.getD i 0 := by rw [List.getD_eq_getElem?_getD, List.getElem?_eq_getElem h4]; rfl
    rw [q]
    have z : i = 0 ∨ i = 1 ∨ i = 2 := by omega
    rcases z with rfl | rfl | rfl <;> rfl
theorem con_st (l : Launch) (Z : State) (b0 : Array Value) (hw : ∀ d ∈ tables_1, d.before b0 Z = true) (d : Addr) (kd : ClassId) (z n : Int32) (cs : List Int32) (ni : Nat) (hz : z.toInt = cs.length) (hc : own_ch cs) (hn : n.toInt = ni) (h3 : ni ≤ 3) (hl : ni ≤ cs.length) (h0 : Heap) (hE : Ext Z.heap h0) (A : Arv Z h0 d kd .char z (cs.map Value.int) (.int 0)) (cz : Int32) (hcz : ¬ cz = 0) (SC : Sta Z Z.heap "java/lang/String" "COMPACT_STRINGS" "Z" (.int cz)) : Con l Z (⟨"com/example/indelible_trail/indelibletrail/model/XmlDateTimeEqualsPinLaw", "str", "([CI)Ljava/lang/String;"⟩ : MethodName) method_5_code 2 (some (.object "java/lang/String")) ({ frames := 4, cells := 8, slots := 64, locals := 128 } : Room) #[(.ref d), (.int n)] h0 [] (QV fun w h => ∃ o, w = .ref o ∧ Str Z h o (cs.take ni) ∧ Ext h0 h) := by
  refine Con.of (plainFor_of_name pn5) hE ⟨b0, own_ew0 hw⟩ all0 (L0 := #[.val (.ref d), .val (.int n)]) (fun m => by first | (simp [entryFrame, mkF, argsToLocals, Value.category]; done) | rfl) ?_
  intro p e s m args below meth c T W
  refine o_iloadN 1 W d3_0 rfl ?_
  refine o_ifne 15 4 W d3_1 (fun c1 => ?_) (fun c1 => ?_)
  · refine o_iloadN 16 W d3_15 rfl ?_
    refine o_iconst 17 W (1) d3_16 (by first | rfl | decide) ?_
    refine o_icne 37 20 W d3_17 (fun c17 => ?_) (fun c17 => ?_)
    · refine o_iloadN 38 W d3_37 rfl ?_
      refine o_iconst 39 W (2) d3_38 (by first | rfl | decide) ?_
      refine o_icne 65 42 W d3_39 (fun c39 => ?_) (fun c39 => ?_)
      · have hni : ni = 3 := by have q1 : ¬ ni = 0 := fun e => c1 ((own_eqI hn (z := 0) (k := 0) rfl).mpr e); have q2 : ¬ ni = 1 := fun e => c17 ((own_eqI hn (z := 1) (k := 1) rfl).mpr e); have q3 : ¬ ni = 2 := fun e => c39 ((own_eqI hn (z := 2) (k := 2) rfl).mpr e); omega
        subst hni
        refine o_new 68 W (tw hw 11) (tw hw 12) (tw hw 13) d3_65 (fun T h o W Eo Ao Do go zo => ?_)
        have Po := Do (Or.inr (tw hw 26)) (ty := .array .byte) (by decide)
        have Co := Do (Or.inr (tw hw 27)) (ty := .byte) (by decide)
        have A := A.ext Eo
        refine o_dup 69 W d3_68 rfl ?_
        refine o_iconst 70 W (3) d3_69 (by first | rfl | decide) ?_
        have r0 := hc _ (own_gm cs 0 (by omega))
        have r1 := hc _ (own_gm cs 1 (by omega))
        have r2 := hc _ (own_gm cs 2 (by omega))
        refine o_newarray 72 3 W (tw hw 0) d3_70 (by decide) (by decide) (fun T h b kb W Eb Ab gb zb => ?_)
        have Ab := own_pad 3 Ab
        refine o_dup 73 W d3_72 rfl ?_
        refine o_iconst 74 W (0) d3_73 (by first | rfl | decide) ?_
        refine o_aloadN 75 W d3_74 rfl rfl ?_
        refine o_iconst 76 W (0) d3_75 (by first | rfl | decide) ?_
        refine o_caloadV 77 W (A.ext Eb) ⟨by decide, own_ltI (i := 0) rfl hz (by omega)⟩ (own_gd cs 0) d3_76 ?_
        refine o_castore 78 0 W Ab (by decide) rfl (by first | decide | simp) zb d3_77 (fun T h W w0 Ab => ?_)
        have Eb := own_ext_wr Eb w0 gb
        refine o_dup 79 W d3_78 rfl ?_
        refine o_iconst 80 W (1) d3_79 (by first | rfl | decide) ?_
        refine o_aloadN 81 W d3_80 rfl rfl ?_
        refine o_iconst 82 W (1) d3_81 (by first | rfl | decide) ?_
        refine o_caloadV 83 W (A.ext Eb) ⟨by decide, own_ltI (i := 1) rfl hz (by omega)⟩ (own_gd cs 1) d3_82 ?_
        refine o_castore 84 1 W Ab (by decide) rfl (by first | decide | simp) zb d3_83 (fun T h W w1 Ab => ?_)
        have Eb := own_ext_wr Eb w1 gb
        refine o_dup 85 W d3_84 rfl ?_
        refine o_iconst 86 W (2) d3_85 (by first | rfl | decide) ?_
        refine o_aloadN 87 W d3_86 rfl rfl ?_
        refine o_iconst 88 W (2) d3_87 (by first | rfl | decide) ?_
        refine o_caloadV 89 W (A.ext Eb) ⟨by decide, own_ltI (i := 2) rfl hz (by omega)⟩ (own_gd cs 2) d3_88 ?_
        refine o_castore 90 2 W Ab (by decide) rfl (by first | decide | simp) zb d3_89 (fun T h W w2 Ab => ?_)
        have Eb := own_ext_wr Eb w2 gb
        simp only [own_nar r0, own_nar r1, own_nar r2] at Ab
        have Ab : Arv Z h b kb .char 3 ([(cs.getD 0 0), (cs.getD 1 0), (cs.getD 2 0)].map Value.int) (.int 0) := Ab
        have Ao := Ao.ext Eb
        have Po := Po.ext Eb
        have Co := Co.ext Eb
        refine o_special 93 [(.ref b)] W (tw hw 14) (tw hw 15) (tw hw 13) (tw hw 16) (con_sin l Z b0 hw o b kb 3 [(cs.getD 0 0), (cs.getD 1 0), (cs.getD 2 0)] rfl (by first | decide | simp) (own_chS r0 (own_chS r1 (own_chS r2 own_ch0))) _ W.old Ab Ao Po Co zo cz hcz SC) pd17 d3_90 rfl (by simp) (fun T h v W qq gg => ?_)
        obtain ⟨rfl, Ko, Xo⟩ := qq
        show Go p e below _ _ (mkF m 93 #[.val (.ref d), .val (.int n)] [(.ref o)])
        exact o_aret W rfl rfl rfl d3_93 (⟨o, rfl, by rw [own_tk3 cs (by omega)]; exact Xo, own_ext_keep (own_ext_trans Eo Eb) Ko go⟩)
      · have hni : ni = 2 := by have q := (own_eqI hn (z := 2) (k := 2) rfl).mp c39; exact q
        subst hni
        refine o_new 45 W (tw hw 11) (tw hw 12) (tw hw 13) d3_42 (fun T h o W Eo Ao Do go zo => ?_)
        have Po := Do (Or.inr (tw hw 26)) (ty := .array .byte) (by decide)
        have Co := Do (Or.inr (tw hw 27)) (ty := .byte) (by decide)
        have A := A.ext Eo
        refine o_dup 46 W d3_45 rfl ?_
        refine o_iconst 47 W (2) d3_46 (by first | rfl | decide) ?_
        have r0 := hc _ (own_gm cs 0 (by omega))
        have r1 := hc _ (own_gm cs 1 (by omega))
        refine o_newarray 49 2 W (tw hw 0) d3_47 (by decide) (by decide) (fun T h b kb W Eb Ab gb zb => ?_)
        have Ab := own_pad 2 Ab
        refine o_dup 50 W d3_49 rfl ?_
        refine o_iconst 51 W (0) d3_50 (by first | rfl | decide) ?_
        refine o_aloadN 52 W d3_51 rfl rfl ?_
        refine o_iconst 53 W (0) d3_52 (by first | rfl | decide) ?_
        refine o_caloadV 54 W (A.ext Eb) ⟨by decide, own_ltI (i := 0) rfl hz (by omega)⟩ (own_gd cs 0) d3_53 ?_
        refine o_castore 55 0 W Ab (by decide) rfl (by first | decide | simp) zb d3_54 (fun T h W w0 Ab => ?_)
        have Eb := own_ext_wr Eb w0 gb
        refine o_dup 56 W d3_55 rfl ?_
        refine o_iconst 57 W (1) d3_56 (by first | rfl | decide) ?_
        refine o_aloadN 58 W d3_57 rfl rfl ?_
        refine o_iconst 59 W (1) d3_58 (by first | rfl | decide) ?_
        refine o_caloadV 60 W (A.ext Eb) ⟨by decide, own_ltI (i := 1) rfl hz (by omega)⟩ (own_gd cs 1) d3_59 ?_
        refine o_castore 61 1 W Ab (by decide) rfl (by first | decide | simp) zb d3_60 (fun T h W w1 Ab => ?_)
        have Eb := own_ext_wr Eb w1 gb
        simp only [own_nar r0, own_nar r1] at Ab
        have Ab : Arv Z h b kb .char 2 ([(cs.getD 0 0), (cs.getD 1 0)].map Value.int) (.int 0) := Ab
        have Ao := Ao.ext Eb
        have Po := Po.ext Eb
        have Co := Co.ext Eb
        refine o_special 64 [(.ref b)] W (tw hw 14) (tw hw 15) (tw hw 13) (tw hw 16) (con_sin l Z b0 hw o b kb 2 [(cs.getD 0 0), (cs.getD 1 0)] rfl (by first | decide | simp) (own_chS r0 (own_chS r1 own_ch0)) _ W.old Ab Ao Po Co zo cz hcz SC) pd17 d3_61 rfl (by simp) (fun T h v W qq gg => ?_)
        obtain ⟨rfl, Ko, Xo⟩ := qq
        show Go p e below _ _ (mkF m 64 #[.val (.ref d), .val (.int n)] [(.ref o)])
        exact o_aret W rfl rfl rfl d3_64 (⟨o, rfl, by rw [own_tk2 cs (by omega)]; exact Xo, own_ext_keep (own_ext_trans Eo Eb) Ko go⟩)
    · have hni : ni = 1 := by have q := (own_eqI hn (z := 1) (k := 1) rfl).mp c17; exact q
      subst hni
      refine o_new 23 W (tw hw 11) (tw hw 12) (tw hw 13) d3_20 (fun T h o W Eo Ao Do go zo => ?_)
      have Po := Do (Or.inr (tw hw 26)) (ty := .array .byte) (by decide)
      have Co := Do (Or.inr (tw hw 27)) (ty := .byte) (by decide)
      have A := A.ext Eo
      refine o_dup 24 W d3_23 rfl ?_
      refine o_iconst 25 W (1) d3_24 (by first | rfl | decide) ?_
      have r0 := hc _ (own_gm cs 0 (by omega))
      refine o_newarray 27 1 W (tw hw 0) d3_25 (by decide) (by decide) (fun T h b kb W Eb Ab gb zb => ?_)
      have Ab := own_pad 1 Ab
      refine o_dup 28 W d3_27 rfl ?_
      refine o_iconst 29 W (0) d3_28 (by first | rfl | decide) ?_
      refine o_aloadN 30 W d3_29 rfl rfl ?_
      refine o_iconst 31 W (0) d3_30 (by first | rfl | decide) ?_
      refine o_caloadV 32 W (A.ext Eb) ⟨by decide, own_ltI (i := 0) rfl hz (by omega)⟩ (own_gd cs 0) d3_31 ?_
      refine o_castore 33 0 W Ab (by decide) rfl (by first | decide | simp) zb d3_32 (fun T h W w0 Ab => ?_)
      have Eb := own_ext_wr Eb w0 gb
      simp only [own_nar r0] at Ab
      have Ab : Arv Z h b kb .char 1 ([(cs.getD 0 0)].map Value.int) (.int 0) := Ab
      have Ao := Ao.ext Eb
      have Po := Po.ext Eb
      have Co := Co.ext Eb
      refine o_special 36 [(.ref b)] W (tw hw 14) (tw hw 15) (tw hw 13) (tw hw 16) (con_sin l Z b0 hw o b kb 1 [(cs.getD 0 0)] rfl (by first | decide | simp) (own_chS r0 own_ch0) _ W.old Ab Ao Po Co zo cz hcz SC) pd17 d3_33 rfl (by simp) (fun T h v W qq gg => ?_)
      obtain ⟨rfl, Ko, Xo⟩ := qq
      show Go p e below _ _ (mkF m 36 #[.val (.ref d), .val (.int n)] [(.ref o)])
      exact o_aret W rfl rfl rfl d3_36 (⟨o, rfl, by rw [own_tk1 cs (by omega)]; exact Xo, own_ext_keep (own_ext_trans Eo Eb) Ko go⟩)
  · have hni : ni = 0 := by have q := (own_eqI hn (z := 0) (k := 0) rfl).mp c1; exact q
    subst hni
    refine o_new 7 W (tw hw 11) (tw hw 12) (tw hw 13) d3_4 (fun T h o W Eo Ao Do go zo => ?_)
    have Po := Do (Or.inr (tw hw 26)) (ty := .array .byte) (by decide)
    have Co := Do (Or.inr (tw hw 27)) (ty := .byte) (by decide)
    have A := A.ext Eo
    refine o_dup 8 W d3_7 rfl ?_
    refine o_iconst 9 W (0) d3_8 (by first | rfl | decide) ?_
    refine o_newarray 11 0 W (tw hw 0) d3_9 (by decide) (by decide) (fun T h b kb W Eb Ab gb zb => ?_)
    have Ab := own_pad 0 Ab
    have Ab : Arv Z h b kb .char 0 ([].map Value.int) (.int 0) := Ab
    have Ao := Ao.ext Eb
    have Po := Po.ext Eb
    have Co := Co.ext Eb
    refine o_special 14 [(.ref b)] W (tw hw 14) (tw hw 15) (tw hw 13) (tw hw 16) (con_sin l Z b0 hw o b kb 0 [] rfl (by first | decide | simp) own_ch0 _ W.old Ab Ao Po Co zo cz hcz SC) pd17 d3_11 rfl (by simp) (fun T h v W qq gg => ?_)
    obtain ⟨rfl, Ko, Xo⟩ := qq
    show Go p e below _ _ (mkF m 14 #[.val (.ref d), .val (.int n)] [(.ref o)])
    exact o_aret W rfl rfl rfl d3_14 (⟨o, rfl, by rw [own_tk0 cs (by omega)]; exact Xo, own_ext_keep (own_ext_trans Eo Eb) Ko go⟩)
theorem con_stp (l : Launch) (Z : State) (b0 : Array Value) (hw : ∀ d ∈ tables_1, d.before b0 Z = true) (d : Addr) (kd : ClassId) (n : Int32) (cs : List Int32) (ni : Nat) (hz : cs.length = 3) (hn : n.toInt = ni) (h3 : ni ≤ 3) (h0 : Heap) (hE : Ext Z.heap h0) (A : Arv Z h0 d kd .char 3 (cs.map Value.int) (.int 0)) : Con l Z (⟨"com/example/indelible_trail/indelibletrail/model/XmlDateTimeEqualsPinLaw", "stripped", "([CI)I"⟩ : MethodName) method_6_code 3 (some .int) ({ frames := 0, cells := 0, slots := 0, locals := 0 } : Room) #[(.ref d), (.int n)] h0 [] (QV fun w h => ∃ v : Int32, w = .int v ∧ v.toInt = own_strip cs ni ∧ h0 = h) := by
  refine Con.of (plainFor_of_name pn5) hE ⟨b0, own_ew0 hw⟩ all0 (L0 := #[.val (.ref d), .val (.int n), .unset]) (fun m => by first | (simp [entryFrame, mkF, argsToLocals, Value.category]; done) | rfl) ?_
  intro p e s m args below meth c T W
  refine o_iloadN 1 W d22_0 rfl ?_
  refine o_istoreN 2 W #[.val (.ref d), .val (.int n), .val (.int n)] d22_1 rfl ?_
  refine o_iloadN 3 W d22_2 rfl ?_
  refine o_iconst 4 W (3) d22_3 (by first | rfl | decide) ?_
  refine o_icne 17 7 W d22_4 (fun c4 => ?_) (fun c4 => ?_)
  · refine o_iloadN 18 W d22_17 rfl ?_
    refine o_iconst 19 W (2) d22_18 (by first | rfl | decide) ?_
    refine o_icne 32 22 W d22_19 (fun c19 => ?_) (fun c19 => ?_)
    · refine o_iloadN 33 W d22_32 rfl ?_
      refine o_iconst 34 W (1) d22_33 (by first | rfl | decide) ?_
      refine o_icne 47 37 W d22_34 (fun c34 => ?_) (fun c34 => ?_)
      · refine o_iloadN 48 W d22_47 rfl ?_
        have z : ni = 0 ∨ ni = 1 ∨ ni = 2 ∨ ni = 3 := by omega
        have q0 := own_eqI hn (z := 0) (k := 0) rfl
        have q1 := own_eqI hn (z := 1) (k := 1) rfl
        have q2 := own_eqI hn (z := 2) (k := 2) rfl
        have q3 := own_eqI hn (z := 3) (k := 3) rfl
        exact o_iret W d22_48 (⟨_, rfl, by rcases z with rfl | rfl | rfl | rfl <;> simp_all [own_strip], rfl⟩)
      · refine o_aloadN 38 W d22_37 rfl rfl ?_
        refine o_iconst 39 W (0) d22_38 (by first | rfl | decide) ?_
        refine o_caloadV 40 W A (by decide) (own_gd cs 0) d22_39 ?_
        refine o_bipush 42 W (48) d22_40 (by first | rfl | decide) ?_
        refine o_icne 47 45 W d22_42 (fun c42 => ?_) (fun c42 => ?_)
        · refine o_iloadN 48 W d22_47 rfl ?_
          have z : ni = 0 ∨ ni = 1 ∨ ni = 2 ∨ ni = 3 := by omega
          have q0 := own_eqI hn (z := 0) (k := 0) rfl
          have q1 := own_eqI hn (z := 1) (k := 1) rfl
          have q2 := own_eqI hn (z := 2) (k := 2) rfl
          have q3 := own_eqI hn (z := 3) (k := 3) rfl
          exact o_iret W d22_48 (⟨_, rfl, by rcases z with rfl | rfl | rfl | rfl <;> simp_all [own_strip], rfl⟩)
        · refine o_iconst 46 W (0) d22_45 (by first | rfl | decide) ?_
          refine o_istoreN 47 W #[.val (.ref d), .val (.int n), .val (.int (0 : Int32))] d22_46 rfl ?_
          refine o_iloadN 48 W d22_47 rfl ?_
          have z : ni = 0 ∨ ni = 1 ∨ ni = 2 ∨ ni = 3 := by omega
          have q0 := own_eqI hn (z := 0) (k := 0) rfl
          have q1 := own_eqI hn (z := 1) (k := 1) rfl
          have q2 := own_eqI hn (z := 2) (k := 2) rfl
          have q3 := own_eqI hn (z := 3) (k := 3) rfl
          exact o_iret W d22_48 (⟨_, rfl, by rcases z with rfl | rfl | rfl | rfl <;> simp_all [own_strip], rfl⟩)
    · refine o_aloadN 23 W d22_22 rfl rfl ?_
      refine o_iconst 24 W (1) d22_23 (by first | rfl | decide) ?_
      refine o_caloadV 25 W A (by decide) (own_gd cs 1) d22_24 ?_
      refine o_bipush 27 W (48) d22_25 (by first | rfl | decide) ?_
      refine o_icne 32 30 W d22_27 (fun c27 => ?_) (fun c27 => ?_)
      · refine o_iloadN 33 W d22_32 rfl ?_
        refine o_iconst 34 W (1) d22_33 (by first | rfl | decide) ?_
        refine o_icne 47 37 W d22_34 (fun c34 => ?_) (fun c34 => ?_)
        · refine o_iloadN 48 W d22_47 rfl ?_
          have z : ni = 0 ∨ ni = 1 ∨ ni = 2 ∨ ni = 3 := by omega
          have q0 := own_eqI hn (z := 0) (k := 0) rfl
          have q1 := own_eqI hn (z := 1) (k := 1) rfl
          have q2 := own_eqI hn (z := 2) (k := 2) rfl
          have q3 := own_eqI hn (z := 3) (k := 3) rfl
          exact o_iret W d22_48 (⟨_, rfl, by rcases z with rfl | rfl | rfl | rfl <;> simp_all [own_strip], rfl⟩)
        · refine o_aloadN 38 W d22_37 rfl rfl ?_
          refine o_iconst 39 W (0) d22_38 (by first | rfl | decide) ?_
          refine o_caloadV 40 W A (by decide) (own_gd cs 0) d22_39 ?_
          refine o_bipush 42 W (48) d22_40 (by first | rfl | decide) ?_
          refine o_icne 47 45 W d22_42 (fun c42 => ?_) (fun c42 => ?_)
          · refine o_iloadN 48 W d22_47 rfl ?_
            have z : ni = 0 ∨ ni = 1 ∨ ni = 2 ∨ ni = 3 := by omega
            have q0 := own_eqI hn (z := 0) (k := 0) rfl
            have q1 := own_eqI hn (z := 1) (k := 1) rfl
            have q2 := own_eqI hn (z := 2) (k := 2) rfl
            have q3 := own_eqI hn (z := 3) (k := 3) rfl
            exact o_iret W d22_48 (⟨_, rfl, by rcases z with rfl | rfl | rfl | rfl <;> simp_all [own_strip], rfl⟩)
          · refine o_iconst 46 W (0) d22_45 (by first | rfl | decide) ?_
            refine o_istoreN 47 W #[.val (.ref d), .val (.int n), .val (.int (0 : Int32))] d22_46 rfl ?_
            refine o_iloadN 48 W d22_47 rfl ?_
            have z : ni = 0 ∨ ni = 1 ∨ ni = 2 ∨ ni = 3 := by omega
            have q0 := own_eqI hn (z := 0) (k := 0) rfl
            have q1 := own_eqI hn (z := 1) (k := 1) rfl
            have q2 := own_eqI hn (z := 2) (k := 2) rfl
            have q3 := own_eqI hn (z := 3) (k := 3) rfl
            exact o_iret W d22_48 (⟨_, rfl, by rcases z with rfl | rfl | rfl | rfl <;> simp_all [own_strip], rfl⟩)
      · refine o_iconst 31 W (1) d22_30 (by first | rfl | decide) ?_
        refine o_istoreN 32 W #[.val (.ref d), .val (.int n), .val (.int (1 : Int32))] d22_31 rfl ?_
        refine o_iloadN 33 W d22_32 rfl ?_
        refine o_iconst 34 W (1) d22_33 (by first | rfl | decide) ?_
        refine o_icN 37 W d22_34 (by decide) ?_
        refine o_aloadN 38 W d22_37 rfl rfl ?_
        refine o_iconst 39 W (0) d22_38 (by first | rfl | decide) ?_
        refine o_caloadV 40 W A (by decide) (own_gd cs 0) d22_39 ?_
        refine o_bipush 42 W (48) d22_40 (by first | rfl | decide) ?_
        refine o_icne 47 45 W d22_42 (fun c42 => ?_) (fun c42 => ?_)
        · refine o_iloadN 48 W d22_47 rfl ?_
          have z : ni = 0 ∨ ni = 1 ∨ ni = 2 ∨ ni = 3 := by omega
          have q0 := own_eqI hn (z := 0) (k := 0) rfl
          have q1 := own_eqI hn (z := 1) (k := 1) rfl
          have q2 := own_eqI hn (z := 2) (k := 2) rfl
          have q3 := own_eqI hn (z := 3) (k := 3) rfl
          exact o_iret W d22_48 (⟨_, rfl, by rcases z with rfl | rfl | rfl | rfl <;> simp_all [own_strip], rfl⟩)
        · refine o_iconst 46 W (0) d22_45 (by first | rfl | decide) ?_
          refine o_istoreN 47 W #[.val (.ref d), .val (.int n), .val (.int (0 : Int32))] d22_46 rfl ?_
          refine o_iloadN 48 W d22_47 rfl ?_
          have z : ni = 0 ∨ ni = 1 ∨ ni = 2 ∨ ni = 3 := by omega
          have q0 := own_eqI hn (z := 0) (k := 0) rfl
          have q1 := own_eqI hn (z := 1) (k := 1) rfl
          have q2 := own_eqI hn (z := 2) (k := 2) rfl
          have q3 := own_eqI hn (z := 3) (k := 3) rfl
          exact o_iret W d22_48 (⟨_, rfl, by rcases z with rfl | rfl | rfl | rfl <;> simp_all [own_strip], rfl⟩)
  · refine o_aloadN 8 W d22_7 rfl rfl ?_
    refine o_iconst 9 W (2) d22_8 (by first | rfl | decide) ?_
    refine o_caloadV 10 W A (by decide) (own_gd cs 2) d22_9 ?_
    refine o_bipush 12 W (48) d22_10 (by first | rfl | decide) ?_
    refine o_icne 17 15 W d22_12 (fun c12 => ?_) (fun c12 => ?_)
    · refine o_iloadN 18 W d22_17 rfl ?_
      refine o_iconst 19 W (2) d22_18 (by first | rfl | decide) ?_
      refine o_icne 32 22 W d22_19 (fun c19 => ?_) (fun c19 => ?_)
      · refine o_iloadN 33 W d22_32 rfl ?_
        refine o_iconst 34 W (1) d22_33 (by first | rfl | decide) ?_
        refine o_icne 47 37 W d22_34 (fun c34 => ?_) (fun c34 => ?_)
        · refine o_iloadN 48 W d22_47 rfl ?_
          have z : ni = 0 ∨ ni = 1 ∨ ni = 2 ∨ ni = 3 := by omega
          have q0 := own_eqI hn (z := 0) (k := 0) rfl
          have q1 := own_eqI hn (z := 1) (k := 1) rfl
          have q2 := own_eqI hn (z := 2) (k := 2) rfl
          have q3 := own_eqI hn (z := 3) (k := 3) rfl
          exact o_iret W d22_48 (⟨_, rfl, by rcases z with rfl | rfl | rfl | rfl <;> simp_all [own_strip], rfl⟩)
        · refine o_aloadN 38 W d22_37 rfl rfl ?_
          refine o_iconst 39 W (0) d22_38 (by first | rfl | decide) ?_
          refine o_caloadV 40 W A (by decide) (own_gd cs 0) d22_39 ?_
          refine o_bipush 42 W (48) d22_40 (by first | rfl | decide) ?_
          refine o_icne 47 45 W d22_42 (fun c42 => ?_) (fun c42 => ?_)
          · refine o_iloadN 48 W d22_47 rfl ?_
            have z : ni = 0 ∨ ni = 1 ∨ ni = 2 ∨ ni = 3 := by omega
            have q0 := own_eqI hn (z := 0) (k := 0) rfl
            have q1 := own_eqI hn (z := 1) (k := 1) rfl
            have q2 := own_eqI hn (z := 2) (k := 2) rfl
            have q3 := own_eqI hn (z := 3) (k := 3) rfl
            exact o_iret W d22_48 (⟨_, rfl, by rcases z with rfl | rfl | rfl | rfl <;> simp_all [own_strip], rfl⟩)
          · refine o_iconst 46 W (0) d22_45 (by first | rfl | decide) ?_
            refine o_istoreN 47 W #[.val (.ref d), .val (.int n), .val (.int (0 : Int32))] d22_46 rfl ?_
            refine o_iloadN 48 W d22_47 rfl ?_
            have z : ni = 0 ∨ ni = 1 ∨ ni = 2 ∨ ni = 3 := by omega
            have q0 := own_eqI hn (z := 0) (k := 0) rfl
            have q1 := own_eqI hn (z := 1) (k := 1) rfl
            have q2 := own_eqI hn (z := 2) (k := 2) rfl
            have q3 := own_eqI hn (z := 3) (k := 3) rfl
            exact o_iret W d22_48 (⟨_, rfl, by rcases z with rfl | rfl | rfl | rfl <;> simp_all [own_strip], rfl⟩)
      · refine o_aloadN 23 W d22_22 rfl rfl ?_
        refine o_iconst 24 W (1) d22_23 (by first | rfl | decide) ?_
        refine o_caloadV 25 W A (by decide) (own_gd cs 1) d22_24 ?_
        refine o_bipush 27 W (48) d22_25 (by first | rfl | decide) ?_
        refine o_icne 32 30 W d22_27 (fun c27 => ?_) (fun c27 => ?_)
        · refine o_iloadN 33 W d22_32 rfl ?_
          refine o_iconst 34 W (1) d22_33 (by first | rfl | decide) ?_
          refine o_icne 47 37 W d22_34 (fun c34 => ?_) (fun c34 => ?_)
          · refine o_iloadN 48 W d22_47 rfl ?_
            have z : ni = 0 ∨ ni = 1 ∨ ni = 2 ∨ ni = 3 := by omega
            have q0 := own_eqI hn (z := 0) (k := 0) rfl
            have q1 := own_eqI hn (z := 1) (k := 1) rfl
            have q2 := own_eqI hn (z := 2) (k := 2) rfl
            have q3 := own_eqI hn (z := 3) (k := 3) rfl
            exact o_iret W d22_48 (⟨_, rfl, by rcases z with rfl | rfl | rfl | rfl <;> simp_all [own_strip], rfl⟩)
          · refine o_aloadN 38 W d22_37 rfl rfl ?_
            refine o_iconst 39 W (0) d22_38 (by first | rfl | decide) ?_
            refine o_caloadV 40 W A (by decide) (own_gd cs 0) d22_39 ?_
            refine o_bipush 42 W (48) d22_40 (by first | rfl | decide) ?_
            refine o_icne 47 45 W d22_42 (fun c42 => ?_) (fun c42 => ?_)
            · refine o_iloadN 48 W d22_47 rfl ?_
              have z : ni = 0 ∨ ni = 1 ∨ ni = 2 ∨ ni = 3 := by omega
              have q0 := own_eqI hn (z := 0) (k := 0) rfl
              have q1 := own_eqI hn (z := 1) (k := 1) rfl
              have q2 := own_eqI hn (z := 2) (k := 2) rfl
              have q3 := own_eqI hn (z := 3) (k := 3) rfl
              exact o_iret W d22_48 (⟨_, rfl, by rcases z with rfl | rfl | rfl | rfl <;> simp_all [own_strip], rfl⟩)
            · refine o_iconst 46 W (0) d22_45 (by first | rfl | decide) ?_
              refine o_istoreN 47 W #[.val (.ref d), .val (.int n), .val (.int (0 : Int32))] d22_46 rfl ?_
              refine o_iloadN 48 W d22_47 rfl ?_
              have z : ni = 0 ∨ ni = 1 ∨ ni = 2 ∨ ni = 3 := by omega
              have q0 := own_eqI hn (z := 0) (k := 0) rfl
              have q1 := own_eqI hn (z := 1) (k := 1) rfl
              have q2 := own_eqI hn (z := 2) (k := 2) rfl
              have q3 := own_eqI hn (z := 3) (k := 3) rfl
              exact o_iret W d22_48 (⟨_, rfl, by rcases z with rfl | rfl | rfl | rfl <;> simp_all [own_strip], rfl⟩)
        · refine o_iconst 31 W (1) d22_30 (by first | rfl | decide) ?_
          refine o_istoreN 32 W #[.val (.ref d), .val (.int n), .val (.int (1 : Int32))] d22_31 rfl ?_
          refine o_iloadN 33 W d22_32 rfl ?_
          refine o_iconst 34 W (1) d22_33 (by first | rfl | decide) ?_
          refine o_icN 37 W d22_34 (by decide) ?_
          refine o_aloadN 38 W d22_37 rfl rfl ?_
          refine o_iconst 39 W (0) d22_38 (by first | rfl | decide) ?_
          refine o_caloadV 40 W A (by decide) (own_gd cs 0) d22_39 ?_
          refine o_bipush 42 W (48) d22_40 (by first | rfl | decide) ?_
          refine o_icne 47 45 W d22_42 (fun c42 => ?_) (fun c42 => ?_)
          · refine o_iloadN 48 W d22_47 rfl ?_
            have z : ni = 0 ∨ ni = 1 ∨ ni = 2 ∨ ni = 3 := by omega
            have q0 := own_eqI hn (z := 0) (k := 0) rfl
            have q1 := own_eqI hn (z := 1) (k := 1) rfl
            have q2 := own_eqI hn (z := 2) (k := 2) rfl
            have q3 := own_eqI hn (z := 3) (k := 3) rfl
            exact o_iret W d22_48 (⟨_, rfl, by rcases z with rfl | rfl | rfl | rfl <;> simp_all [own_strip], rfl⟩)
          · refine o_iconst 46 W (0) d22_45 (by first | rfl | decide) ?_
            refine o_istoreN 47 W #[.val (.ref d), .val (.int n), .val (.int (0 : Int32))] d22_46 rfl ?_
            refine o_iloadN 48 W d22_47 rfl ?_
            have z : ni = 0 ∨ ni = 1 ∨ ni = 2 ∨ ni = 3 := by omega
            have q0 := own_eqI hn (z := 0) (k := 0) rfl
            have q1 := own_eqI hn (z := 1) (k := 1) rfl
            have q2 := own_eqI hn (z := 2) (k := 2) rfl
            have q3 := own_eqI hn (z := 3) (k := 3) rfl
            exact o_iret W d22_48 (⟨_, rfl, by rcases z with rfl | rfl | rfl | rfl <;> simp_all [own_strip], rfl⟩)
    · refine o_iconst 16 W (2) d22_15 (by first | rfl | decide) ?_
      refine o_istoreN 17 W #[.val (.ref d), .val (.int n), .val (.int (2 : Int32))] d22_16 rfl ?_
      refine o_iloadN 18 W d22_17 rfl ?_
      refine o_iconst 19 W (2) d22_18 (by first | rfl | decide) ?_
      refine o_icN 22 W d22_19 (by decide) ?_
      refine o_aloadN 23 W d22_22 rfl rfl ?_
      refine o_iconst 24 W (1) d22_23 (by first | rfl | decide) ?_
      refine o_caloadV 25 W A (by decide) (own_gd cs 1) d22_24 ?_
      refine o_bipush 27 W (48) d22_25 (by first | rfl | decide) ?_
      refine o_icne 32 30 W d22_27 (fun c27 => ?_) (fun c27 => ?_)
      · refine o_iloadN 33 W d22_32 rfl ?_
        refine o_iconst 34 W (1) d22_33 (by first | rfl | decide) ?_
        refine o_icY 47 W d22_34 (by decide) ?_
        refine o_iloadN 48 W d22_47 rfl ?_
        have z : ni = 0 ∨ ni = 1 ∨ ni = 2 ∨ ni = 3 := by omega
        have q0 := own_eqI hn (z := 0) (k := 0) rfl
        have q1 := own_eqI hn (z := 1) (k := 1) rfl
        have q2 := own_eqI hn (z := 2) (k := 2) rfl
        have q3 := own_eqI hn (z := 3) (k := 3) rfl
        exact o_iret W d22_48 (⟨_, rfl, by rcases z with rfl | rfl | rfl | rfl <;> simp_all [own_strip], rfl⟩)
      · refine o_iconst 31 W (1) d22_30 (by first | rfl | decide) ?_
        refine o_istoreN 32 W #[.val (.ref d), .val (.int n), .val (.int (1 : Int32))] d22_31 rfl ?_
        refine o_iloadN 33 W d22_32 rfl ?_
        refine o_iconst 34 W (1) d22_33 (by first | rfl | decide) ?_
        refine o_icN 37 W d22_34 (by decide) ?_
        refine o_aloadN 38 W d22_37 rfl rfl ?_
        refine o_iconst 39 W (0) d22_38 (by first | rfl | decide) ?_
        refine o_caloadV 40 W A (by decide) (own_gd cs 0) d22_39 ?_
        refine o_bipush 42 W (48) d22_40 (by first | rfl | decide) ?_
        refine o_icne 47 45 W d22_42 (fun c42 => ?_) (fun c42 => ?_)
        · refine o_iloadN 48 W d22_47 rfl ?_
          have z : ni = 0 ∨ ni = 1 ∨ ni = 2 ∨ ni = 3 := by omega
          have q0 := own_eqI hn (z := 0) (k := 0) rfl
          have q1 := own_eqI hn (z := 1) (k := 1) rfl
          have q2 := own_eqI hn (z := 2) (k := 2) rfl
          have q3 := own_eqI hn (z := 3) (k := 3) rfl
          exact o_iret W d22_48 (⟨_, rfl, by rcases z with rfl | rfl | rfl | rfl <;> simp_all [own_strip], rfl⟩)
        · refine o_iconst 46 W (0) d22_45 (by first | rfl | decide) ?_
          refine o_istoreN 47 W #[.val (.ref d), .val (.int n), .val (.int (0 : Int32))] d22_46 rfl ?_
          refine o_iloadN 48 W d22_47 rfl ?_
          have z : ni = 0 ∨ ni = 1 ∨ ni = 2 ∨ ni = 3 := by omega
          have q0 := own_eqI hn (z := 0) (k := 0) rfl
          have q1 := own_eqI hn (z := 1) (k := 1) rfl
          have q2 := own_eqI hn (z := 2) (k := 2) rfl
          have q3 := own_eqI hn (z := 3) (k := 3) rfl
          exact o_iret W d22_48 (⟨_, rfl, by rcases z with rfl | rfl | rfl | rfl <;> simp_all [own_strip], rfl⟩)
theorem own_strwr {Z : State} {h h' : Heap} {a f : Addr} {cs : List Int32} {C : String} {sl : Nat} {v : Value} {b0 : Array Value} {k : Nat} (X : Str Z h f cs) (A : Exa Z h a C) (W : Wr h h' a sl v) (wi : (Jvm.Cond.instantiable C k).before b0 Z = true) (hne : C ≠ "java/lang/String") : Str Z h' f cs := by
  obtain ⟨h1, h2, b, kb, n, h3, h4, h5⟩ := X
  have ne : f ≠ a := ne_exa h1 A (Ne.symm hne)
  have nb : b ≠ a := fun e => by
    obtain ⟨c, A1, -⟩ := h4
    exact ne_arr A wi A1 e.symm
  exact ⟨h1.wr W, h2.other W (Or.inl ne), b, kb, n, h3.other W (Or.inl ne), h4.other W nb, h5⟩
theorem own_strkeep {Z : State} {h h' : Heap} {a f : Addr} {cs : List Int32} {C : String} {b0 : Array Value} {k : Nat} (X : Str Z h f cs) (A : Exa Z h a C) (K : Keep h h' [a]) (wi : (Jvm.Cond.instantiable C k).before b0 Z = true) (hne : C ≠ "java/lang/String") : Str Z h' f cs := by
  obtain ⟨h1, h2, b, kb, n, h3, h4, h5⟩ := X
  have ne : f ∉ [a] := ninS (ne_exa h1 A (Ne.symm hne)) nin0
  have nb : b ∉ [a] := ninS (fun e => by
    obtain ⟨c, A1, -⟩ := h4
    exact ne_arr A wi A1 e.symm) nin0
  exact ⟨h1.keep K, h2.keep K ne, b, kb, n, h3.keep K ne, h4.keep K nb, h5⟩
theorem own_arvkeep {Z : State} {h h' : Heap} {a d : Addr} {k : ClassId} {ty : FieldType} {z : Int32} {vs : List Value} {dv : Value} {C : String} {b0 : Array Value} {n : Nat} (F : Arv Z h d k ty z vs dv) (A : Exa Z h a C) (K : Keep h h' [a]) (wi : (Jvm.Cond.instantiable C n).before b0 Z = true) : Arv Z h' d k ty z vs dv := F.keep K (ninS (fun e => by
    obtain ⟨c, A1, -⟩ := F
    exact ne_arr A wi A1 e.symm) nin0)
theorem con_xin (l : Launch) (Z : State) (b0 : Array Value) (hw : ∀ d ∈ tables_1, d.before b0 Z = true) (a y : Addr) (q : Int32) (f : Addr) (cs : List Int32) (hbig : cs.length ≤ 16) (hc : own_ch cs) (h0 : Heap) (hE : Ext Z.heap h0) (X : Str Z h0 f cs) (A : Exa Z h0 a "com/example/indelible_trail/indelibletrail/model/XmlDateTime") (F1 : Fld Z h0 a "com/example/indelible_trail/indelibletrail/model/XmlDateTime" "year" "Ljava/lang/String;" .null) (F2 : Fld Z h0 a "com/example/indelible_trail/indelibletrail/model/XmlDateTime" "secondOfYear" "I" (.int 0)) (F3 : Fld Z h0 a "com/example/indelible_trail/indelibletrail/model/XmlDateTime" "fraction" "Ljava/lang/String;" .null) (za : Z.heap.size ≤ a) (cz : Int32) (hcz : ¬ cz = 0) (SC : Sta Z Z.heap "java/lang/String" "COMPACT_STRINGS" "Z" (.int cz)) (vf : Value) (rf : vf.isRef = true) (SF : Sta Z Z.heap "jdk/internal/util/Preconditions" "SIOOBE_FORMATTER" "Ljava/util/function/BiFunction;" vf) : Con l Z (⟨"com/example/indelible_trail/indelibletrail/model/XmlDateTime", "<init>", "(Ljava/lang/String;ILjava/lang/String;)V"⟩ : MethodName) prog_34_method_1_code 5 none ({ frames := 5, cells := 4, slots := 24, locals := 144 } : Room) #[(.ref a), (.ref y), (.int q), (.ref f)] h0 [] (Q0 fun h => Keep h0 h [a] ∧ Exa Z h a "com/example/indelible_trail/indelibletrail/model/XmlDateTime" ∧ Fld Z h a "com/example/indelible_trail/indelibletrail/model/XmlDateTime" "year" "Ljava/lang/String;" (.ref y) ∧ Fld Z h a "com/example/indelible_trail/indelibletrail/model/XmlDateTime" "secondOfYear" "I" (.int q) ∧ ∃ fo, Fld Z h a "com/example/indelible_trail/indelibletrail/model/XmlDateTime" "fraction" "Ljava/lang/String;" (.ref fo) ∧ Str Z h fo (own_sub cs 0 (own_strip cs cs.length))) := by
  refine Con.of (plainFor_of_name pn6) hE ⟨b0, own_ew0 hw⟩ all0 (L0 := #[.val (.ref a), .val (.ref y), .val (.int q), .val (.ref f), .unset]) (fun m => by first | (simp [entryFrame, mkF, argsToLocals, Value.category]; done) | rfl) ?_
  intro p e s m args below meth c T W
  refine o_aloadN 1 W d10_0 rfl rfl ?_
  refine o_initO 4 W (tw hw 49) (tw hw 22) (tw hw 23) d10_1 (fun T W => ?_)
  refine o_aloadN 5 W d10_4 rfl rfl ?_
  refine o_virtual 8 [] W (tw hw 50) (tw hw 51) (tw hw 53) (tw hw 52) (tw hw 13) (tw hw 54) (X.1) (con_len l Z b0 hw f cs _ W.old X cz hcz SC) pd14 d10_5 rfl all0 (fun T h v W qq gg => ?_)
  obtain ⟨_, rfl, n, rfl, hn, rfl⟩ := qq
  show Go p e below _ _ (mkF m 8 #[.val (.ref a), .val (.ref y), .val (.int q), .val (.ref f), .unset] [(.int n)])
  refine o_istore 10 W #[.val (.ref a), .val (.ref y), .val (.int q), .val (.ref f), .val (.int n)] d10_8 rfl ?_
  have loop : ∀ (i : Nat) (x : Int32) (T : State), x.toInt = i → i ≤ cs.length → own_strip cs i = own_strip cs cs.length → Wk p l e ({ frames := 5, cells := 4, slots := 24, locals := 144 } : Room) s m args below meth c Z (⟨"com/example/indelible_trail/indelibletrail/model/XmlDateTime", "<init>", "(Ljava/lang/String;ILjava/lang/String;)V"⟩ : MethodName) prog_34_method_1_code 5 none T h0 0 0 [] → Go p e below (Gd s below Z (Q0 fun h => Keep h0 h [a] ∧ Exa Z h a "com/example/indelible_trail/indelibletrail/model/XmlDateTime" ∧ Fld Z h a "com/example/indelible_trail/indelibletrail/model/XmlDateTime" "year" "Ljava/lang/String;" (.ref y) ∧ Fld Z h a "com/example/indelible_trail/indelibletrail/model/XmlDateTime" "secondOfYear" "I" (.int q) ∧ ∃ fo, Fld Z h a "com/example/indelible_trail/indelibletrail/model/XmlDateTime" "fraction" "Ljava/lang/String;" (.ref fo) ∧ Str Z h fo (own_sub cs 0 (own_strip cs cs.length))) (({ frames := 5, cells := 4, slots := 24, locals := 144 } : Room)).cells (({ frames := 5, cells := 4, slots := 24, locals := 144 } : Room)).slots) T (mkF m 10 #[.val (.ref a), .val (.ref y), .val (.int q), .val (.ref f), .val (.int x)] []) := by
    intro i
    induction i with
    | zero =>
      intro x T hx hi hs W
      have hso : own_strip cs 0 = 0 := rfl
      refine o_iload 12 W d10_10 rfl ?_
      refine o_ifY 34 W d10_12 (XT.i0_le_t (fun z => by rw [Int32.lt_iff_toInt_lt] at z; have : (0 : Int32).toInt = 0 := rfl; omega)) ?_
      refine o_aloadN 35 W d10_34 rfl rfl ?_
      refine o_aloadN 36 W d10_35 rfl rfl ?_
      refine o_putF 39 W (tw hw 82) F1 A (Or.inr ⟨(tw hw 83), rfl, rfl⟩) (tw hw 33) (ty := (.object "java/lang/String")) (by decide) rfl rfl (Or.inr (by decide)) za d10_36 (fun T h W w1 => ?_)
      have K0 := Keep.of_wr w1
      have X := own_strwr X A w1 (tw hw 33) (by decide)
      have A := A.wr w1
      have F1 := F1.same w1
      have F2 := F2.other w1 (Or.inr (slot_ne (C := "com/example/indelible_trail/indelibletrail/model/XmlDateTime") (Or.inr (tw hw 85)) (Or.inr (tw hw 83)) (by decide) (t := .int) (t' := (.object "java/lang/String")) (by decide) (by decide)))
      have F3 := F3.other w1 (Or.inr (slot_ne (C := "com/example/indelible_trail/indelibletrail/model/XmlDateTime") (Or.inr (tw hw 103)) (Or.inr (tw hw 83)) (by decide) (t := (.object "java/lang/String")) (t' := (.object "java/lang/String")) (by decide) (by decide)))
      refine o_aloadN 40 W d10_39 rfl rfl ?_
      refine o_iloadN 41 W d10_40 rfl ?_
      refine o_putF 44 W (tw hw 84) F2 A (Or.inr ⟨(tw hw 85), rfl, rfl⟩) (tw hw 33) (ty := .int) (by decide) rfl rfl (Or.inr (by decide)) za d10_41 (fun T h W w2 => ?_)
      have K0 := K0.wr w2 (Or.inl (List.mem_singleton.mpr rfl))
      have X := own_strwr X A w2 (tw hw 33) (by decide)
      have A := A.wr w2
      have F2 := F2.same w2
      have F1 := F1.other w2 (Or.inr (slot_ne (C := "com/example/indelible_trail/indelibletrail/model/XmlDateTime") (Or.inr (tw hw 83)) (Or.inr (tw hw 85)) (by decide) (t := (.object "java/lang/String")) (t' := .int) (by decide) (by decide)))
      have F3 := F3.other w2 (Or.inr (slot_ne (C := "com/example/indelible_trail/indelibletrail/model/XmlDateTime") (Or.inr (tw hw 103)) (Or.inr (tw hw 85)) (by decide) (t := (.object "java/lang/String")) (t' := .int) (by decide) (by decide)))
      refine o_aloadN 45 W d10_44 rfl rfl ?_
      refine o_aloadN 46 W d10_45 rfl rfl ?_
      refine o_iconst 47 W (0) d10_46 (by first | rfl | decide) ?_
      refine o_iload 49 W d10_47 rfl ?_
      refine o_virtual 52 [(.int (0 : Int32)), (.int x)] W (tw hw 86) (tw hw 87) (tw hw 89) (tw hw 88) (tw hw 13) (tw hw 90) (X.1) (con_sub l Z b0 hw f 0 x cs 0 0 hbig rfl hx (by omega) hi _ W.old X cz hcz SC vf rf SF) pd18 d10_49 rfl all0 (fun T h v W qq gg => ?_)
      obtain ⟨_, rfl, o, rfl, Xo, Eo⟩ := qq
      show Go p e below _ _ (mkF m 52 #[.val (.ref a), .val (.ref y), .val (.int q), .val (.ref f), .val (.int x)] [(.ref o), (.ref a)])
      have K0 := K0.ext Eo
      have A := A.ext Eo
      have F1 := F1.ext Eo
      have F2 := F2.ext Eo
      have F3 := F3.ext Eo
      refine o_putF 55 W (tw hw 102) F3 A (Or.inr ⟨(tw hw 103), rfl, rfl⟩) (tw hw 33) (ty := (.object "java/lang/String")) (by decide) rfl rfl (Or.inr (by decide)) za d10_52 (fun T h W w3 => ?_)
      have K0 := K0.wr w3 (Or.inl (List.mem_singleton.mpr rfl))
      have Xo := own_strwr Xo A w3 (tw hw 33) (by decide)
      have A := A.wr w3
      have F3 := F3.same w3
      have F1 := F1.other w3 (Or.inr (slot_ne (C := "com/example/indelible_trail/indelibletrail/model/XmlDateTime") (Or.inr (tw hw 83)) (Or.inr (tw hw 103)) (by decide) (t := (.object "java/lang/String")) (t' := (.object "java/lang/String")) (by decide) (by decide)))
      have F2 := F2.other w3 (Or.inr (slot_ne (C := "com/example/indelible_trail/indelibletrail/model/XmlDateTime") (Or.inr (tw hw 85)) (Or.inr (tw hw 103)) (by decide) (t := .int) (t' := (.object "java/lang/String")) (by decide) (by decide)))
      rw [Nat.sub_zero] at Xo
      exact o_ret W d10_55 (⟨K0, A, F1, F2, o, F3, by rw [← hs]; exact Xo⟩)
    | succ i ih =>
      intro x T hx hi hs W
      refine o_iload 12 W d10_10 rfl ?_
      refine o_ifN 15 W d10_12 (XT.i0_le_f (by rw [Int32.lt_iff_toInt_lt]; have : (0 : Int32).toInt = 0 := rfl; omega)) ?_
      refine o_aloadN 16 W d10_15 rfl rfl ?_
      refine o_iload 18 W d10_16 rfl ?_
      refine o_iconst 19 W (1) d10_18 (by first | rfl | decide) ?_
      refine o_isub 20 W d10_19 ?_
      have hx1 : (x - 1).toInt = (i : Int) := by have q := own_subI (z := 1) (k := 1) hx rfl (by omega) (by omega); rw [q]; omega
      refine o_virtual 23 [(.int (x - (1 : Int32)))] W (tw hw 60) (tw hw 61) (tw hw 63) (tw hw 62) (tw hw 13) (tw hw 64) (X.1) (con_cat l Z b0 hw f (x - 1) cs hc cz hcz SC vf rf SF (own_nn hx1) (by omega) _ W.old X) pd19 d10_20 rfl all0 (fun T h v W qq gg => ?_)
      obtain ⟨_, rfl, rfl, rfl⟩ := qq
      show Go p e below _ _ (mkF m 23 #[.val (.ref a), .val (.ref y), .val (.int q), .val (.ref f), .val (.int x)] [(.int (cs.getD (x - 1).toNatClampNeg 0))])
      rw [own_cl hx1]
      show Go p e below _ _ (mkF m 23 #[.val (.ref a), .val (.ref y), .val (.int q), .val (.ref f), .val (.int x)] [(.int (cs.getD i 0))])
      refine o_bipush 25 W (48) d10_23 (by first | rfl | decide) ?_
      refine o_icne 34 28 W d10_25 (fun c25 => ?_) (fun c25 => ?_)
      · have hso : own_strip cs (i + 1) = i + 1 := by rw [own_strip_s, if_neg c25]
        refine o_aloadN 35 W d10_34 rfl rfl ?_
        refine o_aloadN 36 W d10_35 rfl rfl ?_
        refine o_putF 39 W (tw hw 82) F1 A (Or.inr ⟨(tw hw 83), rfl, rfl⟩) (tw hw 33) (ty := (.object "java/lang/String")) (by decide) rfl rfl (Or.inr (by decide)) za d10_36 (fun T h W w1 => ?_)
        have K0 := Keep.of_wr w1
        have X := own_strwr X A w1 (tw hw 33) (by decide)
        have A := A.wr w1
        have F1 := F1.same w1
        have F2 := F2.other w1 (Or.inr (slot_ne (C := "com/example/indelible_trail/indelibletrail/model/XmlDateTime") (Or.inr (tw hw 85)) (Or.inr (tw hw 83)) (by decide) (t := .int) (t' := (.object "java/lang/String")) (by decide) (by decide)))
        have F3 := F3.other w1 (Or.inr (slot_ne (C := "com/example/indelible_trail/indelibletrail/model/XmlDateTime") (Or.inr (tw hw 103)) (Or.inr (tw hw 83)) (by decide) (t := (.object "java/lang/String")) (t' := (.object "java/lang/String")) (by decide) (by decide)))
        refine o_aloadN 40 W d10_39 rfl rfl ?_
        refine o_iloadN 41 W d10_40 rfl ?_
        refine o_putF 44 W (tw hw 84) F2 A (Or.inr ⟨(tw hw 85), rfl, rfl⟩) (tw hw 33) (ty := .int) (by decide) rfl rfl (Or.inr (by decide)) za d10_41 (fun T h W w2 => ?_)
        have K0 := K0.wr w2 (Or.inl (List.mem_singleton.mpr rfl))
        have X := own_strwr X A w2 (tw hw 33) (by decide)
        have A := A.wr w2
        have F2 := F2.same w2
        have F1 := F1.other w2 (Or.inr (slot_ne (C := "com/example/indelible_trail/indelibletrail/model/XmlDateTime") (Or.inr (tw hw 83)) (Or.inr (tw hw 85)) (by decide) (t := (.object "java/lang/String")) (t' := .int) (by decide) (by decide)))
        have F3 := F3.other w2 (Or.inr (slot_ne (C := "com/example/indelible_trail/indelibletrail/model/XmlDateTime") (Or.inr (tw hw 103)) (Or.inr (tw hw 85)) (by decide) (t := (.object "java/lang/String")) (t' := .int) (by decide) (by decide)))
        refine o_aloadN 45 W d10_44 rfl rfl ?_
        refine o_aloadN 46 W d10_45 rfl rfl ?_
        refine o_iconst 47 W (0) d10_46 (by first | rfl | decide) ?_
        refine o_iload 49 W d10_47 rfl ?_
        refine o_virtual 52 [(.int (0 : Int32)), (.int x)] W (tw hw 86) (tw hw 87) (tw hw 89) (tw hw 88) (tw hw 13) (tw hw 90) (X.1) (con_sub l Z b0 hw f 0 x cs 0 (i + 1) hbig rfl hx (by omega) hi _ W.old X cz hcz SC vf rf SF) pd18 d10_49 rfl all0 (fun T h v W qq gg => ?_)
        obtain ⟨_, rfl, o, rfl, Xo, Eo⟩ := qq
        show Go p e below _ _ (mkF m 52 #[.val (.ref a), .val (.ref y), .val (.int q), .val (.ref f), .val (.int x)] [(.ref o), (.ref a)])
        have K0 := K0.ext Eo
        have A := A.ext Eo
        have F1 := F1.ext Eo
        have F2 := F2.ext Eo
        have F3 := F3.ext Eo
        refine o_putF 55 W (tw hw 102) F3 A (Or.inr ⟨(tw hw 103), rfl, rfl⟩) (tw hw 33) (ty := (.object "java/lang/String")) (by decide) rfl rfl (Or.inr (by decide)) za d10_52 (fun T h W w3 => ?_)
        have K0 := K0.wr w3 (Or.inl (List.mem_singleton.mpr rfl))
        have Xo := own_strwr Xo A w3 (tw hw 33) (by decide)
        have A := A.wr w3
        have F3 := F3.same w3
        have F1 := F1.other w3 (Or.inr (slot_ne (C := "com/example/indelible_trail/indelibletrail/model/XmlDateTime") (Or.inr (tw hw 83)) (Or.inr (tw hw 103)) (by decide) (t := (.object "java/lang/String")) (t' := (.object "java/lang/String")) (by decide) (by decide)))
        have F2 := F2.other w3 (Or.inr (slot_ne (C := "com/example/indelible_trail/indelibletrail/model/XmlDateTime") (Or.inr (tw hw 85)) (Or.inr (tw hw 103)) (by decide) (t := .int) (t' := (.object "java/lang/String")) (by decide) (by decide)))
        rw [Nat.sub_zero] at Xo
        exact o_ret W d10_55 (⟨K0, A, F1, F2, o, F3, by rw [← hs]; rw [hso]; exact Xo⟩)
      · have hso : own_strip cs i = own_strip cs cs.length := by rw [← hs, own_strip_s, if_pos c25]
        have hx2 : (x + (-1 : Int32)).toInt = (i : Int) := by rw [show x + (-1 : Int32) = x - 1 from (Int32.sub_eq_add_neg x 1).symm]; exact hx1
        refine o_iinc 31 W (x + (-1 : Int32)) #[.val (.ref a), .val (.ref y), .val (.int q), .val (.ref f), .val (.int (x + (-1 : Int32)))] d10_28 rfl rfl rfl ?_
        refine o_goto 10 W d10_31 ?_
        exact ih _ T hx2 (Nat.le_of_succ_le hi) hso W
  exact loop cs.length n T hn (Nat.le_refl _) rfl W
theorem con_xeqN (l : Launch) (Z : State) (b0 : Array Value) (hw : ∀ d ∈ tables_1, d.before b0 Z = true) (a : Addr) (h0 : Heap) (hE : Ext Z.heap h0) (A : Exa Z h0 a "com/example/indelible_trail/indelibletrail/model/XmlDateTime") : Con l Z (⟨"com/example/indelible_trail/indelibletrail/model/XmlDateTime", "equals", "(Ljava/lang/Object;)Z"⟩ : MethodName) prog_34_method_4_code 3 (some .boolean) ({ frames := 0, cells := 0, slots := 0, locals := 0 } : Room) #[(.ref a), .null] h0 [] (QV fun w h => w = .int 0 ∧ h0 = h) := by
  refine Con.of (plainFor_of_name pn6) hE ⟨b0, own_ew0 hw⟩ all0 (L0 := #[.val (.ref a), .val (.null), .unset]) (fun m => by first | (simp [entryFrame, mkF, argsToLocals, Value.category]; done) | rfl) ?_
  intro p e s m args below meth c T W
  refine o_aloadN 1 W d23_0 rfl rfl ?_
  refine o_instNull 4 W d23_1 ?_
  refine o_ifY 55 W d23_4 (by decide) ?_
  refine o_iconst 56 W (0) d23_55 (by first | rfl | decide) ?_
  exact o_nret W (0 : Int32) (by simp) (by decide) d23_56 (⟨rfl, rfl⟩)
theorem con_xeqS (l : Launch) (Z : State) (b0 : Array Value) (hw : ∀ d ∈ tables_1, d.before b0 Z = true) (a : Addr) (h0 : Heap) (hE : Ext Z.heap h0) (A : Exa Z h0 a "com/example/indelible_trail/indelibletrail/model/XmlDateTime") (o : Addr) (Eo : Exa Z h0 o "java/lang/String") : Con l Z (⟨"com/example/indelible_trail/indelibletrail/model/XmlDateTime", "equals", "(Ljava/lang/Object;)Z"⟩ : MethodName) prog_34_method_4_code 3 (some .boolean) ({ frames := 0, cells := 0, slots := 0, locals := 0 } : Room) #[(.ref a), (.ref o)] h0 [] (QV fun w h => w = .int 0 ∧ h0 = h) := by
  refine Con.of (plainFor_of_name pn6) hE ⟨b0, own_ew0 hw⟩ all0 (L0 := #[.val (.ref a), .val (.ref o), .unset]) (fun m => by first | (simp [entryFrame, mkF, argsToLocals, Value.category]; done) | rfl) ?_
  intro p e s m args below meth c T W
  refine o_aloadN 1 W d23_0 rfl rfl ?_
  refine o_instN 4 W (tw hw 112) Eo (own_ns_no (tw hw 113) (tw hw 33) (NS.step (tw hw 113) (own_ns_root (tw hw 114) (tw hw 33) (by decide)) (by decide)) (by decide)) d23_1 (fun T W => ?_)
  refine o_ifY 55 W d23_4 (by decide) ?_
  refine o_iconst 56 W (0) d23_55 (by first | rfl | decide) ?_
  exact o_nret W (0 : Int32) (by simp) (by decide) d23_56 (⟨rfl, rfl⟩)
theorem con_xeqR (l : Launch) (Z : State) (b0 : Array Value) (hw : ∀ d ∈ tables_1, d.before b0 Z = true) (a : Addr) (h0 : Heap) (hE : Ext Z.heap h0) (A : Exa Z h0 a "com/example/indelible_trail/indelibletrail/model/XmlDateTime") (b : Addr) (B : Exa Z h0 b "com/example/indelible_trail/indelibletrail/model/XmlDateTime") (y1 f1 : Addr) (q1 : Int32) (ys1 fs1 : List Int32) (hy1 : ys1.length < 5000) (cy1 : own_ch ys1) (hf1 : fs1.length < 5000) (cf1 : own_ch fs1) (Y1 : Fld Z h0 a "com/example/indelible_trail/indelibletrail/model/XmlDateTime" "year" "Ljava/lang/String;" (.ref y1)) (Q1 : Fld Z h0 a "com/example/indelible_trail/indelibletrail/model/XmlDateTime" "secondOfYear" "I" (.int q1)) (G1 : Fld Z h0 a "com/example/indelible_trail/indelibletrail/model/XmlDateTime" "fraction" "Ljava/lang/String;" (.ref f1)) (X1 : Str Z h0 y1 ys1) (V1 : Str Z h0 f1 fs1) (y2 f2 : Addr) (q2 : Int32) (ys2 fs2 : List Int32) (hy2 : ys2.length < 5000) (cy2 : own_ch ys2) (hf2 : fs2.length < 5000) (cf2 : own_ch fs2) (Y2 : Fld Z h0 b "com/example/indelible_trail/indelibletrail/model/XmlDateTime" "year" "Ljava/lang/String;" (.ref y2)) (Q2 : Fld Z h0 b "com/example/indelible_trail/indelibletrail/model/XmlDateTime" "secondOfYear" "I" (.int q2)) (G2 : Fld Z h0 b "com/example/indelible_trail/indelibletrail/model/XmlDateTime" "fraction" "Ljava/lang/String;" (.ref f2)) (X2 : Str Z h0 y2 ys2) (V2 : Str Z h0 f2 fs2) (cz : Int32) (hcz : ¬ cz = 0) (SC : Sta Z Z.heap "java/lang/String" "COMPACT_STRINGS" "Z" (.int cz)) : Con l Z (⟨"com/example/indelible_trail/indelibletrail/model/XmlDateTime", "equals", "(Ljava/lang/Object;)Z"⟩ : MethodName) prog_34_method_4_code 3 (some .boolean) ({ frames := 2, cells := 0, slots := 0, locals := 48 } : Room) #[(.ref a), (.ref b)] h0 [] (QV fun w h => w = .int (own_bi (decide (ys1 = ys2) && decide (q1 = q2) && decide (fs1 = fs2))) ∧ h0 = h) := by
  refine Con.of (plainFor_of_name pn6) hE ⟨b0, own_ew0 hw⟩ all0 (L0 := #[.val (.ref a), .val (.ref b), .unset]) (fun m => by first | (simp [entryFrame, mkF, argsToLocals, Value.category]; done) | rfl) ?_
  intro p e s m args below meth c T W
  refine o_aloadN 1 W d23_0 rfl rfl ?_
  refine o_instY 4 W (tw hw 112) (Ins.self B) d23_1 (fun T W => ?_)
  refine o_ifN 7 W d23_4 (by decide) ?_
  refine o_aloadN 8 W d23_7 rfl rfl ?_
  refine o_cast 11 W (tw hw 112) (Ins.self B) d23_8 (fun T W => ?_)
  refine o_astoreN 12 W #[.val (.ref a), .val (.ref b), .val (.ref b)] d23_11 rfl rfl ?_
  refine o_aloadN 13 W d23_12 rfl rfl ?_
  refine o_getF 16 W (tw hw 82) Y1 d23_13 (fun T W => ?_)
  refine o_aloadN 17 W d23_16 rfl rfl ?_
  refine o_getF 20 W (tw hw 82) Y2 d23_17 (fun T W => ?_)
  refine o_virtual 23 [(.ref y2)] W (tw hw 138) (tw hw 139) (tw hw 141) (tw hw 140) (tw hw 13) (tw hw 142) (X1.1) (con_seq l Z b0 hw y1 y2 ys1 ys2 hy1 cy1 hy2 cy2 _ W.old X1 X2 cz hcz SC) pd20 d23_20 rfl all0 (fun T h v W qq gg => ?_)
  obtain ⟨_, rfl, rfl, rfl⟩ := qq
  show Go p e below _ _ (mkF m 23 #[.val (.ref a), .val (.ref b), .val (.ref b)] [(.int (own_bi (decide (ys1 = ys2))))])
  refine o_ifeq 55 26 W d23_23 (fun c23 => ?_) (fun c23 => ?_)
  · refine o_iconst 56 W (0) d23_55 (by first | rfl | decide) ?_
    exact o_nret W (0 : Int32) (by simp) (by decide) d23_56 (⟨by rw [(own_bi0 _).mp c23, Bool.false_and, Bool.false_and]; rfl, rfl⟩)
  · have e1 : decide (ys1 = ys2) = true := by cases q : decide (ys1 = ys2); exact absurd ((own_bi0 _).mpr q) c23; rfl
    refine o_aloadN 27 W d23_26 rfl rfl ?_
    refine o_getF 30 W (tw hw 84) Q1 d23_27 (fun T W => ?_)
    refine o_aloadN 31 W d23_30 rfl rfl ?_
    refine o_getF 34 W (tw hw 84) Q2 d23_31 (fun T W => ?_)
    refine o_icne 55 37 W d23_34 (fun c34 => ?_) (fun c34 => ?_)
    · refine o_iconst 56 W (0) d23_55 (by first | rfl | decide) ?_
      exact o_nret W (0 : Int32) (by simp) (by decide) d23_56 (⟨by rw [decide_eq_false c34, Bool.and_false, Bool.false_and]; rfl, rfl⟩)
    · refine o_aloadN 38 W d23_37 rfl rfl ?_
      refine o_getF 41 W (tw hw 102) G1 d23_38 (fun T W => ?_)
      refine o_aloadN 42 W d23_41 rfl rfl ?_
      refine o_getF 45 W (tw hw 102) G2 d23_42 (fun T W => ?_)
      refine o_virtual 48 [(.ref f2)] W (tw hw 138) (tw hw 139) (tw hw 141) (tw hw 140) (tw hw 13) (tw hw 142) (V1.1) (con_seq l Z b0 hw f1 f2 fs1 fs2 hf1 cf1 hf2 cf2 _ W.old V1 V2 cz hcz SC) pd20 d23_45 rfl all0 (fun T h v W qq gg => ?_)
      obtain ⟨_, rfl, rfl, rfl⟩ := qq
      show Go p e below _ _ (mkF m 48 #[.val (.ref a), .val (.ref b), .val (.ref b)] [(.int (own_bi (decide (fs1 = fs2))))])
      refine o_ifeq 55 51 W d23_48 (fun c48 => ?_) (fun c48 => ?_)
      · refine o_iconst 56 W (0) d23_55 (by first | rfl | decide) ?_
        exact o_nret W (0 : Int32) (by simp) (by decide) d23_56 (⟨by rw [(own_bi0 _).mp c48, Bool.and_false]; rfl, rfl⟩)
      · have e2 : decide (fs1 = fs2) = true := by cases q : decide (fs1 = fs2); exact absurd ((own_bi0 _).mpr q) c48; rfl
        refine o_iconst 52 W (1) d23_51 (by first | rfl | decide) ?_
        refine o_goto 56 W d23_52 ?_
        exact o_nret W (1 : Int32) (by simp) (by decide) d23_56 (⟨by rw [e1, e2, decide_eq_true c34]; rfl, rfl⟩)
theorem con_law (l : Launch) (Z : State) (b0 : Array Value) (hw : ∀ d ∈ tables_1, d.before b0 Z = true) (x0 x1 x2 x3 x4 : Int32) (cz : Int32) (hcz : ¬ cz = 0) (SC : Sta Z Z.heap "java/lang/String" "COMPACT_STRINGS" "Z" (.int cz)) (vf : Value) (rf : vf.isRef = true) (SF : Sta Z Z.heap "jdk/internal/util/Preconditions" "SIOOBE_FORMATTER" "Ljava/util/function/BiFunction;" vf) : Con l Z x code maxLocals ret room_1 #[(.int x0), (.int x1), (.int x2), (.int x3), (.int x4)] Z.heap [] (QV fun w h => w = .int 1) := by
  refine Con.of (plainFor_of_name pn5) (own_ext_refl _) ⟨b0, own_ew0 hw⟩ all0 (L0 := #[.val (.int x0), .val (.int x1), .val (.int x2), .val (.int x3), .val (.int x4), .unset, .unset, .unset, .unset, .unset, .unset, .unset, .unset, .unset, .unset, .unset, .unset, .unset, .unset, .unset, .unset, .unset, .unset, .unset, .unset]) (fun m => by first | (simp [entryFrame, mkF, argsToLocals, Value.category, maxLocals]; done) | rfl) ?_
  intro p e s m args below meth c T W
  refine o_iconst 1 W (2) at_0 (by first | rfl | decide) ?_
  refine o_newarray 3 2 W (tw hw 0) at_1 (by decide) (by decide) (fun T h ya kya W Eya Aya gya zya => ?_)
  have Aya := own_pad 2 Aya
  refine o_dup 4 W at_3 rfl ?_
  refine o_iconst 5 W (0) at_4 (by first | rfl | decide) ?_
  refine o_iloadN 6 W at_5 rfl ?_
  refine o_iconst 7 W (2) at_6 (by first | rfl | decide) ?_
  refine o_iushr 8 W at_7 ?_
  refine o_static 11 [(.int (XT.ushr x0 (2 : Int32)))] W (tw hw 1) (tw hw 2) (tw hw 3) (tw hw 4) (con_yc l Z b0 hw _ _ W.old) pd19 at_8 rfl all0 (fun T h v W qq gg => ?_)
  obtain ⟨_, rfl, rfl, rfl⟩ := qq
  show Go p e below _ _ (mkF m 11 #[.val (.int x0), .val (.int x1), .val (.int x2), .val (.int x3), .val (.int x4), .unset, .unset, .unset, .unset, .unset, .unset, .unset, .unset, .unset, .unset, .unset, .unset, .unset, .unset, .unset, .unset, .unset, .unset, .unset, .unset] [(.int (own_yc (XT.ushr x0 (2 : Int32)))), (.int (0 : Int32)), (.ref ya), (.ref ya)])
  refine o_castore 12 0 W Aya (by decide) rfl (by first | decide | simp) zya at_11 (fun T h W w0 Aya => ?_)
  have Eya := own_ext_wr Eya w0 gya
  refine o_dup 13 W at_12 rfl ?_
  refine o_iconst 14 W (1) at_13 (by first | rfl | decide) ?_
  refine o_iloadN 15 W at_14 rfl ?_
  refine o_iconst 16 W (4) at_15 (by first | rfl | decide) ?_
  refine o_iushr 17 W at_16 ?_
  refine o_static 20 [(.int (XT.ushr x0 (4 : Int32)))] W (tw hw 1) (tw hw 2) (tw hw 3) (tw hw 4) (con_yc l Z b0 hw _ _ W.old) pd19 at_17 rfl all0 (fun T h v W qq gg => ?_)
  obtain ⟨_, rfl, rfl, rfl⟩ := qq
  show Go p e below _ _ (mkF m 20 #[.val (.int x0), .val (.int x1), .val (.int x2), .val (.int x3), .val (.int x4), .unset, .unset, .unset, .unset, .unset, .unset, .unset, .unset, .unset, .unset, .unset, .unset, .unset, .unset, .unset, .unset, .unset, .unset, .unset, .unset] [(.int (own_yc (XT.ushr x0 (4 : Int32)))), (.int (1 : Int32)), (.ref ya), (.ref ya)])
  refine o_castore 21 1 W Aya (by decide) rfl (by first | decide | simp) zya at_20 (fun T h W w1 Aya => ?_)
  have Eya := own_ext_wr Eya w1 gya
  simp only [own_nar (own_ycr _), own_nar (own_ycr _)] at Aya
  have Aya : Arv Z h ya kya .char 2 ([(own_yc (XT.ushr x0 (2 : Int32))), (own_yc (XT.ushr x0 (4 : Int32)))].map Value.int) (.int 0) := Aya
  refine o_astore 23 W #[.val (.int x0), .val (.int x1), .val (.int x2), .val (.int x3), .val (.int x4), .val (.ref ya), .unset, .unset, .unset, .unset, .unset, .unset, .unset, .unset, .unset, .unset, .unset, .unset, .unset, .unset, .unset, .unset, .unset, .unset, .unset] at_21 rfl rfl ?_
  refine o_iloadN 24 W at_23 rfl ?_
  refine o_iconst 25 W (3) at_24 (by first | rfl | decide) ?_
  refine o_iand 26 W at_25 ?_
  refine o_iconst 27 W (3) at_26 (by first | rfl | decide) ?_
  refine o_irem 28 W at_27 (by decide) ?_
  refine o_istore 30 W #[.val (.int x0), .val (.int x1), .val (.int x2), .val (.int x3), .val (.int x4), .val (.ref ya), .val (.int ((x0 &&& (3 : Int32)) % (3 : Int32))), .unset, .unset, .unset, .unset, .unset, .unset, .unset, .unset, .unset, .unset, .unset, .unset, .unset, .unset, .unset, .unset, .unset, .unset] at_28 rfl ?_
  obtain ⟨na, hna, bna⟩ := own_m3 x0
  generalize ((x0 &&& (3 : Int32)) % (3 : Int32)) = nA at hna ⊢
  show Go p e below _ _ (mkF m 30 #[.val (.int x0), .val (.int x1), .val (.int x2), .val (.int x3), .val (.int x4), .val (.ref ya), .val (.int nA), .unset, .unset, .unset, .unset, .unset, .unset, .unset, .unset, .unset, .unset, .unset, .unset, .unset, .unset, .unset, .unset, .unset, .unset] [])
  refine o_iloadN 31 W at_30 rfl ?_
  refine o_bipush 33 W (6) at_31 (by first | rfl | decide) ?_
  refine o_iushr 34 W at_33 ?_
  refine o_iconst 35 W (1) at_34 (by first | rfl | decide) ?_
  refine o_iand 36 W at_35 ?_
  refine o_ifeq 43 39 W at_36 (fun c36 => ?_) (fun c36 => ?_)
  · refine o_iconst 44 W (0) at_43 (by first | rfl | decide) ?_
    refine o_istore 46 W #[.val (.int x0), .val (.int x1), .val (.int x2), .val (.int x3), .val (.int x4), .val (.ref ya), .val (.int nA), .val (.int (0 : Int32)), .unset, .unset, .unset, .unset, .unset, .unset, .unset, .unset, .unset, .unset, .unset, .unset, .unset, .unset, .unset, .unset, .unset] at_44 rfl ?_
    refine o_iload 48 W at_46 rfl ?_
    refine o_ifY 71 W at_48 (by decide) ?_
    refine o_iconst 72 W (2) at_71 (by first | rfl | decide) ?_
    refine o_newarray 74 2 W (tw hw 0) at_72 (by decide) (by decide) (fun T h yb kyb W Eyb Ayb gyb zyb => ?_)
    have Ayb := own_pad 2 Ayb
    refine o_dup 75 W at_74 rfl ?_
    refine o_iconst 76 W (0) at_75 (by first | rfl | decide) ?_
    refine o_iloadN 77 W at_76 rfl ?_
    refine o_bipush 79 W (9) at_77 (by first | rfl | decide) ?_
    refine o_iushr 80 W at_79 ?_
    refine o_static 83 [(.int (XT.ushr x0 (9 : Int32)))] W (tw hw 1) (tw hw 2) (tw hw 3) (tw hw 4) (con_yc l Z b0 hw _ _ W.old) pd19 at_80 rfl all0 (fun T h v W qq gg => ?_)
    obtain ⟨_, rfl, rfl, rfl⟩ := qq
    show Go p e below _ _ (mkF m 83 #[.val (.int x0), .val (.int x1), .val (.int x2), .val (.int x3), .val (.int x4), .val (.ref ya), .val (.int nA), .val (.int (0 : Int32)), .unset, .unset, .unset, .unset, .unset, .unset, .unset, .unset, .unset, .unset, .unset, .unset, .unset, .unset, .unset, .unset, .unset] [(.int (own_yc (XT.ushr x0 (9 : Int32)))), (.int (0 : Int32)), (.ref yb), (.ref yb)])
    refine o_castore 84 0 W Ayb (by decide) rfl (by first | decide | simp) zyb at_83 (fun T h W w0 Ayb => ?_)
    have Eyb := own_ext_wr Eyb w0 gyb
    refine o_dup 85 W at_84 rfl ?_
    refine o_iconst 86 W (1) at_85 (by first | rfl | decide) ?_
    refine o_iloadN 87 W at_86 rfl ?_
    refine o_bipush 89 W (11) at_87 (by first | rfl | decide) ?_
    refine o_iushr 90 W at_89 ?_
    refine o_static 93 [(.int (XT.ushr x0 (11 : Int32)))] W (tw hw 1) (tw hw 2) (tw hw 3) (tw hw 4) (con_yc l Z b0 hw _ _ W.old) pd19 at_90 rfl all0 (fun T h v W qq gg => ?_)
    obtain ⟨_, rfl, rfl, rfl⟩ := qq
    show Go p e below _ _ (mkF m 93 #[.val (.int x0), .val (.int x1), .val (.int x2), .val (.int x3), .val (.int x4), .val (.ref ya), .val (.int nA), .val (.int (0 : Int32)), .unset, .unset, .unset, .unset, .unset, .unset, .unset, .unset, .unset, .unset, .unset, .unset, .unset, .unset, .unset, .unset, .unset] [(.int (own_yc (XT.ushr x0 (11 : Int32)))), (.int (1 : Int32)), (.ref yb), (.ref yb)])
    refine o_castore 94 1 W Ayb (by decide) rfl (by first | decide | simp) zyb at_93 (fun T h W w1 Ayb => ?_)
    have Eyb := own_ext_wr Eyb w1 gyb
    simp only [own_nar (own_ycr _), own_nar (own_ycr _)] at Ayb
    have Ayb : Arv Z h yb kyb .char 2 ([(own_yc (XT.ushr x0 (9 : Int32))), (own_yc (XT.ushr x0 (11 : Int32)))].map Value.int) (.int 0) := Ayb
    have Aya := Aya.ext Eyb
    refine o_astore 96 W #[.val (.int x0), .val (.int x1), .val (.int x2), .val (.int x3), .val (.int x4), .val (.ref ya), .val (.int nA), .val (.int (0 : Int32)), .val (.ref yb), .unset, .unset, .unset, .unset, .unset, .unset, .unset, .unset, .unset, .unset, .unset, .unset, .unset, .unset, .unset, .unset] at_94 rfl rfl ?_
    refine o_iload 98 W at_96 rfl ?_
    refine o_ifY 106 W at_98 (by decide) ?_
    refine o_iloadN 107 W at_106 rfl ?_
    refine o_bipush 109 W (7) at_107 (by first | rfl | decide) ?_
    refine o_iushr 110 W at_109 ?_
    refine o_iconst 111 W (3) at_110 (by first | rfl | decide) ?_
    refine o_iand 112 W at_111 ?_
    refine o_iconst 113 W (3) at_112 (by first | rfl | decide) ?_
    refine o_irem 114 W at_113 (by decide) ?_
    refine o_istore 116 W #[.val (.int x0), .val (.int x1), .val (.int x2), .val (.int x3), .val (.int x4), .val (.ref ya), .val (.int nA), .val (.int (0 : Int32)), .val (.ref yb), .val (.int (((XT.ushr x0 (7 : Int32)) &&& (3 : Int32)) % (3 : Int32))), .unset, .unset, .unset, .unset, .unset, .unset, .unset, .unset, .unset, .unset, .unset, .unset, .unset, .unset, .unset] at_114 rfl ?_
    obtain ⟨nb, hnb, bnb⟩ := own_m3 (XT.ushr x0 7)
    generalize (((XT.ushr x0 (7 : Int32)) &&& (3 : Int32)) % (3 : Int32)) = nB at hnb ⊢
    show Go p e below _ _ (mkF m 116 #[.val (.int x0), .val (.int x1), .val (.int x2), .val (.int x3), .val (.int x4), .val (.ref ya), .val (.int nA), .val (.int (0 : Int32)), .val (.ref yb), .val (.int nB), .unset, .unset, .unset, .unset, .unset, .unset, .unset, .unset, .unset, .unset, .unset, .unset, .unset, .unset, .unset] [])
    refine o_iconst 117 W (3) at_116 (by first | rfl | decide) ?_
    refine o_newarray 119 3 W (tw hw 0) at_117 (by decide) (by decide) (fun T h fa kfa W Efa Afa gfa zfa => ?_)
    have Afa := own_pad 3 Afa
    refine o_dup 120 W at_119 rfl ?_
    refine o_iconst 121 W (0) at_120 (by first | rfl | decide) ?_
    refine o_iloadN 122 W at_121 rfl ?_
    refine o_iconst 123 W (2) at_122 (by first | rfl | decide) ?_
    refine o_iushr 124 W at_123 ?_
    refine o_static 127 [(.int (XT.ushr x3 (2 : Int32)))] W (tw hw 5) (tw hw 6) (tw hw 3) (tw hw 7) (con_fc l Z b0 hw _ _ W.old) pd19 at_124 rfl all0 (fun T h v W qq gg => ?_)
    obtain ⟨_, rfl, rfl, rfl⟩ := qq
    show Go p e below _ _ (mkF m 127 #[.val (.int x0), .val (.int x1), .val (.int x2), .val (.int x3), .val (.int x4), .val (.ref ya), .val (.int nA), .val (.int (0 : Int32)), .val (.ref yb), .val (.int nB), .unset, .unset, .unset, .unset, .unset, .unset, .unset, .unset, .unset, .unset, .unset, .unset, .unset, .unset, .unset] [(.int (own_fc (XT.ushr x3 (2 : Int32)))), (.int (0 : Int32)), (.ref fa), (.ref fa)])
    refine o_castore 128 0 W Afa (by decide) rfl (by first | decide | simp) zfa at_127 (fun T h W w0 Afa => ?_)
    have Efa := own_ext_wr Efa w0 gfa
    refine o_dup 129 W at_128 rfl ?_
    refine o_iconst 130 W (1) at_129 (by first | rfl | decide) ?_
    refine o_iloadN 131 W at_130 rfl ?_
    refine o_iconst 132 W (4) at_131 (by first | rfl | decide) ?_
    refine o_iushr 133 W at_132 ?_
    refine o_static 136 [(.int (XT.ushr x3 (4 : Int32)))] W (tw hw 5) (tw hw 6) (tw hw 3) (tw hw 7) (con_fc l Z b0 hw _ _ W.old) pd19 at_133 rfl all0 (fun T h v W qq gg => ?_)
    obtain ⟨_, rfl, rfl, rfl⟩ := qq
    show Go p e below _ _ (mkF m 136 #[.val (.int x0), .val (.int x1), .val (.int x2), .val (.int x3), .val (.int x4), .val (.ref ya), .val (.int nA), .val (.int (0 : Int32)), .val (.ref yb), .val (.int nB), .unset, .unset, .unset, .unset, .unset, .unset, .unset, .unset, .unset, .unset, .unset, .unset, .unset, .unset, .unset] [(.int (own_fc (XT.ushr x3 (4 : Int32)))), (.int (1 : Int32)), (.ref fa), (.ref fa)])
    refine o_castore 137 1 W Afa (by decide) rfl (by first | decide | simp) zfa at_136 (fun T h W w1 Afa => ?_)
    have Efa := own_ext_wr Efa w1 gfa
    refine o_dup 138 W at_137 rfl ?_
    refine o_iconst 139 W (2) at_138 (by first | rfl | decide) ?_
    refine o_iloadN 140 W at_139 rfl ?_
    refine o_bipush 142 W (6) at_140 (by first | rfl | decide) ?_
    refine o_iushr 143 W at_142 ?_
    refine o_static 146 [(.int (XT.ushr x3 (6 : Int32)))] W (tw hw 5) (tw hw 6) (tw hw 3) (tw hw 7) (con_fc l Z b0 hw _ _ W.old) pd19 at_143 rfl all0 (fun T h v W qq gg => ?_)
    obtain ⟨_, rfl, rfl, rfl⟩ := qq
    show Go p e below _ _ (mkF m 146 #[.val (.int x0), .val (.int x1), .val (.int x2), .val (.int x3), .val (.int x4), .val (.ref ya), .val (.int nA), .val (.int (0 : Int32)), .val (.ref yb), .val (.int nB), .unset, .unset, .unset, .unset, .unset, .unset, .unset, .unset, .unset, .unset, .unset, .unset, .unset, .unset, .unset] [(.int (own_fc (XT.ushr x3 (6 : Int32)))), (.int (2 : Int32)), (.ref fa), (.ref fa)])
    refine o_castore 147 2 W Afa (by decide) rfl (by first | decide | simp) zfa at_146 (fun T h W w2 Afa => ?_)
    have Efa := own_ext_wr Efa w2 gfa
    simp only [own_nar (own_fcr _), own_nar (own_fcr _), own_nar (own_fcr _)] at Afa
    have Afa : Arv Z h fa kfa .char 3 ([(own_fc (XT.ushr x3 (2 : Int32))), (own_fc (XT.ushr x3 (4 : Int32))), (own_fc (XT.ushr x3 (6 : Int32)))].map Value.int) (.int 0) := Afa
    have Aya := Aya.ext Efa
    have Ayb := Ayb.ext Efa
    refine o_astore 149 W #[.val (.int x0), .val (.int x1), .val (.int x2), .val (.int x3), .val (.int x4), .val (.ref ya), .val (.int nA), .val (.int (0 : Int32)), .val (.ref yb), .val (.int nB), .val (.ref fa), .unset, .unset, .unset, .unset, .unset, .unset, .unset, .unset, .unset, .unset, .unset, .unset, .unset, .unset] at_147 rfl rfl ?_
    refine o_iloadN 150 W at_149 rfl ?_
    refine o_iconst 151 W (3) at_150 (by first | rfl | decide) ?_
    refine o_iand 152 W at_151 ?_
    refine o_istore 154 W #[.val (.int x0), .val (.int x1), .val (.int x2), .val (.int x3), .val (.int x4), .val (.ref ya), .val (.int nA), .val (.int (0 : Int32)), .val (.ref yb), .val (.int nB), .val (.ref fa), .val (.int (x3 &&& (3 : Int32))), .unset, .unset, .unset, .unset, .unset, .unset, .unset, .unset, .unset, .unset, .unset, .unset, .unset] at_152 rfl ?_
    obtain ⟨nfa, hnfa, bnfa⟩ := own_and3 x3
    generalize (x3 &&& (3 : Int32)) = nF at hnfa ⊢
    show Go p e below _ _ (mkF m 154 #[.val (.int x0), .val (.int x1), .val (.int x2), .val (.int x3), .val (.int x4), .val (.ref ya), .val (.int nA), .val (.int (0 : Int32)), .val (.ref yb), .val (.int nB), .val (.ref fa), .val (.int nF), .unset, .unset, .unset, .unset, .unset, .unset, .unset, .unset, .unset, .unset, .unset, .unset, .unset] [])
    refine o_iconst 155 W (3) at_154 (by first | rfl | decide) ?_
    refine o_newarray 157 3 W (tw hw 0) at_155 (by decide) (by decide) (fun T h fb kfb W Efb Afb gfb zfb => ?_)
    have Afb := own_pad 3 Afb
    refine o_dup 158 W at_157 rfl ?_
    refine o_iconst 159 W (0) at_158 (by first | rfl | decide) ?_
    refine o_iload 161 W at_159 rfl ?_
    refine o_iconst 162 W (2) at_161 (by first | rfl | decide) ?_
    refine o_iushr 163 W at_162 ?_
    refine o_static 166 [(.int (XT.ushr x4 (2 : Int32)))] W (tw hw 5) (tw hw 6) (tw hw 3) (tw hw 7) (con_fc l Z b0 hw _ _ W.old) pd19 at_163 rfl all0 (fun T h v W qq gg => ?_)
    obtain ⟨_, rfl, rfl, rfl⟩ := qq
    show Go p e below _ _ (mkF m 166 #[.val (.int x0), .val (.int x1), .val (.int x2), .val (.int x3), .val (.int x4), .val (.ref ya), .val (.int nA), .val (.int (0 : Int32)), .val (.ref yb), .val (.int nB), .val (.ref fa), .val (.int nF), .unset, .unset, .unset, .unset, .unset, .unset, .unset, .unset, .unset, .unset, .unset, .unset, .unset] [(.int (own_fc (XT.ushr x4 (2 : Int32)))), (.int (0 : Int32)), (.ref fb), (.ref fb)])
    refine o_castore 167 0 W Afb (by decide) rfl (by first | decide | simp) zfb at_166 (fun T h W w0 Afb => ?_)
    have Efb := own_ext_wr Efb w0 gfb
    refine o_dup 168 W at_167 rfl ?_
    refine o_iconst 169 W (1) at_168 (by first | rfl | decide) ?_
    refine o_iload 171 W at_169 rfl ?_
    refine o_iconst 172 W (4) at_171 (by first | rfl | decide) ?_
    refine o_iushr 173 W at_172 ?_
    refine o_static 176 [(.int (XT.ushr x4 (4 : Int32)))] W (tw hw 5) (tw hw 6) (tw hw 3) (tw hw 7) (con_fc l Z b0 hw _ _ W.old) pd19 at_173 rfl all0 (fun T h v W qq gg => ?_)
    obtain ⟨_, rfl, rfl, rfl⟩ := qq
    show Go p e below _ _ (mkF m 176 #[.val (.int x0), .val (.int x1), .val (.int x2), .val (.int x3), .val (.int x4), .val (.ref ya), .val (.int nA), .val (.int (0 : Int32)), .val (.ref yb), .val (.int nB), .val (.ref fa), .val (.int nF), .unset, .unset, .unset, .unset, .unset, .unset, .unset, .unset, .unset, .unset, .unset, .unset, .unset] [(.int (own_fc (XT.ushr x4 (4 : Int32)))), (.int (1 : Int32)), (.ref fb), (.ref fb)])
    refine o_castore 177 1 W Afb (by decide) rfl (by first | decide | simp) zfb at_176 (fun T h W w1 Afb => ?_)
    have Efb := own_ext_wr Efb w1 gfb
    refine o_dup 178 W at_177 rfl ?_
    refine o_iconst 179 W (2) at_178 (by first | rfl | decide) ?_
    refine o_iload 181 W at_179 rfl ?_
    refine o_bipush 183 W (6) at_181 (by first | rfl | decide) ?_
    refine o_iushr 184 W at_183 ?_
    refine o_static 187 [(.int (XT.ushr x4 (6 : Int32)))] W (tw hw 5) (tw hw 6) (tw hw 3) (tw hw 7) (con_fc l Z b0 hw _ _ W.old) pd19 at_184 rfl all0 (fun T h v W qq gg => ?_)
    obtain ⟨_, rfl, rfl, rfl⟩ := qq
    show Go p e below _ _ (mkF m 187 #[.val (.int x0), .val (.int x1), .val (.int x2), .val (.int x3), .val (.int x4), .val (.ref ya), .val (.int nA), .val (.int (0 : Int32)), .val (.ref yb), .val (.int nB), .val (.ref fa), .val (.int nF), .unset, .unset, .unset, .unset, .unset, .unset, .unset, .unset, .unset, .unset, .unset, .unset, .unset] [(.int (own_fc (XT.ushr x4 (6 : Int32)))), (.int (2 : Int32)), (.ref fb), (.ref fb)])
    refine o_castore 188 2 W Afb (by decide) rfl (by first | decide | simp) zfb at_187 (fun T h W w2 Afb => ?_)
    have Efb := own_ext_wr Efb w2 gfb
    simp only [own_nar (own_fcr _), own_nar (own_fcr _), own_nar (own_fcr _)] at Afb
    have Afb : Arv Z h fb kfb .char 3 ([(own_fc (XT.ushr x4 (2 : Int32))), (own_fc (XT.ushr x4 (4 : Int32))), (own_fc (XT.ushr x4 (6 : Int32)))].map Value.int) (.int 0) := Afb
    have Aya := Aya.ext Efb
    have Ayb := Ayb.ext Efb
    have Afa := Afa.ext Efb
    refine o_astore 190 W #[.val (.int x0), .val (.int x1), .val (.int x2), .val (.int x3), .val (.int x4), .val (.ref ya), .val (.int nA), .val (.int (0 : Int32)), .val (.ref yb), .val (.int nB), .val (.ref fa), .val (.int nF), .val (.ref fb), .unset, .unset, .unset, .unset, .unset, .unset, .unset, .unset, .unset, .unset, .unset, .unset] at_188 rfl rfl ?_
    refine o_iload 192 W at_190 rfl ?_
    refine o_iconst 193 W (3) at_192 (by first | rfl | decide) ?_
    refine o_iand 194 W at_193 ?_
    refine o_istore 196 W #[.val (.int x0), .val (.int x1), .val (.int x2), .val (.int x3), .val (.int x4), .val (.ref ya), .val (.int nA), .val (.int (0 : Int32)), .val (.ref yb), .val (.int nB), .val (.ref fa), .val (.int nF), .val (.ref fb), .val (.int (x4 &&& (3 : Int32))), .unset, .unset, .unset, .unset, .unset, .unset, .unset, .unset, .unset, .unset, .unset] at_194 rfl ?_
    obtain ⟨nfb, hnfb, bnfb⟩ := own_and3 x4
    generalize (x4 &&& (3 : Int32)) = nG at hnfb ⊢
    show Go p e below _ _ (mkF m 196 #[.val (.int x0), .val (.int x1), .val (.int x2), .val (.int x3), .val (.int x4), .val (.ref ya), .val (.int nA), .val (.int (0 : Int32)), .val (.ref yb), .val (.int nB), .val (.ref fa), .val (.int nF), .val (.ref fb), .val (.int nG), .unset, .unset, .unset, .unset, .unset, .unset, .unset, .unset, .unset, .unset, .unset] [])
    refine o_iloadN 197 W at_196 rfl ?_
    refine o_istore 199 W #[.val (.int x0), .val (.int x1), .val (.int x2), .val (.int x3), .val (.int x4), .val (.ref ya), .val (.int nA), .val (.int (0 : Int32)), .val (.ref yb), .val (.int nB), .val (.ref fa), .val (.int nF), .val (.ref fb), .val (.int nG), .val (.int x1), .unset, .unset, .unset, .unset, .unset, .unset, .unset, .unset, .unset, .unset] at_197 rfl ?_
    refine Go.cutW W (g' := (mkF m 213 #[.val (.int x0), .val (.int x1), .val (.int x2), .val (.int x3), .val (.int x4), .val (.ref ya), .val (.int nA), .val (.int (0 : Int32)), .val (.ref yb), .val (.int nB), .val (.ref fa), .val (.int nF), .val (.ref fb), .val (.int nG), .val (.int x1), .unset, .unset, .unset, .unset, .unset, .unset, .unset, .unset, .unset, .unset] [(.int (if XT.ushr x0 (13 : Int32) &&& (1 : Int32) = 0 then x2 else x1))])) (fun J => ?_) (fun T W => ?_)
    · refine o_iloadN 200 W at_199 rfl ?_
      refine o_bipush 202 W (13) at_200 (by first | rfl | decide) ?_
      refine o_iushr 203 W at_202 ?_
      refine o_iconst 204 W (1) at_203 (by first | rfl | decide) ?_
      refine o_iand 205 W at_204 ?_
      refine o_ifeq 212 208 W at_205 (fun c205 => ?_) (fun c205 => ?_)
      · refine o_iloadN 213 W at_212 rfl ?_
        exact (J _ W).eq (congrArg (fun z => mkF m 213 #[.val (.int x0), .val (.int x1), .val (.int x2), .val (.int x3), .val (.int x4), .val (.ref ya), .val (.int nA), .val (.int (0 : Int32)), .val (.ref yb), .val (.int nB), .val (.ref fa), .val (.int nF), .val (.ref fb), .val (.int nG), .val (.int x1), .unset, .unset, .unset, .unset, .unset, .unset, .unset, .unset, .unset, .unset] [(.int z)]) (by simp [c205]))
      · refine o_iloadN 209 W at_208 rfl ?_
        refine o_goto 213 W at_209 ?_
        exact (J _ W).eq (congrArg (fun z => mkF m 213 #[.val (.int x0), .val (.int x1), .val (.int x2), .val (.int x3), .val (.int x4), .val (.ref ya), .val (.int nA), .val (.int (0 : Int32)), .val (.ref yb), .val (.int nB), .val (.ref fa), .val (.int nF), .val (.ref fb), .val (.int nG), .val (.int x1), .unset, .unset, .unset, .unset, .unset, .unset, .unset, .unset, .unset, .unset] [(.int z)]) (by simp [c205]))
    refine o_istore 215 W #[.val (.int x0), .val (.int x1), .val (.int x2), .val (.int x3), .val (.int x4), .val (.ref ya), .val (.int nA), .val (.int (0 : Int32)), .val (.ref yb), .val (.int nB), .val (.ref fa), .val (.int nF), .val (.ref fb), .val (.int nG), .val (.int x1), .val (.int (if XT.ushr x0 (13 : Int32) &&& (1 : Int32) = 0 then x2 else x1)), .unset, .unset, .unset, .unset, .unset, .unset, .unset, .unset, .unset] at_213 rfl ?_
    generalize (if XT.ushr x0 (13 : Int32) &&& (1 : Int32) = 0 then x2 else x1) = sb
    show Go p e below _ _ (mkF m 215 #[.val (.int x0), .val (.int x1), .val (.int x2), .val (.int x3), .val (.int x4), .val (.ref ya), .val (.int nA), .val (.int (0 : Int32)), .val (.ref yb), .val (.int nB), .val (.ref fa), .val (.int nF), .val (.ref fb), .val (.int nG), .val (.int x1), .val (.int sb), .unset, .unset, .unset, .unset, .unset, .unset, .unset, .unset, .unset] [])
    refine o_aload 217 W at_215 rfl rfl ?_
    refine o_iload 219 W at_217 rfl ?_
    refine o_static 222 [(.ref ya), (.int nA)] W (tw hw 8) (tw hw 9) (tw hw 3) (tw hw 10) (con_st l Z b0 hw ya kya 2 nA [(own_yc (XT.ushr x0 (2 : Int32))), (own_yc (XT.ushr x0 (4 : Int32)))] na rfl (own_chS (own_ycr _) (own_chS (own_ycr _) own_ch0)) hna (by omega) (by simpa using bna) _ W.old Aya cz hcz SC) pd21 at_219 rfl all0 (fun T h v W qq gg => ?_)
    obtain ⟨_, rfl, t1, rfl, Xt1, Et1⟩ := qq
    show Go p e below _ _ (mkF m 222 #[.val (.int x0), .val (.int x1), .val (.int x2), .val (.int x3), .val (.int x4), .val (.ref ya), .val (.int nA), .val (.int (0 : Int32)), .val (.ref yb), .val (.int nB), .val (.ref fa), .val (.int nF), .val (.ref fb), .val (.int nG), .val (.int x1), .val (.int sb), .unset, .unset, .unset, .unset, .unset, .unset, .unset, .unset, .unset] [(.ref t1)])
    have Aya := Aya.ext Et1
    have Ayb := Ayb.ext Et1
    have Afa := Afa.ext Et1
    have Afb := Afb.ext Et1
    refine o_astore 224 W #[.val (.int x0), .val (.int x1), .val (.int x2), .val (.int x3), .val (.int x4), .val (.ref ya), .val (.int nA), .val (.int (0 : Int32)), .val (.ref yb), .val (.int nB), .val (.ref fa), .val (.int nF), .val (.ref fb), .val (.int nG), .val (.int x1), .val (.int sb), .val (.ref t1), .unset, .unset, .unset, .unset, .unset, .unset, .unset, .unset] at_222 rfl rfl ?_
    refine o_new 227 W (tw hw 32) (tw hw 33) (tw hw 34) at_224 (fun T h a W Ea Aa Da ga za => ?_)
    have Pa := Da (Or.inr (tw hw 83)) (ty := (.object "java/lang/String")) (by decide)
    have Qa := Da (Or.inr (tw hw 85)) (ty := .int) (by decide)
    have Ra := Da (Or.inr (tw hw 103)) (ty := (.object "java/lang/String")) (by decide)
    have Aya := Aya.ext Ea
    have Ayb := Ayb.ext Ea
    have Afa := Afa.ext Ea
    have Afb := Afb.ext Ea
    have Xt1 := Xt1.ext Ea
    refine o_dup 228 W at_227 rfl ?_
    refine o_aload 230 W at_228 rfl rfl ?_
    refine o_iload 232 W at_230 rfl ?_
    refine o_aload 234 W at_232 rfl rfl ?_
    refine o_iload 236 W at_234 rfl ?_
    refine o_static 239 [(.ref fa), (.int nF)] W (tw hw 8) (tw hw 9) (tw hw 3) (tw hw 10) (con_st l Z b0 hw fa kfa 3 nF [(own_fc (XT.ushr x3 (2 : Int32))), (own_fc (XT.ushr x3 (4 : Int32))), (own_fc (XT.ushr x3 (6 : Int32)))] nfa rfl (own_chS (own_fcr _) (own_chS (own_fcr _) (own_chS (own_fcr _) own_ch0))) hnfa (by omega) (by simpa using bnfa) _ W.old Afa cz hcz SC) pd21 at_236 rfl all0 (fun T h v W qq gg => ?_)
    obtain ⟨_, rfl, t2, rfl, Xt2, Et2⟩ := qq
    show Go p e below _ _ (mkF m 239 #[.val (.int x0), .val (.int x1), .val (.int x2), .val (.int x3), .val (.int x4), .val (.ref ya), .val (.int nA), .val (.int (0 : Int32)), .val (.ref yb), .val (.int nB), .val (.ref fa), .val (.int nF), .val (.ref fb), .val (.int nG), .val (.int x1), .val (.int sb), .val (.ref t1), .unset, .unset, .unset, .unset, .unset, .unset, .unset, .unset] [(.ref t2), (.int x1), (.ref t1), (.ref a), (.ref a)])
    have Aya := Aya.ext Et2
    have Ayb := Ayb.ext Et2
    have Afa := Afa.ext Et2
    have Afb := Afb.ext Et2
    have Xt1 := Xt1.ext Et2
    have Aa := Aa.ext Et2
    have Pa := Pa.ext Et2
    have Qa := Qa.ext Et2
    have Ra := Ra.ext Et2
    have La := Aa
    refine o_special 242 [(.ref t1), (.int x1), (.ref t2)] W (tw hw 46) (tw hw 47) (tw hw 34) (tw hw 48) (con_xin l Z b0 hw a t1 x1 t2 ([(own_fc (XT.ushr x3 (2 : Int32))), (own_fc (XT.ushr x3 (4 : Int32))), (own_fc (XT.ushr x3 (6 : Int32)))].take nfa) (by rw [own_take_len (cs := [(own_fc (XT.ushr x3 (2 : Int32))), (own_fc (XT.ushr x3 (4 : Int32))), (own_fc (XT.ushr x3 (6 : Int32)))]) (n := nfa) (by simpa using bnfa)]; omega) (own_take_ch (own_chS (own_fcr _) (own_chS (own_fcr _) (own_chS (own_fcr _) own_ch0))) _) _ W.old Xt2 Aa Pa Qa Ra za cz hcz SC vf rf SF) pd22 at_239 rfl all0 (fun T h v W qq gg => ?_)
    obtain ⟨rfl, Ka, Aa, Pa, Qa, foa, Ra, Va⟩ := qq
    show Go p e below _ _ (mkF m 242 #[.val (.int x0), .val (.int x1), .val (.int x2), .val (.int x3), .val (.int x4), .val (.ref ya), .val (.int nA), .val (.int (0 : Int32)), .val (.ref yb), .val (.int nB), .val (.ref fa), .val (.int nF), .val (.ref fb), .val (.int nG), .val (.int x1), .val (.int sb), .val (.ref t1), .unset, .unset, .unset, .unset, .unset, .unset, .unset, .unset] [(.ref a)])
    rw [own_take_len (cs := [(own_fc (XT.ushr x3 (2 : Int32))), (own_fc (XT.ushr x3 (4 : Int32))), (own_fc (XT.ushr x3 (6 : Int32)))]) (n := nfa) (by simpa using bnfa), own_strip_take _ _ _ (Nat.le_refl _), own_sub_take _ _ _ (own_strip_le _ _)] at Va
    have Aya := own_arvkeep Aya La Ka (tw hw 33)
    have Ayb := own_arvkeep Ayb La Ka (tw hw 33)
    have Afa := own_arvkeep Afa La Ka (tw hw 33)
    have Afb := own_arvkeep Afb La Ka (tw hw 33)
    have Xt1 := own_strkeep Xt1 La Ka (tw hw 33) (by decide)
    refine o_astore 244 W #[.val (.int x0), .val (.int x1), .val (.int x2), .val (.int x3), .val (.int x4), .val (.ref ya), .val (.int nA), .val (.int (0 : Int32)), .val (.ref yb), .val (.int nB), .val (.ref fa), .val (.int nF), .val (.ref fb), .val (.int nG), .val (.int x1), .val (.int sb), .val (.ref t1), .val (.ref a), .unset, .unset, .unset, .unset, .unset, .unset, .unset] at_242 rfl rfl ?_
    refine o_new 247 W (tw hw 32) (tw hw 33) (tw hw 34) at_244 (fun T h b W Eb Ab Db gb zb => ?_)
    have Pb := Db (Or.inr (tw hw 83)) (ty := (.object "java/lang/String")) (by decide)
    have Qb := Db (Or.inr (tw hw 85)) (ty := .int) (by decide)
    have Rb := Db (Or.inr (tw hw 103)) (ty := (.object "java/lang/String")) (by decide)
    have nab : a ≠ b := Nat.ne_of_lt (Nat.lt_of_lt_of_le Aa.lt gb)
    have Aya := Aya.ext Eb
    have Ayb := Ayb.ext Eb
    have Afa := Afa.ext Eb
    have Afb := Afb.ext Eb
    have Xt1 := Xt1.ext Eb
    have Aa := Aa.ext Eb
    have Pa := Pa.ext Eb
    have Qa := Qa.ext Eb
    have Ra := Ra.ext Eb
    have Va := Va.ext Eb
    refine o_dup 248 W at_247 rfl ?_
    refine o_aload 250 W at_248 rfl rfl ?_
    refine o_iload 252 W at_250 rfl ?_
    refine o_static 255 [(.ref yb), (.int nB)] W (tw hw 8) (tw hw 9) (tw hw 3) (tw hw 10) (con_st l Z b0 hw yb kyb 2 nB [(own_yc (XT.ushr x0 (9 : Int32))), (own_yc (XT.ushr x0 (11 : Int32)))] nb rfl (own_chS (own_ycr _) (own_chS (own_ycr _) own_ch0)) hnb (by omega) (by simpa using bnb) _ W.old Ayb cz hcz SC) pd21 at_252 rfl all0 (fun T h v W qq gg => ?_)
    obtain ⟨_, rfl, t3, rfl, Xt3, Et3⟩ := qq
    show Go p e below _ _ (mkF m 255 #[.val (.int x0), .val (.int x1), .val (.int x2), .val (.int x3), .val (.int x4), .val (.ref ya), .val (.int nA), .val (.int (0 : Int32)), .val (.ref yb), .val (.int nB), .val (.ref fa), .val (.int nF), .val (.ref fb), .val (.int nG), .val (.int x1), .val (.int sb), .val (.ref t1), .val (.ref a), .unset, .unset, .unset, .unset, .unset, .unset, .unset] [(.ref t3), (.ref b), (.ref b)])
    have Aya := Aya.ext Et3
    have Ayb := Ayb.ext Et3
    have Afa := Afa.ext Et3
    have Afb := Afb.ext Et3
    have Xt1 := Xt1.ext Et3
    have Aa := Aa.ext Et3
    have Pa := Pa.ext Et3
    have Qa := Qa.ext Et3
    have Ra := Ra.ext Et3
    have Va := Va.ext Et3
    have Ab := Ab.ext Et3
    have Pb := Pb.ext Et3
    have Qb := Qb.ext Et3
    have Rb := Rb.ext Et3
    refine o_iload 257 W at_255 rfl ?_
    refine o_aload 259 W at_257 rfl rfl ?_
    refine o_iload 261 W at_259 rfl ?_
    refine o_static 264 [(.ref fb), (.int nG)] W (tw hw 8) (tw hw 9) (tw hw 3) (tw hw 10) (con_st l Z b0 hw fb kfb 3 nG [(own_fc (XT.ushr x4 (2 : Int32))), (own_fc (XT.ushr x4 (4 : Int32))), (own_fc (XT.ushr x4 (6 : Int32)))] nfb rfl (own_chS (own_fcr _) (own_chS (own_fcr _) (own_chS (own_fcr _) own_ch0))) hnfb (by omega) (by simpa using bnfb) _ W.old Afb cz hcz SC) pd21 at_261 rfl all0 (fun T h v W qq gg => ?_)
    obtain ⟨_, rfl, t4, rfl, Xt4, Et4⟩ := qq
    show Go p e below _ _ (mkF m 264 #[.val (.int x0), .val (.int x1), .val (.int x2), .val (.int x3), .val (.int x4), .val (.ref ya), .val (.int nA), .val (.int (0 : Int32)), .val (.ref yb), .val (.int nB), .val (.ref fa), .val (.int nF), .val (.ref fb), .val (.int nG), .val (.int x1), .val (.int sb), .val (.ref t1), .val (.ref a), .unset, .unset, .unset, .unset, .unset, .unset, .unset] [(.ref t4), (.int sb), (.ref t3), (.ref b), (.ref b)])
    have Aya := Aya.ext Et4
    have Ayb := Ayb.ext Et4
    have Afa := Afa.ext Et4
    have Afb := Afb.ext Et4
    have Xt1 := Xt1.ext Et4
    have Aa := Aa.ext Et4
    have Pa := Pa.ext Et4
    have Qa := Qa.ext Et4
    have Ra := Ra.ext Et4
    have Va := Va.ext Et4
    have Ab := Ab.ext Et4
    have Pb := Pb.ext Et4
    have Qb := Qb.ext Et4
    have Rb := Rb.ext Et4
    have Xt3 := Xt3.ext Et4
    have Lb := Ab
    refine o_special 267 [(.ref t3), (.int sb), (.ref t4)] W (tw hw 46) (tw hw 47) (tw hw 34) (tw hw 48) (con_xin l Z b0 hw b t3 sb t4 ([(own_fc (XT.ushr x4 (2 : Int32))), (own_fc (XT.ushr x4 (4 : Int32))), (own_fc (XT.ushr x4 (6 : Int32)))].take nfb) (by rw [own_take_len (cs := [(own_fc (XT.ushr x4 (2 : Int32))), (own_fc (XT.ushr x4 (4 : Int32))), (own_fc (XT.ushr x4 (6 : Int32)))]) (n := nfb) (by simpa using bnfb)]; omega) (own_take_ch (own_chS (own_fcr _) (own_chS (own_fcr _) (own_chS (own_fcr _) own_ch0))) _) _ W.old Xt4 Ab Pb Qb Rb zb cz hcz SC vf rf SF) pd22 at_264 rfl all0 (fun T h v W qq gg => ?_)
    obtain ⟨rfl, Kb, Ab, Pb, Qb, fob, Rb, Vb⟩ := qq
    show Go p e below _ _ (mkF m 267 #[.val (.int x0), .val (.int x1), .val (.int x2), .val (.int x3), .val (.int x4), .val (.ref ya), .val (.int nA), .val (.int (0 : Int32)), .val (.ref yb), .val (.int nB), .val (.ref fa), .val (.int nF), .val (.ref fb), .val (.int nG), .val (.int x1), .val (.int sb), .val (.ref t1), .val (.ref a), .unset, .unset, .unset, .unset, .unset, .unset, .unset] [(.ref b)])
    rw [own_take_len (cs := [(own_fc (XT.ushr x4 (2 : Int32))), (own_fc (XT.ushr x4 (4 : Int32))), (own_fc (XT.ushr x4 (6 : Int32)))]) (n := nfb) (by simpa using bnfb), own_strip_take _ _ _ (Nat.le_refl _), own_sub_take _ _ _ (own_strip_le _ _)] at Vb
    have Aya := own_arvkeep Aya Lb Kb (tw hw 33)
    have Ayb := own_arvkeep Ayb Lb Kb (tw hw 33)
    have Afa := own_arvkeep Afa Lb Kb (tw hw 33)
    have Afb := own_arvkeep Afb Lb Kb (tw hw 33)
    have Xt1 := own_strkeep Xt1 Lb Kb (tw hw 33) (by decide)
    have Aa := Aa.keep Kb
    have Pa := Pa.keep Kb (ninS nab nin0)
    have Qa := Qa.keep Kb (ninS nab nin0)
    have Ra := Ra.keep Kb (ninS nab nin0)
    have Va := own_strkeep Va Lb Kb (tw hw 33) (by decide)
    have Xt3 := own_strkeep Xt3 Lb Kb (tw hw 33) (by decide)
    refine o_astore 269 W #[.val (.int x0), .val (.int x1), .val (.int x2), .val (.int x3), .val (.int x4), .val (.ref ya), .val (.int nA), .val (.int (0 : Int32)), .val (.ref yb), .val (.int nB), .val (.ref fa), .val (.int nF), .val (.ref fb), .val (.int nG), .val (.int x1), .val (.int sb), .val (.ref t1), .val (.ref a), .val (.ref b), .unset, .unset, .unset, .unset, .unset, .unset] at_267 rfl rfl ?_
    have hte : ([(own_yc (XT.ushr x0 (2 : Int32))), (own_yc (XT.ushr x0 (4 : Int32)))].take na = [(own_yc (XT.ushr x0 (9 : Int32))), (own_yc (XT.ushr x0 (11 : Int32)))].take nb) ↔ (nA = nB ∧ (nA < 1 ∨ (own_yc (XT.ushr x0 (2 : Int32))) = (own_yc (XT.ushr x0 (9 : Int32)))) ∧ (nA < 2 ∨ (own_yc (XT.ushr x0 (4 : Int32))) = (own_yc (XT.ushr x0 (11 : Int32))))) := by rw [own_take2 _ _ _ _ _ _ bna bnb, own_eqI hna hnb, own_lteI hna (z := 1) (k := 1) rfl, own_lteI hna (z := 2) (k := 2) rfl]
    refine Go.cutW W (g' := (mkF m 315 #[.val (.int x0), .val (.int x1), .val (.int x2), .val (.int x3), .val (.int x4), .val (.ref ya), .val (.int nA), .val (.int (0 : Int32)), .val (.ref yb), .val (.int nB), .val (.ref fa), .val (.int nF), .val (.ref fb), .val (.int nG), .val (.int x1), .val (.int sb), .val (.ref t1), .val (.ref a), .val (.ref b), .unset, .unset, .unset, .unset, .unset, .unset] [(.int (own_bi (decide ([(own_yc (XT.ushr x0 (2 : Int32))), (own_yc (XT.ushr x0 (4 : Int32)))].take na = [(own_yc (XT.ushr x0 (9 : Int32))), (own_yc (XT.ushr x0 (11 : Int32)))].take nb))))])) (fun J => ?_) (fun T W => ?_)
    · refine o_iload 271 W at_269 rfl ?_
      refine o_iload 273 W at_271 rfl ?_
      refine o_icne 314 276 W at_273 (fun c273 => ?_) (fun c273 => ?_)
      · refine o_iconst 315 W (0) at_314 (by first | rfl | decide) ?_
        exact (J _ W).eq (congrArg (fun z => mkF m 315 #[.val (.int x0), .val (.int x1), .val (.int x2), .val (.int x3), .val (.int x4), .val (.ref ya), .val (.int nA), .val (.int (0 : Int32)), .val (.ref yb), .val (.int nB), .val (.ref fa), .val (.int nF), .val (.ref fb), .val (.int nG), .val (.int x1), .val (.int sb), .val (.ref t1), .val (.ref a), .val (.ref b), .unset, .unset, .unset, .unset, .unset, .unset] [(.int z)]) (by rw [decide_eq_false (fun z => c273 (hte.mp z).1)]; rfl))
      · refine o_iload 278 W at_276 rfl ?_
        refine o_iconst 279 W (1) at_278 (by first | rfl | decide) ?_
        refine o_iclt 293 282 W at_279 (fun c279 => ?_) (fun c279 => ?_)
        · refine o_iload 295 W at_293 rfl ?_
          refine o_iconst 296 W (2) at_295 (by first | rfl | decide) ?_
          refine o_iclt 310 299 W at_296 (fun c296 => ?_) (fun c296 => ?_)
          · refine o_iconst 311 W (1) at_310 (by first | rfl | decide) ?_
            refine o_goto 315 W at_311 ?_
            exact (J _ W).eq (congrArg (fun z => mkF m 315 #[.val (.int x0), .val (.int x1), .val (.int x2), .val (.int x3), .val (.int x4), .val (.ref ya), .val (.int nA), .val (.int (0 : Int32)), .val (.ref yb), .val (.int nB), .val (.ref fa), .val (.int nF), .val (.ref fb), .val (.int nG), .val (.int x1), .val (.int sb), .val (.ref t1), .val (.ref a), .val (.ref b), .unset, .unset, .unset, .unset, .unset, .unset] [(.int z)]) (by rw [decide_eq_true (hte.mpr ⟨c273, Or.inl c279, Or.inl c296⟩)]; rfl))
          · refine o_aload 301 W at_299 rfl rfl ?_
            refine o_iconst 302 W (1) at_301 (by first | rfl | decide) ?_
            refine o_caloadV 303 W Aya (by decide) rfl at_302 ?_
            refine o_aload 305 W at_303 rfl rfl ?_
            refine o_iconst 306 W (1) at_305 (by first | rfl | decide) ?_
            refine o_caloadV 307 W Ayb (by decide) rfl at_306 ?_
            refine o_icne 314 310 W at_307 (fun c307 => ?_) (fun c307 => ?_)
            · refine o_iconst 315 W (0) at_314 (by first | rfl | decide) ?_
              exact (J _ W).eq (congrArg (fun z => mkF m 315 #[.val (.int x0), .val (.int x1), .val (.int x2), .val (.int x3), .val (.int x4), .val (.ref ya), .val (.int nA), .val (.int (0 : Int32)), .val (.ref yb), .val (.int nB), .val (.ref fa), .val (.int nF), .val (.ref fb), .val (.int nG), .val (.int x1), .val (.int sb), .val (.ref t1), .val (.ref a), .val (.ref b), .unset, .unset, .unset, .unset, .unset, .unset] [(.int z)]) (by rw [decide_eq_false (fun z => (hte.mp z).2.2.elim c296 c307)]; rfl))
            · refine o_iconst 311 W (1) at_310 (by first | rfl | decide) ?_
              refine o_goto 315 W at_311 ?_
              exact (J _ W).eq (congrArg (fun z => mkF m 315 #[.val (.int x0), .val (.int x1), .val (.int x2), .val (.int x3), .val (.int x4), .val (.ref ya), .val (.int nA), .val (.int (0 : Int32)), .val (.ref yb), .val (.int nB), .val (.ref fa), .val (.int nF), .val (.ref fb), .val (.int nG), .val (.int x1), .val (.int sb), .val (.ref t1), .val (.ref a), .val (.ref b), .unset, .unset, .unset, .unset, .unset, .unset] [(.int z)]) (by rw [decide_eq_true (hte.mpr ⟨c273, Or.inl c279, Or.inr c307⟩)]; rfl))
        · refine o_aload 284 W at_282 rfl rfl ?_
          refine o_iconst 285 W (0) at_284 (by first | rfl | decide) ?_
          refine o_caloadV 286 W Aya (by decide) rfl at_285 ?_
          refine o_aload 288 W at_286 rfl rfl ?_
          refine o_iconst 289 W (0) at_288 (by first | rfl | decide) ?_
          refine o_caloadV 290 W Ayb (by decide) rfl at_289 ?_
          refine o_icne 314 293 W at_290 (fun c290 => ?_) (fun c290 => ?_)
          · refine o_iconst 315 W (0) at_314 (by first | rfl | decide) ?_
            exact (J _ W).eq (congrArg (fun z => mkF m 315 #[.val (.int x0), .val (.int x1), .val (.int x2), .val (.int x3), .val (.int x4), .val (.ref ya), .val (.int nA), .val (.int (0 : Int32)), .val (.ref yb), .val (.int nB), .val (.ref fa), .val (.int nF), .val (.ref fb), .val (.int nG), .val (.int x1), .val (.int sb), .val (.ref t1), .val (.ref a), .val (.ref b), .unset, .unset, .unset, .unset, .unset, .unset] [(.int z)]) (by rw [decide_eq_false (fun z => (hte.mp z).2.1.elim c279 c290)]; rfl))
          · refine o_iload 295 W at_293 rfl ?_
            refine o_iconst 296 W (2) at_295 (by first | rfl | decide) ?_
            refine o_iclt 310 299 W at_296 (fun c296 => ?_) (fun c296 => ?_)
            · refine o_iconst 311 W (1) at_310 (by first | rfl | decide) ?_
              refine o_goto 315 W at_311 ?_
              exact (J _ W).eq (congrArg (fun z => mkF m 315 #[.val (.int x0), .val (.int x1), .val (.int x2), .val (.int x3), .val (.int x4), .val (.ref ya), .val (.int nA), .val (.int (0 : Int32)), .val (.ref yb), .val (.int nB), .val (.ref fa), .val (.int nF), .val (.ref fb), .val (.int nG), .val (.int x1), .val (.int sb), .val (.ref t1), .val (.ref a), .val (.ref b), .unset, .unset, .unset, .unset, .unset, .unset] [(.int z)]) (by rw [decide_eq_true (hte.mpr ⟨c273, Or.inr c290, Or.inl c296⟩)]; rfl))
            · refine o_aload 301 W at_299 rfl rfl ?_
              refine o_iconst 302 W (1) at_301 (by first | rfl | decide) ?_
              refine o_caloadV 303 W Aya (by decide) rfl at_302 ?_
              refine o_aload 305 W at_303 rfl rfl ?_
              refine o_iconst 306 W (1) at_305 (by first | rfl | decide) ?_
              refine o_caloadV 307 W Ayb (by decide) rfl at_306 ?_
              refine o_icne 314 310 W at_307 (fun c307 => ?_) (fun c307 => ?_)
              · refine o_iconst 315 W (0) at_314 (by first | rfl | decide) ?_
                exact (J _ W).eq (congrArg (fun z => mkF m 315 #[.val (.int x0), .val (.int x1), .val (.int x2), .val (.int x3), .val (.int x4), .val (.ref ya), .val (.int nA), .val (.int (0 : Int32)), .val (.ref yb), .val (.int nB), .val (.ref fa), .val (.int nF), .val (.ref fb), .val (.int nG), .val (.int x1), .val (.int sb), .val (.ref t1), .val (.ref a), .val (.ref b), .unset, .unset, .unset, .unset, .unset, .unset] [(.int z)]) (by rw [decide_eq_false (fun z => (hte.mp z).2.2.elim c296 c307)]; rfl))
              · refine o_iconst 311 W (1) at_310 (by first | rfl | decide) ?_
                refine o_goto 315 W at_311 ?_
                exact (J _ W).eq (congrArg (fun z => mkF m 315 #[.val (.int x0), .val (.int x1), .val (.int x2), .val (.int x3), .val (.int x4), .val (.ref ya), .val (.int nA), .val (.int (0 : Int32)), .val (.ref yb), .val (.int nB), .val (.ref fa), .val (.int nF), .val (.ref fb), .val (.int nG), .val (.int x1), .val (.int sb), .val (.ref t1), .val (.ref a), .val (.ref b), .unset, .unset, .unset, .unset, .unset, .unset] [(.int z)]) (by rw [decide_eq_true (hte.mpr ⟨c273, Or.inr c290, Or.inr c307⟩)]; rfl))
    refine o_istore 317 W #[.val (.int x0), .val (.int x1), .val (.int x2), .val (.int x3), .val (.int x4), .val (.ref ya), .val (.int nA), .val (.int (0 : Int32)), .val (.ref yb), .val (.int nB), .val (.ref fa), .val (.int nF), .val (.ref fb), .val (.int nG), .val (.int x1), .val (.int sb), .val (.ref t1), .val (.ref a), .val (.ref b), .val (.int (own_bi (decide ([(own_yc (XT.ushr x0 (2 : Int32))), (own_yc (XT.ushr x0 (4 : Int32)))].take na = [(own_yc (XT.ushr x0 (9 : Int32))), (own_yc (XT.ushr x0 (11 : Int32)))].take nb)))), .unset, .unset, .unset, .unset, .unset] at_315 rfl ?_
    refine o_aload 319 W at_317 rfl rfl ?_
    refine o_iload 321 W at_319 rfl ?_
    refine o_static 324 [(.ref fa), (.int nF)] W (tw hw 104) (tw hw 105) (tw hw 3) (tw hw 106) (con_stp l Z b0 hw fa kfa nF [(own_fc (XT.ushr x3 (2 : Int32))), (own_fc (XT.ushr x3 (4 : Int32))), (own_fc (XT.ushr x3 (6 : Int32)))] nfa rfl hnfa bnfa _ W.old Afa) pd23 at_321 rfl all0 (fun T h v W qq gg => ?_)
    obtain ⟨_, rfl, vA, rfl, hvA, rfl⟩ := qq
    show Go p e below _ _ (mkF m 324 #[.val (.int x0), .val (.int x1), .val (.int x2), .val (.int x3), .val (.int x4), .val (.ref ya), .val (.int nA), .val (.int (0 : Int32)), .val (.ref yb), .val (.int nB), .val (.ref fa), .val (.int nF), .val (.ref fb), .val (.int nG), .val (.int x1), .val (.int sb), .val (.ref t1), .val (.ref a), .val (.ref b), .val (.int (own_bi (decide ([(own_yc (XT.ushr x0 (2 : Int32))), (own_yc (XT.ushr x0 (4 : Int32)))].take na = [(own_yc (XT.ushr x0 (9 : Int32))), (own_yc (XT.ushr x0 (11 : Int32)))].take nb)))), .unset, .unset, .unset, .unset, .unset] [(.int vA)])
    refine o_istore 326 W #[.val (.int x0), .val (.int x1), .val (.int x2), .val (.int x3), .val (.int x4), .val (.ref ya), .val (.int nA), .val (.int (0 : Int32)), .val (.ref yb), .val (.int nB), .val (.ref fa), .val (.int nF), .val (.ref fb), .val (.int nG), .val (.int x1), .val (.int sb), .val (.ref t1), .val (.ref a), .val (.ref b), .val (.int (own_bi (decide ([(own_yc (XT.ushr x0 (2 : Int32))), (own_yc (XT.ushr x0 (4 : Int32)))].take na = [(own_yc (XT.ushr x0 (9 : Int32))), (own_yc (XT.ushr x0 (11 : Int32)))].take nb)))), .val (.int vA), .unset, .unset, .unset, .unset] at_324 rfl ?_
    refine o_aload 328 W at_326 rfl rfl ?_
    refine o_iload 330 W at_328 rfl ?_
    refine o_static 333 [(.ref fb), (.int nG)] W (tw hw 104) (tw hw 105) (tw hw 3) (tw hw 106) (con_stp l Z b0 hw fb kfb nG [(own_fc (XT.ushr x4 (2 : Int32))), (own_fc (XT.ushr x4 (4 : Int32))), (own_fc (XT.ushr x4 (6 : Int32)))] nfb rfl hnfb bnfb _ W.old Afb) pd23 at_330 rfl all0 (fun T h v W qq gg => ?_)
    obtain ⟨_, rfl, vB, rfl, hvB, rfl⟩ := qq
    show Go p e below _ _ (mkF m 333 #[.val (.int x0), .val (.int x1), .val (.int x2), .val (.int x3), .val (.int x4), .val (.ref ya), .val (.int nA), .val (.int (0 : Int32)), .val (.ref yb), .val (.int nB), .val (.ref fa), .val (.int nF), .val (.ref fb), .val (.int nG), .val (.int x1), .val (.int sb), .val (.ref t1), .val (.ref a), .val (.ref b), .val (.int (own_bi (decide ([(own_yc (XT.ushr x0 (2 : Int32))), (own_yc (XT.ushr x0 (4 : Int32)))].take na = [(own_yc (XT.ushr x0 (9 : Int32))), (own_yc (XT.ushr x0 (11 : Int32)))].take nb)))), .val (.int vA), .unset, .unset, .unset, .unset] [(.int vB)])
    refine o_istore 335 W #[.val (.int x0), .val (.int x1), .val (.int x2), .val (.int x3), .val (.int x4), .val (.ref ya), .val (.int nA), .val (.int (0 : Int32)), .val (.ref yb), .val (.int nB), .val (.ref fa), .val (.int nF), .val (.ref fb), .val (.int nG), .val (.int x1), .val (.int sb), .val (.ref t1), .val (.ref a), .val (.ref b), .val (.int (own_bi (decide ([(own_yc (XT.ushr x0 (2 : Int32))), (own_yc (XT.ushr x0 (4 : Int32)))].take na = [(own_yc (XT.ushr x0 (9 : Int32))), (own_yc (XT.ushr x0 (11 : Int32)))].take nb)))), .val (.int vA), .val (.int vB), .unset, .unset, .unset] at_333 rfl ?_
    have bA := Nat.le_trans (own_strip_le [(own_fc (XT.ushr x3 (2 : Int32))), (own_fc (XT.ushr x3 (4 : Int32))), (own_fc (XT.ushr x3 (6 : Int32)))] nfa) bnfa
    have bB := Nat.le_trans (own_strip_le [(own_fc (XT.ushr x4 (2 : Int32))), (own_fc (XT.ushr x4 (4 : Int32))), (own_fc (XT.ushr x4 (6 : Int32)))] nfb) bnfb
    generalize own_strip [(own_fc (XT.ushr x3 (2 : Int32))), (own_fc (XT.ushr x3 (4 : Int32))), (own_fc (XT.ushr x3 (6 : Int32)))] nfa = kA at hvA bA Va
    generalize own_strip [(own_fc (XT.ushr x4 (2 : Int32))), (own_fc (XT.ushr x4 (4 : Int32))), (own_fc (XT.ushr x4 (6 : Int32)))] nfb = kB at hvB bB Vb
    have htf : ([(own_fc (XT.ushr x3 (2 : Int32))), (own_fc (XT.ushr x3 (4 : Int32))), (own_fc (XT.ushr x3 (6 : Int32)))].take kA = [(own_fc (XT.ushr x4 (2 : Int32))), (own_fc (XT.ushr x4 (4 : Int32))), (own_fc (XT.ushr x4 (6 : Int32)))].take kB) ↔ (vA = vB ∧ (vA < 1 ∨ (own_fc (XT.ushr x3 (2 : Int32))) = (own_fc (XT.ushr x4 (2 : Int32)))) ∧ (vA < 2 ∨ (own_fc (XT.ushr x3 (4 : Int32))) = (own_fc (XT.ushr x4 (4 : Int32)))) ∧ (vA < 3 ∨ (own_fc (XT.ushr x3 (6 : Int32))) = (own_fc (XT.ushr x4 (6 : Int32))))) := by rw [own_take3 _ _ _ _ _ _ _ _ bA bB, own_eqI hvA hvB, own_lteI hvA (z := 1) (k := 1) rfl, own_lteI hvA (z := 2) (k := 2) rfl, own_lteI hvA (z := 3) (k := 3) rfl]
    refine Go.cutW W (g' := (mkF m 398 #[.val (.int x0), .val (.int x1), .val (.int x2), .val (.int x3), .val (.int x4), .val (.ref ya), .val (.int nA), .val (.int (0 : Int32)), .val (.ref yb), .val (.int nB), .val (.ref fa), .val (.int nF), .val (.ref fb), .val (.int nG), .val (.int x1), .val (.int sb), .val (.ref t1), .val (.ref a), .val (.ref b), .val (.int (own_bi (decide ([(own_yc (XT.ushr x0 (2 : Int32))), (own_yc (XT.ushr x0 (4 : Int32)))].take na = [(own_yc (XT.ushr x0 (9 : Int32))), (own_yc (XT.ushr x0 (11 : Int32)))].take nb)))), .val (.int vA), .val (.int vB), .unset, .unset, .unset] [(.int (own_bi (decide ([(own_fc (XT.ushr x3 (2 : Int32))), (own_fc (XT.ushr x3 (4 : Int32))), (own_fc (XT.ushr x3 (6 : Int32)))].take kA = [(own_fc (XT.ushr x4 (2 : Int32))), (own_fc (XT.ushr x4 (4 : Int32))), (own_fc (XT.ushr x4 (6 : Int32)))].take kB))))])) (fun J => ?_) (fun T W => ?_)
    · refine o_iload 337 W at_335 rfl ?_
      refine o_iload 339 W at_337 rfl ?_
      refine o_icne 397 342 W at_339 (fun c339 => ?_) (fun c339 => ?_)
      · refine o_iconst 398 W (0) at_397 (by first | rfl | decide) ?_
        exact (J _ W).eq (congrArg (fun z => mkF m 398 #[.val (.int x0), .val (.int x1), .val (.int x2), .val (.int x3), .val (.int x4), .val (.ref ya), .val (.int nA), .val (.int (0 : Int32)), .val (.ref yb), .val (.int nB), .val (.ref fa), .val (.int nF), .val (.ref fb), .val (.int nG), .val (.int x1), .val (.int sb), .val (.ref t1), .val (.ref a), .val (.ref b), .val (.int (own_bi (decide ([(own_yc (XT.ushr x0 (2 : Int32))), (own_yc (XT.ushr x0 (4 : Int32)))].take na = [(own_yc (XT.ushr x0 (9 : Int32))), (own_yc (XT.ushr x0 (11 : Int32)))].take nb)))), .val (.int vA), .val (.int vB), .unset, .unset, .unset] [(.int z)]) (by rw [decide_eq_false (fun z => c339 (htf.mp z).1)]; rfl))
      · refine o_iload 344 W at_342 rfl ?_
        refine o_iconst 345 W (1) at_344 (by first | rfl | decide) ?_
        refine o_iclt 359 348 W at_345 (fun c345 => ?_) (fun c345 => ?_)
        · refine o_iload 361 W at_359 rfl ?_
          refine o_iconst 362 W (2) at_361 (by first | rfl | decide) ?_
          refine o_iclt 376 365 W at_362 (fun c362 => ?_) (fun c362 => ?_)
          · refine o_iload 378 W at_376 rfl ?_
            refine o_iconst 379 W (3) at_378 (by first | rfl | decide) ?_
            refine o_iclt 393 382 W at_379 (fun c379 => ?_) (fun c379 => ?_)
            · refine o_iconst 394 W (1) at_393 (by first | rfl | decide) ?_
              refine o_goto 398 W at_394 ?_
              exact (J _ W).eq (congrArg (fun z => mkF m 398 #[.val (.int x0), .val (.int x1), .val (.int x2), .val (.int x3), .val (.int x4), .val (.ref ya), .val (.int nA), .val (.int (0 : Int32)), .val (.ref yb), .val (.int nB), .val (.ref fa), .val (.int nF), .val (.ref fb), .val (.int nG), .val (.int x1), .val (.int sb), .val (.ref t1), .val (.ref a), .val (.ref b), .val (.int (own_bi (decide ([(own_yc (XT.ushr x0 (2 : Int32))), (own_yc (XT.ushr x0 (4 : Int32)))].take na = [(own_yc (XT.ushr x0 (9 : Int32))), (own_yc (XT.ushr x0 (11 : Int32)))].take nb)))), .val (.int vA), .val (.int vB), .unset, .unset, .unset] [(.int z)]) (by rw [decide_eq_true (htf.mpr ⟨c339, Or.inl c345, Or.inl c362, Or.inl c379⟩)]; rfl))
            · refine o_aload 384 W at_382 rfl rfl ?_
              refine o_iconst 385 W (2) at_384 (by first | rfl | decide) ?_
              refine o_caloadV 386 W Afa (by decide) rfl at_385 ?_
              refine o_aload 388 W at_386 rfl rfl ?_
              refine o_iconst 389 W (2) at_388 (by first | rfl | decide) ?_
              refine o_caloadV 390 W Afb (by decide) rfl at_389 ?_
              refine o_icne 397 393 W at_390 (fun c390 => ?_) (fun c390 => ?_)
              · refine o_iconst 398 W (0) at_397 (by first | rfl | decide) ?_
                exact (J _ W).eq (congrArg (fun z => mkF m 398 #[.val (.int x0), .val (.int x1), .val (.int x2), .val (.int x3), .val (.int x4), .val (.ref ya), .val (.int nA), .val (.int (0 : Int32)), .val (.ref yb), .val (.int nB), .val (.ref fa), .val (.int nF), .val (.ref fb), .val (.int nG), .val (.int x1), .val (.int sb), .val (.ref t1), .val (.ref a), .val (.ref b), .val (.int (own_bi (decide ([(own_yc (XT.ushr x0 (2 : Int32))), (own_yc (XT.ushr x0 (4 : Int32)))].take na = [(own_yc (XT.ushr x0 (9 : Int32))), (own_yc (XT.ushr x0 (11 : Int32)))].take nb)))), .val (.int vA), .val (.int vB), .unset, .unset, .unset] [(.int z)]) (by rw [decide_eq_false (fun z => (htf.mp z).2.2.2.elim c379 c390)]; rfl))
              · refine o_iconst 394 W (1) at_393 (by first | rfl | decide) ?_
                refine o_goto 398 W at_394 ?_
                exact (J _ W).eq (congrArg (fun z => mkF m 398 #[.val (.int x0), .val (.int x1), .val (.int x2), .val (.int x3), .val (.int x4), .val (.ref ya), .val (.int nA), .val (.int (0 : Int32)), .val (.ref yb), .val (.int nB), .val (.ref fa), .val (.int nF), .val (.ref fb), .val (.int nG), .val (.int x1), .val (.int sb), .val (.ref t1), .val (.ref a), .val (.ref b), .val (.int (own_bi (decide ([(own_yc (XT.ushr x0 (2 : Int32))), (own_yc (XT.ushr x0 (4 : Int32)))].take na = [(own_yc (XT.ushr x0 (9 : Int32))), (own_yc (XT.ushr x0 (11 : Int32)))].take nb)))), .val (.int vA), .val (.int vB), .unset, .unset, .unset] [(.int z)]) (by rw [decide_eq_true (htf.mpr ⟨c339, Or.inl c345, Or.inl c362, Or.inr c390⟩)]; rfl))
          · refine o_aload 367 W at_365 rfl rfl ?_
            refine o_iconst 368 W (1) at_367 (by first | rfl | decide) ?_
            refine o_caloadV 369 W Afa (by decide) rfl at_368 ?_
            refine o_aload 371 W at_369 rfl rfl ?_
            refine o_iconst 372 W (1) at_371 (by first | rfl | decide) ?_
            refine o_caloadV 373 W Afb (by decide) rfl at_372 ?_
            refine o_icne 397 376 W at_373 (fun c373 => ?_) (fun c373 => ?_)
            · refine o_iconst 398 W (0) at_397 (by first | rfl | decide) ?_
              exact (J _ W).eq (congrArg (fun z => mkF m 398 #[.val (.int x0), .val (.int x1), .val (.int x2), .val (.int x3), .val (.int x4), .val (.ref ya), .val (.int nA), .val (.int (0 : Int32)), .val (.ref yb), .val (.int nB), .val (.ref fa), .val (.int nF), .val (.ref fb), .val (.int nG), .val (.int x1), .val (.int sb), .val (.ref t1), .val (.ref a), .val (.ref b), .val (.int (own_bi (decide ([(own_yc (XT.ushr x0 (2 : Int32))), (own_yc (XT.ushr x0 (4 : Int32)))].take na = [(own_yc (XT.ushr x0 (9 : Int32))), (own_yc (XT.ushr x0 (11 : Int32)))].take nb)))), .val (.int vA), .val (.int vB), .unset, .unset, .unset] [(.int z)]) (by rw [decide_eq_false (fun z => (htf.mp z).2.2.1.elim c362 c373)]; rfl))
            · refine o_iload 378 W at_376 rfl ?_
              refine o_iconst 379 W (3) at_378 (by first | rfl | decide) ?_
              refine o_iclt 393 382 W at_379 (fun c379 => ?_) (fun c379 => ?_)
              · refine o_iconst 394 W (1) at_393 (by first | rfl | decide) ?_
                refine o_goto 398 W at_394 ?_
                exact (J _ W).eq (congrArg (fun z => mkF m 398 #[.val (.int x0), .val (.int x1), .val (.int x2), .val (.int x3), .val (.int x4), .val (.ref ya), .val (.int nA), .val (.int (0 : Int32)), .val (.ref yb), .val (.int nB), .val (.ref fa), .val (.int nF), .val (.ref fb), .val (.int nG), .val (.int x1), .val (.int sb), .val (.ref t1), .val (.ref a), .val (.ref b), .val (.int (own_bi (decide ([(own_yc (XT.ushr x0 (2 : Int32))), (own_yc (XT.ushr x0 (4 : Int32)))].take na = [(own_yc (XT.ushr x0 (9 : Int32))), (own_yc (XT.ushr x0 (11 : Int32)))].take nb)))), .val (.int vA), .val (.int vB), .unset, .unset, .unset] [(.int z)]) (by rw [decide_eq_true (htf.mpr ⟨c339, Or.inl c345, Or.inr c373, Or.inl c379⟩)]; rfl))
              · refine o_aload 384 W at_382 rfl rfl ?_
                refine o_iconst 385 W (2) at_384 (by first | rfl | decide) ?_
                refine o_caloadV 386 W Afa (by decide) rfl at_385 ?_
                refine o_aload 388 W at_386 rfl rfl ?_
                refine o_iconst 389 W (2) at_388 (by first | rfl | decide) ?_
                refine o_caloadV 390 W Afb (by decide) rfl at_389 ?_
                refine o_icne 397 393 W at_390 (fun c390 => ?_) (fun c390 => ?_)
                · refine o_iconst 398 W (0) at_397 (by first | rfl | decide) ?_
                  exact (J _ W).eq (congrArg (fun z => mkF m 398 #[.val (.int x0), .val (.int x1), .val (.int x2), .val (.int x3), .val (.int x4), .val (.ref ya), .val (.int nA), .val (.int (0 : Int32)), .val (.ref yb), .val (.int nB), .val (.ref fa), .val (.int nF), .val (.ref fb), .val (.int nG), .val (.int x1), .val (.int sb), .val (.ref t1), .val (.ref a), .val (.ref b), .val (.int (own_bi (decide ([(own_yc (XT.ushr x0 (2 : Int32))), (own_yc (XT.ushr x0 (4 : Int32)))].take na = [(own_yc (XT.ushr x0 (9 : Int32))), (own_yc (XT.ushr x0 (11 : Int32)))].take nb)))), .val (.int vA), .val (.int vB), .unset, .unset, .unset] [(.int z)]) (by rw [decide_eq_false (fun z => (htf.mp z).2.2.2.elim c379 c390)]; rfl))
                · refine o_iconst 394 W (1) at_393 (by first | rfl | decide) ?_
                  refine o_goto 398 W at_394 ?_
                  exact (J _ W).eq (congrArg (fun z => mkF m 398 #[.val (.int x0), .val (.int x1), .val (.int x2), .val (.int x3), .val (.int x4), .val (.ref ya), .val (.int nA), .val (.int (0 : Int32)), .val (.ref yb), .val (.int nB), .val (.ref fa), .val (.int nF), .val (.ref fb), .val (.int nG), .val (.int x1), .val (.int sb), .val (.ref t1), .val (.ref a), .val (.ref b), .val (.int (own_bi (decide ([(own_yc (XT.ushr x0 (2 : Int32))), (own_yc (XT.ushr x0 (4 : Int32)))].take na = [(own_yc (XT.ushr x0 (9 : Int32))), (own_yc (XT.ushr x0 (11 : Int32)))].take nb)))), .val (.int vA), .val (.int vB), .unset, .unset, .unset] [(.int z)]) (by rw [decide_eq_true (htf.mpr ⟨c339, Or.inl c345, Or.inr c373, Or.inr c390⟩)]; rfl))
        · refine o_aload 350 W at_348 rfl rfl ?_
          refine o_iconst 351 W (0) at_350 (by first | rfl | decide) ?_
          refine o_caloadV 352 W Afa (by decide) rfl at_351 ?_
          refine o_aload 354 W at_352 rfl rfl ?_
          refine o_iconst 355 W (0) at_354 (by first | rfl | decide) ?_
          refine o_caloadV 356 W Afb (by decide) rfl at_355 ?_
          refine o_icne 397 359 W at_356 (fun c356 => ?_) (fun c356 => ?_)
          · refine o_iconst 398 W (0) at_397 (by first | rfl | decide) ?_
            exact (J _ W).eq (congrArg (fun z => mkF m 398 #[.val (.int x0), .val (.int x1), .val (.int x2), .val (.int x3), .val (.int x4), .val (.ref ya), .val (.int nA), .val (.int (0 : Int32)), .val (.ref yb), .val (.int nB), .val (.ref fa), .val (.int nF), .val (.ref fb), .val (.int nG), .val (.int x1), .val (.int sb), .val (.ref t1), .val (.ref a), .val (.ref b), .val (.int (own_bi (decide ([(own_yc (XT.ushr x0 (2 : Int32))), (own_yc (XT.ushr x0 (4 : Int32)))].take na = [(own_yc (XT.ushr x0 (9 : Int32))), (own_yc (XT.ushr x0 (11 : Int32)))].take nb)))), .val (.int vA), .val (.int vB), .unset, .unset, .unset] [(.int z)]) (by rw [decide_eq_false (fun z => (htf.mp z).2.1.elim c345 c356)]; rfl))
          · refine o_iload 361 W at_359 rfl ?_
            refine o_iconst 362 W (2) at_361 (by first | rfl | decide) ?_
            refine o_iclt 376 365 W at_362 (fun c362 => ?_) (fun c362 => ?_)
            · refine o_iload 378 W at_376 rfl ?_
              refine o_iconst 379 W (3) at_378 (by first | rfl | decide) ?_
              refine o_iclt 393 382 W at_379 (fun c379 => ?_) (fun c379 => ?_)
              · refine o_iconst 394 W (1) at_393 (by first | rfl | decide) ?_
                refine o_goto 398 W at_394 ?_
                exact (J _ W).eq (congrArg (fun z => mkF m 398 #[.val (.int x0), .val (.int x1), .val (.int x2), .val (.int x3), .val (.int x4), .val (.ref ya), .val (.int nA), .val (.int (0 : Int32)), .val (.ref yb), .val (.int nB), .val (.ref fa), .val (.int nF), .val (.ref fb), .val (.int nG), .val (.int x1), .val (.int sb), .val (.ref t1), .val (.ref a), .val (.ref b), .val (.int (own_bi (decide ([(own_yc (XT.ushr x0 (2 : Int32))), (own_yc (XT.ushr x0 (4 : Int32)))].take na = [(own_yc (XT.ushr x0 (9 : Int32))), (own_yc (XT.ushr x0 (11 : Int32)))].take nb)))), .val (.int vA), .val (.int vB), .unset, .unset, .unset] [(.int z)]) (by rw [decide_eq_true (htf.mpr ⟨c339, Or.inr c356, Or.inl c362, Or.inl c379⟩)]; rfl))
              · refine o_aload 384 W at_382 rfl rfl ?_
                refine o_iconst 385 W (2) at_384 (by first | rfl | decide) ?_
                refine o_caloadV 386 W Afa (by decide) rfl at_385 ?_
                refine o_aload 388 W at_386 rfl rfl ?_
                refine o_iconst 389 W (2) at_388 (by first | rfl | decide) ?_
                refine o_caloadV 390 W Afb (by decide) rfl at_389 ?_
                refine o_icne 397 393 W at_390 (fun c390 => ?_) (fun c390 => ?_)
                · refine o_iconst 398 W (0) at_397 (by first | rfl | decide) ?_
                  exact (J _ W).eq (congrArg (fun z => mkF m 398 #[.val (.int x0), .val (.int x1), .val (.int x2), .val (.int x3), .val (.int x4), .val (.ref ya), .val (.int nA), .val (.int (0 : Int32)), .val (.ref yb), .val (.int nB), .val (.ref fa), .val (.int nF), .val (.ref fb), .val (.int nG), .val (.int x1), .val (.int sb), .val (.ref t1), .val (.ref a), .val (.ref b), .val (.int (own_bi (decide ([(own_yc (XT.ushr x0 (2 : Int32))), (own_yc (XT.ushr x0 (4 : Int32)))].take na = [(own_yc (XT.ushr x0 (9 : Int32))), (own_yc (XT.ushr x0 (11 : Int32)))].take nb)))), .val (.int vA), .val (.int vB), .unset, .unset, .unset] [(.int z)]) (by rw [decide_eq_false (fun z => (htf.mp z).2.2.2.elim c379 c390)]; rfl))
                · refine o_iconst 394 W (1) at_393 (by first | rfl | decide) ?_
                  refine o_goto 398 W at_394 ?_
                  exact (J _ W).eq (congrArg (fun z => mkF m 398 #[.val (.int x0), .val (.int x1), .val (.int x2), .val (.int x3), .val (.int x4), .val (.ref ya), .val (.int nA), .val (.int (0 : Int32)), .val (.ref yb), .val (.int nB), .val (.ref fa), .val (.int nF), .val (.ref fb), .val (.int nG), .val (.int x1), .val (.int sb), .val (.ref t1), .val (.ref a), .val (.ref b), .val (.int (own_bi (decide ([(own_yc (XT.ushr x0 (2 : Int32))), (own_yc (XT.ushr x0 (4 : Int32)))].take na = [(own_yc (XT.ushr x0 (9 : Int32))), (own_yc (XT.ushr x0 (11 : Int32)))].take nb)))), .val (.int vA), .val (.int vB), .unset, .unset, .unset] [(.int z)]) (by rw [decide_eq_true (htf.mpr ⟨c339, Or.inr c356, Or.inl c362, Or.inr c390⟩)]; rfl))
            · refine o_aload 367 W at_365 rfl rfl ?_
              refine o_iconst 368 W (1) at_367 (by first | rfl | decide) ?_
              refine o_caloadV 369 W Afa (by decide) rfl at_368 ?_
              refine o_aload 371 W at_369 rfl rfl ?_
              refine o_iconst 372 W (1) at_371 (by first | rfl | decide) ?_
              refine o_caloadV 373 W Afb (by decide) rfl at_372 ?_
              refine o_icne 397 376 W at_373 (fun c373 => ?_) (fun c373 => ?_)
              · refine o_iconst 398 W (0) at_397 (by first | rfl | decide) ?_
                exact (J _ W).eq (congrArg (fun z => mkF m 398 #[.val (.int x0), .val (.int x1), .val (.int x2), .val (.int x3), .val (.int x4), .val (.ref ya), .val (.int nA), .val (.int (0 : Int32)), .val (.ref yb), .val (.int nB), .val (.ref fa), .val (.int nF), .val (.ref fb), .val (.int nG), .val (.int x1), .val (.int sb), .val (.ref t1), .val (.ref a), .val (.ref b), .val (.int (own_bi (decide ([(own_yc (XT.ushr x0 (2 : Int32))), (own_yc (XT.ushr x0 (4 : Int32)))].take na = [(own_yc (XT.ushr x0 (9 : Int32))), (own_yc (XT.ushr x0 (11 : Int32)))].take nb)))), .val (.int vA), .val (.int vB), .unset, .unset, .unset] [(.int z)]) (by rw [decide_eq_false (fun z => (htf.mp z).2.2.1.elim c362 c373)]; rfl))
              · refine o_iload 378 W at_376 rfl ?_
                refine o_iconst 379 W (3) at_378 (by first | rfl | decide) ?_
                refine o_iclt 393 382 W at_379 (fun c379 => ?_) (fun c379 => ?_)
                · refine o_iconst 394 W (1) at_393 (by first | rfl | decide) ?_
                  refine o_goto 398 W at_394 ?_
                  exact (J _ W).eq (congrArg (fun z => mkF m 398 #[.val (.int x0), .val (.int x1), .val (.int x2), .val (.int x3), .val (.int x4), .val (.ref ya), .val (.int nA), .val (.int (0 : Int32)), .val (.ref yb), .val (.int nB), .val (.ref fa), .val (.int nF), .val (.ref fb), .val (.int nG), .val (.int x1), .val (.int sb), .val (.ref t1), .val (.ref a), .val (.ref b), .val (.int (own_bi (decide ([(own_yc (XT.ushr x0 (2 : Int32))), (own_yc (XT.ushr x0 (4 : Int32)))].take na = [(own_yc (XT.ushr x0 (9 : Int32))), (own_yc (XT.ushr x0 (11 : Int32)))].take nb)))), .val (.int vA), .val (.int vB), .unset, .unset, .unset] [(.int z)]) (by rw [decide_eq_true (htf.mpr ⟨c339, Or.inr c356, Or.inr c373, Or.inl c379⟩)]; rfl))
                · refine o_aload 384 W at_382 rfl rfl ?_
                  refine o_iconst 385 W (2) at_384 (by first | rfl | decide) ?_
                  refine o_caloadV 386 W Afa (by decide) rfl at_385 ?_
                  refine o_aload 388 W at_386 rfl rfl ?_
                  refine o_iconst 389 W (2) at_388 (by first | rfl | decide) ?_
                  refine o_caloadV 390 W Afb (by decide) rfl at_389 ?_
                  refine o_icne 397 393 W at_390 (fun c390 => ?_) (fun c390 => ?_)
                  · refine o_iconst 398 W (0) at_397 (by first | rfl | decide) ?_
                    exact (J _ W).eq (congrArg (fun z => mkF m 398 #[.val (.int x0), .val (.int x1), .val (.int x2), .val (.int x3), .val (.int x4), .val (.ref ya), .val (.int nA), .val (.int (0 : Int32)), .val (.ref yb), .val (.int nB), .val (.ref fa), .val (.int nF), .val (.ref fb), .val (.int nG), .val (.int x1), .val (.int sb), .val (.ref t1), .val (.ref a), .val (.ref b), .val (.int (own_bi (decide ([(own_yc (XT.ushr x0 (2 : Int32))), (own_yc (XT.ushr x0 (4 : Int32)))].take na = [(own_yc (XT.ushr x0 (9 : Int32))), (own_yc (XT.ushr x0 (11 : Int32)))].take nb)))), .val (.int vA), .val (.int vB), .unset, .unset, .unset] [(.int z)]) (by rw [decide_eq_false (fun z => (htf.mp z).2.2.2.elim c379 c390)]; rfl))
                  · refine o_iconst 394 W (1) at_393 (by first | rfl | decide) ?_
                    refine o_goto 398 W at_394 ?_
                    exact (J _ W).eq (congrArg (fun z => mkF m 398 #[.val (.int x0), .val (.int x1), .val (.int x2), .val (.int x3), .val (.int x4), .val (.ref ya), .val (.int nA), .val (.int (0 : Int32)), .val (.ref yb), .val (.int nB), .val (.ref fa), .val (.int nF), .val (.ref fb), .val (.int nG), .val (.int x1), .val (.int sb), .val (.ref t1), .val (.ref a), .val (.ref b), .val (.int (own_bi (decide ([(own_yc (XT.ushr x0 (2 : Int32))), (own_yc (XT.ushr x0 (4 : Int32)))].take na = [(own_yc (XT.ushr x0 (9 : Int32))), (own_yc (XT.ushr x0 (11 : Int32)))].take nb)))), .val (.int vA), .val (.int vB), .unset, .unset, .unset] [(.int z)]) (by rw [decide_eq_true (htf.mpr ⟨c339, Or.inr c356, Or.inr c373, Or.inr c390⟩)]; rfl))
    refine o_istore 400 W #[.val (.int x0), .val (.int x1), .val (.int x2), .val (.int x3), .val (.int x4), .val (.ref ya), .val (.int nA), .val (.int (0 : Int32)), .val (.ref yb), .val (.int nB), .val (.ref fa), .val (.int nF), .val (.ref fb), .val (.int nG), .val (.int x1), .val (.int sb), .val (.ref t1), .val (.ref a), .val (.ref b), .val (.int (own_bi (decide ([(own_yc (XT.ushr x0 (2 : Int32))), (own_yc (XT.ushr x0 (4 : Int32)))].take na = [(own_yc (XT.ushr x0 (9 : Int32))), (own_yc (XT.ushr x0 (11 : Int32)))].take nb)))), .val (.int vA), .val (.int vB), .val (.int (own_bi (decide ([(own_fc (XT.ushr x3 (2 : Int32))), (own_fc (XT.ushr x3 (4 : Int32))), (own_fc (XT.ushr x3 (6 : Int32)))].take kA = [(own_fc (XT.ushr x4 (2 : Int32))), (own_fc (XT.ushr x4 (4 : Int32))), (own_fc (XT.ushr x4 (6 : Int32)))].take kB)))), .unset, .unset] at_398 rfl ?_
    refine Go.cutW W (g' := (mkF m 422 #[.val (.int x0), .val (.int x1), .val (.int x2), .val (.int x3), .val (.int x4), .val (.ref ya), .val (.int nA), .val (.int (0 : Int32)), .val (.ref yb), .val (.int nB), .val (.ref fa), .val (.int nF), .val (.ref fb), .val (.int nG), .val (.int x1), .val (.int sb), .val (.ref t1), .val (.ref a), .val (.ref b), .val (.int (own_bi (decide ([(own_yc (XT.ushr x0 (2 : Int32))), (own_yc (XT.ushr x0 (4 : Int32)))].take na = [(own_yc (XT.ushr x0 (9 : Int32))), (own_yc (XT.ushr x0 (11 : Int32)))].take nb)))), .val (.int vA), .val (.int vB), .val (.int (own_bi (decide ([(own_fc (XT.ushr x3 (2 : Int32))), (own_fc (XT.ushr x3 (4 : Int32))), (own_fc (XT.ushr x3 (6 : Int32)))].take kA = [(own_fc (XT.ushr x4 (2 : Int32))), (own_fc (XT.ushr x4 (4 : Int32))), (own_fc (XT.ushr x4 (6 : Int32)))].take kB)))), .unset, .unset] [(.int (own_bi (decide ([(own_yc (XT.ushr x0 (2 : Int32))), (own_yc (XT.ushr x0 (4 : Int32)))].take na = [(own_yc (XT.ushr x0 (9 : Int32))), (own_yc (XT.ushr x0 (11 : Int32)))].take nb) && decide (x1 = sb) && decide ([(own_fc (XT.ushr x3 (2 : Int32))), (own_fc (XT.ushr x3 (4 : Int32))), (own_fc (XT.ushr x3 (6 : Int32)))].take kA = [(own_fc (XT.ushr x4 (2 : Int32))), (own_fc (XT.ushr x4 (4 : Int32))), (own_fc (XT.ushr x4 (6 : Int32)))].take kB))))])) (fun J => ?_) (fun T W => ?_)
    · refine o_iload 402 W at_400 rfl ?_
      refine o_ifeq 421 405 W at_402 (fun c402 => ?_) (fun c402 => ?_)
      · refine o_iconst 422 W (0) at_421 (by first | rfl | decide) ?_
        exact (J _ W).eq (congrArg (fun z => mkF m 422 #[.val (.int x0), .val (.int x1), .val (.int x2), .val (.int x3), .val (.int x4), .val (.ref ya), .val (.int nA), .val (.int (0 : Int32)), .val (.ref yb), .val (.int nB), .val (.ref fa), .val (.int nF), .val (.ref fb), .val (.int nG), .val (.int x1), .val (.int sb), .val (.ref t1), .val (.ref a), .val (.ref b), .val (.int (own_bi (decide ([(own_yc (XT.ushr x0 (2 : Int32))), (own_yc (XT.ushr x0 (4 : Int32)))].take na = [(own_yc (XT.ushr x0 (9 : Int32))), (own_yc (XT.ushr x0 (11 : Int32)))].take nb)))), .val (.int vA), .val (.int vB), .val (.int (own_bi (decide ([(own_fc (XT.ushr x3 (2 : Int32))), (own_fc (XT.ushr x3 (4 : Int32))), (own_fc (XT.ushr x3 (6 : Int32)))].take kA = [(own_fc (XT.ushr x4 (2 : Int32))), (own_fc (XT.ushr x4 (4 : Int32))), (own_fc (XT.ushr x4 (6 : Int32)))].take kB)))), .unset, .unset] [(.int z)]) (by rw [(own_bi0 _).mp c402]; rfl))
      · refine o_iload 407 W at_405 rfl ?_
        refine o_iload 409 W at_407 rfl ?_
        refine o_icne 421 412 W at_409 (fun c409 => ?_) (fun c409 => ?_)
        · refine o_iconst 422 W (0) at_421 (by first | rfl | decide) ?_
          exact (J _ W).eq (congrArg (fun z => mkF m 422 #[.val (.int x0), .val (.int x1), .val (.int x2), .val (.int x3), .val (.int x4), .val (.ref ya), .val (.int nA), .val (.int (0 : Int32)), .val (.ref yb), .val (.int nB), .val (.ref fa), .val (.int nF), .val (.ref fb), .val (.int nG), .val (.int x1), .val (.int sb), .val (.ref t1), .val (.ref a), .val (.ref b), .val (.int (own_bi (decide ([(own_yc (XT.ushr x0 (2 : Int32))), (own_yc (XT.ushr x0 (4 : Int32)))].take na = [(own_yc (XT.ushr x0 (9 : Int32))), (own_yc (XT.ushr x0 (11 : Int32)))].take nb)))), .val (.int vA), .val (.int vB), .val (.int (own_bi (decide ([(own_fc (XT.ushr x3 (2 : Int32))), (own_fc (XT.ushr x3 (4 : Int32))), (own_fc (XT.ushr x3 (6 : Int32)))].take kA = [(own_fc (XT.ushr x4 (2 : Int32))), (own_fc (XT.ushr x4 (4 : Int32))), (own_fc (XT.ushr x4 (6 : Int32)))].take kB)))), .unset, .unset] [(.int z)]) (by rw [decide_eq_false c409, Bool.and_false, Bool.false_and]; rfl))
        · refine o_iload 414 W at_412 rfl ?_
          refine o_ifeq 421 417 W at_414 (fun c414 => ?_) (fun c414 => ?_)
          · refine o_iconst 422 W (0) at_421 (by first | rfl | decide) ?_
            exact (J _ W).eq (congrArg (fun z => mkF m 422 #[.val (.int x0), .val (.int x1), .val (.int x2), .val (.int x3), .val (.int x4), .val (.ref ya), .val (.int nA), .val (.int (0 : Int32)), .val (.ref yb), .val (.int nB), .val (.ref fa), .val (.int nF), .val (.ref fb), .val (.int nG), .val (.int x1), .val (.int sb), .val (.ref t1), .val (.ref a), .val (.ref b), .val (.int (own_bi (decide ([(own_yc (XT.ushr x0 (2 : Int32))), (own_yc (XT.ushr x0 (4 : Int32)))].take na = [(own_yc (XT.ushr x0 (9 : Int32))), (own_yc (XT.ushr x0 (11 : Int32)))].take nb)))), .val (.int vA), .val (.int vB), .val (.int (own_bi (decide ([(own_fc (XT.ushr x3 (2 : Int32))), (own_fc (XT.ushr x3 (4 : Int32))), (own_fc (XT.ushr x3 (6 : Int32)))].take kA = [(own_fc (XT.ushr x4 (2 : Int32))), (own_fc (XT.ushr x4 (4 : Int32))), (own_fc (XT.ushr x4 (6 : Int32)))].take kB)))), .unset, .unset] [(.int z)]) (by rw [(own_bi0 _).mp c414, Bool.and_false]; rfl))
          · refine o_iconst 418 W (1) at_417 (by first | rfl | decide) ?_
            refine o_goto 422 W at_418 ?_
            exact (J _ W).eq (congrArg (fun z => mkF m 422 #[.val (.int x0), .val (.int x1), .val (.int x2), .val (.int x3), .val (.int x4), .val (.ref ya), .val (.int nA), .val (.int (0 : Int32)), .val (.ref yb), .val (.int nB), .val (.ref fa), .val (.int nF), .val (.ref fb), .val (.int nG), .val (.int x1), .val (.int sb), .val (.ref t1), .val (.ref a), .val (.ref b), .val (.int (own_bi (decide ([(own_yc (XT.ushr x0 (2 : Int32))), (own_yc (XT.ushr x0 (4 : Int32)))].take na = [(own_yc (XT.ushr x0 (9 : Int32))), (own_yc (XT.ushr x0 (11 : Int32)))].take nb)))), .val (.int vA), .val (.int vB), .val (.int (own_bi (decide ([(own_fc (XT.ushr x3 (2 : Int32))), (own_fc (XT.ushr x3 (4 : Int32))), (own_fc (XT.ushr x3 (6 : Int32)))].take kA = [(own_fc (XT.ushr x4 (2 : Int32))), (own_fc (XT.ushr x4 (4 : Int32))), (own_fc (XT.ushr x4 (6 : Int32)))].take kB)))), .unset, .unset] [(.int z)]) (by rw [(show decide ([(own_yc (XT.ushr x0 (2 : Int32))), (own_yc (XT.ushr x0 (4 : Int32)))].take na = [(own_yc (XT.ushr x0 (9 : Int32))), (own_yc (XT.ushr x0 (11 : Int32)))].take nb) = true by cases q : decide ([(own_yc (XT.ushr x0 (2 : Int32))), (own_yc (XT.ushr x0 (4 : Int32)))].take na = [(own_yc (XT.ushr x0 (9 : Int32))), (own_yc (XT.ushr x0 (11 : Int32)))].take nb); exact absurd ((own_bi0 _).mpr q) c402; rfl), decide_eq_true c409, (show decide ([(own_fc (XT.ushr x3 (2 : Int32))), (own_fc (XT.ushr x3 (4 : Int32))), (own_fc (XT.ushr x3 (6 : Int32)))].take kA = [(own_fc (XT.ushr x4 (2 : Int32))), (own_fc (XT.ushr x4 (4 : Int32))), (own_fc (XT.ushr x4 (6 : Int32)))].take kB) = true by cases q : decide ([(own_fc (XT.ushr x3 (2 : Int32))), (own_fc (XT.ushr x3 (4 : Int32))), (own_fc (XT.ushr x3 (6 : Int32)))].take kA = [(own_fc (XT.ushr x4 (2 : Int32))), (own_fc (XT.ushr x4 (4 : Int32))), (own_fc (XT.ushr x4 (6 : Int32)))].take kB); exact absurd ((own_bi0 _).mpr q) c414; rfl)]; rfl))
    refine o_istore 424 W #[.val (.int x0), .val (.int x1), .val (.int x2), .val (.int x3), .val (.int x4), .val (.ref ya), .val (.int nA), .val (.int (0 : Int32)), .val (.ref yb), .val (.int nB), .val (.ref fa), .val (.int nF), .val (.ref fb), .val (.int nG), .val (.int x1), .val (.int sb), .val (.ref t1), .val (.ref a), .val (.ref b), .val (.int (own_bi (decide ([(own_yc (XT.ushr x0 (2 : Int32))), (own_yc (XT.ushr x0 (4 : Int32)))].take na = [(own_yc (XT.ushr x0 (9 : Int32))), (own_yc (XT.ushr x0 (11 : Int32)))].take nb)))), .val (.int vA), .val (.int vB), .val (.int (own_bi (decide ([(own_fc (XT.ushr x3 (2 : Int32))), (own_fc (XT.ushr x3 (4 : Int32))), (own_fc (XT.ushr x3 (6 : Int32)))].take kA = [(own_fc (XT.ushr x4 (2 : Int32))), (own_fc (XT.ushr x4 (4 : Int32))), (own_fc (XT.ushr x4 (6 : Int32)))].take kB)))), .val (.int (own_bi (decide ([(own_yc (XT.ushr x0 (2 : Int32))), (own_yc (XT.ushr x0 (4 : Int32)))].take na = [(own_yc (XT.ushr x0 (9 : Int32))), (own_yc (XT.ushr x0 (11 : Int32)))].take nb) && decide (x1 = sb) && decide ([(own_fc (XT.ushr x3 (2 : Int32))), (own_fc (XT.ushr x3 (4 : Int32))), (own_fc (XT.ushr x3 (6 : Int32)))].take kA = [(own_fc (XT.ushr x4 (2 : Int32))), (own_fc (XT.ushr x4 (4 : Int32))), (own_fc (XT.ushr x4 (6 : Int32)))].take kB)))), .unset] at_422 rfl ?_
    refine o_iloadN 425 W at_424 rfl ?_
    refine o_bipush 427 W (14) at_425 (by first | rfl | decide) ?_
    refine o_iushr 428 W at_427 ?_
    refine o_iconst 429 W (3) at_428 (by first | rfl | decide) ?_
    refine o_iand 430 W at_429 ?_
    refine o_istore 432 W #[.val (.int x0), .val (.int x1), .val (.int x2), .val (.int x3), .val (.int x4), .val (.ref ya), .val (.int nA), .val (.int (0 : Int32)), .val (.ref yb), .val (.int nB), .val (.ref fa), .val (.int nF), .val (.ref fb), .val (.int nG), .val (.int x1), .val (.int sb), .val (.ref t1), .val (.ref a), .val (.ref b), .val (.int (own_bi (decide ([(own_yc (XT.ushr x0 (2 : Int32))), (own_yc (XT.ushr x0 (4 : Int32)))].take na = [(own_yc (XT.ushr x0 (9 : Int32))), (own_yc (XT.ushr x0 (11 : Int32)))].take nb)))), .val (.int vA), .val (.int vB), .val (.int (own_bi (decide ([(own_fc (XT.ushr x3 (2 : Int32))), (own_fc (XT.ushr x3 (4 : Int32))), (own_fc (XT.ushr x3 (6 : Int32)))].take kA = [(own_fc (XT.ushr x4 (2 : Int32))), (own_fc (XT.ushr x4 (4 : Int32))), (own_fc (XT.ushr x4 (6 : Int32)))].take kB)))), .val (.int (own_bi (decide ([(own_yc (XT.ushr x0 (2 : Int32))), (own_yc (XT.ushr x0 (4 : Int32)))].take na = [(own_yc (XT.ushr x0 (9 : Int32))), (own_yc (XT.ushr x0 (11 : Int32)))].take nb) && decide (x1 = sb) && decide ([(own_fc (XT.ushr x3 (2 : Int32))), (own_fc (XT.ushr x3 (4 : Int32))), (own_fc (XT.ushr x3 (6 : Int32)))].take kA = [(own_fc (XT.ushr x4 (2 : Int32))), (own_fc (XT.ushr x4 (4 : Int32))), (own_fc (XT.ushr x4 (6 : Int32)))].take kB)))), .val (.int ((XT.ushr x0 (14 : Int32)) &&& (3 : Int32)))] at_430 rfl ?_
    generalize ((XT.ushr x0 (14 : Int32)) &&& (3 : Int32)) = md
    show Go p e below _ _ (mkF m 432 #[.val (.int x0), .val (.int x1), .val (.int x2), .val (.int x3), .val (.int x4), .val (.ref ya), .val (.int nA), .val (.int (0 : Int32)), .val (.ref yb), .val (.int nB), .val (.ref fa), .val (.int nF), .val (.ref fb), .val (.int nG), .val (.int x1), .val (.int sb), .val (.ref t1), .val (.ref a), .val (.ref b), .val (.int (own_bi (decide ([(own_yc (XT.ushr x0 (2 : Int32))), (own_yc (XT.ushr x0 (4 : Int32)))].take na = [(own_yc (XT.ushr x0 (9 : Int32))), (own_yc (XT.ushr x0 (11 : Int32)))].take nb)))), .val (.int vA), .val (.int vB), .val (.int (own_bi (decide ([(own_fc (XT.ushr x3 (2 : Int32))), (own_fc (XT.ushr x3 (4 : Int32))), (own_fc (XT.ushr x3 (6 : Int32)))].take kA = [(own_fc (XT.ushr x4 (2 : Int32))), (own_fc (XT.ushr x4 (4 : Int32))), (own_fc (XT.ushr x4 (6 : Int32)))].take kB)))), .val (.int (own_bi (decide ([(own_yc (XT.ushr x0 (2 : Int32))), (own_yc (XT.ushr x0 (4 : Int32)))].take na = [(own_yc (XT.ushr x0 (9 : Int32))), (own_yc (XT.ushr x0 (11 : Int32)))].take nb) && decide (x1 = sb) && decide ([(own_fc (XT.ushr x3 (2 : Int32))), (own_fc (XT.ushr x3 (4 : Int32))), (own_fc (XT.ushr x3 (6 : Int32)))].take kA = [(own_fc (XT.ushr x4 (2 : Int32))), (own_fc (XT.ushr x4 (4 : Int32))), (own_fc (XT.ushr x4 (6 : Int32)))].take kB)))), .val (.int md)] [])
    refine o_iload 434 W at_432 rfl ?_
    refine o_ifne 453 437 W at_434 (fun c434 => ?_) (fun c434 => ?_)
    · refine o_iload 455 W at_453 rfl ?_
      refine o_iconst 456 W (1) at_455 (by first | rfl | decide) ?_
      refine o_icne 474 459 W at_456 (fun c456 => ?_) (fun c456 => ?_)
      · refine o_aload 476 W at_474 rfl rfl ?_
        refine o_aload 478 W at_476 rfl rfl ?_
        refine o_virtual 481 [(.ref b)] W (tw hw 107) (tw hw 108) (tw hw 110) (tw hw 109) (tw hw 34) (tw hw 111) (Aa) (con_xeqR l Z b0 hw a _ W.old Aa b Ab t1 foa x1 ([(own_yc (XT.ushr x0 (2 : Int32))), (own_yc (XT.ushr x0 (4 : Int32)))].take na) ([(own_fc (XT.ushr x3 (2 : Int32))), (own_fc (XT.ushr x3 (4 : Int32))), (own_fc (XT.ushr x3 (6 : Int32)))].take kA) (by rw [own_take_len (cs := [(own_yc (XT.ushr x0 (2 : Int32))), (own_yc (XT.ushr x0 (4 : Int32)))]) (n := na) (by simpa using bna)]; omega) (own_take_ch (own_chS (own_ycr _) (own_chS (own_ycr _) own_ch0)) _) (by rw [own_take_len (cs := [(own_fc (XT.ushr x3 (2 : Int32))), (own_fc (XT.ushr x3 (4 : Int32))), (own_fc (XT.ushr x3 (6 : Int32)))]) (n := kA) (by simpa using bA)]; omega) (own_take_ch (own_chS (own_fcr _) (own_chS (own_fcr _) (own_chS (own_fcr _) own_ch0))) _) Pa Qa Ra Xt1 Va t3 fob sb ([(own_yc (XT.ushr x0 (9 : Int32))), (own_yc (XT.ushr x0 (11 : Int32)))].take nb) ([(own_fc (XT.ushr x4 (2 : Int32))), (own_fc (XT.ushr x4 (4 : Int32))), (own_fc (XT.ushr x4 (6 : Int32)))].take kB) (by rw [own_take_len (cs := [(own_yc (XT.ushr x0 (9 : Int32))), (own_yc (XT.ushr x0 (11 : Int32)))]) (n := nb) (by simpa using bnb)]; omega) (own_take_ch (own_chS (own_ycr _) (own_chS (own_ycr _) own_ch0)) _) (by rw [own_take_len (cs := [(own_fc (XT.ushr x4 (2 : Int32))), (own_fc (XT.ushr x4 (4 : Int32))), (own_fc (XT.ushr x4 (6 : Int32)))]) (n := kB) (by simpa using bB)]; omega) (own_take_ch (own_chS (own_fcr _) (own_chS (own_fcr _) (own_chS (own_fcr _) own_ch0))) _) Pb Qb Rb Xt3 Vb cz hcz SC) pd20 at_478 rfl all0 (fun T h v W qq gg => ?_)
        obtain ⟨_, rfl, rfl, rfl⟩ := qq
        show Go p e below _ _ (mkF m 481 #[.val (.int x0), .val (.int x1), .val (.int x2), .val (.int x3), .val (.int x4), .val (.ref ya), .val (.int nA), .val (.int (0 : Int32)), .val (.ref yb), .val (.int nB), .val (.ref fa), .val (.int nF), .val (.ref fb), .val (.int nG), .val (.int x1), .val (.int sb), .val (.ref t1), .val (.ref a), .val (.ref b), .val (.int (own_bi (decide ([(own_yc (XT.ushr x0 (2 : Int32))), (own_yc (XT.ushr x0 (4 : Int32)))].take na = [(own_yc (XT.ushr x0 (9 : Int32))), (own_yc (XT.ushr x0 (11 : Int32)))].take nb)))), .val (.int vA), .val (.int vB), .val (.int (own_bi (decide ([(own_fc (XT.ushr x3 (2 : Int32))), (own_fc (XT.ushr x3 (4 : Int32))), (own_fc (XT.ushr x3 (6 : Int32)))].take kA = [(own_fc (XT.ushr x4 (2 : Int32))), (own_fc (XT.ushr x4 (4 : Int32))), (own_fc (XT.ushr x4 (6 : Int32)))].take kB)))), .val (.int (own_bi (decide ([(own_yc (XT.ushr x0 (2 : Int32))), (own_yc (XT.ushr x0 (4 : Int32)))].take na = [(own_yc (XT.ushr x0 (9 : Int32))), (own_yc (XT.ushr x0 (11 : Int32)))].take nb) && decide (x1 = sb) && decide ([(own_fc (XT.ushr x3 (2 : Int32))), (own_fc (XT.ushr x3 (4 : Int32))), (own_fc (XT.ushr x3 (6 : Int32)))].take kA = [(own_fc (XT.ushr x4 (2 : Int32))), (own_fc (XT.ushr x4 (4 : Int32))), (own_fc (XT.ushr x4 (6 : Int32)))].take kB)))), .val (.int md)] [(.int (own_bi (decide ([(own_yc (XT.ushr x0 (2 : Int32))), (own_yc (XT.ushr x0 (4 : Int32)))].take na = [(own_yc (XT.ushr x0 (9 : Int32))), (own_yc (XT.ushr x0 (11 : Int32)))].take nb) && decide (x1 = sb) && decide ([(own_fc (XT.ushr x3 (2 : Int32))), (own_fc (XT.ushr x3 (4 : Int32))), (own_fc (XT.ushr x3 (6 : Int32)))].take kA = [(own_fc (XT.ushr x4 (2 : Int32))), (own_fc (XT.ushr x4 (4 : Int32))), (own_fc (XT.ushr x4 (6 : Int32)))].take kB))))])
        refine o_iload 483 W at_481 rfl ?_
        refine o_icN 486 W at_483 (XT.ii_ne_f rfl) ?_
        refine o_aload 488 W at_486 rfl rfl ?_
        refine o_aload 490 W at_488 rfl rfl ?_
        refine o_virtual 493 [(.ref a)] W (tw hw 107) (tw hw 108) (tw hw 110) (tw hw 109) (tw hw 34) (tw hw 111) (Ab) (con_xeqR l Z b0 hw b _ W.old Ab a Aa t3 fob sb ([(own_yc (XT.ushr x0 (9 : Int32))), (own_yc (XT.ushr x0 (11 : Int32)))].take nb) ([(own_fc (XT.ushr x4 (2 : Int32))), (own_fc (XT.ushr x4 (4 : Int32))), (own_fc (XT.ushr x4 (6 : Int32)))].take kB) (by rw [own_take_len (cs := [(own_yc (XT.ushr x0 (9 : Int32))), (own_yc (XT.ushr x0 (11 : Int32)))]) (n := nb) (by simpa using bnb)]; omega) (own_take_ch (own_chS (own_ycr _) (own_chS (own_ycr _) own_ch0)) _) (by rw [own_take_len (cs := [(own_fc (XT.ushr x4 (2 : Int32))), (own_fc (XT.ushr x4 (4 : Int32))), (own_fc (XT.ushr x4 (6 : Int32)))]) (n := kB) (by simpa using bB)]; omega) (own_take_ch (own_chS (own_fcr _) (own_chS (own_fcr _) (own_chS (own_fcr _) own_ch0))) _) Pb Qb Rb Xt3 Vb t1 foa x1 ([(own_yc (XT.ushr x0 (2 : Int32))), (own_yc (XT.ushr x0 (4 : Int32)))].take na) ([(own_fc (XT.ushr x3 (2 : Int32))), (own_fc (XT.ushr x3 (4 : Int32))), (own_fc (XT.ushr x3 (6 : Int32)))].take kA) (by rw [own_take_len (cs := [(own_yc (XT.ushr x0 (2 : Int32))), (own_yc (XT.ushr x0 (4 : Int32)))]) (n := na) (by simpa using bna)]; omega) (own_take_ch (own_chS (own_ycr _) (own_chS (own_ycr _) own_ch0)) _) (by rw [own_take_len (cs := [(own_fc (XT.ushr x3 (2 : Int32))), (own_fc (XT.ushr x3 (4 : Int32))), (own_fc (XT.ushr x3 (6 : Int32)))]) (n := kA) (by simpa using bA)]; omega) (own_take_ch (own_chS (own_fcr _) (own_chS (own_fcr _) (own_chS (own_fcr _) own_ch0))) _) Pa Qa Ra Xt1 Va cz hcz SC) pd20 at_490 rfl all0 (fun T h v W qq gg => ?_)
        obtain ⟨_, rfl, rfl, rfl⟩ := qq
        show Go p e below _ _ (mkF m 493 #[.val (.int x0), .val (.int x1), .val (.int x2), .val (.int x3), .val (.int x4), .val (.ref ya), .val (.int nA), .val (.int (0 : Int32)), .val (.ref yb), .val (.int nB), .val (.ref fa), .val (.int nF), .val (.ref fb), .val (.int nG), .val (.int x1), .val (.int sb), .val (.ref t1), .val (.ref a), .val (.ref b), .val (.int (own_bi (decide ([(own_yc (XT.ushr x0 (2 : Int32))), (own_yc (XT.ushr x0 (4 : Int32)))].take na = [(own_yc (XT.ushr x0 (9 : Int32))), (own_yc (XT.ushr x0 (11 : Int32)))].take nb)))), .val (.int vA), .val (.int vB), .val (.int (own_bi (decide ([(own_fc (XT.ushr x3 (2 : Int32))), (own_fc (XT.ushr x3 (4 : Int32))), (own_fc (XT.ushr x3 (6 : Int32)))].take kA = [(own_fc (XT.ushr x4 (2 : Int32))), (own_fc (XT.ushr x4 (4 : Int32))), (own_fc (XT.ushr x4 (6 : Int32)))].take kB)))), .val (.int (own_bi (decide ([(own_yc (XT.ushr x0 (2 : Int32))), (own_yc (XT.ushr x0 (4 : Int32)))].take na = [(own_yc (XT.ushr x0 (9 : Int32))), (own_yc (XT.ushr x0 (11 : Int32)))].take nb) && decide (x1 = sb) && decide ([(own_fc (XT.ushr x3 (2 : Int32))), (own_fc (XT.ushr x3 (4 : Int32))), (own_fc (XT.ushr x3 (6 : Int32)))].take kA = [(own_fc (XT.ushr x4 (2 : Int32))), (own_fc (XT.ushr x4 (4 : Int32))), (own_fc (XT.ushr x4 (6 : Int32)))].take kB)))), .val (.int md)] [(.int (own_bi (decide (([(own_yc (XT.ushr x0 (9 : Int32))), (own_yc (XT.ushr x0 (11 : Int32)))].take nb) = ([(own_yc (XT.ushr x0 (2 : Int32))), (own_yc (XT.ushr x0 (4 : Int32)))].take na)) && decide (sb = x1) && decide (([(own_fc (XT.ushr x4 (2 : Int32))), (own_fc (XT.ushr x4 (4 : Int32))), (own_fc (XT.ushr x4 (6 : Int32)))].take kB) = ([(own_fc (XT.ushr x3 (2 : Int32))), (own_fc (XT.ushr x3 (4 : Int32))), (own_fc (XT.ushr x3 (6 : Int32)))].take kA)))))])
        refine o_iload 495 W at_493 rfl ?_
        refine o_icN 498 W at_495 (XT.ii_ne_f (by rw [decide_eq_decide.mpr (eq_comm (a := ([(own_yc (XT.ushr x0 (9 : Int32))), (own_yc (XT.ushr x0 (11 : Int32)))].take nb))), decide_eq_decide.mpr (eq_comm (a := sb)), decide_eq_decide.mpr (eq_comm (a := ([(own_fc (XT.ushr x4 (2 : Int32))), (own_fc (XT.ushr x4 (4 : Int32))), (own_fc (XT.ushr x4 (6 : Int32)))].take kB)))])) ?_
        refine o_aload 500 W at_498 rfl rfl ?_
        refine o_aload 502 W at_500 rfl rfl ?_
        refine o_virtual 505 [(.ref a)] W (tw hw 107) (tw hw 108) (tw hw 110) (tw hw 109) (tw hw 34) (tw hw 111) (Aa) (con_xeqR l Z b0 hw a _ W.old Aa a Aa t1 foa x1 ([(own_yc (XT.ushr x0 (2 : Int32))), (own_yc (XT.ushr x0 (4 : Int32)))].take na) ([(own_fc (XT.ushr x3 (2 : Int32))), (own_fc (XT.ushr x3 (4 : Int32))), (own_fc (XT.ushr x3 (6 : Int32)))].take kA) (by rw [own_take_len (cs := [(own_yc (XT.ushr x0 (2 : Int32))), (own_yc (XT.ushr x0 (4 : Int32)))]) (n := na) (by simpa using bna)]; omega) (own_take_ch (own_chS (own_ycr _) (own_chS (own_ycr _) own_ch0)) _) (by rw [own_take_len (cs := [(own_fc (XT.ushr x3 (2 : Int32))), (own_fc (XT.ushr x3 (4 : Int32))), (own_fc (XT.ushr x3 (6 : Int32)))]) (n := kA) (by simpa using bA)]; omega) (own_take_ch (own_chS (own_fcr _) (own_chS (own_fcr _) (own_chS (own_fcr _) own_ch0))) _) Pa Qa Ra Xt1 Va t1 foa x1 ([(own_yc (XT.ushr x0 (2 : Int32))), (own_yc (XT.ushr x0 (4 : Int32)))].take na) ([(own_fc (XT.ushr x3 (2 : Int32))), (own_fc (XT.ushr x3 (4 : Int32))), (own_fc (XT.ushr x3 (6 : Int32)))].take kA) (by rw [own_take_len (cs := [(own_yc (XT.ushr x0 (2 : Int32))), (own_yc (XT.ushr x0 (4 : Int32)))]) (n := na) (by simpa using bna)]; omega) (own_take_ch (own_chS (own_ycr _) (own_chS (own_ycr _) own_ch0)) _) (by rw [own_take_len (cs := [(own_fc (XT.ushr x3 (2 : Int32))), (own_fc (XT.ushr x3 (4 : Int32))), (own_fc (XT.ushr x3 (6 : Int32)))]) (n := kA) (by simpa using bA)]; omega) (own_take_ch (own_chS (own_fcr _) (own_chS (own_fcr _) (own_chS (own_fcr _) own_ch0))) _) Pa Qa Ra Xt1 Va cz hcz SC) pd20 at_502 rfl all0 (fun T h v W qq gg => ?_)
        obtain ⟨_, rfl, rfl, rfl⟩ := qq
        show Go p e below _ _ (mkF m 505 #[.val (.int x0), .val (.int x1), .val (.int x2), .val (.int x3), .val (.int x4), .val (.ref ya), .val (.int nA), .val (.int (0 : Int32)), .val (.ref yb), .val (.int nB), .val (.ref fa), .val (.int nF), .val (.ref fb), .val (.int nG), .val (.int x1), .val (.int sb), .val (.ref t1), .val (.ref a), .val (.ref b), .val (.int (own_bi (decide ([(own_yc (XT.ushr x0 (2 : Int32))), (own_yc (XT.ushr x0 (4 : Int32)))].take na = [(own_yc (XT.ushr x0 (9 : Int32))), (own_yc (XT.ushr x0 (11 : Int32)))].take nb)))), .val (.int vA), .val (.int vB), .val (.int (own_bi (decide ([(own_fc (XT.ushr x3 (2 : Int32))), (own_fc (XT.ushr x3 (4 : Int32))), (own_fc (XT.ushr x3 (6 : Int32)))].take kA = [(own_fc (XT.ushr x4 (2 : Int32))), (own_fc (XT.ushr x4 (4 : Int32))), (own_fc (XT.ushr x4 (6 : Int32)))].take kB)))), .val (.int (own_bi (decide ([(own_yc (XT.ushr x0 (2 : Int32))), (own_yc (XT.ushr x0 (4 : Int32)))].take na = [(own_yc (XT.ushr x0 (9 : Int32))), (own_yc (XT.ushr x0 (11 : Int32)))].take nb) && decide (x1 = sb) && decide ([(own_fc (XT.ushr x3 (2 : Int32))), (own_fc (XT.ushr x3 (4 : Int32))), (own_fc (XT.ushr x3 (6 : Int32)))].take kA = [(own_fc (XT.ushr x4 (2 : Int32))), (own_fc (XT.ushr x4 (4 : Int32))), (own_fc (XT.ushr x4 (6 : Int32)))].take kB)))), .val (.int md)] [(.int (own_bi (decide (([(own_yc (XT.ushr x0 (2 : Int32))), (own_yc (XT.ushr x0 (4 : Int32)))].take na) = ([(own_yc (XT.ushr x0 (2 : Int32))), (own_yc (XT.ushr x0 (4 : Int32)))].take na)) && decide (x1 = x1) && decide (([(own_fc (XT.ushr x3 (2 : Int32))), (own_fc (XT.ushr x3 (4 : Int32))), (own_fc (XT.ushr x3 (6 : Int32)))].take kA) = ([(own_fc (XT.ushr x3 (2 : Int32))), (own_fc (XT.ushr x3 (4 : Int32))), (own_fc (XT.ushr x3 (6 : Int32)))].take kA)))))])
        refine o_ifN 508 W at_505 (XT.i0_eq_f (by simp [own_bi])) ?_
        refine o_iconst 509 W (1) at_508 (by first | rfl | decide) ?_
        refine o_goto 513 W at_509 ?_
        exact o_nret W (1 : Int32) (by simp) (by decide) at_513 (rfl)
      · refine o_aload 461 W at_459 rfl rfl ?_
        refine o_null 462 W at_461 ?_
        refine o_virtual 465 [(.null)] W (tw hw 107) (tw hw 108) (tw hw 110) (tw hw 109) (tw hw 34) (tw hw 111) (Aa) (con_xeqN l Z b0 hw a _ W.old Aa) pd20 at_462 rfl all0 (fun T h v W qq gg => ?_)
        obtain ⟨_, rfl, rfl, rfl⟩ := qq
        show Go p e below _ _ (mkF m 465 #[.val (.int x0), .val (.int x1), .val (.int x2), .val (.int x3), .val (.int x4), .val (.ref ya), .val (.int nA), .val (.int (0 : Int32)), .val (.ref yb), .val (.int nB), .val (.ref fa), .val (.int nF), .val (.ref fb), .val (.int nG), .val (.int x1), .val (.int sb), .val (.ref t1), .val (.ref a), .val (.ref b), .val (.int (own_bi (decide ([(own_yc (XT.ushr x0 (2 : Int32))), (own_yc (XT.ushr x0 (4 : Int32)))].take na = [(own_yc (XT.ushr x0 (9 : Int32))), (own_yc (XT.ushr x0 (11 : Int32)))].take nb)))), .val (.int vA), .val (.int vB), .val (.int (own_bi (decide ([(own_fc (XT.ushr x3 (2 : Int32))), (own_fc (XT.ushr x3 (4 : Int32))), (own_fc (XT.ushr x3 (6 : Int32)))].take kA = [(own_fc (XT.ushr x4 (2 : Int32))), (own_fc (XT.ushr x4 (4 : Int32))), (own_fc (XT.ushr x4 (6 : Int32)))].take kB)))), .val (.int (own_bi (decide ([(own_yc (XT.ushr x0 (2 : Int32))), (own_yc (XT.ushr x0 (4 : Int32)))].take na = [(own_yc (XT.ushr x0 (9 : Int32))), (own_yc (XT.ushr x0 (11 : Int32)))].take nb) && decide (x1 = sb) && decide ([(own_fc (XT.ushr x3 (2 : Int32))), (own_fc (XT.ushr x3 (4 : Int32))), (own_fc (XT.ushr x3 (6 : Int32)))].take kA = [(own_fc (XT.ushr x4 (2 : Int32))), (own_fc (XT.ushr x4 (4 : Int32))), (own_fc (XT.ushr x4 (6 : Int32)))].take kB)))), .val (.int md)] [(.int (0 : Int32))])
        refine o_ifN 468 W at_465 (by decide) ?_
        refine o_iconst 469 W (1) at_468 (by first | rfl | decide) ?_
        refine o_goto 473 W at_469 ?_
        exact o_nret W (1 : Int32) (by simp) (by decide) at_473 (rfl)
    · refine o_aload 439 W at_437 rfl rfl ?_
      refine o_aload 441 W at_439 rfl rfl ?_
      refine o_virtual 444 [(.ref t1)] W (tw hw 107) (tw hw 108) (tw hw 110) (tw hw 109) (tw hw 34) (tw hw 111) (Aa) (con_xeqS l Z b0 hw a _ W.old Aa t1 Xt1.1) pd20 at_441 rfl all0 (fun T h v W qq gg => ?_)
      obtain ⟨_, rfl, rfl, rfl⟩ := qq
      show Go p e below _ _ (mkF m 444 #[.val (.int x0), .val (.int x1), .val (.int x2), .val (.int x3), .val (.int x4), .val (.ref ya), .val (.int nA), .val (.int (0 : Int32)), .val (.ref yb), .val (.int nB), .val (.ref fa), .val (.int nF), .val (.ref fb), .val (.int nG), .val (.int x1), .val (.int sb), .val (.ref t1), .val (.ref a), .val (.ref b), .val (.int (own_bi (decide ([(own_yc (XT.ushr x0 (2 : Int32))), (own_yc (XT.ushr x0 (4 : Int32)))].take na = [(own_yc (XT.ushr x0 (9 : Int32))), (own_yc (XT.ushr x0 (11 : Int32)))].take nb)))), .val (.int vA), .val (.int vB), .val (.int (own_bi (decide ([(own_fc (XT.ushr x3 (2 : Int32))), (own_fc (XT.ushr x3 (4 : Int32))), (own_fc (XT.ushr x3 (6 : Int32)))].take kA = [(own_fc (XT.ushr x4 (2 : Int32))), (own_fc (XT.ushr x4 (4 : Int32))), (own_fc (XT.ushr x4 (6 : Int32)))].take kB)))), .val (.int (own_bi (decide ([(own_yc (XT.ushr x0 (2 : Int32))), (own_yc (XT.ushr x0 (4 : Int32)))].take na = [(own_yc (XT.ushr x0 (9 : Int32))), (own_yc (XT.ushr x0 (11 : Int32)))].take nb) && decide (x1 = sb) && decide ([(own_fc (XT.ushr x3 (2 : Int32))), (own_fc (XT.ushr x3 (4 : Int32))), (own_fc (XT.ushr x3 (6 : Int32)))].take kA = [(own_fc (XT.ushr x4 (2 : Int32))), (own_fc (XT.ushr x4 (4 : Int32))), (own_fc (XT.ushr x4 (6 : Int32)))].take kB)))), .val (.int md)] [(.int (0 : Int32))])
      refine o_ifN 447 W at_444 (by decide) ?_
      refine o_iconst 448 W (1) at_447 (by first | rfl | decide) ?_
      refine o_goto 452 W at_448 ?_
      exact o_nret W (1 : Int32) (by simp) (by decide) at_452 (rfl)
  · refine o_iconst 40 W (1) at_39 (by first | rfl | decide) ?_
    refine o_goto 44 W at_40 ?_
    refine o_istore 46 W #[.val (.int x0), .val (.int x1), .val (.int x2), .val (.int x3), .val (.int x4), .val (.ref ya), .val (.int nA), .val (.int (1 : Int32)), .unset, .unset, .unset, .unset, .unset, .unset, .unset, .unset, .unset, .unset, .unset, .unset, .unset, .unset, .unset, .unset, .unset] at_44 rfl ?_
    refine o_iload 48 W at_46 rfl ?_
    refine o_ifN 51 W at_48 (by decide) ?_
    refine o_iconst 52 W (2) at_51 (by first | rfl | decide) ?_
    refine o_newarray 54 2 W (tw hw 0) at_52 (by decide) (by decide) (fun T h yb kyb W Eyb Ayb gyb zyb => ?_)
    have Ayb := own_pad 2 Ayb
    refine o_dup 55 W at_54 rfl ?_
    refine o_iconst 56 W (0) at_55 (by first | rfl | decide) ?_
    refine o_aload 58 W at_56 rfl rfl ?_
    refine o_iconst 59 W (0) at_58 (by first | rfl | decide) ?_
    refine o_caloadV 60 W (Aya.ext Eyb) (by decide) rfl at_59 ?_
    refine o_castore 61 0 W Ayb (by decide) rfl (by first | decide | simp) zyb at_60 (fun T h W w0 Ayb => ?_)
    have Eyb := own_ext_wr Eyb w0 gyb
    refine o_dup 62 W at_61 rfl ?_
    refine o_iconst 63 W (1) at_62 (by first | rfl | decide) ?_
    refine o_aload 65 W at_63 rfl rfl ?_
    refine o_iconst 66 W (1) at_65 (by first | rfl | decide) ?_
    refine o_caloadV 67 W (Aya.ext Eyb) (by decide) rfl at_66 ?_
    refine o_castore 68 1 W Ayb (by decide) rfl (by first | decide | simp) zyb at_67 (fun T h W w1 Ayb => ?_)
    have Eyb := own_ext_wr Eyb w1 gyb
    simp only [own_nar (own_ycr _), own_nar (own_ycr _)] at Ayb
    have Ayb : Arv Z h yb kyb .char 2 ([(own_yc (XT.ushr x0 (2 : Int32))), (own_yc (XT.ushr x0 (4 : Int32)))].map Value.int) (.int 0) := Ayb
    have Aya := Aya.ext Eyb
    refine o_goto 94 W at_68 ?_
    refine o_astore 96 W #[.val (.int x0), .val (.int x1), .val (.int x2), .val (.int x3), .val (.int x4), .val (.ref ya), .val (.int nA), .val (.int (1 : Int32)), .val (.ref yb), .unset, .unset, .unset, .unset, .unset, .unset, .unset, .unset, .unset, .unset, .unset, .unset, .unset, .unset, .unset, .unset] at_94 rfl rfl ?_
    refine o_iload 98 W at_96 rfl ?_
    refine o_ifN 101 W at_98 (by decide) ?_
    refine o_iload 103 W at_101 rfl ?_
    refine o_goto 114 W at_103 ?_
    refine o_istore 116 W #[.val (.int x0), .val (.int x1), .val (.int x2), .val (.int x3), .val (.int x4), .val (.ref ya), .val (.int nA), .val (.int (1 : Int32)), .val (.ref yb), .val (.int nA), .unset, .unset, .unset, .unset, .unset, .unset, .unset, .unset, .unset, .unset, .unset, .unset, .unset, .unset, .unset] at_114 rfl ?_
    have hnb := hna
    have bnb := bna
    obtain ⟨nB, hB⟩ : ∃ nB, nB = nA := ⟨_, rfl⟩
    obtain ⟨nb, hb⟩ : ∃ nb, nb = na := ⟨_, rfl⟩
    rw [← hB, ← hb] at hnb
    rw [← hb] at bnb
    refine Go.eq (g' := (mkF m 116 #[.val (.int x0), .val (.int x1), .val (.int x2), .val (.int x3), .val (.int x4), .val (.ref ya), .val (.int nA), .val (.int (1 : Int32)), .val (.ref yb), .val (.int nB), .unset, .unset, .unset, .unset, .unset, .unset, .unset, .unset, .unset, .unset, .unset, .unset, .unset, .unset, .unset] [])) ?_ (by rw [hB])
    refine o_iconst 117 W (3) at_116 (by first | rfl | decide) ?_
    refine o_newarray 119 3 W (tw hw 0) at_117 (by decide) (by decide) (fun T h fa kfa W Efa Afa gfa zfa => ?_)
    have Afa := own_pad 3 Afa
    refine o_dup 120 W at_119 rfl ?_
    refine o_iconst 121 W (0) at_120 (by first | rfl | decide) ?_
    refine o_iloadN 122 W at_121 rfl ?_
    refine o_iconst 123 W (2) at_122 (by first | rfl | decide) ?_
    refine o_iushr 124 W at_123 ?_
    refine o_static 127 [(.int (XT.ushr x3 (2 : Int32)))] W (tw hw 5) (tw hw 6) (tw hw 3) (tw hw 7) (con_fc l Z b0 hw _ _ W.old) pd19 at_124 rfl all0 (fun T h v W qq gg => ?_)
    obtain ⟨_, rfl, rfl, rfl⟩ := qq
    show Go p e below _ _ (mkF m 127 #[.val (.int x0), .val (.int x1), .val (.int x2), .val (.int x3), .val (.int x4), .val (.ref ya), .val (.int nA), .val (.int (1 : Int32)), .val (.ref yb), .val (.int nB), .unset, .unset, .unset, .unset, .unset, .unset, .unset, .unset, .unset, .unset, .unset, .unset, .unset, .unset, .unset] [(.int (own_fc (XT.ushr x3 (2 : Int32)))), (.int (0 : Int32)), (.ref fa), (.ref fa)])
    refine o_castore 128 0 W Afa (by decide) rfl (by first | decide | simp) zfa at_127 (fun T h W w0 Afa => ?_)
    have Efa := own_ext_wr Efa w0 gfa
    refine o_dup 129 W at_128 rfl ?_
    refine o_iconst 130 W (1) at_129 (by first | rfl | decide) ?_
    refine o_iloadN 131 W at_130 rfl ?_
    refine o_iconst 132 W (4) at_131 (by first | rfl | decide) ?_
    refine o_iushr 133 W at_132 ?_
    refine o_static 136 [(.int (XT.ushr x3 (4 : Int32)))] W (tw hw 5) (tw hw 6) (tw hw 3) (tw hw 7) (con_fc l Z b0 hw _ _ W.old) pd19 at_133 rfl all0 (fun T h v W qq gg => ?_)
    obtain ⟨_, rfl, rfl, rfl⟩ := qq
    show Go p e below _ _ (mkF m 136 #[.val (.int x0), .val (.int x1), .val (.int x2), .val (.int x3), .val (.int x4), .val (.ref ya), .val (.int nA), .val (.int (1 : Int32)), .val (.ref yb), .val (.int nB), .unset, .unset, .unset, .unset, .unset, .unset, .unset, .unset, .unset, .unset, .unset, .unset, .unset, .unset, .unset] [(.int (own_fc (XT.ushr x3 (4 : Int32)))), (.int (1 : Int32)), (.ref fa), (.ref fa)])
    refine o_castore 137 1 W Afa (by decide) rfl (by first | decide | simp) zfa at_136 (fun T h W w1 Afa => ?_)
    have Efa := own_ext_wr Efa w1 gfa
    refine o_dup 138 W at_137 rfl ?_
    refine o_iconst 139 W (2) at_138 (by first | rfl | decide) ?_
    refine o_iloadN 140 W at_139 rfl ?_
    refine o_bipush 142 W (6) at_140 (by first | rfl | decide) ?_
    refine o_iushr 143 W at_142 ?_
    refine o_static 146 [(.int (XT.ushr x3 (6 : Int32)))] W (tw hw 5) (tw hw 6) (tw hw 3) (tw hw 7) (con_fc l Z b0 hw _ _ W.old) pd19 at_143 rfl all0 (fun T h v W qq gg => ?_)
    obtain ⟨_, rfl, rfl, rfl⟩ := qq
    show Go p e below _ _ (mkF m 146 #[.val (.int x0), .val (.int x1), .val (.int x2), .val (.int x3), .val (.int x4), .val (.ref ya), .val (.int nA), .val (.int (1 : Int32)), .val (.ref yb), .val (.int nB), .unset, .unset, .unset, .unset, .unset, .unset, .unset, .unset, .unset, .unset, .unset, .unset, .unset, .unset, .unset] [(.int (own_fc (XT.ushr x3 (6 : Int32)))), (.int (2 : Int32)), (.ref fa), (.ref fa)])
    refine o_castore 147 2 W Afa (by decide) rfl (by first | decide | simp) zfa at_146 (fun T h W w2 Afa => ?_)
    have Efa := own_ext_wr Efa w2 gfa
    simp only [own_nar (own_fcr _), own_nar (own_fcr _), own_nar (own_fcr _)] at Afa
    have Afa : Arv Z h fa kfa .char 3 ([(own_fc (XT.ushr x3 (2 : Int32))), (own_fc (XT.ushr x3 (4 : Int32))), (own_fc (XT.ushr x3 (6 : Int32)))].map Value.int) (.int 0) := Afa
    have Aya := Aya.ext Efa
    have Ayb := Ayb.ext Efa
    refine o_astore 149 W #[.val (.int x0), .val (.int x1), .val (.int x2), .val (.int x3), .val (.int x4), .val (.ref ya), .val (.int nA), .val (.int (1 : Int32)), .val (.ref yb), .val (.int nB), .val (.ref fa), .unset, .unset, .unset, .unset, .unset, .unset, .unset, .unset, .unset, .unset, .unset, .unset, .unset, .unset] at_147 rfl rfl ?_
    refine o_iloadN 150 W at_149 rfl ?_
    refine o_iconst 151 W (3) at_150 (by first | rfl | decide) ?_
    refine o_iand 152 W at_151 ?_
    refine o_istore 154 W #[.val (.int x0), .val (.int x1), .val (.int x2), .val (.int x3), .val (.int x4), .val (.ref ya), .val (.int nA), .val (.int (1 : Int32)), .val (.ref yb), .val (.int nB), .val (.ref fa), .val (.int (x3 &&& (3 : Int32))), .unset, .unset, .unset, .unset, .unset, .unset, .unset, .unset, .unset, .unset, .unset, .unset, .unset] at_152 rfl ?_
    obtain ⟨nfa, hnfa, bnfa⟩ := own_and3 x3
    generalize (x3 &&& (3 : Int32)) = nF at hnfa ⊢
    show Go p e below _ _ (mkF m 154 #[.val (.int x0), .val (.int x1), .val (.int x2), .val (.int x3), .val (.int x4), .val (.ref ya), .val (.int nA), .val (.int (1 : Int32)), .val (.ref yb), .val (.int nB), .val (.ref fa), .val (.int nF), .unset, .unset, .unset, .unset, .unset, .unset, .unset, .unset, .unset, .unset, .unset, .unset, .unset] [])
    refine o_iconst 155 W (3) at_154 (by first | rfl | decide) ?_
    refine o_newarray 157 3 W (tw hw 0) at_155 (by decide) (by decide) (fun T h fb kfb W Efb Afb gfb zfb => ?_)
    have Afb := own_pad 3 Afb
    refine o_dup 158 W at_157 rfl ?_
    refine o_iconst 159 W (0) at_158 (by first | rfl | decide) ?_
    refine o_iload 161 W at_159 rfl ?_
    refine o_iconst 162 W (2) at_161 (by first | rfl | decide) ?_
    refine o_iushr 163 W at_162 ?_
    refine o_static 166 [(.int (XT.ushr x4 (2 : Int32)))] W (tw hw 5) (tw hw 6) (tw hw 3) (tw hw 7) (con_fc l Z b0 hw _ _ W.old) pd19 at_163 rfl all0 (fun T h v W qq gg => ?_)
    obtain ⟨_, rfl, rfl, rfl⟩ := qq
    show Go p e below _ _ (mkF m 166 #[.val (.int x0), .val (.int x1), .val (.int x2), .val (.int x3), .val (.int x4), .val (.ref ya), .val (.int nA), .val (.int (1 : Int32)), .val (.ref yb), .val (.int nB), .val (.ref fa), .val (.int nF), .unset, .unset, .unset, .unset, .unset, .unset, .unset, .unset, .unset, .unset, .unset, .unset, .unset] [(.int (own_fc (XT.ushr x4 (2 : Int32)))), (.int (0 : Int32)), (.ref fb), (.ref fb)])
    refine o_castore 167 0 W Afb (by decide) rfl (by first | decide | simp) zfb at_166 (fun T h W w0 Afb => ?_)
    have Efb := own_ext_wr Efb w0 gfb
    refine o_dup 168 W at_167 rfl ?_
    refine o_iconst 169 W (1) at_168 (by first | rfl | decide) ?_
    refine o_iload 171 W at_169 rfl ?_
    refine o_iconst 172 W (4) at_171 (by first | rfl | decide) ?_
    refine o_iushr 173 W at_172 ?_
    refine o_static 176 [(.int (XT.ushr x4 (4 : Int32)))] W (tw hw 5) (tw hw 6) (tw hw 3) (tw hw 7) (con_fc l Z b0 hw _ _ W.old) pd19 at_173 rfl all0 (fun T h v W qq gg => ?_)
    obtain ⟨_, rfl, rfl, rfl⟩ := qq
    show Go p e below _ _ (mkF m 176 #[.val (.int x0), .val (.int x1), .val (.int x2), .val (.int x3), .val (.int x4), .val (.ref ya), .val (.int nA), .val (.int (1 : Int32)), .val (.ref yb), .val (.int nB), .val (.ref fa), .val (.int nF), .unset, .unset, .unset, .unset, .unset, .unset, .unset, .unset, .unset, .unset, .unset, .unset, .unset] [(.int (own_fc (XT.ushr x4 (4 : Int32)))), (.int (1 : Int32)), (.ref fb), (.ref fb)])
    refine o_castore 177 1 W Afb (by decide) rfl (by first | decide | simp) zfb at_176 (fun T h W w1 Afb => ?_)
    have Efb := own_ext_wr Efb w1 gfb
    refine o_dup 178 W at_177 rfl ?_
    refine o_iconst 179 W (2) at_178 (by first | rfl | decide) ?_
    refine o_iload 181 W at_179 rfl ?_
    refine o_bipush 183 W (6) at_181 (by first | rfl | decide) ?_
    refine o_iushr 184 W at_183 ?_
    refine o_static 187 [(.int (XT.ushr x4 (6 : Int32)))] W (tw hw 5) (tw hw 6) (tw hw 3) (tw hw 7) (con_fc l Z b0 hw _ _ W.old) pd19 at_184 rfl all0 (fun T h v W qq gg => ?_)
    obtain ⟨_, rfl, rfl, rfl⟩ := qq
    show Go p e below _ _ (mkF m 187 #[.val (.int x0), .val (.int x1), .val (.int x2), .val (.int x3), .val (.int x4), .val (.ref ya), .val (.int nA), .val (.int (1 : Int32)), .val (.ref yb), .val (.int nB), .val (.ref fa), .val (.int nF), .unset, .unset, .unset, .unset, .unset, .unset, .unset, .unset, .unset, .unset, .unset, .unset, .unset] [(.int (own_fc (XT.ushr x4 (6 : Int32)))), (.int (2 : Int32)), (.ref fb), (.ref fb)])
    refine o_castore 188 2 W Afb (by decide) rfl (by first | decide | simp) zfb at_187 (fun T h W w2 Afb => ?_)
    have Efb := own_ext_wr Efb w2 gfb
    simp only [own_nar (own_fcr _), own_nar (own_fcr _), own_nar (own_fcr _)] at Afb
    have Afb : Arv Z h fb kfb .char 3 ([(own_fc (XT.ushr x4 (2 : Int32))), (own_fc (XT.ushr x4 (4 : Int32))), (own_fc (XT.ushr x4 (6 : Int32)))].map Value.int) (.int 0) := Afb
    have Aya := Aya.ext Efb
    have Ayb := Ayb.ext Efb
    have Afa := Afa.ext Efb
    refine o_astore 190 W #[.val (.int x0), .val (.int x1), .val (.int x2), .val (.int x3), .val (.int x4), .val (.ref ya), .val (.int nA), .val (.int (1 : Int32)), .val (.ref yb), .val (.int nB), .val (.ref fa), .val (.int nF), .val (.ref fb), .unset, .unset, .unset, .unset, .unset, .unset, .unset, .unset, .unset, .unset, .unset, .unset] at_188 rfl rfl ?_
    refine o_iload 192 W at_190 rfl ?_
    refine o_iconst 193 W (3) at_192 (by first | rfl | decide) ?_
    refine o_iand 194 W at_193 ?_
    refine o_istore 196 W #[.val (.int x0), .val (.int x1), .val (.int x2), .val (.int x3), .val (.int x4), .val (.ref ya), .val (.int nA), .val (.int (1 : Int32)), .val (.ref yb), .val (.int nB), .val (.ref fa), .val (.int nF), .val (.ref fb), .val (.int (x4 &&& (3 : Int32))), .unset, .unset, .unset, .unset, .unset, .unset, .unset, .unset, .unset, .unset, .unset] at_194 rfl ?_
    obtain ⟨nfb, hnfb, bnfb⟩ := own_and3 x4
    generalize (x4 &&& (3 : Int32)) = nG at hnfb ⊢
    show Go p e below _ _ (mkF m 196 #[.val (.int x0), .val (.int x1), .val (.int x2), .val (.int x3), .val (.int x4), .val (.ref ya), .val (.int nA), .val (.int (1 : Int32)), .val (.ref yb), .val (.int nB), .val (.ref fa), .val (.int nF), .val (.ref fb), .val (.int nG), .unset, .unset, .unset, .unset, .unset, .unset, .unset, .unset, .unset, .unset, .unset] [])
    refine o_iloadN 197 W at_196 rfl ?_
    refine o_istore 199 W #[.val (.int x0), .val (.int x1), .val (.int x2), .val (.int x3), .val (.int x4), .val (.ref ya), .val (.int nA), .val (.int (1 : Int32)), .val (.ref yb), .val (.int nB), .val (.ref fa), .val (.int nF), .val (.ref fb), .val (.int nG), .val (.int x1), .unset, .unset, .unset, .unset, .unset, .unset, .unset, .unset, .unset, .unset] at_197 rfl ?_
    refine Go.cutW W (g' := (mkF m 213 #[.val (.int x0), .val (.int x1), .val (.int x2), .val (.int x3), .val (.int x4), .val (.ref ya), .val (.int nA), .val (.int (1 : Int32)), .val (.ref yb), .val (.int nB), .val (.ref fa), .val (.int nF), .val (.ref fb), .val (.int nG), .val (.int x1), .unset, .unset, .unset, .unset, .unset, .unset, .unset, .unset, .unset, .unset] [(.int (if XT.ushr x0 (13 : Int32) &&& (1 : Int32) = 0 then x2 else x1))])) (fun J => ?_) (fun T W => ?_)
    · refine o_iloadN 200 W at_199 rfl ?_
      refine o_bipush 202 W (13) at_200 (by first | rfl | decide) ?_
      refine o_iushr 203 W at_202 ?_
      refine o_iconst 204 W (1) at_203 (by first | rfl | decide) ?_
      refine o_iand 205 W at_204 ?_
      refine o_ifeq 212 208 W at_205 (fun c205 => ?_) (fun c205 => ?_)
      · refine o_iloadN 213 W at_212 rfl ?_
        exact (J _ W).eq (congrArg (fun z => mkF m 213 #[.val (.int x0), .val (.int x1), .val (.int x2), .val (.int x3), .val (.int x4), .val (.ref ya), .val (.int nA), .val (.int (1 : Int32)), .val (.ref yb), .val (.int nB), .val (.ref fa), .val (.int nF), .val (.ref fb), .val (.int nG), .val (.int x1), .unset, .unset, .unset, .unset, .unset, .unset, .unset, .unset, .unset, .unset] [(.int z)]) (by simp [c205]))
      · refine o_iloadN 209 W at_208 rfl ?_
        refine o_goto 213 W at_209 ?_
        exact (J _ W).eq (congrArg (fun z => mkF m 213 #[.val (.int x0), .val (.int x1), .val (.int x2), .val (.int x3), .val (.int x4), .val (.ref ya), .val (.int nA), .val (.int (1 : Int32)), .val (.ref yb), .val (.int nB), .val (.ref fa), .val (.int nF), .val (.ref fb), .val (.int nG), .val (.int x1), .unset, .unset, .unset, .unset, .unset, .unset, .unset, .unset, .unset, .unset] [(.int z)]) (by simp [c205]))
    refine o_istore 215 W #[.val (.int x0), .val (.int x1), .val (.int x2), .val (.int x3), .val (.int x4), .val (.ref ya), .val (.int nA), .val (.int (1 : Int32)), .val (.ref yb), .val (.int nB), .val (.ref fa), .val (.int nF), .val (.ref fb), .val (.int nG), .val (.int x1), .val (.int (if XT.ushr x0 (13 : Int32) &&& (1 : Int32) = 0 then x2 else x1)), .unset, .unset, .unset, .unset, .unset, .unset, .unset, .unset, .unset] at_213 rfl ?_
    generalize (if XT.ushr x0 (13 : Int32) &&& (1 : Int32) = 0 then x2 else x1) = sb
    show Go p e below _ _ (mkF m 215 #[.val (.int x0), .val (.int x1), .val (.int x2), .val (.int x3), .val (.int x4), .val (.ref ya), .val (.int nA), .val (.int (1 : Int32)), .val (.ref yb), .val (.int nB), .val (.ref fa), .val (.int nF), .val (.ref fb), .val (.int nG), .val (.int x1), .val (.int sb), .unset, .unset, .unset, .unset, .unset, .unset, .unset, .unset, .unset] [])
    refine o_aload 217 W at_215 rfl rfl ?_
    refine o_iload 219 W at_217 rfl ?_
    refine o_static 222 [(.ref ya), (.int nA)] W (tw hw 8) (tw hw 9) (tw hw 3) (tw hw 10) (con_st l Z b0 hw ya kya 2 nA [(own_yc (XT.ushr x0 (2 : Int32))), (own_yc (XT.ushr x0 (4 : Int32)))] na rfl (own_chS (own_ycr _) (own_chS (own_ycr _) own_ch0)) hna (by omega) (by simpa using bna) _ W.old Aya cz hcz SC) pd21 at_219 rfl all0 (fun T h v W qq gg => ?_)
    obtain ⟨_, rfl, t1, rfl, Xt1, Et1⟩ := qq
    show Go p e below _ _ (mkF m 222 #[.val (.int x0), .val (.int x1), .val (.int x2), .val (.int x3), .val (.int x4), .val (.ref ya), .val (.int nA), .val (.int (1 : Int32)), .val (.ref yb), .val (.int nB), .val (.ref fa), .val (.int nF), .val (.ref fb), .val (.int nG), .val (.int x1), .val (.int sb), .unset, .unset, .unset, .unset, .unset, .unset, .unset, .unset, .unset] [(.ref t1)])
    have Aya := Aya.ext Et1
    have Ayb := Ayb.ext Et1
    have Afa := Afa.ext Et1
    have Afb := Afb.ext Et1
    refine o_astore 224 W #[.val (.int x0), .val (.int x1), .val (.int x2), .val (.int x3), .val (.int x4), .val (.ref ya), .val (.int nA), .val (.int (1 : Int32)), .val (.ref yb), .val (.int nB), .val (.ref fa), .val (.int nF), .val (.ref fb), .val (.int nG), .val (.int x1), .val (.int sb), .val (.ref t1), .unset, .unset, .unset, .unset, .unset, .unset, .unset, .unset] at_222 rfl rfl ?_
    refine o_new 227 W (tw hw 32) (tw hw 33) (tw hw 34) at_224 (fun T h a W Ea Aa Da ga za => ?_)
    have Pa := Da (Or.inr (tw hw 83)) (ty := (.object "java/lang/String")) (by decide)
    have Qa := Da (Or.inr (tw hw 85)) (ty := .int) (by decide)
    have Ra := Da (Or.inr (tw hw 103)) (ty := (.object "java/lang/String")) (by decide)
    have Aya := Aya.ext Ea
    have Ayb := Ayb.ext Ea
    have Afa := Afa.ext Ea
    have Afb := Afb.ext Ea
    have Xt1 := Xt1.ext Ea
    refine o_dup 228 W at_227 rfl ?_
    refine o_aload 230 W at_228 rfl rfl ?_
    refine o_iload 232 W at_230 rfl ?_
    refine o_aload 234 W at_232 rfl rfl ?_
    refine o_iload 236 W at_234 rfl ?_
    refine o_static 239 [(.ref fa), (.int nF)] W (tw hw 8) (tw hw 9) (tw hw 3) (tw hw 10) (con_st l Z b0 hw fa kfa 3 nF [(own_fc (XT.ushr x3 (2 : Int32))), (own_fc (XT.ushr x3 (4 : Int32))), (own_fc (XT.ushr x3 (6 : Int32)))] nfa rfl (own_chS (own_fcr _) (own_chS (own_fcr _) (own_chS (own_fcr _) own_ch0))) hnfa (by omega) (by simpa using bnfa) _ W.old Afa cz hcz SC) pd21 at_236 rfl all0 (fun T h v W qq gg => ?_)
    obtain ⟨_, rfl, t2, rfl, Xt2, Et2⟩ := qq
    show Go p e below _ _ (mkF m 239 #[.val (.int x0), .val (.int x1), .val (.int x2), .val (.int x3), .val (.int x4), .val (.ref ya), .val (.int nA), .val (.int (1 : Int32)), .val (.ref yb), .val (.int nB), .val (.ref fa), .val (.int nF), .val (.ref fb), .val (.int nG), .val (.int x1), .val (.int sb), .val (.ref t1), .unset, .unset, .unset, .unset, .unset, .unset, .unset, .unset] [(.ref t2), (.int x1), (.ref t1), (.ref a), (.ref a)])
    have Aya := Aya.ext Et2
    have Ayb := Ayb.ext Et2
    have Afa := Afa.ext Et2
    have Afb := Afb.ext Et2
    have Xt1 := Xt1.ext Et2
    have Aa := Aa.ext Et2
    have Pa := Pa.ext Et2
    have Qa := Qa.ext Et2
    have Ra := Ra.ext Et2
    have La := Aa
    refine o_special 242 [(.ref t1), (.int x1), (.ref t2)] W (tw hw 46) (tw hw 47) (tw hw 34) (tw hw 48) (con_xin l Z b0 hw a t1 x1 t2 ([(own_fc (XT.ushr x3 (2 : Int32))), (own_fc (XT.ushr x3 (4 : Int32))), (own_fc (XT.ushr x3 (6 : Int32)))].take nfa) (by rw [own_take_len (cs := [(own_fc (XT.ushr x3 (2 : Int32))), (own_fc (XT.ushr x3 (4 : Int32))), (own_fc (XT.ushr x3 (6 : Int32)))]) (n := nfa) (by simpa using bnfa)]; omega) (own_take_ch (own_chS (own_fcr _) (own_chS (own_fcr _) (own_chS (own_fcr _) own_ch0))) _) _ W.old Xt2 Aa Pa Qa Ra za cz hcz SC vf rf SF) pd22 at_239 rfl all0 (fun T h v W qq gg => ?_)
    obtain ⟨rfl, Ka, Aa, Pa, Qa, foa, Ra, Va⟩ := qq
    show Go p e below _ _ (mkF m 242 #[.val (.int x0), .val (.int x1), .val (.int x2), .val (.int x3), .val (.int x4), .val (.ref ya), .val (.int nA), .val (.int (1 : Int32)), .val (.ref yb), .val (.int nB), .val (.ref fa), .val (.int nF), .val (.ref fb), .val (.int nG), .val (.int x1), .val (.int sb), .val (.ref t1), .unset, .unset, .unset, .unset, .unset, .unset, .unset, .unset] [(.ref a)])
    rw [own_take_len (cs := [(own_fc (XT.ushr x3 (2 : Int32))), (own_fc (XT.ushr x3 (4 : Int32))), (own_fc (XT.ushr x3 (6 : Int32)))]) (n := nfa) (by simpa using bnfa), own_strip_take _ _ _ (Nat.le_refl _), own_sub_take _ _ _ (own_strip_le _ _)] at Va
    have Aya := own_arvkeep Aya La Ka (tw hw 33)
    have Ayb := own_arvkeep Ayb La Ka (tw hw 33)
    have Afa := own_arvkeep Afa La Ka (tw hw 33)
    have Afb := own_arvkeep Afb La Ka (tw hw 33)
    have Xt1 := own_strkeep Xt1 La Ka (tw hw 33) (by decide)
    refine o_astore 244 W #[.val (.int x0), .val (.int x1), .val (.int x2), .val (.int x3), .val (.int x4), .val (.ref ya), .val (.int nA), .val (.int (1 : Int32)), .val (.ref yb), .val (.int nB), .val (.ref fa), .val (.int nF), .val (.ref fb), .val (.int nG), .val (.int x1), .val (.int sb), .val (.ref t1), .val (.ref a), .unset, .unset, .unset, .unset, .unset, .unset, .unset] at_242 rfl rfl ?_
    refine o_new 247 W (tw hw 32) (tw hw 33) (tw hw 34) at_244 (fun T h b W Eb Ab Db gb zb => ?_)
    have Pb := Db (Or.inr (tw hw 83)) (ty := (.object "java/lang/String")) (by decide)
    have Qb := Db (Or.inr (tw hw 85)) (ty := .int) (by decide)
    have Rb := Db (Or.inr (tw hw 103)) (ty := (.object "java/lang/String")) (by decide)
    have nab : a ≠ b := Nat.ne_of_lt (Nat.lt_of_lt_of_le Aa.lt gb)
    have Aya := Aya.ext Eb
    have Ayb := Ayb.ext Eb
    have Afa := Afa.ext Eb
    have Afb := Afb.ext Eb
    have Xt1 := Xt1.ext Eb
    have Aa := Aa.ext Eb
    have Pa := Pa.ext Eb
    have Qa := Qa.ext Eb
    have Ra := Ra.ext Eb
    have Va := Va.ext Eb
    refine o_dup 248 W at_247 rfl ?_
    refine o_aload 250 W at_248 rfl rfl ?_
    refine o_iload 252 W at_250 rfl ?_
    refine o_static 255 [(.ref yb), (.int nB)] W (tw hw 8) (tw hw 9) (tw hw 3) (tw hw 10) (con_st l Z b0 hw yb kyb 2 nB [(own_yc (XT.ushr x0 (2 : Int32))), (own_yc (XT.ushr x0 (4 : Int32)))] nb rfl (own_chS (own_ycr _) (own_chS (own_ycr _) own_ch0)) hnb (by omega) (by simpa using bnb) _ W.old Ayb cz hcz SC) pd21 at_252 rfl all0 (fun T h v W qq gg => ?_)
    obtain ⟨_, rfl, t3, rfl, Xt3, Et3⟩ := qq
    show Go p e below _ _ (mkF m 255 #[.val (.int x0), .val (.int x1), .val (.int x2), .val (.int x3), .val (.int x4), .val (.ref ya), .val (.int nA), .val (.int (1 : Int32)), .val (.ref yb), .val (.int nB), .val (.ref fa), .val (.int nF), .val (.ref fb), .val (.int nG), .val (.int x1), .val (.int sb), .val (.ref t1), .val (.ref a), .unset, .unset, .unset, .unset, .unset, .unset, .unset] [(.ref t3), (.ref b), (.ref b)])
    have Aya := Aya.ext Et3
    have Ayb := Ayb.ext Et3
    have Afa := Afa.ext Et3
    have Afb := Afb.ext Et3
    have Xt1 := Xt1.ext Et3
    have Aa := Aa.ext Et3
    have Pa := Pa.ext Et3
    have Qa := Qa.ext Et3
    have Ra := Ra.ext Et3
    have Va := Va.ext Et3
    have Ab := Ab.ext Et3
    have Pb := Pb.ext Et3
    have Qb := Qb.ext Et3
    have Rb := Rb.ext Et3
    refine o_iload 257 W at_255 rfl ?_
    refine o_aload 259 W at_257 rfl rfl ?_
    refine o_iload 261 W at_259 rfl ?_
    refine o_static 264 [(.ref fb), (.int nG)] W (tw hw 8) (tw hw 9) (tw hw 3) (tw hw 10) (con_st l Z b0 hw fb kfb 3 nG [(own_fc (XT.ushr x4 (2 : Int32))), (own_fc (XT.ushr x4 (4 : Int32))), (own_fc (XT.ushr x4 (6 : Int32)))] nfb rfl (own_chS (own_fcr _) (own_chS (own_fcr _) (own_chS (own_fcr _) own_ch0))) hnfb (by omega) (by simpa using bnfb) _ W.old Afb cz hcz SC) pd21 at_261 rfl all0 (fun T h v W qq gg => ?_)
    obtain ⟨_, rfl, t4, rfl, Xt4, Et4⟩ := qq
    show Go p e below _ _ (mkF m 264 #[.val (.int x0), .val (.int x1), .val (.int x2), .val (.int x3), .val (.int x4), .val (.ref ya), .val (.int nA), .val (.int (1 : Int32)), .val (.ref yb), .val (.int nB), .val (.ref fa), .val (.int nF), .val (.ref fb), .val (.int nG), .val (.int x1), .val (.int sb), .val (.ref t1), .val (.ref a), .unset, .unset, .unset, .unset, .unset, .unset, .unset] [(.ref t4), (.int sb), (.ref t3), (.ref b), (.ref b)])
    have Aya := Aya.ext Et4
    have Ayb := Ayb.ext Et4
    have Afa := Afa.ext Et4
    have Afb := Afb.ext Et4
    have Xt1 := Xt1.ext Et4
    have Aa := Aa.ext Et4
    have Pa := Pa.ext Et4
    have Qa := Qa.ext Et4
    have Ra := Ra.ext Et4
    have Va := Va.ext Et4
    have Ab := Ab.ext Et4
    have Pb := Pb.ext Et4
    have Qb := Qb.ext Et4
    have Rb := Rb.ext Et4
    have Xt3 := Xt3.ext Et4
    have Lb := Ab
    refine o_special 267 [(.ref t3), (.int sb), (.ref t4)] W (tw hw 46) (tw hw 47) (tw hw 34) (tw hw 48) (con_xin l Z b0 hw b t3 sb t4 ([(own_fc (XT.ushr x4 (2 : Int32))), (own_fc (XT.ushr x4 (4 : Int32))), (own_fc (XT.ushr x4 (6 : Int32)))].take nfb) (by rw [own_take_len (cs := [(own_fc (XT.ushr x4 (2 : Int32))), (own_fc (XT.ushr x4 (4 : Int32))), (own_fc (XT.ushr x4 (6 : Int32)))]) (n := nfb) (by simpa using bnfb)]; omega) (own_take_ch (own_chS (own_fcr _) (own_chS (own_fcr _) (own_chS (own_fcr _) own_ch0))) _) _ W.old Xt4 Ab Pb Qb Rb zb cz hcz SC vf rf SF) pd22 at_264 rfl all0 (fun T h v W qq gg => ?_)
    obtain ⟨rfl, Kb, Ab, Pb, Qb, fob, Rb, Vb⟩ := qq
    show Go p e below _ _ (mkF m 267 #[.val (.int x0), .val (.int x1), .val (.int x2), .val (.int x3), .val (.int x4), .val (.ref ya), .val (.int nA), .val (.int (1 : Int32)), .val (.ref yb), .val (.int nB), .val (.ref fa), .val (.int nF), .val (.ref fb), .val (.int nG), .val (.int x1), .val (.int sb), .val (.ref t1), .val (.ref a), .unset, .unset, .unset, .unset, .unset, .unset, .unset] [(.ref b)])
    rw [own_take_len (cs := [(own_fc (XT.ushr x4 (2 : Int32))), (own_fc (XT.ushr x4 (4 : Int32))), (own_fc (XT.ushr x4 (6 : Int32)))]) (n := nfb) (by simpa using bnfb), own_strip_take _ _ _ (Nat.le_refl _), own_sub_take _ _ _ (own_strip_le _ _)] at Vb
    have Aya := own_arvkeep Aya Lb Kb (tw hw 33)
    have Ayb := own_arvkeep Ayb Lb Kb (tw hw 33)
    have Afa := own_arvkeep Afa Lb Kb (tw hw 33)
    have Afb := own_arvkeep Afb Lb Kb (tw hw 33)
    have Xt1 := own_strkeep Xt1 Lb Kb (tw hw 33) (by decide)
    have Aa := Aa.keep Kb
    have Pa := Pa.keep Kb (ninS nab nin0)
    have Qa := Qa.keep Kb (ninS nab nin0)
    have Ra := Ra.keep Kb (ninS nab nin0)
    have Va := own_strkeep Va Lb Kb (tw hw 33) (by decide)
    have Xt3 := own_strkeep Xt3 Lb Kb (tw hw 33) (by decide)
    refine o_astore 269 W #[.val (.int x0), .val (.int x1), .val (.int x2), .val (.int x3), .val (.int x4), .val (.ref ya), .val (.int nA), .val (.int (1 : Int32)), .val (.ref yb), .val (.int nB), .val (.ref fa), .val (.int nF), .val (.ref fb), .val (.int nG), .val (.int x1), .val (.int sb), .val (.ref t1), .val (.ref a), .val (.ref b), .unset, .unset, .unset, .unset, .unset, .unset] at_267 rfl rfl ?_
    have hte : ([(own_yc (XT.ushr x0 (2 : Int32))), (own_yc (XT.ushr x0 (4 : Int32)))].take na = [(own_yc (XT.ushr x0 (2 : Int32))), (own_yc (XT.ushr x0 (4 : Int32)))].take nb) ↔ (nA = nB ∧ (nA < 1 ∨ (own_yc (XT.ushr x0 (2 : Int32))) = (own_yc (XT.ushr x0 (2 : Int32)))) ∧ (nA < 2 ∨ (own_yc (XT.ushr x0 (4 : Int32))) = (own_yc (XT.ushr x0 (4 : Int32))))) := by rw [own_take2 _ _ _ _ _ _ bna bnb, own_eqI hna hnb, own_lteI hna (z := 1) (k := 1) rfl, own_lteI hna (z := 2) (k := 2) rfl]
    refine Go.cutW W (g' := (mkF m 315 #[.val (.int x0), .val (.int x1), .val (.int x2), .val (.int x3), .val (.int x4), .val (.ref ya), .val (.int nA), .val (.int (1 : Int32)), .val (.ref yb), .val (.int nB), .val (.ref fa), .val (.int nF), .val (.ref fb), .val (.int nG), .val (.int x1), .val (.int sb), .val (.ref t1), .val (.ref a), .val (.ref b), .unset, .unset, .unset, .unset, .unset, .unset] [(.int (own_bi (decide ([(own_yc (XT.ushr x0 (2 : Int32))), (own_yc (XT.ushr x0 (4 : Int32)))].take na = [(own_yc (XT.ushr x0 (2 : Int32))), (own_yc (XT.ushr x0 (4 : Int32)))].take nb))))])) (fun J => ?_) (fun T W => ?_)
    · refine o_iload 271 W at_269 rfl ?_
      refine o_iload 273 W at_271 rfl ?_
      refine o_icne 314 276 W at_273 (fun c273 => ?_) (fun c273 => ?_)
      · refine o_iconst 315 W (0) at_314 (by first | rfl | decide) ?_
        exact (J _ W).eq (congrArg (fun z => mkF m 315 #[.val (.int x0), .val (.int x1), .val (.int x2), .val (.int x3), .val (.int x4), .val (.ref ya), .val (.int nA), .val (.int (1 : Int32)), .val (.ref yb), .val (.int nB), .val (.ref fa), .val (.int nF), .val (.ref fb), .val (.int nG), .val (.int x1), .val (.int sb), .val (.ref t1), .val (.ref a), .val (.ref b), .unset, .unset, .unset, .unset, .unset, .unset] [(.int z)]) (by rw [decide_eq_false (fun z => c273 (hte.mp z).1)]; rfl))
      · refine o_iload 278 W at_276 rfl ?_
        refine o_iconst 279 W (1) at_278 (by first | rfl | decide) ?_
        refine o_iclt 293 282 W at_279 (fun c279 => ?_) (fun c279 => ?_)
        · refine o_iload 295 W at_293 rfl ?_
          refine o_iconst 296 W (2) at_295 (by first | rfl | decide) ?_
          refine o_iclt 310 299 W at_296 (fun c296 => ?_) (fun c296 => ?_)
          · refine o_iconst 311 W (1) at_310 (by first | rfl | decide) ?_
            refine o_goto 315 W at_311 ?_
            exact (J _ W).eq (congrArg (fun z => mkF m 315 #[.val (.int x0), .val (.int x1), .val (.int x2), .val (.int x3), .val (.int x4), .val (.ref ya), .val (.int nA), .val (.int (1 : Int32)), .val (.ref yb), .val (.int nB), .val (.ref fa), .val (.int nF), .val (.ref fb), .val (.int nG), .val (.int x1), .val (.int sb), .val (.ref t1), .val (.ref a), .val (.ref b), .unset, .unset, .unset, .unset, .unset, .unset] [(.int z)]) (by rw [decide_eq_true (hte.mpr ⟨c273, Or.inl c279, Or.inl c296⟩)]; rfl))
          · refine o_aload 301 W at_299 rfl rfl ?_
            refine o_iconst 302 W (1) at_301 (by first | rfl | decide) ?_
            refine o_caloadV 303 W Aya (by decide) rfl at_302 ?_
            refine o_aload 305 W at_303 rfl rfl ?_
            refine o_iconst 306 W (1) at_305 (by first | rfl | decide) ?_
            refine o_caloadV 307 W Ayb (by decide) rfl at_306 ?_
            refine o_icne 314 310 W at_307 (fun c307 => ?_) (fun c307 => ?_)
            · refine o_iconst 315 W (0) at_314 (by first | rfl | decide) ?_
              exact (J _ W).eq (congrArg (fun z => mkF m 315 #[.val (.int x0), .val (.int x1), .val (.int x2), .val (.int x3), .val (.int x4), .val (.ref ya), .val (.int nA), .val (.int (1 : Int32)), .val (.ref yb), .val (.int nB), .val (.ref fa), .val (.int nF), .val (.ref fb), .val (.int nG), .val (.int x1), .val (.int sb), .val (.ref t1), .val (.ref a), .val (.ref b), .unset, .unset, .unset, .unset, .unset, .unset] [(.int z)]) (by rw [decide_eq_false (fun z => (hte.mp z).2.2.elim c296 c307)]; rfl))
            · refine o_iconst 311 W (1) at_310 (by first | rfl | decide) ?_
              refine o_goto 315 W at_311 ?_
              exact (J _ W).eq (congrArg (fun z => mkF m 315 #[.val (.int x0), .val (.int x1), .val (.int x2), .val (.int x3), .val (.int x4), .val (.ref ya), .val (.int nA), .val (.int (1 : Int32)), .val (.ref yb), .val (.int nB), .val (.ref fa), .val (.int nF), .val (.ref fb), .val (.int nG), .val (.int x1), .val (.int sb), .val (.ref t1), .val (.ref a), .val (.ref b), .unset, .unset, .unset, .unset, .unset, .unset] [(.int z)]) (by rw [decide_eq_true (hte.mpr ⟨c273, Or.inl c279, Or.inr c307⟩)]; rfl))
        · refine o_aload 284 W at_282 rfl rfl ?_
          refine o_iconst 285 W (0) at_284 (by first | rfl | decide) ?_
          refine o_caloadV 286 W Aya (by decide) rfl at_285 ?_
          refine o_aload 288 W at_286 rfl rfl ?_
          refine o_iconst 289 W (0) at_288 (by first | rfl | decide) ?_
          refine o_caloadV 290 W Ayb (by decide) rfl at_289 ?_
          refine o_icne 314 293 W at_290 (fun c290 => ?_) (fun c290 => ?_)
          · refine o_iconst 315 W (0) at_314 (by first | rfl | decide) ?_
            exact (J _ W).eq (congrArg (fun z => mkF m 315 #[.val (.int x0), .val (.int x1), .val (.int x2), .val (.int x3), .val (.int x4), .val (.ref ya), .val (.int nA), .val (.int (1 : Int32)), .val (.ref yb), .val (.int nB), .val (.ref fa), .val (.int nF), .val (.ref fb), .val (.int nG), .val (.int x1), .val (.int sb), .val (.ref t1), .val (.ref a), .val (.ref b), .unset, .unset, .unset, .unset, .unset, .unset] [(.int z)]) (by rw [decide_eq_false (fun z => (hte.mp z).2.1.elim c279 c290)]; rfl))
          · refine o_iload 295 W at_293 rfl ?_
            refine o_iconst 296 W (2) at_295 (by first | rfl | decide) ?_
            refine o_iclt 310 299 W at_296 (fun c296 => ?_) (fun c296 => ?_)
            · refine o_iconst 311 W (1) at_310 (by first | rfl | decide) ?_
              refine o_goto 315 W at_311 ?_
              exact (J _ W).eq (congrArg (fun z => mkF m 315 #[.val (.int x0), .val (.int x1), .val (.int x2), .val (.int x3), .val (.int x4), .val (.ref ya), .val (.int nA), .val (.int (1 : Int32)), .val (.ref yb), .val (.int nB), .val (.ref fa), .val (.int nF), .val (.ref fb), .val (.int nG), .val (.int x1), .val (.int sb), .val (.ref t1), .val (.ref a), .val (.ref b), .unset, .unset, .unset, .unset, .unset, .unset] [(.int z)]) (by rw [decide_eq_true (hte.mpr ⟨c273, Or.inr c290, Or.inl c296⟩)]; rfl))
            · refine o_aload 301 W at_299 rfl rfl ?_
              refine o_iconst 302 W (1) at_301 (by first | rfl | decide) ?_
              refine o_caloadV 303 W Aya (by decide) rfl at_302 ?_
              refine o_aload 305 W at_303 rfl rfl ?_
              refine o_iconst 306 W (1) at_305 (by first | rfl | decide) ?_
              refine o_caloadV 307 W Ayb (by decide) rfl at_306 ?_
              refine o_icne 314 310 W at_307 (fun c307 => ?_) (fun c307 => ?_)
              · refine o_iconst 315 W (0) at_314 (by first | rfl | decide) ?_
                exact (J _ W).eq (congrArg (fun z => mkF m 315 #[.val (.int x0), .val (.int x1), .val (.int x2), .val (.int x3), .val (.int x4), .val (.ref ya), .val (.int nA), .val (.int (1 : Int32)), .val (.ref yb), .val (.int nB), .val (.ref fa), .val (.int nF), .val (.ref fb), .val (.int nG), .val (.int x1), .val (.int sb), .val (.ref t1), .val (.ref a), .val (.ref b), .unset, .unset, .unset, .unset, .unset, .unset] [(.int z)]) (by rw [decide_eq_false (fun z => (hte.mp z).2.2.elim c296 c307)]; rfl))
              · refine o_iconst 311 W (1) at_310 (by first | rfl | decide) ?_
                refine o_goto 315 W at_311 ?_
                exact (J _ W).eq (congrArg (fun z => mkF m 315 #[.val (.int x0), .val (.int x1), .val (.int x2), .val (.int x3), .val (.int x4), .val (.ref ya), .val (.int nA), .val (.int (1 : Int32)), .val (.ref yb), .val (.int nB), .val (.ref fa), .val (.int nF), .val (.ref fb), .val (.int nG), .val (.int x1), .val (.int sb), .val (.ref t1), .val (.ref a), .val (.ref b), .unset, .unset, .unset, .unset, .unset, .unset] [(.int z)]) (by rw [decide_eq_true (hte.mpr ⟨c273, Or.inr c290, Or.inr c307⟩)]; rfl))
    refine o_istore 317 W #[.val (.int x0), .val (.int x1), .val (.int x2), .val (.int x3), .val (.int x4), .val (.ref ya), .val (.int nA), .val (.int (1 : Int32)), .val (.ref yb), .val (.int nB), .val (.ref fa), .val (.int nF), .val (.ref fb), .val (.int nG), .val (.int x1), .val (.int sb), .val (.ref t1), .val (.ref a), .val (.ref b), .val (.int (own_bi (decide ([(own_yc (XT.ushr x0 (2 : Int32))), (own_yc (XT.ushr x0 (4 : Int32)))].take na = [(own_yc (XT.ushr x0 (2 : Int32))), (own_yc (XT.ushr x0 (4 : Int32)))].take nb)))), .unset, .unset, .unset, .unset, .unset] at_315 rfl ?_
    refine o_aload 319 W at_317 rfl rfl ?_
    refine o_iload 321 W at_319 rfl ?_
    refine o_static 324 [(.ref fa), (.int nF)] W (tw hw 104) (tw hw 105) (tw hw 3) (tw hw 106) (con_stp l Z b0 hw fa kfa nF [(own_fc (XT.ushr x3 (2 : Int32))), (own_fc (XT.ushr x3 (4 : Int32))), (own_fc (XT.ushr x3 (6 : Int32)))] nfa rfl hnfa bnfa _ W.old Afa) pd23 at_321 rfl all0 (fun T h v W qq gg => ?_)
    obtain ⟨_, rfl, vA, rfl, hvA, rfl⟩ := qq
    show Go p e below _ _ (mkF m 324 #[.val (.int x0), .val (.int x1), .val (.int x2), .val (.int x3), .val (.int x4), .val (.ref ya), .val (.int nA), .val (.int (1 : Int32)), .val (.ref yb), .val (.int nB), .val (.ref fa), .val (.int nF), .val (.ref fb), .val (.int nG), .val (.int x1), .val (.int sb), .val (.ref t1), .val (.ref a), .val (.ref b), .val (.int (own_bi (decide ([(own_yc (XT.ushr x0 (2 : Int32))), (own_yc (XT.ushr x0 (4 : Int32)))].take na = [(own_yc (XT.ushr x0 (2 : Int32))), (own_yc (XT.ushr x0 (4 : Int32)))].take nb)))), .unset, .unset, .unset, .unset, .unset] [(.int vA)])
    refine o_istore 326 W #[.val (.int x0), .val (.int x1), .val (.int x2), .val (.int x3), .val (.int x4), .val (.ref ya), .val (.int nA), .val (.int (1 : Int32)), .val (.ref yb), .val (.int nB), .val (.ref fa), .val (.int nF), .val (.ref fb), .val (.int nG), .val (.int x1), .val (.int sb), .val (.ref t1), .val (.ref a), .val (.ref b), .val (.int (own_bi (decide ([(own_yc (XT.ushr x0 (2 : Int32))), (own_yc (XT.ushr x0 (4 : Int32)))].take na = [(own_yc (XT.ushr x0 (2 : Int32))), (own_yc (XT.ushr x0 (4 : Int32)))].take nb)))), .val (.int vA), .unset, .unset, .unset, .unset] at_324 rfl ?_
    refine o_aload 328 W at_326 rfl rfl ?_
    refine o_iload 330 W at_328 rfl ?_
    refine o_static 333 [(.ref fb), (.int nG)] W (tw hw 104) (tw hw 105) (tw hw 3) (tw hw 106) (con_stp l Z b0 hw fb kfb nG [(own_fc (XT.ushr x4 (2 : Int32))), (own_fc (XT.ushr x4 (4 : Int32))), (own_fc (XT.ushr x4 (6 : Int32)))] nfb rfl hnfb bnfb _ W.old Afb) pd23 at_330 rfl all0 (fun T h v W qq gg => ?_)
    obtain ⟨_, rfl, vB, rfl, hvB, rfl⟩ := qq
    show Go p e below _ _ (mkF m 333 #[.val (.int x0), .val (.int x1), .val (.int x2), .val (.int x3), .val (.int x4), .val (.ref ya), .val (.int nA), .val (.int (1 : Int32)), .val (.ref yb), .val (.int nB), .val (.ref fa), .val (.int nF), .val (.ref fb), .val (.int nG), .val (.int x1), .val (.int sb), .val (.ref t1), .val (.ref a), .val (.ref b), .val (.int (own_bi (decide ([(own_yc (XT.ushr x0 (2 : Int32))), (own_yc (XT.ushr x0 (4 : Int32)))].take na = [(own_yc (XT.ushr x0 (2 : Int32))), (own_yc (XT.ushr x0 (4 : Int32)))].take nb)))), .val (.int vA), .unset, .unset, .unset, .unset] [(.int vB)])
    refine o_istore 335 W #[.val (.int x0), .val (.int x1), .val (.int x2), .val (.int x3), .val (.int x4), .val (.ref ya), .val (.int nA), .val (.int (1 : Int32)), .val (.ref yb), .val (.int nB), .val (.ref fa), .val (.int nF), .val (.ref fb), .val (.int nG), .val (.int x1), .val (.int sb), .val (.ref t1), .val (.ref a), .val (.ref b), .val (.int (own_bi (decide ([(own_yc (XT.ushr x0 (2 : Int32))), (own_yc (XT.ushr x0 (4 : Int32)))].take na = [(own_yc (XT.ushr x0 (2 : Int32))), (own_yc (XT.ushr x0 (4 : Int32)))].take nb)))), .val (.int vA), .val (.int vB), .unset, .unset, .unset] at_333 rfl ?_
    have bA := Nat.le_trans (own_strip_le [(own_fc (XT.ushr x3 (2 : Int32))), (own_fc (XT.ushr x3 (4 : Int32))), (own_fc (XT.ushr x3 (6 : Int32)))] nfa) bnfa
    have bB := Nat.le_trans (own_strip_le [(own_fc (XT.ushr x4 (2 : Int32))), (own_fc (XT.ushr x4 (4 : Int32))), (own_fc (XT.ushr x4 (6 : Int32)))] nfb) bnfb
    generalize own_strip [(own_fc (XT.ushr x3 (2 : Int32))), (own_fc (XT.ushr x3 (4 : Int32))), (own_fc (XT.ushr x3 (6 : Int32)))] nfa = kA at hvA bA Va
    generalize own_strip [(own_fc (XT.ushr x4 (2 : Int32))), (own_fc (XT.ushr x4 (4 : Int32))), (own_fc (XT.ushr x4 (6 : Int32)))] nfb = kB at hvB bB Vb
    have htf : ([(own_fc (XT.ushr x3 (2 : Int32))), (own_fc (XT.ushr x3 (4 : Int32))), (own_fc (XT.ushr x3 (6 : Int32)))].take kA = [(own_fc (XT.ushr x4 (2 : Int32))), (own_fc (XT.ushr x4 (4 : Int32))), (own_fc (XT.ushr x4 (6 : Int32)))].take kB) ↔ (vA = vB ∧ (vA < 1 ∨ (own_fc (XT.ushr x3 (2 : Int32))) = (own_fc (XT.ushr x4 (2 : Int32)))) ∧ (vA < 2 ∨ (own_fc (XT.ushr x3 (4 : Int32))) = (own_fc (XT.ushr x4 (4 : Int32)))) ∧ (vA < 3 ∨ (own_fc (XT.ushr x3 (6 : Int32))) = (own_fc (XT.ushr x4 (6 : Int32))))) := by rw [own_take3 _ _ _ _ _ _ _ _ bA bB, own_eqI hvA hvB, own_lteI hvA (z := 1) (k := 1) rfl, own_lteI hvA (z := 2) (k := 2) rfl, own_lteI hvA (z := 3) (k := 3) rfl]
    refine Go.cutW W (g' := (mkF m 398 #[.val (.int x0), .val (.int x1), .val (.int x2), .val (.int x3), .val (.int x4), .val (.ref ya), .val (.int nA), .val (.int (1 : Int32)), .val (.ref yb), .val (.int nB), .val (.ref fa), .val (.int nF), .val (.ref fb), .val (.int nG), .val (.int x1), .val (.int sb), .val (.ref t1), .val (.ref a), .val (.ref b), .val (.int (own_bi (decide ([(own_yc (XT.ushr x0 (2 : Int32))), (own_yc (XT.ushr x0 (4 : Int32)))].take na = [(own_yc (XT.ushr x0 (2 : Int32))), (own_yc (XT.ushr x0 (4 : Int32)))].take nb)))), .val (.int vA), .val (.int vB), .unset, .unset, .unset] [(.int (own_bi (decide ([(own_fc (XT.ushr x3 (2 : Int32))), (own_fc (XT.ushr x3 (4 : Int32))), (own_fc (XT.ushr x3 (6 : Int32)))].take kA = [(own_fc (XT.ushr x4 (2 : Int32))), (own_fc (XT.ushr x4 (4 : Int32))), (own_fc (XT.ushr x4 (6 : Int32)))].take kB))))])) (fun J => ?_) (fun T W => ?_)
    · refine o_iload 337 W at_335 rfl ?_
      refine o_iload 339 W at_337 rfl ?_
      refine o_icne 397 342 W at_339 (fun c339 => ?_) (fun c339 => ?_)
      · refine o_iconst 398 W (0) at_397 (by first | rfl | decide) ?_
        exact (J _ W).eq (congrArg (fun z => mkF m 398 #[.val (.int x0), .val (.int x1), .val (.int x2), .val (.int x3), .val (.int x4), .val (.ref ya), .val (.int nA), .val (.int (1 : Int32)), .val (.ref yb), .val (.int nB), .val (.ref fa), .val (.int nF), .val (.ref fb), .val (.int nG), .val (.int x1), .val (.int sb), .val (.ref t1), .val (.ref a), .val (.ref b), .val (.int (own_bi (decide ([(own_yc (XT.ushr x0 (2 : Int32))), (own_yc (XT.ushr x0 (4 : Int32)))].take na = [(own_yc (XT.ushr x0 (2 : Int32))), (own_yc (XT.ushr x0 (4 : Int32)))].take nb)))), .val (.int vA), .val (.int vB), .unset, .unset, .unset] [(.int z)]) (by rw [decide_eq_false (fun z => c339 (htf.mp z).1)]; rfl))
      · refine o_iload 344 W at_342 rfl ?_
        refine o_iconst 345 W (1) at_344 (by first | rfl | decide) ?_
        refine o_iclt 359 348 W at_345 (fun c345 => ?_) (fun c345 => ?_)
        · refine o_iload 361 W at_359 rfl ?_
          refine o_iconst 362 W (2) at_361 (by first | rfl | decide) ?_
          refine o_iclt 376 365 W at_362 (fun c362 => ?_) (fun c362 => ?_)
          · refine o_iload 378 W at_376 rfl ?_
            refine o_iconst 379 W (3) at_378 (by first | rfl | decide) ?_
            refine o_iclt 393 382 W at_379 (fun c379 => ?_) (fun c379 => ?_)
            · refine o_iconst 394 W (1) at_393 (by first | rfl | decide) ?_
              refine o_goto 398 W at_394 ?_
              exact (J _ W).eq (congrArg (fun z => mkF m 398 #[.val (.int x0), .val (.int x1), .val (.int x2), .val (.int x3), .val (.int x4), .val (.ref ya), .val (.int nA), .val (.int (1 : Int32)), .val (.ref yb), .val (.int nB), .val (.ref fa), .val (.int nF), .val (.ref fb), .val (.int nG), .val (.int x1), .val (.int sb), .val (.ref t1), .val (.ref a), .val (.ref b), .val (.int (own_bi (decide ([(own_yc (XT.ushr x0 (2 : Int32))), (own_yc (XT.ushr x0 (4 : Int32)))].take na = [(own_yc (XT.ushr x0 (2 : Int32))), (own_yc (XT.ushr x0 (4 : Int32)))].take nb)))), .val (.int vA), .val (.int vB), .unset, .unset, .unset] [(.int z)]) (by rw [decide_eq_true (htf.mpr ⟨c339, Or.inl c345, Or.inl c362, Or.inl c379⟩)]; rfl))
            · refine o_aload 384 W at_382 rfl rfl ?_
              refine o_iconst 385 W (2) at_384 (by first | rfl | decide) ?_
              refine o_caloadV 386 W Afa (by decide) rfl at_385 ?_
              refine o_aload 388 W at_386 rfl rfl ?_
              refine o_iconst 389 W (2) at_388 (by first | rfl | decide) ?_
              refine o_caloadV 390 W Afb (by decide) rfl at_389 ?_
              refine o_icne 397 393 W at_390 (fun c390 => ?_) (fun c390 => ?_)
              · refine o_iconst 398 W (0) at_397 (by first | rfl | decide) ?_
                exact (J _ W).eq (congrArg (fun z => mkF m 398 #[.val (.int x0), .val (.int x1), .val (.int x2), .val (.int x3), .val (.int x4), .val (.ref ya), .val (.int nA), .val (.int (1 : Int32)), .val (.ref yb), .val (.int nB), .val (.ref fa), .val (.int nF), .val (.ref fb), .val (.int nG), .val (.int x1), .val (.int sb), .val (.ref t1), .val (.ref a), .val (.ref b), .val (.int (own_bi (decide ([(own_yc (XT.ushr x0 (2 : Int32))), (own_yc (XT.ushr x0 (4 : Int32)))].take na = [(own_yc (XT.ushr x0 (2 : Int32))), (own_yc (XT.ushr x0 (4 : Int32)))].take nb)))), .val (.int vA), .val (.int vB), .unset, .unset, .unset] [(.int z)]) (by rw [decide_eq_false (fun z => (htf.mp z).2.2.2.elim c379 c390)]; rfl))
              · refine o_iconst 394 W (1) at_393 (by first | rfl | decide) ?_
                refine o_goto 398 W at_394 ?_
                exact (J _ W).eq (congrArg (fun z => mkF m 398 #[.val (.int x0), .val (.int x1), .val (.int x2), .val (.int x3), .val (.int x4), .val (.ref ya), .val (.int nA), .val (.int (1 : Int32)), .val (.ref yb), .val (.int nB), .val (.ref fa), .val (.int nF), .val (.ref fb), .val (.int nG), .val (.int x1), .val (.int sb), .val (.ref t1), .val (.ref a), .val (.ref b), .val (.int (own_bi (decide ([(own_yc (XT.ushr x0 (2 : Int32))), (own_yc (XT.ushr x0 (4 : Int32)))].take na = [(own_yc (XT.ushr x0 (2 : Int32))), (own_yc (XT.ushr x0 (4 : Int32)))].take nb)))), .val (.int vA), .val (.int vB), .unset, .unset, .unset] [(.int z)]) (by rw [decide_eq_true (htf.mpr ⟨c339, Or.inl c345, Or.inl c362, Or.inr c390⟩)]; rfl))
          · refine o_aload 367 W at_365 rfl rfl ?_
            refine o_iconst 368 W (1) at_367 (by first | rfl | decide) ?_
            refine o_caloadV 369 W Afa (by decide) rfl at_368 ?_
            refine o_aload 371 W at_369 rfl rfl ?_
            refine o_iconst 372 W (1) at_371 (by first | rfl | decide) ?_
            refine o_caloadV 373 W Afb (by decide) rfl at_372 ?_
            refine o_icne 397 376 W at_373 (fun c373 => ?_) (fun c373 => ?_)
            · refine o_iconst 398 W (0) at_397 (by first | rfl | decide) ?_
              exact (J _ W).eq (congrArg (fun z => mkF m 398 #[.val (.int x0), .val (.int x1), .val (.int x2), .val (.int x3), .val (.int x4), .val (.ref ya), .val (.int nA), .val (.int (1 : Int32)), .val (.ref yb), .val (.int nB), .val (.ref fa), .val (.int nF), .val (.ref fb), .val (.int nG), .val (.int x1), .val (.int sb), .val (.ref t1), .val (.ref a), .val (.ref b), .val (.int (own_bi (decide ([(own_yc (XT.ushr x0 (2 : Int32))), (own_yc (XT.ushr x0 (4 : Int32)))].take na = [(own_yc (XT.ushr x0 (2 : Int32))), (own_yc (XT.ushr x0 (4 : Int32)))].take nb)))), .val (.int vA), .val (.int vB), .unset, .unset, .unset] [(.int z)]) (by rw [decide_eq_false (fun z => (htf.mp z).2.2.1.elim c362 c373)]; rfl))
            · refine o_iload 378 W at_376 rfl ?_
              refine o_iconst 379 W (3) at_378 (by first | rfl | decide) ?_
              refine o_iclt 393 382 W at_379 (fun c379 => ?_) (fun c379 => ?_)
              · refine o_iconst 394 W (1) at_393 (by first | rfl | decide) ?_
                refine o_goto 398 W at_394 ?_
                exact (J _ W).eq (congrArg (fun z => mkF m 398 #[.val (.int x0), .val (.int x1), .val (.int x2), .val (.int x3), .val (.int x4), .val (.ref ya), .val (.int nA), .val (.int (1 : Int32)), .val (.ref yb), .val (.int nB), .val (.ref fa), .val (.int nF), .val (.ref fb), .val (.int nG), .val (.int x1), .val (.int sb), .val (.ref t1), .val (.ref a), .val (.ref b), .val (.int (own_bi (decide ([(own_yc (XT.ushr x0 (2 : Int32))), (own_yc (XT.ushr x0 (4 : Int32)))].take na = [(own_yc (XT.ushr x0 (2 : Int32))), (own_yc (XT.ushr x0 (4 : Int32)))].take nb)))), .val (.int vA), .val (.int vB), .unset, .unset, .unset] [(.int z)]) (by rw [decide_eq_true (htf.mpr ⟨c339, Or.inl c345, Or.inr c373, Or.inl c379⟩)]; rfl))
              · refine o_aload 384 W at_382 rfl rfl ?_
                refine o_iconst 385 W (2) at_384 (by first | rfl | decide) ?_
                refine o_caloadV 386 W Afa (by decide) rfl at_385 ?_
                refine o_aload 388 W at_386 rfl rfl ?_
                refine o_iconst 389 W (2) at_388 (by first | rfl | decide) ?_
                refine o_caloadV 390 W Afb (by decide) rfl at_389 ?_
                refine o_icne 397 393 W at_390 (fun c390 => ?_) (fun c390 => ?_)
                · refine o_iconst 398 W (0) at_397 (by first | rfl | decide) ?_
                  exact (J _ W).eq (congrArg (fun z => mkF m 398 #[.val (.int x0), .val (.int x1), .val (.int x2), .val (.int x3), .val (.int x4), .val (.ref ya), .val (.int nA), .val (.int (1 : Int32)), .val (.ref yb), .val (.int nB), .val (.ref fa), .val (.int nF), .val (.ref fb), .val (.int nG), .val (.int x1), .val (.int sb), .val (.ref t1), .val (.ref a), .val (.ref b), .val (.int (own_bi (decide ([(own_yc (XT.ushr x0 (2 : Int32))), (own_yc (XT.ushr x0 (4 : Int32)))].take na = [(own_yc (XT.ushr x0 (2 : Int32))), (own_yc (XT.ushr x0 (4 : Int32)))].take nb)))), .val (.int vA), .val (.int vB), .unset, .unset, .unset] [(.int z)]) (by rw [decide_eq_false (fun z => (htf.mp z).2.2.2.elim c379 c390)]; rfl))
                · refine o_iconst 394 W (1) at_393 (by first | rfl | decide) ?_
                  refine o_goto 398 W at_394 ?_
                  exact (J _ W).eq (congrArg (fun z => mkF m 398 #[.val (.int x0), .val (.int x1), .val (.int x2), .val (.int x3), .val (.int x4), .val (.ref ya), .val (.int nA), .val (.int (1 : Int32)), .val (.ref yb), .val (.int nB), .val (.ref fa), .val (.int nF), .val (.ref fb), .val (.int nG), .val (.int x1), .val (.int sb), .val (.ref t1), .val (.ref a), .val (.ref b), .val (.int (own_bi (decide ([(own_yc (XT.ushr x0 (2 : Int32))), (own_yc (XT.ushr x0 (4 : Int32)))].take na = [(own_yc (XT.ushr x0 (2 : Int32))), (own_yc (XT.ushr x0 (4 : Int32)))].take nb)))), .val (.int vA), .val (.int vB), .unset, .unset, .unset] [(.int z)]) (by rw [decide_eq_true (htf.mpr ⟨c339, Or.inl c345, Or.inr c373, Or.inr c390⟩)]; rfl))
        · refine o_aload 350 W at_348 rfl rfl ?_
          refine o_iconst 351 W (0) at_350 (by first | rfl | decide) ?_
          refine o_caloadV 352 W Afa (by decide) rfl at_351 ?_
          refine o_aload 354 W at_352 rfl rfl ?_
          refine o_iconst 355 W (0) at_354 (by first | rfl | decide) ?_
          refine o_caloadV 356 W Afb (by decide) rfl at_355 ?_
          refine o_icne 397 359 W at_356 (fun c356 => ?_) (fun c356 => ?_)
          · refine o_iconst 398 W (0) at_397 (by first | rfl | decide) ?_
            exact (J _ W).eq (congrArg (fun z => mkF m 398 #[.val (.int x0), .val (.int x1), .val (.int x2), .val (.int x3), .val (.int x4), .val (.ref ya), .val (.int nA), .val (.int (1 : Int32)), .val (.ref yb), .val (.int nB), .val (.ref fa), .val (.int nF), .val (.ref fb), .val (.int nG), .val (.int x1), .val (.int sb), .val (.ref t1), .val (.ref a), .val (.ref b), .val (.int (own_bi (decide ([(own_yc (XT.ushr x0 (2 : Int32))), (own_yc (XT.ushr x0 (4 : Int32)))].take na = [(own_yc (XT.ushr x0 (2 : Int32))), (own_yc (XT.ushr x0 (4 : Int32)))].take nb)))), .val (.int vA), .val (.int vB), .unset, .unset, .unset] [(.int z)]) (by rw [decide_eq_false (fun z => (htf.mp z).2.1.elim c345 c356)]; rfl))
          · refine o_iload 361 W at_359 rfl ?_
            refine o_iconst 362 W (2) at_361 (by first | rfl | decide) ?_
            refine o_iclt 376 365 W at_362 (fun c362 => ?_) (fun c362 => ?_)
            · refine o_iload 378 W at_376 rfl ?_
              refine o_iconst 379 W (3) at_378 (by first | rfl | decide) ?_
              refine o_iclt 393 382 W at_379 (fun c379 => ?_) (fun c379 => ?_)
              · refine o_iconst 394 W (1) at_393 (by first | rfl | decide) ?_
                refine o_goto 398 W at_394 ?_
                exact (J _ W).eq (congrArg (fun z => mkF m 398 #[.val (.int x0), .val (.int x1), .val (.int x2), .val (.int x3), .val (.int x4), .val (.ref ya), .val (.int nA), .val (.int (1 : Int32)), .val (.ref yb), .val (.int nB), .val (.ref fa), .val (.int nF), .val (.ref fb), .val (.int nG), .val (.int x1), .val (.int sb), .val (.ref t1), .val (.ref a), .val (.ref b), .val (.int (own_bi (decide ([(own_yc (XT.ushr x0 (2 : Int32))), (own_yc (XT.ushr x0 (4 : Int32)))].take na = [(own_yc (XT.ushr x0 (2 : Int32))), (own_yc (XT.ushr x0 (4 : Int32)))].take nb)))), .val (.int vA), .val (.int vB), .unset, .unset, .unset] [(.int z)]) (by rw [decide_eq_true (htf.mpr ⟨c339, Or.inr c356, Or.inl c362, Or.inl c379⟩)]; rfl))
              · refine o_aload 384 W at_382 rfl rfl ?_
                refine o_iconst 385 W (2) at_384 (by first | rfl | decide) ?_
                refine o_caloadV 386 W Afa (by decide) rfl at_385 ?_
                refine o_aload 388 W at_386 rfl rfl ?_
                refine o_iconst 389 W (2) at_388 (by first | rfl | decide) ?_
                refine o_caloadV 390 W Afb (by decide) rfl at_389 ?_
                refine o_icne 397 393 W at_390 (fun c390 => ?_) (fun c390 => ?_)
                · refine o_iconst 398 W (0) at_397 (by first | rfl | decide) ?_
                  exact (J _ W).eq (congrArg (fun z => mkF m 398 #[.val (.int x0), .val (.int x1), .val (.int x2), .val (.int x3), .val (.int x4), .val (.ref ya), .val (.int nA), .val (.int (1 : Int32)), .val (.ref yb), .val (.int nB), .val (.ref fa), .val (.int nF), .val (.ref fb), .val (.int nG), .val (.int x1), .val (.int sb), .val (.ref t1), .val (.ref a), .val (.ref b), .val (.int (own_bi (decide ([(own_yc (XT.ushr x0 (2 : Int32))), (own_yc (XT.ushr x0 (4 : Int32)))].take na = [(own_yc (XT.ushr x0 (2 : Int32))), (own_yc (XT.ushr x0 (4 : Int32)))].take nb)))), .val (.int vA), .val (.int vB), .unset, .unset, .unset] [(.int z)]) (by rw [decide_eq_false (fun z => (htf.mp z).2.2.2.elim c379 c390)]; rfl))
                · refine o_iconst 394 W (1) at_393 (by first | rfl | decide) ?_
                  refine o_goto 398 W at_394 ?_
                  exact (J _ W).eq (congrArg (fun z => mkF m 398 #[.val (.int x0), .val (.int x1), .val (.int x2), .val (.int x3), .val (.int x4), .val (.ref ya), .val (.int nA), .val (.int (1 : Int32)), .val (.ref yb), .val (.int nB), .val (.ref fa), .val (.int nF), .val (.ref fb), .val (.int nG), .val (.int x1), .val (.int sb), .val (.ref t1), .val (.ref a), .val (.ref b), .val (.int (own_bi (decide ([(own_yc (XT.ushr x0 (2 : Int32))), (own_yc (XT.ushr x0 (4 : Int32)))].take na = [(own_yc (XT.ushr x0 (2 : Int32))), (own_yc (XT.ushr x0 (4 : Int32)))].take nb)))), .val (.int vA), .val (.int vB), .unset, .unset, .unset] [(.int z)]) (by rw [decide_eq_true (htf.mpr ⟨c339, Or.inr c356, Or.inl c362, Or.inr c390⟩)]; rfl))
            · refine o_aload 367 W at_365 rfl rfl ?_
              refine o_iconst 368 W (1) at_367 (by first | rfl | decide) ?_
              refine o_caloadV 369 W Afa (by decide) rfl at_368 ?_
              refine o_aload 371 W at_369 rfl rfl ?_
              refine o_iconst 372 W (1) at_371 (by first | rfl | decide) ?_
              refine o_caloadV 373 W Afb (by decide) rfl at_372 ?_
              refine o_icne 397 376 W at_373 (fun c373 => ?_) (fun c373 => ?_)
              · refine o_iconst 398 W (0) at_397 (by first | rfl | decide) ?_
                exact (J _ W).eq (congrArg (fun z => mkF m 398 #[.val (.int x0), .val (.int x1), .val (.int x2), .val (.int x3), .val (.int x4), .val (.ref ya), .val (.int nA), .val (.int (1 : Int32)), .val (.ref yb), .val (.int nB), .val (.ref fa), .val (.int nF), .val (.ref fb), .val (.int nG), .val (.int x1), .val (.int sb), .val (.ref t1), .val (.ref a), .val (.ref b), .val (.int (own_bi (decide ([(own_yc (XT.ushr x0 (2 : Int32))), (own_yc (XT.ushr x0 (4 : Int32)))].take na = [(own_yc (XT.ushr x0 (2 : Int32))), (own_yc (XT.ushr x0 (4 : Int32)))].take nb)))), .val (.int vA), .val (.int vB), .unset, .unset, .unset] [(.int z)]) (by rw [decide_eq_false (fun z => (htf.mp z).2.2.1.elim c362 c373)]; rfl))
              · refine o_iload 378 W at_376 rfl ?_
                refine o_iconst 379 W (3) at_378 (by first | rfl | decide) ?_
                refine o_iclt 393 382 W at_379 (fun c379 => ?_) (fun c379 => ?_)
                · refine o_iconst 394 W (1) at_393 (by first | rfl | decide) ?_
                  refine o_goto 398 W at_394 ?_
                  exact (J _ W).eq (congrArg (fun z => mkF m 398 #[.val (.int x0), .val (.int x1), .val (.int x2), .val (.int x3), .val (.int x4), .val (.ref ya), .val (.int nA), .val (.int (1 : Int32)), .val (.ref yb), .val (.int nB), .val (.ref fa), .val (.int nF), .val (.ref fb), .val (.int nG), .val (.int x1), .val (.int sb), .val (.ref t1), .val (.ref a), .val (.ref b), .val (.int (own_bi (decide ([(own_yc (XT.ushr x0 (2 : Int32))), (own_yc (XT.ushr x0 (4 : Int32)))].take na = [(own_yc (XT.ushr x0 (2 : Int32))), (own_yc (XT.ushr x0 (4 : Int32)))].take nb)))), .val (.int vA), .val (.int vB), .unset, .unset, .unset] [(.int z)]) (by rw [decide_eq_true (htf.mpr ⟨c339, Or.inr c356, Or.inr c373, Or.inl c379⟩)]; rfl))
                · refine o_aload 384 W at_382 rfl rfl ?_
                  refine o_iconst 385 W (2) at_384 (by first | rfl | decide) ?_
                  refine o_caloadV 386 W Afa (by decide) rfl at_385 ?_
                  refine o_aload 388 W at_386 rfl rfl ?_
                  refine o_iconst 389 W (2) at_388 (by first | rfl | decide) ?_
                  refine o_caloadV 390 W Afb (by decide) rfl at_389 ?_
                  refine o_icne 397 393 W at_390 (fun c390 => ?_) (fun c390 => ?_)
                  · refine o_iconst 398 W (0) at_397 (by first | rfl | decide) ?_
                    exact (J _ W).eq (congrArg (fun z => mkF m 398 #[.val (.int x0), .val (.int x1), .val (.int x2), .val (.int x3), .val (.int x4), .val (.ref ya), .val (.int nA), .val (.int (1 : Int32)), .val (.ref yb), .val (.int nB), .val (.ref fa), .val (.int nF), .val (.ref fb), .val (.int nG), .val (.int x1), .val (.int sb), .val (.ref t1), .val (.ref a), .val (.ref b), .val (.int (own_bi (decide ([(own_yc (XT.ushr x0 (2 : Int32))), (own_yc (XT.ushr x0 (4 : Int32)))].take na = [(own_yc (XT.ushr x0 (2 : Int32))), (own_yc (XT.ushr x0 (4 : Int32)))].take nb)))), .val (.int vA), .val (.int vB), .unset, .unset, .unset] [(.int z)]) (by rw [decide_eq_false (fun z => (htf.mp z).2.2.2.elim c379 c390)]; rfl))
                  · refine o_iconst 394 W (1) at_393 (by first | rfl | decide) ?_
                    refine o_goto 398 W at_394 ?_
                    exact (J _ W).eq (congrArg (fun z => mkF m 398 #[.val (.int x0), .val (.int x1), .val (.int x2), .val (.int x3), .val (.int x4), .val (.ref ya), .val (.int nA), .val (.int (1 : Int32)), .val (.ref yb), .val (.int nB), .val (.ref fa), .val (.int nF), .val (.ref fb), .val (.int nG), .val (.int x1), .val (.int sb), .val (.ref t1), .val (.ref a), .val (.ref b), .val (.int (own_bi (decide ([(own_yc (XT.ushr x0 (2 : Int32))), (own_yc (XT.ushr x0 (4 : Int32)))].take na = [(own_yc (XT.ushr x0 (2 : Int32))), (own_yc (XT.ushr x0 (4 : Int32)))].take nb)))), .val (.int vA), .val (.int vB), .unset, .unset, .unset] [(.int z)]) (by rw [decide_eq_true (htf.mpr ⟨c339, Or.inr c356, Or.inr c373, Or.inr c390⟩)]; rfl))
    refine o_istore 400 W #[.val (.int x0), .val (.int x1), .val (.int x2), .val (.int x3), .val (.int x4), .val (.ref ya), .val (.int nA), .val (.int (1 : Int32)), .val (.ref yb), .val (.int nB), .val (.ref fa), .val (.int nF), .val (.ref fb), .val (.int nG), .val (.int x1), .val (.int sb), .val (.ref t1), .val (.ref a), .val (.ref b), .val (.int (own_bi (decide ([(own_yc (XT.ushr x0 (2 : Int32))), (own_yc (XT.ushr x0 (4 : Int32)))].take na = [(own_yc (XT.ushr x0 (2 : Int32))), (own_yc (XT.ushr x0 (4 : Int32)))].take nb)))), .val (.int vA), .val (.int vB), .val (.int (own_bi (decide ([(own_fc (XT.ushr x3 (2 : Int32))), (own_fc (XT.ushr x3 (4 : Int32))), (own_fc (XT.ushr x3 (6 : Int32)))].take kA = [(own_fc (XT.ushr x4 (2 : Int32))), (own_fc (XT.ushr x4 (4 : Int32))), (own_fc (XT.ushr x4 (6 : Int32)))].take kB)))), .unset, .unset] at_398 rfl ?_
    refine Go.cutW W (g' := (mkF m 422 #[.val (.int x0), .val (.int x1), .val (.int x2), .val (.int x3), .val (.int x4), .val (.ref ya), .val (.int nA), .val (.int (1 : Int32)), .val (.ref yb), .val (.int nB), .val (.ref fa), .val (.int nF), .val (.ref fb), .val (.int nG), .val (.int x1), .val (.int sb), .val (.ref t1), .val (.ref a), .val (.ref b), .val (.int (own_bi (decide ([(own_yc (XT.ushr x0 (2 : Int32))), (own_yc (XT.ushr x0 (4 : Int32)))].take na = [(own_yc (XT.ushr x0 (2 : Int32))), (own_yc (XT.ushr x0 (4 : Int32)))].take nb)))), .val (.int vA), .val (.int vB), .val (.int (own_bi (decide ([(own_fc (XT.ushr x3 (2 : Int32))), (own_fc (XT.ushr x3 (4 : Int32))), (own_fc (XT.ushr x3 (6 : Int32)))].take kA = [(own_fc (XT.ushr x4 (2 : Int32))), (own_fc (XT.ushr x4 (4 : Int32))), (own_fc (XT.ushr x4 (6 : Int32)))].take kB)))), .unset, .unset] [(.int (own_bi (decide ([(own_yc (XT.ushr x0 (2 : Int32))), (own_yc (XT.ushr x0 (4 : Int32)))].take na = [(own_yc (XT.ushr x0 (2 : Int32))), (own_yc (XT.ushr x0 (4 : Int32)))].take nb) && decide (x1 = sb) && decide ([(own_fc (XT.ushr x3 (2 : Int32))), (own_fc (XT.ushr x3 (4 : Int32))), (own_fc (XT.ushr x3 (6 : Int32)))].take kA = [(own_fc (XT.ushr x4 (2 : Int32))), (own_fc (XT.ushr x4 (4 : Int32))), (own_fc (XT.ushr x4 (6 : Int32)))].take kB))))])) (fun J => ?_) (fun T W => ?_)
    · refine o_iload 402 W at_400 rfl ?_
      refine o_ifeq 421 405 W at_402 (fun c402 => ?_) (fun c402 => ?_)
      · refine o_iconst 422 W (0) at_421 (by first | rfl | decide) ?_
        exact (J _ W).eq (congrArg (fun z => mkF m 422 #[.val (.int x0), .val (.int x1), .val (.int x2), .val (.int x3), .val (.int x4), .val (.ref ya), .val (.int nA), .val (.int (1 : Int32)), .val (.ref yb), .val (.int nB), .val (.ref fa), .val (.int nF), .val (.ref fb), .val (.int nG), .val (.int x1), .val (.int sb), .val (.ref t1), .val (.ref a), .val (.ref b), .val (.int (own_bi (decide ([(own_yc (XT.ushr x0 (2 : Int32))), (own_yc (XT.ushr x0 (4 : Int32)))].take na = [(own_yc (XT.ushr x0 (2 : Int32))), (own_yc (XT.ushr x0 (4 : Int32)))].take nb)))), .val (.int vA), .val (.int vB), .val (.int (own_bi (decide ([(own_fc (XT.ushr x3 (2 : Int32))), (own_fc (XT.ushr x3 (4 : Int32))), (own_fc (XT.ushr x3 (6 : Int32)))].take kA = [(own_fc (XT.ushr x4 (2 : Int32))), (own_fc (XT.ushr x4 (4 : Int32))), (own_fc (XT.ushr x4 (6 : Int32)))].take kB)))), .unset, .unset] [(.int z)]) (by rw [(own_bi0 _).mp c402]; rfl))
      · refine o_iload 407 W at_405 rfl ?_
        refine o_iload 409 W at_407 rfl ?_
        refine o_icne 421 412 W at_409 (fun c409 => ?_) (fun c409 => ?_)
        · refine o_iconst 422 W (0) at_421 (by first | rfl | decide) ?_
          exact (J _ W).eq (congrArg (fun z => mkF m 422 #[.val (.int x0), .val (.int x1), .val (.int x2), .val (.int x3), .val (.int x4), .val (.ref ya), .val (.int nA), .val (.int (1 : Int32)), .val (.ref yb), .val (.int nB), .val (.ref fa), .val (.int nF), .val (.ref fb), .val (.int nG), .val (.int x1), .val (.int sb), .val (.ref t1), .val (.ref a), .val (.ref b), .val (.int (own_bi (decide ([(own_yc (XT.ushr x0 (2 : Int32))), (own_yc (XT.ushr x0 (4 : Int32)))].take na = [(own_yc (XT.ushr x0 (2 : Int32))), (own_yc (XT.ushr x0 (4 : Int32)))].take nb)))), .val (.int vA), .val (.int vB), .val (.int (own_bi (decide ([(own_fc (XT.ushr x3 (2 : Int32))), (own_fc (XT.ushr x3 (4 : Int32))), (own_fc (XT.ushr x3 (6 : Int32)))].take kA = [(own_fc (XT.ushr x4 (2 : Int32))), (own_fc (XT.ushr x4 (4 : Int32))), (own_fc (XT.ushr x4 (6 : Int32)))].take kB)))), .unset, .unset] [(.int z)]) (by rw [decide_eq_false c409, Bool.and_false, Bool.false_and]; rfl))
        · refine o_iload 414 W at_412 rfl ?_
          refine o_ifeq 421 417 W at_414 (fun c414 => ?_) (fun c414 => ?_)
          · refine o_iconst 422 W (0) at_421 (by first | rfl | decide) ?_
            exact (J _ W).eq (congrArg (fun z => mkF m 422 #[.val (.int x0), .val (.int x1), .val (.int x2), .val (.int x3), .val (.int x4), .val (.ref ya), .val (.int nA), .val (.int (1 : Int32)), .val (.ref yb), .val (.int nB), .val (.ref fa), .val (.int nF), .val (.ref fb), .val (.int nG), .val (.int x1), .val (.int sb), .val (.ref t1), .val (.ref a), .val (.ref b), .val (.int (own_bi (decide ([(own_yc (XT.ushr x0 (2 : Int32))), (own_yc (XT.ushr x0 (4 : Int32)))].take na = [(own_yc (XT.ushr x0 (2 : Int32))), (own_yc (XT.ushr x0 (4 : Int32)))].take nb)))), .val (.int vA), .val (.int vB), .val (.int (own_bi (decide ([(own_fc (XT.ushr x3 (2 : Int32))), (own_fc (XT.ushr x3 (4 : Int32))), (own_fc (XT.ushr x3 (6 : Int32)))].take kA = [(own_fc (XT.ushr x4 (2 : Int32))), (own_fc (XT.ushr x4 (4 : Int32))), (own_fc (XT.ushr x4 (6 : Int32)))].take kB)))), .unset, .unset] [(.int z)]) (by rw [(own_bi0 _).mp c414, Bool.and_false]; rfl))
          · refine o_iconst 418 W (1) at_417 (by first | rfl | decide) ?_
            refine o_goto 422 W at_418 ?_
            exact (J _ W).eq (congrArg (fun z => mkF m 422 #[.val (.int x0), .val (.int x1), .val (.int x2), .val (.int x3), .val (.int x4), .val (.ref ya), .val (.int nA), .val (.int (1 : Int32)), .val (.ref yb), .val (.int nB), .val (.ref fa), .val (.int nF), .val (.ref fb), .val (.int nG), .val (.int x1), .val (.int sb), .val (.ref t1), .val (.ref a), .val (.ref b), .val (.int (own_bi (decide ([(own_yc (XT.ushr x0 (2 : Int32))), (own_yc (XT.ushr x0 (4 : Int32)))].take na = [(own_yc (XT.ushr x0 (2 : Int32))), (own_yc (XT.ushr x0 (4 : Int32)))].take nb)))), .val (.int vA), .val (.int vB), .val (.int (own_bi (decide ([(own_fc (XT.ushr x3 (2 : Int32))), (own_fc (XT.ushr x3 (4 : Int32))), (own_fc (XT.ushr x3 (6 : Int32)))].take kA = [(own_fc (XT.ushr x4 (2 : Int32))), (own_fc (XT.ushr x4 (4 : Int32))), (own_fc (XT.ushr x4 (6 : Int32)))].take kB)))), .unset, .unset] [(.int z)]) (by rw [(show decide ([(own_yc (XT.ushr x0 (2 : Int32))), (own_yc (XT.ushr x0 (4 : Int32)))].take na = [(own_yc (XT.ushr x0 (2 : Int32))), (own_yc (XT.ushr x0 (4 : Int32)))].take nb) = true by cases q : decide ([(own_yc (XT.ushr x0 (2 : Int32))), (own_yc (XT.ushr x0 (4 : Int32)))].take na = [(own_yc (XT.ushr x0 (2 : Int32))), (own_yc (XT.ushr x0 (4 : Int32)))].take nb); exact absurd ((own_bi0 _).mpr q) c402; rfl), decide_eq_true c409, (show decide ([(own_fc (XT.ushr x3 (2 : Int32))), (own_fc (XT.ushr x3 (4 : Int32))), (own_fc (XT.ushr x3 (6 : Int32)))].take kA = [(own_fc (XT.ushr x4 (2 : Int32))), (own_fc (XT.ushr x4 (4 : Int32))), (own_fc (XT.ushr x4 (6 : Int32)))].take kB) = true by cases q : decide ([(own_fc (XT.ushr x3 (2 : Int32))), (own_fc (XT.ushr x3 (4 : Int32))), (own_fc (XT.ushr x3 (6 : Int32)))].take kA = [(own_fc (XT.ushr x4 (2 : Int32))), (own_fc (XT.ushr x4 (4 : Int32))), (own_fc (XT.ushr x4 (6 : Int32)))].take kB); exact absurd ((own_bi0 _).mpr q) c414; rfl)]; rfl))
    refine o_istore 424 W #[.val (.int x0), .val (.int x1), .val (.int x2), .val (.int x3), .val (.int x4), .val (.ref ya), .val (.int nA), .val (.int (1 : Int32)), .val (.ref yb), .val (.int nB), .val (.ref fa), .val (.int nF), .val (.ref fb), .val (.int nG), .val (.int x1), .val (.int sb), .val (.ref t1), .val (.ref a), .val (.ref b), .val (.int (own_bi (decide ([(own_yc (XT.ushr x0 (2 : Int32))), (own_yc (XT.ushr x0 (4 : Int32)))].take na = [(own_yc (XT.ushr x0 (2 : Int32))), (own_yc (XT.ushr x0 (4 : Int32)))].take nb)))), .val (.int vA), .val (.int vB), .val (.int (own_bi (decide ([(own_fc (XT.ushr x3 (2 : Int32))), (own_fc (XT.ushr x3 (4 : Int32))), (own_fc (XT.ushr x3 (6 : Int32)))].take kA = [(own_fc (XT.ushr x4 (2 : Int32))), (own_fc (XT.ushr x4 (4 : Int32))), (own_fc (XT.ushr x4 (6 : Int32)))].take kB)))), .val (.int (own_bi (decide ([(own_yc (XT.ushr x0 (2 : Int32))), (own_yc (XT.ushr x0 (4 : Int32)))].take na = [(own_yc (XT.ushr x0 (2 : Int32))), (own_yc (XT.ushr x0 (4 : Int32)))].take nb) && decide (x1 = sb) && decide ([(own_fc (XT.ushr x3 (2 : Int32))), (own_fc (XT.ushr x3 (4 : Int32))), (own_fc (XT.ushr x3 (6 : Int32)))].take kA = [(own_fc (XT.ushr x4 (2 : Int32))), (own_fc (XT.ushr x4 (4 : Int32))), (own_fc (XT.ushr x4 (6 : Int32)))].take kB)))), .unset] at_422 rfl ?_
    refine o_iloadN 425 W at_424 rfl ?_
    refine o_bipush 427 W (14) at_425 (by first | rfl | decide) ?_
    refine o_iushr 428 W at_427 ?_
    refine o_iconst 429 W (3) at_428 (by first | rfl | decide) ?_
    refine o_iand 430 W at_429 ?_
    refine o_istore 432 W #[.val (.int x0), .val (.int x1), .val (.int x2), .val (.int x3), .val (.int x4), .val (.ref ya), .val (.int nA), .val (.int (1 : Int32)), .val (.ref yb), .val (.int nB), .val (.ref fa), .val (.int nF), .val (.ref fb), .val (.int nG), .val (.int x1), .val (.int sb), .val (.ref t1), .val (.ref a), .val (.ref b), .val (.int (own_bi (decide ([(own_yc (XT.ushr x0 (2 : Int32))), (own_yc (XT.ushr x0 (4 : Int32)))].take na = [(own_yc (XT.ushr x0 (2 : Int32))), (own_yc (XT.ushr x0 (4 : Int32)))].take nb)))), .val (.int vA), .val (.int vB), .val (.int (own_bi (decide ([(own_fc (XT.ushr x3 (2 : Int32))), (own_fc (XT.ushr x3 (4 : Int32))), (own_fc (XT.ushr x3 (6 : Int32)))].take kA = [(own_fc (XT.ushr x4 (2 : Int32))), (own_fc (XT.ushr x4 (4 : Int32))), (own_fc (XT.ushr x4 (6 : Int32)))].take kB)))), .val (.int (own_bi (decide ([(own_yc (XT.ushr x0 (2 : Int32))), (own_yc (XT.ushr x0 (4 : Int32)))].take na = [(own_yc (XT.ushr x0 (2 : Int32))), (own_yc (XT.ushr x0 (4 : Int32)))].take nb) && decide (x1 = sb) && decide ([(own_fc (XT.ushr x3 (2 : Int32))), (own_fc (XT.ushr x3 (4 : Int32))), (own_fc (XT.ushr x3 (6 : Int32)))].take kA = [(own_fc (XT.ushr x4 (2 : Int32))), (own_fc (XT.ushr x4 (4 : Int32))), (own_fc (XT.ushr x4 (6 : Int32)))].take kB)))), .val (.int ((XT.ushr x0 (14 : Int32)) &&& (3 : Int32)))] at_430 rfl ?_
    generalize ((XT.ushr x0 (14 : Int32)) &&& (3 : Int32)) = md
    show Go p e below _ _ (mkF m 432 #[.val (.int x0), .val (.int x1), .val (.int x2), .val (.int x3), .val (.int x4), .val (.ref ya), .val (.int nA), .val (.int (1 : Int32)), .val (.ref yb), .val (.int nB), .val (.ref fa), .val (.int nF), .val (.ref fb), .val (.int nG), .val (.int x1), .val (.int sb), .val (.ref t1), .val (.ref a), .val (.ref b), .val (.int (own_bi (decide ([(own_yc (XT.ushr x0 (2 : Int32))), (own_yc (XT.ushr x0 (4 : Int32)))].take na = [(own_yc (XT.ushr x0 (2 : Int32))), (own_yc (XT.ushr x0 (4 : Int32)))].take nb)))), .val (.int vA), .val (.int vB), .val (.int (own_bi (decide ([(own_fc (XT.ushr x3 (2 : Int32))), (own_fc (XT.ushr x3 (4 : Int32))), (own_fc (XT.ushr x3 (6 : Int32)))].take kA = [(own_fc (XT.ushr x4 (2 : Int32))), (own_fc (XT.ushr x4 (4 : Int32))), (own_fc (XT.ushr x4 (6 : Int32)))].take kB)))), .val (.int (own_bi (decide ([(own_yc (XT.ushr x0 (2 : Int32))), (own_yc (XT.ushr x0 (4 : Int32)))].take na = [(own_yc (XT.ushr x0 (2 : Int32))), (own_yc (XT.ushr x0 (4 : Int32)))].take nb) && decide (x1 = sb) && decide ([(own_fc (XT.ushr x3 (2 : Int32))), (own_fc (XT.ushr x3 (4 : Int32))), (own_fc (XT.ushr x3 (6 : Int32)))].take kA = [(own_fc (XT.ushr x4 (2 : Int32))), (own_fc (XT.ushr x4 (4 : Int32))), (own_fc (XT.ushr x4 (6 : Int32)))].take kB)))), .val (.int md)] [])
    refine o_iload 434 W at_432 rfl ?_
    refine o_ifne 453 437 W at_434 (fun c434 => ?_) (fun c434 => ?_)
    · refine o_iload 455 W at_453 rfl ?_
      refine o_iconst 456 W (1) at_455 (by first | rfl | decide) ?_
      refine o_icne 474 459 W at_456 (fun c456 => ?_) (fun c456 => ?_)
      · refine o_aload 476 W at_474 rfl rfl ?_
        refine o_aload 478 W at_476 rfl rfl ?_
        refine o_virtual 481 [(.ref b)] W (tw hw 107) (tw hw 108) (tw hw 110) (tw hw 109) (tw hw 34) (tw hw 111) (Aa) (con_xeqR l Z b0 hw a _ W.old Aa b Ab t1 foa x1 ([(own_yc (XT.ushr x0 (2 : Int32))), (own_yc (XT.ushr x0 (4 : Int32)))].take na) ([(own_fc (XT.ushr x3 (2 : Int32))), (own_fc (XT.ushr x3 (4 : Int32))), (own_fc (XT.ushr x3 (6 : Int32)))].take kA) (by rw [own_take_len (cs := [(own_yc (XT.ushr x0 (2 : Int32))), (own_yc (XT.ushr x0 (4 : Int32)))]) (n := na) (by simpa using bna)]; omega) (own_take_ch (own_chS (own_ycr _) (own_chS (own_ycr _) own_ch0)) _) (by rw [own_take_len (cs := [(own_fc (XT.ushr x3 (2 : Int32))), (own_fc (XT.ushr x3 (4 : Int32))), (own_fc (XT.ushr x3 (6 : Int32)))]) (n := kA) (by simpa using bA)]; omega) (own_take_ch (own_chS (own_fcr _) (own_chS (own_fcr _) (own_chS (own_fcr _) own_ch0))) _) Pa Qa Ra Xt1 Va t3 fob sb ([(own_yc (XT.ushr x0 (2 : Int32))), (own_yc (XT.ushr x0 (4 : Int32)))].take nb) ([(own_fc (XT.ushr x4 (2 : Int32))), (own_fc (XT.ushr x4 (4 : Int32))), (own_fc (XT.ushr x4 (6 : Int32)))].take kB) (by rw [own_take_len (cs := [(own_yc (XT.ushr x0 (2 : Int32))), (own_yc (XT.ushr x0 (4 : Int32)))]) (n := nb) (by simpa using bnb)]; omega) (own_take_ch (own_chS (own_ycr _) (own_chS (own_ycr _) own_ch0)) _) (by rw [own_take_len (cs := [(own_fc (XT.ushr x4 (2 : Int32))), (own_fc (XT.ushr x4 (4 : Int32))), (own_fc (XT.ushr x4 (6 : Int32)))]) (n := kB) (by simpa using bB)]; omega) (own_take_ch (own_chS (own_fcr _) (own_chS (own_fcr _) (own_chS (own_fcr _) own_ch0))) _) Pb Qb Rb Xt3 Vb cz hcz SC) pd20 at_478 rfl all0 (fun T h v W qq gg => ?_)
        obtain ⟨_, rfl, rfl, rfl⟩ := qq
        show Go p e below _ _ (mkF m 481 #[.val (.int x0), .val (.int x1), .val (.int x2), .val (.int x3), .val (.int x4), .val (.ref ya), .val (.int nA), .val (.int (1 : Int32)), .val (.ref yb), .val (.int nB), .val (.ref fa), .val (.int nF), .val (.ref fb), .val (.int nG), .val (.int x1), .val (.int sb), .val (.ref t1), .val (.ref a), .val (.ref b), .val (.int (own_bi (decide ([(own_yc (XT.ushr x0 (2 : Int32))), (own_yc (XT.ushr x0 (4 : Int32)))].take na = [(own_yc (XT.ushr x0 (2 : Int32))), (own_yc (XT.ushr x0 (4 : Int32)))].take nb)))), .val (.int vA), .val (.int vB), .val (.int (own_bi (decide ([(own_fc (XT.ushr x3 (2 : Int32))), (own_fc (XT.ushr x3 (4 : Int32))), (own_fc (XT.ushr x3 (6 : Int32)))].take kA = [(own_fc (XT.ushr x4 (2 : Int32))), (own_fc (XT.ushr x4 (4 : Int32))), (own_fc (XT.ushr x4 (6 : Int32)))].take kB)))), .val (.int (own_bi (decide ([(own_yc (XT.ushr x0 (2 : Int32))), (own_yc (XT.ushr x0 (4 : Int32)))].take na = [(own_yc (XT.ushr x0 (2 : Int32))), (own_yc (XT.ushr x0 (4 : Int32)))].take nb) && decide (x1 = sb) && decide ([(own_fc (XT.ushr x3 (2 : Int32))), (own_fc (XT.ushr x3 (4 : Int32))), (own_fc (XT.ushr x3 (6 : Int32)))].take kA = [(own_fc (XT.ushr x4 (2 : Int32))), (own_fc (XT.ushr x4 (4 : Int32))), (own_fc (XT.ushr x4 (6 : Int32)))].take kB)))), .val (.int md)] [(.int (own_bi (decide ([(own_yc (XT.ushr x0 (2 : Int32))), (own_yc (XT.ushr x0 (4 : Int32)))].take na = [(own_yc (XT.ushr x0 (2 : Int32))), (own_yc (XT.ushr x0 (4 : Int32)))].take nb) && decide (x1 = sb) && decide ([(own_fc (XT.ushr x3 (2 : Int32))), (own_fc (XT.ushr x3 (4 : Int32))), (own_fc (XT.ushr x3 (6 : Int32)))].take kA = [(own_fc (XT.ushr x4 (2 : Int32))), (own_fc (XT.ushr x4 (4 : Int32))), (own_fc (XT.ushr x4 (6 : Int32)))].take kB))))])
        refine o_iload 483 W at_481 rfl ?_
        refine o_icN 486 W at_483 (XT.ii_ne_f rfl) ?_
        refine o_aload 488 W at_486 rfl rfl ?_
        refine o_aload 490 W at_488 rfl rfl ?_
        refine o_virtual 493 [(.ref a)] W (tw hw 107) (tw hw 108) (tw hw 110) (tw hw 109) (tw hw 34) (tw hw 111) (Ab) (con_xeqR l Z b0 hw b _ W.old Ab a Aa t3 fob sb ([(own_yc (XT.ushr x0 (2 : Int32))), (own_yc (XT.ushr x0 (4 : Int32)))].take nb) ([(own_fc (XT.ushr x4 (2 : Int32))), (own_fc (XT.ushr x4 (4 : Int32))), (own_fc (XT.ushr x4 (6 : Int32)))].take kB) (by rw [own_take_len (cs := [(own_yc (XT.ushr x0 (2 : Int32))), (own_yc (XT.ushr x0 (4 : Int32)))]) (n := nb) (by simpa using bnb)]; omega) (own_take_ch (own_chS (own_ycr _) (own_chS (own_ycr _) own_ch0)) _) (by rw [own_take_len (cs := [(own_fc (XT.ushr x4 (2 : Int32))), (own_fc (XT.ushr x4 (4 : Int32))), (own_fc (XT.ushr x4 (6 : Int32)))]) (n := kB) (by simpa using bB)]; omega) (own_take_ch (own_chS (own_fcr _) (own_chS (own_fcr _) (own_chS (own_fcr _) own_ch0))) _) Pb Qb Rb Xt3 Vb t1 foa x1 ([(own_yc (XT.ushr x0 (2 : Int32))), (own_yc (XT.ushr x0 (4 : Int32)))].take na) ([(own_fc (XT.ushr x3 (2 : Int32))), (own_fc (XT.ushr x3 (4 : Int32))), (own_fc (XT.ushr x3 (6 : Int32)))].take kA) (by rw [own_take_len (cs := [(own_yc (XT.ushr x0 (2 : Int32))), (own_yc (XT.ushr x0 (4 : Int32)))]) (n := na) (by simpa using bna)]; omega) (own_take_ch (own_chS (own_ycr _) (own_chS (own_ycr _) own_ch0)) _) (by rw [own_take_len (cs := [(own_fc (XT.ushr x3 (2 : Int32))), (own_fc (XT.ushr x3 (4 : Int32))), (own_fc (XT.ushr x3 (6 : Int32)))]) (n := kA) (by simpa using bA)]; omega) (own_take_ch (own_chS (own_fcr _) (own_chS (own_fcr _) (own_chS (own_fcr _) own_ch0))) _) Pa Qa Ra Xt1 Va cz hcz SC) pd20 at_490 rfl all0 (fun T h v W qq gg => ?_)
        obtain ⟨_, rfl, rfl, rfl⟩ := qq
        show Go p e below _ _ (mkF m 493 #[.val (.int x0), .val (.int x1), .val (.int x2), .val (.int x3), .val (.int x4), .val (.ref ya), .val (.int nA), .val (.int (1 : Int32)), .val (.ref yb), .val (.int nB), .val (.ref fa), .val (.int nF), .val (.ref fb), .val (.int nG), .val (.int x1), .val (.int sb), .val (.ref t1), .val (.ref a), .val (.ref b), .val (.int (own_bi (decide ([(own_yc (XT.ushr x0 (2 : Int32))), (own_yc (XT.ushr x0 (4 : Int32)))].take na = [(own_yc (XT.ushr x0 (2 : Int32))), (own_yc (XT.ushr x0 (4 : Int32)))].take nb)))), .val (.int vA), .val (.int vB), .val (.int (own_bi (decide ([(own_fc (XT.ushr x3 (2 : Int32))), (own_fc (XT.ushr x3 (4 : Int32))), (own_fc (XT.ushr x3 (6 : Int32)))].take kA = [(own_fc (XT.ushr x4 (2 : Int32))), (own_fc (XT.ushr x4 (4 : Int32))), (own_fc (XT.ushr x4 (6 : Int32)))].take kB)))), .val (.int (own_bi (decide ([(own_yc (XT.ushr x0 (2 : Int32))), (own_yc (XT.ushr x0 (4 : Int32)))].take na = [(own_yc (XT.ushr x0 (2 : Int32))), (own_yc (XT.ushr x0 (4 : Int32)))].take nb) && decide (x1 = sb) && decide ([(own_fc (XT.ushr x3 (2 : Int32))), (own_fc (XT.ushr x3 (4 : Int32))), (own_fc (XT.ushr x3 (6 : Int32)))].take kA = [(own_fc (XT.ushr x4 (2 : Int32))), (own_fc (XT.ushr x4 (4 : Int32))), (own_fc (XT.ushr x4 (6 : Int32)))].take kB)))), .val (.int md)] [(.int (own_bi (decide (([(own_yc (XT.ushr x0 (2 : Int32))), (own_yc (XT.ushr x0 (4 : Int32)))].take nb) = ([(own_yc (XT.ushr x0 (2 : Int32))), (own_yc (XT.ushr x0 (4 : Int32)))].take na)) && decide (sb = x1) && decide (([(own_fc (XT.ushr x4 (2 : Int32))), (own_fc (XT.ushr x4 (4 : Int32))), (own_fc (XT.ushr x4 (6 : Int32)))].take kB) = ([(own_fc (XT.ushr x3 (2 : Int32))), (own_fc (XT.ushr x3 (4 : Int32))), (own_fc (XT.ushr x3 (6 : Int32)))].take kA)))))])
        refine o_iload 495 W at_493 rfl ?_
        refine o_icN 498 W at_495 (XT.ii_ne_f (by rw [decide_eq_decide.mpr (eq_comm (a := ([(own_yc (XT.ushr x0 (2 : Int32))), (own_yc (XT.ushr x0 (4 : Int32)))].take nb))), decide_eq_decide.mpr (eq_comm (a := sb)), decide_eq_decide.mpr (eq_comm (a := ([(own_fc (XT.ushr x4 (2 : Int32))), (own_fc (XT.ushr x4 (4 : Int32))), (own_fc (XT.ushr x4 (6 : Int32)))].take kB)))])) ?_
        refine o_aload 500 W at_498 rfl rfl ?_
        refine o_aload 502 W at_500 rfl rfl ?_
        refine o_virtual 505 [(.ref a)] W (tw hw 107) (tw hw 108) (tw hw 110) (tw hw 109) (tw hw 34) (tw hw 111) (Aa) (con_xeqR l Z b0 hw a _ W.old Aa a Aa t1 foa x1 ([(own_yc (XT.ushr x0 (2 : Int32))), (own_yc (XT.ushr x0 (4 : Int32)))].take na) ([(own_fc (XT.ushr x3 (2 : Int32))), (own_fc (XT.ushr x3 (4 : Int32))), (own_fc (XT.ushr x3 (6 : Int32)))].take kA) (by rw [own_take_len (cs := [(own_yc (XT.ushr x0 (2 : Int32))), (own_yc (XT.ushr x0 (4 : Int32)))]) (n := na) (by simpa using bna)]; omega) (own_take_ch (own_chS (own_ycr _) (own_chS (own_ycr _) own_ch0)) _) (by rw [own_take_len (cs := [(own_fc (XT.ushr x3 (2 : Int32))), (own_fc (XT.ushr x3 (4 : Int32))), (own_fc (XT.ushr x3 (6 : Int32)))]) (n := kA) (by simpa using bA)]; omega) (own_take_ch (own_chS (own_fcr _) (own_chS (own_fcr _) (own_chS (own_fcr _) own_ch0))) _) Pa Qa Ra Xt1 Va t1 foa x1 ([(own_yc (XT.ushr x0 (2 : Int32))), (own_yc (XT.ushr x0 (4 : Int32)))].take na) ([(own_fc (XT.ushr x3 (2 : Int32))), (own_fc (XT.ushr x3 (4 : Int32))), (own_fc (XT.ushr x3 (6 : Int32)))].take kA) (by rw [own_take_len (cs := [(own_yc (XT.ushr x0 (2 : Int32))), (own_yc (XT.ushr x0 (4 : Int32)))]) (n := na) (by simpa using bna)]; omega) (own_take_ch (own_chS (own_ycr _) (own_chS (own_ycr _) own_ch0)) _) (by rw [own_take_len (cs := [(own_fc (XT.ushr x3 (2 : Int32))), (own_fc (XT.ushr x3 (4 : Int32))), (own_fc (XT.ushr x3 (6 : Int32)))]) (n := kA) (by simpa using bA)]; omega) (own_take_ch (own_chS (own_fcr _) (own_chS (own_fcr _) (own_chS (own_fcr _) own_ch0))) _) Pa Qa Ra Xt1 Va cz hcz SC) pd20 at_502 rfl all0 (fun T h v W qq gg => ?_)
        obtain ⟨_, rfl, rfl, rfl⟩ := qq
        show Go p e below _ _ (mkF m 505 #[.val (.int x0), .val (.int x1), .val (.int x2), .val (.int x3), .val (.int x4), .val (.ref ya), .val (.int nA), .val (.int (1 : Int32)), .val (.ref yb), .val (.int nB), .val (.ref fa), .val (.int nF), .val (.ref fb), .val (.int nG), .val (.int x1), .val (.int sb), .val (.ref t1), .val (.ref a), .val (.ref b), .val (.int (own_bi (decide ([(own_yc (XT.ushr x0 (2 : Int32))), (own_yc (XT.ushr x0 (4 : Int32)))].take na = [(own_yc (XT.ushr x0 (2 : Int32))), (own_yc (XT.ushr x0 (4 : Int32)))].take nb)))), .val (.int vA), .val (.int vB), .val (.int (own_bi (decide ([(own_fc (XT.ushr x3 (2 : Int32))), (own_fc (XT.ushr x3 (4 : Int32))), (own_fc (XT.ushr x3 (6 : Int32)))].take kA = [(own_fc (XT.ushr x4 (2 : Int32))), (own_fc (XT.ushr x4 (4 : Int32))), (own_fc (XT.ushr x4 (6 : Int32)))].take kB)))), .val (.int (own_bi (decide ([(own_yc (XT.ushr x0 (2 : Int32))), (own_yc (XT.ushr x0 (4 : Int32)))].take na = [(own_yc (XT.ushr x0 (2 : Int32))), (own_yc (XT.ushr x0 (4 : Int32)))].take nb) && decide (x1 = sb) && decide ([(own_fc (XT.ushr x3 (2 : Int32))), (own_fc (XT.ushr x3 (4 : Int32))), (own_fc (XT.ushr x3 (6 : Int32)))].take kA = [(own_fc (XT.ushr x4 (2 : Int32))), (own_fc (XT.ushr x4 (4 : Int32))), (own_fc (XT.ushr x4 (6 : Int32)))].take kB)))), .val (.int md)] [(.int (own_bi (decide (([(own_yc (XT.ushr x0 (2 : Int32))), (own_yc (XT.ushr x0 (4 : Int32)))].take na) = ([(own_yc (XT.ushr x0 (2 : Int32))), (own_yc (XT.ushr x0 (4 : Int32)))].take na)) && decide (x1 = x1) && decide (([(own_fc (XT.ushr x3 (2 : Int32))), (own_fc (XT.ushr x3 (4 : Int32))), (own_fc (XT.ushr x3 (6 : Int32)))].take kA) = ([(own_fc (XT.ushr x3 (2 : Int32))), (own_fc (XT.ushr x3 (4 : Int32))), (own_fc (XT.ushr x3 (6 : Int32)))].take kA)))))])
        refine o_ifN 508 W at_505 (XT.i0_eq_f (by simp [own_bi])) ?_
        refine o_iconst 509 W (1) at_508 (by first | rfl | decide) ?_
        refine o_goto 513 W at_509 ?_
        exact o_nret W (1 : Int32) (by simp) (by decide) at_513 (rfl)
      · refine o_aload 461 W at_459 rfl rfl ?_
        refine o_null 462 W at_461 ?_
        refine o_virtual 465 [(.null)] W (tw hw 107) (tw hw 108) (tw hw 110) (tw hw 109) (tw hw 34) (tw hw 111) (Aa) (con_xeqN l Z b0 hw a _ W.old Aa) pd20 at_462 rfl all0 (fun T h v W qq gg => ?_)
        obtain ⟨_, rfl, rfl, rfl⟩ := qq
        show Go p e below _ _ (mkF m 465 #[.val (.int x0), .val (.int x1), .val (.int x2), .val (.int x3), .val (.int x4), .val (.ref ya), .val (.int nA), .val (.int (1 : Int32)), .val (.ref yb), .val (.int nB), .val (.ref fa), .val (.int nF), .val (.ref fb), .val (.int nG), .val (.int x1), .val (.int sb), .val (.ref t1), .val (.ref a), .val (.ref b), .val (.int (own_bi (decide ([(own_yc (XT.ushr x0 (2 : Int32))), (own_yc (XT.ushr x0 (4 : Int32)))].take na = [(own_yc (XT.ushr x0 (2 : Int32))), (own_yc (XT.ushr x0 (4 : Int32)))].take nb)))), .val (.int vA), .val (.int vB), .val (.int (own_bi (decide ([(own_fc (XT.ushr x3 (2 : Int32))), (own_fc (XT.ushr x3 (4 : Int32))), (own_fc (XT.ushr x3 (6 : Int32)))].take kA = [(own_fc (XT.ushr x4 (2 : Int32))), (own_fc (XT.ushr x4 (4 : Int32))), (own_fc (XT.ushr x4 (6 : Int32)))].take kB)))), .val (.int (own_bi (decide ([(own_yc (XT.ushr x0 (2 : Int32))), (own_yc (XT.ushr x0 (4 : Int32)))].take na = [(own_yc (XT.ushr x0 (2 : Int32))), (own_yc (XT.ushr x0 (4 : Int32)))].take nb) && decide (x1 = sb) && decide ([(own_fc (XT.ushr x3 (2 : Int32))), (own_fc (XT.ushr x3 (4 : Int32))), (own_fc (XT.ushr x3 (6 : Int32)))].take kA = [(own_fc (XT.ushr x4 (2 : Int32))), (own_fc (XT.ushr x4 (4 : Int32))), (own_fc (XT.ushr x4 (6 : Int32)))].take kB)))), .val (.int md)] [(.int (0 : Int32))])
        refine o_ifN 468 W at_465 (by decide) ?_
        refine o_iconst 469 W (1) at_468 (by first | rfl | decide) ?_
        refine o_goto 473 W at_469 ?_
        exact o_nret W (1 : Int32) (by simp) (by decide) at_473 (rfl)
    · refine o_aload 439 W at_437 rfl rfl ?_
      refine o_aload 441 W at_439 rfl rfl ?_
      refine o_virtual 444 [(.ref t1)] W (tw hw 107) (tw hw 108) (tw hw 110) (tw hw 109) (tw hw 34) (tw hw 111) (Aa) (con_xeqS l Z b0 hw a _ W.old Aa t1 Xt1.1) pd20 at_441 rfl all0 (fun T h v W qq gg => ?_)
      obtain ⟨_, rfl, rfl, rfl⟩ := qq
      show Go p e below _ _ (mkF m 444 #[.val (.int x0), .val (.int x1), .val (.int x2), .val (.int x3), .val (.int x4), .val (.ref ya), .val (.int nA), .val (.int (1 : Int32)), .val (.ref yb), .val (.int nB), .val (.ref fa), .val (.int nF), .val (.ref fb), .val (.int nG), .val (.int x1), .val (.int sb), .val (.ref t1), .val (.ref a), .val (.ref b), .val (.int (own_bi (decide ([(own_yc (XT.ushr x0 (2 : Int32))), (own_yc (XT.ushr x0 (4 : Int32)))].take na = [(own_yc (XT.ushr x0 (2 : Int32))), (own_yc (XT.ushr x0 (4 : Int32)))].take nb)))), .val (.int vA), .val (.int vB), .val (.int (own_bi (decide ([(own_fc (XT.ushr x3 (2 : Int32))), (own_fc (XT.ushr x3 (4 : Int32))), (own_fc (XT.ushr x3 (6 : Int32)))].take kA = [(own_fc (XT.ushr x4 (2 : Int32))), (own_fc (XT.ushr x4 (4 : Int32))), (own_fc (XT.ushr x4 (6 : Int32)))].take kB)))), .val (.int (own_bi (decide ([(own_yc (XT.ushr x0 (2 : Int32))), (own_yc (XT.ushr x0 (4 : Int32)))].take na = [(own_yc (XT.ushr x0 (2 : Int32))), (own_yc (XT.ushr x0 (4 : Int32)))].take nb) && decide (x1 = sb) && decide ([(own_fc (XT.ushr x3 (2 : Int32))), (own_fc (XT.ushr x3 (4 : Int32))), (own_fc (XT.ushr x3 (6 : Int32)))].take kA = [(own_fc (XT.ushr x4 (2 : Int32))), (own_fc (XT.ushr x4 (4 : Int32))), (own_fc (XT.ushr x4 (6 : Int32)))].take kB)))), .val (.int md)] [(.int (0 : Int32))])
      refine o_ifN 447 W at_444 (by decide) ?_
      refine o_iconst 448 W (1) at_447 (by first | rfl | decide) ?_
      refine o_goto 452 W at_448 ?_
      exact o_nret W (1 : Int32) (by simp) (by decide) at_452 (rfl)
theorem own_sio {s : State} {args : Array Value} {C n d : String} (h1 : (Jvm.Cond.initializedFor C n d).before args s = true) (h2 : (Jvm.Cond.isRef (Jvm.Term.static C n d)).before args s = true) : ∃ v, v.isRef = true ∧ Sta s s.heap C n d v := by
  have q := Cond.before_iff.mp h2
  simp only [Jvm.Cond.value] at q
  cases ev : (Jvm.Term.static C n d).eval args s none [] s with
  | none => rw [ev] at q; simp at q
  | some v =>
    rw [ev] at q
    refine ⟨v, ?_, Sta.start ev (Or.inl h1)⟩
    cases v <;> simp_all [Value.isRef]
set_option maxRecDepth 65536 in
set_option maxHeartbeats 40000000 in
theorem comes_1 {Post : Tables → Env → Array Value → State → Outcome → State → Prop} (hpost : ∀ tb e args s v u, (limb_1_1.after args s (.returned v) u = true ∧ limb_1_2.after args s (.returned v) u = true ∧ True) → ReturnedEndW s (.returned v) u (Jvm.fieldLocs frame_1_writes args s ++ Jvm.arrayLocs frame_1_arrays args s ++ Jvm.staticLocs frame_1_statics s) 56 2304 → Post tb e args s (.returned v) u) :
    ArmFor flags0 classFile x code maxLocals ret World_1 tables_1 room_1 Calls_1 rest_1 Pre_1 Post := by
  intro l hfl _ _ p e ha hc hk s m args below hf hA hF happ hP
  obtain ⟨hcalls, hrest, hpre⟩ := hP
  obtain ⟨-, -, -, hnamed, -, -, -, hat⟩ := (Spec.applies_iff hf).mp happ
  obtain ⟨hg, hn⟩ := and_e (Cond.before_iff.mp (show (Jvm.Cond.and given_1 narrow_1).before args s = true from hpre))
  obtain ⟨hg0, hg⟩ := and_e hg
  obtain ⟨w0, w1, w2, w3, w4, rfl⟩ : ∃ w0 w1 w2 w3 w4 : Value, args = #[w0, w1, w2, w3, w4] := by
    have hs : args.size = 5 := by simpa [Cond.value, given_1] using hg0
    obtain ⟨L⟩ := args
    match L, hs with
    | [w0, w1, w2, w3, w4], _ => exact ⟨w0, w1, w2, w3, w4, rfl⟩
  have hw := fun d (hd : d ∈ tables_1) => atoms_spec (ws := Jvm.Cond.code x code maxLocals ret :: tables_1) hat d (List.mem_cons_of_mem _ hd)
  have hfit : Fit s := fun {y c} hc i hi => by
    obtain ⟨ha, rfl⟩ := Array.getElem?_eq_some_iff.mp hc
    have q := List.all_eq_true.mp ((Array.all_eq_true_iff_forall_mem.mp hF) _ (Array.getElem_mem ha)) i (List.mem_range.mpr hi)
    simpa [Array.getElem?_eq_getElem hi] using q
  obtain ⟨hg1, hg⟩ := and_e hg
  obtain ⟨p0, e0⟩ := is_v hg1
  obtain rfl : w0 = (.int p0) := Option.some.inj e0
  obtain ⟨hg2, hg⟩ := and_e hg
  obtain ⟨p1, e1⟩ := is_v hg2
  obtain rfl : w1 = (.int p1) := Option.some.inj e1
  obtain ⟨hg3, hg⟩ := and_e hg
  obtain ⟨p2, e2⟩ := is_v hg3
  obtain rfl : w2 = (.int p2) := Option.some.inj e2
  obtain ⟨hg4, hg⟩ := and_e hg
  obtain ⟨p3, e3⟩ := is_v hg4
  obtain rfl : w3 = (.int p3) := Option.some.inj e3
  have hg5 := hg
  obtain ⟨p4, e4⟩ := is_v hg5
  obtain rfl : w4 = (.int p4) := Option.some.inj e4
  obtain ⟨hjs, -⟩ := atoms_of jdkStatics_1 (own := restOwn_1) (show (jdkStatics_1.foldr Jvm.Cond.and restOwn_1).before _ s = true from hrest)
  obtain ⟨cz, hcz, SC⟩ := own_comp (a0 := #[]) (hjs _ (List.mem_of_getElem? (i := 0) rfl)) (hjs _ (List.mem_of_getElem? (i := 1) rfl)) (hjs _ (List.mem_of_getElem? (i := 2) rfl))
  obtain ⟨vf, rf, SF⟩ := own_sio (hjs _ (List.mem_of_getElem? (i := 7) rfl)) (hjs _ (List.mem_of_getElem? (i := 8) rfl))
  have R := con_law l s _ hw p0 p1 p2 p3 p4 cz hcz SC vf rf SF
  have HCH : CHv s own_EL s.vm s.heap := CHv.start (own_ew0 hw) (fun p hp => hcalls.1 p (by revert hp; simp [own_EL, consts_1])) (show Jvm.Lit.compactW.before _ s = true from (hjs _ (List.mem_of_getElem? (i := 2) rfl))) (tw hw 25) (tw hw 12)
  obtain ⟨n, o, h1, h2, h3, _, Lc, rfl, ⟨_, rfl, rfl⟩, N, hCH, hEx, hNr, hq⟩ := R tables_1 p e ha hc hk s m _ below hf ((Spec.applies_iff_loose hf).mp happ).1 ⟨rfl, State.Warmed39.refl s, rfl, HCH, all0⟩ trivial
  refine ⟨n, _, h1, h2, h3, hpost _ _ _ _ _ _ ⟨Cond.after_iff.mpr rfl, Cond.after_iff.mpr (eq_i res_at (Term.int_eval (1)) rfl), trivial⟩ ⟨hq.1, hq.2.1, hq.2.2.1, (hq.2.2.2.sift fun y hy => Or.inr (N y hy)).mono (by decide) (by decide)⟩⟩
theorem main_1_1 : Claimed_1_1 := comes_1 fun _ _ _ _ _ _ h hF => ⟨h.1, hF⟩
theorem main_1_2 : Claimed_1_2 := comes_1 fun _ _ _ _ _ _ h hF => ⟨h.2.1, hF⟩
end Jvm.Pilot.@@N@@
namespace Jvm.Pilot.@@N@@
open Jvm Jvm.ClassFile Sem Op Lib Jvm.Free Jvm.Stand Jvm.Pilot.@@N@@.Jvm.D
/-! MADE BY PROGRAM (witnessworld.py) out of the Statement's table words and the real class files: 23 classes; the members and pool entries that the words name. The judged class is class 1, her method 1. -/
namespace start1
open Jvm.ClassFile
def u (s : String) : CpInfo := .utf8 (stringToUtf16 s)
/-- a pool by its gaps: so many unusable entries, then the entry; so many at the end -/
def gap : Nat → List CpInfo → List CpInfo
  | 0, r => r
  | n + 1, r => .unusable :: gap n r
def poolList (es : List (Nat × CpInfo)) (last : Nat) : List CpInfo := es.foldr (fun e r => gap e.1 (e.2 :: r)) (gap last [])
def pool (es : List (Nat × CpInfo)) (last : Nat) : Array CpInfo := ⟨poolList es last⟩
def fileOf (pool : Array CpInfo) (this : Nat) (attrs : Array Attribute := #[]) (ms : Array MethodInfo := #[]) (fl : Nat := 33) (sup : Nat := 0) (ifs : Array Nat := #[]) (fds : Array FieldInfo := #[]) : ClassFile where
  minorVersion := 0
  majorVersion := 65
  constantPool := pool
  accessFlags := fl
  thisClass := this
  superClass := sup
  interfaces := ifs
  fields := fds
  methods := ms
  attributes := attrs
def plain (name : String) (sup : Option ClassId) : Class where
  name := name
  kind := .ordinary
  loader := none
  accessFlags := 33
  super := sup
  interfaces := #[]
  cf := none
  fields := #[]
  methods := #[]
  instanceTypes := #[]
  staticTypes := #[]
  resolved := #[]
  callSites := []
  init := .initialized
  statics := none
  mirror := none

def pool0 : Array CpInfo := pool [(5, u "<init>"), (0, u "()V"), (1, .class_ 10), (1, u "java/lang/Object")] 113

def k0c0 : Code := { maxStack := 0, maxLocals := 1, code := object_method_1_code, exceptionTable := #[], attributes := #[] }
def k0m0 : Method := { name := "<init>", desc := "()V", sig := { parameters := [], returnType := none }, accessFlags := 1, code := some k0c0 }
/-- java/lang/Object -/
def k0 : Class := { plain "java/lang/Object" none with
  accessFlags := 33
  interfaces := #[]
  cf := some (fileOf pool0 8 #[] #[{ accessFlags := 1, nameIndex := 5, descriptorIndex := 6, attributes := #[] }] 33 0 #[] #[])
  fields := #[]
  methods := #[k0m0]
  instanceTypes := #[]
  staticTypes := #[]
  resolved := Array.replicate 124 none
  statics := none }

def pool1 : Array CpInfo := pool [(2, .class_ 4), (1, u "java/lang/Object"), (0, u "<init>"), (0, u "()V"), (0, .methodref 8 9), (0, .class_ 10), (0, .nameAndType 11 12), (0, u "com/example/indelible_trail/indelibletrail/model/XmlDateTimeEqualsPinLaw"), (0, u "yc"), (0, u "(I)C"), (0, .methodref 8 14), (0, .nameAndType 15 12), (0, u "fc"), (0, .methodref 8 17), (0, .nameAndType 18 19), (0, u "str"), (0, u "([CI)Ljava/lang/String;"), (0, .class_ 21), (0, u "com/example/indelible_trail/indelibletrail/model/XmlDateTime"), (0, .methodref 20 23), (0, .nameAndType 5 24), (0, u "(Ljava/lang/String;ILjava/lang/String;)V"), (0, .methodref 8 26), (0, .nameAndType 27 28), (0, u "stripped"), (0, u "([CI)I"), (0, .methodref 20 30), (0, .nameAndType 31 32), (0, u "equals"), (0, u "(Ljava/lang/Object;)Z"), (0, .class_ 34), (0, u "java/lang/String"), (0, .methodref 33 36), (0, .nameAndType 5 37), (0, u "([C)V"), (2, u "law"), (0, u "(IIIII)Z")] 5

def k1m0 : Method := { name := "<init>", desc := "()V", sig := { parameters := [], returnType := none }, accessFlags := 1, code := none }
def k1c1 : Code := { maxStack := 6, maxLocals := 25, code := code, exceptionTable := #[], attributes := #[] }
def k1m1 : Method := { name := "law", desc := "(IIIII)Z", sig := { parameters := [.int, .int, .int, .int, .int], returnType := some .boolean }, accessFlags := 9, code := some k1c1 }
def k1c2 : Code := { maxStack := 2, maxLocals := 2, code := method_3_code, exceptionTable := #[], attributes := #[] }
def k1m2 : Method := { name := "yc", desc := "(I)C", sig := { parameters := [.int], returnType := some .char }, accessFlags := 10, code := some k1c2 }
def k1c3 : Code := { maxStack := 2, maxLocals := 2, code := method_4_code, exceptionTable := #[], attributes := #[] }
def k1m3 : Method := { name := "fc", desc := "(I)C", sig := { parameters := [.int], returnType := some .char }, accessFlags := 10, code := some k1c3 }
def k1c4 : Code := { maxStack := 7, maxLocals := 2, code := method_5_code, exceptionTable := #[], attributes := #[] }
def k1m4 : Method := { name := "str", desc := "([CI)Ljava/lang/String;", sig := { parameters := [(.array .char), .int], returnType := some (.object "java/lang/String") }, accessFlags := 10, code := some k1c4 }
def k1c5 : Code := { maxStack := 2, maxLocals := 3, code := method_6_code, exceptionTable := #[], attributes := #[] }
def k1m5 : Method := { name := "stripped", desc := "([CI)I", sig := { parameters := [(.array .char), .int], returnType := some .int }, accessFlags := 10, code := some k1c5 }
/-- com/example/indelible_trail/indelibletrail/model/XmlDateTimeEqualsPinLaw -/
def k1 : Class := { plain "com/example/indelible_trail/indelibletrail/model/XmlDateTimeEqualsPinLaw" (some 0) with
  accessFlags := 49
  interfaces := #[]
  cf := some (fileOf pool1 8 #[] #[{ accessFlags := 1, nameIndex := 5, descriptorIndex := 6, attributes := #[] }, { accessFlags := 9, nameIndex := 40, descriptorIndex := 41, attributes := #[] }, { accessFlags := 10, nameIndex := 11, descriptorIndex := 12, attributes := #[] }, { accessFlags := 10, nameIndex := 15, descriptorIndex := 12, attributes := #[] }, { accessFlags := 10, nameIndex := 18, descriptorIndex := 19, attributes := #[] }, { accessFlags := 10, nameIndex := 27, descriptorIndex := 28, attributes := #[] }] 49 2 #[] #[])
  fields := #[]
  methods := #[k1m0, k1m1, k1m2, k1m3, k1m4, k1m5]
  instanceTypes := #[]
  staticTypes := #[]
  resolved := Array.replicate 47 none
  statics := none }

def pool2 : Array CpInfo := pool [(1, .class_ 2), (0, u "java/io/Serializable"), (0, .class_ 4), (0, u "java/lang/Object")] 2

/-- java/io/Serializable -/
def k2 : Class := { plain "java/io/Serializable" (some 0) with
  accessFlags := 1537
  interfaces := #[]
  cf := some (fileOf pool2 1 #[] #[] 1537 3 #[] #[])
  fields := #[]
  methods := #[]
  instanceTypes := #[]
  staticTypes := #[]
  resolved := Array.replicate 7 none
  statics := none }

def pool3 : Array CpInfo := pool [(1, .class_ 2), (0, u "java/lang/Comparable"), (0, .class_ 4), (0, u "java/lang/Object")] 7

/-- java/lang/Comparable -/
def k3 : Class := { plain "java/lang/Comparable" (some 0) with
  accessFlags := 1537
  interfaces := #[]
  cf := some (fileOf pool3 1 #[] #[] 1537 3 #[] #[])
  fields := #[]
  methods := #[]
  instanceTypes := #[]
  staticTypes := #[]
  resolved := Array.replicate 12 none
  statics := none }

def pool4 : Array CpInfo := pool [(2, .class_ 4), (1, u "java/lang/CharSequence"), (42, .class_ 48), (0, u "java/lang/CharSequence$1CodePointIterator"), (10, .class_ 60), (0, u "java/lang/CharSequence$1CharIterator"), (5, .class_ 67), (0, u "java/lang/Object")] 63

/-- java/lang/CharSequence -/
def k4 : Class := { plain "java/lang/CharSequence" (some 0) with
  accessFlags := 1537
  interfaces := #[]
  cf := some (fileOf pool4 2 #[.nestMembers #[47, 59]] #[] 1537 66 #[] #[])
  fields := #[]
  methods := #[]
  instanceTypes := #[]
  staticTypes := #[]
  resolved := Array.replicate 131 none
  statics := none }

def pool5 : Array CpInfo := pool [(1, .class_ 2), (0, u "java/lang/constant/Constable"), (0, .class_ 4), (0, u "java/lang/Object")] 6

/-- java/lang/constant/Constable -/
def k5 : Class := { plain "java/lang/constant/Constable" (some 0) with
  accessFlags := 1537
  interfaces := #[]
  cf := some (fileOf pool5 1 #[] #[] 1537 3 #[] #[])
  fields := #[]
  methods := #[]
  instanceTypes := #[]
  staticTypes := #[]
  resolved := Array.replicate 11 none
  statics := none }

def pool6 : Array CpInfo := pool [(1, .class_ 2), (0, u "java/lang/constant/ConstantDesc"), (0, .class_ 4), (0, u "java/lang/Object")] 32

/-- java/lang/constant/ConstantDesc -/
def k6 : Class := { plain "java/lang/constant/ConstantDesc" (some 0) with
  accessFlags := 1537
  interfaces := #[]
  cf := some (fileOf pool6 1 #[] #[] 1537 3 #[] #[])
  fields := #[]
  methods := #[]
  instanceTypes := #[]
  staticTypes := #[]
  resolved := Array.replicate 37 none
  statics := none }

def pool7 : Array CpInfo := pool [(1, .methodref 2 3), (0, .class_ 4), (0, .nameAndType 5 6), (0, u "java/lang/Object"), (0, u "<init>"), (0, u "()V"), (0, .string 8), (0, u ""), (0, .fieldref 10 11), (0, .class_ 12), (0, .nameAndType 13 14), (0, u "java/lang/String"), (0, u "value"), (0, u "[B"), (0, .fieldref 10 16), (0, .nameAndType 17 18), (0, u "coder"), (0, u "B"), (2, u "hash"), (0, u "I"), (2, u "hashIsZero"), (0, u "Z"), (0, .methodref 10 28), (0, .nameAndType 5 29), (0, u "([CIILjava/lang/Void;)V"), (8, .fieldref 10 39), (0, .nameAndType 40 26), (0, u "COMPACT_STRINGS"), (1, .class_ 44), (1, u "java/lang/StringUTF16"), (0, u "compress"), (1, .methodref 42 48), (0, .nameAndType 49 50), (0, u "coderFromArrayLen"), (0, u "([BI)B"), (56, .class_ 109), (1, u "java/lang/StringLatin1"), (32, u "()Z"), (34, .methodref 42 178), (0, .nameAndType 45 179), (0, u "([CII)[B"), (31, u "([BB)V"), (122, u "()I"), (0, .methodref 10 336), (0, .nameAndType 17 337), (0, u "()B"), (25, u "([BI)C"), (27, u "(II)V"), (35, u "(I)C"), (64, .methodref 10 493), (0, .nameAndType 494 142), (0, u "isLatin1"), (0, .methodref 107 496), (0, .nameAndType 497 363), (0, u "charAt"), (3, u "checkIndex"), (3, .methodref 10 506), (0, .nameAndType 507 334), (0, u "length"), (5, u "checkFromToIndex"), (7, .methodref 10 522), (0, .nameAndType 523 524), (0, u "checkBoundsBeginEnd"), (0, u "(III)V"), (16, .methodref 107 542), (0, .nameAndType 543 544), (0, u "equals"), (0, u "([B[B)Z"), (28, u "(Ljava/lang/Object;)Z"), (1, .class_ 576), (0, u "java/lang/CharSequence"), (22, u "CASE_INSENSITIVE_ORDER"), (0, u "Ljava/util/Comparator;"), (82, u "substring"), (0, u "(II)Ljava/lang/String;"), (0, .methodref 107 686), (0, .nameAndType 687 688), (0, u "newString"), (0, u "([BII)Ljava/lang/String;"), (321, u "([C)V"), (42, .fieldref 1054 1055), (0, .class_ 1056), (0, .nameAndType 1057 1058), (0, u "jdk/internal/util/Preconditions"), (0, u "SIOOBE_FORMATTER"), (0, u "Ljava/util/function/BiFunction;"), (0, .methodref 1054 1060), (0, .nameAndType 501 1061), (0, u "(IILjava/util/function/BiFunction;)I"), (0, .methodref 1054 1063), (0, .nameAndType 513 1064), (0, u "(IIILjava/util/function/BiFunction;)I"), (36, u "serialPersistentFields"), (0, u "[Ljava/io/ObjectStreamField;"), (0, .class_ 1104), (0, u "java/lang/String$CaseInsensitiveComparator"), (1, .class_ 1107), (0, u "java/io/Serializable"), (0, .class_ 1109), (0, u "java/lang/Comparable"), (0, .class_ 1111), (0, u "java/lang/constant/Constable"), (0, .class_ 1113), (0, u "java/lang/constant/ConstantDesc"), (2, u "serialVersionUID"), (0, u "J"), (3, u "REPL"), (0, u "C"), (2, u "LATIN1"), (1, u "UTF16")] 323

def k7m0 : Method := { name := "<init>", desc := "()V", sig := { parameters := [], returnType := none }, accessFlags := 1, code := none }
def k7c1 : Code := { maxStack := 5, maxLocals := 2, code := jdk_42_method_3_code, exceptionTable := #[], attributes := #[] }
def k7m1 : Method := { name := "<init>", desc := "([C)V", sig := { parameters := [(.array .char)], returnType := none }, accessFlags := 1, code := some k7c1 }
def k7c2 : Code := { maxStack := 2, maxLocals := 1, code := jdk_42_method_54_code, exceptionTable := #[], attributes := #[] }
def k7m2 : Method := { name := "length", desc := "()I", sig := { parameters := [], returnType := some .int }, accessFlags := 1, code := some k7c2 }
def k7c3 : Code := { maxStack := 2, maxLocals := 2, code := jdk_42_method_56_code, exceptionTable := #[], attributes := #[] }
def k7m3 : Method := { name := "charAt", desc := "(I)C", sig := { parameters := [.int], returnType := some .char }, accessFlags := 1, code := some k7c3 }
def k7c4 : Code := { maxStack := 2, maxLocals := 3, code := jdk_42_method_66_code, exceptionTable := #[], attributes := #[] }
def k7m4 : Method := { name := "equals", desc := "(Ljava/lang/Object;)Z", sig := { parameters := [(.object "java/lang/Object")], returnType := some .boolean }, accessFlags := 1, code := some k7c4 }
def k7c5 : Code := { maxStack := 3, maxLocals := 5, code := jdk_42_method_92_code, exceptionTable := #[], attributes := #[] }
def k7m5 : Method := { name := "substring", desc := "(II)Ljava/lang/String;", sig := { parameters := [.int, .int], returnType := some (.object "java/lang/String") }, accessFlags := 1, code := some k7c5 }
def k7c6 : Code := { maxStack := 4, maxLocals := 6, code := jdk_42_method_149_code, exceptionTable := #[], attributes := #[] }
def k7m6 : Method := { name := "<init>", desc := "([CIILjava/lang/Void;)V", sig := { parameters := [(.array .char), .int, .int, (.object "java/lang/Void")], returnType := none }, accessFlags := 2, code := some k7c6 }
def k7c7 : Code := { maxStack := 2, maxLocals := 3, code := jdk_42_method_151_code, exceptionTable := #[], attributes := #[] }
def k7m7 : Method := { name := "<init>", desc := "([BB)V", sig := { parameters := [(.array .byte), .byte], returnType := none }, accessFlags := 0, code := some k7c7 }
def k7c8 : Code := { maxStack := 1, maxLocals := 1, code := jdk_42_method_152_code, exceptionTable := #[], attributes := #[] }
def k7m8 : Method := { name := "coder", desc := "()B", sig := { parameters := [], returnType := some .byte }, accessFlags := 0, code := some k7c8 }
def k7c9 : Code := { maxStack := 1, maxLocals := 1, code := jdk_42_method_154_code, exceptionTable := #[], attributes := #[] }
def k7m9 : Method := { name := "isLatin1", desc := "()Z", sig := { parameters := [], returnType := some .boolean }, accessFlags := 0, code := some k7c9 }
def k7c10 : Code := { maxStack := 3, maxLocals := 2, code := jdk_42_method_155_code, exceptionTable := #[], attributes := #[] }
def k7m10 : Method := { name := "checkIndex", desc := "(II)V", sig := { parameters := [.int, .int], returnType := none }, accessFlags := 8, code := some k7c10 }
def k7c11 : Code := { maxStack := 4, maxLocals := 3, code := jdk_42_method_158_code, exceptionTable := #[], attributes := #[] }
def k7m11 : Method := { name := "checkBoundsBeginEnd", desc := "(III)V", sig := { parameters := [.int, .int, .int], returnType := none }, accessFlags := 8, code := some k7c11 }
/-- java/lang/String -/
def k7 : Class := { plain "java/lang/String" (some 0) with
  accessFlags := 49
  interfaces := #[2, 3, 4, 5, 6]
  cf := some (fileOf pool7 10 #[.nestMembers #[1103]] #[{ accessFlags := 1, nameIndex := 5, descriptorIndex := 6, attributes := #[] }, { accessFlags := 1, nameIndex := 5, descriptorIndex := 1010, attributes := #[] }, { accessFlags := 1, nameIndex := 507, descriptorIndex := 334, attributes := #[] }, { accessFlags := 1, nameIndex := 497, descriptorIndex := 427, attributes := #[] }, { accessFlags := 1, nameIndex := 543, descriptorIndex := 573, attributes := #[] }, { accessFlags := 1, nameIndex := 683, descriptorIndex := 684, attributes := #[] }, { accessFlags := 2, nameIndex := 5, descriptorIndex := 29, attributes := #[] }, { accessFlags := 0, nameIndex := 5, descriptorIndex := 211, attributes := #[] }, { accessFlags := 0, nameIndex := 17, descriptorIndex := 337, attributes := #[] }, { accessFlags := 0, nameIndex := 494, descriptorIndex := 142, attributes := #[] }, { accessFlags := 8, nameIndex := 501, descriptorIndex := 391, attributes := #[] }, { accessFlags := 8, nameIndex := 523, descriptorIndex := 524, attributes := #[] }] 49 2 #[1106, 1108, 575, 1110, 1112] #[{ accessFlags := 18, nameIndex := 13, descriptorIndex := 14, attributes := #[] }, { accessFlags := 18, nameIndex := 17, descriptorIndex := 18, attributes := #[] }, { accessFlags := 2, nameIndex := 21, descriptorIndex := 22, attributes := #[] }, { accessFlags := 2, nameIndex := 25, descriptorIndex := 26, attributes := #[] }, { accessFlags := 26, nameIndex := 1116, descriptorIndex := 1117, attributes := #[] }, { accessFlags := 24, nameIndex := 40, descriptorIndex := 26, attributes := #[] }, { accessFlags := 26, nameIndex := 1101, descriptorIndex := 1102, attributes := #[] }, { accessFlags := 26, nameIndex := 1121, descriptorIndex := 1122, attributes := #[] }, { accessFlags := 25, nameIndex := 599, descriptorIndex := 600, attributes := #[] }, { accessFlags := 24, nameIndex := 1125, descriptorIndex := 18, attributes := #[] }, { accessFlags := 24, nameIndex := 1127, descriptorIndex := 18, attributes := #[] }])
  fields := #[{ name := "value", type := (.array .byte), accessFlags := 18, slot := 0, constantValue := 0 }, { name := "coder", type := .byte, accessFlags := 18, slot := 1, constantValue := 0 }, { name := "hash", type := .int, accessFlags := 2, slot := 2, constantValue := 0 }, { name := "hashIsZero", type := .boolean, accessFlags := 2, slot := 3, constantValue := 0 }, { name := "serialVersionUID", type := .long, accessFlags := 26, slot := 0, constantValue := 0 }, { name := "COMPACT_STRINGS", type := .boolean, accessFlags := 24, slot := 1, constantValue := 0 }, { name := "serialPersistentFields", type := (.array (.object "java/io/ObjectStreamField")), accessFlags := 26, slot := 2, constantValue := 0 }, { name := "REPL", type := .char, accessFlags := 26, slot := 3, constantValue := 0 }, { name := "CASE_INSENSITIVE_ORDER", type := (.object "java/util/Comparator"), accessFlags := 25, slot := 4, constantValue := 0 }, { name := "LATIN1", type := .byte, accessFlags := 24, slot := 5, constantValue := 0 }, { name := "UTF16", type := .byte, accessFlags := 24, slot := 6, constantValue := 0 }]
  methods := #[k7m0, k7m1, k7m2, k7m3, k7m4, k7m5, k7m6, k7m7, k7m8, k7m9, k7m10, k7m11]
  instanceTypes := #[(.array .byte), .byte, .int, .boolean]
  staticTypes := #[.long, .boolean, (.array (.object "java/io/ObjectStreamField")), .char, (.object "java/util/Comparator"), .byte, .byte]
  resolved := Array.replicate 1451 none
  statics := some 0 }

def pool8 : Array CpInfo := pool [(1, .methodref 2 3), (0, .class_ 4), (0, .nameAndType 5 6), (0, u "java/lang/Object"), (0, u "<init>"), (0, u "()V"), (0, .methodref 8 9), (0, .class_ 10), (0, .nameAndType 11 12), (0, u "java/lang/String"), (0, u "length"), (0, u "()I"), (0, .methodref 8 14), (0, .nameAndType 15 16), (0, u "charAt"), (0, u "(I)C"), (0, .fieldref 18 19), (0, .class_ 20), (0, .nameAndType 21 22), (0, u "com/example/indelible_trail/indelibletrail/model/XmlDateTime"), (0, u "year"), (0, u "Ljava/lang/String;"), (0, .fieldref 18 24), (0, .nameAndType 25 26), (0, u "secondOfYear"), (0, u "I"), (0, .methodref 8 28), (0, .nameAndType 29 30), (0, u "substring"), (0, u "(II)Ljava/lang/String;"), (0, .fieldref 18 32), (0, .nameAndType 33 22), (0, u "fraction"), (45, .methodref 8 80), (0, .nameAndType 81 82), (0, u "equals"), (0, u "(Ljava/lang/Object;)Z"), (25, .class_ 109), (0, u "java/lang/Comparable"), (0, u "(Ljava/lang/String;ILjava/lang/String;)V")] 32

def k8c0 : Code := { maxStack := 4, maxLocals := 5, code := prog_34_method_1_code, exceptionTable := #[], attributes := #[] }
def k8m0 : Method := { name := "<init>", desc := "(Ljava/lang/String;ILjava/lang/String;)V", sig := { parameters := [(.object "java/lang/String"), .int, (.object "java/lang/String")], returnType := none }, accessFlags := 0, code := some k8c0 }
def k8c1 : Code := { maxStack := 2, maxLocals := 3, code := prog_34_method_4_code, exceptionTable := #[], attributes := #[] }
def k8m1 : Method := { name := "equals", desc := "(Ljava/lang/Object;)Z", sig := { parameters := [(.object "java/lang/Object")], returnType := some .boolean }, accessFlags := 1, code := some k8c1 }
/-- com/example/indelible_trail/indelibletrail/model/XmlDateTime -/
def k8 : Class := { plain "com/example/indelible_trail/indelibletrail/model/XmlDateTime" (some 0) with
  accessFlags := 33
  interfaces := #[3]
  cf := some (fileOf pool8 18 #[] #[{ accessFlags := 0, nameIndex := 5, descriptorIndex := 110, attributes := #[] }, { accessFlags := 1, nameIndex := 81, descriptorIndex := 82, attributes := #[] }] 33 2 #[108] #[{ accessFlags := 18, nameIndex := 21, descriptorIndex := 22, attributes := #[] }, { accessFlags := 18, nameIndex := 25, descriptorIndex := 26, attributes := #[] }, { accessFlags := 18, nameIndex := 33, descriptorIndex := 22, attributes := #[] }])
  fields := #[{ name := "year", type := (.object "java/lang/String"), accessFlags := 18, slot := 0, constantValue := 0 }, { name := "secondOfYear", type := .int, accessFlags := 18, slot := 1, constantValue := 0 }, { name := "fraction", type := (.object "java/lang/String"), accessFlags := 18, slot := 2, constantValue := 0 }]
  methods := #[k8m0, k8m1]
  instanceTypes := #[(.object "java/lang/String"), .int, (.object "java/lang/String")]
  staticTypes := #[]
  resolved := Array.replicate 143 none
  statics := none }

def pool9 : Array CpInfo := pool [(6, .class_ 8), (1, u "java/lang/Object"), (0, u "<init>"), (0, u "()V"), (1, .class_ 14), (1, u "java/lang/StringUTF16"), (31, u "$assertionsDisabled"), (0, u "Z"), (13, u "HI_BYTE_SHIFT"), (0, u "I"), (2, u "LO_BYTE_SHIFT"), (49, .methodref 12 116), (0, .nameAndType 117 118), (0, u "compress"), (0, u "([CI[BII)I"), (3, u "([CII)[B"), (138, u "coderFromArrayLen"), (0, u "([BI)B"), (106, .class_ 371), (1, u "java/lang/StringUTF16$LinesSpliterator"), (58, u "MAX_LENGTH"), (196, .class_ 628), (0, u "java/lang/StringUTF16$CodePointsSpliterator"), (0, .class_ 630), (0, u "java/lang/StringUTF16$CharsSpliterator")] 4

def k9m0 : Method := { name := "<init>", desc := "()V", sig := { parameters := [], returnType := none }, accessFlags := 0, code := none }
def k9c1 : Code := { maxStack := 2, maxLocals := 2, code := jdk_52_method_15_code, exceptionTable := #[], attributes := #[] }
def k9m1 : Method := { name := "coderFromArrayLen", desc := "([BI)B", sig := { parameters := [(.array .byte), .int], returnType := some .byte }, accessFlags := 8, code := some k9c1 }
def k9c2 : Code := { maxStack := 5, maxLocals := 6, code := jdk_52_method_16_code, exceptionTable := #[], attributes := #[] }
def k9m2 : Method := { name := "compress", desc := "([CII)[B", sig := { parameters := [(.array .char), .int, .int], returnType := some (.array .byte) }, accessFlags := 9, code := some k9c2 }
def k9c3 : Code := { maxStack := 3, maxLocals := 7, code := jdk_52_method_21_code, exceptionTable := #[], attributes := #[] }
def k9m3 : Method := { name := "compress", desc := "([CI[BII)I", sig := { parameters := [(.array .char), .int, (.array .byte), .int, .int], returnType := some .int }, accessFlags := 9, code := some k9c3 }
/-- java/lang/StringUTF16 -/
def k9 : Class := { plain "java/lang/StringUTF16" (some 0) with
  accessFlags := 48
  interfaces := #[]
  cf := some (fileOf pool9 12 #[.nestMembers #[627, 629, 369]] #[{ accessFlags := 0, nameIndex := 9, descriptorIndex := 10, attributes := #[] }, { accessFlags := 8, nameIndex := 261, descriptorIndex := 262, attributes := #[] }, { accessFlags := 9, nameIndex := 117, descriptorIndex := 122, attributes := #[] }, { accessFlags := 9, nameIndex := 117, descriptorIndex := 118, attributes := #[] }] 48 6 #[] #[{ accessFlags := 26, nameIndex := 61, descriptorIndex := 62, attributes := #[] }, { accessFlags := 26, nameIndex := 65, descriptorIndex := 62, attributes := #[] }, { accessFlags := 24, nameIndex := 430, descriptorIndex := 62, attributes := #[] }, { accessFlags := 4120, nameIndex := 46, descriptorIndex := 47, attributes := #[] }])
  fields := #[{ name := "HI_BYTE_SHIFT", type := .int, accessFlags := 26, slot := 0, constantValue := 0 }, { name := "LO_BYTE_SHIFT", type := .int, accessFlags := 26, slot := 1, constantValue := 0 }, { name := "MAX_LENGTH", type := .int, accessFlags := 24, slot := 2, constantValue := 0 }, { name := "$assertionsDisabled", type := .boolean, accessFlags := 4120, slot := 3, constantValue := 0 }]
  methods := #[k9m0, k9m1, k9m2, k9m3]
  instanceTypes := #[]
  staticTypes := #[.int, .int, .int, .boolean]
  resolved := Array.replicate 635 none
  statics := none }

def pool10 : Array CpInfo := pool [(1, .class_ 2), (0, u "java/lang/String"), (1, .class_ 6), (1, u "java/lang/Object"), (0, u "<init>"), (0, u "()V"), (0, .methodref 1 10), (0, .nameAndType 11 12), (0, u "checkIndex"), (0, u "(II)V"), (1, .class_ 16), (1, u "java/lang/StringLatin1"), (36, u "([BI)C"), (58, .methodref 1 113), (0, .nameAndType 7 114), (0, u "([BB)V"), (6, u "$assertionsDisabled"), (0, u "Z"), (8, .class_ 133), (1, u "java/util/Arrays"), (17, .string 152), (0, u ""), (43, u "newString"), (0, u "([BII)Ljava/lang/String;"), (23, .class_ 223), (1, u "java/lang/StringLatin1$LinesSpliterator"), (8, .methodref 131 233), (0, .nameAndType 234 235), (0, u "copyOfRange"), (0, u "([BII)[B"), (16, u "charAt"), (28, u "equals"), (0, u "([B[B)Z"), (107, .class_ 391), (0, u "java/lang/StringLatin1$CharsSpliterator")] 3

def k10m0 : Method := { name := "<init>", desc := "()V", sig := { parameters := [], returnType := none }, accessFlags := 0, code := none }
def k10c1 : Code := { maxStack := 2, maxLocals := 2, code := jdk_43_method_2_code, exceptionTable := #[], attributes := #[] }
def k10m1 : Method := { name := "charAt", desc := "([BI)C", sig := { parameters := [(.array .byte), .int], returnType := some .char }, accessFlags := 9, code := some k10c1 }
def k10c2 : Code := { maxStack := 3, maxLocals := 3, code := jdk_43_method_13_code, exceptionTable := #[], attributes := #[] }
def k10m2 : Method := { name := "equals", desc := "([B[B)Z", sig := { parameters := [(.array .byte), (.array .byte)], returnType := some .boolean }, accessFlags := 9, code := some k10c2 }
def k10c3 : Code := { maxStack := 6, maxLocals := 3, code := jdk_43_method_47_code, exceptionTable := #[], attributes := #[] }
def k10m3 : Method := { name := "newString", desc := "([BII)Ljava/lang/String;", sig := { parameters := [(.array .byte), .int, .int], returnType := some (.object "java/lang/String") }, accessFlags := 9, code := some k10c3 }
/-- java/lang/StringLatin1 -/
def k10 : Class := { plain "java/lang/StringLatin1" (some 0) with
  accessFlags := 48
  interfaces := #[]
  cf := some (fileOf pool10 14 #[.nestMembers #[390, 221]] #[{ accessFlags := 0, nameIndex := 7, descriptorIndex := 8, attributes := #[] }, { accessFlags := 9, nameIndex := 252, descriptorIndex := 53, attributes := #[] }, { accessFlags := 9, nameIndex := 281, descriptorIndex := 282, attributes := #[] }, { accessFlags := 9, nameIndex := 196, descriptorIndex := 197, attributes := #[] }] 48 4 #[] #[{ accessFlags := 4120, nameIndex := 121, descriptorIndex := 122, attributes := #[] }])
  fields := #[{ name := "$assertionsDisabled", type := .boolean, accessFlags := 4120, slot := 0, constantValue := 0 }]
  methods := #[k10m0, k10m1, k10m2, k10m3]
  instanceTypes := #[]
  staticTypes := #[.boolean]
  resolved := Array.replicate 395 none
  statics := none }

def pool11 : Array CpInfo := pool [(2, .class_ 4), (1, u "java/lang/Object"), (0, u "<init>"), (0, u "()V"), (17, .class_ 26), (1, u "jdk/internal/util/Preconditions"), (6, u "checkIndex"), (13, u "checkFromToIndex"), (7, .class_ 56), (0, u "jdk/internal/util/Preconditions$4"), (57, .class_ 115), (0, u "jdk/internal/util/Preconditions$1"), (7, u "SIOOBE_FORMATTER"), (0, u "Ljava/util/function/BiFunction;"), (0, .class_ 126), (0, u "jdk/internal/util/Preconditions$2"), (3, u "AIOOBE_FORMATTER"), (0, .class_ 132), (0, u "jdk/internal/util/Preconditions$3"), (3, u "IOOBE_FORMATTER"), (41, u "(IILjava/util/function/BiFunction;)I"), (4, u "(IIILjava/util/function/BiFunction;)I")] 10

def k11m0 : Method := { name := "<init>", desc := "()V", sig := { parameters := [], returnType := none }, accessFlags := 1, code := none }
def k11c1 : Code := { maxStack := 3, maxLocals := 3, code := jdk_41_method_11_code, exceptionTable := #[], attributes := #[] }
def k11m1 : Method := { name := "checkIndex", desc := "(IILjava/util/function/BiFunction;)I", sig := { parameters := [.int, .int, (.object "java/util/function/BiFunction")], returnType := some .int }, accessFlags := 9, code := some k11c1 }
def k11c2 : Code := { maxStack := 4, maxLocals := 4, code := jdk_41_method_12_code, exceptionTable := #[], attributes := #[] }
def k11m2 : Method := { name := "checkFromToIndex", desc := "(IIILjava/util/function/BiFunction;)I", sig := { parameters := [.int, .int, .int, (.object "java/util/function/BiFunction")], returnType := some .int }, accessFlags := 9, code := some k11c2 }
/-- jdk/internal/util/Preconditions -/
def k11 : Class := { plain "jdk/internal/util/Preconditions" (some 0) with
  accessFlags := 33
  interfaces := #[]
  cf := some (fileOf pool11 24 #[.nestMembers #[55, 131, 125, 114]] #[{ accessFlags := 1, nameIndex := 5, descriptorIndex := 6, attributes := #[] }, { accessFlags := 9, nameIndex := 33, descriptorIndex := 178, attributes := #[] }, { accessFlags := 9, nameIndex := 47, descriptorIndex := 183, attributes := #[] }] 33 2 #[] #[{ accessFlags := 25, nameIndex := 123, descriptorIndex := 124, attributes := #[] }, { accessFlags := 25, nameIndex := 130, descriptorIndex := 124, attributes := #[] }, { accessFlags := 25, nameIndex := 136, descriptorIndex := 124, attributes := #[] }])
  fields := #[{ name := "SIOOBE_FORMATTER", type := (.object "java/util/function/BiFunction"), accessFlags := 25, slot := 0, constantValue := 0 }, { name := "AIOOBE_FORMATTER", type := (.object "java/util/function/BiFunction"), accessFlags := 25, slot := 1, constantValue := 0 }, { name := "IOOBE_FORMATTER", type := (.object "java/util/function/BiFunction"), accessFlags := 25, slot := 2, constantValue := 0 }]
  methods := #[k11m0, k11m1, k11m2]
  instanceTypes := #[]
  staticTypes := #[(.object "java/util/function/BiFunction"), (.object "java/util/function/BiFunction"), (.object "java/util/function/BiFunction")]
  resolved := Array.replicate 194 none
  statics := some 1 }

def pool12 : Array CpInfo := pool [(2, .class_ 4), (1, u "java/lang/Object"), (0, u "<init>"), (0, u "()V"), (7, .class_ 16), (1, u "java/util/Arrays"), (57, .class_ 76), (1, u "java/util/Arrays$NaturalOrder"), (36, .class_ 115), (1, u "java/util/Arrays$LegacyMergeSort"), (1, u "Z"), (21, u "copyOfRange"), (10, .methodref 151 152), (0, .class_ 153), (0, .nameAndType 154 155), (0, u "java/lang/System"), (0, u "arraycopy"), (0, u "(Ljava/lang/Object;ILjava/lang/Object;II)V"), (148, .methodref 305 306), (0, .class_ 307), (0, .nameAndType 308 309), (0, u "java/lang/Math"), (0, u "min"), (0, u "(II)I"), (29, .methodref 14 340), (0, .nameAndType 341 342), (0, u "copyOfRangeByte"), (0, u "([BII)[B"), (0, .methodref 14 344), (0, .nameAndType 345 346), (0, u "checkLength"), (0, u "(II)V"), (28, .class_ 376), (0, u "java/util/Arrays$ArrayList"), (68, u "$assertionsDisabled"), (269, u "MIN_ARRAY_SORT_GRAN"), (0, u "I"), (2, u "INSERTIONSORT_THRESHOLD"), (255, .class_ 976), (0, u "java/util/Arrays$ArrayItr")] 52

def k12m0 : Method := { name := "<init>", desc := "()V", sig := { parameters := [], returnType := none }, accessFlags := 2, code := none }
def k12c1 : Code := { maxStack := 4, maxLocals := 2, code := jdk_65_method_131_code, exceptionTable := #[], attributes := #[] }
def k12m1 : Method := { name := "checkLength", desc := "(II)V", sig := { parameters := [.int, .int], returnType := none }, accessFlags := 10, code := some k12c1 }
def k12c2 : Code := { maxStack := 3, maxLocals := 3, code := jdk_65_method_132_code, exceptionTable := #[], attributes := #[] }
def k12m2 : Method := { name := "copyOfRange", desc := "([BII)[B", sig := { parameters := [(.array .byte), .int, .int], returnType := some (.array .byte) }, accessFlags := 9, code := some k12c2 }
def k12c3 : Code := { maxStack := 6, maxLocals := 5, code := jdk_65_method_133_code, exceptionTable := #[], attributes := #[] }
def k12m3 : Method := { name := "copyOfRangeByte", desc := "([BII)[B", sig := { parameters := [(.array .byte), .int, .int], returnType := some (.array .byte) }, accessFlags := 10, code := some k12c3 }
/-- java/util/Arrays -/
def k12 : Class := { plain "java/util/Arrays" (some 0) with
  accessFlags := 49
  interfaces := #[]
  cf := some (fileOf pool12 14 #[.nestMembers #[975, 375, 113, 74]] #[{ accessFlags := 2, nameIndex := 5, descriptorIndex := 6, attributes := #[] }, { accessFlags := 10, nameIndex := 345, descriptorIndex := 346, attributes := #[] }, { accessFlags := 9, nameIndex := 139, descriptorIndex := 342, attributes := #[] }, { accessFlags := 10, nameIndex := 341, descriptorIndex := 342, attributes := #[] }] 49 2 #[] #[{ accessFlags := 26, nameIndex := 715, descriptorIndex := 716, attributes := #[] }, { accessFlags := 26, nameIndex := 719, descriptorIndex := 716, attributes := #[] }, { accessFlags := 4120, nameIndex := 445, descriptorIndex := 117, attributes := #[] }])
  fields := #[{ name := "MIN_ARRAY_SORT_GRAN", type := .int, accessFlags := 26, slot := 0, constantValue := 0 }, { name := "INSERTIONSORT_THRESHOLD", type := .int, accessFlags := 26, slot := 1, constantValue := 0 }, { name := "$assertionsDisabled", type := .boolean, accessFlags := 4120, slot := 2, constantValue := 0 }]
  methods := #[k12m0, k12m1, k12m2, k12m3]
  instanceTypes := #[]
  staticTypes := #[.int, .int, .boolean]
  resolved := Array.replicate 1029 none
  statics := none }

def pool13 : Array CpInfo := pool [(1, .class_ 2), (0, u "java/lang/Math"), (1, .class_ 6), (1, u "java/lang/Object"), (0, u "<init>"), (0, u "()V"), (89, .class_ 100), (1, u "java/lang/Math$RandomNumberGeneratorHolder"), (71, u "negativeZeroFloatBits"), (0, u "J"), (2, u "negativeZeroDoubleBits"), (24, u "min"), (43, u "$assertionsDisabled"), (0, u "Z"), (88, u "(II)I"), (2, u "twoToTheDoubleScaleDown"), (0, u "D"), (4, u "twoToTheDoubleScaleUp"), (9, u "E"), (3, u "PI"), (2, u "TAU"), (2, u "DEGREES_TO_RADIANS"), (0, u "RADIANS_TO_DEGREES")] 94

def k13m0 : Method := { name := "<init>", desc := "()V", sig := { parameters := [], returnType := none }, accessFlags := 2, code := none }
def k13c1 : Code := { maxStack := 2, maxLocals := 2, code := jdk_29_method_69_code, exceptionTable := #[], attributes := #[] }
def k13m1 : Method := { name := "min", desc := "(II)I", sig := { parameters := [.int, .int], returnType := some .int }, accessFlags := 9, code := some k13c1 }
/-- java/lang/Math -/
def k13 : Class := { plain "java/lang/Math" (some 0) with
  accessFlags := 49
  interfaces := #[]
  cf := some (fileOf pool13 1 #[.nestMembers #[98]] #[{ accessFlags := 2, nameIndex := 7, descriptorIndex := 8, attributes := #[] }, { accessFlags := 9, nameIndex := 201, descriptorIndex := 335, attributes := #[] }] 49 4 #[] #[{ accessFlags := 25, nameIndex := 354, descriptorIndex := 339, attributes := #[] }, { accessFlags := 25, nameIndex := 358, descriptorIndex := 339, attributes := #[] }, { accessFlags := 25, nameIndex := 361, descriptorIndex := 339, attributes := #[] }, { accessFlags := 26, nameIndex := 364, descriptorIndex := 339, attributes := #[] }, { accessFlags := 26, nameIndex := 365, descriptorIndex := 339, attributes := #[] }, { accessFlags := 26, nameIndex := 172, descriptorIndex := 173, attributes := #[] }, { accessFlags := 26, nameIndex := 176, descriptorIndex := 173, attributes := #[] }, { accessFlags := 8, nameIndex := 344, descriptorIndex := 339, attributes := #[] }, { accessFlags := 8, nameIndex := 338, descriptorIndex := 339, attributes := #[] }, { accessFlags := 4120, nameIndex := 245, descriptorIndex := 246, attributes := #[] }])
  fields := #[{ name := "E", type := .double, accessFlags := 25, slot := 0, constantValue := 0 }, { name := "PI", type := .double, accessFlags := 25, slot := 1, constantValue := 0 }, { name := "TAU", type := .double, accessFlags := 25, slot := 2, constantValue := 0 }, { name := "DEGREES_TO_RADIANS", type := .double, accessFlags := 26, slot := 3, constantValue := 0 }, { name := "RADIANS_TO_DEGREES", type := .double, accessFlags := 26, slot := 4, constantValue := 0 }, { name := "negativeZeroFloatBits", type := .long, accessFlags := 26, slot := 5, constantValue := 0 }, { name := "negativeZeroDoubleBits", type := .long, accessFlags := 26, slot := 6, constantValue := 0 }, { name := "twoToTheDoubleScaleUp", type := .double, accessFlags := 8, slot := 7, constantValue := 0 }, { name := "twoToTheDoubleScaleDown", type := .double, accessFlags := 8, slot := 8, constantValue := 0 }, { name := "$assertionsDisabled", type := .boolean, accessFlags := 4120, slot := 9, constantValue := 0 }]
  methods := #[k13m0, k13m1]
  instanceTypes := #[]
  staticTypes := #[.double, .double, .double, .double, .double, .long, .long, .double, .double, .boolean]
  resolved := Array.replicate 460 none
  statics := none }

def pool14 : Array CpInfo := pool [(2, .class_ 4), (1, u "java/lang/Object"), (0, u "<init>"), (0, u "()V"), (1, .class_ 10), (1, u "java/lang/System"), (0, u "allowSecurityManager"), (0, u "I"), (16, u "cons"), (0, u "Ljava/io/Console;"), (77, .class_ 110), (1, u "java/lang/System$CallersHolder"), (43, u "initialErrStream"), (0, u "Ljava/io/PrintStream;"), (19, u "security"), (0, u "Ljava/lang/SecurityManager;"), (31, .class_ 209), (0, u "java/lang/System$1"), (7, u "props"), (0, u "Ljava/util/Properties;"), (2, u "lineSeparator"), (0, u "Ljava/lang/String;"), (96, .class_ 321), (1, u "java/lang/System$LoggerFinder"), (5, .class_ 328), (0, u "java/lang/System$Logger"), (67, u "err"), (2, u "out"), (91, u "notSupportedJnuEncoding"), (15, u "in"), (17, u "initialIn"), (0, u "Ljava/io/InputStream;"), (35, u "bootLayer"), (0, u "Ljava/lang/ModuleLayer;"), (99, .class_ 664), (0, u "java/lang/System$2"), (9, u "NEVER"), (2, u "MAYBE"), (49, u "arraycopy"), (0, u "(Ljava/lang/Object;ILjava/lang/Object;II)V"), (72, .class_ 802), (0, u "java/lang/System$Logger$Level")] 31

def k14m0 : Method := { name := "<init>", desc := "()V", sig := { parameters := [], returnType := none }, accessFlags := 2, code := none }
def k14m1 : Method := { name := "arraycopy", desc := "(Ljava/lang/Object;ILjava/lang/Object;II)V", sig := { parameters := [(.object "java/lang/Object"), .int, (.object "java/lang/Object"), .int, .int], returnType := none }, accessFlags := 265, code := none }
/-- java/lang/System -/
def k14 : Class := { plain "java/lang/System" (some 0) with
  accessFlags := 49
  interfaces := #[]
  cf := some (fileOf pool14 8 #[.nestMembers #[319, 327, 801, 108, 663, 208]] #[{ accessFlags := 2, nameIndex := 5, descriptorIndex := 6, attributes := #[] }, { accessFlags := 265, nameIndex := 727, descriptorIndex := 728, attributes := #[] }] 49 2 #[] #[{ accessFlags := 25, nameIndex := 507, descriptorIndex := 526, attributes := #[] }, { accessFlags := 25, nameIndex := 399, descriptorIndex := 155, attributes := #[] }, { accessFlags := 25, nameIndex := 396, descriptorIndex := 155, attributes := #[] }, { accessFlags := 10, nameIndex := 525, descriptorIndex := 526, attributes := #[] }, { accessFlags := 26, nameIndex := 674, descriptorIndex := 12, attributes := #[] }, { accessFlags := 26, nameIndex := 677, descriptorIndex := 12, attributes := #[] }, { accessFlags := 10, nameIndex := 11, descriptorIndex := 12, attributes := #[] }, { accessFlags := 74, nameIndex := 175, descriptorIndex := 176, attributes := #[] }, { accessFlags := 10, nameIndex := 491, descriptorIndex := 222, attributes := #[] }, { accessFlags := 74, nameIndex := 29, descriptorIndex := 30, attributes := #[] }, { accessFlags := 74, nameIndex := 154, descriptorIndex := 155, attributes := #[] }, { accessFlags := 10, nameIndex := 217, descriptorIndex := 218, attributes := #[] }, { accessFlags := 10, nameIndex := 221, descriptorIndex := 222, attributes := #[] }, { accessFlags := 8, nameIndex := 562, descriptorIndex := 563, attributes := #[] }])
  fields := #[{ name := "in", type := (.object "java/io/InputStream"), accessFlags := 25, slot := 0, constantValue := 0 }, { name := "out", type := (.object "java/io/PrintStream"), accessFlags := 25, slot := 1, constantValue := 0 }, { name := "err", type := (.object "java/io/PrintStream"), accessFlags := 25, slot := 2, constantValue := 0 }, { name := "initialIn", type := (.object "java/io/InputStream"), accessFlags := 10, slot := 3, constantValue := 0 }, { name := "NEVER", type := .int, accessFlags := 26, slot := 4, constantValue := 0 }, { name := "MAYBE", type := .int, accessFlags := 26, slot := 5, constantValue := 0 }, { name := "allowSecurityManager", type := .int, accessFlags := 10, slot := 6, constantValue := 0 }, { name := "security", type := (.object "java/lang/SecurityManager"), accessFlags := 74, slot := 7, constantValue := 0 }, { name := "notSupportedJnuEncoding", type := (.object "java/lang/String"), accessFlags := 10, slot := 8, constantValue := 0 }, { name := "cons", type := (.object "java/io/Console"), accessFlags := 74, slot := 9, constantValue := 0 }, { name := "initialErrStream", type := (.object "java/io/PrintStream"), accessFlags := 74, slot := 10, constantValue := 0 }, { name := "props", type := (.object "java/util/Properties"), accessFlags := 10, slot := 11, constantValue := 0 }, { name := "lineSeparator", type := (.object "java/lang/String"), accessFlags := 10, slot := 12, constantValue := 0 }, { name := "bootLayer", type := (.object "java/lang/ModuleLayer"), accessFlags := 8, slot := 13, constantValue := 0 }]
  methods := #[k14m0, k14m1]
  instanceTypes := #[]
  staticTypes := #[(.object "java/io/InputStream"), (.object "java/io/PrintStream"), (.object "java/io/PrintStream"), (.object "java/io/InputStream"), .int, .int, .int, (.object "java/lang/SecurityManager"), (.object "java/lang/String"), (.object "java/io/Console"), (.object "java/io/PrintStream"), (.object "java/util/Properties"), (.object "java/lang/String"), (.object "java/lang/ModuleLayer")]
  resolved := Array.replicate 834 none
  statics := none }

def pool15 : Array CpInfo := pool [(9, u "<init>"), (6, .class_ 18), (1, u "java/lang/Object"), (0, u "()V"), (1, .class_ 23), (1, u "jdk/internal/util/ArraysSupport"), (0, u "LOG2_ARRAY_LONG_INDEX_SCALE"), (0, u "I"), (2, u "U"), (0, u "Ljdk/internal/misc/Unsafe;"), (8, u "BIG_ENDIAN"), (0, u "Z"), (8, u "LOG2_BYTE_BIT_SIZE"), (4, u "LOG2_ARRAY_INT_INDEX_SCALE"), (54, u "JLA"), (0, u "Ljdk/internal/access/JavaLangAccess;"), (11, u "LOG2_ARRAY_BOOLEAN_INDEX_SCALE"), (9, u "LOG2_ARRAY_BYTE_INDEX_SCALE"), (5, u "LOG2_ARRAY_CHAR_INDEX_SCALE"), (5, u "LOG2_ARRAY_SHORT_INDEX_SCALE"), (18, u "LOG2_ARRAY_FLOAT_INDEX_SCALE"), (24, u "LOG2_ARRAY_DOUBLE_INDEX_SCALE"), (89, u "T_BOOLEAN"), (2, u "T_CHAR"), (1, u "T_FLOAT"), (1, u "T_DOUBLE"), (1, u "T_BYTE"), (1, u "T_SHORT"), (1, u "T_INT"), (1, u "T_LONG"), (1, u "SOFT_MAX_ARRAY_LENGTH")] 83

def k15m0 : Method := { name := "<init>", desc := "()V", sig := { parameters := [], returnType := none }, accessFlags := 2, code := none }
/-- jdk/internal/util/ArraysSupport -/
def k15 : Class := { plain "jdk/internal/util/ArraysSupport" (some 0) with
  accessFlags := 33
  interfaces := #[]
  cf := some (fileOf pool15 21 #[] #[{ accessFlags := 2, nameIndex := 9, descriptorIndex := 19, attributes := #[] }] 33 16 #[] #[{ accessFlags := 24, nameIndex := 28, descriptorIndex := 29, attributes := #[] }, { accessFlags := 26, nameIndex := 38, descriptorIndex := 39, attributes := #[] }, { accessFlags := 25, nameIndex := 121, descriptorIndex := 25, attributes := #[] }, { accessFlags := 25, nameIndex := 131, descriptorIndex := 25, attributes := #[] }, { accessFlags := 25, nameIndex := 137, descriptorIndex := 25, attributes := #[] }, { accessFlags := 25, nameIndex := 143, descriptorIndex := 25, attributes := #[] }, { accessFlags := 25, nameIndex := 53, descriptorIndex := 25, attributes := #[] }, { accessFlags := 25, nameIndex := 24, descriptorIndex := 25, attributes := #[] }, { accessFlags := 25, nameIndex := 162, descriptorIndex := 25, attributes := #[] }, { accessFlags := 25, nameIndex := 187, descriptorIndex := 25, attributes := #[] }, { accessFlags := 26, nameIndex := 48, descriptorIndex := 25, attributes := #[] }, { accessFlags := 25, nameIndex := 277, descriptorIndex := 25, attributes := #[] }, { accessFlags := 25, nameIndex := 280, descriptorIndex := 25, attributes := #[] }, { accessFlags := 25, nameIndex := 282, descriptorIndex := 25, attributes := #[] }, { accessFlags := 25, nameIndex := 284, descriptorIndex := 25, attributes := #[] }, { accessFlags := 25, nameIndex := 286, descriptorIndex := 25, attributes := #[] }, { accessFlags := 25, nameIndex := 288, descriptorIndex := 25, attributes := #[] }, { accessFlags := 25, nameIndex := 290, descriptorIndex := 25, attributes := #[] }, { accessFlags := 25, nameIndex := 292, descriptorIndex := 25, attributes := #[] }, { accessFlags := 26, nameIndex := 108, descriptorIndex := 109, attributes := #[] }, { accessFlags := 25, nameIndex := 294, descriptorIndex := 25, attributes := #[] }])
  fields := #[{ name := "U", type := (.object "jdk/internal/misc/Unsafe"), accessFlags := 24, slot := 0, constantValue := 0 }, { name := "BIG_ENDIAN", type := .boolean, accessFlags := 26, slot := 1, constantValue := 0 }, { name := "LOG2_ARRAY_BOOLEAN_INDEX_SCALE", type := .int, accessFlags := 25, slot := 2, constantValue := 0 }, { name := "LOG2_ARRAY_BYTE_INDEX_SCALE", type := .int, accessFlags := 25, slot := 3, constantValue := 0 }, { name := "LOG2_ARRAY_CHAR_INDEX_SCALE", type := .int, accessFlags := 25, slot := 4, constantValue := 0 }, { name := "LOG2_ARRAY_SHORT_INDEX_SCALE", type := .int, accessFlags := 25, slot := 5, constantValue := 0 }, { name := "LOG2_ARRAY_INT_INDEX_SCALE", type := .int, accessFlags := 25, slot := 6, constantValue := 0 }, { name := "LOG2_ARRAY_LONG_INDEX_SCALE", type := .int, accessFlags := 25, slot := 7, constantValue := 0 }, { name := "LOG2_ARRAY_FLOAT_INDEX_SCALE", type := .int, accessFlags := 25, slot := 8, constantValue := 0 }, { name := "LOG2_ARRAY_DOUBLE_INDEX_SCALE", type := .int, accessFlags := 25, slot := 9, constantValue := 0 }, { name := "LOG2_BYTE_BIT_SIZE", type := .int, accessFlags := 26, slot := 10, constantValue := 0 }, { name := "T_BOOLEAN", type := .int, accessFlags := 25, slot := 11, constantValue := 0 }, { name := "T_CHAR", type := .int, accessFlags := 25, slot := 12, constantValue := 0 }, { name := "T_FLOAT", type := .int, accessFlags := 25, slot := 13, constantValue := 0 }, { name := "T_DOUBLE", type := .int, accessFlags := 25, slot := 14, constantValue := 0 }, { name := "T_BYTE", type := .int, accessFlags := 25, slot := 15, constantValue := 0 }, { name := "T_SHORT", type := .int, accessFlags := 25, slot := 16, constantValue := 0 }, { name := "T_INT", type := .int, accessFlags := 25, slot := 17, constantValue := 0 }, { name := "T_LONG", type := .int, accessFlags := 25, slot := 18, constantValue := 0 }, { name := "JLA", type := (.object "jdk/internal/access/JavaLangAccess"), accessFlags := 26, slot := 19, constantValue := 0 }, { name := "SOFT_MAX_ARRAY_LENGTH", type := .int, accessFlags := 25, slot := 20, constantValue := 0 }]
  methods := #[k15m0]
  instanceTypes := #[]
  staticTypes := #[(.object "jdk/internal/misc/Unsafe"), .boolean, .int, .int, .int, .int, .int, .int, .int, .int, .int, .int, .int, .int, .int, .int, .int, .int, .int, (.object "jdk/internal/access/JavaLangAccess"), .int]
  resolved := Array.replicate 378 none
  statics := none }

def pool16 : Array CpInfo := pool [(1, u "java/lang/Cloneable"), (0, .class_ 1), (0, u "java/lang/Object"), (0, .class_ 3)] 3

/-- java/lang/Cloneable -/
def k16 : Class := { plain "java/lang/Cloneable" (some 0) with
  accessFlags := 1537
  interfaces := #[]
  cf := some (fileOf pool16 2 #[] #[] 1537 4 #[] #[])
  fields := #[]
  methods := #[]
  instanceTypes := #[]
  staticTypes := #[]
  resolved := Array.replicate 8 none
  statics := none }

/-- the primitive byte -/
def k17 : Class := { plain "byte" none with kind := .primitive 'B', accessFlags := 0x411 }
/-- [B -/
def k18 : Class := { plain "[B" (some 0) with kind := .array 17 .byte, interfaces := #[16, 2], accessFlags := 1041 }

/-- the primitive char -/
def k19 : Class := { plain "char" none with kind := .primitive 'C', accessFlags := 0x411 }
/-- [C -/
def k20 : Class := { plain "[C" (some 0) with kind := .array 19 .char, interfaces := #[16, 2], accessFlags := 1041 }

/-- the primitive int -/
def k21 : Class := { plain "int" none with kind := .primitive 'I', accessFlags := 0x411 }
/-- [I -/
def k22 : Class := { plain "[I" (some 0) with kind := .array 21 .int, interfaces := #[16, 2], accessFlags := 1041 }

def heap : Heap := #[{ cls := 7, slots := #[.long 0, .int 1, .null, .int 0, .null, .int 0, .int 0], vm := .statics 7 },
  { cls := 11, slots := #[.null, .null, .null], vm := .statics 11 }]
def classes : Array Class := #[k0, k1, k2, k3, k4, k5, k6, k7, k8, k9, k10, k11, k12, k13, k14, k15, k16, k17, k18, k19, k20, k21, k22]
def interned : List (Array UInt16 × Addr) := []
def slotsUsed : Nat := 10
def theMethod : MethodId := ⟨1, 1⟩
def args0 : Array Value := #[.int 5, .int 7, .int 1, .int 2, .int 3]
def aboutOver (below : List Frame) : State where
  vm := { classes := classes, interned := interned.toArray }
  heap := heap
  slotsUsed := slotsUsed
  threads := #[{ frames := .invoking theMethod args0 :: below }]
def below0 : List Frame := [.native { method := ⟨0, 0⟩, args := #[] }]
def about1 : State := aboutOver below0
def p0 : Program := .bare "" "" ""
def e0 : Env := launch0.env 0 0 0
theorem w_frames : about1.frames = Frame.invoking theMethod args0 :: below0 := rfl
set_option maxRecDepth 65536 in
theorem w_args : argsFit about1.vm theMethod args0 = true := by decide +kernel
set_option maxRecDepth 65536 in
theorem w_heap : heapFits about1 = true := by decide +kernel
set_option maxRecDepth 65536 in
theorem w_runnable : about1.curStatus? = some .runnable := by decide +kernel
set_option maxRecDepth 65536 in
theorem w_alone : about1.alone = true := by decide +kernel
set_option maxRecDepth 65536 in
theorem w_named : about1.methodNamed? x = some theMethod := by decide +kernel
set_option maxRecDepth 65536 in
theorem w_hears : about1.hears theMethod below0 = true := by decide +kernel
set_option maxRecDepth 65536 in
theorem w_ripe : about1.ripe theMethod args0 below0 = true := by decide +kernel
theorem w_running : about1.status = .running := rfl
set_option maxRecDepth 65536 in
theorem w_room : about1.hasRoom e0.platform room_1 = true :=
  launch0.hasRoom_least _ room_1 (by decide +kernel) (by decide +kernel) (by decide +kernel) (by decide +kernel) (by decide +kernel) (by decide +kernel)
theorem allAtoms_all (ts : List Jvm.Cond) (a : Array Jvm.Value) (st : Jvm.State) : (allAtoms ts).before a st = ts.all (fun c => c.before a st) := by
  induction ts with
  | nil => rfl
  | cons c t ih =>
    show (Jvm.Cond.and c (allAtoms t)).before a st = _
    rw [Jvm.Cond.before_and, ih, List.all_cons]
def words1 : List Jvm.Cond := Jvm.Cond.code x code maxLocals ret :: tables_1
/-- a 'code' word, met by the world's own term for the bytes: nothing is compared byte by byte -/
theorem code_word {y : MethodName} {bytes : ByteArray} {mx : Nat} {rt : Option FieldType} {a : Array Value} {s : State} {m : MethodId} {meth : Method} {c : Code} (h1 : s.methodNamed? y = some m) (h2 : s.vm.method? m = some meth) (h3 : meth.code = some c) (h4 : c.code = bytes)
    (h5 : (c.maxLocals == mx && c.exceptionTable.isEmpty && decide (c.maxStack ≤ mostOperands) && decide (meth.sig.returnType = rt) && !meth.locks && decide (parseMethodDescriptor y.desc = some meth.sig)) = true) : (Jvm.Cond.code y bytes mx rt).before a s = true := by
  simp only [Bool.and_eq_true, beq_iff_eq, Bool.not_eq_true', decide_eq_true_eq] at h5
  obtain ⟨⟨⟨⟨⟨g1, g2⟩, g3⟩, g4⟩, g5⟩, g6⟩ := h5
  simp [Cond.before, Cond.holds, Cond.value, h1, h2, h3, h4, g1, g2, g3, g4, g5, g6]
def isCode : Jvm.Cond → Bool
  | .code _ _ _ _ => true
  | _ => false
theorem all_split {L : List Jvm.Cond} {P : Jvm.Cond → Bool} (h1 : L.all (fun c => isCode c || P c) = true) (h2 : ∀ c ∈ L.filter isCode, P c = true) : L.all P = true := by
  refine List.all_eq_true.mpr fun c hc => ?_
  have h := List.all_eq_true.mp h1 c hc
  rcases Bool.eq_false_or_eq_true (isCode c) with hi | hi
  · exact h2 c (List.mem_filter.mpr ⟨hc, hi⟩)
  · simpa [hi] using h
set_option maxRecDepth 65536 in
theorem w_c0 : (Jvm.Cond.code x code maxLocals ret).before args0 about1 = true := code_word (m := ⟨1, 1⟩) (meth := k1m1) (c := k1c1) (by decide +kernel) rfl rfl rfl (by decide +kernel)
set_option maxRecDepth 65536 in
theorem w_c1 : (Jvm.Cond.code ({ cls := "com/example/indelible_trail/indelibletrail/model/XmlDateTimeEqualsPinLaw", name := "yc", desc := "(I)C" } : Jvm.MethodName) method_3_code (2 : Nat) (Option.some Jvm.ClassFile.FieldType.char)).before args0 about1 = true := code_word (m := ⟨1, 2⟩) (meth := k1m2) (c := k1c2) (by decide +kernel) rfl rfl rfl (by decide +kernel)
set_option maxRecDepth 65536 in
theorem w_c2 : (Jvm.Cond.code ({ cls := "com/example/indelible_trail/indelibletrail/model/XmlDateTimeEqualsPinLaw", name := "fc", desc := "(I)C" } : Jvm.MethodName) method_4_code (2 : Nat) (Option.some Jvm.ClassFile.FieldType.char)).before args0 about1 = true := code_word (m := ⟨1, 3⟩) (meth := k1m3) (c := k1c3) (by decide +kernel) rfl rfl rfl (by decide +kernel)
set_option maxRecDepth 65536 in
theorem w_c3 : (Jvm.Cond.code ({ cls := "com/example/indelible_trail/indelibletrail/model/XmlDateTimeEqualsPinLaw", name := "str", desc := "([CI)Ljava/lang/String;" } : Jvm.MethodName) method_5_code (2 : Nat) (Option.some (Jvm.ClassFile.FieldType.object "java/lang/String"))).before args0 about1 = true := code_word (m := ⟨1, 4⟩) (meth := k1m4) (c := k1c4) (by decide +kernel) rfl rfl rfl (by decide +kernel)
set_option maxRecDepth 65536 in
theorem w_c4 : (Jvm.Cond.code ({ cls := "java/lang/String", name := "<init>", desc := "([C)V" } : Jvm.MethodName) jdk_42_method_3_code (2 : Nat) (Option.none : Option Jvm.ClassFile.FieldType)).before args0 about1 = true := code_word (m := ⟨7, 1⟩) (meth := k7m1) (c := k7c1) (by decide +kernel) rfl rfl rfl (by decide +kernel)
set_option maxRecDepth 65536 in
theorem w_c5 : (Jvm.Cond.code ({ cls := "java/lang/String", name := "<init>", desc := "([CIILjava/lang/Void;)V" } : Jvm.MethodName) jdk_42_method_149_code (6 : Nat) (Option.none : Option Jvm.ClassFile.FieldType)).before args0 about1 = true := code_word (m := ⟨7, 6⟩) (meth := k7m6) (c := k7c6) (by decide +kernel) rfl rfl rfl (by decide +kernel)
set_option maxRecDepth 65536 in
theorem w_c6 : (Jvm.Cond.code ({ cls := "java/lang/Object", name := "<init>", desc := "()V" } : Jvm.MethodName) object_method_1_code (1 : Nat) (Option.none : Option Jvm.ClassFile.FieldType)).before args0 about1 = true := code_word (m := ⟨0, 0⟩) (meth := k0m0) (c := k0c0) (by decide +kernel) rfl rfl rfl (by decide +kernel)
set_option maxRecDepth 65536 in
theorem w_c7 : (Jvm.Cond.code ({ cls := "java/lang/StringUTF16", name := "compress", desc := "([CII)[B" } : Jvm.MethodName) jdk_52_method_16_code (6 : Nat) (Option.some (Jvm.ClassFile.FieldType.array Jvm.ClassFile.FieldType.byte))).before args0 about1 = true := code_word (m := ⟨9, 2⟩) (meth := k9m2) (c := k9c2) (by decide +kernel) rfl rfl rfl (by decide +kernel)
set_option maxRecDepth 65536 in
theorem w_c8 : (Jvm.Cond.code ({ cls := "java/lang/StringUTF16", name := "compress", desc := "([CI[BII)I" } : Jvm.MethodName) jdk_52_method_21_code (7 : Nat) (Option.some Jvm.ClassFile.FieldType.int)).before args0 about1 = true := code_word (m := ⟨9, 3⟩) (meth := k9m3) (c := k9c3) (by decide +kernel) rfl rfl rfl (by decide +kernel)
set_option maxRecDepth 65536 in
theorem w_c9 : (Jvm.Cond.code ({ cls := "java/lang/StringUTF16", name := "coderFromArrayLen", desc := "([BI)B" } : Jvm.MethodName) jdk_52_method_15_code (2 : Nat) (Option.some Jvm.ClassFile.FieldType.byte)).before args0 about1 = true := code_word (m := ⟨9, 1⟩) (meth := k9m1) (c := k9c1) (by decide +kernel) rfl rfl rfl (by decide +kernel)
set_option maxRecDepth 65536 in
theorem w_c10 : (Jvm.Cond.code ({ cls := "com/example/indelible_trail/indelibletrail/model/XmlDateTime", name := "<init>", desc := "(Ljava/lang/String;ILjava/lang/String;)V" } : Jvm.MethodName) prog_34_method_1_code (5 : Nat) (Option.none : Option Jvm.ClassFile.FieldType)).before args0 about1 = true := code_word (m := ⟨8, 0⟩) (meth := k8m0) (c := k8c0) (by decide +kernel) rfl rfl rfl (by decide +kernel)
set_option maxRecDepth 65536 in
theorem w_c11 : (Jvm.Cond.code ({ cls := "java/lang/String", name := "length", desc := "()I" } : Jvm.MethodName) jdk_42_method_54_code (1 : Nat) (Option.some Jvm.ClassFile.FieldType.int)).before args0 about1 = true := code_word (m := ⟨7, 2⟩) (meth := k7m2) (c := k7c2) (by decide +kernel) rfl rfl rfl (by decide +kernel)
set_option maxRecDepth 65536 in
theorem w_c12 : (Jvm.Cond.code ({ cls := "java/lang/String", name := "coder", desc := "()B" } : Jvm.MethodName) jdk_42_method_152_code (1 : Nat) (Option.some Jvm.ClassFile.FieldType.byte)).before args0 about1 = true := code_word (m := ⟨7, 8⟩) (meth := k7m8) (c := k7c8) (by decide +kernel) rfl rfl rfl (by decide +kernel)
set_option maxRecDepth 65536 in
theorem w_c13 : (Jvm.Cond.code ({ cls := "java/lang/String", name := "charAt", desc := "(I)C" } : Jvm.MethodName) jdk_42_method_56_code (2 : Nat) (Option.some Jvm.ClassFile.FieldType.char)).before args0 about1 = true := code_word (m := ⟨7, 3⟩) (meth := k7m3) (c := k7c3) (by decide +kernel) rfl rfl rfl (by decide +kernel)
set_option maxRecDepth 65536 in
theorem w_c14 : (Jvm.Cond.code ({ cls := "java/lang/String", name := "isLatin1", desc := "()Z" } : Jvm.MethodName) jdk_42_method_154_code (1 : Nat) (Option.some Jvm.ClassFile.FieldType.boolean)).before args0 about1 = true := code_word (m := ⟨7, 9⟩) (meth := k7m9) (c := k7c9) (by decide +kernel) rfl rfl rfl (by decide +kernel)
set_option maxRecDepth 65536 in
theorem w_c15 : (Jvm.Cond.code ({ cls := "java/lang/StringLatin1", name := "charAt", desc := "([BI)C" } : Jvm.MethodName) jdk_43_method_2_code (2 : Nat) (Option.some Jvm.ClassFile.FieldType.char)).before args0 about1 = true := code_word (m := ⟨10, 1⟩) (meth := k10m1) (c := k10c1) (by decide +kernel) rfl rfl rfl (by decide +kernel)
set_option maxRecDepth 65536 in
theorem w_c16 : (Jvm.Cond.code ({ cls := "java/lang/String", name := "checkIndex", desc := "(II)V" } : Jvm.MethodName) jdk_42_method_155_code (2 : Nat) (Option.none : Option Jvm.ClassFile.FieldType)).before args0 about1 = true := code_word (m := ⟨7, 10⟩) (meth := k7m10) (c := k7c10) (by decide +kernel) rfl rfl rfl (by decide +kernel)
set_option maxRecDepth 65536 in
theorem w_c17 : (Jvm.Cond.code ({ cls := "jdk/internal/util/Preconditions", name := "checkIndex", desc := "(IILjava/util/function/BiFunction;)I" } : Jvm.MethodName) jdk_41_method_11_code (3 : Nat) (Option.some Jvm.ClassFile.FieldType.int)).before args0 about1 = true := code_word (m := ⟨11, 1⟩) (meth := k11m1) (c := k11c1) (by decide +kernel) rfl rfl rfl (by decide +kernel)
set_option maxRecDepth 65536 in
theorem w_c18 : (Jvm.Cond.code ({ cls := "java/lang/String", name := "substring", desc := "(II)Ljava/lang/String;" } : Jvm.MethodName) jdk_42_method_92_code (5 : Nat) (Option.some (Jvm.ClassFile.FieldType.object "java/lang/String"))).before args0 about1 = true := code_word (m := ⟨7, 5⟩) (meth := k7m5) (c := k7c5) (by decide +kernel) rfl rfl rfl (by decide +kernel)
set_option maxRecDepth 65536 in
theorem w_c19 : (Jvm.Cond.code ({ cls := "java/lang/String", name := "checkBoundsBeginEnd", desc := "(III)V" } : Jvm.MethodName) jdk_42_method_158_code (3 : Nat) (Option.none : Option Jvm.ClassFile.FieldType)).before args0 about1 = true := code_word (m := ⟨7, 11⟩) (meth := k7m11) (c := k7c11) (by decide +kernel) rfl rfl rfl (by decide +kernel)
set_option maxRecDepth 65536 in
theorem w_c20 : (Jvm.Cond.code ({ cls := "jdk/internal/util/Preconditions", name := "checkFromToIndex", desc := "(IIILjava/util/function/BiFunction;)I" } : Jvm.MethodName) jdk_41_method_12_code (4 : Nat) (Option.some Jvm.ClassFile.FieldType.int)).before args0 about1 = true := code_word (m := ⟨11, 2⟩) (meth := k11m2) (c := k11c2) (by decide +kernel) rfl rfl rfl (by decide +kernel)
set_option maxRecDepth 65536 in
theorem w_c21 : (Jvm.Cond.code ({ cls := "java/lang/StringLatin1", name := "newString", desc := "([BII)Ljava/lang/String;" } : Jvm.MethodName) jdk_43_method_47_code (3 : Nat) (Option.some (Jvm.ClassFile.FieldType.object "java/lang/String"))).before args0 about1 = true := code_word (m := ⟨10, 3⟩) (meth := k10m3) (c := k10c3) (by decide +kernel) rfl rfl rfl (by decide +kernel)
set_option maxRecDepth 65536 in
theorem w_c22 : (Jvm.Cond.code ({ cls := "com/example/indelible_trail/indelibletrail/model/XmlDateTimeEqualsPinLaw", name := "stripped", desc := "([CI)I" } : Jvm.MethodName) method_6_code (3 : Nat) (Option.some Jvm.ClassFile.FieldType.int)).before args0 about1 = true := code_word (m := ⟨1, 5⟩) (meth := k1m5) (c := k1c5) (by decide +kernel) rfl rfl rfl (by decide +kernel)
set_option maxRecDepth 65536 in
theorem w_c23 : (Jvm.Cond.code ({ cls := "com/example/indelible_trail/indelibletrail/model/XmlDateTime", name := "equals", desc := "(Ljava/lang/Object;)Z" } : Jvm.MethodName) prog_34_method_4_code (3 : Nat) (Option.some Jvm.ClassFile.FieldType.boolean)).before args0 about1 = true := code_word (m := ⟨8, 1⟩) (meth := k8m1) (c := k8c1) (by decide +kernel) rfl rfl rfl (by decide +kernel)
set_option maxRecDepth 65536 in
theorem w_c24 : (Jvm.Cond.code ({ cls := "java/util/Arrays", name := "copyOfRange", desc := "([BII)[B" } : Jvm.MethodName) jdk_65_method_132_code (3 : Nat) (Option.some (Jvm.ClassFile.FieldType.array Jvm.ClassFile.FieldType.byte))).before args0 about1 = true := code_word (m := ⟨12, 2⟩) (meth := k12m2) (c := k12c2) (by decide +kernel) rfl rfl rfl (by decide +kernel)
set_option maxRecDepth 65536 in
theorem w_c25 : (Jvm.Cond.code ({ cls := "java/util/Arrays", name := "copyOfRangeByte", desc := "([BII)[B" } : Jvm.MethodName) jdk_65_method_133_code (5 : Nat) (Option.some (Jvm.ClassFile.FieldType.array Jvm.ClassFile.FieldType.byte))).before args0 about1 = true := code_word (m := ⟨12, 3⟩) (meth := k12m3) (c := k12c3) (by decide +kernel) rfl rfl rfl (by decide +kernel)
set_option maxRecDepth 65536 in
theorem w_c26 : (Jvm.Cond.code ({ cls := "java/util/Arrays", name := "checkLength", desc := "(II)V" } : Jvm.MethodName) jdk_65_method_131_code (2 : Nat) (Option.none : Option Jvm.ClassFile.FieldType)).before args0 about1 = true := code_word (m := ⟨12, 1⟩) (meth := k12m1) (c := k12c1) (by decide +kernel) rfl rfl rfl (by decide +kernel)
set_option maxRecDepth 65536 in
theorem w_c27 : (Jvm.Cond.code ({ cls := "java/lang/Math", name := "min", desc := "(II)I" } : Jvm.MethodName) jdk_29_method_69_code (2 : Nat) (Option.some Jvm.ClassFile.FieldType.int)).before args0 about1 = true := code_word (m := ⟨13, 1⟩) (meth := k13m1) (c := k13c1) (by decide +kernel) rfl rfl rfl (by decide +kernel)
set_option maxRecDepth 65536 in
theorem w_c28 : (Jvm.Cond.code ({ cls := "java/lang/String", name := "<init>", desc := "([BB)V" } : Jvm.MethodName) jdk_42_method_151_code (3 : Nat) (Option.none : Option Jvm.ClassFile.FieldType)).before args0 about1 = true := code_word (m := ⟨7, 7⟩) (meth := k7m7) (c := k7c7) (by decide +kernel) rfl rfl rfl (by decide +kernel)
set_option maxRecDepth 65536 in
theorem w_c29 : (Jvm.Cond.code ({ cls := "java/lang/String", name := "equals", desc := "(Ljava/lang/Object;)Z" } : Jvm.MethodName) jdk_42_method_66_code (3 : Nat) (Option.some Jvm.ClassFile.FieldType.boolean)).before args0 about1 = true := code_word (m := ⟨7, 4⟩) (meth := k7m4) (c := k7c4) (by decide +kernel) rfl rfl rfl (by decide +kernel)
set_option maxRecDepth 65536 in
theorem w_c30 : (Jvm.Cond.code ({ cls := "java/lang/StringLatin1", name := "equals", desc := "([B[B)Z" } : Jvm.MethodName) jdk_43_method_13_code (3 : Nat) (Option.some Jvm.ClassFile.FieldType.boolean)).before args0 about1 = true := code_word (m := ⟨10, 2⟩) (meth := k10m2) (c := k10c2) (by decide +kernel) rfl rfl rfl (by decide +kernel)
def codes1 : List Jvm.Cond := [Jvm.Cond.code x code maxLocals ret, Jvm.Cond.code ({ cls := "com/example/indelible_trail/indelibletrail/model/XmlDateTimeEqualsPinLaw", name := "yc", desc := "(I)C" } : Jvm.MethodName) method_3_code (2 : Nat) (Option.some Jvm.ClassFile.FieldType.char), Jvm.Cond.code ({ cls := "com/example/indelible_trail/indelibletrail/model/XmlDateTimeEqualsPinLaw", name := "fc", desc := "(I)C" } : Jvm.MethodName) method_4_code (2 : Nat) (Option.some Jvm.ClassFile.FieldType.char), Jvm.Cond.code ({ cls := "com/example/indelible_trail/indelibletrail/model/XmlDateTimeEqualsPinLaw", name := "str", desc := "([CI)Ljava/lang/String;" } : Jvm.MethodName) method_5_code (2 : Nat) (Option.some (Jvm.ClassFile.FieldType.object "java/lang/String")), Jvm.Cond.code ({ cls := "java/lang/String", name := "<init>", desc := "([C)V" } : Jvm.MethodName) jdk_42_method_3_code (2 : Nat) (Option.none : Option Jvm.ClassFile.FieldType), Jvm.Cond.code ({ cls := "java/lang/String", name := "<init>", desc := "([CIILjava/lang/Void;)V" } : Jvm.MethodName) jdk_42_method_149_code (6 : Nat) (Option.none : Option Jvm.ClassFile.FieldType), Jvm.Cond.code ({ cls := "java/lang/Object", name := "<init>", desc := "()V" } : Jvm.MethodName) object_method_1_code (1 : Nat) (Option.none : Option Jvm.ClassFile.FieldType), Jvm.Cond.code ({ cls := "java/lang/StringUTF16", name := "compress", desc := "([CII)[B" } : Jvm.MethodName) jdk_52_method_16_code (6 : Nat) (Option.some (Jvm.ClassFile.FieldType.array Jvm.ClassFile.FieldType.byte)), Jvm.Cond.code ({ cls := "java/lang/StringUTF16", name := "compress", desc := "([CI[BII)I" } : Jvm.MethodName) jdk_52_method_21_code (7 : Nat) (Option.some Jvm.ClassFile.FieldType.int), Jvm.Cond.code ({ cls := "java/lang/StringUTF16", name := "coderFromArrayLen", desc := "([BI)B" } : Jvm.MethodName) jdk_52_method_15_code (2 : Nat) (Option.some Jvm.ClassFile.FieldType.byte), Jvm.Cond.code ({ cls := "com/example/indelible_trail/indelibletrail/model/XmlDateTime", name := "<init>", desc := "(Ljava/lang/String;ILjava/lang/String;)V" } : Jvm.MethodName) prog_34_method_1_code (5 : Nat) (Option.none : Option Jvm.ClassFile.FieldType), Jvm.Cond.code ({ cls := "java/lang/String", name := "length", desc := "()I" } : Jvm.MethodName) jdk_42_method_54_code (1 : Nat) (Option.some Jvm.ClassFile.FieldType.int), Jvm.Cond.code ({ cls := "java/lang/String", name := "coder", desc := "()B" } : Jvm.MethodName) jdk_42_method_152_code (1 : Nat) (Option.some Jvm.ClassFile.FieldType.byte), Jvm.Cond.code ({ cls := "java/lang/String", name := "charAt", desc := "(I)C" } : Jvm.MethodName) jdk_42_method_56_code (2 : Nat) (Option.some Jvm.ClassFile.FieldType.char), Jvm.Cond.code ({ cls := "java/lang/String", name := "isLatin1", desc := "()Z" } : Jvm.MethodName) jdk_42_method_154_code (1 : Nat) (Option.some Jvm.ClassFile.FieldType.boolean), Jvm.Cond.code ({ cls := "java/lang/StringLatin1", name := "charAt", desc := "([BI)C" } : Jvm.MethodName) jdk_43_method_2_code (2 : Nat) (Option.some Jvm.ClassFile.FieldType.char), Jvm.Cond.code ({ cls := "java/lang/String", name := "checkIndex", desc := "(II)V" } : Jvm.MethodName) jdk_42_method_155_code (2 : Nat) (Option.none : Option Jvm.ClassFile.FieldType), Jvm.Cond.code ({ cls := "jdk/internal/util/Preconditions", name := "checkIndex", desc := "(IILjava/util/function/BiFunction;)I" } : Jvm.MethodName) jdk_41_method_11_code (3 : Nat) (Option.some Jvm.ClassFile.FieldType.int), Jvm.Cond.code ({ cls := "java/lang/String", name := "substring", desc := "(II)Ljava/lang/String;" } : Jvm.MethodName) jdk_42_method_92_code (5 : Nat) (Option.some (Jvm.ClassFile.FieldType.object "java/lang/String")), Jvm.Cond.code ({ cls := "java/lang/String", name := "checkBoundsBeginEnd", desc := "(III)V" } : Jvm.MethodName) jdk_42_method_158_code (3 : Nat) (Option.none : Option Jvm.ClassFile.FieldType), Jvm.Cond.code ({ cls := "jdk/internal/util/Preconditions", name := "checkFromToIndex", desc := "(IIILjava/util/function/BiFunction;)I" } : Jvm.MethodName) jdk_41_method_12_code (4 : Nat) (Option.some Jvm.ClassFile.FieldType.int), Jvm.Cond.code ({ cls := "java/lang/StringLatin1", name := "newString", desc := "([BII)Ljava/lang/String;" } : Jvm.MethodName) jdk_43_method_47_code (3 : Nat) (Option.some (Jvm.ClassFile.FieldType.object "java/lang/String")), Jvm.Cond.code ({ cls := "com/example/indelible_trail/indelibletrail/model/XmlDateTimeEqualsPinLaw", name := "stripped", desc := "([CI)I" } : Jvm.MethodName) method_6_code (3 : Nat) (Option.some Jvm.ClassFile.FieldType.int), Jvm.Cond.code ({ cls := "com/example/indelible_trail/indelibletrail/model/XmlDateTime", name := "equals", desc := "(Ljava/lang/Object;)Z" } : Jvm.MethodName) prog_34_method_4_code (3 : Nat) (Option.some Jvm.ClassFile.FieldType.boolean), Jvm.Cond.code ({ cls := "java/util/Arrays", name := "copyOfRange", desc := "([BII)[B" } : Jvm.MethodName) jdk_65_method_132_code (3 : Nat) (Option.some (Jvm.ClassFile.FieldType.array Jvm.ClassFile.FieldType.byte)), Jvm.Cond.code ({ cls := "java/util/Arrays", name := "copyOfRangeByte", desc := "([BII)[B" } : Jvm.MethodName) jdk_65_method_133_code (5 : Nat) (Option.some (Jvm.ClassFile.FieldType.array Jvm.ClassFile.FieldType.byte)), Jvm.Cond.code ({ cls := "java/util/Arrays", name := "checkLength", desc := "(II)V" } : Jvm.MethodName) jdk_65_method_131_code (2 : Nat) (Option.none : Option Jvm.ClassFile.FieldType), Jvm.Cond.code ({ cls := "java/lang/Math", name := "min", desc := "(II)I" } : Jvm.MethodName) jdk_29_method_69_code (2 : Nat) (Option.some Jvm.ClassFile.FieldType.int), Jvm.Cond.code ({ cls := "java/lang/String", name := "<init>", desc := "([BB)V" } : Jvm.MethodName) jdk_42_method_151_code (3 : Nat) (Option.none : Option Jvm.ClassFile.FieldType), Jvm.Cond.code ({ cls := "java/lang/String", name := "equals", desc := "(Ljava/lang/Object;)Z" } : Jvm.MethodName) jdk_42_method_66_code (3 : Nat) (Option.some Jvm.ClassFile.FieldType.boolean), Jvm.Cond.code ({ cls := "java/lang/StringLatin1", name := "equals", desc := "([B[B)Z" } : Jvm.MethodName) jdk_43_method_13_code (3 : Nat) (Option.some Jvm.ClassFile.FieldType.boolean)]
set_option maxRecDepth 65536 in
theorem codes_eq : words1.filter isCode = codes1 := rfl
theorem w_codes : ∀ c ∈ words1.filter isCode, c.before args0 about1 = true := by
  rw [codes_eq]
  intro c hc
  simp only [codes1, List.mem_cons, List.not_mem_nil, or_false] at hc
  rcases hc with rfl | rfl | rfl | rfl | rfl | rfl | rfl | rfl | rfl | rfl | rfl | rfl | rfl | rfl | rfl | rfl | rfl | rfl | rfl | rfl | rfl | rfl | rfl | rfl | rfl | rfl | rfl | rfl | rfl | rfl | rfl
  · exact w_c0
  · exact w_c1
  · exact w_c2
  · exact w_c3
  · exact w_c4
  · exact w_c5
  · exact w_c6
  · exact w_c7
  · exact w_c8
  · exact w_c9
  · exact w_c10
  · exact w_c11
  · exact w_c12
  · exact w_c13
  · exact w_c14
  · exact w_c15
  · exact w_c16
  · exact w_c17
  · exact w_c18
  · exact w_c19
  · exact w_c20
  · exact w_c21
  · exact w_c22
  · exact w_c23
  · exact w_c24
  · exact w_c25
  · exact w_c26
  · exact w_c27
  · exact w_c28
  · exact w_c29
  · exact w_c30
set_option maxRecDepth 65536 in
theorem w_t1 : (words1.take 24).all (fun c => isCode c || c.before args0 about1) = true := by decide +kernel
set_option maxRecDepth 65536 in
theorem w_t2 : ((words1.drop 24).take 24).all (fun c => isCode c || c.before args0 about1) = true := by decide +kernel
set_option maxRecDepth 65536 in
theorem w_t3 : (((words1.drop 24).drop 24).take 24).all (fun c => isCode c || c.before args0 about1) = true := by decide +kernel
set_option maxRecDepth 65536 in
theorem w_t4 : ((((words1.drop 24).drop 24).drop 24).take 24).all (fun c => isCode c || c.before args0 about1) = true := by decide +kernel
set_option maxRecDepth 65536 in
theorem w_t5 : (((((words1.drop 24).drop 24).drop 24).drop 24).take 24).all (fun c => isCode c || c.before args0 about1) = true := by decide +kernel
set_option maxRecDepth 65536 in
theorem w_t6 : ((((((words1.drop 24).drop 24).drop 24).drop 24).drop 24).take 24).all (fun c => isCode c || c.before args0 about1) = true := by decide +kernel
set_option maxRecDepth 65536 in
theorem w_t7 : ((((((words1.drop 24).drop 24).drop 24).drop 24).drop 24).drop 24).all (fun c => isCode c || c.before args0 about1) = true := by decide +kernel
theorem w_tables : (allAtoms (Jvm.Cond.code x code maxLocals ret :: tables_1)).before args0 about1 = true := by
  rw [allAtoms_all]
  show words1.all (fun c => c.before args0 about1) = true
  refine all_split ?_ w_codes
  rw [← List.take_append_drop 24 words1, List.all_append, w_t1, ← List.take_append_drop 24 (words1.drop 24), List.all_append, w_t2, ← List.take_append_drop 24 ((words1.drop 24).drop 24), List.all_append, w_t3, ← List.take_append_drop 24 (((words1.drop 24).drop 24).drop 24), List.all_append, w_t4, ← List.take_append_drop 24 ((((words1.drop 24).drop 24).drop 24).drop 24), List.all_append, w_t5, ← List.take_append_drop 24 (((((words1.drop 24).drop 24).drop 24).drop 24).drop 24), List.all_append, w_t6, w_t7]
  rfl
set_option maxRecDepth 65536 in
theorem w_rest : rest_1_c.before args0 about1 = true := by decide +kernel
set_option maxRecDepth 65536 in
theorem w_case : (Jvm.Cond.and given_1 narrow_1).before args0 about1 = true := by decide +kernel
set_option maxRecDepth 65536 in
theorem w_consts : constsHeld consts_1 about1 := Jvm.Lit.constsHeldB_iff.mp (by decide +kernel)
theorem w_applies : (headSpec (Jvm.Cond.code x code maxLocals ret :: tables_1) room_1).applies x e0.platform about1 = true :=
  (Spec.applies_iff w_frames).mpr ⟨w_running, w_runnable, w_alone, w_named, w_hears, w_ripe, w_room, w_tables⟩
theorem atStart : AtStart classFile x code maxLocals ret World_1 tables_1 room_1 Calls_1 rest_1 Pre_1 launch0 p0 e0 about1 theMethod args0 below0 :=
  ⟨lists_1, trivial, launch0.admits_env _ _ _, launch0.least_env, fairChoices_fair.cas, fairChoices_fair.clock, w_frames, w_args, w_heap, w_applies, ⟨w_consts, trivial⟩, w_rest, w_case⟩
end start1
theorem witness_1 : WitnessClaimed_1 := ⟨start1.p0, start1.e0, start1.about1, start1.theMethod, start1.args0, start1.below0, start1.atStart⟩
end Jvm.Pilot.@@N@@
