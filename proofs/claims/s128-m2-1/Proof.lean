import JvmDerived
import JvmDerived.Pilot.@@N@@Statement
import JvmDerived.Pilot.@@N@@Code
set_option linter.unusedVariables false
set_option linter.unusedSimpArgs false
namespace Jvm.Pilot.@@N@@
open Jvm Jvm.ClassFile Sem Op Lib Jvm.Free Jvm.Stand Jvm.LawKit Jvm.RoadKit Bundle Jvm.Pilot.@@N@@.Jvm.D
theorem tw {Z : State} {a0 : Array Value} (hw : ∀ d ∈ tables_1, d.before a0 Z = true) (i : Nat) {d : Jvm.Cond} (hd : tables_1[i]? = some d := by rfl) : d.before a0 Z = true := hw d (List.mem_of_getElem? hd)
abbrev own_Nar : Prop := False
abbrev own_EL : List (String × Nat) := [("java/lang/StringLatin1", 151)]
section Own
variable {p : Program} {l : Launch} {e : Env} {R : Room} {s : State} {m : MethodId} {args : Array Value} {below : List Frame} {meth : Method} {c : Code} {Z : State} {a0 : Array Value} {y : MethodName} {bytes : ByteArray} {maxL : Nat} {ret : Option FieldType} {T : State} {h : Heap} {ce sl : Nat} {sf : List Addr} {G : State → Prop} {pc : Nat} {L : Array Slot} {S : List Value}
/-- where a walk stands: the state T, its heap h, what has been made, the cells that no constant books -/
def Wk (p : Program) (l : Launch) (e : Env) (R : Room) (s : State) (m : MethodId) (args : Array Value) (below : List Frame) (meth : Method) (c : Code) (Z : State) (y : MethodName) (bytes : ByteArray) (maxL : Nat) (ret : Option FieldType) (T : State) (h : Heap) (ce sl : Nat) (sf : List Addr) : Prop :=
  ∃ (vm0 : Vm) (k0 : Nat) (locs : List Loc), Stand p l e R (s.setVm vm0) m args below meth c T locs ce sl ∧ T.heap = h ∧ s.Since vm0 k0 ∧ k0 ≤ h.size ∧ Z.Warmed39 (s.setVm vm0).vm ∧ (s.setVm vm0).vm.findClass y.cls = some m.cls ∧ Fr Z.heap.size locs ∧ (own_Nar → s.WarmedH vm0) ∧ CHr Z own_EL s.vm s.heap vm0 h ∧ (∀ x ∈ sf, x < h.size ∧ Safe Z own_EL vm0 h x) ∧ Ext Z.heap h ∧ (∃ a1, EW Z a1 own_EL) ∧ p.tables.exec = Jvm.exec ∧ c.code = bytes ∧ c.maxLocals = maxL ∧ meth.name = y.name ∧ meth.sig.returnType = ret ∧ meth.locks = false
def Go (p : Program) (e : Env) (below : List Frame) (G : State → Prop) (T : State) (g : JFrame) : Prop := ∃ u, Steps p.tables e below (T.setTop g) u ∧ G u
theorem Go.st {T' : State} {g g' : JFrame} (K : Go p e below G T' g') (f : ∀ u, Steps p.tables e below (T'.setTop g') u → Steps p.tables e below (T.setTop g) u) : Go p e below G T g := by
  obtain ⟨u, k, q⟩ := K
  exact ⟨u, f u k, q⟩
theorem Go.cut {g g' : JFrame} (A : Go p e below G T g' → Go p e below G T g) (B : Go p e below G T g') : Go p e below G T g := A B
theorem Go.eq {g g' : JFrame} (K : Go p e below G T g') (q : g' = g) : Go p e below G T g := q ▸ K
theorem Go.cutW {g g' : JFrame} (W : Wk p l e R s m args below meth c Z y bytes maxL ret T h ce sl sf) (A : (∀ T', Wk p l e R s m args below meth c Z y bytes maxL ret T' h ce sl sf → Go p e below G T' g') → Go p e below G T g) (B : ∀ T', Wk p l e R s m args below meth c Z y bytes maxL ret T' h ce sl sf → Go p e below G T' g') : Go p e below G T g := A B
theorem own_ext_refl (h : Heap) : Ext h h := ⟨Nat.le_refl _, fun _ _ q => q⟩
theorem own_ext_trans {h h' h2 : Heap} (A : Ext h h') (B : Ext h' h2) : Ext h h2 := ⟨Nat.le_trans A.1 B.1, fun x c q => B.2 x c (A.2 x c q)⟩
theorem own_ext_wr {h0 h h' : Heap} {a : Addr} {i : Nat} {v : Value} (E : Ext h0 h) (W : Wr h h' a i v) (q : h0.size ≤ a) : Ext h0 h' := by
  refine ⟨Nat.le_trans E.1 (Nat.le_of_eq W.size.symm), fun x cc r => ?_⟩
  obtain ⟨c', e1, -, -, -, e5, -⟩ := wr_at W (E.2 x cc r)
  have hlt := (Array.getElem?_eq_some_iff.mp r).1
  rw [e1, e5 (Nat.ne_of_lt (Nat.lt_of_lt_of_le hlt q))]
theorem own_ext_keep {h0 h h' : Heap} {a : Addr} (E : Ext h0 h) (K : Keep h h' [a]) (q : h0.size ≤ a) : Ext h0 h' := ⟨Nat.le_trans E.1 K.1, fun x cc r => K.2.1 x cc (E.2 x cc r) fun z => by
  have hlt := (Array.getElem?_eq_some_iff.mp r).1
  rw [List.mem_singleton.mp z] at hlt; omega⟩
theorem own_ns_root {O K : String} {n : Nat} (w : (Jvm.Cond.noSuperclass O).before a0 Z = true) (wk : (Jvm.Cond.instantiable K n).before a0 Z = true) (hn : O ≠ K) : NS Z O K := by
  obtain ⟨c, k, h1, h2, h3, -, -⟩ := Cond.noSuperclass_spec w
  obtain ⟨t, kt, g1, -⟩ := Cond.instantiable_spec wk
  have ne := ids_ne h1 g1 hn
  refine ⟨c, t, h1, g1, fun fuel => ?_⟩
  cases fuel with
  | zero => rfl
  | succ f => simp [Vm.isSubclassAux, ne, h2, h3]
theorem own_ns_no {C S' K : String} {n : Nat} (w : (Jvm.Cond.superclass C S').before a0 Z = true) (wk : (Jvm.Cond.instantiable K n).before a0 Z = true) (N : NS Z C K) (hn : C ≠ K) : ∃ c t, Z.vm.findClass C = some c ∧ Z.vm.findClass K = some t ∧ Z.vm.assignable c t = false := by
  obtain ⟨c, t, h0, g0, n3⟩ := N
  obtain ⟨p, k, kp, h1, h2, h3, h4, h5, -, h7⟩ := Cond.superclass_spec h0 w
  obtain ⟨t', kt, g1, g2, g3, g4, -⟩ := Cond.instantiable_spec wk
  cases g0.symm.trans g1
  have g7 : kt.isInterface = false := by cases q : kt.isInterface <;> simp_all
  have ne := ids_ne h0 g0 hn
  refine ⟨c, t, h0, g0, ?_⟩
  show Z.vm.assignableAux (255 + 1) c t = false
  simp [Vm.assignableAux, ne, h2, g2, h5, g3, g7, Vm.isSubclass, n3]
theorem Wk.old (W : Wk p l e R s m args below meth c Z y bytes maxL ret T h ce sl sf) : Ext Z.heap h := by obtain ⟨vm0, k0, locs, X, eT, hS, hk, hZ, hown, hF, hN, hC, hsf, hE, ⟨a1, hEL⟩, hx, hby, hml, hnm, hrt, hlk⟩ := W; exact hE
theorem Wk.mono (W : Wk p l e R s m args below meth c Z y bytes maxL ret T h ce sl sf) {ce' sl' : Nat} (q : ce ≤ ce') (r : sl ≤ sl') : Wk p l e R s m args below meth c Z y bytes maxL ret T h ce' sl' sf := by
  obtain ⟨vm0, k0, locs, X, eT, hS, hk, hZ, hown, hF, hN, hC, hsf, hE, ⟨a1, hEL⟩, hx, hby, hml, hnm, hrt, hlk⟩ := W
  exact ⟨vm0, k0, locs, X.mono q r, eT, hS, hk, hZ, hown, hF, hN, hC, hsf, hE, ⟨a1, hEL⟩, hx, hby, hml, hnm, hrt, hlk⟩
theorem Wk.drop (W : Wk p l e R s m args below meth c Z y bytes maxL ret T h ce sl sf) {sf' : List Addr} (q : ∀ x ∈ sf', x ∈ sf) : Wk p l e R s m args below meth c Z y bytes maxL ret T h ce sl sf' := by
  obtain ⟨vm0, k0, locs, X, eT, hS, hk, hZ, hown, hF, hN, hC, hsf, hE, ⟨a1, hEL⟩, hx, hby, hml, hnm, hrt, hlk⟩ := W
  exact ⟨vm0, k0, locs, X, eT, hS, hk, hZ, hown, hF, hN, hC, fun x hx => hsf x (q x hx), hE, ⟨a1, hEL⟩, hx, hby, hml, hnm, hrt, hlk⟩
theorem o_iloadN (pc' : Nat) (W : Wk p l e R s m args below meth c Z y bytes maxL ret T h ce sl sf) {k : Fin 4} {v : Int32} (hd : decode bytes pc = .ok (.iload_n k, 1)) (hl : L[k.val]? = some (.val (.int v))) (K : Go p e below G T (mkF m pc' L (.int v :: S))) (hp : pc + 1 = pc' := by rfl) : Go p e below G T (mkF m pc L (S)) := by
  subst hp
  obtain ⟨vm0, k0, locs, X, eT, hS, hk, hZ, hown, hF, hN, hC, hsf, hE, ⟨a1, hEL⟩, hx, hby, hml, hnm, hrt, hlk⟩ := W
  subst hby
  exact K.st fun u k => XS.iloadN X.here hx rfl hd hl k
theorem o_iload (pc' : Nat) (W : Wk p l e R s m args below meth c Z y bytes maxL ret T h ce sl sf) {k : Nat} {v : Int32} (hd : decode bytes pc = .ok (.iload k, 2)) (hl : L[k]? = some (.val (.int v))) (K : Go p e below G T (mkF m pc' L (.int v :: S))) (hp : pc + 2 = pc' := by rfl) : Go p e below G T (mkF m pc L (S)) := by
  subst hp
  obtain ⟨vm0, k0, locs, X, eT, hS, hk, hZ, hown, hF, hN, hC, hsf, hE, ⟨a1, hEL⟩, hx, hby, hml, hnm, hrt, hlk⟩ := W
  subst hby
  exact K.st fun u k => XS.iload X.here hx rfl hd hl k
theorem o_lloadN (pc' : Nat) (W : Wk p l e R s m args below meth c Z y bytes maxL ret T h ce sl sf) {k : Fin 4} {v : Int64} (hd : decode bytes pc = .ok (.lload_n k, 1)) (hl : L[k.val]? = some (.val (.long v))) (K : Go p e below G T (mkF m pc' L (.long v :: S))) (hp : pc + 1 = pc' := by rfl) : Go p e below G T (mkF m pc L (S)) := by
  subst hp
  obtain ⟨vm0, k0, locs, X, eT, hS, hk, hZ, hown, hF, hN, hC, hsf, hE, ⟨a1, hEL⟩, hx, hby, hml, hnm, hrt, hlk⟩ := W
  subst hby
  exact K.st fun u k => XT.lloadN X.here hx rfl hd hl k
theorem o_lload (pc' : Nat) (W : Wk p l e R s m args below meth c Z y bytes maxL ret T h ce sl sf) {k : Nat} {v : Int64} (hd : decode bytes pc = .ok (.lload k, 2)) (hl : L[k]? = some (.val (.long v))) (K : Go p e below G T (mkF m pc' L (.long v :: S))) (hp : pc + 2 = pc' := by rfl) : Go p e below G T (mkF m pc L (S)) := by
  subst hp
  obtain ⟨vm0, k0, locs, X, eT, hS, hk, hZ, hown, hF, hN, hC, hsf, hE, ⟨a1, hEL⟩, hx, hby, hml, hnm, hrt, hlk⟩ := W
  subst hby
  exact K.st fun u k => XT.lload X.here hx rfl hd hl k
theorem o_aloadN (pc' : Nat) (W : Wk p l e R s m args below meth c Z y bytes maxL ret T h ce sl sf) {k : Fin 4} {v : Value} (hd : decode bytes pc = .ok (.aload_n k, 1)) (hl : L[k.val]? = some (.val v)) (hv : v.isRef = true) (K : Go p e below G T (mkF m pc' L (v :: S))) (hp : pc + 1 = pc' := by rfl) : Go p e below G T (mkF m pc L (S)) := by
  subst hp
  obtain ⟨vm0, k0, locs, X, eT, hS, hk, hZ, hown, hF, hN, hC, hsf, hE, ⟨a1, hEL⟩, hx, hby, hml, hnm, hrt, hlk⟩ := W
  subst hby
  exact K.st fun u k => XS.aloadN X.here hx rfl hd hl hv k
theorem o_aload (pc' : Nat) (W : Wk p l e R s m args below meth c Z y bytes maxL ret T h ce sl sf) {k : Nat} {v : Value} (hd : decode bytes pc = .ok (.aload k, 2)) (hl : L[k]? = some (.val v)) (hv : v.isRef = true) (K : Go p e below G T (mkF m pc' L (v :: S))) (hp : pc + 2 = pc' := by rfl) : Go p e below G T (mkF m pc L (S)) := by
  subst hp
  obtain ⟨vm0, k0, locs, X, eT, hS, hk, hZ, hown, hF, hN, hC, hsf, hE, ⟨a1, hEL⟩, hx, hby, hml, hnm, hrt, hlk⟩ := W
  subst hby
  exact K.st fun u k => XS.aload X.here hx rfl hd hl hv k
theorem o_istoreN (pc' : Nat) (W : Wk p l e R s m args below meth c Z y bytes maxL ret T h ce sl sf) {k : Fin 4} {v : Int32} (L' : Array Slot) (hd : decode bytes pc = .ok (.istore_n k, 1)) (hl : storeLocals L k.val (.int v) = some L') (K : Go p e below G T (mkF m pc' L' (S))) (hp : pc + 1 = pc' := by rfl) : Go p e below G T (mkF m pc L (.int v :: S)) := by
  subst hp
  obtain ⟨vm0, k0, locs, X, eT, hS, hk, hZ, hown, hF, hN, hC, hsf, hE, ⟨a1, hEL⟩, hx, hby, hml, hnm, hrt, hlk⟩ := W
  subst hby
  exact K.st fun u k => XS.istoreN X.here hx rfl hd rfl hl k
theorem o_istore (pc' : Nat) (W : Wk p l e R s m args below meth c Z y bytes maxL ret T h ce sl sf) {k : Nat} {v : Int32} (L' : Array Slot) (hd : decode bytes pc = .ok (.istore k, 2)) (hl : storeLocals L k (.int v) = some L') (K : Go p e below G T (mkF m pc' L' (S))) (hp : pc + 2 = pc' := by rfl) : Go p e below G T (mkF m pc L (.int v :: S)) := by
  subst hp
  obtain ⟨vm0, k0, locs, X, eT, hS, hk, hZ, hown, hF, hN, hC, hsf, hE, ⟨a1, hEL⟩, hx, hby, hml, hnm, hrt, hlk⟩ := W
  subst hby
  exact K.st fun u k => XS.istore X.here hx rfl hd rfl hl k
theorem o_lstoreN (pc' : Nat) (W : Wk p l e R s m args below meth c Z y bytes maxL ret T h ce sl sf) {k : Fin 4} {v : Int64} (L' : Array Slot) (hd : decode bytes pc = .ok (.lstore_n k, 1)) (hl : storeLocals L k.val (.long v) = some L') (K : Go p e below G T (mkF m pc' L' (S))) (hp : pc + 1 = pc' := by rfl) : Go p e below G T (mkF m pc L (.long v :: S)) := by
  subst hp
  obtain ⟨vm0, k0, locs, X, eT, hS, hk, hZ, hown, hF, hN, hC, hsf, hE, ⟨a1, hEL⟩, hx, hby, hml, hnm, hrt, hlk⟩ := W
  subst hby
  exact K.st fun u k => XT.lstoreN X.here hx rfl hd rfl hl k
theorem o_lstore (pc' : Nat) (W : Wk p l e R s m args below meth c Z y bytes maxL ret T h ce sl sf) {k : Nat} {v : Int64} (L' : Array Slot) (hd : decode bytes pc = .ok (.lstore k, 2)) (hl : storeLocals L k (.long v) = some L') (K : Go p e below G T (mkF m pc' L' (S))) (hp : pc + 2 = pc' := by rfl) : Go p e below G T (mkF m pc L (.long v :: S)) := by
  subst hp
  obtain ⟨vm0, k0, locs, X, eT, hS, hk, hZ, hown, hF, hN, hC, hsf, hE, ⟨a1, hEL⟩, hx, hby, hml, hnm, hrt, hlk⟩ := W
  subst hby
  exact K.st fun u k => XT.lstore X.here hx rfl hd rfl hl k
theorem o_astoreN (pc' : Nat) (W : Wk p l e R s m args below meth c Z y bytes maxL ret T h ce sl sf) {k : Fin 4} {v : Value} (L' : Array Slot) (hd : decode bytes pc = .ok (.astore_n k, 1)) (hv : v.isRef = true) (hl : storeLocals L k.val v = some L') (K : Go p e below G T (mkF m pc' L' (S))) (hp : pc + 1 = pc' := by rfl) : Go p e below G T (mkF m pc L (v :: S)) := by
  subst hp
  obtain ⟨vm0, k0, locs, X, eT, hS, hk, hZ, hown, hF, hN, hC, hsf, hE, ⟨a1, hEL⟩, hx, hby, hml, hnm, hrt, hlk⟩ := W
  subst hby
  exact K.st fun u k => XS.astoreN X.here hx rfl hd rfl hv hl k
theorem o_astore (pc' : Nat) (W : Wk p l e R s m args below meth c Z y bytes maxL ret T h ce sl sf) {k : Nat} {v : Value} (L' : Array Slot) (hd : decode bytes pc = .ok (.astore k, 2)) (hv : v.isRef = true) (hl : storeLocals L k v = some L') (K : Go p e below G T (mkF m pc' L' (S))) (hp : pc + 2 = pc' := by rfl) : Go p e below G T (mkF m pc L (v :: S)) := by
  subst hp
  obtain ⟨vm0, k0, locs, X, eT, hS, hk, hZ, hown, hF, hN, hC, hsf, hE, ⟨a1, hEL⟩, hx, hby, hml, hnm, hrt, hlk⟩ := W
  subst hby
  exact K.st fun u k => XS.astore X.here hx rfl hd rfl hv hl k
theorem o_iconst (pc' : Nat) (W : Wk p l e R s m args below meth c Z y bytes maxL ret T h ce sl sf) {i : Int} (v : Int32) (hd : decode bytes pc = .ok (.iconst i, 1)) (hv : Int32.ofInt i = v) (K : Go p e below G T (mkF m pc' L (.int v :: S))) (hp : pc + 1 = pc' := by rfl) : Go p e below G T (mkF m pc L (S)) := by
  subst hp
  obtain ⟨vm0, k0, locs, X, eT, hS, hk, hZ, hown, hF, hN, hC, hsf, hE, ⟨a1, hEL⟩, hx, hby, hml, hnm, hrt, hlk⟩ := W
  subst hby
  exact K.st fun u k => XT.iconstV X.here hx rfl v hd hv k
theorem o_bipush (pc' : Nat) (W : Wk p l e R s m args below meth c Z y bytes maxL ret T h ce sl sf) {i : Int} (v : Int32) (hd : decode bytes pc = .ok (.bipush i, 2)) (hv : (Int8.ofInt i).toInt32 = v) (K : Go p e below G T (mkF m pc' L (.int v :: S))) (hp : pc + 2 = pc' := by rfl) : Go p e below G T (mkF m pc L (S)) := by
  subst hp
  obtain ⟨vm0, k0, locs, X, eT, hS, hk, hZ, hown, hF, hN, hC, hsf, hE, ⟨a1, hEL⟩, hx, hby, hml, hnm, hrt, hlk⟩ := W
  subst hby
  exact K.st fun u k => XT.bipushV X.here hx rfl v hd hv k
theorem o_sipush (pc' : Nat) (W : Wk p l e R s m args below meth c Z y bytes maxL ret T h ce sl sf) {i : Int} (v : Int32) (hd : decode bytes pc = .ok (.sipush i, 3)) (hv : (Int16.ofInt i).toInt32 = v) (K : Go p e below G T (mkF m pc' L (.int v :: S))) (hp : pc + 3 = pc' := by rfl) : Go p e below G T (mkF m pc L (S)) := by
  subst hp
  obtain ⟨vm0, k0, locs, X, eT, hS, hk, hZ, hown, hF, hN, hC, hsf, hE, ⟨a1, hEL⟩, hx, hby, hml, hnm, hrt, hlk⟩ := W
  subst hby
  exact K.st fun u k => XT.sipushV X.here hx rfl v hd hv k
theorem o_lconst (pc' : Nat) (W : Wk p l e R s m args below meth c Z y bytes maxL ret T h ce sl sf) {i : Fin 2} (v : Int64) (hd : decode bytes pc = .ok (.lconst i, 1)) (hv : Int64.ofNat i = v) (K : Go p e below G T (mkF m pc' L (.long v :: S))) (hp : pc + 1 = pc' := by rfl) : Go p e below G T (mkF m pc L (S)) := by
  subst hp
  obtain ⟨vm0, k0, locs, X, eT, hS, hk, hZ, hown, hF, hN, hC, hsf, hE, ⟨a1, hEL⟩, hx, hby, hml, hnm, hrt, hlk⟩ := W
  subst hby
  exact K.st fun u k => XT.lconstV X.here hx rfl v hd hv k
theorem o_null (pc' : Nat) (W : Wk p l e R s m args below meth c Z y bytes maxL ret T h ce sl sf)  (hd : decode bytes pc = .ok (.aconst_null, 1))  (K : Go p e below G T (mkF m pc' L (.null :: S))) (hp : pc + 1 = pc' := by rfl) : Go p e below G T (mkF m pc L (S)) := by
  subst hp
  obtain ⟨vm0, k0, locs, X, eT, hS, hk, hZ, hown, hF, hN, hC, hsf, hE, ⟨a1, hEL⟩, hx, hby, hml, hnm, hrt, hlk⟩ := W
  subst hby
  exact K.st fun u k => XS.aconstNull X.here hx rfl hd  k
theorem o_iadd (pc' : Nat) (W : Wk p l e R s m args below meth c Z y bytes maxL ret T h ce sl sf) {x z : Int32} (hd : decode bytes pc = .ok (.iadd, 1))  (K : Go p e below G T (mkF m pc' L (.int (x + z) :: S))) (hp : pc + 1 = pc' := by rfl) : Go p e below G T (mkF m pc L (.int z :: .int x :: S)) := by
  subst hp
  obtain ⟨vm0, k0, locs, X, eT, hS, hk, hZ, hown, hF, hN, hC, hsf, hE, ⟨a1, hEL⟩, hx, hby, hml, hnm, hrt, hlk⟩ := W
  subst hby
  exact K.st fun u k => XS.iadd X.here hx rfl hd rfl k
theorem o_isub (pc' : Nat) (W : Wk p l e R s m args below meth c Z y bytes maxL ret T h ce sl sf) {x z : Int32} (hd : decode bytes pc = .ok (.isub, 1))  (K : Go p e below G T (mkF m pc' L (.int (x - z) :: S))) (hp : pc + 1 = pc' := by rfl) : Go p e below G T (mkF m pc L (.int z :: .int x :: S)) := by
  subst hp
  obtain ⟨vm0, k0, locs, X, eT, hS, hk, hZ, hown, hF, hN, hC, hsf, hE, ⟨a1, hEL⟩, hx, hby, hml, hnm, hrt, hlk⟩ := W
  subst hby
  exact K.st fun u k => XS.isub X.here hx rfl hd rfl k
theorem o_iand (pc' : Nat) (W : Wk p l e R s m args below meth c Z y bytes maxL ret T h ce sl sf) {x z : Int32} (hd : decode bytes pc = .ok (.iand, 1))  (K : Go p e below G T (mkF m pc' L (.int (x &&& z) :: S))) (hp : pc + 1 = pc' := by rfl) : Go p e below G T (mkF m pc L (.int z :: .int x :: S)) := by
  subst hp
  obtain ⟨vm0, k0, locs, X, eT, hS, hk, hZ, hown, hF, hN, hC, hsf, hE, ⟨a1, hEL⟩, hx, hby, hml, hnm, hrt, hlk⟩ := W
  subst hby
  exact K.st fun u k => XS.iand X.here hx rfl hd rfl k
theorem o_imul (pc' : Nat) (W : Wk p l e R s m args below meth c Z y bytes maxL ret T h ce sl sf) {x z : Int32} (hd : decode bytes pc = .ok (.imul, 1))  (K : Go p e below G T (mkF m pc' L (.int (x * z) :: S))) (hp : pc + 1 = pc' := by rfl) : Go p e below G T (mkF m pc L (.int z :: .int x :: S)) := by
  subst hp
  obtain ⟨vm0, k0, locs, X, eT, hS, hk, hZ, hown, hF, hN, hC, hsf, hE, ⟨a1, hEL⟩, hx, hby, hml, hnm, hrt, hlk⟩ := W
  subst hby
  exact K.st fun u k => XS.imul X.here hx rfl hd rfl k
theorem o_ior (pc' : Nat) (W : Wk p l e R s m args below meth c Z y bytes maxL ret T h ce sl sf) {x z : Int32} (hd : decode bytes pc = .ok (.ior, 1))  (K : Go p e below G T (mkF m pc' L (.int (x ||| z) :: S))) (hp : pc + 1 = pc' := by rfl) : Go p e below G T (mkF m pc L (.int z :: .int x :: S)) := by
  subst hp
  obtain ⟨vm0, k0, locs, X, eT, hS, hk, hZ, hown, hF, hN, hC, hsf, hE, ⟨a1, hEL⟩, hx, hby, hml, hnm, hrt, hlk⟩ := W
  subst hby
  exact K.st fun u k => XT.ior X.here hx rfl hd rfl k
theorem o_ishl (pc' : Nat) (W : Wk p l e R s m args below meth c Z y bytes maxL ret T h ce sl sf) {x z : Int32} (hd : decode bytes pc = .ok (.ishl, 1))  (K : Go p e below G T (mkF m pc' L (.int (x <<< (z &&& 31)) :: S))) (hp : pc + 1 = pc' := by rfl) : Go p e below G T (mkF m pc L (.int z :: .int x :: S)) := by
  subst hp
  obtain ⟨vm0, k0, locs, X, eT, hS, hk, hZ, hown, hF, hN, hC, hsf, hE, ⟨a1, hEL⟩, hx, hby, hml, hnm, hrt, hlk⟩ := W
  subst hby
  exact K.st fun u k => XT.ishl X.here hx rfl hd rfl k
theorem o_iushr (pc' : Nat) (W : Wk p l e R s m args below meth c Z y bytes maxL ret T h ce sl sf) {x z : Int32} (hd : decode bytes pc = .ok (.iushr, 1))  (K : Go p e below G T (mkF m pc' L (.int (XT.ushr x z) :: S))) (hp : pc + 1 = pc' := by rfl) : Go p e below G T (mkF m pc L (.int z :: .int x :: S)) := by
  subst hp
  obtain ⟨vm0, k0, locs, X, eT, hS, hk, hZ, hown, hF, hN, hC, hsf, hE, ⟨a1, hEL⟩, hx, hby, hml, hnm, hrt, hlk⟩ := W
  subst hby
  exact K.st fun u k => XT.iushr X.here hx rfl hd rfl k
theorem o_ishr (pc' : Nat) (W : Wk p l e R s m args below meth c Z y bytes maxL ret T h ce sl sf) {x z : Int32} (hd : decode bytes pc = .ok (.ishr, 1))  (K : Go p e below G T (mkF m pc' L (.int (x >>> (z &&& 31)) :: S))) (hp : pc + 1 = pc' := by rfl) : Go p e below G T (mkF m pc L (.int z :: .int x :: S)) := by
  subst hp
  obtain ⟨vm0, k0, locs, X, eT, hS, hk, hZ, hown, hF, hN, hC, hsf, hE, ⟨a1, hEL⟩, hx, hby, hml, hnm, hrt, hlk⟩ := W
  subst hby
  exact K.st fun u k => XT.ishr X.here hx rfl hd rfl k
theorem o_ladd (pc' : Nat) (W : Wk p l e R s m args below meth c Z y bytes maxL ret T h ce sl sf) {x z : Int64} (hd : decode bytes pc = .ok (.ladd, 1))  (K : Go p e below G T (mkF m pc' L (.long (x + z) :: S))) (hp : pc + 1 = pc' := by rfl) : Go p e below G T (mkF m pc L (.long z :: .long x :: S)) := by
  subst hp
  obtain ⟨vm0, k0, locs, X, eT, hS, hk, hZ, hown, hF, hN, hC, hsf, hE, ⟨a1, hEL⟩, hx, hby, hml, hnm, hrt, hlk⟩ := W
  subst hby
  exact K.st fun u k => XT.ladd X.here hx rfl hd rfl k
theorem o_land (pc' : Nat) (W : Wk p l e R s m args below meth c Z y bytes maxL ret T h ce sl sf) {x z : Int64} (hd : decode bytes pc = .ok (.land, 1))  (K : Go p e below G T (mkF m pc' L (.long (x &&& z) :: S))) (hp : pc + 1 = pc' := by rfl) : Go p e below G T (mkF m pc L (.long z :: .long x :: S)) := by
  subst hp
  obtain ⟨vm0, k0, locs, X, eT, hS, hk, hZ, hown, hF, hN, hC, hsf, hE, ⟨a1, hEL⟩, hx, hby, hml, hnm, hrt, hlk⟩ := W
  subst hby
  exact K.st fun u k => XT.land X.here hx rfl hd rfl k
theorem o_lushr (pc' : Nat) (W : Wk p l e R s m args below meth c Z y bytes maxL ret T h ce sl sf) {x : Int64} {z : Int32} (hd : decode bytes pc = .ok (.lushr, 1))  (K : Go p e below G T (mkF m pc' L (.long (XT.ushrL x z) :: S))) (hp : pc + 1 = pc' := by rfl) : Go p e below G T (mkF m pc L (.int z :: .long x :: S)) := by
  subst hp
  obtain ⟨vm0, k0, locs, X, eT, hS, hk, hZ, hown, hF, hN, hC, hsf, hE, ⟨a1, hEL⟩, hx, hby, hml, hnm, hrt, hlk⟩ := W
  subst hby
  exact K.st fun u k => XT.lushr X.here hx rfl hd rfl k
theorem o_lcmp (pc' : Nat) (W : Wk p l e R s m args below meth c Z y bytes maxL ret T h ce sl sf) {x z : Int64} (hd : decode bytes pc = .ok (.lcmp, 1))  (K : Go p e below G T (mkF m pc' L (.int (XT.cmpL x z) :: S))) (hp : pc + 1 = pc' := by rfl) : Go p e below G T (mkF m pc L (.long z :: .long x :: S)) := by
  subst hp
  obtain ⟨vm0, k0, locs, X, eT, hS, hk, hZ, hown, hF, hN, hC, hsf, hE, ⟨a1, hEL⟩, hx, hby, hml, hnm, hrt, hlk⟩ := W
  subst hby
  exact K.st fun u k => XT.lcmp X.here hx rfl hd rfl k
theorem o_i2c (pc' : Nat) (W : Wk p l e R s m args below meth c Z y bytes maxL ret T h ce sl sf) {x : Int32} (hd : decode bytes pc = .ok (.i2c, 1))  (K : Go p e below G T (mkF m pc' L (.int x.toUInt32.toUInt16.toUInt32.toInt32 :: S))) (hp : pc + 1 = pc' := by rfl) : Go p e below G T (mkF m pc L (.int x :: S)) := by
  subst hp
  obtain ⟨vm0, k0, locs, X, eT, hS, hk, hZ, hown, hF, hN, hC, hsf, hE, ⟨a1, hEL⟩, hx, hby, hml, hnm, hrt, hlk⟩ := W
  subst hby
  exact K.st fun u k => XT.i2c X.here hx rfl hd rfl k
theorem o_i2b (pc' : Nat) (W : Wk p l e R s m args below meth c Z y bytes maxL ret T h ce sl sf) {x : Int32} (hd : decode bytes pc = .ok (.i2b, 1))  (K : Go p e below G T (mkF m pc' L (.int x.toInt8.toInt32 :: S))) (hp : pc + 1 = pc' := by rfl) : Go p e below G T (mkF m pc L (.int x :: S)) := by
  subst hp
  obtain ⟨vm0, k0, locs, X, eT, hS, hk, hZ, hown, hF, hN, hC, hsf, hE, ⟨a1, hEL⟩, hx, hby, hml, hnm, hrt, hlk⟩ := W
  subst hby
  exact K.st fun u k => XT.i2b X.here hx rfl hd rfl k
theorem o_i2l (pc' : Nat) (W : Wk p l e R s m args below meth c Z y bytes maxL ret T h ce sl sf) {x : Int32} (hd : decode bytes pc = .ok (.i2l, 1))  (K : Go p e below G T (mkF m pc' L (.long x.toInt64 :: S))) (hp : pc + 1 = pc' := by rfl) : Go p e below G T (mkF m pc L (.int x :: S)) := by
  subst hp
  obtain ⟨vm0, k0, locs, X, eT, hS, hk, hZ, hown, hF, hN, hC, hsf, hE, ⟨a1, hEL⟩, hx, hby, hml, hnm, hrt, hlk⟩ := W
  subst hby
  exact K.st fun u k => XT.i2l X.here hx rfl hd rfl k
theorem o_l2i (pc' : Nat) (W : Wk p l e R s m args below meth c Z y bytes maxL ret T h ce sl sf) {x : Int64} (hd : decode bytes pc = .ok (.l2i, 1))  (K : Go p e below G T (mkF m pc' L (.int x.toInt32 :: S))) (hp : pc + 1 = pc' := by rfl) : Go p e below G T (mkF m pc L (.long x :: S)) := by
  subst hp
  obtain ⟨vm0, k0, locs, X, eT, hS, hk, hZ, hown, hF, hN, hC, hsf, hE, ⟨a1, hEL⟩, hx, hby, hml, hnm, hrt, hlk⟩ := W
  subst hby
  exact K.st fun u k => XT.l2i X.here hx rfl hd rfl k
theorem o_dup (pc' : Nat) (W : Wk p l e R s m args below meth c Z y bytes maxL ret T h ce sl sf) {v : Value} (hd : decode bytes pc = .ok (.dup, 1)) (hc : v.category = 1) (K : Go p e below G T (mkF m pc' L (v :: v :: S))) (hp : pc + 1 = pc' := by rfl) : Go p e below G T (mkF m pc L (v :: S)) := by
  subst hp
  obtain ⟨vm0, k0, locs, X, eT, hS, hk, hZ, hown, hF, hN, hC, hsf, hE, ⟨a1, hEL⟩, hx, hby, hml, hnm, hrt, hlk⟩ := W
  subst hby
  exact K.st fun u k => XS.dup X.here hx rfl hd rfl hc k
theorem o_pop (pc' : Nat) (W : Wk p l e R s m args below meth c Z y bytes maxL ret T h ce sl sf) {v : Value} (hd : decode bytes pc = .ok (.pop, 1)) (hc : v.category = 1) (K : Go p e below G T (mkF m pc' L (S))) (hp : pc + 1 = pc' := by rfl) : Go p e below G T (mkF m pc L (v :: S)) := by
  subst hp
  obtain ⟨vm0, k0, locs, X, eT, hS, hk, hZ, hown, hF, hN, hC, hsf, hE, ⟨a1, hEL⟩, hx, hby, hml, hnm, hrt, hlk⟩ := W
  subst hby
  exact K.st fun u k => XT.pop X.here hx rfl hd rfl hc k
theorem o_iinc (pc' : Nat) (W : Wk p l e R s m args below meth c Z y bytes maxL ret T h ce sl sf) {k : Nat} {i : Int} {x : Int32} (v : Int32) (L' : Array Slot) (hd : decode bytes pc = .ok (.iinc k i, 3)) (hl : L[k]? = some (.val (.int x))) (hv : x + Int32.ofInt i = v) (hl' : storeLocals L k (.int v) = some L') (K : Go p e below G T (mkF m pc' L' (S))) (hp : pc + 3 = pc' := by rfl) : Go p e below G T (mkF m pc L (S)) := by
  subst hp
  obtain ⟨vm0, k0, locs, X, eT, hS, hk, hZ, hown, hF, hN, hC, hsf, hE, ⟨a1, hEL⟩, hx, hby, hml, hnm, hrt, hlk⟩ := W
  subst hby
  exact K.st fun u k => XS.iinc X.here hx rfl hd hl (hv ▸ hl') k
theorem o_irem (pc' : Nat) (W : Wk p l e R s m args below meth c Z y bytes maxL ret T h ce sl sf) {x z : Int32} (hd : decode bytes pc = .ok (.irem, 1)) (hz : z ≠ 0) (K : Go p e below G T (mkF m pc' L (.int (x % z) :: S))) (hp : pc + 1 = pc' := by rfl) : Go p e below G T (mkF m pc L (.int z :: .int x :: S)) := by
  subst hp
  obtain ⟨vm0, k0, locs, X, eT, hS, hk, hZ, hown, hF, hN, hC, hsf, hE, ⟨a1, hEL⟩, hx, hby, hml, hnm, hrt, hlk⟩ := W
  subst hby
  exact K.st fun u k => iremM X hx (g := mkF m pc L (.int z :: .int x :: S)) rfl hd rfl hz k
theorem o_goto (pc' : Nat) (W : Wk p l e R s m args below meth c Z y bytes maxL ret T h ce sl sf)  {o : Int} (hd : decode bytes pc = .ok (.goto o, 3))  (K : Go p e below G T (mkF m pc' L (S))) (ho : 0 ≤ (pc : Int) + o := by decide) (hp : ((pc : Int) + o).toNat = pc' := by decide) : Go p e below G T (mkF m pc L (S)) := by
  obtain ⟨vm0, k0, locs, X, eT, hS, hk, hZ, hown, hF, hN, hC, hsf, hE, ⟨a1, hEL⟩, hx, hby, hml, hnm, hrt, hlk⟩ := W
  subst hby
  exact K.st fun u k => XS.goto X.here hx rfl (pc0 := pc) rfl hd ho hp k
theorem o_ifeq (pt pf : Nat) (W : Wk p l e R s m args below meth c Z y bytes maxL ret T h ce sl sf) {x : Int32} {o : Int} (hd : decode bytes pc = .ok (.ifCond .eq o, 3)) (K1 : x = 0 → Go p e below G T (mkF m pt L S)) (K2 : ¬ x = 0 → Go p e below G T (mkF m pf L S)) (ho : 0 ≤ (pc : Int) + o := by decide) (hp : ((pc : Int) + o).toNat = pt := by decide) (hq : pc + 3 = pf := by rfl) : Go p e below G T (mkF m pc L (.int x :: S)) := by
  subst hq
  obtain ⟨vm0, k0, locs, X, eT, hS, hk, hZ, hown, hF, hN, hC, hsf, hE, ⟨a1, hEL⟩, hx, hby, hml, hnm, hrt, hlk⟩ := W
  subst hby
  by_cases q : x = 0
  · exact (K1 q).st fun u k => XS.ifYes X.here hx rfl (pc0 := pc) rfl hd rfl (XT.i0_eq_t q) ho hp k
  · exact (K2 q).st fun u k => XS.ifNo X.here hx rfl hd rfl (XT.i0_eq_f q) k
theorem o_ifne (pt pf : Nat) (W : Wk p l e R s m args below meth c Z y bytes maxL ret T h ce sl sf) {x : Int32} {o : Int} (hd : decode bytes pc = .ok (.ifCond .ne o, 3)) (K1 : ¬ x = 0 → Go p e below G T (mkF m pt L S)) (K2 : x = 0 → Go p e below G T (mkF m pf L S)) (ho : 0 ≤ (pc : Int) + o := by decide) (hp : ((pc : Int) + o).toNat = pt := by decide) (hq : pc + 3 = pf := by rfl) : Go p e below G T (mkF m pc L (.int x :: S)) := by
  subst hq
  obtain ⟨vm0, k0, locs, X, eT, hS, hk, hZ, hown, hF, hN, hC, hsf, hE, ⟨a1, hEL⟩, hx, hby, hml, hnm, hrt, hlk⟩ := W
  subst hby
  by_cases q : x = 0
  · exact (K2 q).st fun u k => XS.ifNo X.here hx rfl hd rfl (XT.i0_ne_f q) k
  · exact (K1 q).st fun u k => XS.ifYes X.here hx rfl (pc0 := pc) rfl hd rfl (XT.i0_ne_t q) ho hp k
theorem o_iflt (pt pf : Nat) (W : Wk p l e R s m args below meth c Z y bytes maxL ret T h ce sl sf) {x : Int32} {o : Int} (hd : decode bytes pc = .ok (.ifCond .lt o, 3)) (K1 : x < 0 → Go p e below G T (mkF m pt L S)) (K2 : ¬ x < 0 → Go p e below G T (mkF m pf L S)) (ho : 0 ≤ (pc : Int) + o := by decide) (hp : ((pc : Int) + o).toNat = pt := by decide) (hq : pc + 3 = pf := by rfl) : Go p e below G T (mkF m pc L (.int x :: S)) := by
  subst hq
  obtain ⟨vm0, k0, locs, X, eT, hS, hk, hZ, hown, hF, hN, hC, hsf, hE, ⟨a1, hEL⟩, hx, hby, hml, hnm, hrt, hlk⟩ := W
  subst hby
  by_cases q : x < 0
  · exact (K1 q).st fun u k => XS.ifYes X.here hx rfl (pc0 := pc) rfl hd rfl (XT.i0_lt_t q) ho hp k
  · exact (K2 q).st fun u k => XS.ifNo X.here hx rfl hd rfl (XT.i0_lt_f q) k
theorem o_ifge (pt pf : Nat) (W : Wk p l e R s m args below meth c Z y bytes maxL ret T h ce sl sf) {x : Int32} {o : Int} (hd : decode bytes pc = .ok (.ifCond .ge o, 3)) (K1 : ¬ x < 0 → Go p e below G T (mkF m pt L S)) (K2 : x < 0 → Go p e below G T (mkF m pf L S)) (ho : 0 ≤ (pc : Int) + o := by decide) (hp : ((pc : Int) + o).toNat = pt := by decide) (hq : pc + 3 = pf := by rfl) : Go p e below G T (mkF m pc L (.int x :: S)) := by
  subst hq
  obtain ⟨vm0, k0, locs, X, eT, hS, hk, hZ, hown, hF, hN, hC, hsf, hE, ⟨a1, hEL⟩, hx, hby, hml, hnm, hrt, hlk⟩ := W
  subst hby
  by_cases q : x < 0
  · exact (K2 q).st fun u k => XS.ifNo X.here hx rfl hd rfl (XT.i0_ge_f q) k
  · exact (K1 q).st fun u k => XS.ifYes X.here hx rfl (pc0 := pc) rfl hd rfl (XT.i0_ge_t q) ho hp k
theorem o_ifgt (pt pf : Nat) (W : Wk p l e R s m args below meth c Z y bytes maxL ret T h ce sl sf) {x : Int32} {o : Int} (hd : decode bytes pc = .ok (.ifCond .gt o, 3)) (K1 : 0 < x → Go p e below G T (mkF m pt L S)) (K2 : ¬ 0 < x → Go p e below G T (mkF m pf L S)) (ho : 0 ≤ (pc : Int) + o := by decide) (hp : ((pc : Int) + o).toNat = pt := by decide) (hq : pc + 3 = pf := by rfl) : Go p e below G T (mkF m pc L (.int x :: S)) := by
  subst hq
  obtain ⟨vm0, k0, locs, X, eT, hS, hk, hZ, hown, hF, hN, hC, hsf, hE, ⟨a1, hEL⟩, hx, hby, hml, hnm, hrt, hlk⟩ := W
  subst hby
  by_cases q : 0 < x
  · exact (K1 q).st fun u k => XS.ifYes X.here hx rfl (pc0 := pc) rfl hd rfl (XT.i0_gt_t q) ho hp k
  · exact (K2 q).st fun u k => XS.ifNo X.here hx rfl hd rfl (XT.i0_gt_f q) k
theorem o_ifle (pt pf : Nat) (W : Wk p l e R s m args below meth c Z y bytes maxL ret T h ce sl sf) {x : Int32} {o : Int} (hd : decode bytes pc = .ok (.ifCond .le o, 3)) (K1 : ¬ 0 < x → Go p e below G T (mkF m pt L S)) (K2 : 0 < x → Go p e below G T (mkF m pf L S)) (ho : 0 ≤ (pc : Int) + o := by decide) (hp : ((pc : Int) + o).toNat = pt := by decide) (hq : pc + 3 = pf := by rfl) : Go p e below G T (mkF m pc L (.int x :: S)) := by
  subst hq
  obtain ⟨vm0, k0, locs, X, eT, hS, hk, hZ, hown, hF, hN, hC, hsf, hE, ⟨a1, hEL⟩, hx, hby, hml, hnm, hrt, hlk⟩ := W
  subst hby
  by_cases q : 0 < x
  · exact (K2 q).st fun u k => XS.ifNo X.here hx rfl hd rfl (XT.i0_le_f q) k
  · exact (K1 q).st fun u k => XS.ifYes X.here hx rfl (pc0 := pc) rfl hd rfl (XT.i0_le_t q) ho hp k
theorem o_iceq (pt pf : Nat) (W : Wk p l e R s m args below meth c Z y bytes maxL ret T h ce sl sf) {x z : Int32} {o : Int} (hd : decode bytes pc = .ok (.if_icmp .eq o, 3)) (K1 : x = z → Go p e below G T (mkF m pt L S)) (K2 : ¬ x = z → Go p e below G T (mkF m pf L S)) (ho : 0 ≤ (pc : Int) + o := by decide) (hp : ((pc : Int) + o).toNat = pt := by decide) (hq : pc + 3 = pf := by rfl) : Go p e below G T (mkF m pc L (.int z :: .int x :: S)) := by
  subst hq
  obtain ⟨vm0, k0, locs, X, eT, hS, hk, hZ, hown, hF, hN, hC, hsf, hE, ⟨a1, hEL⟩, hx, hby, hml, hnm, hrt, hlk⟩ := W
  subst hby
  by_cases q : x = z
  · exact (K1 q).st fun u k => XS.icmpYes X.here hx rfl (pc0 := pc) rfl hd rfl (XT.ii_eq_t q) ho hp k
  · exact (K2 q).st fun u k => XS.icmpNo X.here hx rfl hd rfl (XT.ii_eq_f q) k
theorem o_icne (pt pf : Nat) (W : Wk p l e R s m args below meth c Z y bytes maxL ret T h ce sl sf) {x z : Int32} {o : Int} (hd : decode bytes pc = .ok (.if_icmp .ne o, 3)) (K1 : ¬ x = z → Go p e below G T (mkF m pt L S)) (K2 : x = z → Go p e below G T (mkF m pf L S)) (ho : 0 ≤ (pc : Int) + o := by decide) (hp : ((pc : Int) + o).toNat = pt := by decide) (hq : pc + 3 = pf := by rfl) : Go p e below G T (mkF m pc L (.int z :: .int x :: S)) := by
  subst hq
  obtain ⟨vm0, k0, locs, X, eT, hS, hk, hZ, hown, hF, hN, hC, hsf, hE, ⟨a1, hEL⟩, hx, hby, hml, hnm, hrt, hlk⟩ := W
  subst hby
  by_cases q : x = z
  · exact (K2 q).st fun u k => XS.icmpNo X.here hx rfl hd rfl (XT.ii_ne_f q) k
  · exact (K1 q).st fun u k => XS.icmpYes X.here hx rfl (pc0 := pc) rfl hd rfl (XT.ii_ne_t q) ho hp k
theorem o_iclt (pt pf : Nat) (W : Wk p l e R s m args below meth c Z y bytes maxL ret T h ce sl sf) {x z : Int32} {o : Int} (hd : decode bytes pc = .ok (.if_icmp .lt o, 3)) (K1 : x < z → Go p e below G T (mkF m pt L S)) (K2 : ¬ x < z → Go p e below G T (mkF m pf L S)) (ho : 0 ≤ (pc : Int) + o := by decide) (hp : ((pc : Int) + o).toNat = pt := by decide) (hq : pc + 3 = pf := by rfl) : Go p e below G T (mkF m pc L (.int z :: .int x :: S)) := by
  subst hq
  obtain ⟨vm0, k0, locs, X, eT, hS, hk, hZ, hown, hF, hN, hC, hsf, hE, ⟨a1, hEL⟩, hx, hby, hml, hnm, hrt, hlk⟩ := W
  subst hby
  by_cases q : x < z
  · exact (K1 q).st fun u k => XS.icmpYes X.here hx rfl (pc0 := pc) rfl hd rfl (XT.ii_lt_t q) ho hp k
  · exact (K2 q).st fun u k => XS.icmpNo X.here hx rfl hd rfl (XT.ii_lt_f q) k
theorem o_icge (pt pf : Nat) (W : Wk p l e R s m args below meth c Z y bytes maxL ret T h ce sl sf) {x z : Int32} {o : Int} (hd : decode bytes pc = .ok (.if_icmp .ge o, 3)) (K1 : ¬ x < z → Go p e below G T (mkF m pt L S)) (K2 : x < z → Go p e below G T (mkF m pf L S)) (ho : 0 ≤ (pc : Int) + o := by decide) (hp : ((pc : Int) + o).toNat = pt := by decide) (hq : pc + 3 = pf := by rfl) : Go p e below G T (mkF m pc L (.int z :: .int x :: S)) := by
  subst hq
  obtain ⟨vm0, k0, locs, X, eT, hS, hk, hZ, hown, hF, hN, hC, hsf, hE, ⟨a1, hEL⟩, hx, hby, hml, hnm, hrt, hlk⟩ := W
  subst hby
  by_cases q : x < z
  · exact (K2 q).st fun u k => XS.icmpNo X.here hx rfl hd rfl (XT.ii_ge_f q) k
  · exact (K1 q).st fun u k => XS.icmpYes X.here hx rfl (pc0 := pc) rfl hd rfl (XT.ii_ge_t q) ho hp k
theorem o_icgt (pt pf : Nat) (W : Wk p l e R s m args below meth c Z y bytes maxL ret T h ce sl sf) {x z : Int32} {o : Int} (hd : decode bytes pc = .ok (.if_icmp .gt o, 3)) (K1 : z < x → Go p e below G T (mkF m pt L S)) (K2 : ¬ z < x → Go p e below G T (mkF m pf L S)) (ho : 0 ≤ (pc : Int) + o := by decide) (hp : ((pc : Int) + o).toNat = pt := by decide) (hq : pc + 3 = pf := by rfl) : Go p e below G T (mkF m pc L (.int z :: .int x :: S)) := by
  subst hq
  obtain ⟨vm0, k0, locs, X, eT, hS, hk, hZ, hown, hF, hN, hC, hsf, hE, ⟨a1, hEL⟩, hx, hby, hml, hnm, hrt, hlk⟩ := W
  subst hby
  by_cases q : z < x
  · exact (K1 q).st fun u k => XS.icmpYes X.here hx rfl (pc0 := pc) rfl hd rfl (XT.ii_gt_t q) ho hp k
  · exact (K2 q).st fun u k => XS.icmpNo X.here hx rfl hd rfl (XT.ii_gt_f q) k
theorem o_icle (pt pf : Nat) (W : Wk p l e R s m args below meth c Z y bytes maxL ret T h ce sl sf) {x z : Int32} {o : Int} (hd : decode bytes pc = .ok (.if_icmp .le o, 3)) (K1 : ¬ z < x → Go p e below G T (mkF m pt L S)) (K2 : z < x → Go p e below G T (mkF m pf L S)) (ho : 0 ≤ (pc : Int) + o := by decide) (hp : ((pc : Int) + o).toNat = pt := by decide) (hq : pc + 3 = pf := by rfl) : Go p e below G T (mkF m pc L (.int z :: .int x :: S)) := by
  subst hq
  obtain ⟨vm0, k0, locs, X, eT, hS, hk, hZ, hown, hF, hN, hC, hsf, hE, ⟨a1, hEL⟩, hx, hby, hml, hnm, hrt, hlk⟩ := W
  subst hby
  by_cases q : z < x
  · exact (K2 q).st fun u k => XS.icmpNo X.here hx rfl hd rfl (XT.ii_le_f q) k
  · exact (K1 q).st fun u k => XS.icmpYes X.here hx rfl (pc0 := pc) rfl hd rfl (XT.ii_le_t q) ho hp k
theorem o_lceq (pt pf : Nat) (W : Wk p l e R s m args below meth c Z y bytes maxL ret T h ce sl sf) {x z : Int64} {o : Int} (hd : decode bytes pc = .ok (.ifCond .eq o, 3)) (K1 : x = z → Go p e below G T (mkF m pt L S)) (K2 : ¬ x = z → Go p e below G T (mkF m pf L S)) (ho : 0 ≤ (pc : Int) + o := by decide) (hp : ((pc : Int) + o).toNat = pt := by decide) (hq : pc + 3 = pf := by rfl) : Go p e below G T (mkF m pc L (.int (XT.cmpL x z) :: S)) := by
  subst hq
  obtain ⟨vm0, k0, locs, X, eT, hS, hk, hZ, hown, hF, hN, hC, hsf, hE, ⟨a1, hEL⟩, hx, hby, hml, hnm, hrt, hlk⟩ := W
  subst hby
  by_cases q : x = z
  · exact (K1 q).st fun u k => XS.ifYes X.here hx rfl (pc0 := pc) rfl hd rfl (XT.ll_eq_t q) ho hp k
  · exact (K2 q).st fun u k => XS.ifNo X.here hx rfl hd rfl (XT.ll_eq_f q) k
theorem o_lcne (pt pf : Nat) (W : Wk p l e R s m args below meth c Z y bytes maxL ret T h ce sl sf) {x z : Int64} {o : Int} (hd : decode bytes pc = .ok (.ifCond .ne o, 3)) (K1 : ¬ x = z → Go p e below G T (mkF m pt L S)) (K2 : x = z → Go p e below G T (mkF m pf L S)) (ho : 0 ≤ (pc : Int) + o := by decide) (hp : ((pc : Int) + o).toNat = pt := by decide) (hq : pc + 3 = pf := by rfl) : Go p e below G T (mkF m pc L (.int (XT.cmpL x z) :: S)) := by
  subst hq
  obtain ⟨vm0, k0, locs, X, eT, hS, hk, hZ, hown, hF, hN, hC, hsf, hE, ⟨a1, hEL⟩, hx, hby, hml, hnm, hrt, hlk⟩ := W
  subst hby
  by_cases q : x = z
  · exact (K2 q).st fun u k => XS.ifNo X.here hx rfl hd rfl (XT.ll_ne_f q) k
  · exact (K1 q).st fun u k => XS.ifYes X.here hx rfl (pc0 := pc) rfl hd rfl (XT.ll_ne_t q) ho hp k
theorem o_lclt (pt pf : Nat) (W : Wk p l e R s m args below meth c Z y bytes maxL ret T h ce sl sf) {x z : Int64} {o : Int} (hd : decode bytes pc = .ok (.ifCond .lt o, 3)) (K1 : x < z → Go p e below G T (mkF m pt L S)) (K2 : ¬ x < z → Go p e below G T (mkF m pf L S)) (ho : 0 ≤ (pc : Int) + o := by decide) (hp : ((pc : Int) + o).toNat = pt := by decide) (hq : pc + 3 = pf := by rfl) : Go p e below G T (mkF m pc L (.int (XT.cmpL x z) :: S)) := by
  subst hq
  obtain ⟨vm0, k0, locs, X, eT, hS, hk, hZ, hown, hF, hN, hC, hsf, hE, ⟨a1, hEL⟩, hx, hby, hml, hnm, hrt, hlk⟩ := W
  subst hby
  by_cases q : x < z
  · exact (K1 q).st fun u k => XS.ifYes X.here hx rfl (pc0 := pc) rfl hd rfl (XT.ll_lt_t q) ho hp k
  · exact (K2 q).st fun u k => XS.ifNo X.here hx rfl hd rfl (XT.ll_lt_f q) k
theorem o_lcge (pt pf : Nat) (W : Wk p l e R s m args below meth c Z y bytes maxL ret T h ce sl sf) {x z : Int64} {o : Int} (hd : decode bytes pc = .ok (.ifCond .ge o, 3)) (K1 : ¬ x < z → Go p e below G T (mkF m pt L S)) (K2 : x < z → Go p e below G T (mkF m pf L S)) (ho : 0 ≤ (pc : Int) + o := by decide) (hp : ((pc : Int) + o).toNat = pt := by decide) (hq : pc + 3 = pf := by rfl) : Go p e below G T (mkF m pc L (.int (XT.cmpL x z) :: S)) := by
  subst hq
  obtain ⟨vm0, k0, locs, X, eT, hS, hk, hZ, hown, hF, hN, hC, hsf, hE, ⟨a1, hEL⟩, hx, hby, hml, hnm, hrt, hlk⟩ := W
  subst hby
  by_cases q : x < z
  · exact (K2 q).st fun u k => XS.ifNo X.here hx rfl hd rfl (XT.ll_ge_f q) k
  · exact (K1 q).st fun u k => XS.ifYes X.here hx rfl (pc0 := pc) rfl hd rfl (XT.ll_ge_t q) ho hp k
theorem o_lcgt (pt pf : Nat) (W : Wk p l e R s m args below meth c Z y bytes maxL ret T h ce sl sf) {x z : Int64} {o : Int} (hd : decode bytes pc = .ok (.ifCond .gt o, 3)) (K1 : z < x → Go p e below G T (mkF m pt L S)) (K2 : ¬ z < x → Go p e below G T (mkF m pf L S)) (ho : 0 ≤ (pc : Int) + o := by decide) (hp : ((pc : Int) + o).toNat = pt := by decide) (hq : pc + 3 = pf := by rfl) : Go p e below G T (mkF m pc L (.int (XT.cmpL x z) :: S)) := by
  subst hq
  obtain ⟨vm0, k0, locs, X, eT, hS, hk, hZ, hown, hF, hN, hC, hsf, hE, ⟨a1, hEL⟩, hx, hby, hml, hnm, hrt, hlk⟩ := W
  subst hby
  by_cases q : z < x
  · exact (K1 q).st fun u k => XS.ifYes X.here hx rfl (pc0 := pc) rfl hd rfl (XT.ll_gt_t q) ho hp k
  · exact (K2 q).st fun u k => XS.ifNo X.here hx rfl hd rfl (XT.ll_gt_f q) k
theorem o_lcle (pt pf : Nat) (W : Wk p l e R s m args below meth c Z y bytes maxL ret T h ce sl sf) {x z : Int64} {o : Int} (hd : decode bytes pc = .ok (.ifCond .le o, 3)) (K1 : ¬ z < x → Go p e below G T (mkF m pt L S)) (K2 : z < x → Go p e below G T (mkF m pf L S)) (ho : 0 ≤ (pc : Int) + o := by decide) (hp : ((pc : Int) + o).toNat = pt := by decide) (hq : pc + 3 = pf := by rfl) : Go p e below G T (mkF m pc L (.int (XT.cmpL x z) :: S)) := by
  subst hq
  obtain ⟨vm0, k0, locs, X, eT, hS, hk, hZ, hown, hF, hN, hC, hsf, hE, ⟨a1, hEL⟩, hx, hby, hml, hnm, hrt, hlk⟩ := W
  subst hby
  by_cases q : z < x
  · exact (K2 q).st fun u k => XS.ifNo X.here hx rfl hd rfl (XT.ll_le_f q) k
  · exact (K1 q).st fun u k => XS.ifYes X.here hx rfl (pc0 := pc) rfl hd rfl (XT.ll_le_t q) ho hp k
theorem o_ifY (pc' : Nat) (W : Wk p l e R s m args below meth c Z y bytes maxL ret T h ce sl sf) {cd : ClassFile.Cond} {x : Int32} {o : Int} (hd : decode bytes pc = .ok (.ifCond cd o, 3)) (hc : ifCond.holds cd x = true) (K : Go p e below G T (mkF m pc' L (S))) (ho : 0 ≤ (pc : Int) + o := by decide) (hp : ((pc : Int) + o).toNat = pc' := by decide) : Go p e below G T (mkF m pc L (.int x :: S)) := by
  obtain ⟨vm0, k0, locs, X, eT, hS, hk, hZ, hown, hF, hN, hC, hsf, hE, ⟨a1, hEL⟩, hx, hby, hml, hnm, hrt, hlk⟩ := W
  subst hby
  exact K.st fun u k => XS.ifYes X.here hx rfl (pc0 := pc) rfl hd rfl hc ho hp k
theorem o_ifN (pc' : Nat) (W : Wk p l e R s m args below meth c Z y bytes maxL ret T h ce sl sf) {cd : ClassFile.Cond} {o : Int} {x : Int32} (hd : decode bytes pc = .ok (.ifCond cd o, 3)) (hc : ifCond.holds cd x = false) (K : Go p e below G T (mkF m pc' L (S))) (hp : pc + 3 = pc' := by rfl) : Go p e below G T (mkF m pc L (.int x :: S)) := by
  subst hp
  obtain ⟨vm0, k0, locs, X, eT, hS, hk, hZ, hown, hF, hN, hC, hsf, hE, ⟨a1, hEL⟩, hx, hby, hml, hnm, hrt, hlk⟩ := W
  subst hby
  exact K.st fun u k => XS.ifNo X.here hx rfl hd rfl hc k
theorem o_icY (pc' : Nat) (W : Wk p l e R s m args below meth c Z y bytes maxL ret T h ce sl sf) {cd : ClassFile.Cond} {x z : Int32} {o : Int} (hd : decode bytes pc = .ok (.if_icmp cd o, 3)) (hc : if_icmp.holds cd x z = true) (K : Go p e below G T (mkF m pc' L (S))) (ho : 0 ≤ (pc : Int) + o := by decide) (hp : ((pc : Int) + o).toNat = pc' := by decide) : Go p e below G T (mkF m pc L (.int z :: .int x :: S)) := by
  obtain ⟨vm0, k0, locs, X, eT, hS, hk, hZ, hown, hF, hN, hC, hsf, hE, ⟨a1, hEL⟩, hx, hby, hml, hnm, hrt, hlk⟩ := W
  subst hby
  exact K.st fun u k => XS.icmpYes X.here hx rfl (pc0 := pc) rfl hd rfl hc ho hp k
theorem o_icN (pc' : Nat) (W : Wk p l e R s m args below meth c Z y bytes maxL ret T h ce sl sf) {cd : ClassFile.Cond} {o : Int} {x z : Int32} (hd : decode bytes pc = .ok (.if_icmp cd o, 3)) (hc : if_icmp.holds cd x z = false) (K : Go p e below G T (mkF m pc' L (S))) (hp : pc + 3 = pc' := by rfl) : Go p e below G T (mkF m pc L (.int z :: .int x :: S)) := by
  subst hp
  obtain ⟨vm0, k0, locs, X, eT, hS, hk, hZ, hown, hF, hN, hC, hsf, hE, ⟨a1, hEL⟩, hx, hby, hml, hnm, hrt, hlk⟩ := W
  subst hby
  exact K.st fun u k => XS.icmpNo X.here hx rfl hd rfl hc k
theorem o_nullY (pc' : Nat) (W : Wk p l e R s m args below meth c Z y bytes maxL ret T h ce sl sf)  {o : Int} (hd : decode bytes pc = .ok (.ifnull o, 3))  (K : Go p e below G T (mkF m pc' L (S))) (ho : 0 ≤ (pc : Int) + o := by decide) (hp : ((pc : Int) + o).toNat = pc' := by decide) : Go p e below G T (mkF m pc L (.null :: S)) := by
  obtain ⟨vm0, k0, locs, X, eT, hS, hk, hZ, hown, hF, hN, hC, hsf, hE, ⟨a1, hEL⟩, hx, hby, hml, hnm, hrt, hlk⟩ := W
  subst hby
  exact K.st fun u k => XS.ifnullYes X.here hx rfl (pc0 := pc) rfl hd rfl ho hp k
theorem o_nullN (pc' : Nat) (W : Wk p l e R s m args below meth c Z y bytes maxL ret T h ce sl sf) {o : Int} {a : Addr} (hd : decode bytes pc = .ok (.ifnull o, 3))  (K : Go p e below G T (mkF m pc' L (S))) (hp : pc + 3 = pc' := by rfl) : Go p e below G T (mkF m pc L (.ref a :: S)) := by
  subst hp
  obtain ⟨vm0, k0, locs, X, eT, hS, hk, hZ, hown, hF, hN, hC, hsf, hE, ⟨a1, hEL⟩, hx, hby, hml, hnm, hrt, hlk⟩ := W
  subst hby
  exact K.st fun u k => XS.ifnullNo X.here hx rfl hd rfl k
theorem o_nnY (pc' : Nat) (W : Wk p l e R s m args below meth c Z y bytes maxL ret T h ce sl sf) {a : Addr} {o : Int} (hd : decode bytes pc = .ok (.ifnonnull o, 3))  (K : Go p e below G T (mkF m pc' L (S))) (ho : 0 ≤ (pc : Int) + o := by decide) (hp : ((pc : Int) + o).toNat = pc' := by decide) : Go p e below G T (mkF m pc L (.ref a :: S)) := by
  obtain ⟨vm0, k0, locs, X, eT, hS, hk, hZ, hown, hF, hN, hC, hsf, hE, ⟨a1, hEL⟩, hx, hby, hml, hnm, hrt, hlk⟩ := W
  subst hby
  exact K.st fun u k => XT.ifnonnullYes X.here hx rfl (pc0 := pc) rfl hd rfl ho hp k
theorem o_nnN (pc' : Nat) (W : Wk p l e R s m args below meth c Z y bytes maxL ret T h ce sl sf) {o : Int} (hd : decode bytes pc = .ok (.ifnonnull o, 3))  (K : Go p e below G T (mkF m pc' L (S))) (hp : pc + 3 = pc' := by rfl) : Go p e below G T (mkF m pc L (.null :: S)) := by
  subst hp
  obtain ⟨vm0, k0, locs, X, eT, hS, hk, hZ, hown, hF, hN, hC, hsf, hE, ⟨a1, hEL⟩, hx, hby, hml, hnm, hrt, hlk⟩ := W
  subst hby
  exact K.st fun u k => XT.ifnonnullNo X.here hx rfl hd rfl k
theorem o_aceq (pt pf : Nat) (W : Wk p l e R s m args below meth c Z y bytes maxL ret T h ce sl sf) {x z : Value} (h1 : x.isRef = true) (h2 : z.isRef = true) {o : Int} (hd : decode bytes pc = .ok (.if_acmp .eq o, 3)) (K1 : x = z → Go p e below G T (mkF m pt L S)) (K2 : ¬ x = z → Go p e below G T (mkF m pf L S)) (ho : 0 ≤ (pc : Int) + o := by decide) (hp : ((pc : Int) + o).toNat = pt := by decide) (hq : pc + 3 = pf := by rfl) : Go p e below G T (mkF m pc L (z :: x :: S)) := by
  subst hq hp
  obtain ⟨vm0, k0, locs, X, eT, hS, hk, hZ, hown, hF, hN, hC, hsf, hE, ⟨a1, hEL⟩, hx, hby, hml, hnm, hrt, hlk⟩ := W
  subst hby
  by_cases q : x = z
  · exact (K1 q).st fun u k => acmp X hx (g := mkF m pc L (z :: x :: S)) rfl h1 h2 (same := true) rfl hd rfl (by simp [q]) ho (by rfl) k
  · exact (K2 q).st fun u k => acmp X hx (g := mkF m pc L (z :: x :: S)) rfl h1 h2 (same := false) rfl hd rfl (by simp [q]) ho (by rfl) k
theorem o_acne (pt pf : Nat) (W : Wk p l e R s m args below meth c Z y bytes maxL ret T h ce sl sf) {x z : Value} (h1 : x.isRef = true) (h2 : z.isRef = true) {o : Int} (hd : decode bytes pc = .ok (.if_acmp .ne o, 3)) (K1 : ¬ x = z → Go p e below G T (mkF m pt L S)) (K2 : x = z → Go p e below G T (mkF m pf L S)) (ho : 0 ≤ (pc : Int) + o := by decide) (hp : ((pc : Int) + o).toNat = pt := by decide) (hq : pc + 3 = pf := by rfl) : Go p e below G T (mkF m pc L (z :: x :: S)) := by
  subst hq hp
  obtain ⟨vm0, k0, locs, X, eT, hS, hk, hZ, hown, hF, hN, hC, hsf, hE, ⟨a1, hEL⟩, hx, hby, hml, hnm, hrt, hlk⟩ := W
  subst hby
  by_cases q : x = z
  · exact (K2 q).st fun u k => acmp X hx (g := mkF m pc L (z :: x :: S)) rfl h1 h2 (same := true) rfl hd rfl (by simp [q]) ho (by rfl) k
  · exact (K1 q).st fun u k => acmp X hx (g := mkF m pc L (z :: x :: S)) rfl h1 h2 (same := false) rfl hd rfl (by simp [q]) ho (by rfl) k
theorem o_ldcI (pc' : Nat) (W : Wk p l e R s m args below meth c Z y bytes maxL ret T h ce sl sf) {i : Nat} {v : Int32} (w : (Jvm.Cond.constant y.cls i v).before a0 Z = true) (hd : decode bytes pc = .ok (.ldc i, 2)) (K : Go p e below G T (mkF m pc' L (.int v :: S))) (hp : pc + 2 = pc' := by rfl) : Go p e below G T (mkF m pc L S) := by
  subst hp
  obtain ⟨vm0, k0, locs, X, eT, hS, hk, hZ, hown, hF, hN, hC, hsf, hE, ⟨a1, hEL⟩, hx, hby, hml, hnm, hrt, hlk⟩ := W
  subst hby
  exact K.st fun u k => X.ldcI hx hown (mv hZ w) (g := mkF m pc L S) rfl hd k
theorem o_ldc2J (pc' : Nat) (W : Wk p l e R s m args below meth c Z y bytes maxL ret T h ce sl sf) {i : Nat} {v : Int64} (w : (Jvm.Cond.constantLong y.cls i v).before a0 Z = true) (hd : decode bytes pc = .ok (.ldc2_w i, 3)) (K : Go p e below G T (mkF m pc' L (.long v :: S))) (hp : pc + 3 = pc' := by rfl) : Go p e below G T (mkF m pc L S) := by
  subst hp
  obtain ⟨vm0, k0, locs, X, eT, hS, hk, hZ, hown, hF, hN, hC, hsf, hE, ⟨a1, hEL⟩, hx, hby, hml, hnm, hrt, hlk⟩ := W
  subst hby
  exact K.st fun u k => X.ldc2J hx hown (mv hZ w) (g := mkF m pc L S) rfl hd k
theorem o_getF (pc' : Nat) (W : Wk p l e R s m args below meth c Z y bytes maxL ret T h ce sl sf) {i : Nat} {R0 O n d : String} {a : Addr} {v : Value} (w : (Jvm.Cond.fieldLink y.cls i R0 n d).before a0 Z = true) (F : Fld Z h a O n d v) (hd : decode bytes pc = .ok (.getfield i, 3)) (K : ∀ T', Wk p l e R s m args below meth c Z y bytes maxL ret T' h ce sl sf → Go p e below G T' (mkF m pc' L (v :: S))) (via : Via Z R0 O n d := by exact Via.refl) (hp : pc + 3 = pc' := by rfl) : Go p e below G T (mkF m pc L (.ref a :: S)) := by
  subst hp
  obtain ⟨vm0, k0, locs, X, eT, hS, hk, hZ, hown, hF, hN, hC, hsf, hE, ⟨a1, hEL⟩, hx, hby, hml, hnm, hrt, hlk⟩ := W
  subst hby
  obtain ⟨T', X', e', st⟩ := getF X hx hZ hown (host := "") (Or.inl w) via eT F (g := mkF m pc L (.ref a :: S)) rfl rfl hd
  exact (K T' ⟨vm0, k0, locs, X', e', hS, hk, hZ, hown, hF, hN, hC, hsf, hE, ⟨a1, hEL⟩, hx, rfl, hml, hnm, hrt, hlk⟩).st st
theorem o_getS (pc' : Nat) (W : Wk p l e R s m args below meth c Z y bytes maxL ret T h ce sl sf) {i : Nat} {R0 O n d : String} {v : Value} (w : (Jvm.Cond.fieldLink y.cls i R0 n d).before a0 Z = true) (F : Sta Z Z.heap O n d v) (hd : decode bytes pc = .ok (.getstatic i, 3)) (K : ∀ T', Wk p l e R s m args below meth c Z y bytes maxL ret T' h ce sl sf → Go p e below G T' (mkF m pc' L (v :: S))) (via : Via Z R0 O n d := by exact Via.refl) (hp : pc + 3 = pc' := by rfl) : Go p e below G T (mkF m pc L S) := by
  subst hp
  obtain ⟨vm0, k0, locs, X, eT, hS, hk, hZ, hown, hF, hN, hC, hsf, hE, ⟨a1, hEL⟩, hx, hby, hml, hnm, hrt, hlk⟩ := W
  subst hby
  obtain ⟨T', X', e', st⟩ := getS X hx hZ hown w via eT (Sta.ext hE F) (g := mkF m pc L S) rfl hd (host := "")
  exact (K T' ⟨vm0, k0, locs, X', e', hS, hk, hZ, hown, hF, hN, hC, hsf, hE, ⟨a1, hEL⟩, hx, rfl, hml, hnm, hrt, hlk⟩).st st
theorem o_cast (pc' : Nat) (W : Wk p l e R s m args below meth c Z y bytes maxL ret T h ce sl sf) {i : Nat} {K0 : String} {a : Addr} (w : (Jvm.Cond.classLink y.cls i K0).before a0 Z = true) (F : Ins Z h a K0 true) (hd : decode bytes pc = .ok (.checkcast i, 3)) (K : ∀ T', Wk p l e R s m args below meth c Z y bytes maxL ret T' h ce sl sf → Go p e below G T' (mkF m pc' L (.ref a :: S))) (hp : pc + 3 = pc' := by rfl) : Go p e below G T (mkF m pc L (.ref a :: S)) := by
  subst hp
  obtain ⟨vm0, k0, locs, X, eT, hS, hk, hZ, hown, hF, hN, hC, hsf, hE, ⟨a1, hEL⟩, hx, hby, hml, hnm, hrt, hlk⟩ := W
  subst hby
  obtain ⟨T', X', e', st⟩ := castY X hx hZ hown w eT F (g := mkF m pc L (.ref a :: S)) rfl rfl hd
  exact (K T' ⟨vm0, k0, locs, X', e', hS, hk, hZ, hown, hF, hN, hC, hsf, hE, ⟨a1, hEL⟩, hx, rfl, hml, hnm, hrt, hlk⟩).st st
theorem o_instY (pc' : Nat) (W : Wk p l e R s m args below meth c Z y bytes maxL ret T h ce sl sf) {i : Nat} {K0 : String} {a : Addr} (w : (Jvm.Cond.classLink y.cls i K0).before a0 Z = true) (F : Ins Z h a K0 true) (hd : decode bytes pc = .ok (.instanceof i, 3)) (K : ∀ T', Wk p l e R s m args below meth c Z y bytes maxL ret T' h ce sl sf → Go p e below G T' (mkF m pc' L (.int 1 :: S))) (hp : pc + 3 = pc' := by rfl) : Go p e below G T (mkF m pc L (.ref a :: S)) := by
  subst hp
  obtain ⟨vm0, k0, locs, X, eT, hS, hk, hZ, hown, hF, hN, hC, hsf, hE, ⟨a1, hEL⟩, hx, hby, hml, hnm, hrt, hlk⟩ := W
  subst hby
  obtain ⟨T', X', e', st⟩ := instY X hx hZ hown w eT F (g := mkF m pc L (.ref a :: S)) rfl rfl hd
  exact (K T' ⟨vm0, k0, locs, X', e', hS, hk, hZ, hown, hF, hN, hC, hsf, hE, ⟨a1, hEL⟩, hx, rfl, hml, hnm, hrt, hlk⟩).st st
theorem o_instN (pc' : Nat) (W : Wk p l e R s m args below meth c Z y bytes maxL ret T h ce sl sf) {i : Nat} {K0 C : String} {a : Addr} (w : (Jvm.Cond.classLink y.cls i K0).before a0 Z = true) (E : Exa Z h a C) (F : ∃ c t, Z.vm.findClass C = some c ∧ Z.vm.findClass K0 = some t ∧ Z.vm.assignable c t = false) (hd : decode bytes pc = .ok (.instanceof i, 3)) (K : ∀ T', Wk p l e R s m args below meth c Z y bytes maxL ret T' h ce sl sf → Go p e below G T' (mkF m pc' L (.int 0 :: S))) (hp : pc + 3 = pc' := by rfl) : Go p e below G T (mkF m pc L (.ref a :: S)) := by
  subst hp
  obtain ⟨vm0, k0, locs, X, eT, hS, hk, hZ, hown, hF, hN, hC, hsf, hE, ⟨a1, hEL⟩, hx, hby, hml, hnm, hrt, hlk⟩ := W
  subst hby
  obtain ⟨T', X', e', st⟩ := instNo X hx hZ hown w eT E F (g := mkF m pc L (.ref a :: S)) rfl rfl hd
  exact (K T' ⟨vm0, k0, locs, X', e', hS, hk, hZ, hown, hF, hN, hC, hsf, hE, ⟨a1, hEL⟩, hx, rfl, hml, hnm, hrt, hlk⟩).st st
theorem o_instNull (pc' : Nat) (W : Wk p l e R s m args below meth c Z y bytes maxL ret T h ce sl sf) {i : Nat} (hd : decode bytes pc = .ok (.instanceof i, 3)) (K : Go p e below G T (mkF m pc' L (.int 0 :: S))) (hp : pc + 3 = pc' := by rfl) : Go p e below G T (mkF m pc L (.null :: S)) := by
  subst hp
  obtain ⟨vm0, k0, locs, X, eT, hS, hk, hZ, hown, hF, hN, hC, hsf, hE, ⟨a1, hEL⟩, hx, hby, hml, hnm, hrt, hlk⟩ := W
  subst hby
  exact K.st fun u k => X.instanceofNull hx (g := mkF m pc L (.null :: S)) rfl rfl hd u k
theorem o_castNull (pc' : Nat) (W : Wk p l e R s m args below meth c Z y bytes maxL ret T h ce sl sf) {i : Nat} (hd : decode bytes pc = .ok (.checkcast i, 3)) (K : Go p e below G T (mkF m pc' L (.null :: S))) (hp : pc + 3 = pc' := by rfl) : Go p e below G T (mkF m pc L (.null :: S)) := by
  subst hp
  obtain ⟨vm0, k0, locs, X, eT, hS, hk, hZ, hown, hF, hN, hC, hsf, hE, ⟨a1, hEL⟩, hx, hby, hml, hnm, hrt, hlk⟩ := W
  subst hby
  exact K.st fun u k => X.checkcastNull hx (g := mkF m pc L (.null :: S)) rfl rfl hd u k
theorem o_iaload (pc' : Nat) (W : Wk p l e R s m args below meth c Z y bytes maxL ret T h ce sl sf) {a : Addr} {cl : Cell} {j : Int32} {v : Value} (A : Arr Z h a cl .int) (hj : ¬ (j < 0 ∨ cl.slots.size ≤ j.toNatClampNeg)) (hv : cl.slots[j.toNatClampNeg]? = some v) (hd : decode bytes pc = .ok (.iaload, 1)) (K : Go p e below G T (mkF m pc' L (v :: S))) (hp : pc + 1 = pc' := by rfl) : Go p e below G T (mkF m pc L (.int j :: .ref a :: S)) := by
  subst hp
  obtain ⟨vm0, k0, locs, X, eT, hS, hk, hZ, hown, hF, hN, hC, hsf, hE, ⟨a1, hEL⟩, hx, hby, hml, hnm, hrt, hlk⟩ := W
  subst hby
  exact K.st fun u k => X.iaload hx (by rw [eT]; exact A.1) (State.isArrayOf_alike hZ.alike A.2.1) A.2.2 hj hv (g := mkF m pc L (.int j :: .ref a :: S)) rfl rfl hd u k
theorem o_caload (pc' : Nat) (W : Wk p l e R s m args below meth c Z y bytes maxL ret T h ce sl sf) {a : Addr} {cl : Cell} {j : Int32} {v : Value} (A : Arr Z h a cl .char) (hj : ¬ (j < 0 ∨ cl.slots.size ≤ j.toNatClampNeg)) (hv : cl.slots[j.toNatClampNeg]? = some v) (hd : decode bytes pc = .ok (.caload, 1)) (K : Go p e below G T (mkF m pc' L (v :: S))) (hp : pc + 1 = pc' := by rfl) : Go p e below G T (mkF m pc L (.int j :: .ref a :: S)) := by
  subst hp
  obtain ⟨vm0, k0, locs, X, eT, hS, hk, hZ, hown, hF, hN, hC, hsf, hE, ⟨a1, hEL⟩, hx, hby, hml, hnm, hrt, hlk⟩ := W
  subst hby
  exact K.st fun u k => X.caload hx (by rw [eT]; exact A.1) (State.isArrayOf_alike hZ.alike A.2.1) A.2.2 hj hv (g := mkF m pc L (.int j :: .ref a :: S)) rfl rfl hd u k
theorem o_baload (pc' : Nat) (W : Wk p l e R s m args below meth c Z y bytes maxL ret T h ce sl sf) {a : Addr} {cl : Cell} {j : Int32} {v : Value} (A : Arr Z h a cl .byte) (hj : ¬ (j < 0 ∨ cl.slots.size ≤ j.toNatClampNeg)) (hv : cl.slots[j.toNatClampNeg]? = some v) (hd : decode bytes pc = .ok (.baload, 1)) (K : Go p e below G T (mkF m pc' L (v :: S))) (hp : pc + 1 = pc' := by rfl) : Go p e below G T (mkF m pc L (.int j :: .ref a :: S)) := by
  subst hp
  obtain ⟨vm0, k0, locs, X, eT, hS, hk, hZ, hown, hF, hN, hC, hsf, hE, ⟨a1, hEL⟩, hx, hby, hml, hnm, hrt, hlk⟩ := W
  subst hby
  exact K.st fun u k => X.baloadBytes hx (by rw [eT]; exact A.1) (State.isArrayOf_alike hZ.alike A.2.1) A.2.2 hj hv (g := mkF m pc L (.int j :: .ref a :: S)) rfl rfl hd u k
theorem o_laload (pc' : Nat) (W : Wk p l e R s m args below meth c Z y bytes maxL ret T h ce sl sf) {a : Addr} {cl : Cell} {j : Int32} {v : Value} (A : Arr Z h a cl .long) (hj : ¬ (j < 0 ∨ cl.slots.size ≤ j.toNatClampNeg)) (hv : cl.slots[j.toNatClampNeg]? = some v) (hd : decode bytes pc = .ok (.laload, 1)) (K : Go p e below G T (mkF m pc' L (v :: S))) (hp : pc + 1 = pc' := by rfl) : Go p e below G T (mkF m pc L (.int j :: .ref a :: S)) := by
  subst hp
  obtain ⟨vm0, k0, locs, X, eT, hS, hk, hZ, hown, hF, hN, hC, hsf, hE, ⟨a1, hEL⟩, hx, hby, hml, hnm, hrt, hlk⟩ := W
  subst hby
  exact K.st fun u k => X.laload hx (by rw [eT]; exact A.1) (State.isArrayOf_alike hZ.alike A.2.1) A.2.2 hj hv (g := mkF m pc L (.int j :: .ref a :: S)) rfl rfl hd u k
theorem o_aaload (pc' : Nat) (W : Wk p l e R s m args below meth c Z y bytes maxL ret T h ce sl sf) {a : Addr} {cl : Cell} {j : Int32} {v : Value} {ty : FieldType} (A : Arr Z h a cl ty) (hty : ty.isReference = true) (hj : ¬ (j < 0 ∨ cl.slots.size ≤ j.toNatClampNeg)) (hv : cl.slots[j.toNatClampNeg]? = some v) (hd : decode bytes pc = .ok (.aaload, 1)) (K : Go p e below G T (mkF m pc' L (v :: S))) (hp : pc + 1 = pc' := by rfl) : Go p e below G T (mkF m pc L (.int j :: .ref a :: S)) := by
  subst hp
  obtain ⟨vm0, k0, locs, X, eT, hS, hk, hZ, hown, hF, hN, hC, hsf, hE, ⟨a1, hEL⟩, hx, hby, hml, hnm, hrt, hlk⟩ := W
  subst hby
  exact K.st fun u k => X.aaload hx (by rw [eT]; exact A.1) (State.isArrayOf_alike hZ.alike A.2.1) hty A.2.2 hj hv (g := mkF m pc L (.int j :: .ref a :: S)) rfl rfl hd u k
theorem o_alen (pc' : Nat) (W : Wk p l e R s m args below meth c Z y bytes maxL ret T h ce sl sf) {a : Addr} {cl : Cell} {ty : FieldType} (n : Int32) (A : Arr Z h a cl ty) (hn : cl.slots.size.toInt32 = n) (hd : decode bytes pc = .ok (.arraylength, 1)) (K : Go p e below G T (mkF m pc' L (.int n :: S))) (hp : pc + 1 = pc' := by rfl) : Go p e below G T (mkF m pc L (.ref a :: S)) := by
  subst hp hn
  obtain ⟨vm0, k0, locs, X, eT, hS, hk, hZ, hown, hF, hN, hC, hsf, hE, ⟨a1, hEL⟩, hx, hby, hml, hnm, hrt, hlk⟩ := W
  subst hby
  exact K.st fun u k => X.arraylength hx (by rw [eT]; exact A.1) (State.isArrayOf_alike hZ.alike A.2.1) (g := mkF m pc L (.ref a :: S)) rfl rfl hd u k
theorem o_ialoadV (pc' : Nat) (W : Wk p l e R s m args below meth c Z y bytes maxL ret T h ce sl sf) {a : Addr} {k : ClassId} {z j : Int32} {vs : List Value} {dv v : Value} (A : Arv Z h a k .int z vs dv) (hj : ¬ j < 0 ∧ j < z) (hv : vs.getD j.toNatClampNeg dv = v) (hd : decode bytes pc = .ok (.iaload, 1)) (K : Go p e below G T (mkF m pc' L (v :: S))) (hp : pc + 1 = pc' := by rfl) : Go p e below G T (mkF m pc L (.int j :: .ref a :: S)) := by
  obtain ⟨cl, A1, A2, A3, A4, A5, A6⟩ := A
  exact o_iaload pc' W A1 (inb_of A3 hj) (Has.at A5 (inb_of A3 hj) hv) hd K hp
theorem o_caloadV (pc' : Nat) (W : Wk p l e R s m args below meth c Z y bytes maxL ret T h ce sl sf) {a : Addr} {k : ClassId} {z j : Int32} {vs : List Value} {dv v : Value} (A : Arv Z h a k .char z vs dv) (hj : ¬ j < 0 ∧ j < z) (hv : vs.getD j.toNatClampNeg dv = v) (hd : decode bytes pc = .ok (.caload, 1)) (K : Go p e below G T (mkF m pc' L (v :: S))) (hp : pc + 1 = pc' := by rfl) : Go p e below G T (mkF m pc L (.int j :: .ref a :: S)) := by
  obtain ⟨cl, A1, A2, A3, A4, A5, A6⟩ := A
  exact o_caload pc' W A1 (inb_of A3 hj) (Has.at A5 (inb_of A3 hj) hv) hd K hp
theorem o_baloadV (pc' : Nat) (W : Wk p l e R s m args below meth c Z y bytes maxL ret T h ce sl sf) {a : Addr} {k : ClassId} {z j : Int32} {vs : List Value} {dv v : Value} (A : Arv Z h a k .byte z vs dv) (hj : ¬ j < 0 ∧ j < z) (hv : vs.getD j.toNatClampNeg dv = v) (hd : decode bytes pc = .ok (.baload, 1)) (K : Go p e below G T (mkF m pc' L (v :: S))) (hp : pc + 1 = pc' := by rfl) : Go p e below G T (mkF m pc L (.int j :: .ref a :: S)) := by
  obtain ⟨cl, A1, A2, A3, A4, A5, A6⟩ := A
  exact o_baload pc' W A1 (inb_of A3 hj) (Has.at A5 (inb_of A3 hj) hv) hd K hp
theorem o_alenV (pc' : Nat) (W : Wk p l e R s m args below meth c Z y bytes maxL ret T h ce sl sf) {a : Addr} {k : ClassId} {z : Int32} {ty : FieldType} {vs : List Value} {dv : Value} (A : Arv Z h a k ty z vs dv) (hd : decode bytes pc = .ok (.arraylength, 1)) (K : Go p e below G T (mkF m pc' L (.int z :: S))) (hp : pc + 1 = pc' := by rfl) : Go p e below G T (mkF m pc L (.ref a :: S)) := by
  obtain ⟨cl, A1, A2, A3, A4, A5, A6⟩ := A
  exact o_alen pc' W z A1 (len_of A3 A4) hd K hp
theorem o_new (pc' : Nat) (W : Wk p l e R s m args below meth c Z y bytes maxL ret T h ce sl sf) {C : String} {i n : Nat} (w : (Jvm.Cond.classLink y.cls i C).before a0 Z = true) (wi : (Jvm.Cond.instantiable C n).before a0 Z = true) (wz : (Jvm.Cond.initialized C).before a0 Z = true) (hd : decode bytes pc = .ok (.new i, 3))
    (K : ∀ T' h' a, Wk p l e R s m args below meth c Z y bytes maxL ret T' h' (ce + 1) (sl + n) (a :: sf) → Ext h h' → Exa Z h' a C → (∀ {O nm d : String} {ty : FieldType}, Laid Z a0 C O nm d → parseFieldDescriptor d = some ty → Fld Z h' a O nm d (defaultValue ty)) → h.size ≤ a → Z.heap.size ≤ a → Go p e below G T' (mkF m pc' L (.ref a :: S)))
    (hc : ce + 1 ≤ R.cells := by decide) (hs : sl + n ≤ R.slots := by decide) (hp : pc + 3 = pc' := by rfl) : Go p e below G T (mkF m pc L S) := by
  subst hp
  obtain ⟨vm0, k0, locs, X, eT, hS, hk, hZ, hown, hF, hN, hC, hsf, hE, ⟨a1, hEL⟩, hx, hby, hml, hnm, hrt, hlk⟩ := W
  subst hby
  obtain ⟨T', h', X', e', E, A, D, -, st⟩ := newO X hx hZ hown w wi wz eT (g := mkF m pc L S) rfl hd hc hs
  refine (K T' h' h.size ⟨vm0, k0, locs, X', e', hS, Nat.le_trans hk E.1, hZ, hown, hF, hN, hC.trans (CHr.ext E hC.1), fun x q => ?_, own_ext_trans hE E, ⟨a1, hEL⟩, hx, rfl, hml, hnm, hrt, hlk⟩ E A D (Nat.le_refl _) hE.1).st st
  rcases List.mem_cons.mp q with rfl | q
  · exact ⟨A.lt, Safe.ext E hC.1 (Safe.new (Nat.le_refl _))⟩
  · exact ⟨Nat.lt_of_lt_of_le (hsf x q).1 E.1, Safe.ext E hC.1 (hsf x q).2⟩
theorem own_pad {a : Addr} {k : ClassId} {ty : FieldType} {z : Int32} {dv : Value} (n : Nat) (A : Arv Z h a k ty z [] dv) : Arv Z h a k ty z (List.replicate n dv) dv := A.pad fun i => by
  rw [List.getD_eq_getElem?_getD, List.getElem?_replicate]; split <;> simp
theorem o_newarray (pc' : Nat) (cap : Nat) (W : Wk p l e R s m args below meth c Z y bytes maxL ret T h ce sl sf) {aty : ArrayType} {n : Int32} (w : (Jvm.Cond.arrayClass (newarray.typeOf aty)).before a0 Z = true) (hd : decode bytes pc = .ok (.newarray aty, 2)) (hn : ¬ n < 0) (hcap : n.toNatClampNeg ≤ cap)
    (K : ∀ T' h' a k, Wk p l e R s m args below meth c Z y bytes maxL ret T' h' (ce + 1) (sl + cap) (a :: sf) → Ext h h' → Arv Z h' a k (newarray.typeOf aty) n [] (defaultValue (newarray.typeOf aty)) → h.size ≤ a → Z.heap.size ≤ a → Go p e below G T' (mkF m pc' L (.ref a :: S)))
    (hb : cap * 8 ≤ 536870912 := by decide) (hc : ce + 1 ≤ R.cells := by decide) (hs : sl + cap ≤ R.slots := by decide) (hp : pc + 2 = pc' := by rfl) : Go p e below G T (mkF m pc L (.int n :: S)) := by
  subst hp
  obtain ⟨vm0, k0, locs, X, eT, hS, hk, hZ, hown, hF, hN, hC, hsf, hE, ⟨a1, hEL⟩, hx, hby, hml, hnm, hrt, hlk⟩ := W
  subst hby
  obtain ⟨T', h', cA, X', e', E, A, st⟩ := newP X hx hZ w eT (g := mkF m pc L (.int n :: S)) rfl hd rfl hn hcap hb hc hs
  refine (K T' h' h.size cA ⟨vm0, k0, locs, X', e', hS, Nat.le_trans hk E.1, hZ, hown, hF, hN, hC.trans (CHr.ext E hC.1), fun x q => ?_, own_ext_trans hE E, ⟨a1, hEL⟩, hx, rfl, hml, hnm, hrt, hlk⟩ E (Arv.new A hn) (Nat.le_refl _) hE.1).st st
  rcases List.mem_cons.mp q with rfl | q
  · exact ⟨A.lt, Safe.ext E hC.1 (Safe.new (Nat.le_refl _))⟩
  · exact ⟨Nat.lt_of_lt_of_le (hsf x q).1 E.1, Safe.ext E hC.1 (hsf x q).2⟩
theorem o_putF (pc' : Nat) (W : Wk p l e R s m args below meth c Z y bytes maxL ret T h ce sl sf) {i kk : Nat} {R0 O n d C : String} {ty : FieldType} {a : Addr} {v old : Value} (w : (Jvm.Cond.fieldLink y.cls i R0 n d).before a0 Z = true) (F : Fld Z h a O n d old) (E : Exa Z h a C) (Lz : (Jvm.Cond.lays C O n d).before a0 Z = true ∨ ((Jvm.Cond.laysFinal C O n d).before a0 Z = true ∧ y.cls = O ∧ y.name = "<init>")) (wi : (Jvm.Cond.instantiable C kk).before a0 Z = true) (hty : parseFieldDescriptor d = some ty) (hn : narrow ty v = v) (hf : fits ty v = true) (hsafe : a ∈ sf ∨ (C ≠ "java/lang/String" ∧ C ≠ "[B")) (ha : Z.heap.size ≤ a) (hd : decode bytes pc = .ok (.putfield i, 3))
    (K : ∀ T' h', Wk p l e R s m args below meth c Z y bytes maxL ret T' h' ce sl sf → Wr h h' a (Jvm.RoadKit.slotOf Z O n d) v → Go p e below G T' (mkF m pc' L S)) (via : Via Z R0 O n d := by exact Via.refl) (hp : pc + 3 = pc' := by rfl) : Go p e below G T (mkF m pc L (v :: .ref a :: S)) := by
  subst hp
  obtain ⟨vm0, k0, locs, X, eT, hS, hk, hZ, hown, hF, hN, hC, hsf, hE, ⟨a1, hEL⟩, hx, hby, hml, hnm, hrt, hlk⟩ := W
  subst hby
  have hsa : Safe Z own_EL vm0 h a := hsafe.elim (fun q => (hsf a q).2) fun q => Safe.exa hZ.alike E q.1 q.2
  obtain ⟨T', h', X', e', Wr0, st⟩ := putF X hx hZ hown (host := "") (Or.inl w) via eT F E (Lz.imp id fun q => ⟨q.1, q.2.1, hnm.trans q.2.2⟩) wi hty hn hf (g := mkF m pc L (v :: .ref a :: S)) rfl rfl hd
  exact (K T' h' ⟨vm0, k0, _, X', e', hS, Nat.le_trans hk (Nat.le_of_eq Wr0.size.symm), hZ, hown, Fr.snoc X' hF ha, hN, hC.trans (CHr.wr Wr0 hsa hC.1), fun x q => ⟨Nat.lt_of_lt_of_le (hsf x q).1 (Nat.le_of_eq Wr0.size.symm), Safe.wr Wr0 hsa hC.1 (hsf x q).2⟩, own_ext_wr hE Wr0 ha, ⟨a1, hEL⟩, hx, rfl, hml, hnm, hrt, hlk⟩ Wr0).st st
theorem o_initO (pc' : Nat) (W : Wk p l e R s m args below meth c Z y bytes maxL ret T h ce sl sf) {i : Nat} {a : Addr} (w1 : (Jvm.Cond.methodLink y.cls i Lib.objectInit).before a0 Z = true) (w2 : (Jvm.Cond.instanceMethod Lib.objectInit).before a0 Z = true) (w3 : (Jvm.Cond.code Lib.objectInit ⟨#[0xb1]⟩ 1 none).before a0 Z = true) (hd : decode bytes pc = .ok (.invokespecial i, 3)) (K : ∀ T', Wk p l e R s m args below meth c Z y bytes maxL ret T' h ce sl sf → Go p e below G T' (mkF m pc' L S)) (hsz : L.size = maxL := by rfl) (hf : 1 ≤ R.frames := by decide) (hl : (S.map fun v => v.category).sum + 12 ≤ R.locals := by first | decide | exact Nat.le_of_ble_eq_true rfl) (hp : pc + 3 = pc' := by rfl) : Go p e below G T (mkF m pc L (.ref a :: S)) := by
  subst hp
  obtain ⟨vm0, k0, locs, X, eT, hS, hk, hZ, hown, hF, hN, hC, hsf, hE, ⟨a1, hEL⟩, hx, hby, hml, hnm, hrt, hlk⟩ := W
  subst hby
  obtain ⟨T', X', e', st⟩ := initO X hx hZ hown w1 w2 w3 eT (g := mkF m pc L (.ref a :: S)) rfl (by rw [hml]; exact hsz) rfl hd hf (W := (S.map fun v => v.category).sum) (by show 2 * 0 + _ ≤ _; omega) hl
  exact (K T' ⟨vm0, k0, locs, X', e', hS, hk, hZ, hown, hF, hN, hC, hsf, hE, ⟨a1, hEL⟩, hx, rfl, hml, hnm, hrt, hlk⟩).st st
theorem o_castore (pc' : Nat) (i : Nat) (W : Wk p l e R s m args below meth c Z y bytes maxL ret T h ce sl sf) {a : Addr} {k : ClassId} {z j x : Int32} {vs : List Value} {dv : Value} (A : Arv Z h a k .char z vs dv) (hj : ¬ j < 0 ∧ j < z) (hi : j.toNatClampNeg = i) (hlt : i < vs.length)  (ha : Z.heap.size ≤ a) (hd : decode bytes pc = .ok (.castore, 1))
    (K : ∀ T' h', Wk p l e R s m args below meth c Z y bytes maxL ret T' h' ce sl sf → Wr h h' a j.toNatClampNeg (.int (nar .char x)) → Arv Z h' a k .char z (vs.set i (.int (nar .char x))) dv → Go p e below G T' (mkF m pc' L S)) (hp : pc + 1 = pc' := by rfl) : Go p e below G T (mkF m pc L (.int x :: .int j :: .ref a :: S)) := by
  subst hp
  obtain ⟨vm0, k0, locs, X, eT, hS, hk, hZ, hown, hF, hN, hC, hsf, hE, ⟨a1, hEL⟩, hx, hby, hml, hnm, hrt, hlk⟩ := W
  subst hby
  obtain ⟨cl, A1, A2, A3, A4, A5, A6⟩ := A
  have hsa : Safe Z own_EL vm0 h a := Safe.arr hZ.alike A1 (by decide)
  obtain ⟨T', h', X', e', Wr0, st⟩ := stC X hx hZ eT A1 (inb_of A3 hj) (g := mkF m pc L (.int x :: .int j :: .ref a :: S)) rfl rfl hd
  exact (K T' h' ⟨vm0, k0, _, X', e', hS, Nat.le_trans hk (Nat.le_of_eq Wr0.size.symm), hZ, hown, Fr.snoc X' hF ha, hN, hC.trans (CHr.wr Wr0 hsa hC.1), fun x q => ⟨Nat.lt_of_lt_of_le (hsf x q).1 (Nat.le_of_eq Wr0.size.symm), Safe.wr Wr0 hsa hC.1 (hsf x q).2⟩, own_ext_wr hE Wr0 ha, ⟨a1, hEL⟩, hx, rfl, hml, hnm, hrt, hlk⟩ Wr0 (Arv.set A1 A2 A3 A4 A5 A6 (fits_nar_char x) Wr0 i hi hlt)).st st
theorem o_bastore (pc' : Nat) (i : Nat) (W : Wk p l e R s m args below meth c Z y bytes maxL ret T h ce sl sf) {a : Addr} {k : ClassId} {z j x : Int32} {vs : List Value} {dv : Value} (A : Arv Z h a k .byte z vs dv) (hj : ¬ j < 0 ∧ j < z) (hi : j.toNatClampNeg = i) (hlt : i < vs.length) (hsafe : a ∈ sf) (ha : Z.heap.size ≤ a) (hd : decode bytes pc = .ok (.bastore, 1))
    (K : ∀ T' h', Wk p l e R s m args below meth c Z y bytes maxL ret T' h' ce sl sf → Wr h h' a j.toNatClampNeg (.int (nar .byte x)) → Arv Z h' a k .byte z (vs.set i (.int (nar .byte x))) dv → Go p e below G T' (mkF m pc' L S)) (hp : pc + 1 = pc' := by rfl) : Go p e below G T (mkF m pc L (.int x :: .int j :: .ref a :: S)) := by
  subst hp
  obtain ⟨vm0, k0, locs, X, eT, hS, hk, hZ, hown, hF, hN, hC, hsf, hE, ⟨a1, hEL⟩, hx, hby, hml, hnm, hrt, hlk⟩ := W
  subst hby
  obtain ⟨cl, A1, A2, A3, A4, A5, A6⟩ := A
  have hsa : Safe Z own_EL vm0 h a := (hsf a hsafe).2
  obtain ⟨T', h', X', e', Wr0, st⟩ := stB X hx hZ eT A1 (inb_of A3 hj) (g := mkF m pc L (.int x :: .int j :: .ref a :: S)) rfl rfl hd
  exact (K T' h' ⟨vm0, k0, _, X', e', hS, Nat.le_trans hk (Nat.le_of_eq Wr0.size.symm), hZ, hown, Fr.snoc X' hF ha, hN, hC.trans (CHr.wr Wr0 hsa hC.1), fun x q => ⟨Nat.lt_of_lt_of_le (hsf x q).1 (Nat.le_of_eq Wr0.size.symm), Safe.wr Wr0 hsa hC.1 (hsf x q).2⟩, own_ext_wr hE Wr0 ha, ⟨a1, hEL⟩, hx, rfl, hml, hnm, hrt, hlk⟩ Wr0 (Arv.set A1 A2 A3 A4 A5 A6 (fits_nar_byte x) Wr0 i hi hlt)).st st
theorem o_iastore (pc' : Nat) (i : Nat) (W : Wk p l e R s m args below meth c Z y bytes maxL ret T h ce sl sf) {a : Addr} {k : ClassId} {z j x : Int32} {vs : List Value} {dv : Value} (A : Arv Z h a k .int z vs dv) (hj : ¬ j < 0 ∧ j < z) (hi : j.toNatClampNeg = i) (hlt : i < vs.length)  (ha : Z.heap.size ≤ a) (hd : decode bytes pc = .ok (.iastore, 1))
    (K : ∀ T' h', Wk p l e R s m args below meth c Z y bytes maxL ret T' h' ce sl sf → Wr h h' a j.toNatClampNeg (.int x) → Arv Z h' a k .int z (vs.set i (.int x)) dv → Go p e below G T' (mkF m pc' L S)) (hp : pc + 1 = pc' := by rfl) : Go p e below G T (mkF m pc L (.int x :: .int j :: .ref a :: S)) := by
  subst hp
  obtain ⟨vm0, k0, locs, X, eT, hS, hk, hZ, hown, hF, hN, hC, hsf, hE, ⟨a1, hEL⟩, hx, hby, hml, hnm, hrt, hlk⟩ := W
  subst hby
  obtain ⟨cl, A1, A2, A3, A4, A5, A6⟩ := A
  have hsa : Safe Z own_EL vm0 h a := Safe.arr hZ.alike A1 (by decide)
  obtain ⟨T', h', X', e', Wr0, st⟩ := stI X hx hZ eT A1 (inb_of A3 hj) (g := mkF m pc L (.int x :: .int j :: .ref a :: S)) rfl rfl hd
  exact (K T' h' ⟨vm0, k0, _, X', e', hS, Nat.le_trans hk (Nat.le_of_eq Wr0.size.symm), hZ, hown, Fr.snoc X' hF ha, hN, hC.trans (CHr.wr Wr0 hsa hC.1), fun x q => ⟨Nat.lt_of_lt_of_le (hsf x q).1 (Nat.le_of_eq Wr0.size.symm), Safe.wr Wr0 hsa hC.1 (hsf x q).2⟩, own_ext_wr hE Wr0 ha, ⟨a1, hEL⟩, hx, rfl, hml, hnm, hrt, hlk⟩ Wr0 (Arv.set A1 A2 A3 A4 A5 A6 (rfl) Wr0 i hi hlt)).st st
theorem o_arraycopy (pc' : Nat) (W : Wk p l e R s m args below meth c Z y bytes maxL ret T h ce sl sf) {i : Nat} {a b : Addr} {k k' : ClassId} {z z' sp dp nn : Int32} {vs vd us : List Value} {dv dd : Value} {ty : FieldType} (w1 : (Jvm.Cond.methodLink y.cls i Jvm.Stand.acN).before a0 Z = true) (w2 : (Jvm.Cond.native Jvm.Stand.acN).before a0 Z = true) (w3 : (Jvm.Cond.static Jvm.Stand.acN).before a0 Z = true) (w4 : (Jvm.Cond.initialized "java/lang/System").before a0 Z = true) (A : Arv Z h a k ty z vs dv) (B : Arv Z h b k' ty z' vd dd) (hty : refKind ty = false)
    (h1 : ¬ sp < 0) (h2 : ¬ dp < 0) (h3 : ¬ nn < 0) (h4 : sp.toNatClampNeg + nn.toNatClampNeg ≤ z.toNatClampNeg) (h5 : dp.toNatClampNeg + nn.toNatClampNeg ≤ z'.toNatClampNeg) (hus : us = (List.range nn.toNatClampNeg).map fun i => vs.getD (sp.toNatClampNeg + i) dv) (hlv : dp.toNatClampNeg + nn.toNatClampNeg ≤ vd.length) (hsafe : b ∈ sf) (hb : Z.heap.size ≤ b) (hd : decode bytes pc = .ok (.invokestatic i, 3))
    (K : ∀ T' h', Wk p l e R s m args below meth c Z y bytes maxL ret T' h' ce sl sf → Keep h h' [b] → Arv Z h' b k' ty z' (vd.take dp.toNatClampNeg ++ us ++ vd.drop (dp.toNatClampNeg + nn.toNatClampNeg)) dd → Go p e below G T' (mkF m pc' L S)) (hsz : L.size = maxL := by rfl) (hf : 1 ≤ R.frames := by decide) (hl : (S.map fun v => v.category).sum + (nativeFrameWords "java/lang/System" "arraycopy" 5 + 11) ≤ R.locals := by first | decide | exact Nat.le_of_ble_eq_true rfl) (hp : pc + 3 = pc' := by rfl) : Go p e below G T (mkF m pc L (.int nn :: .int dp :: .ref b :: .int sp :: .ref a :: S)) := by
  subst hp
  obtain ⟨vm0, k0, locs, X, eT, hS, hk, hZ, hown, hF, hN, hC, hsf, hE, ⟨a1, hEL⟩, hx, hby, hml, hnm, hrt, hlk⟩ := W
  subst hby
  obtain ⟨T', h', L', X', e', N', Kp, A', st⟩ := cpA X hx hZ hown w1 w2 w3 w4 eT A B (Or.inl ⟨rfl, hty⟩) h1 h2 h3 h4 h5 hus hlv hF hb (g := mkF m pc L (.int nn :: .int dp :: .ref b :: .int sp :: .ref a :: S)) rfl (by rw [hml]; exact hsz) rfl hd hf (W := (S.map fun v => v.category).sum) (by show 2 * 0 + _ ≤ _; omega) hl
  have hs1 : ∀ x ∈ [b], Safe Z own_EL vm0 h x := fun x q => by rw [List.mem_singleton.mp q]; exact (hsf b hsafe).2
  have hE' : Ext Z.heap h' := ⟨Nat.le_trans hE.1 Kp.1, fun x cc r => Kp.2.1 x cc (hE.2 x cc r) fun q => by
    have hlt := (Array.getElem?_eq_some_iff.mp r).1
    rw [List.mem_singleton.mp q] at hlt; omega⟩
  exact (K T' h' ⟨vm0, k0, L', X', e', hS, Nat.le_trans hk Kp.1, hZ, hown, N', hN, hC.trans (CHr.keep Kp hs1 hC.1), fun x q => ⟨Nat.lt_of_lt_of_le (hsf x q).1 Kp.1, Safe.keep Kp hs1 hC.1 (hsf x q).2⟩, hE', ⟨a1, hEL⟩, hx, rfl, hml, hnm, hrt, hlk⟩ Kp A').st st
theorem o_clone (pc' : Nat) (cap : Nat) (W : Wk p l e R s m args below meth c Z y bytes maxL ret T h ce sl sf) {i : Nat} {ad : String} {a : Addr} {k : ClassId} {ty : FieldType} {z : Int32} {vs : List Value} {dv : Value} (w1 : (Jvm.Cond.methodLink y.cls i ⟨ad, "clone", "()Ljava/lang/Object;"⟩).before a0 Z = true) (w2 : (Jvm.Cond.sameMethod ad "java/lang/Object" "clone" "()Ljava/lang/Object;").before a0 Z = true) (w3 : (Jvm.Cond.native ⟨"java/lang/Object", "clone", "()Ljava/lang/Object;"⟩).before a0 Z = true) (w4 : (Jvm.Cond.instanceMethod ⟨"java/lang/Object", "clone", "()Ljava/lang/Object;"⟩).before a0 Z = true) (w5 : (Jvm.Cond.selects ad ⟨ad, "clone", "()Ljava/lang/Object;"⟩ ⟨"java/lang/Object", "clone", "()Ljava/lang/Object;"⟩).before a0 Z = true) (w6 : (Jvm.Cond.castable ad "java/lang/Cloneable").before a0 Z = true) (F : Arv Z h a k ty z vs dv) (E : Exa Z h a ad) (hd : decode bytes pc = .ok (.invokevirtual i, 3)) (hcap : z.toNatClampNeg ≤ cap)
    (K : ∀ T' h' b, Wk p l e R s m args below meth c Z y bytes maxL ret T' h' (ce + 1) (sl + cap) (b :: sf) → Ext h h' → Arv Z h' b k ty z vs dv → Exa Z h' b ad → h.size ≤ b → Z.heap.size ≤ b → Go p e below G T' (mkF m pc' L (.ref b :: S))) (hsz : L.size = maxL := by rfl) (hf : 1 ≤ R.frames := by decide) (hl : (S.map fun v => v.category).sum + 14 ≤ R.locals := by first | decide | exact Nat.le_of_ble_eq_true rfl) (hc : ce + 1 ≤ R.cells := by decide) (hs : sl + cap ≤ R.slots := by decide) (hp : pc + 3 = pc' := by rfl) : Go p e below G T (mkF m pc L (.ref a :: S)) := by
  subst hp
  obtain ⟨vm0, k0, locs, X, eT, hS, hk, hZ, hown, hF, hN, hC, hsf, hE, ⟨a1, hEL⟩, hx, hby, hml, hnm, hrt, hlk⟩ := W
  subst hby
  obtain ⟨T', h', X', e', Ee, A, Ex, st⟩ := cloneH X hx hZ hown w1 w2 w3 w4 w5 w6 eT (hs := []) F E (g := mkF m pc L (.ref a :: S)) rfl (by rw [hml]; exact hsz) rfl hd hf (W := (S.map fun v => v.category).sum) (by show 2 * 0 + _ ≤ _; omega) hl hcap hc hs
  refine (K T' h' h.size ⟨vm0, k0, locs, X', e', hS, Nat.le_trans hk Ee.1, hZ, hown, hF, hN, hC.trans (CHr.ext Ee hC.1), fun x q => ?_, own_ext_trans hE Ee, ⟨a1, hEL⟩, hx, rfl, hml, hnm, hrt, hlk⟩ Ee A Ex (Nat.le_refl _) hE.1).st st
  rcases List.mem_cons.mp q with rfl | q
  · exact ⟨Ex.lt, Safe.ext Ee hC.1 (Safe.new (Nat.le_refl _))⟩
  · exact ⟨Nat.lt_of_lt_of_le (hsf x q).1 Ee.1, Safe.ext Ee hC.1 (hsf x q).2⟩
theorem own_ew {a1 a2 : Array Value} (E : EW Z a1 own_EL) : EW Z a2 own_EL := fun q hq => by
  obtain ⟨t, h1, h2⟩ := E q hq
  exact ⟨t, mvS (s := Z) (vm0 := Z.vm) (State.Warmed39.refl Z) h1, h2⟩
theorem o_ldcS (pc' : Nat) (n : Nat) (W : Wk p l e R s m args below meth c Z y bytes maxL ret T h ce sl sf) {i : Nat} {text : String} (hnar : ¬ own_Nar) (w : (Jvm.Cond.stringLink y.cls i text).before a0 Z = true) (wS : ∀ a ∈ Bundle.stringAtoms, a.before a0 Z = true) (hd : decode bytes pc = .ok (.ldc i, 2)) (hn : 4 * text.toList.length ≤ n)
    (K : ∀ T' h' a, Wk p l e R s m args below meth c Z y bytes maxL ret T' h' (ce + 2) (sl + (n + 4)) sf → Ext h h' → Go p e below G T' (mkF m pc' L (.ref a :: S))) (hbig : n ≤ 536870912 := by decide) (hc : ce + 2 ≤ R.cells := by decide) (hs : sl + (n + 4) ≤ R.slots := by decide) (hp : pc + 2 = pc' := by rfl) : Go p e below G T (mkF m pc L S) := by
  subst hp
  obtain ⟨vm0, k0, locs, X, eT, hS, hk, hZ, hown, hF, hN, hC, hsf, hE, ⟨a1, hEL⟩, hx, hby, hml, hnm, hrt, hlk⟩ := W
  subst hby
  obtain ⟨a, T', h', k1, X', e', E, hS', hk', hZ', hown', hC', -, st⟩ := ldcOH X hx hZ hown w wS eT hS hk (own_ew hEL) hC.1 (g := mkF m pc L S) rfl hd hn hbig hc hs
  exact (K T' h' a ⟨T'.vm, k1, locs, X', e', hS', hk', hZ', hown', hF, fun q => absurd q hnar, hC.trans hC', fun x q => ⟨Nat.lt_of_lt_of_le (hsf x q).1 E.1, hC'.safe (hsf x q).1 (hsf x q).2⟩, own_ext_trans hE E, ⟨a1, hEL⟩, hx, rfl, hml, hnm, hrt, hlk⟩ E).st st
theorem o_ldcC (pc' : Nat) (n : Nat) (W : Wk p l e R s m args below meth c Z y bytes maxL ret T h ce sl sf) {i : Nat} {text : String} {vs : List Value} {z : Int32} (hnar : ¬ own_Nar) (w : (Jvm.Cond.stringLink y.cls i text).before a0 Z = true) (wS : ∀ a ∈ Bundle.stringAtoms, a.before a0 Z = true) (hmem : (y.cls, i) ∈ own_EL) (ht : (∀ c ∈ text.toList, c.toNat < 256) ∧ text.toList.map (fun c => Value.int (Jvm.Lit.byteI c.toNat.toUInt16)) = vs) (hz : ¬ z < 0) (hzl : z.toNatClampNeg = vs.length) (hd : decode bytes pc = .ok (.ldc i, 2)) (hn : 4 * text.toList.length ≤ n)
    (K : ∀ T' h' a b k, Wk p l e R s m args below meth c Z y bytes maxL ret T' h' (ce + 2) (sl + (n + 4)) sf → Ext h h' → Exa Z h' a "java/lang/String" → Fld Z h' a "java/lang/String" "coder" "B" (.int 0) → Fld Z h' a "java/lang/String" "value" "[B" (.ref b) → Arv Z h' b k .byte z vs (.int 0) → (∀ x ∈ sf, x ≠ a ∧ x ≠ b) → Go p e below G T' (mkF m pc' L (.ref a :: S))) (hbig : n ≤ 536870912 := by decide) (hc : ce + 2 ≤ R.cells := by decide) (hs : sl + (n + 4) ≤ R.slots := by decide) (hp : pc + 2 = pc' := by rfl) : Go p e below G T (mkF m pc L S) := by
  subst hp
  obtain ⟨vm0, k0, locs, X, eT, hS, hk, hZ, hown, hF, hN, hC, hsf, hE, ⟨a1, hEL⟩, hx, hby, hml, hnm, hrt, hlk⟩ := W
  subst hby
  obtain ⟨a, T', h', k1, b, k, X', e', E, hS', hk', hZ', hown', q1, q2, q3, q4, q5, q6, hC', -, hsaf, st⟩ := ldcCH X hx hZ hown w wS eT hS hk (own_ew hEL) hmem hC.1 ht hz hzl (g := mkF m pc L S) rfl hd hn hbig hc hs
  exact (K T' h' a b k ⟨T'.vm, k1, locs, X', e', hS', hk', hZ', hown', hF, fun q => absurd q hnar, hC.trans hC', fun x q => ⟨Nat.lt_of_lt_of_le (hsf x q).1 E.1, hC'.safe (hsf x q).1 (hsf x q).2⟩, own_ext_trans hE E, ⟨a1, hEL⟩, hx, rfl, hml, hnm, hrt, hlk⟩ E q1 q2 q3 q4 fun x q => hsaf x (hC'.safe (hsf x q).1 (hsf x q).2)).st st
/-- what a body's end leaves -/
def Gd (s : State) (below : List Frame) (Z : State) (Q : Option Value → Heap → Prop) (kc ks : Nat) (u : State) : Prop := u.status = .running ∧ ∃ (v : Option Value) (Lc : List Loc), Ended u below (.returned v) ∧ Q v u.heap ∧ Fr Z.heap.size Lc ∧ CHr Z own_EL s.vm s.heap u.vm u.heap ∧ Ext Z.heap u.heap ∧ (own_Nar → s.WarmedH u.vm) ∧ ReturnedEndW s (.returned v) u Lc kc ks
/-- a body's contract: from the heap h0, with the arguments as', it returns and leaves Q -/
def Con (l : Launch) (Z : State) (y : MethodName) (bytes : ByteArray) (maxL : Nat) (ret : Option FieldType) (rm : Room) (as' : Array Value) (h0 : Heap) (sf0 : List Addr) (Q : Option Value → Heap → Prop) : Prop :=
  ∀ ws : List Jvm.Cond, MetFree l y (head1 (Jvm.Cond.code y bytes maxL ret :: ws) rm) (fun a U => a = as' ∧ Z.Warmed39 U.vm ∧ U.heap = h0 ∧ CHv Z own_EL U.vm h0 ∧ ∀ x ∈ sf0, Safe Z own_EL U.vm h0 x) (fun _ _ _ _ _ => True)
    (fun _ U o U' => ∃ v Lc, o = .returned v ∧ Q v U'.heap ∧ Fr Z.heap.size Lc ∧ CHr Z own_EL U.vm U.heap U'.vm U'.heap ∧ Ext Z.heap U'.heap ∧ (own_Nar → U.WarmedH U'.vm) ∧ ReturnedEndW U o U' Lc rm.cells rm.slots)
/-- a value is returned -/
abbrev QV (Q : Value → Heap → Prop) (v : Option Value) (h : Heap) : Prop := ∃ w, v = some w ∧ Q w h
/-- nothing is returned -/
abbrev Q0 (Q : Heap → Prop) (v : Option Value) (h : Heap) : Prop := v = none ∧ Q h
theorem Con.of {rm : Room} {as' : Array Value} {h0 : Heap} {sf0 : List Addr} {Q : Option Value → Heap → Prop} {L0 : Array Slot} (hp : plainFor y = true) (hE : Ext Z.heap h0) (hEL : ∃ a1, EW Z a1 own_EL) (hsf : ∀ x ∈ sf0, x < h0.size)
    (hent : ∀ m : MethodId, entryFrame m as' maxL = mkF m 0 L0 [])
    (body : ∀ (p : Program) (e : Env) (s : State) (m : MethodId) (args : Array Value) (below : List Frame) (meth : Method) (c : Code) (T : State), Wk p l e rm s m args below meth c Z y bytes maxL ret T h0 0 0 sf0 → Go p e below (Gd s below Z Q rm.cells rm.slots) T (mkF m 0 L0 [])) :
    Con l Z y bytes maxL ret rm as' h0 sf0 Q := by
  intro ws
  refine MetFree.of_bodySF hp hisR ?_
  intro p e s m args below meth c s₁ Bd hml hP hK
  obtain ⟨rfl, hZ, hh, hCH, hsaf⟩ := hP
  have X0 : Stand p l e rm (s.setVm s.vm) m args below meth c s₁ [] 0 0 := Stand.of_body Bd
  have e0 : s₁.heap = h0 := by rw [← hh, Bd.state]; rfl
  have hlk : meth.locks = false := by first | exact Bd.notSynchronized | exact BodyLoose.notSynchronized Bd
  have W : Wk p l e rm s m args below meth c Z y bytes maxL ret s₁ h0 0 0 sf0 :=
    ⟨s.vm, 0, [], X0, e0, (State.WarmedH.refl s).since 0, Nat.zero_le _, hZ, findClass_of_methodNamed Bd.named, Fr.nil _, fun _ => State.WarmedH.refl s, by rw [hh]; exact CHr.refl hCH, fun x hx => ⟨hsf x hx, hsaf x hx⟩, hE, hEL, Bd.exec, Bd.bytes, hml, (name_of_methodNamed Bd.named Bd.method).1, Bd.returns, hlk⟩
  obtain ⟨u, k, g1, v, Lc, g2, g3, g4, g5, g6, g7, g8⟩ := body p e s m args below meth c s₁ W
  exact ⟨u, _, castTop (hent m) k, g1, g2, v, Lc, rfl, g3, g4, g5, g6, g7, g8⟩
theorem o_end {Q : Option Value → Heap → Prop} {kc ks : Nat} (W : Wk p l e R s m args below meth c Z y bytes maxL ret T h ce sl sf) {v : Option Value} {g : JFrame} (hv : meth.sig.returnType = none → v = none) (hq : Q v h) (hc : ce ≤ kc) (hs : sl ≤ ks)
    (K : ∀ fs : List Frame, (∀ (f : JFrame) (acts : List Action), f.method = m → f.locked = none → f.entered = [] → (doReturn e (T.setTop f) acts v).1 = T.setFrames fs) → Steps p.tables e below (T.setTop g) (T.setFrames fs)) : Go p e below (Gd s below Z Q kc ks) T g := by
  obtain ⟨vm0, k0, locs, X, eT, hS, hk, hZ, hown, hF, hN, hC, hsf, hE, ⟨a1, hEL⟩, hx, hby, hml, hnm, hrt, hlk⟩ := W
  subst eT
  obtain ⟨fs, hr, hrun, hended, hW⟩ := (X.mono hc hs).leaveW hS hk (v := v) hv hlk
  have hC2 := hC.trans (CHv.at X hZ hEL hC.1)
  refine ⟨T.setFrames fs, K fs hr, hrun, v, locs, hended, hq, hF, hC2, hE, fun q => ?_, hW⟩
  exact State.WarmedH.trans (t := s.setVm vm0) (hN q) X.warmed
theorem o_iret {Q : Value → Heap → Prop} {kc ks : Nat} (W : Wk p l e R s m args below meth c Z y bytes maxL (some .int) T h ce sl sf) {x : Int32} (hd : decode bytes pc = .ok (.ireturn, 1)) (hq : Q (.int x) h) (hc : ce ≤ kc := by decide) (hs : sl ≤ ks := by decide) : Go p e below (Gd s below Z (QV Q) kc ks) T (mkF m pc L (.int x :: S)) := by
  have W2 := W
  obtain ⟨vm0, k0, locs, X, eT, hS, hk, hZ, hown, hF, hN, hC, hsf, hE, ⟨a1, hEL⟩, hx, hby, hml, hnm, hrt, hlk⟩ := W2
  subst hby
  exact o_end W (v := some (.int x)) (fun q => by rw [hrt] at q; cases q) ⟨_, rfl, hq⟩ hc hs fun fs hr => retOut X hx hrt rfl (Or.inl ⟨rfl, Or.inl rfl, x, rfl⟩) hd hr
theorem o_nret {Q : Value → Heap → Prop} {kc ks : Nat} {t : FieldType} (W : Wk p l e R s m args below meth c Z y bytes maxL (some t) T h ce sl sf) {x : Int32} (x' : Int32) (ht : t = .boolean ∨ t = .byte ∨ t = .char ∨ t = .short) (hn : nar t x = x') (hd : decode bytes pc = .ok (.ireturn, 1)) (hq : Q (.int x') h) (hc : ce ≤ kc := by decide) (hs : sl ≤ ks := by decide) : Go p e below (Gd s below Z (QV Q) kc ks) T (mkF m pc L (.int x :: S)) := by
  have W2 := W
  obtain ⟨vm0, k0, locs, X, eT, hS, hk, hZ, hown, hF, hN, hC, hsf, hE, ⟨a1, hEL⟩, hx, hby, hml, hnm, hrt, hlk⟩ := W2
  subst hby hn
  exact o_end W (v := some (.int (nar t x))) (fun q => by rw [hrt] at q; cases q) ⟨_, rfl, hq⟩ hc hs fun fs hr => retN X hx hrt ht hd hr
theorem o_aret {Q : Value → Heap → Prop} {kc ks : Nat} {t : FieldType} (W : Wk p l e R s m args below meth c Z y bytes maxL (some t) T h ce sl sf) {x : Value} (ht : t.isReference = true) (hv : x.isRef = true) (hn : narrow t x = x) (hd : decode bytes pc = .ok (.areturn, 1)) (hq : Q x h) (hc : ce ≤ kc := by decide) (hs : sl ≤ ks := by decide) : Go p e below (Gd s below Z (QV Q) kc ks) T (mkF m pc L (x :: S)) := by
  have W2 := W
  obtain ⟨vm0, k0, locs, X, eT, hS, hk, hZ, hown, hF, hN, hC, hsf, hE, ⟨a1, hEL⟩, hx, hby, hml, hnm, hrt, hlk⟩ := W2
  subst hby
  exact o_end W (v := some x) (fun q => by rw [hrt] at q; cases q) ⟨_, rfl, hq⟩ hc hs fun fs hr => retOut X hx hrt hn (Or.inr (Or.inr (Or.inr (Or.inr ⟨rfl, ht, hv⟩)))) hd hr
theorem o_ret {Q : Heap → Prop} {kc ks : Nat} (W : Wk p l e R s m args below meth c Z y bytes maxL none T h ce sl sf) (hd : decode bytes pc = .ok (.return_, 1)) (hq : Q h) (hc : ce ≤ kc := by decide) (hs : sl ≤ ks := by decide) : Go p e below (Gd s below Z (Q0 Q) kc ks) T (mkF m pc L []) := by
  have W2 := W
  obtain ⟨vm0, k0, locs, X, eT, hS, hk, hZ, hown, hF, hN, hC, hsf, hE, ⟨a1, hEL⟩, hx, hby, hml, hnm, hrt, hlk⟩ := W2
  subst hby
  exact o_end W (v := none) (fun _ => rfl) ⟨rfl, hq⟩ hc hs fun fs hr => X.returnOut hx hrt hd hr
theorem own_back {vm0 : Vm} {y' : MethodName} {bytes' : ByteArray} {maxL' : Nat} {ret' : Option FieldType} {rm : Room} {as' : Array Value} {sf' : List Addr} {Q : Option Value → Heap → Prop} {len Wd : Nat} {a1 : Array Value} (C : Con l Z y' bytes' maxL' ret' rm as' h sf' Q) (hZ : Z.Warmed39 (s.setVm vm0).vm) (wc : (Jvm.Cond.code y' bytes' maxL' ret').before a0 Z = true) (wz : (Jvm.Cond.initialized y'.cls).before a0 Z = true)
    (hf : rm.frames + 1 ≤ R.frames) (hl : Wd + (maxL' + 11) + rm.locals ≤ R.locals) (hEL : EW Z a1 own_EL) (H : CHv Z own_EL vm0 h) (hsf : ∀ x ∈ sf', x < h.size ∧ Safe Z own_EL vm0 h x) :
    BackS l R p e below (s.setVm vm0) args y' len Wd (fun A a => a = as' ∧ A.U.heap = h ∧ A.cells + rm.cells ≤ R.cells ∧ A.slots + rm.slots ≤ R.slots)
      (fun A _ v B => ∃ Lc, Q v B.U.heap ∧ Fr Z.heap.size Lc ∧ B.locs = A.locs ++ Lc ∧ B.cells = A.cells + rm.cells ∧ B.slots = A.slots + rm.slots ∧ CHr Z own_EL vm0 h B.U.vm B.U.heap ∧ Ext Z.heap B.U.heap ∧ (own_Nar → A.U.WarmedH B.U.vm)) :=
  BackS.of_freeW (bytes := bytes') (maxL := maxL') (ret := ret') (E := fun _ first o t Lc k n => k = rm.cells ∧ n = rm.slots ∧ (∃ v, o = .returned v ∧ Q v t.heap) ∧ Fr Z.heap.size Lc ∧ CHr Z own_EL first.vm first.heap t.vm t.heap ∧ Ext Z.heap t.heap ∧ (own_Nar → first.WarmedH t.vm)) (C []) hf hl
    (fun m meth c A a Y hp => have hU : Z.Warmed39 A.U.vm := wtrans (s := s.setVm vm0) hZ Y.warmed
      ⟨by show (Jvm.Cond.and _ .tt).before a A.U = true; rw [Cond.before_and, mv hU wc]; rfl, mv hU wc, mv hU wz, hp.2.2.1, hp.2.2.2⟩)
    (fun m meth c A a g mk Y hp => ⟨hp.1, wtrans (s := s.setVm vm0) hZ Y.warmed, hp.2.1, (CHv.at Y hZ hEL H).1, fun x hx => (CHv.at Y hZ hEL H).safe (hsf x hx).1 (hsf x hx).2⟩) (fun _ _ _ _ _ _ _ _ _ => trivial)
    (fun _ _ _ _ ⟨v, Lc, h1, h2, h3, h4, h5, h6, h7⟩ => ⟨Lc, _, _, h7, rfl, rfl, ⟨v, h1, h2⟩, h3, h4, h5, h6⟩)
    (fun m meth c A a g mk v t Lc k n Y hp _ _ ⟨e1, e2, ⟨v', e3, e4⟩, e5, e6, e7, e8⟩ => by
      cases e3; subst e1 e2
      refine ⟨Lc, e4, e5, rfl, rfl, rfl, (CHv.at Y hZ hEL H).trans ?_, e7, fun q => ?_⟩
      · rw [← hp.2.1]; exact e6
      · exact e8 q)
theorem o_static (pc' : Nat) (A : List Value) (W : Wk p l e R s m args below meth c Z y bytes maxL ret T h ce sl sf) {y' : MethodName} {bytes' : ByteArray} {maxL' : Nat} {ret' : Option FieldType} {rm : Room} {sf' : List Addr} {Q : Option Value → Heap → Prop} {stk : List Value} {i : Nat} (w1 : (Jvm.Cond.methodLink y.cls i y').before a0 Z = true) (w2 : (Jvm.Cond.static y').before a0 Z = true) (wz : (Jvm.Cond.initialized y'.cls).before a0 Z = true) (wc : (Jvm.Cond.code y' bytes' maxL' ret').before a0 Z = true) (C : Con l Z y' bytes' maxL' ret' rm A.toArray h sf' Q) {ps : List FieldType} {rt : Option FieldType} (hpd : parseMethodDescriptor y'.desc = some ⟨ps, rt⟩) (hd : decode bytes pc = .ok (.invokestatic i, 3)) (hst : stk = A.reverse ++ S) (hsub : ∀ x ∈ sf', x ∈ sf) (K : ∀ T' h' v, Wk p l e R s m args below meth c Z y bytes maxL ret T' h' (ce + rm.cells) (sl + rm.slots) sf → Q v h' → h.size ≤ h'.size → Go p e below G T' (mkF m pc' L (v.toList ++ S))) (hsz : L.size = maxL := by rfl) (hln : A.length = ps.length := by rfl) (hy : y'.cls ≠ "java/lang/invoke/MethodHandle" ∧ y'.cls ≠ "java/lang/invoke/VarHandle" := by decide) (hf : rm.frames + 1 ≤ R.frames := by decide) (hl : (S.map fun v => v.category).sum + (maxL' + 11) + rm.locals ≤ R.locals := by first | decide | exact Nat.le_of_ble_eq_true rfl) (hc : ce + rm.cells ≤ R.cells := by decide) (hs : sl + rm.slots ≤ R.slots := by decide) (hp : pc + 3 = pc' := by rfl) : Go p e below G T (mkF m pc L stk) := by
  subst hp
  obtain ⟨vm0, k0, locs, X, eT, hS, hk, hZ, hown, hF, hN, hC, hsf, hE, ⟨a1, hEL⟩, hx, hby, hml, hnm, hrt, hlk⟩ := W
  subst hby
  obtain ⟨v, vm₁, ⟨T', locs', ce', sl'⟩, hW1, X', hS', hge, ⟨Lc, hQ, hFr, e1, e2, e3, hC', hE', hN'⟩, st⟩ := callSS X hx (y := y') hown (mvT hZ w1) (mvT hZ w2) (mvT hZ wz) (mvT hZ wc) hy (own_back (Wd := (S.map fun v => v.category).sum) C hZ wc wz hf hl hEL hC.1 fun x hx => hsf x (hsub x hx)) (g := mkF m pc L stk) rfl (by rw [hml]; exact hsz) (argsL := A) (rest := S) (lenOf hpd hln) hst (by show 2 * 0 + _ ≤ _; omega) hd (fun _ _ => ⟨rfl, eT, hc, hs⟩)
  dsimp only [Pt.U, Pt.locs, Pt.cells, Pt.slots] at X' hS' hge hQ e1 e2 e3 hC' hE' hN' st
  subst e1 e2 e3 eT
  refine (K T' T'.heap v ⟨T'.vm, T'.heap.size, locs ++ Lc, X', rfl, hS.trans hS' (Nat.le_trans hk hge), Nat.le_refl _, State.Warmed39.trans (t := s.setVm vm0) hZ hS'.1, by rw [show (s.setVm T'.vm).vm = T'.vm from rfl, hS'.1.alike.findClass]; exact hown, hF.app hFr, fun q => ?_, hC.trans hC', fun x hx => ⟨Nat.lt_of_lt_of_le (hsf x hx).1 hge, hC'.safe (hsf x hx).1 (hsf x hx).2⟩, hE', ⟨a1, hEL⟩, hx, rfl, hml, hnm, hrt, hlk⟩ hQ hge).st fun u k => st.trans k
  exact State.WarmedH.trans (t := s.setVm vm0) (hN q) (State.WarmedH.trans (s := s.setVm vm0) (t := T.setVm vm₁) hW1 (hN' q))
theorem o_special (pc' : Nat) (A : List Value) (W : Wk p l e R s m args below meth c Z y bytes maxL ret T h ce sl sf) {y' : MethodName} {bytes' : ByteArray} {maxL' : Nat} {rm : Room} {sf' : List Addr} {Q : Option Value → Heap → Prop} {stk : List Value} {i : Nat} {a : Addr} (w1 : (Jvm.Cond.methodLink y.cls i y').before a0 Z = true) (w2 : (Jvm.Cond.instanceMethod y').before a0 Z = true) (wz : (Jvm.Cond.initialized y'.cls).before a0 Z = true) (wc : (Jvm.Cond.code y' bytes' maxL' none).before a0 Z = true) (C : Con l Z y' bytes' maxL' none rm (.ref a :: A).toArray h sf' Q) {ps : List FieldType} {rt : Option FieldType} (hpd : parseMethodDescriptor y'.desc = some ⟨ps, rt⟩) (hd : decode bytes pc = .ok (.invokespecial i, 3)) (hst : stk = A.reverse ++ .ref a :: S) (hsub : ∀ x ∈ sf', x ∈ sf) (K : ∀ T' h' v, Wk p l e R s m args below meth c Z y bytes maxL ret T' h' (ce + rm.cells) (sl + rm.slots) sf → Q v h' → h.size ≤ h'.size → Go p e below G T' (mkF m pc' L (v.toList ++ S))) (hin : y'.name = "<init>" := by rfl) (hsz : L.size = maxL := by rfl) (hln : A.length = ps.length := by rfl) (hy : y'.cls ≠ "java/lang/invoke/MethodHandle" ∧ y'.cls ≠ "java/lang/invoke/VarHandle" := by decide) (hf : rm.frames + 1 ≤ R.frames := by decide) (hl : (S.map fun v => v.category).sum + (maxL' + 11) + rm.locals ≤ R.locals := by first | decide | exact Nat.le_of_ble_eq_true rfl) (hc : ce + rm.cells ≤ R.cells := by decide) (hs : sl + rm.slots ≤ R.slots := by decide) (hp : pc + 3 = pc' := by rfl) : Go p e below G T (mkF m pc L stk) := by
  subst hp
  obtain ⟨vm0, k0, locs, X, eT, hS, hk, hZ, hown, hF, hN, hC, hsf, hE, ⟨a1, hEL⟩, hx, hby, hml, hnm, hrt, hlk⟩ := W
  subst hby
  obtain ⟨v, vm₁, ⟨T', locs', ce', sl'⟩, hW1, X', hS', hge, ⟨Lc, hQ, hFr, e1, e2, e3, hC', hE', hN'⟩, st⟩ := X.specialBackS hx (y := y') hin hown (mvT hZ w1) (mvT hZ w2) (mvT hZ wc) hy (own_back (Wd := (S.map fun v => v.category).sum) C hZ wc wz hf hl hEL hC.1 fun x hx => hsf x (hsub x hx)) (g := mkF m pc L stk) rfl (by rw [hml]; exact hsz) (Steps.refl _) (a := a) (argsL := A) (rest := S) (lenOf hpd hln) hst (by show 2 * 0 + _ ≤ _; omega) hd (fun _ _ => ⟨rfl, eT, hc, hs⟩)
  dsimp only [Pt.U, Pt.locs, Pt.cells, Pt.slots] at X' hS' hge hQ e1 e2 e3 hC' hE' hN' st
  subst e1 e2 e3 eT
  refine (K T' T'.heap v ⟨T'.vm, T'.heap.size, locs ++ Lc, X', rfl, hS.trans hS' (Nat.le_trans hk hge), Nat.le_refl _, State.Warmed39.trans (t := s.setVm vm0) hZ hS'.1, by rw [show (s.setVm T'.vm).vm = T'.vm from rfl, hS'.1.alike.findClass]; exact hown, hF.app hFr, fun q => ?_, hC.trans hC', fun x hx => ⟨Nat.lt_of_lt_of_le (hsf x hx).1 hge, hC'.safe (hsf x hx).1 (hsf x hx).2⟩, hE', ⟨a1, hEL⟩, hx, rfl, hml, hnm, hrt, hlk⟩ hQ hge).st fun u k => st.trans k
  exact State.WarmedH.trans (t := s.setVm vm0) (hN q) (State.WarmedH.trans (s := s.setVm vm0) (t := T.setVm vm₁) hW1 (hN' q))
theorem o_virtual (pc' : Nat) (A : List Value) (W : Wk p l e R s m args below meth c Z y bytes maxL ret T h ce sl sf) {y' : MethodName} {bytes' : ByteArray} {maxL' : Nat} {ret' : Option FieldType} {rm : Room} {sf' : List Addr} {Q : Option Value → Heap → Prop} {stk : List Value} {i : Nat} {a : Addr} {C0 : String} (w1 : (Jvm.Cond.methodLink y.cls i y').before a0 Z = true) (w2 : (Jvm.Cond.declares y').before a0 Z = true) (w3 : (Jvm.Cond.selects C0 y' y').before a0 Z = true) (w4 : (Jvm.Cond.instanceMethod y').before a0 Z = true) (wz : (Jvm.Cond.initialized y'.cls).before a0 Z = true) (wc : (Jvm.Cond.code y' bytes' maxL' ret').before a0 Z = true) (E : Exa Z h a C0) (C : Con l Z y' bytes' maxL' ret' rm (.ref a :: A).toArray h sf' Q) {ps : List FieldType} {rt : Option FieldType} (hpd : parseMethodDescriptor y'.desc = some ⟨ps, rt⟩) (hd : decode bytes pc = .ok (.invokevirtual i, 3)) (hst : stk = A.reverse ++ .ref a :: S) (hsub : ∀ x ∈ sf', x ∈ sf) (K : ∀ T' h' v, Wk p l e R s m args below meth c Z y bytes maxL ret T' h' (ce + rm.cells) (sl + rm.slots) sf → Q v h' → h.size ≤ h'.size → Go p e below G T' (mkF m pc' L (v.toList ++ S))) (hsz : L.size = maxL := by rfl) (hln : A.length = ps.length := by rfl) (hy : y'.cls ≠ "java/lang/invoke/MethodHandle" ∧ y'.cls ≠ "java/lang/invoke/VarHandle" := by decide) (hf : rm.frames + 1 ≤ R.frames := by decide) (hl : (S.map fun v => v.category).sum + (maxL' + 11) + rm.locals ≤ R.locals := by first | decide | exact Nat.le_of_ble_eq_true rfl) (hc : ce + rm.cells ≤ R.cells := by decide) (hs : sl + rm.slots ≤ R.slots := by decide) (hp : pc + 3 = pc' := by rfl) : Go p e below G T (mkF m pc L stk) := by
  subst hp
  obtain ⟨vm0, k0, locs, X, eT, hS, hk, hZ, hown, hF, hN, hC, hsf, hE, ⟨a1, hEL⟩, hx, hby, hml, hnm, hrt, hlk⟩ := W
  subst hby
  obtain ⟨cB, kB, qa, qb, qc⟩ := isOf (T := T) hZ eT E
  obtain ⟨v, vm₁, ⟨T', locs', ce', sl'⟩, hW1, X', hS', hge, ⟨Lc, hQ, hFr, e1, e2, e3, hC', hE', hN'⟩, st⟩ := X.virtualBackS hx (y := y') (z := y') hown (mvT hZ w1) (mvT hZ w2) (notFace_of_selects (args := args) (mvT hZ w3)) (mvT hZ w3) (mvT hZ w4) hy (own_back (Wd := (S.map fun v => v.category).sum) C hZ wc wz hf hl hEL hC.1 fun x hx => hsf x (hsub x hx)) qa qc (g := mkF m pc L stk) rfl (by rw [hml]; exact hsz) (Steps.refl _) (argsL := A) (rest := S) (lenOf hpd hln) hst (by show 2 * 0 + _ ≤ _; omega) hd (fun _ _ => ⟨rfl, eT, hc, hs⟩)
  dsimp only [Pt.U, Pt.locs, Pt.cells, Pt.slots] at X' hS' hge hQ e1 e2 e3 hC' hE' hN' st
  subst e1 e2 e3 eT
  refine (K T' T'.heap v ⟨T'.vm, T'.heap.size, locs ++ Lc, X', rfl, hS.trans hS' (Nat.le_trans hk hge), Nat.le_refl _, State.Warmed39.trans (t := s.setVm vm0) hZ hS'.1, by rw [show (s.setVm T'.vm).vm = T'.vm from rfl, hS'.1.alike.findClass]; exact hown, hF.app hFr, fun q => ?_, hC.trans hC', fun x hx => ⟨Nat.lt_of_lt_of_le (hsf x hx).1 hge, hC'.safe (hsf x hx).1 (hsf x hx).2⟩, hE', ⟨a1, hEL⟩, hx, rfl, hml, hnm, hrt, hlk⟩ hQ hge).st fun u k => st.trans k
  exact State.WarmedH.trans (t := s.setVm vm0) (hN q) (State.WarmedH.trans (s := s.setVm vm0) (t := T.setVm vm₁) hW1 (hN' q))
theorem o_virtualUp (pc' : Nat) (A : List Value) (W : Wk p l e R s m args below meth c Z y bytes maxL ret T h ce sl sf) {y' : MethodName} {bytes' : ByteArray} {maxL' : Nat} {ret' : Option FieldType} {rm : Room} {sf' : List Addr} {Q : Option Value → Heap → Prop} {stk : List Value} {i : Nat} {a : Addr} {C0 owner : String} {x' : MethodName} (w1 : (Jvm.Cond.methodLink y.cls i x').before a0 Z = true) (w2 : (Jvm.Cond.sameMethod x'.cls owner x'.name x'.desc).before a0 Z = true) (w5 : (Jvm.Cond.declares ⟨owner, x'.name, x'.desc⟩).before a0 Z = true) (w3 : (Jvm.Cond.selects C0 x' y').before a0 Z = true) (w4 : (Jvm.Cond.instanceMethod y').before a0 Z = true) (wz : (Jvm.Cond.initialized y'.cls).before a0 Z = true) (wc : (Jvm.Cond.code y' bytes' maxL' ret').before a0 Z = true) (E : Exa Z h a C0) (C : Con l Z y' bytes' maxL' ret' rm (.ref a :: A).toArray h sf' Q) {ps : List FieldType} {rt : Option FieldType} (hpd : parseMethodDescriptor x'.desc = some ⟨ps, rt⟩) (hd : decode bytes pc = .ok (.invokevirtual i, 3)) (hst : stk = A.reverse ++ .ref a :: S) (hsub : ∀ x ∈ sf', x ∈ sf) (K : ∀ T' h' v, Wk p l e R s m args below meth c Z y bytes maxL ret T' h' (ce + rm.cells) (sl + rm.slots) sf → Q v h' → h.size ≤ h'.size → Go p e below G T' (mkF m pc' L (v.toList ++ S))) (hsz : L.size = maxL := by rfl) (hln : A.length = ps.length := by rfl) (hy : owner ≠ "java/lang/invoke/MethodHandle" ∧ owner ≠ "java/lang/invoke/VarHandle" := by decide) (hf : rm.frames + 1 ≤ R.frames := by decide) (hl : (S.map fun v => v.category).sum + (maxL' + 11) + rm.locals ≤ R.locals := by first | decide | exact Nat.le_of_ble_eq_true rfl) (hc : ce + rm.cells ≤ R.cells := by decide) (hs : sl + rm.slots ≤ R.slots := by decide) (hp : pc + 3 = pc' := by rfl) : Go p e below G T (mkF m pc L stk) := by
  subst hp
  obtain ⟨vm0, k0, locs, X, eT, hS, hk, hZ, hown, hF, hN, hC, hsf, hE, ⟨a1, hEL⟩, hx, hby, hml, hnm, hrt, hlk⟩ := W
  subst hby
  obtain ⟨cB, kB, qa, qb, qc⟩ := isOf (T := T) hZ eT E
  obtain ⟨v, vm₁, ⟨T', locs', ce', sl'⟩, hW1, X', hS', hge, ⟨Lc, hQ, hFr, e1, e2, e3, hC', hE', hN'⟩, st⟩ := X.virtualBackUpS hx (x := x') (y := y') (owner := owner) hown (mvT hZ w1) (mvT hZ w2) (mvT hZ w5) hy (mvT hZ w3) (mvT hZ w4) (own_back (Wd := (S.map fun v => v.category).sum) C hZ wc wz hf hl hEL hC.1 fun x hx => hsf x (hsub x hx)) qa qc (g := mkF m pc L stk) rfl (by rw [hml]; exact hsz) (Steps.refl _) (argsL := A) (rest := S) (lenOf hpd hln) hst (by show 2 * 0 + _ ≤ _; omega) hd (fun _ _ => ⟨rfl, eT, hc, hs⟩)
  dsimp only [Pt.U, Pt.locs, Pt.cells, Pt.slots] at X' hS' hge hQ e1 e2 e3 hC' hE' hN' st
  subst e1 e2 e3 eT
  refine (K T' T'.heap v ⟨T'.vm, T'.heap.size, locs ++ Lc, X', rfl, hS.trans hS' (Nat.le_trans hk hge), Nat.le_refl _, State.Warmed39.trans (t := s.setVm vm0) hZ hS'.1, by rw [show (s.setVm T'.vm).vm = T'.vm from rfl, hS'.1.alike.findClass]; exact hown, hF.app hFr, fun q => ?_, hC.trans hC', fun x hx => ⟨Nat.lt_of_lt_of_le (hsf x hx).1 hge, hC'.safe (hsf x hx).1 (hsf x hx).2⟩, hE', ⟨a1, hEL⟩, hx, rfl, hml, hnm, hrt, hlk⟩ hQ hge).st fun u k => st.trans k
  exact State.WarmedH.trans (t := s.setVm vm0) (hN q) (State.WarmedH.trans (s := s.setVm vm0) (t := T.setVm vm₁) hW1 (hN' q))
end Own
theorem own_sx {Z : State} {args a0 : Array Value} {C n d K : String} (hx : (Jvm.Cond.exactly (Jvm.Term.static C n d) K).value args Z none Z [] = some true) (hi : (Jvm.Cond.initialized C).before a0 Z = true) (hl : (Jvm.Cond.laysStatic C n d).before a0 Z = true) : ∃ a, Sta Z Z.heap C n d (.ref a) ∧ Exa Z Z.heap a K ∧ (Jvm.Term.static C n d).eval args Z none [] Z = some (.ref a) := by
  obtain ⟨a', c', cell, k, e1, -⟩ := Cond.exactly_spec (Cond.before_iff.mpr hx)
  exact ⟨a', Sta.start (args := a0) e1 (Or.inr ⟨hi, hl⟩), Exa.start e1 hx, e1⟩
theorem own_fx {Z : State} {args : Array Value} {t : Jvm.Term} {a : Addr} {O n d : String} {v : Value} {u : Jvm.Term} (e : t.eval args Z none [] Z = some (.ref a)) (hu : u.eval args Z none [] Z = some v) (hx : (Jvm.Cond.eq (Jvm.Term.field t O n d) u).value args Z none Z [] = some true) (hk : ∀ w, Kin v w → Kin w v → (Jvm.Cond.eq (Jvm.Term.field t O n d) u).value args Z none Z [] = some true → (Jvm.Term.field t O n d).eval args Z none [] Z = some w → w = v) : Fld Z Z.heap a O n d v := by
  obtain ⟨x, y, e1, e2, k1, k2⟩ := cmp_v (Or.inl hx)
  cases hu.symm.trans e2
  have q := hk x k2 k1 hx e1
  subst q
  refine Fld.start ?_
  have e3 := e1
  simp only [Jvm.Term.eval, e, Option.bind_eq_bind, Option.bind_some] at e3
  exact e3
theorem own_fi {Z : State} {args : Array Value} {t : Jvm.Term} {a : Addr} {O n d : String} {k : Int32} (e : t.eval args Z none [] Z = some (.ref a)) (hx : (Jvm.Cond.eq (Jvm.Term.field t O n d) (Jvm.Term.int k)).value args Z none Z [] = some true) : Fld Z Z.heap a O n d (.int k) := by
  refine own_fx e (Jvm.Term.int_eval k) hx fun w k1 k2 h1 h2 => ?_
  obtain ⟨z, rfl⟩ := k1
  simp [Jvm.Cond.value, h2, Jvm.Term.int_eval] at h1
  rw [h1]
theorem d7_0 : decode prog_7_method_1_code 0 = .ok (.aload_n 0, 1) := by decide +kernel
theorem d7_1 : decode prog_7_method_1_code 1 = .ok (.invokespecial 1, 3) := by decide +kernel
theorem d7_4 : decode prog_7_method_1_code 4 = .ok (.aload_n 0, 1) := by decide +kernel
theorem d7_5 : decode prog_7_method_1_code 5 = .ok (.aload_n 1, 1) := by decide +kernel
theorem d7_6 : decode prog_7_method_1_code 6 = .ok (.putfield 7, 3) := by decide +kernel
theorem d7_9 : decode prog_7_method_1_code 9 = .ok (.aload_n 0, 1) := by decide +kernel
theorem d7_10 : decode prog_7_method_1_code 10 = .ok (.iload_n 2, 1) := by decide +kernel
theorem d7_11 : decode prog_7_method_1_code 11 = .ok (.putfield 13, 3) := by decide +kernel
theorem d7_14 : decode prog_7_method_1_code 14 = .ok (.aload_n 0, 1) := by decide +kernel
theorem d7_15 : decode prog_7_method_1_code 15 = .ok (.iload_n 3, 1) := by decide +kernel
theorem d7_16 : decode prog_7_method_1_code 16 = .ok (.putfield 17, 3) := by decide +kernel
theorem d7_19 : decode prog_7_method_1_code 19 = .ok (.aload_n 0, 1) := by decide +kernel
theorem d7_20 : decode prog_7_method_1_code 20 = .ok (.iload 4, 2) := by decide +kernel
theorem d7_22 : decode prog_7_method_1_code 22 = .ok (.putfield 20, 3) := by decide +kernel
theorem d7_25 : decode prog_7_method_1_code 25 = .ok (.aload_n 0, 1) := by decide +kernel
theorem d7_26 : decode prog_7_method_1_code 26 = .ok (.aload 5, 2) := by decide +kernel
theorem d7_28 : decode prog_7_method_1_code 28 = .ok (.putfield 23, 3) := by decide +kernel
theorem d7_31 : decode prog_7_method_1_code 31 = .ok (.aload_n 0, 1) := by decide +kernel
theorem d7_32 : decode prog_7_method_1_code 32 = .ok (.iload 6, 2) := by decide +kernel
theorem d7_34 : decode prog_7_method_1_code 34 = .ok (.putfield 27, 3) := by decide +kernel
theorem d7_37 : decode prog_7_method_1_code 37 = .ok (.aload_n 0, 1) := by decide +kernel
theorem d7_38 : decode prog_7_method_1_code 38 = .ok (.iload 7, 2) := by decide +kernel
theorem d7_40 : decode prog_7_method_1_code 40 = .ok (.putfield 30, 3) := by decide +kernel
theorem d7_43 : decode prog_7_method_1_code 43 = .ok (.aload_n 0, 1) := by decide +kernel
theorem d7_44 : decode prog_7_method_1_code 44 = .ok (.iload 8, 2) := by decide +kernel
theorem d7_46 : decode prog_7_method_1_code 46 = .ok (.putfield 33, 3) := by decide +kernel
theorem d7_49 : decode prog_7_method_1_code 49 = .ok (.return_, 1) := by decide +kernel
theorem d8_0 : decode prog_7_method_14_code 0 = .ok (.aload_n 0, 1) := by decide +kernel
theorem d8_1 : decode prog_7_method_14_code 1 = .ok (.getfield 33, 3) := by decide +kernel
theorem d8_4 : decode prog_7_method_14_code 4 = .ok (.aload_n 0, 1) := by decide +kernel
theorem d8_5 : decode prog_7_method_14_code 5 = .ok (.getfield 30, 3) := by decide +kernel
theorem d8_8 : decode prog_7_method_14_code 8 = .ok (.if_icmp .ne 7, 3) := by decide +kernel
theorem d8_11 : decode prog_7_method_14_code 11 = .ok (.aconst_null, 1) := by decide +kernel
theorem d8_12 : decode prog_7_method_14_code 12 = .ok (.goto 20, 3) := by decide +kernel
theorem d8_15 : decode prog_7_method_14_code 15 = .ok (.aload_n 0, 1) := by decide +kernel
theorem d8_16 : decode prog_7_method_14_code 16 = .ok (.getfield 7, 3) := by decide +kernel
theorem d8_19 : decode prog_7_method_14_code 19 = .ok (.aload_n 0, 1) := by decide +kernel
theorem d8_20 : decode prog_7_method_14_code 20 = .ok (.getfield 30, 3) := by decide +kernel
theorem d8_23 : decode prog_7_method_14_code 23 = .ok (.iconst 1, 1) := by decide +kernel
theorem d8_24 : decode prog_7_method_14_code 24 = .ok (.iadd, 1) := by decide +kernel
theorem d8_25 : decode prog_7_method_14_code 25 = .ok (.aload_n 0, 1) := by decide +kernel
theorem d8_26 : decode prog_7_method_14_code 26 = .ok (.getfield 33, 3) := by decide +kernel
theorem d8_29 : decode prog_7_method_14_code 29 = .ok (.invokevirtual 59, 3) := by decide +kernel
theorem d8_32 : decode prog_7_method_14_code 32 = .ok (.areturn, 1) := by decide +kernel
theorem d16_0 : decode method_3_code 0 = .ok (.iload 4, 2) := by decide +kernel
theorem d16_2 : decode method_3_code 2 = .ok (.iload_n 3, 1) := by decide +kernel
theorem d16_3 : decode method_3_code 3 = .ok (.if_icmp .ge 18, 3) := by decide +kernel
theorem d16_6 : decode method_3_code 6 = .ok (.aload_n 0, 1) := by decide +kernel
theorem d16_7 : decode method_3_code 7 = .ok (.iload 4, 2) := by decide +kernel
theorem d16_9 : decode method_3_code 9 = .ok (.invokevirtual 34, 3) := by decide +kernel
theorem d16_12 : decode method_3_code 12 = .ok (.aload_n 1, 1) := by decide +kernel
theorem d16_13 : decode method_3_code 13 = .ok (.iload_n 2, 1) := by decide +kernel
theorem d16_14 : decode method_3_code 14 = .ok (.iload 4, 2) := by decide +kernel
theorem d16_16 : decode method_3_code 16 = .ok (.iadd, 1) := by decide +kernel
theorem d16_17 : decode method_3_code 17 = .ok (.caload, 1) := by decide +kernel
theorem d16_18 : decode method_3_code 18 = .ok (.if_icmp .ne 7, 3) := by decide +kernel
theorem d16_21 : decode method_3_code 21 = .ok (.iconst 1, 1) := by decide +kernel
theorem d16_22 : decode method_3_code 22 = .ok (.goto 4, 3) := by decide +kernel
theorem d16_25 : decode method_3_code 25 = .ok (.iconst 0, 1) := by decide +kernel
theorem d16_26 : decode method_3_code 26 = .ok (.ireturn, 1) := by decide +kernel
theorem d5_0 : decode jdk_52_method_21_code 0 = .ok (.iconst 0, 1) := by decide +kernel
theorem d5_1 : decode jdk_52_method_21_code 1 = .ok (.istore 5, 2) := by decide +kernel
theorem d5_3 : decode jdk_52_method_21_code 3 = .ok (.iload 5, 2) := by decide +kernel
theorem d5_5 : decode jdk_52_method_21_code 5 = .ok (.iload 4, 2) := by decide +kernel
theorem d5_7 : decode jdk_52_method_21_code 7 = .ok (.if_icmp .ge 37, 3) := by decide +kernel
theorem d5_10 : decode jdk_52_method_21_code 10 = .ok (.aload_n 0, 1) := by decide +kernel
theorem d5_11 : decode jdk_52_method_21_code 11 = .ok (.iload_n 1, 1) := by decide +kernel
theorem d5_12 : decode jdk_52_method_21_code 12 = .ok (.caload, 1) := by decide +kernel
theorem d5_13 : decode jdk_52_method_21_code 13 = .ok (.istore 6, 2) := by decide +kernel
theorem d5_15 : decode jdk_52_method_21_code 15 = .ok (.iload 6, 2) := by decide +kernel
theorem d5_17 : decode jdk_52_method_21_code 17 = .ok (.sipush 255, 3) := by decide +kernel
theorem d5_20 : decode jdk_52_method_21_code 20 = .ok (.if_icmp .le 6, 3) := by decide +kernel
theorem d5_23 : decode jdk_52_method_21_code 23 = .ok (.iload 5, 2) := by decide +kernel
theorem d5_25 : decode jdk_52_method_21_code 25 = .ok (.ireturn, 1) := by decide +kernel
theorem d5_26 : decode jdk_52_method_21_code 26 = .ok (.aload_n 2, 1) := by decide +kernel
theorem d5_27 : decode jdk_52_method_21_code 27 = .ok (.iload_n 3, 1) := by decide +kernel
theorem d5_28 : decode jdk_52_method_21_code 28 = .ok (.iload 6, 2) := by decide +kernel
theorem d5_30 : decode jdk_52_method_21_code 30 = .ok (.i2b, 1) := by decide +kernel
theorem d5_31 : decode jdk_52_method_21_code 31 = .ok (.bastore, 1) := by decide +kernel
theorem d5_32 : decode jdk_52_method_21_code 32 = .ok (.iinc 1 1, 3) := by decide +kernel
theorem d5_35 : decode jdk_52_method_21_code 35 = .ok (.iinc 3 1, 3) := by decide +kernel
theorem d5_38 : decode jdk_52_method_21_code 38 = .ok (.iinc 5 1, 3) := by decide +kernel
theorem d5_41 : decode jdk_52_method_21_code 41 = .ok (.goto (-38), 3) := by decide +kernel
theorem d5_44 : decode jdk_52_method_21_code 44 = .ok (.iload 4, 2) := by decide +kernel
theorem d5_46 : decode jdk_52_method_21_code 46 = .ok (.ireturn, 1) := by decide +kernel
theorem pn0 : plainName "java/lang/StringUTF16" = true := by first | (simp [plainName, overriddenIn]; done) | decide +kernel
theorem d4_0 : decode jdk_52_method_16_code 0 = .ok (.iload_n 2, 1) := by decide +kernel
theorem d4_1 : decode jdk_52_method_16_code 1 = .ok (.newarray .byte, 2) := by decide +kernel
theorem d4_3 : decode jdk_52_method_16_code 3 = .ok (.astore_n 3, 1) := by decide +kernel
theorem d4_4 : decode jdk_52_method_16_code 4 = .ok (.aload_n 0, 1) := by decide +kernel
theorem d4_5 : decode jdk_52_method_16_code 5 = .ok (.iload_n 1, 1) := by decide +kernel
theorem d4_6 : decode jdk_52_method_16_code 6 = .ok (.aload_n 3, 1) := by decide +kernel
theorem d4_7 : decode jdk_52_method_16_code 7 = .ok (.iconst 0, 1) := by decide +kernel
theorem d4_8 : decode jdk_52_method_16_code 8 = .ok (.iload_n 2, 1) := by decide +kernel
theorem d4_9 : decode jdk_52_method_16_code 9 = .ok (.invokestatic 115, 3) := by decide +kernel
theorem d4_12 : decode jdk_52_method_16_code 12 = .ok (.istore 4, 2) := by decide +kernel
theorem d4_14 : decode jdk_52_method_16_code 14 = .ok (.iload 4, 2) := by decide +kernel
theorem d4_16 : decode jdk_52_method_16_code 16 = .ok (.iload_n 2, 1) := by decide +kernel
theorem d4_17 : decode jdk_52_method_16_code 17 = .ok (.if_icmp .eq 40, 3) := by decide +kernel
theorem d4_20 : decode jdk_52_method_16_code 20 = .ok (.aload_n 0, 1) := by decide +kernel
theorem d4_21 : decode jdk_52_method_16_code 21 = .ok (.iload_n 1, 1) := by decide +kernel
theorem d4_22 : decode jdk_52_method_16_code 22 = .ok (.iload_n 2, 1) := by decide +kernel
theorem d4_23 : decode jdk_52_method_16_code 23 = .ok (.invokestatic 119, 3) := by decide +kernel
theorem d4_26 : decode jdk_52_method_16_code 26 = .ok (.astore 5, 2) := by decide +kernel
theorem d4_28 : decode jdk_52_method_16_code 28 = .ok (.aload 5, 2) := by decide +kernel
theorem d4_30 : decode jdk_52_method_16_code 30 = .ok (.iload 4, 2) := by decide +kernel
theorem d4_32 : decode jdk_52_method_16_code 32 = .ok (.invokestatic 71, 3) := by decide +kernel
theorem d4_35 : decode jdk_52_method_16_code 35 = .ok (.sipush 255, 3) := by decide +kernel
theorem d4_38 : decode jdk_52_method_16_code 38 = .ok (.if_icmp .gt 16, 3) := by decide +kernel
theorem d4_41 : decode jdk_52_method_16_code 41 = .ok (.aload 5, 2) := by decide +kernel
theorem d4_43 : decode jdk_52_method_16_code 43 = .ok (.iconst 0, 1) := by decide +kernel
theorem d4_44 : decode jdk_52_method_16_code 44 = .ok (.aload_n 3, 1) := by decide +kernel
theorem d4_45 : decode jdk_52_method_16_code 45 = .ok (.iconst 0, 1) := by decide +kernel
theorem d4_46 : decode jdk_52_method_16_code 46 = .ok (.iload_n 2, 1) := by decide +kernel
theorem d4_47 : decode jdk_52_method_16_code 47 = .ok (.invokestatic 123, 3) := by decide +kernel
theorem d4_50 : decode jdk_52_method_16_code 50 = .ok (.iload_n 2, 1) := by decide +kernel
theorem d4_51 : decode jdk_52_method_16_code 51 = .ok (.if_icmp .eq 6, 3) := by decide +kernel
theorem d4_54 : decode jdk_52_method_16_code 54 = .ok (.aload 5, 2) := by decide +kernel
theorem d4_56 : decode jdk_52_method_16_code 56 = .ok (.areturn, 1) := by decide +kernel
theorem d4_57 : decode jdk_52_method_16_code 57 = .ok (.aload_n 3, 1) := by decide +kernel
theorem d4_58 : decode jdk_52_method_16_code 58 = .ok (.areturn, 1) := by decide +kernel
theorem pd0 : parseMethodDescriptor "([CI[BII)I" = some ⟨[(.array .char), .int, (.array .byte), .int, .int], some .int⟩ := by decide +kernel
theorem d6_0 : decode jdk_52_method_15_code 0 = .ok (.iload_n 1, 1) := by decide +kernel
theorem d6_1 : decode jdk_52_method_15_code 1 = .ok (.aload_n 0, 1) := by decide +kernel
theorem d6_2 : decode jdk_52_method_15_code 2 = .ok (.arraylength, 1) := by decide +kernel
theorem d6_3 : decode jdk_52_method_15_code 3 = .ok (.isub, 1) := by decide +kernel
theorem d6_4 : decode jdk_52_method_15_code 4 = .ok (.bipush 31, 2) := by decide +kernel
theorem d6_6 : decode jdk_52_method_15_code 6 = .ok (.iushr, 1) := by decide +kernel
theorem d6_7 : decode jdk_52_method_15_code 7 = .ok (.i2b, 1) := by decide +kernel
theorem d6_8 : decode jdk_52_method_15_code 8 = .ok (.ireturn, 1) := by decide +kernel
theorem d2_0 : decode jdk_42_method_149_code 0 = .ok (.aload_n 0, 1) := by decide +kernel
theorem d2_1 : decode jdk_42_method_149_code 1 = .ok (.invokespecial 1, 3) := by decide +kernel
theorem d2_4 : decode jdk_42_method_149_code 4 = .ok (.iload_n 3, 1) := by decide +kernel
theorem d2_5 : decode jdk_42_method_149_code 5 = .ok (.ifCond .ne 22, 3) := by decide +kernel
theorem d2_8 : decode jdk_42_method_149_code 8 = .ok (.aload_n 0, 1) := by decide +kernel
theorem d2_9 : decode jdk_42_method_149_code 9 = .ok (.ldc 7, 2) := by decide +kernel
theorem d2_11 : decode jdk_42_method_149_code 11 = .ok (.getfield 9, 3) := by decide +kernel
theorem d2_14 : decode jdk_42_method_149_code 14 = .ok (.putfield 9, 3) := by decide +kernel
theorem d2_17 : decode jdk_42_method_149_code 17 = .ok (.aload_n 0, 1) := by decide +kernel
theorem d2_18 : decode jdk_42_method_149_code 18 = .ok (.ldc 7, 2) := by decide +kernel
theorem d2_20 : decode jdk_42_method_149_code 20 = .ok (.getfield 15, 3) := by decide +kernel
theorem d2_23 : decode jdk_42_method_149_code 23 = .ok (.putfield 15, 3) := by decide +kernel
theorem d2_26 : decode jdk_42_method_149_code 26 = .ok (.return_, 1) := by decide +kernel
theorem d2_27 : decode jdk_42_method_149_code 27 = .ok (.getstatic 38, 3) := by decide +kernel
theorem d2_30 : decode jdk_42_method_149_code 30 = .ok (.ifCond .eq 28, 3) := by decide +kernel
theorem d2_33 : decode jdk_42_method_149_code 33 = .ok (.aload_n 1, 1) := by decide +kernel
theorem d2_34 : decode jdk_42_method_149_code 34 = .ok (.iload_n 2, 1) := by decide +kernel
theorem d2_35 : decode jdk_42_method_149_code 35 = .ok (.iload_n 3, 1) := by decide +kernel
theorem d2_36 : decode jdk_42_method_149_code 36 = .ok (.invokestatic 177, 3) := by decide +kernel
theorem d2_39 : decode jdk_42_method_149_code 39 = .ok (.astore 5, 2) := by decide +kernel
theorem d2_41 : decode jdk_42_method_149_code 41 = .ok (.aload_n 0, 1) := by decide +kernel
theorem d2_42 : decode jdk_42_method_149_code 42 = .ok (.aload 5, 2) := by decide +kernel
theorem d2_44 : decode jdk_42_method_149_code 44 = .ok (.iload_n 3, 1) := by decide +kernel
theorem d2_45 : decode jdk_42_method_149_code 45 = .ok (.invokestatic 47, 3) := by decide +kernel
theorem d2_48 : decode jdk_42_method_149_code 48 = .ok (.putfield 15, 3) := by decide +kernel
theorem d2_51 : decode jdk_42_method_149_code 51 = .ok (.aload_n 0, 1) := by decide +kernel
theorem d2_52 : decode jdk_42_method_149_code 52 = .ok (.aload 5, 2) := by decide +kernel
theorem d2_54 : decode jdk_42_method_149_code 54 = .ok (.putfield 9, 3) := by decide +kernel
theorem d2_57 : decode jdk_42_method_149_code 57 = .ok (.return_, 1) := by decide +kernel
theorem d2_58 : decode jdk_42_method_149_code 58 = .ok (.aload_n 0, 1) := by decide +kernel
theorem d2_59 : decode jdk_42_method_149_code 59 = .ok (.iconst 1, 1) := by decide +kernel
theorem d2_60 : decode jdk_42_method_149_code 60 = .ok (.putfield 15, 3) := by decide +kernel
theorem d2_63 : decode jdk_42_method_149_code 63 = .ok (.aload_n 0, 1) := by decide +kernel
theorem d2_64 : decode jdk_42_method_149_code 64 = .ok (.aload_n 1, 1) := by decide +kernel
theorem d2_65 : decode jdk_42_method_149_code 65 = .ok (.iload_n 2, 1) := by decide +kernel
theorem d2_66 : decode jdk_42_method_149_code 66 = .ok (.iload_n 3, 1) := by decide +kernel
theorem d2_67 : decode jdk_42_method_149_code 67 = .ok (.invokestatic 180, 3) := by decide +kernel
theorem d2_70 : decode jdk_42_method_149_code 70 = .ok (.putfield 9, 3) := by decide +kernel
theorem d2_73 : decode jdk_42_method_149_code 73 = .ok (.return_, 1) := by decide +kernel
theorem pn1 : plainName "java/lang/String" = true := by first | (simp [plainName, overriddenIn]; done) | decide +kernel
theorem pd1 : parseMethodDescriptor "([CII)[B" = some ⟨[(.array .char), .int, .int], some (.array .byte)⟩ := by decide +kernel
theorem pd2 : parseMethodDescriptor "([BI)B" = some ⟨[(.array .byte), .int], some .byte⟩ := by decide +kernel
theorem d1_0 : decode jdk_42_method_3_code 0 = .ok (.aload_n 0, 1) := by decide +kernel
theorem d1_1 : decode jdk_42_method_3_code 1 = .ok (.aload_n 1, 1) := by decide +kernel
theorem d1_2 : decode jdk_42_method_3_code 2 = .ok (.iconst 0, 1) := by decide +kernel
theorem d1_3 : decode jdk_42_method_3_code 3 = .ok (.aload_n 1, 1) := by decide +kernel
theorem d1_4 : decode jdk_42_method_3_code 4 = .ok (.arraylength, 1) := by decide +kernel
theorem d1_5 : decode jdk_42_method_3_code 5 = .ok (.aconst_null, 1) := by decide +kernel
theorem d1_6 : decode jdk_42_method_3_code 6 = .ok (.invokespecial 27, 3) := by decide +kernel
theorem d1_9 : decode jdk_42_method_3_code 9 = .ok (.return_, 1) := by decide +kernel
theorem pd3 : parseMethodDescriptor "([CIILjava/lang/Void;)V" = some ⟨[(.array .char), .int, .int, (.object "java/lang/Void")], none⟩ := by decide +kernel
theorem d11_0 : decode jdk_42_method_152_code 0 = .ok (.getstatic 38, 3) := by decide +kernel
theorem d11_3 : decode jdk_42_method_152_code 3 = .ok (.ifCond .eq 10, 3) := by decide +kernel
theorem d11_6 : decode jdk_42_method_152_code 6 = .ok (.aload_n 0, 1) := by decide +kernel
theorem d11_7 : decode jdk_42_method_152_code 7 = .ok (.getfield 15, 3) := by decide +kernel
theorem d11_10 : decode jdk_42_method_152_code 10 = .ok (.goto 4, 3) := by decide +kernel
theorem d11_13 : decode jdk_42_method_152_code 13 = .ok (.iconst 1, 1) := by decide +kernel
theorem d11_14 : decode jdk_42_method_152_code 14 = .ok (.ireturn, 1) := by decide +kernel
theorem d10_0 : decode jdk_42_method_54_code 0 = .ok (.aload_n 0, 1) := by decide +kernel
theorem d10_1 : decode jdk_42_method_54_code 1 = .ok (.getfield 9, 3) := by decide +kernel
theorem d10_4 : decode jdk_42_method_54_code 4 = .ok (.arraylength, 1) := by decide +kernel
theorem d10_5 : decode jdk_42_method_54_code 5 = .ok (.aload_n 0, 1) := by decide +kernel
theorem d10_6 : decode jdk_42_method_54_code 6 = .ok (.invokevirtual 335, 3) := by decide +kernel
theorem d10_9 : decode jdk_42_method_54_code 9 = .ok (.ishr, 1) := by decide +kernel
theorem d10_10 : decode jdk_42_method_54_code 10 = .ok (.ireturn, 1) := by decide +kernel
theorem pd4 : parseMethodDescriptor "()B" = some ⟨[], some .byte⟩ := by decide +kernel
theorem d14_0 : decode jdk_42_method_154_code 0 = .ok (.getstatic 38, 3) := by decide +kernel
theorem d14_3 : decode jdk_42_method_154_code 3 = .ok (.ifCond .eq 14, 3) := by decide +kernel
theorem d14_6 : decode jdk_42_method_154_code 6 = .ok (.aload_n 0, 1) := by decide +kernel
theorem d14_7 : decode jdk_42_method_154_code 7 = .ok (.getfield 15, 3) := by decide +kernel
theorem d14_10 : decode jdk_42_method_154_code 10 = .ok (.ifCond .ne 7, 3) := by decide +kernel
theorem d14_13 : decode jdk_42_method_154_code 13 = .ok (.iconst 1, 1) := by decide +kernel
theorem d14_14 : decode jdk_42_method_154_code 14 = .ok (.goto 4, 3) := by decide +kernel
theorem d14_17 : decode jdk_42_method_154_code 17 = .ok (.iconst 0, 1) := by decide +kernel
theorem d14_18 : decode jdk_42_method_154_code 18 = .ok (.ireturn, 1) := by decide +kernel
theorem d25_0 : decode jdk_41_method_11_code 0 = .ok (.iload_n 0, 1) := by decide +kernel
theorem d25_1 : decode jdk_41_method_11_code 1 = .ok (.ifCond .lt 8, 3) := by decide +kernel
theorem d25_4 : decode jdk_41_method_11_code 4 = .ok (.iload_n 0, 1) := by decide +kernel
theorem d25_5 : decode jdk_41_method_11_code 5 = .ok (.iload_n 1, 1) := by decide +kernel
theorem d25_6 : decode jdk_41_method_11_code 6 = .ok (.if_icmp .lt 10, 3) := by decide +kernel
theorem d25_9 : decode jdk_41_method_11_code 9 = .ok (.aload_n 2, 1) := by decide +kernel
theorem d25_10 : decode jdk_41_method_11_code 10 = .ok (.iload_n 0, 1) := by decide +kernel
theorem d25_11 : decode jdk_41_method_11_code 11 = .ok (.iload_n 1, 1) := by decide +kernel
theorem d25_12 : decode jdk_41_method_11_code 12 = .ok (.invokestatic 95, 3) := by decide +kernel
theorem d25_15 : decode jdk_41_method_11_code 15 = .ok (.athrow, 1) := by decide +kernel
theorem d25_16 : decode jdk_41_method_11_code 16 = .ok (.iload_n 0, 1) := by decide +kernel
theorem d25_17 : decode jdk_41_method_11_code 17 = .ok (.ireturn, 1) := by decide +kernel
theorem pn2 : plainName "jdk/internal/util/Preconditions" = true := by first | (simp [plainName, overriddenIn]; done) | decide +kernel
theorem d24_0 : decode jdk_42_method_155_code 0 = .ok (.iload_n 0, 1) := by decide +kernel
theorem d24_1 : decode jdk_42_method_155_code 1 = .ok (.iload_n 1, 1) := by decide +kernel
theorem d24_2 : decode jdk_42_method_155_code 2 = .ok (.getstatic 1053, 3) := by decide +kernel
theorem d24_5 : decode jdk_42_method_155_code 5 = .ok (.invokestatic 1059, 3) := by decide +kernel
theorem d24_8 : decode jdk_42_method_155_code 8 = .ok (.pop, 1) := by decide +kernel
theorem d24_9 : decode jdk_42_method_155_code 9 = .ok (.return_, 1) := by decide +kernel
theorem pd5 : parseMethodDescriptor "(IILjava/util/function/BiFunction;)I" = some ⟨[.int, .int, (.object "java/util/function/BiFunction")], some .int⟩ := by decide +kernel
theorem d23_0 : decode jdk_43_method_2_code 0 = .ok (.iload_n 1, 1) := by decide +kernel
theorem d23_1 : decode jdk_43_method_2_code 1 = .ok (.aload_n 0, 1) := by decide +kernel
theorem d23_2 : decode jdk_43_method_2_code 2 = .ok (.arraylength, 1) := by decide +kernel
theorem d23_3 : decode jdk_43_method_2_code 3 = .ok (.invokestatic 9, 3) := by decide +kernel
theorem d23_6 : decode jdk_43_method_2_code 6 = .ok (.aload_n 0, 1) := by decide +kernel
theorem d23_7 : decode jdk_43_method_2_code 7 = .ok (.iload_n 1, 1) := by decide +kernel
theorem d23_8 : decode jdk_43_method_2_code 8 = .ok (.baload, 1) := by decide +kernel
theorem d23_9 : decode jdk_43_method_2_code 9 = .ok (.sipush 255, 3) := by decide +kernel
theorem d23_12 : decode jdk_43_method_2_code 12 = .ok (.iand, 1) := by decide +kernel
theorem d23_13 : decode jdk_43_method_2_code 13 = .ok (.i2c, 1) := by decide +kernel
theorem d23_14 : decode jdk_43_method_2_code 14 = .ok (.ireturn, 1) := by decide +kernel
theorem pn3 : plainName "java/lang/StringLatin1" = true := by first | (simp [plainName, overriddenIn]; done) | decide +kernel
theorem pd6 : parseMethodDescriptor "(II)V" = some ⟨[.int, .int], none⟩ := by decide +kernel
theorem d22_0 : decode jdk_42_method_56_code 0 = .ok (.aload_n 0, 1) := by decide +kernel
theorem d22_1 : decode jdk_42_method_56_code 1 = .ok (.invokevirtual 492, 3) := by decide +kernel
theorem d22_4 : decode jdk_42_method_56_code 4 = .ok (.ifCond .eq 12, 3) := by decide +kernel
theorem d22_7 : decode jdk_42_method_56_code 7 = .ok (.aload_n 0, 1) := by decide +kernel
theorem d22_8 : decode jdk_42_method_56_code 8 = .ok (.getfield 9, 3) := by decide +kernel
theorem d22_11 : decode jdk_42_method_56_code 11 = .ok (.iload_n 1, 1) := by decide +kernel
theorem d22_12 : decode jdk_42_method_56_code 12 = .ok (.invokestatic 495, 3) := by decide +kernel
theorem d22_15 : decode jdk_42_method_56_code 15 = .ok (.ireturn, 1) := by decide +kernel
theorem d22_16 : decode jdk_42_method_56_code 16 = .ok (.aload_n 0, 1) := by decide +kernel
theorem d22_17 : decode jdk_42_method_56_code 17 = .ok (.getfield 9, 3) := by decide +kernel
theorem d22_20 : decode jdk_42_method_56_code 20 = .ok (.iload_n 1, 1) := by decide +kernel
theorem d22_21 : decode jdk_42_method_56_code 21 = .ok (.invokestatic 498, 3) := by decide +kernel
theorem d22_24 : decode jdk_42_method_56_code 24 = .ok (.ireturn, 1) := by decide +kernel
theorem pd7 : parseMethodDescriptor "()Z" = some ⟨[], some .boolean⟩ := by decide +kernel
theorem pd8 : parseMethodDescriptor "([BI)C" = some ⟨[(.array .byte), .int], some .char⟩ := by decide +kernel
theorem d13_0 : decode jdk_41_method_12_code 0 = .ok (.iload_n 0, 1) := by decide +kernel
theorem d13_1 : decode jdk_41_method_12_code 1 = .ok (.ifCond .lt 13, 3) := by decide +kernel
theorem d13_4 : decode jdk_41_method_12_code 4 = .ok (.iload_n 0, 1) := by decide +kernel
theorem d13_5 : decode jdk_41_method_12_code 5 = .ok (.iload_n 1, 1) := by decide +kernel
theorem d13_6 : decode jdk_41_method_12_code 6 = .ok (.if_icmp .gt 8, 3) := by decide +kernel
theorem d13_9 : decode jdk_41_method_12_code 9 = .ok (.iload_n 1, 1) := by decide +kernel
theorem d13_10 : decode jdk_41_method_12_code 10 = .ok (.iload_n 2, 1) := by decide +kernel
theorem d13_11 : decode jdk_41_method_12_code 11 = .ok (.if_icmp .le 11, 3) := by decide +kernel
theorem d13_14 : decode jdk_41_method_12_code 14 = .ok (.aload_n 3, 1) := by decide +kernel
theorem d13_15 : decode jdk_41_method_12_code 15 = .ok (.iload_n 0, 1) := by decide +kernel
theorem d13_16 : decode jdk_41_method_12_code 16 = .ok (.iload_n 1, 1) := by decide +kernel
theorem d13_17 : decode jdk_41_method_12_code 17 = .ok (.iload_n 2, 1) := by decide +kernel
theorem d13_18 : decode jdk_41_method_12_code 18 = .ok (.invokestatic 99, 3) := by decide +kernel
theorem d13_21 : decode jdk_41_method_12_code 21 = .ok (.athrow, 1) := by decide +kernel
theorem d13_22 : decode jdk_41_method_12_code 22 = .ok (.iload_n 0, 1) := by decide +kernel
theorem d13_23 : decode jdk_41_method_12_code 23 = .ok (.ireturn, 1) := by decide +kernel
theorem d12_0 : decode jdk_42_method_158_code 0 = .ok (.iload_n 0, 1) := by decide +kernel
theorem d12_1 : decode jdk_42_method_158_code 1 = .ok (.iload_n 1, 1) := by decide +kernel
theorem d12_2 : decode jdk_42_method_158_code 2 = .ok (.iload_n 2, 1) := by decide +kernel
theorem d12_3 : decode jdk_42_method_158_code 3 = .ok (.getstatic 1053, 3) := by decide +kernel
theorem d12_6 : decode jdk_42_method_158_code 6 = .ok (.invokestatic 1062, 3) := by decide +kernel
theorem d12_9 : decode jdk_42_method_158_code 9 = .ok (.pop, 1) := by decide +kernel
theorem d12_10 : decode jdk_42_method_158_code 10 = .ok (.return_, 1) := by decide +kernel
theorem pd9 : parseMethodDescriptor "(IIILjava/util/function/BiFunction;)I" = some ⟨[.int, .int, .int, (.object "java/util/function/BiFunction")], some .int⟩ := by decide +kernel
theorem d20_0 : decode jdk_29_method_69_code 0 = .ok (.iload_n 0, 1) := by decide +kernel
theorem d20_1 : decode jdk_29_method_69_code 1 = .ok (.iload_n 1, 1) := by decide +kernel
theorem d20_2 : decode jdk_29_method_69_code 2 = .ok (.if_icmp .gt 7, 3) := by decide +kernel
theorem d20_5 : decode jdk_29_method_69_code 5 = .ok (.iload_n 0, 1) := by decide +kernel
theorem d20_6 : decode jdk_29_method_69_code 6 = .ok (.goto 4, 3) := by decide +kernel
theorem d20_9 : decode jdk_29_method_69_code 9 = .ok (.iload_n 1, 1) := by decide +kernel
theorem d20_10 : decode jdk_29_method_69_code 10 = .ok (.ireturn, 1) := by decide +kernel
theorem d19_0 : decode jdk_65_method_131_code 0 = .ok (.iload_n 1, 1) := by decide +kernel
theorem d19_1 : decode jdk_65_method_131_code 1 = .ok (.iload_n 0, 1) := by decide +kernel
theorem d19_2 : decode jdk_65_method_131_code 2 = .ok (.if_icmp .ge 35, 3) := by decide +kernel
theorem d19_5 : decode jdk_65_method_131_code 5 = .ok (.new 43, 3) := by decide +kernel
theorem d19_8 : decode jdk_65_method_131_code 8 = .ok (.dup, 1) := by decide +kernel
theorem d19_9 : decode jdk_65_method_131_code 9 = .ok (.new 45, 3) := by decide +kernel
theorem d19_12 : decode jdk_65_method_131_code 12 = .ok (.dup, 1) := by decide +kernel
theorem d19_13 : decode jdk_65_method_131_code 13 = .ok (.invokespecial 47, 3) := by decide +kernel
theorem d19_16 : decode jdk_65_method_131_code 16 = .ok (.iload_n 0, 1) := by decide +kernel
theorem d19_17 : decode jdk_65_method_131_code 17 = .ok (.invokevirtual 54, 3) := by decide +kernel
theorem d19_20 : decode jdk_65_method_131_code 20 = .ok (.ldc_w 337, 3) := by decide +kernel
theorem d19_23 : decode jdk_65_method_131_code 23 = .ok (.invokevirtual 50, 3) := by decide +kernel
theorem d19_26 : decode jdk_65_method_131_code 26 = .ok (.iload_n 1, 1) := by decide +kernel
theorem d19_27 : decode jdk_65_method_131_code 27 = .ok (.invokevirtual 54, 3) := by decide +kernel
theorem d19_30 : decode jdk_65_method_131_code 30 = .ok (.invokevirtual 61, 3) := by decide +kernel
theorem d19_33 : decode jdk_65_method_131_code 33 = .ok (.invokespecial 65, 3) := by decide +kernel
theorem d19_36 : decode jdk_65_method_131_code 36 = .ok (.athrow, 1) := by decide +kernel
theorem d19_37 : decode jdk_65_method_131_code 37 = .ok (.return_, 1) := by decide +kernel
theorem pn4 : plainName "java/util/Arrays" = true := by first | (simp [plainName, overriddenIn]; done) | decide +kernel
theorem d18_0 : decode jdk_65_method_133_code 0 = .ok (.iload_n 1, 1) := by decide +kernel
theorem d18_1 : decode jdk_65_method_133_code 1 = .ok (.iload_n 2, 1) := by decide +kernel
theorem d18_2 : decode jdk_65_method_133_code 2 = .ok (.invokestatic 343, 3) := by decide +kernel
theorem d18_5 : decode jdk_65_method_133_code 5 = .ok (.iload_n 2, 1) := by decide +kernel
theorem d18_6 : decode jdk_65_method_133_code 6 = .ok (.iload_n 1, 1) := by decide +kernel
theorem d18_7 : decode jdk_65_method_133_code 7 = .ok (.isub, 1) := by decide +kernel
theorem d18_8 : decode jdk_65_method_133_code 8 = .ok (.istore_n 3, 1) := by decide +kernel
theorem d18_9 : decode jdk_65_method_133_code 9 = .ok (.iload_n 3, 1) := by decide +kernel
theorem d18_10 : decode jdk_65_method_133_code 10 = .ok (.newarray .byte, 2) := by decide +kernel
theorem d18_12 : decode jdk_65_method_133_code 12 = .ok (.astore 4, 2) := by decide +kernel
theorem d18_14 : decode jdk_65_method_133_code 14 = .ok (.aload_n 0, 1) := by decide +kernel
theorem d18_15 : decode jdk_65_method_133_code 15 = .ok (.iload_n 1, 1) := by decide +kernel
theorem d18_16 : decode jdk_65_method_133_code 16 = .ok (.aload 4, 2) := by decide +kernel
theorem d18_18 : decode jdk_65_method_133_code 18 = .ok (.iconst 0, 1) := by decide +kernel
theorem d18_19 : decode jdk_65_method_133_code 19 = .ok (.aload_n 0, 1) := by decide +kernel
theorem d18_20 : decode jdk_65_method_133_code 20 = .ok (.arraylength, 1) := by decide +kernel
theorem d18_21 : decode jdk_65_method_133_code 21 = .ok (.iload_n 1, 1) := by decide +kernel
theorem d18_22 : decode jdk_65_method_133_code 22 = .ok (.isub, 1) := by decide +kernel
theorem d18_23 : decode jdk_65_method_133_code 23 = .ok (.iload_n 3, 1) := by decide +kernel
theorem d18_24 : decode jdk_65_method_133_code 24 = .ok (.invokestatic 304, 3) := by decide +kernel
theorem d18_27 : decode jdk_65_method_133_code 27 = .ok (.invokestatic 150, 3) := by decide +kernel
theorem d18_30 : decode jdk_65_method_133_code 30 = .ok (.aload 4, 2) := by decide +kernel
theorem d18_32 : decode jdk_65_method_133_code 32 = .ok (.areturn, 1) := by decide +kernel
theorem pd10 : parseMethodDescriptor "(II)I" = some ⟨[.int, .int], some .int⟩ := by decide +kernel
theorem d17_0 : decode jdk_65_method_132_code 0 = .ok (.iload_n 1, 1) := by decide +kernel
theorem d17_1 : decode jdk_65_method_132_code 1 = .ok (.ifCond .ne 9, 3) := by decide +kernel
theorem d17_4 : decode jdk_65_method_132_code 4 = .ok (.iload_n 2, 1) := by decide +kernel
theorem d17_5 : decode jdk_65_method_132_code 5 = .ok (.aload_n 0, 1) := by decide +kernel
theorem d17_6 : decode jdk_65_method_132_code 6 = .ok (.arraylength, 1) := by decide +kernel
theorem d17_7 : decode jdk_65_method_132_code 7 = .ok (.if_icmp .eq 10, 3) := by decide +kernel
theorem d17_10 : decode jdk_65_method_132_code 10 = .ok (.aload_n 0, 1) := by decide +kernel
theorem d17_11 : decode jdk_65_method_132_code 11 = .ok (.iload_n 1, 1) := by decide +kernel
theorem d17_12 : decode jdk_65_method_132_code 12 = .ok (.iload_n 2, 1) := by decide +kernel
theorem d17_13 : decode jdk_65_method_132_code 13 = .ok (.invokestatic 339, 3) := by decide +kernel
theorem d17_16 : decode jdk_65_method_132_code 16 = .ok (.areturn, 1) := by decide +kernel
theorem d17_17 : decode jdk_65_method_132_code 17 = .ok (.aload_n 0, 1) := by decide +kernel
theorem d17_18 : decode jdk_65_method_132_code 18 = .ok (.invokevirtual 310, 3) := by decide +kernel
theorem d17_21 : decode jdk_65_method_132_code 21 = .ok (.checkcast 311, 3) := by decide +kernel
theorem d17_24 : decode jdk_65_method_132_code 24 = .ok (.areturn, 1) := by decide +kernel
theorem pd11 : parseMethodDescriptor "([BII)[B" = some ⟨[(.array .byte), .int, .int], some (.array .byte)⟩ := by decide +kernel
theorem d21_0 : decode jdk_42_method_151_code 0 = .ok (.aload_n 0, 1) := by decide +kernel
theorem d21_1 : decode jdk_42_method_151_code 1 = .ok (.invokespecial 1, 3) := by decide +kernel
theorem d21_4 : decode jdk_42_method_151_code 4 = .ok (.aload_n 0, 1) := by decide +kernel
theorem d21_5 : decode jdk_42_method_151_code 5 = .ok (.aload_n 1, 1) := by decide +kernel
theorem d21_6 : decode jdk_42_method_151_code 6 = .ok (.putfield 9, 3) := by decide +kernel
theorem d21_9 : decode jdk_42_method_151_code 9 = .ok (.aload_n 0, 1) := by decide +kernel
theorem d21_10 : decode jdk_42_method_151_code 10 = .ok (.iload_n 2, 1) := by decide +kernel
theorem d21_11 : decode jdk_42_method_151_code 11 = .ok (.putfield 15, 3) := by decide +kernel
theorem d21_14 : decode jdk_42_method_151_code 14 = .ok (.return_, 1) := by decide +kernel
theorem d15_0 : decode jdk_43_method_47_code 0 = .ok (.iload_n 2, 1) := by decide +kernel
theorem d15_1 : decode jdk_43_method_47_code 1 = .ok (.ifCond .ne 6, 3) := by decide +kernel
theorem d15_4 : decode jdk_43_method_47_code 4 = .ok (.ldc 151, 2) := by decide +kernel
theorem d15_6 : decode jdk_43_method_47_code 6 = .ok (.areturn, 1) := by decide +kernel
theorem d15_7 : decode jdk_43_method_47_code 7 = .ok (.new 1, 3) := by decide +kernel
theorem d15_10 : decode jdk_43_method_47_code 10 = .ok (.dup, 1) := by decide +kernel
theorem d15_11 : decode jdk_43_method_47_code 11 = .ok (.aload_n 0, 1) := by decide +kernel
theorem d15_12 : decode jdk_43_method_47_code 12 = .ok (.iload_n 1, 1) := by decide +kernel
theorem d15_13 : decode jdk_43_method_47_code 13 = .ok (.iload_n 1, 1) := by decide +kernel
theorem d15_14 : decode jdk_43_method_47_code 14 = .ok (.iload_n 2, 1) := by decide +kernel
theorem d15_15 : decode jdk_43_method_47_code 15 = .ok (.iadd, 1) := by decide +kernel
theorem d15_16 : decode jdk_43_method_47_code 16 = .ok (.invokestatic 232, 3) := by decide +kernel
theorem d15_19 : decode jdk_43_method_47_code 19 = .ok (.iconst 0, 1) := by decide +kernel
theorem d15_20 : decode jdk_43_method_47_code 20 = .ok (.invokespecial 112, 3) := by decide +kernel
theorem d15_23 : decode jdk_43_method_47_code 23 = .ok (.areturn, 1) := by decide +kernel
theorem pd12 : parseMethodDescriptor "([BB)V" = some ⟨[(.array .byte), .byte], none⟩ := by decide +kernel
theorem d9_0 : decode jdk_42_method_92_code 0 = .ok (.aload_n 0, 1) := by decide +kernel
theorem d9_1 : decode jdk_42_method_92_code 1 = .ok (.invokevirtual 505, 3) := by decide +kernel
theorem d9_4 : decode jdk_42_method_92_code 4 = .ok (.istore_n 3, 1) := by decide +kernel
theorem d9_5 : decode jdk_42_method_92_code 5 = .ok (.iload_n 1, 1) := by decide +kernel
theorem d9_6 : decode jdk_42_method_92_code 6 = .ok (.iload_n 2, 1) := by decide +kernel
theorem d9_7 : decode jdk_42_method_92_code 7 = .ok (.iload_n 3, 1) := by decide +kernel
theorem d9_8 : decode jdk_42_method_92_code 8 = .ok (.invokestatic 521, 3) := by decide +kernel
theorem d9_11 : decode jdk_42_method_92_code 11 = .ok (.iload_n 1, 1) := by decide +kernel
theorem d9_12 : decode jdk_42_method_92_code 12 = .ok (.ifCond .ne 10, 3) := by decide +kernel
theorem d9_15 : decode jdk_42_method_92_code 15 = .ok (.iload_n 2, 1) := by decide +kernel
theorem d9_16 : decode jdk_42_method_92_code 16 = .ok (.iload_n 3, 1) := by decide +kernel
theorem d9_17 : decode jdk_42_method_92_code 17 = .ok (.if_icmp .ne 5, 3) := by decide +kernel
theorem d9_20 : decode jdk_42_method_92_code 20 = .ok (.aload_n 0, 1) := by decide +kernel
theorem d9_21 : decode jdk_42_method_92_code 21 = .ok (.areturn, 1) := by decide +kernel
theorem d9_22 : decode jdk_42_method_92_code 22 = .ok (.iload_n 2, 1) := by decide +kernel
theorem d9_23 : decode jdk_42_method_92_code 23 = .ok (.iload_n 1, 1) := by decide +kernel
theorem d9_24 : decode jdk_42_method_92_code 24 = .ok (.isub, 1) := by decide +kernel
theorem d9_25 : decode jdk_42_method_92_code 25 = .ok (.istore 4, 2) := by decide +kernel
theorem d9_27 : decode jdk_42_method_92_code 27 = .ok (.aload_n 0, 1) := by decide +kernel
theorem d9_28 : decode jdk_42_method_92_code 28 = .ok (.invokevirtual 492, 3) := by decide +kernel
theorem d9_31 : decode jdk_42_method_92_code 31 = .ok (.ifCond .eq 16, 3) := by decide +kernel
theorem d9_34 : decode jdk_42_method_92_code 34 = .ok (.aload_n 0, 1) := by decide +kernel
theorem d9_35 : decode jdk_42_method_92_code 35 = .ok (.getfield 9, 3) := by decide +kernel
theorem d9_38 : decode jdk_42_method_92_code 38 = .ok (.iload_n 1, 1) := by decide +kernel
theorem d9_39 : decode jdk_42_method_92_code 39 = .ok (.iload 4, 2) := by decide +kernel
theorem d9_41 : decode jdk_42_method_92_code 41 = .ok (.invokestatic 685, 3) := by decide +kernel
theorem d9_44 : decode jdk_42_method_92_code 44 = .ok (.goto 13, 3) := by decide +kernel
theorem d9_47 : decode jdk_42_method_92_code 47 = .ok (.aload_n 0, 1) := by decide +kernel
theorem d9_48 : decode jdk_42_method_92_code 48 = .ok (.getfield 9, 3) := by decide +kernel
theorem d9_51 : decode jdk_42_method_92_code 51 = .ok (.iload_n 1, 1) := by decide +kernel
theorem d9_52 : decode jdk_42_method_92_code 52 = .ok (.iload 4, 2) := by decide +kernel
theorem d9_54 : decode jdk_42_method_92_code 54 = .ok (.invokestatic 689, 3) := by decide +kernel
theorem d9_57 : decode jdk_42_method_92_code 57 = .ok (.areturn, 1) := by decide +kernel
theorem pd13 : parseMethodDescriptor "()I" = some ⟨[], some .int⟩ := by decide +kernel
theorem pd14 : parseMethodDescriptor "(III)V" = some ⟨[.int, .int, .int], none⟩ := by decide +kernel
theorem pd15 : parseMethodDescriptor "([BII)Ljava/lang/String;" = some ⟨[(.array .byte), .int, .int], some (.object "java/lang/String")⟩ := by decide +kernel
theorem pn5 : plainName "com/example/strict_uri/stricturi/UriReference" = true := by first | (simp [plainName, overriddenIn]; done) | decide +kernel
theorem pd16 : parseMethodDescriptor "(II)Ljava/lang/String;" = some ⟨[.int, .int], some (.object "java/lang/String")⟩ := by decide +kernel
theorem pn6 : plainName "com/example/strict_uri/stricturi/UriReferenceQueryPinLaw" = true := by first | (simp [plainName, overriddenIn]; done) | decide +kernel
theorem pd17 : parseMethodDescriptor "(I)C" = some ⟨[.int], some .char⟩ := by decide +kernel
theorem pd18 : parseMethodDescriptor "([C)V" = some ⟨[(.array .char)], none⟩ := by decide +kernel
theorem pd19 : parseMethodDescriptor "(Ljava/lang/String;IIILcom/example/strict_uri/stricturi/HostKind;III)V" = some ⟨[(.object "java/lang/String"), .int, .int, .int, (.object "com/example/strict_uri/stricturi/HostKind"), .int, .int, .int], none⟩ := by decide +kernel
theorem pd20 : parseMethodDescriptor "()Ljava/lang/String;" = some ⟨[], some (.object "java/lang/String")⟩ := by decide +kernel
theorem pd21 : parseMethodDescriptor "(Ljava/lang/String;[CIII)Z" = some ⟨[(.object "java/lang/String"), (.array .char), .int, .int, .int], some .boolean⟩ := by decide +kernel
def own_b (c : Int32) : Int32 := c.toInt8.toInt32
theorem own_bb (c : Int32) : nar .byte (own_b c) = own_b c := by simp [nar, own_b]
def own_ch (cs : List Int32) : Prop := ∀ c ∈ cs, ¬ c < 0 ∧ ¬ (255 : Int32) < c
def own_bl : List Int32 → Nat → List Value
  | [], _ => []
  | _ :: cs, 0 => .int 0 :: own_bl cs 0
  | c :: cs, i + 1 => .int (own_b c) :: own_bl cs i
theorem own_bl_len : ∀ (cs : List Int32) (i : Nat), (own_bl cs i).length = cs.length
  | [], _ => rfl
  | _ :: cs, 0 => by simp [own_bl, own_bl_len cs 0]
  | _ :: cs, i + 1 => by simp [own_bl, own_bl_len cs i]
theorem own_bl_set : ∀ (cs : List Int32) (i : Nat), i < cs.length → (own_bl cs i).set i (.int (own_b (cs.getD i 0))) = own_bl cs (i + 1)
  | [], _, h => absurd h (Nat.not_lt_zero _)
  | c :: cs, 0, _ => by simp [own_bl]
  | c :: cs, i + 1, h => by
    have q := own_bl_set cs i (by simpa using h)
    simp only [own_bl, List.set_cons_succ, List.getD_cons_succ, q]
theorem own_bl_all : ∀ (cs : List Int32), own_bl cs cs.length = cs.map fun c => .int (own_b c)
  | [] => rfl
  | c :: cs => by simp [own_bl, own_bl_all cs]
theorem own_bl_0 : ∀ (cs : List Int32) (i : Nat), (own_bl cs 0).getD i (.int 0) = .int 0
  | [], i => by simp [own_bl]
  | c :: cs, 0 => by simp [own_bl]
  | c :: cs, i + 1 => by simp only [own_bl, List.getD_cons_succ]; exact own_bl_0 cs i
theorem own_gd (cs : List Int32) (i : Nat) : (cs.map Value.int).getD i (.int 0) = .int (cs.getD i 0) := by
  simp only [List.getD_eq_getElem?_getD, List.getElem?_map]
  cases cs[i]? <;> rfl
theorem own_gb (cs : List Int32) (i : Nat) : (cs.map fun c => Value.int (own_b c)).getD i (.int 0) = .int (own_b (cs.getD i 0)) := by
  simp only [List.getD_eq_getElem?_getD, List.getElem?_map]
  cases cs[i]? <;> rfl
theorem own_gm (cs : List Int32) (i : Nat) (h : i < cs.length) : cs.getD i 0 ∈ cs := by
  rw [List.getD_eq_getElem?_getD, List.getElem?_eq_getElem h]; exact List.getElem_mem h
theorem own_b_and : ∀ k : Fin 256, own_b (Int32.ofNat k.val) &&& 255 = Int32.ofNat k.val := by decide +kernel
theorem own_b_back {c : Int32} (h : ¬ c < 0 ∧ ¬ (255 : Int32) < c) : own_b c &&& 255 = c := by
  have q := nat_of h.1
  have h2 := h.2
  rw [Int32.lt_iff_toInt_lt] at h2
  have e : (255 : Int32).toInt = 255 := rfl
  have z := own_b_and ⟨c.toNatClampNeg, by omega⟩
  have e2 : Int32.ofNat c.toNatClampNeg = c := (back32 h.1).1
  simp only [e2] at z
  exact z
theorem own_b_inj {c d : Int32} (h : ¬ c < 0 ∧ ¬ (255 : Int32) < c) (h' : ¬ d < 0 ∧ ¬ (255 : Int32) < d) (e : own_b c = own_b d) : c = d := by
  rw [← own_b_back h, ← own_b_back h', e]
theorem own_list {a b : List Int32} (hl : a.length = b.length) (h : ∀ k, k < a.length → a.getD k 0 = b.getD k 0) : a = b := by
  apply List.ext_getElem hl
  intro i h1 h2
  have q := h i h1
  rw [List.getD_eq_getElem?_getD, List.getD_eq_getElem?_getD, List.getElem?_eq_getElem h1, List.getElem?_eq_getElem h2] at q
  exact q
def own_bi (b : Bool) : Int32 := if b = true then 1 else 0
theorem own_bi0 (b : Bool) : own_bi b = 0 ↔ b = false := by cases b <;> decide
theorem own_bin (b : Bool) : nar .boolean (own_bi b) = own_bi b := by cases b <;> decide
/-- the String at a spells cs (Latin-1) -/
def Str (Z : State) (h : Heap) (a : Addr) (cs : List Int32) : Prop := Exa Z h a "java/lang/String" ∧ Fld Z h a "java/lang/String" "coder" "B" (.int 0) ∧ ∃ (b : Addr) (k : ClassId) (n : Int32), Fld Z h a "java/lang/String" "value" "[B" (.ref b) ∧ Arv Z h b k .byte n (cs.map fun c => .int (own_b c)) (.int 0) ∧ n.toNatClampNeg = cs.length
theorem Str.ext {Z : State} {h h' : Heap} {a : Addr} {cs : List Int32} (X : Str Z h a cs) (E : Ext h h') : Str Z h' a cs := by
  obtain ⟨h1, h2, b, k, n, h3, h4, h5⟩ := X
  exact ⟨h1.ext E, h2.ext E, b, k, n, h3.ext E, h4.ext E, h5⟩
theorem own_fldinj {Z : State} {h : Heap} {a : Addr} {C n d : String} {v w : Value} (F : Fld Z h a C n d v) (G : Fld Z h a C n d w) : v = w := by
  obtain ⟨c1, _, _, _, _, h1, h2, -, -, -, -, h7⟩ := F
  obtain ⟨c2, _, _, _, _, g1, g2, -, -, -, -, g7⟩ := G
  cases h1.symm.trans g1; cases h2.symm.trans g2; exact Option.some.inj (h7.symm.trans g7)
theorem Str.inj {Z : State} {h : Heap} {a : Addr} {cs cs' : List Int32} (X : Str Z h a cs) (Y : Str Z h a cs') (hc : own_ch cs) (hc' : own_ch cs') : cs = cs' := by
  obtain ⟨-, -, b, k, n, h3, h4, h5⟩ := X
  obtain ⟨-, -, b', k', n', g3, g4, g5⟩ := Y
  cases own_fldinj h3 g3
  obtain ⟨c1, A1, -, S1, -, H1, -⟩ := h4
  obtain ⟨c2, A2, -, S2, -, H2, -⟩ := g4
  cases A1.1.symm.trans A2.1
  have hl : cs.length = cs'.length := by omega
  refine own_list hl fun i hi => ?_
  have e1 := H1 i (by omega)
  have e2 := H2 i (by omega)
  rw [own_gb] at e1 e2
  have e := Option.some.inj (e1.symm.trans e2)
  injection e with e
  exact own_b_inj (hc _ (own_gm cs i hi)) (hc' _ (own_gm cs' i (by omega))) e
theorem own_n {n : Int32} {k : Nat} (h0 : ¬ n < 0) (h : n.toNatClampNeg = k) : n.toInt = k := by rw [nat_of h0, h]
theorem own_ltI {x n : Int32} {i k : Nat} (h1 : x.toInt = i) (h2 : n.toInt = k) (h : i < k) : x < n := by rw [Int32.lt_iff_toInt_lt]; omega
theorem own_geI {x n : Int32} {i k : Nat} (h1 : x.toInt = i) (h2 : n.toInt = k) (h : k ≤ i) : ¬ x < n := by rw [Int32.lt_iff_toInt_lt]; omega
theorem own_inc1 {x : Int32} {i : Nat} (h1 : x.toInt = i) (h : i < 100000) : (x + 1).toInt = ((i + 1 : Nat) : Int) := by
  have e3 : (1 : Int32).toInt = 1 := rfl
  rw [XT.add32 ⟨by omega, by omega⟩]; omega
theorem own_nn {x : Int32} {i : Nat} (h1 : x.toInt = i) : ¬ x < 0 := by rw [XT.negI32]; omega
theorem own_cl {x : Int32} {i : Nat} (h1 : x.toInt = i) : x.toNatClampNeg = i := by
  have := nat_of (own_nn h1); omega
theorem own_nar256 : ∀ k : Fin 256, nar .char (Int32.ofNat k.val) = Int32.ofNat k.val := by decide +kernel
theorem own_rng256 {P : Int32 → Prop} (H : ∀ k : Fin 256, P (Int32.ofNat k.val)) {c : Int32} (h : ¬ c < 0 ∧ ¬ (255 : Int32) < c) : P c := by
  have q := nat_of h.1
  have h2 := h.2
  rw [Int32.lt_iff_toInt_lt] at h2
  have e : (255 : Int32).toInt = 255 := rfl
  have z := H ⟨c.toNatClampNeg, by omega⟩
  have e2 : Int32.ofNat c.toNatClampNeg = c := (back32 h.1).1
  simp only [e2] at z
  exact z
theorem own_nar {c : Int32} (h : ¬ c < 0 ∧ ¬ (255 : Int32) < c) : nar .char c = c := own_rng256 (P := fun c => nar .char c = c) own_nar256 h
theorem own_ch0 : own_ch [] := fun _ h => nomatch h
theorem own_chS {c : Int32} {cs : List Int32} (h : ¬ c < 0 ∧ ¬ (255 : Int32) < c) (t : own_ch cs) : own_ch (c :: cs) := fun x hx => (List.mem_cons.mp hx).elim (fun e => e ▸ h) (t x)
theorem own_u16 (t : UInt32) (h : t.toNat < 65536) : t.toUInt16.toUInt32 = t := by
  apply UInt32.toNat_inj.mp
  rw [UInt16.toNat_toUInt32, UInt32.toNat_toUInt16]
  exact Nat.mod_eq_of_lt h
theorem own_nc' (x : Int32) : x.toUInt32.toUInt16.toUInt32.toInt32.toUInt32.toUInt16.toUInt32.toInt32 = x.toUInt32.toUInt16.toUInt32.toInt32 := by
  have : x.toUInt32.toUInt16.toUInt32.toInt32.toUInt32 = x.toUInt32.toUInt16.toUInt32 := rfl
  rw [this, own_u16 x.toUInt32.toUInt16.toUInt32 (by rw [UInt16.toNat_toUInt32]; exact UInt16.toNat_lt _)]
theorem own_nc (x : Int32) : nar .char x.toUInt32.toUInt16.toUInt32.toInt32 = x.toUInt32.toUInt16.toUInt32.toInt32 := own_nc' x
theorem own_m255 (x : Int32) : (x &&& 255).toUInt32.toNat ≤ 255 := by
  have q : (x &&& 255).toUInt32.toNat = x.toBitVec.toNat &&& 255 := by
    show (x &&& 255).toBitVec.toNat = _
    simp
  rw [q]; exact Nat.and_le_right
theorem own_c255 (x : Int32) : ¬ (x &&& 255).toUInt32.toUInt16.toUInt32.toInt32 < 0 ∧ ¬ (255 : Int32) < (x &&& 255).toUInt32.toUInt16.toUInt32.toInt32 := by
  have h2 := own_m255 x
  rw [own_u16 _ (by omega)]
  have e : (x &&& 255).toUInt32.toInt32.toInt = (x &&& 255).toUInt32.toNat := by
    show ((x &&& 255).toUInt32).toBitVec.toInt = _
    rw [BitVec.toInt_eq_toNat_of_lt]
    · rfl
    · show 2 * (x &&& 255).toUInt32.toNat < 2 ^ 32
      omega
  constructor
  · rw [XT.negI32]; omega
  · rw [Int32.lt_iff_toInt_lt]; have : (255 : Int32).toInt = 255 := rfl; omega
theorem own_rf {v : Value} {t : FieldType} (h : v.isRef = true) (ht : t.isReference = true) : fits t v = true ∧ narrow t v = v := by
  rcases ref_cases h with rfl | ⟨a, rfl⟩ <;> cases t <;> simp_all [FieldType.isReference, fits, narrow]
theorem own_comp {s : State} {args a0 : Array Value} (hw1 : (Jvm.Cond.initializedFor "java/lang/String" "COMPACT_STRINGS" "Z").before args s = true) (h1 : (Jvm.Cond.isInt (Jvm.Term.static "java/lang/String" "COMPACT_STRINGS" "Z")).before args s = true) (h2 : (Jvm.Cond.not (Jvm.Cond.eq (Jvm.Term.static "java/lang/String" "COMPACT_STRINGS" "Z") (Jvm.Term.int 0))).before args s = true) : ∃ cz : Int32, ¬ cz = 0 ∧ Sta s s.heap "java/lang/String" "COMPACT_STRINGS" "Z" (.int cz) := by
  obtain ⟨cz, ev⟩ := is_v (Cond.before_iff.mp h1)
  refine ⟨cz, fun e => ?_, Sta.start ev (Or.inl hw1)⟩
  have q := not_v (Cond.before_iff.mp h2)
  simp [Jvm.Cond.value, ev, Jvm.Term.int_eval, e] at q
theorem own_modm (x k n : Int32) (hk : ¬ k < 0) (hn : 0 < n.toInt) : 0 ≤ ((x &&& k) % n).toInt ∧ ((x &&& k) % n).toInt < n.toInt := by
  have h0 : ¬ (x &&& k) < 0 := fun q => absurd ((XT.and_neg32 x k).mp q).2 hk
  rw [XT.negI32] at h0
  rw [Int32.toInt_mod]
  exact ⟨Int.tmod_nonneg _ (by omega), Int.tmod_lt_of_pos _ hn⟩
theorem own_mod (x n : Int32) (hn : 0 < n.toInt) : 0 ≤ ((x &&& 2147483647) % n).toInt ∧ ((x &&& 2147483647) % n).toInt < n.toInt := by
  have h0 : ¬ (x &&& 2147483647) < 0 := fun q => absurd ((XT.and_neg32 x 2147483647).mp q).2 (by decide)
  rw [XT.negI32] at h0
  rw [Int32.toInt_mod]
  exact ⟨Int.tmod_nonneg _ (by omega), Int.tmod_lt_of_pos _ hn⟩
set_option maxRecDepth 65536
set_option maxHeartbeats 4000000
theorem own_wS {Z : State} {b0 : Array Value} (hw : ∀ d ∈ tables_1, d.before b0 Z = true) : ∀ a ∈ Bundle.stringAtoms, a.before b0 Z = true := by
  intro a ha
  simp only [Bundle.stringAtoms, List.mem_cons, List.not_mem_nil, or_false] at ha
  rcases ha with rfl | rfl | rfl | rfl | rfl | rfl | rfl
  · exact tw hw 5
  · exact tw hw 4
  · exact tw hw 21
  · exact tw hw 31
  · exact tw hw 29
  · exact tw hw 93
  · exact tw hw 94
theorem own_ew0 {Z : State} {b0 : Array Value} (hw : ∀ d ∈ tables_1, d.before b0 Z = true) : EW Z b0 own_EL := (EW.cons (tw hw 92) (by decide) EW.nil)
theorem con_cmpL (l : Launch) (Z : State) (b0 : Array Value) (hw : ∀ d ∈ tables_1, d.before b0 Z = true) (src dst : Addr) (ks kd : ClassId) (n : Int32) (cs : List Int32) (hn : n.toNatClampNeg = cs.length) (hbig : cs.length < 5000) (hcs : own_ch cs) (h0 : Heap) (hE : Ext Z.heap h0) (As : Arv Z h0 src ks .char n (cs.map Value.int) (.int 0)) (Ad : Arv Z h0 dst kd .byte n (own_bl cs 0) (.int 0)) (hne : src ≠ dst) (zd : Z.heap.size ≤ dst) : Con l Z (⟨"java/lang/StringUTF16", "compress", "([CI[BII)I"⟩ : MethodName) jdk_52_method_21_code 7 (some .int) ({ frames := 0, cells := 0, slots := 0, locals := 0 } : Room) #[(.ref src), (.int 0), (.ref dst), (.int 0), (.int n)] h0 [dst] (QV fun w h => w = .int n ∧ Keep h0 h [dst] ∧ Arv Z h dst kd .byte n (cs.map fun c => .int (own_b c)) (.int 0)) := by
  refine Con.of (plainFor_of_name pn0) hE ⟨b0, own_ew0 hw⟩ (fun x hx => by rw [List.mem_singleton.mp hx]; exact Ad.lt) (L0 := #[.val (.ref src), .val (.int 0), .val (.ref dst), .val (.int 0), .val (.int n), .unset, .unset]) (fun m => by first | (simp [entryFrame, mkF, argsToLocals, Value.category]; done) | rfl) ?_
  intro p e s m args below meth c T W
  have hn0 : ¬ n < 0 := by obtain ⟨cl, A1, A2, A3, A4, A5, A6⟩ := As; exact A4
  have hnI := own_n hn0 hn
  have loop : ∀ (r i : Nat) (x : Int32) (T : State) (h : Heap) (s6 : Slot), i + r = cs.length → x.toInt = i → (s6 = .unset ∨ ∃ w, s6 = .val w ∧ w.category = 1) → Wk p l e ({ frames := 0, cells := 0, slots := 0, locals := 0 } : Room) s m args below meth c Z (⟨"java/lang/StringUTF16", "compress", "([CI[BII)I"⟩ : MethodName) jdk_52_method_21_code 7 (some .int) T h 0 0 [dst] → Arv Z h src ks .char n (cs.map Value.int) (.int 0) → Arv Z h dst kd .byte n (own_bl cs i) (.int 0) → Keep h0 h [dst] → Go p e below (Gd s below Z (QV fun w h => w = .int n ∧ Keep h0 h [dst] ∧ Arv Z h dst kd .byte n (cs.map fun c => .int (own_b c)) (.int 0)) (({ frames := 0, cells := 0, slots := 0, locals := 0 } : Room)).cells (({ frames := 0, cells := 0, slots := 0, locals := 0 } : Room)).slots) T (mkF m 3 #[.val (.ref src), .val (.int x), .val (.ref dst), .val (.int x), .val (.int n), .val (.int x), s6] []) := by
    intro r
    induction r with
    | zero =>
      intro i x T h s6 hi hx h6 W As Ad K
      refine o_iload 5 W d5_3 rfl ?_
      refine o_iload 7 W d5_5 rfl ?_
      refine o_icY 44 W d5_7 (XT.ii_ge_t (own_geI hx hnI (by omega))) ?_
      refine o_iload 46 W d5_44 rfl ?_
      have e : i = cs.length := by omega
      rw [e, own_bl_all] at Ad
      exact o_iret W d5_46 (⟨rfl, K, Ad⟩)
    | succ r ih =>
      intro i x T h s6 hi hx h6 W As Ad K
      have hlt : i < cs.length := by omega
      have hj := And.intro (own_nn hx) (own_ltI hx hnI hlt)
      have hc := hcs _ (own_gm cs i hlt)
      refine o_iload 5 W d5_3 rfl ?_
      refine o_iload 7 W d5_5 rfl ?_
      refine o_icN 10 W d5_7 (XT.ii_ge_f (own_ltI hx hnI hlt)) ?_
      refine o_aloadN 11 W d5_10 rfl rfl ?_
      refine o_iloadN 12 W d5_11 rfl ?_
      refine o_caloadV 13 W As hj ((congrArg (fun z => (cs.map Value.int).getD z (.int 0)) (own_cl hx)).trans (own_gd cs i)) d5_12 ?_
      refine o_istore 15 W #[.val (.ref src), .val (.int x), .val (.ref dst), .val (.int x), .val (.int n), .val (.int x), .val (.int (cs.getD i 0))] d5_13 (by first | exact XS.store1 rfl h6 rfl | (rcases h6 with rfl | ⟨w, rfl, hw6⟩ <;> first | rfl | simp [storeLocals, storeSelf, setAt, hw6])) ?_
      refine o_iload 17 W d5_15 rfl ?_
      refine o_sipush 20 W (255) d5_17 (by first | rfl | decide) ?_
      refine o_icY 26 W d5_20 (XT.ii_le_t hc.2) ?_
      refine o_aloadN 27 W d5_26 rfl rfl ?_
      refine o_iloadN 28 W d5_27 rfl ?_
      refine o_iload 30 W d5_28 rfl ?_
      refine o_i2b 31 W d5_30 ?_
      refine o_bastore 32 i W Ad hj (own_cl hx) (by rw [own_bl_len]; exact hlt) (List.mem_singleton.mpr rfl) zd d5_31 (fun T h W w1 Ad => ?_)
      have Ad : Arv Z h dst kd .byte n (own_bl cs (i + 1)) (.int 0) := by rw [← own_bl_set cs i hlt, ← own_bb]; exact Ad
      refine o_iinc 35 W (x + (1 : Int32)) #[.val (.ref src), .val (.int (x + (1 : Int32))), .val (.ref dst), .val (.int x), .val (.int n), .val (.int x), .val (.int (cs.getD i 0))] d5_32 rfl rfl rfl ?_
      refine o_iinc 38 W (x + (1 : Int32)) #[.val (.ref src), .val (.int (x + (1 : Int32))), .val (.ref dst), .val (.int (x + (1 : Int32))), .val (.int n), .val (.int x), .val (.int (cs.getD i 0))] d5_35 rfl rfl rfl ?_
      refine o_iinc 41 W (x + (1 : Int32)) #[.val (.ref src), .val (.int (x + (1 : Int32))), .val (.ref dst), .val (.int (x + (1 : Int32))), .val (.int n), .val (.int (x + (1 : Int32))), .val (.int (cs.getD i 0))] d5_38 rfl rfl rfl ?_
      refine o_goto 3 W d5_41 ?_
      exact ih (i + 1) (x + 1) T h _ (by omega) (own_inc1 hx (by omega)) (Or.inr ⟨_, rfl, rfl⟩) W (As.other w1 hne) Ad (K.wr w1 (Or.inl (List.mem_singleton.mpr rfl)))
  refine o_iconst 1 W (0) d5_0 (by first | rfl | decide) ?_
  refine o_istore 3 W #[.val (.ref src), .val (.int 0), .val (.ref dst), .val (.int 0), .val (.int n), .val (.int (0 : Int32)), .unset] d5_1 rfl ?_
  exact loop cs.length 0 0 T h0 _ (by omega) rfl (Or.inl rfl) W As Ad (Keep.refl _ _)
theorem con_cmp (l : Launch) (Z : State) (b0 : Array Value) (hw : ∀ d ∈ tables_1, d.before b0 Z = true) (src : Addr) (ks : ClassId) (n : Int32) (cs : List Int32) (hn : n.toNatClampNeg = cs.length) (hbig : cs.length ≤ 16) (hcs : own_ch cs) (h0 : Heap) (hE : Ext Z.heap h0) (As : Arv Z h0 src ks .char n (cs.map Value.int) (.int 0)) : Con l Z (⟨"java/lang/StringUTF16", "compress", "([CII)[B"⟩ : MethodName) jdk_52_method_16_code 6 (some (.array .byte)) ({ frames := 1, cells := 1, slots := 16, locals := 40 } : Room) #[(.ref src), (.int 0), (.int n)] h0 [] (QV fun w h => ∃ d kd, w = .ref d ∧ h0.size ≤ d ∧ Ext h0 h ∧ Arv Z h d kd .byte n (cs.map fun c => .int (own_b c)) (.int 0)) := by
  refine Con.of (plainFor_of_name pn0) hE ⟨b0, own_ew0 hw⟩ all0 (L0 := #[.val (.ref src), .val (.int 0), .val (.int n), .unset, .unset, .unset]) (fun m => by first | (simp [entryFrame, mkF, argsToLocals, Value.category]; done) | rfl) ?_
  intro p e s m args below meth c T W
  have hn0 : ¬ n < 0 := by obtain ⟨cl, A1, A2, A3, A4, A5, A6⟩ := As; exact A4
  refine o_iloadN 1 W d4_0 rfl ?_
  refine o_newarray 3 16 W (tw hw 21) d4_1 hn0 (by omega) (fun T h d kd W Ed Ad gd zd => ?_)
  have hlt := As.lt
  have As := As.ext Ed
  have Ad : Arv Z h d kd .byte n (own_bl cs 0) (.int 0) := Arv.pad Ad fun i => by rw [own_bl_0]; rfl
  refine o_astoreN 4 W #[.val (.ref src), .val (.int 0), .val (.int n), .val (.ref d), .unset, .unset] d4_3 rfl rfl ?_
  refine o_aloadN 5 W d4_4 rfl rfl ?_
  refine o_iloadN 6 W d4_5 rfl ?_
  refine o_aloadN 7 W d4_6 rfl rfl ?_
  refine o_iconst 8 W (0) d4_7 (by first | rfl | decide) ?_
  refine o_iloadN 9 W d4_8 rfl ?_
  refine o_static 12 [(.ref src), (.int 0), (.ref d), (.int (0 : Int32)), (.int n)] W (tw hw 22) (tw hw 23) (tw hw 19) (tw hw 24) (con_cmpL l Z b0 hw src d ks kd n cs hn (by omega) hcs _ W.old As Ad (Nat.ne_of_lt (Nat.lt_of_lt_of_le hlt gd)) zd) pd0 d4_9 rfl (fun x hx => hx) (fun T h v W qq gg => ?_)
  obtain ⟨_, rfl, rfl, K, Ad⟩ := qq
  show Go p e below _ _ (mkF m 12 #[.val (.ref src), .val (.int 0), .val (.int n), .val (.ref d), .unset, .unset] [(.int n)])
  refine o_istore 14 W #[.val (.ref src), .val (.int 0), .val (.int n), .val (.ref d), .val (.int n), .unset] d4_12 rfl ?_
  refine o_iload 16 W d4_14 rfl ?_
  refine o_iloadN 17 W d4_16 rfl ?_
  refine o_icY 57 W d4_17 (XT.ii_eq_t rfl) ?_
  refine o_aloadN 58 W d4_57 rfl rfl ?_
  exact o_aret W rfl rfl rfl d4_58 (⟨d, kd, rfl, gd, own_ext_keep Ed K gd, Ad⟩)
theorem con_cod (l : Launch) (Z : State) (b0 : Array Value) (hw : ∀ d ∈ tables_1, d.before b0 Z = true) (d : Addr) (kd : ClassId) (n : Int32) (vs : List Value) (h0 : Heap) (hE : Ext Z.heap h0) (Ad : Arv Z h0 d kd .byte n vs (.int 0)) : Con l Z (⟨"java/lang/StringUTF16", "coderFromArrayLen", "([BI)B"⟩ : MethodName) jdk_52_method_15_code 2 (some .byte) ({ frames := 0, cells := 0, slots := 0, locals := 0 } : Room) #[(.ref d), (.int n)] h0 [] (QV fun w h => w = .int 0 ∧ h0 = h) := by
  refine Con.of (plainFor_of_name pn0) hE ⟨b0, own_ew0 hw⟩ all0 (L0 := #[.val (.ref d), .val (.int n)]) (fun m => by first | (simp [entryFrame, mkF, argsToLocals, Value.category]; done) | rfl) ?_
  intro p e s m args below meth c T W
  refine o_iloadN 1 W d6_0 rfl ?_
  refine o_aloadN 2 W d6_1 rfl rfl ?_
  refine o_alenV 3 W Ad d6_2 ?_
  refine o_isub 4 W d6_3 ?_
  refine o_bipush 6 W (31) d6_4 (by first | rfl | decide) ?_
  refine o_iushr 7 W d6_6 ?_
  refine o_i2b 8 W d6_7 ?_
  exact o_nret W 0 (by simp) (by rw [Int32.sub_self]; rfl) d6_8 (⟨rfl, rfl⟩)
theorem con_sin2 (l : Launch) (Z : State) (b0 : Array Value) (hw : ∀ d ∈ tables_1, d.before b0 Z = true) (a src : Addr) (ks : ClassId) (n : Int32) (cs : List Int32) (hn : n.toNatClampNeg = cs.length) (hbig : cs.length ≤ 16) (hcs : own_ch cs) (h0 : Heap) (hE : Ext Z.heap h0) (As : Arv Z h0 src ks .char n (cs.map Value.int) (.int 0)) (A : Exa Z h0 a "java/lang/String") (F1 : Fld Z h0 a "java/lang/String" "value" "[B" .null) (F2 : Fld Z h0 a "java/lang/String" "coder" "B" (.int 0)) (za : Z.heap.size ≤ a) (cz : Int32) (hcz : ¬ cz = 0) (SC : Sta Z Z.heap "java/lang/String" "COMPACT_STRINGS" "Z" (.int cz)) (hpos : cs ≠ []) : Con l Z (⟨"java/lang/String", "<init>", "([CIILjava/lang/Void;)V"⟩ : MethodName) jdk_42_method_149_code 6 none ({ frames := 2, cells := 1, slots := 16, locals := 64 } : Room) #[(.ref a), (.ref src), (.int 0), (.int n), .null] h0 [a] (Q0 fun h => Keep h0 h [a] ∧ Str Z h a cs) := by
  refine Con.of (plainFor_of_name pn1) hE ⟨b0, own_ew0 hw⟩ (fun x hx => by rw [List.mem_singleton.mp hx]; exact A.lt) (L0 := #[.val (.ref a), .val (.ref src), .val (.int 0), .val (.int n), .val (.null), .unset]) (fun m => by first | (simp [entryFrame, mkF, argsToLocals, Value.category]; done) | rfl) ?_
  intro p e s m args below meth c T W
  have hn0 : ¬ n < 0 := by obtain ⟨cl, A1, A2, A3, A4, A5, A6⟩ := As; exact A4
  have hnI := own_n hn0 hn
  refine o_aloadN 1 W d2_0 rfl rfl ?_
  refine o_initO 4 W (tw hw 13) (tw hw 14) (tw hw 15) d2_1 (fun T W => ?_)
  refine o_iloadN 5 W d2_4 rfl ?_
  have F0 := A
  have hnz : ¬ n = 0 := fun e => hpos (List.eq_nil_of_length_eq_zero (by rw [e] at hnI; have : (0 : Int32).toInt = 0 := rfl; omega))
  refine o_ifY 27 W d2_5 (XT.i0_ne_t hnz) ?_
  refine o_getS 30 W (tw hw 16) SC d2_27 fun T W => ?_
  refine o_ifN 33 W d2_30 (XT.i0_eq_f hcz) ?_
  refine o_aloadN 34 W d2_33 rfl rfl ?_
  refine o_iloadN 35 W d2_34 rfl ?_
  refine o_iloadN 36 W d2_35 rfl ?_
  refine o_static 39 [(.ref src), (.int 0), (.int n)] W (tw hw 17) (tw hw 18) (tw hw 19) (tw hw 20) (con_cmp l Z b0 hw src ks n cs hn hbig hcs _ W.old As) pd1 d2_36 rfl all0 (fun T h v W qq gg => ?_)
  obtain ⟨_, rfl, d, kd, rfl, gd, Ed, Ad⟩ := qq
  show Go p e below _ _ (mkF m 39 #[.val (.ref a), .val (.ref src), .val (.int 0), .val (.int n), .val (.null), .unset] [(.ref d)])
  have A := A.ext Ed
  have F1 := F1.ext Ed
  have F2 := F2.ext Ed
  have K0 := (Keep.refl h0 [a]).ext Ed
  have had : d ≠ a := Nat.ne_of_gt (Nat.lt_of_lt_of_le F0.lt gd)
  refine o_astore 41 W #[.val (.ref a), .val (.ref src), .val (.int 0), .val (.int n), .val (.null), .val (.ref d)] d2_39 rfl rfl ?_
  refine o_aloadN 42 W d2_41 rfl rfl ?_
  refine o_aload 44 W d2_42 rfl rfl ?_
  refine o_iloadN 45 W d2_44 rfl ?_
  refine o_static 48 [(.ref d), (.int n)] W (tw hw 25) (tw hw 26) (tw hw 19) (tw hw 27) (con_cod l Z b0 hw d kd n _ _ W.old Ad) pd2 d2_45 rfl all0 (fun T h v W qq gg => ?_)
  obtain ⟨_, rfl, rfl, rfl⟩ := qq
  show Go p e below _ _ (mkF m 48 #[.val (.ref a), .val (.ref src), .val (.int 0), .val (.int n), .val (.null), .val (.ref d)] [(.int 0), (.ref a)])
  refine o_putF 51 W (tw hw 28) F2 A (Or.inr ⟨(tw hw 29), rfl, rfl⟩) (tw hw 4) (ty := .byte) (by decide) rfl rfl (Or.inl (List.mem_singleton.mpr rfl)) za d2_48 (fun T h W w1 => ?_)
  have K0 := K0.wr w1 (Or.inl (List.mem_singleton.mpr rfl))
  have A := A.wr w1
  have F2 := F2.same w1
  have F1 := F1.other w1 (Or.inr (slot_ne (C := "java/lang/String") (Or.inr (tw hw 31)) (Or.inr (tw hw 29)) (by decide) (t := (.array .byte)) (t' := .byte) (by decide) (by decide)))
  have Ad := Ad.other w1 had
  refine o_aloadN 52 W d2_51 rfl rfl ?_
  refine o_aload 54 W d2_52 rfl rfl ?_
  refine o_putF 57 W (tw hw 30) F1 A (Or.inr ⟨(tw hw 31), rfl, rfl⟩) (tw hw 4) (ty := (.array .byte)) (by decide) rfl rfl (Or.inl (List.mem_singleton.mpr rfl)) za d2_54 (fun T h W w2 => ?_)
  have K0 := K0.wr w2 (Or.inl (List.mem_singleton.mpr rfl))
  have A := A.wr w2
  have F1 := F1.same w2
  have F2 := F2.other w2 (Or.inr (slot_ne (C := "java/lang/String") (Or.inr (tw hw 29)) (Or.inr (tw hw 31)) (by decide) (t := .byte) (t' := (.array .byte)) (by decide) (by decide)))
  have Ad := Ad.other w2 had
  exact o_ret W d2_57 (⟨K0, A, F2, d, kd, n, F1, Ad, hn⟩)
theorem con_sin (l : Launch) (Z : State) (b0 : Array Value) (hw : ∀ d ∈ tables_1, d.before b0 Z = true) (a src : Addr) (ks : ClassId) (n : Int32) (cs : List Int32) (hn : n.toNatClampNeg = cs.length) (hbig : cs.length ≤ 16) (hcs : own_ch cs) (h0 : Heap) (hE : Ext Z.heap h0) (As : Arv Z h0 src ks .char n (cs.map Value.int) (.int 0)) (A : Exa Z h0 a "java/lang/String") (F1 : Fld Z h0 a "java/lang/String" "value" "[B" .null) (F2 : Fld Z h0 a "java/lang/String" "coder" "B" (.int 0)) (za : Z.heap.size ≤ a) (cz : Int32) (hcz : ¬ cz = 0) (SC : Sta Z Z.heap "java/lang/String" "COMPACT_STRINGS" "Z" (.int cz)) (hpos : cs ≠ []) : Con l Z (⟨"java/lang/String", "<init>", "([C)V"⟩ : MethodName) jdk_42_method_3_code 2 none ({ frames := 3, cells := 1, slots := 16, locals := 96 } : Room) #[(.ref a), (.ref src)] h0 [a] (Q0 fun h => Keep h0 h [a] ∧ Str Z h a cs) := by
  refine Con.of (plainFor_of_name pn1) hE ⟨b0, own_ew0 hw⟩ (fun x hx => by rw [List.mem_singleton.mp hx]; exact A.lt) (L0 := #[.val (.ref a), .val (.ref src)]) (fun m => by first | (simp [entryFrame, mkF, argsToLocals, Value.category]; done) | rfl) ?_
  intro p e s m args below meth c T W
  refine o_aloadN 1 W d1_0 rfl rfl ?_
  refine o_aloadN 2 W d1_1 rfl rfl ?_
  refine o_iconst 3 W (0) d1_2 (by first | rfl | decide) ?_
  refine o_aloadN 4 W d1_3 rfl rfl ?_
  refine o_alenV 5 W As d1_4 ?_
  refine o_null 6 W d1_5 ?_
  refine o_special 9 [(.ref src), (.int (0 : Int32)), (.int n), (.null)] W (tw hw 9) (tw hw 10) (tw hw 5) (tw hw 12) (con_sin2 l Z b0 hw a src ks n cs hn hbig hcs _ W.old As A F1 F2 za cz hcz SC hpos) pd3 d1_6 rfl (fun x hx => hx) (fun T h v W qq gg => ?_)
  obtain ⟨rfl, K0, X⟩ := qq
  show Go p e below _ _ (mkF m 9 #[.val (.ref a), .val (.ref src)] [])
  exact o_ret W d1_9 (⟨K0, X⟩)
theorem con_cdr (l : Launch) (Z : State) (b0 : Array Value) (hw : ∀ d ∈ tables_1, d.before b0 Z = true) (a : Addr) (h0 : Heap) (hE : Ext Z.heap h0) (F : Fld Z h0 a "java/lang/String" "coder" "B" (.int 0)) (cz : Int32) (hcz : ¬ cz = 0) (SC : Sta Z Z.heap "java/lang/String" "COMPACT_STRINGS" "Z" (.int cz)) : Con l Z (⟨"java/lang/String", "coder", "()B"⟩ : MethodName) jdk_42_method_152_code 1 (some .byte) ({ frames := 0, cells := 0, slots := 0, locals := 0 } : Room) #[(.ref a)] h0 [] (QV fun w h => w = .int 0 ∧ h0 = h) := by
  refine Con.of (plainFor_of_name pn1) hE ⟨b0, own_ew0 hw⟩ all0 (L0 := #[.val (.ref a)]) (fun m => by first | (simp [entryFrame, mkF, argsToLocals, Value.category]; done) | rfl) ?_
  intro p e s m args below meth c T W
  refine o_getS 3 W (tw hw 16) SC d11_0 fun T W => ?_
  refine o_ifN 6 W d11_3 (XT.i0_eq_f hcz) ?_
  refine o_aloadN 7 W d11_6 rfl rfl ?_
  refine o_getF 10 W (tw hw 28) F d11_7 (fun T W => ?_)
  refine o_goto 14 W d11_10 ?_
  exact o_nret W (0 : Int32) (by simp) (by decide) d11_14 (⟨rfl, rfl⟩)
theorem con_len (l : Launch) (Z : State) (b0 : Array Value) (hw : ∀ d ∈ tables_1, d.before b0 Z = true) (a : Addr) (cs : List Int32) (h0 : Heap) (hE : Ext Z.heap h0) (X : Str Z h0 a cs) (cz : Int32) (hcz : ¬ cz = 0) (SC : Sta Z Z.heap "java/lang/String" "COMPACT_STRINGS" "Z" (.int cz)) : Con l Z (⟨"java/lang/String", "length", "()I"⟩ : MethodName) jdk_42_method_54_code 1 (some .int) ({ frames := 1, cells := 0, slots := 0, locals := 16 } : Room) #[(.ref a)] h0 [] (QV fun w h => ∃ n : Int32, w = .int n ∧ n.toInt = cs.length ∧ h0 = h) := by
  refine Con.of (plainFor_of_name pn1) hE ⟨b0, own_ew0 hw⟩ all0 (L0 := #[.val (.ref a)]) (fun m => by first | (simp [entryFrame, mkF, argsToLocals, Value.category]; done) | rfl) ?_
  intro p e s m args below meth c T W
  obtain ⟨E1, C1, d, k, n, V1, A1, l1⟩ := X
  have hn0 : ¬ n < 0 := by obtain ⟨cl, B1, B2, B3, B4, B5, B6⟩ := A1; exact B4
  refine o_aloadN 1 W d10_0 rfl rfl ?_
  refine o_getF 4 W (tw hw 30) V1 d10_1 (fun T W => ?_)
  refine o_alenV 5 W A1 d10_4 ?_
  refine o_aloadN 6 W d10_5 rfl rfl ?_
  refine o_virtual 9 [] W (tw hw 70) (tw hw 71) (tw hw 73) (tw hw 72) (tw hw 5) (tw hw 74) (E1) (con_cdr l Z b0 hw a _ W.old C1 cz hcz SC) pd4 d10_6 rfl all0 (fun T h v W qq gg => ?_)
  obtain ⟨_, rfl, rfl, rfl⟩ := qq
  show Go p e below _ _ (mkF m 9 #[.val (.ref a)] [(.int (0 : Int32)), (.int n)])
  refine o_ishr 10 W d10_9 ?_
  exact o_iret W d10_10 (⟨n, by simp, own_n hn0 l1, rfl⟩)
theorem con_lat (l : Launch) (Z : State) (b0 : Array Value) (hw : ∀ d ∈ tables_1, d.before b0 Z = true) (a : Addr) (h0 : Heap) (hE : Ext Z.heap h0) (F : Fld Z h0 a "java/lang/String" "coder" "B" (.int 0)) (cz : Int32) (hcz : ¬ cz = 0) (SC : Sta Z Z.heap "java/lang/String" "COMPACT_STRINGS" "Z" (.int cz)) : Con l Z (⟨"java/lang/String", "isLatin1", "()Z"⟩ : MethodName) jdk_42_method_154_code 1 (some .boolean) ({ frames := 0, cells := 0, slots := 0, locals := 0 } : Room) #[(.ref a)] h0 [] (QV fun w h => w = .int 1 ∧ h0 = h) := by
  refine Con.of (plainFor_of_name pn1) hE ⟨b0, own_ew0 hw⟩ all0 (L0 := #[.val (.ref a)]) (fun m => by first | (simp [entryFrame, mkF, argsToLocals, Value.category]; done) | rfl) ?_
  intro p e s m args below meth c T W
  refine o_getS 3 W (tw hw 16) SC d14_0 fun T W => ?_
  refine o_ifN 6 W d14_3 (XT.i0_eq_f hcz) ?_
  refine o_aloadN 7 W d14_6 rfl rfl ?_
  refine o_getF 10 W (tw hw 28) F d14_7 (fun T W => ?_)
  refine o_ifN 13 W d14_10 (by decide) ?_
  refine o_iconst 14 W (1) d14_13 (by first | rfl | decide) ?_
  refine o_goto 18 W d14_14 ?_
  exact o_nret W (1 : Int32) (by simp) (by decide) d14_18 (⟨rfl, rfl⟩)
theorem con_pci (l : Launch) (Z : State) (b0 : Array Value) (hw : ∀ d ∈ tables_1, d.before b0 Z = true) (i n : Int32) (vf : Value) (rf : vf.isRef = true) (h1 : ¬ i < 0) (h2 : i < n) (h0 : Heap) (hE : Ext Z.heap h0) : Con l Z (⟨"jdk/internal/util/Preconditions", "checkIndex", "(IILjava/util/function/BiFunction;)I"⟩ : MethodName) jdk_41_method_11_code 3 (some .int) ({ frames := 0, cells := 0, slots := 0, locals := 0 } : Room) #[(.int i), (.int n), vf] h0 [] (QV fun w h => w = .int i ∧ h0 = h) := by
  refine Con.of (plainFor_of_name pn2) hE ⟨b0, own_ew0 hw⟩ all0 (L0 := #[.val (.int i), .val (.int n), .val vf]) (fun m => by first | (simp [entryFrame, mkF, argsToLocals, Value.category, XT.cat1 rf]; done) | rfl | (rcases ref_cases rf with rfl | ⟨_, rfl⟩ <;> rfl)) ?_
  intro p e s m args below meth c T W
  refine o_iloadN 1 W d25_0 rfl ?_
  refine o_ifN 4 W d25_1 (XT.i0_lt_f h1) ?_
  refine o_iloadN 5 W d25_4 rfl ?_
  refine o_iloadN 6 W d25_5 rfl ?_
  refine o_icY 16 W d25_6 (XT.ii_lt_t h2) ?_
  refine o_iloadN 17 W d25_16 rfl ?_
  exact o_iret W d25_17 (⟨rfl, rfl⟩)
theorem con_cki (l : Launch) (Z : State) (b0 : Array Value) (hw : ∀ d ∈ tables_1, d.before b0 Z = true) (i n : Int32) (vf : Value) (rf : vf.isRef = true) (SF : Sta Z Z.heap "jdk/internal/util/Preconditions" "SIOOBE_FORMATTER" "Ljava/util/function/BiFunction;" vf) (h1 : ¬ i < 0) (h2 : i < n) (h0 : Heap) (hE : Ext Z.heap h0) : Con l Z (⟨"java/lang/String", "checkIndex", "(II)V"⟩ : MethodName) jdk_42_method_155_code 2 none ({ frames := 1, cells := 0, slots := 0, locals := 16 } : Room) #[(.int i), (.int n)] h0 [] (Q0 fun h => h0 = h) := by
  refine Con.of (plainFor_of_name pn1) hE ⟨b0, own_ew0 hw⟩ all0 (L0 := #[.val (.int i), .val (.int n)]) (fun m => by first | (simp [entryFrame, mkF, argsToLocals, Value.category]; done) | rfl) ?_
  intro p e s m args below meth c T W
  refine o_iloadN 1 W d24_0 rfl ?_
  refine o_iloadN 2 W d24_1 rfl ?_
  refine o_getS 5 W (tw hw 78) SF d24_2 fun T W => ?_
  refine o_static 8 [(.int i), (.int n), vf] W (tw hw 133) (tw hw 134) (tw hw 79) (tw hw 135) (con_pci l Z b0 hw i n vf rf h1 h2 _ W.old) pd5 d24_5 rfl all0 (fun T h v W qq gg => ?_)
  obtain ⟨_, rfl, rfl, rfl⟩ := qq
  show Go p e below _ _ (mkF m 8 #[.val (.int i), .val (.int n)] [(.int i)])
  refine o_pop 9 W d24_8 rfl ?_
  exact o_ret W d24_9 (rfl)
theorem con_lch (l : Launch) (Z : State) (b0 : Array Value) (hw : ∀ d ∈ tables_1, d.before b0 Z = true) (d : Addr) (k : ClassId) (n i : Int32) (cs : List Int32) (l1 : n.toNatClampNeg = cs.length) (hc : own_ch cs) (vf : Value) (rf : vf.isRef = true) (SF : Sta Z Z.heap "jdk/internal/util/Preconditions" "SIOOBE_FORMATTER" "Ljava/util/function/BiFunction;" vf) (h1 : ¬ i < 0) (h2 : i < n) (h0 : Heap) (hE : Ext Z.heap h0) (A1 : Arv Z h0 d k .byte n (cs.map fun c => .int (own_b c)) (.int 0)) : Con l Z (⟨"java/lang/StringLatin1", "charAt", "([BI)C"⟩ : MethodName) jdk_43_method_2_code 2 (some .char) ({ frames := 2, cells := 0, slots := 0, locals := 40 } : Room) #[(.ref d), (.int i)] h0 [] (QV fun w h => w = .int (cs.getD i.toNatClampNeg 0) ∧ h0 = h) := by
  refine Con.of (plainFor_of_name pn3) hE ⟨b0, own_ew0 hw⟩ all0 (L0 := #[.val (.ref d), .val (.int i)]) (fun m => by first | (simp [entryFrame, mkF, argsToLocals, Value.category]; done) | rfl) ?_
  intro p e s m args below meth c T W
  have hn0 : ¬ n < 0 := by obtain ⟨cl, B1, B2, B3, B4, B5, B6⟩ := A1; exact B4
  have hlt : i.toNatClampNeg < cs.length := by have q1 := nat_of h1; have q2 := own_n hn0 l1; have q3 := h2; rw [Int32.lt_iff_toInt_lt] at q3; omega
  have hr := hc _ (own_gm cs _ hlt)
  refine o_iloadN 1 W d23_0 rfl ?_
  refine o_aloadN 2 W d23_1 rfl rfl ?_
  refine o_alenV 3 W A1 d23_2 ?_
  refine o_static 6 [(.int i), (.int n)] W (tw hw 130) (tw hw 131) (tw hw 5) (tw hw 132) (con_cki l Z b0 hw i n vf rf SF h1 h2 _ W.old) pd6 d23_3 rfl all0 (fun T h v W qq gg => ?_)
  obtain ⟨rfl, rfl⟩ := qq
  show Go p e below _ _ (mkF m 6 #[.val (.ref d), .val (.int i)] [])
  refine o_aloadN 7 W d23_6 rfl rfl ?_
  refine o_iloadN 8 W d23_7 rfl ?_
  refine o_baloadV 9 W A1 ⟨h1, h2⟩ (own_gb cs _) d23_8 ?_
  refine o_sipush 12 W (255) d23_9 (by first | rfl | decide) ?_
  refine o_iand 13 W d23_12 ?_
  refine o_i2c 14 W d23_13 ?_
  exact o_nret W _ (by simp) (by rw [own_b_back hr]; exact (own_nc _).trans (own_nar hr)) d23_14 (⟨rfl, rfl⟩)
theorem con_cat (l : Launch) (Z : State) (b0 : Array Value) (hw : ∀ d ∈ tables_1, d.before b0 Z = true) (a : Addr) (i : Int32) (cs : List Int32) (hc : own_ch cs) (cz : Int32) (hcz : ¬ cz = 0) (SC : Sta Z Z.heap "java/lang/String" "COMPACT_STRINGS" "Z" (.int cz)) (vf : Value) (rf : vf.isRef = true) (SF : Sta Z Z.heap "jdk/internal/util/Preconditions" "SIOOBE_FORMATTER" "Ljava/util/function/BiFunction;" vf) (h1 : ¬ i < 0) (h2 : i.toInt < cs.length) (h0 : Heap) (hE : Ext Z.heap h0) (X : Str Z h0 a cs) : Con l Z (⟨"java/lang/String", "charAt", "(I)C"⟩ : MethodName) jdk_42_method_56_code 2 (some .char) ({ frames := 3, cells := 0, slots := 0, locals := 64 } : Room) #[(.ref a), (.int i)] h0 [] (QV fun w h => w = .int (cs.getD i.toNatClampNeg 0) ∧ h0 = h) := by
  refine Con.of (plainFor_of_name pn1) hE ⟨b0, own_ew0 hw⟩ all0 (L0 := #[.val (.ref a), .val (.int i)]) (fun m => by first | (simp [entryFrame, mkF, argsToLocals, Value.category]; done) | rfl) ?_
  intro p e s m args below meth c T W
  obtain ⟨E1, C1, d, k, n, V1, A1, l1⟩ := X
  have hn0 : ¬ n < 0 := by obtain ⟨cl, B1, B2, B3, B4, B5, B6⟩ := A1; exact B4
  have hin : i < n := by rw [Int32.lt_iff_toInt_lt, own_n hn0 l1]; exact h2
  have hlt : i.toNatClampNeg < cs.length := by have q1 := nat_of h1; omega
  have hr := hc _ (own_gm cs _ hlt)
  refine o_aloadN 1 W d22_0 rfl rfl ?_
  refine o_virtual 4 [] W (tw hw 83) (tw hw 84) (tw hw 86) (tw hw 85) (tw hw 5) (tw hw 87) (E1) (con_lat l Z b0 hw a _ W.old C1 cz hcz SC) pd7 d22_1 rfl all0 (fun T h v W qq gg => ?_)
  obtain ⟨_, rfl, rfl, rfl⟩ := qq
  show Go p e below _ _ (mkF m 4 #[.val (.ref a), .val (.int i)] [(.int (1 : Int32))])
  refine o_ifN 7 W d22_4 (by decide) ?_
  refine o_aloadN 8 W d22_7 rfl rfl ?_
  refine o_getF 11 W (tw hw 30) V1 d22_8 (fun T W => ?_)
  refine o_iloadN 12 W d22_11 rfl ?_
  refine o_static 15 [(.ref d), (.int i)] W (tw hw 127) (tw hw 128) (tw hw 90) (tw hw 129) (con_lch l Z b0 hw d k n i cs l1 hc vf rf SF h1 hin _ W.old A1) pd8 d22_12 rfl all0 (fun T h v W qq gg => ?_)
  obtain ⟨_, rfl, rfl, rfl⟩ := qq
  show Go p e below _ _ (mkF m 15 #[.val (.ref a), .val (.int i)] [(.int (cs.getD i.toNatClampNeg 0))])
  exact o_nret W _ (by simp) (own_nar hr) d22_15 (⟨rfl, rfl⟩)
def own_sub (cs : List Int32) (b n : Nat) : List Int32 := (cs.drop b).take n
theorem own_sub_map (cs : List Int32) (b n : Nat) (h : b + n ≤ cs.length) : ((List.range n).map fun i => (cs.map fun c => Value.int (own_b c)).getD (b + i) (.int 0)) = (own_sub cs b n).map fun c => .int (own_b c) := by
  apply List.ext_getElem
  · simp [own_sub]; omega
  · intro i h1 h2
    simp only [List.length_map, List.length_range] at h1
    have h3 : b + i < cs.length := by omega
    simp [own_sub, own_gb, List.getD_eq_getElem?_getD, List.getElem?_eq_getElem h3]
theorem own_sub_len (cs : List Int32) (b n : Nat) (h : b + n ≤ cs.length) : (own_sub cs b n).length = n := by simp [own_sub]; omega
theorem own_sub_ch {cs : List Int32} (h : own_ch cs) (b n : Nat) : own_ch (own_sub cs b n) := fun c hc => h c (List.mem_of_mem_drop (List.mem_of_mem_take hc))
theorem own_sub_all (cs : List Int32) : own_sub cs 0 cs.length = cs := by simp [own_sub]
theorem own_subI {x z : Int32} {i k : Nat} (h1 : x.toInt = i) (h2 : z.toInt = k) (h : k ≤ i) (hb : i < 100000) : (x - z).toInt = ((i - k : Nat) : Int) := by
  rw [XT.sub32 ⟨by omega, by omega⟩]; omega
theorem own_addI {x z : Int32} {i k : Nat} (h1 : x.toInt = i) (h2 : z.toInt = k) (hb : i + k < 100000) : (x + z).toInt = ((i + k : Nat) : Int) := by
  rw [XT.add32 ⟨by omega, by omega⟩]; omega
theorem con_fti (l : Launch) (Z : State) (b0 : Array Value) (hw : ∀ d ∈ tables_1, d.before b0 Z = true) (i j n : Int32) (vf : Value) (rf : vf.isRef = true) (h1 : ¬ i < 0) (h2 : ¬ j < i) (h3 : ¬ n < j) (h0 : Heap) (hE : Ext Z.heap h0) : Con l Z (⟨"jdk/internal/util/Preconditions", "checkFromToIndex", "(IIILjava/util/function/BiFunction;)I"⟩ : MethodName) jdk_41_method_12_code 4 (some .int) ({ frames := 0, cells := 0, slots := 0, locals := 0 } : Room) #[(.int i), (.int j), (.int n), vf] h0 [] (QV fun w h => w = .int i ∧ h0 = h) := by
  refine Con.of (plainFor_of_name pn2) hE ⟨b0, own_ew0 hw⟩ all0 (L0 := #[.val (.int i), .val (.int j), .val (.int n), .val vf]) (fun m => by first | (simp [entryFrame, mkF, argsToLocals, Value.category, XT.cat1 rf]; done) | rfl | (rcases ref_cases rf with rfl | ⟨_, rfl⟩ <;> rfl)) ?_
  intro p e s m args below meth c T W
  refine o_iloadN 1 W d13_0 rfl ?_
  refine o_ifN 4 W d13_1 (XT.i0_lt_f h1) ?_
  refine o_iloadN 5 W d13_4 rfl ?_
  refine o_iloadN 6 W d13_5 rfl ?_
  refine o_icN 9 W d13_6 (XT.ii_gt_f h2) ?_
  refine o_iloadN 10 W d13_9 rfl ?_
  refine o_iloadN 11 W d13_10 rfl ?_
  refine o_icY 22 W d13_11 (XT.ii_le_t h3) ?_
  refine o_iloadN 23 W d13_22 rfl ?_
  exact o_iret W d13_23 (⟨rfl, rfl⟩)
theorem con_cbe (l : Launch) (Z : State) (b0 : Array Value) (hw : ∀ d ∈ tables_1, d.before b0 Z = true) (i j n : Int32) (vf : Value) (rf : vf.isRef = true) (SF : Sta Z Z.heap "jdk/internal/util/Preconditions" "SIOOBE_FORMATTER" "Ljava/util/function/BiFunction;" vf) (h1 : ¬ i < 0) (h2 : ¬ j < i) (h3 : ¬ n < j) (h0 : Heap) (hE : Ext Z.heap h0) : Con l Z (⟨"java/lang/String", "checkBoundsBeginEnd", "(III)V"⟩ : MethodName) jdk_42_method_158_code 3 none ({ frames := 1, cells := 0, slots := 0, locals := 16 } : Room) #[(.int i), (.int j), (.int n)] h0 [] (Q0 fun h => h0 = h) := by
  refine Con.of (plainFor_of_name pn1) hE ⟨b0, own_ew0 hw⟩ all0 (L0 := #[.val (.int i), .val (.int j), .val (.int n)]) (fun m => by first | (simp [entryFrame, mkF, argsToLocals, Value.category]; done) | rfl) ?_
  intro p e s m args below meth c T W
  refine o_iloadN 1 W d12_0 rfl ?_
  refine o_iloadN 2 W d12_1 rfl ?_
  refine o_iloadN 3 W d12_2 rfl ?_
  refine o_getS 6 W (tw hw 78) SF d12_3 fun T W => ?_
  refine o_static 9 [(.int i), (.int j), (.int n), vf] W (tw hw 80) (tw hw 81) (tw hw 79) (tw hw 82) (con_fti l Z b0 hw i j n vf rf h1 h2 h3 _ W.old) pd9 d12_6 rfl all0 (fun T h v W qq gg => ?_)
  obtain ⟨_, rfl, rfl, rfl⟩ := qq
  show Go p e below _ _ (mkF m 9 #[.val (.int i), .val (.int j), .val (.int n)] [(.int i)])
  refine o_pop 10 W d12_9 rfl ?_
  exact o_ret W d12_10 (rfl)
theorem con_min (l : Launch) (Z : State) (b0 : Array Value) (hw : ∀ d ∈ tables_1, d.before b0 Z = true) (i j : Int32) (h0 : Heap) (hE : Ext Z.heap h0) : Con l Z (⟨"java/lang/Math", "min", "(II)I"⟩ : MethodName) jdk_29_method_69_code 2 (some .int) ({ frames := 0, cells := 0, slots := 0, locals := 0 } : Room) #[(.int i), (.int j)] h0 [] (QV fun w h => w = .int (if j < i then j else i) ∧ h0 = h) := by
  refine Con.of (by first | decide | decide +kernel) hE ⟨b0, own_ew0 hw⟩ all0 (L0 := #[.val (.int i), .val (.int j)]) (fun m => by first | (simp [entryFrame, mkF, argsToLocals, Value.category]; done) | rfl) ?_
  intro p e s m args below meth c T W
  refine o_iloadN 1 W d20_0 rfl ?_
  refine o_iloadN 2 W d20_1 rfl ?_
  refine o_icgt 9 5 W d20_2 (fun c2 => ?_) (fun c2 => ?_)
  · refine o_iloadN 10 W d20_9 rfl ?_
    exact o_iret W d20_10 (⟨by rw [if_pos c2], rfl⟩)
  · refine o_iloadN 6 W d20_5 rfl ?_
    refine o_goto 10 W d20_6 ?_
    exact o_iret W d20_10 (⟨by rw [if_neg c2], rfl⟩)
theorem con_ckl (l : Launch) (Z : State) (b0 : Array Value) (hw : ∀ d ∈ tables_1, d.before b0 Z = true) (i j : Int32) (h2 : ¬ j < i) (h0 : Heap) (hE : Ext Z.heap h0) : Con l Z (⟨"java/util/Arrays", "checkLength", "(II)V"⟩ : MethodName) jdk_65_method_131_code 2 none ({ frames := 0, cells := 0, slots := 0, locals := 0 } : Room) #[(.int i), (.int j)] h0 [] (Q0 fun h => h0 = h) := by
  refine Con.of (plainFor_of_name pn4) hE ⟨b0, own_ew0 hw⟩ all0 (L0 := #[.val (.int i), .val (.int j)]) (fun m => by first | (simp [entryFrame, mkF, argsToLocals, Value.category]; done) | rfl) ?_
  intro p e s m args below meth c T W
  refine o_iloadN 1 W d19_0 rfl ?_
  refine o_iloadN 2 W d19_1 rfl ?_
  refine o_icY 37 W d19_2 (XT.ii_ge_t h2) ?_
  exact o_ret W d19_37 (rfl)
theorem con_crb (l : Launch) (Z : State) (b0 : Array Value) (hw : ∀ d ∈ tables_1, d.before b0 Z = true) (d : Addr) (k : ClassId) (n f t : Int32) (cs : List Int32) (fi ti : Nat) (l1 : n.toNatClampNeg = cs.length) (hbig : cs.length ≤ 16) (hf : f.toInt = fi) (ht : t.toInt = ti) (h1 : fi ≤ ti) (h2 : ti ≤ cs.length) (h0 : Heap) (hE : Ext Z.heap h0) (A1 : Arv Z h0 d k .byte n (cs.map fun c => .int (own_b c)) (.int 0)) : Con l Z (⟨"java/util/Arrays", "copyOfRangeByte", "([BII)[B"⟩ : MethodName) jdk_65_method_133_code 5 (some (.array .byte)) ({ frames := 1, cells := 1, slots := 16, locals := 64 } : Room) #[(.ref d), (.int f), (.int t)] h0 [] (QV fun w h => ∃ (o : Addr) (ko : ClassId) (no : Int32), w = .ref o ∧ h0.size ≤ o ∧ Ext h0 h ∧ Arv Z h o ko .byte no ((own_sub cs fi (ti - fi)).map fun c => .int (own_b c)) (.int 0) ∧ no.toNatClampNeg = (own_sub cs fi (ti - fi)).length) := by
  refine Con.of (plainFor_of_name pn4) hE ⟨b0, own_ew0 hw⟩ all0 (L0 := #[.val (.ref d), .val (.int f), .val (.int t), .unset, .unset]) (fun m => by first | (simp [entryFrame, mkF, argsToLocals, Value.category]; done) | rfl) ?_
  intro p e s m args below meth c T W
  have hn0 : ¬ n < 0 := by obtain ⟨cl, B1, B2, B3, B4, B5, B6⟩ := A1; exact B4
  have hnI := own_n hn0 l1
  refine o_iloadN 1 W d18_0 rfl ?_
  refine o_iloadN 2 W d18_1 rfl ?_
  refine o_static 5 [(.int f), (.int t)] W (tw hw 108) (tw hw 109) (tw hw 103) (tw hw 110) (con_ckl l Z b0 hw f t (own_geI ht hf h1) _ W.old) pd6 d18_2 rfl all0 (fun T h v W qq gg => ?_)
  obtain ⟨rfl, rfl⟩ := qq
  show Go p e below _ _ (mkF m 5 #[.val (.ref d), .val (.int f), .val (.int t), .unset, .unset] [])
  refine o_iloadN 6 W d18_5 rfl ?_
  refine o_iloadN 7 W d18_6 rfl ?_
  refine o_isub 8 W d18_7 ?_
  refine o_istoreN 9 W #[.val (.ref d), .val (.int f), .val (.int t), .val (.int (t - f)), .unset] d18_8 rfl ?_
  refine o_iloadN 10 W d18_9 rfl ?_
  have hq := own_subI ht hf h1 (by omega)
  generalize t - f = q at hq ⊢
  show Go p e below _ _ (mkF m 10 #[.val (.ref d), .val (.int f), .val (.int t), .val (.int q), .unset] [(.int q)])
  refine o_newarray 12 16 W (tw hw 21) d18_10 (own_nn hq) (by rw [own_cl hq]; omega) (fun T h o ko W Eo Ao go zo => ?_)
  have hlt := A1.lt
  have A1 := A1.ext Eo
  have Ao := own_pad (ti - fi) Ao
  refine o_astore 14 W #[.val (.ref d), .val (.int f), .val (.int t), .val (.int q), .val (.ref o)] d18_12 rfl rfl ?_
  refine o_aloadN 15 W d18_14 rfl rfl ?_
  refine o_iloadN 16 W d18_15 rfl ?_
  refine o_aload 18 W d18_16 rfl rfl ?_
  refine o_iconst 19 W (0) d18_18 (by first | rfl | decide) ?_
  refine o_aloadN 20 W d18_19 rfl rfl ?_
  refine o_alenV 21 W A1 d18_20 ?_
  refine o_iloadN 22 W d18_21 rfl ?_
  refine o_isub 23 W d18_22 ?_
  refine o_iloadN 24 W d18_23 rfl ?_
  have hm := own_subI hnI hf (by omega) (by omega)
  generalize n - f = v at hm ⊢
  show Go p e below _ _ (mkF m 24 #[.val (.ref d), .val (.int f), .val (.int t), .val (.int q), .val (.ref o)] [(.int q), (.int v), (.int (0 : Int32)), (.ref o), (.int f), (.ref d)])
  refine o_static 27 [(.int v), (.int q)] W (tw hw 111) (tw hw 112) (tw hw 113) (tw hw 114) (con_min l Z b0 hw v q _ W.old) pd10 d18_24 rfl all0 (fun T h v W qq gg => ?_)
  obtain ⟨_, rfl, rfl, rfl⟩ := qq
  show Go p e below _ _ (mkF m 27 #[.val (.ref d), .val (.int f), .val (.int t), .val (.int q), .val (.ref o)] [(.int (if q < v then q else v)), (.int (0 : Int32)), (.ref o), (.int f), (.ref d)])
  have hr : (if q < v then q else v).toInt = ((ti - fi : Nat) : Int) := by split; exact hq; rename_i z; rw [Int32.lt_iff_toInt_lt] at z; omega
  generalize (if q < v then q else v) = u at hr ⊢
  show Go p e below _ _ (mkF m 27 #[.val (.ref d), .val (.int f), .val (.int t), .val (.int q), .val (.ref o)] [(.int u), (.int (0 : Int32)), (.ref o), (.int f), (.ref d)])
  refine o_arraycopy 30 W (tw hw 115) (tw hw 118) (tw hw 116) (tw hw 117) A1 Ao rfl (own_nn hf) (by decide) (own_nn hr) (by rw [own_cl hf, own_cl hr, l1]; omega) (by rw [own_cl hr, own_cl hq]; show 0 + _ ≤ _; omega) rfl (by rw [own_cl hr]; simp) (by simp) zo d18_27 (fun T h W Kc Ac => ?_)
  rw [own_cl hr, own_cl hf, own_sub_map cs fi (ti - fi) (by omega)] at Ac
  have Ac : Arv Z h o ko .byte q ((own_sub cs fi (ti - fi)).map fun c => .int (own_b c)) (.int 0) := by simp at Ac; exact Ac
  refine o_aload 32 W d18_30 rfl rfl ?_
  exact o_aret W rfl rfl rfl d18_32 (⟨o, ko, q, rfl, go, own_ext_keep Eo Kc go, Ac, by rw [own_cl hq, own_sub_len cs _ _ (by omega)]⟩)
theorem con_cor (l : Launch) (Z : State) (b0 : Array Value) (hw : ∀ d ∈ tables_1, d.before b0 Z = true) (d : Addr) (k : ClassId) (n f t : Int32) (cs : List Int32) (fi ti : Nat) (l1 : n.toNatClampNeg = cs.length) (hbig : cs.length ≤ 16) (hf : f.toInt = fi) (ht : t.toInt = ti) (h1 : fi ≤ ti) (h2 : ti ≤ cs.length) (h0 : Heap) (hE : Ext Z.heap h0) (A1 : Arv Z h0 d k .byte n (cs.map fun c => .int (own_b c)) (.int 0)) (hne : ¬ (fi = 0 ∧ ti = cs.length)) : Con l Z (⟨"java/util/Arrays", "copyOfRange", "([BII)[B"⟩ : MethodName) jdk_65_method_132_code 3 (some (.array .byte)) ({ frames := 2, cells := 1, slots := 16, locals := 96 } : Room) #[(.ref d), (.int f), (.int t)] h0 [] (QV fun w h => ∃ (o : Addr) (ko : ClassId) (no : Int32), w = .ref o ∧ h0.size ≤ o ∧ Ext h0 h ∧ Arv Z h o ko .byte no ((own_sub cs fi (ti - fi)).map fun c => .int (own_b c)) (.int 0) ∧ no.toNatClampNeg = (own_sub cs fi (ti - fi)).length) := by
  refine Con.of (plainFor_of_name pn4) hE ⟨b0, own_ew0 hw⟩ all0 (L0 := #[.val (.ref d), .val (.int f), .val (.int t)]) (fun m => by first | (simp [entryFrame, mkF, argsToLocals, Value.category]; done) | rfl) ?_
  intro p e s m args below meth c T W
  have hn0 : ¬ n < 0 := by obtain ⟨cl, B1, B2, B3, B4, B5, B6⟩ := A1; exact B4
  have hnI := own_n hn0 l1
  have z0 : (0 : Int32).toInt = 0 := rfl
  refine o_iloadN 1 W d17_0 rfl ?_
  refine o_ifne 10 4 W d17_1 (fun c1 => ?_) (fun c1 => ?_)
  · refine o_aloadN 11 W d17_10 rfl rfl ?_
    refine o_iloadN 12 W d17_11 rfl ?_
    refine o_iloadN 13 W d17_12 rfl ?_
    refine o_static 16 [(.ref d), (.int f), (.int t)] W (tw hw 105) (tw hw 106) (tw hw 103) (tw hw 107) (con_crb l Z b0 hw d k n f t cs fi ti l1 hbig hf ht h1 h2 _ W.old A1) pd11 d17_13 rfl all0 (fun T h v W qq gg => ?_)
    obtain ⟨_, rfl, o, ko, no, rfl, r1, r2, r3, r4⟩ := qq
    show Go p e below _ _ (mkF m 16 #[.val (.ref d), .val (.int f), .val (.int t)] [(.ref o)])
    exact o_aret W rfl rfl rfl d17_16 (⟨o, ko, no, rfl, r1, r2, r3, r4⟩)
  · refine o_iloadN 5 W d17_4 rfl ?_
    refine o_aloadN 6 W d17_5 rfl rfl ?_
    refine o_alenV 7 W A1 d17_6 ?_
    refine o_iceq 17 10 W d17_7 (fun c7 => ?_) (fun c7 => ?_)
    · exact absurd ⟨by rw [c1] at hf; omega, by rw [c7] at ht; omega⟩ hne
    · refine o_aloadN 11 W d17_10 rfl rfl ?_
      refine o_iloadN 12 W d17_11 rfl ?_
      refine o_iloadN 13 W d17_12 rfl ?_
      refine o_static 16 [(.ref d), (.int f), (.int t)] W (tw hw 105) (tw hw 106) (tw hw 103) (tw hw 107) (con_crb l Z b0 hw d k n f t cs fi ti l1 hbig hf ht h1 h2 _ W.old A1) pd11 d17_13 rfl all0 (fun T h v W qq gg => ?_)
      obtain ⟨_, rfl, o, ko, no, rfl, r1, r2, r3, r4⟩ := qq
      show Go p e below _ _ (mkF m 16 #[.val (.ref d), .val (.int f), .val (.int t)] [(.ref o)])
      exact o_aret W rfl rfl rfl d17_16 (⟨o, ko, no, rfl, r1, r2, r3, r4⟩)
theorem con_sbb (l : Launch) (Z : State) (b0 : Array Value) (hw : ∀ d ∈ tables_1, d.before b0 Z = true) (a d : Addr) (k : ClassId) (n : Int32) (cs : List Int32) (l1 : n.toNatClampNeg = cs.length) (h0 : Heap) (hE : Ext Z.heap h0) (A1 : Arv Z h0 d k .byte n (cs.map fun c => .int (own_b c)) (.int 0)) (hne : d ≠ a) (A : Exa Z h0 a "java/lang/String") (F1 : Fld Z h0 a "java/lang/String" "value" "[B" .null) (F2 : Fld Z h0 a "java/lang/String" "coder" "B" (.int 0)) (za : Z.heap.size ≤ a) : Con l Z (⟨"java/lang/String", "<init>", "([BB)V"⟩ : MethodName) jdk_42_method_151_code 3 none ({ frames := 1, cells := 0, slots := 0, locals := 16 } : Room) #[(.ref a), (.ref d), (.int 0)] h0 [a] (Q0 fun h => Keep h0 h [a] ∧ Str Z h a cs) := by
  refine Con.of (plainFor_of_name pn1) hE ⟨b0, own_ew0 hw⟩ (fun x hx => by rw [List.mem_singleton.mp hx]; exact A.lt) (L0 := #[.val (.ref a), .val (.ref d), .val (.int 0)]) (fun m => by first | (simp [entryFrame, mkF, argsToLocals, Value.category]; done) | rfl) ?_
  intro p e s m args below meth c T W
  have K0 := Keep.refl h0 [a]
  refine o_aloadN 1 W d21_0 rfl rfl ?_
  refine o_initO 4 W (tw hw 13) (tw hw 14) (tw hw 15) d21_1 (fun T W => ?_)
  refine o_aloadN 5 W d21_4 rfl rfl ?_
  refine o_aloadN 6 W d21_5 rfl rfl ?_
  refine o_putF 9 W (tw hw 30) F1 A (Or.inr ⟨(tw hw 31), rfl, rfl⟩) (tw hw 4) (ty := (.array .byte)) (by decide) rfl rfl (Or.inl (List.mem_singleton.mpr rfl)) za d21_6 (fun T h W w1 => ?_)
  have K0 := K0.wr w1 (Or.inl (List.mem_singleton.mpr rfl))
  have A := A.wr w1
  have F1 := F1.same w1
  have F2 := F2.other w1 (Or.inr (slot_ne (C := "java/lang/String") (Or.inr (tw hw 29)) (Or.inr (tw hw 31)) (by decide) (t := .byte) (t' := (.array .byte)) (by decide) (by decide)))
  have A1 := A1.other w1 hne
  refine o_aloadN 10 W d21_9 rfl rfl ?_
  refine o_iloadN 11 W d21_10 rfl ?_
  refine o_putF 14 W (tw hw 28) F2 A (Or.inr ⟨(tw hw 29), rfl, rfl⟩) (tw hw 4) (ty := .byte) (by decide) rfl rfl (Or.inl (List.mem_singleton.mpr rfl)) za d21_11 (fun T h W w2 => ?_)
  have K0 := K0.wr w2 (Or.inl (List.mem_singleton.mpr rfl))
  have A := A.wr w2
  have F2 := F2.same w2
  have F1 := F1.other w2 (Or.inr (slot_ne (C := "java/lang/String") (Or.inr (tw hw 31)) (Or.inr (tw hw 29)) (by decide) (t := (.array .byte)) (t' := .byte) (by decide) (by decide)))
  have A1 := A1.other w2 hne
  exact o_ret W d21_14 (⟨K0, A, F2, d, k, n, F1, A1, l1⟩)
theorem con_nst (l : Launch) (Z : State) (b0 : Array Value) (hw : ∀ d ∈ tables_1, d.before b0 Z = true) (d : Addr) (k : ClassId) (n f q : Int32) (cs : List Int32) (fi qi : Nat) (l1 : n.toNatClampNeg = cs.length) (hbig : cs.length ≤ 16) (hf : f.toInt = fi) (hq : q.toInt = qi) (h2 : fi + qi ≤ cs.length) (hne : ¬ (fi = 0 ∧ qi = cs.length)) (h0 : Heap) (hE : Ext Z.heap h0) (A1 : Arv Z h0 d k .byte n (cs.map fun c => .int (own_b c)) (.int 0)) : Con l Z (⟨"java/lang/StringLatin1", "newString", "([BII)Ljava/lang/String;"⟩ : MethodName) jdk_43_method_47_code 3 (some (.object "java/lang/String")) ({ frames := 3, cells := 4, slots := 24, locals := 128 } : Room) #[(.ref d), (.int f), (.int q)] h0 [] (QV fun w h => ∃ o, w = .ref o ∧ Str Z h o (own_sub cs fi qi) ∧ Ext h0 h) := by
  refine Con.of (plainFor_of_name pn3) hE ⟨b0, own_ew0 hw⟩ all0 (L0 := #[.val (.ref d), .val (.int f), .val (.int q)]) (fun m => by first | (simp [entryFrame, mkF, argsToLocals, Value.category]; done) | rfl) ?_
  intro p e s m args below meth c T W
  have z0 : (0 : Int32).toInt = 0 := rfl
  refine o_iloadN 1 W d15_0 rfl ?_
  refine o_ifne 7 4 W d15_1 (fun c1 => ?_) (fun c1 => ?_)
  · refine o_new 10 W (tw hw 100) (tw hw 4) (tw hw 5) d15_7 (fun T h o W Eo Ao Do go zo => ?_)
    have Po := Do (Or.inr (tw hw 31)) (ty := .array .byte) (by decide)
    have Co := Do (Or.inr (tw hw 29)) (ty := .byte) (by decide)
    have A1 := A1.ext Eo
    refine o_dup 11 W d15_10 rfl ?_
    refine o_aloadN 12 W d15_11 rfl rfl ?_
    refine o_iloadN 13 W d15_12 rfl ?_
    refine o_iloadN 14 W d15_13 rfl ?_
    refine o_iloadN 15 W d15_14 rfl ?_
    refine o_iadd 16 W d15_15 ?_
    refine o_static 19 [(.ref d), (.int f), (.int (f + q))] W (tw hw 101) (tw hw 102) (tw hw 103) (tw hw 104) (con_cor l Z b0 hw d k n f (f + q) cs fi (fi + qi) l1 hbig hf (own_addI hf hq (by omega)) (by omega) h2 _ W.old A1 (by omega)) pd11 d15_16 rfl all0 (fun T h v W qq gg => ?_)
    obtain ⟨_, rfl, e', ke, ne, rfl, ge, Ee, Ae, le⟩ := qq
    show Go p e below _ _ (mkF m 19 #[.val (.ref d), .val (.int f), .val (.int q)] [(.ref e'), (.ref o), (.ref o)])
    rw [Nat.add_sub_cancel_left] at Ae le
    have hoe := Ao.lt
    have Ao := Ao.ext Ee
    have Po := Po.ext Ee
    have Co := Co.ext Ee
    refine o_iconst 20 W (0) d15_19 (by first | rfl | decide) ?_
    refine o_special 23 [(.ref e'), (.int (0 : Int32))] W (tw hw 119) (tw hw 120) (tw hw 5) (tw hw 121) (con_sbb l Z b0 hw o e' ke ne _ le _ W.old Ae (Nat.ne_of_gt (Nat.lt_of_lt_of_le hoe ge)) Ao Po Co zo) pd12 d15_20 rfl (by simp) (fun T h v W qq gg => ?_)
    obtain ⟨rfl, Ko, Xo⟩ := qq
    show Go p e below _ _ (mkF m 23 #[.val (.ref d), .val (.int f), .val (.int q)] [(.ref o)])
    exact o_aret W rfl rfl rfl d15_23 (⟨o, rfl, Xo, own_ext_keep (own_ext_trans Eo Ee) Ko go⟩)
  · refine o_ldcC 6 0 W (vs := []) (z := 0) (fun q => q) (tw hw 92) (own_wS hw) (by simp [own_EL]) (by decide) (by decide) rfl d15_4 (by decide) (fun T h t bt kt W Et Xt Ct Vt At nt => ?_)
    obtain rfl : qi = 0 := by rw [c1] at hq; omega
    exact o_aret W rfl rfl rfl d15_6 (⟨t, rfl, ⟨Xt, Ct, bt, kt, 0, Vt, by simpa [own_sub] using At, by first | (simp [own_sub]; done) | (simp [own_sub]; rfl)⟩, Et⟩)
theorem con_sub (l : Launch) (Z : State) (b0 : Array Value) (hw : ∀ d ∈ tables_1, d.before b0 Z = true) (a : Addr) (f t : Int32) (cs : List Int32) (fi ti : Nat) (hbig : cs.length ≤ 16) (hf : f.toInt = fi) (ht : t.toInt = ti) (h1 : fi ≤ ti) (h2 : ti ≤ cs.length) (h0 : Heap) (hE : Ext Z.heap h0) (X : Str Z h0 a cs) (cz : Int32) (hcz : ¬ cz = 0) (SC : Sta Z Z.heap "java/lang/String" "COMPACT_STRINGS" "Z" (.int cz)) (vf : Value) (rf : vf.isRef = true) (SF : Sta Z Z.heap "jdk/internal/util/Preconditions" "SIOOBE_FORMATTER" "Ljava/util/function/BiFunction;" vf) : Con l Z (⟨"java/lang/String", "substring", "(II)Ljava/lang/String;"⟩ : MethodName) jdk_42_method_92_code 5 (some (.object "java/lang/String")) ({ frames := 4, cells := 4, slots := 24, locals := 160 } : Room) #[(.ref a), (.int f), (.int t)] h0 [] (QV fun w h => ∃ o, w = .ref o ∧ Str Z h o (own_sub cs fi (ti - fi)) ∧ Ext h0 h) := by
  refine Con.of (plainFor_of_name pn1) hE ⟨b0, own_ew0 hw⟩ all0 (L0 := #[.val (.ref a), .val (.int f), .val (.int t), .unset, .unset]) (fun m => by first | (simp [entryFrame, mkF, argsToLocals, Value.category]; done) | rfl) ?_
  intro p e s m args below meth c T W
  have z0 : (0 : Int32).toInt = 0 := rfl
  have E1 := X.1
  refine o_aloadN 1 W d9_0 rfl rfl ?_
  refine o_virtual 4 [] W (tw hw 65) (tw hw 66) (tw hw 68) (tw hw 67) (tw hw 5) (tw hw 69) (E1) (con_len l Z b0 hw a cs _ W.old X cz hcz SC) pd13 d9_1 rfl all0 (fun T h v W qq gg => ?_)
  obtain ⟨_, rfl, n, rfl, hn, rfl⟩ := qq
  show Go p e below _ _ (mkF m 4 #[.val (.ref a), .val (.int f), .val (.int t), .unset, .unset] [(.int n)])
  refine o_istoreN 5 W #[.val (.ref a), .val (.int f), .val (.int t), .val (.int n), .unset] d9_4 rfl ?_
  refine o_iloadN 6 W d9_5 rfl ?_
  refine o_iloadN 7 W d9_6 rfl ?_
  refine o_iloadN 8 W d9_7 rfl ?_
  refine o_static 11 [(.int f), (.int t), (.int n)] W (tw hw 75) (tw hw 76) (tw hw 5) (tw hw 77) (con_cbe l Z b0 hw f t n vf rf SF (own_nn hf) (own_geI ht hf h1) (own_geI hn ht h2) _ W.old) pd14 d9_8 rfl all0 (fun T h v W qq gg => ?_)
  obtain ⟨rfl, rfl⟩ := qq
  show Go p e below _ _ (mkF m 11 #[.val (.ref a), .val (.int f), .val (.int t), .val (.int n), .unset] [])
  refine o_iloadN 12 W d9_11 rfl ?_
  refine o_ifne 22 15 W d9_12 (fun c12 => ?_) (fun c12 => ?_)
  · have hz : ¬ (fi = 0 ∧ ti = cs.length) := fun z => c12 (Int32.toInt_inj.mp (by rw [hf, z0]; omega))
    refine o_iloadN 23 W d9_22 rfl ?_
    refine o_iloadN 24 W d9_23 rfl ?_
    refine o_isub 25 W d9_24 ?_
    refine o_istore 27 W #[.val (.ref a), .val (.int f), .val (.int t), .val (.int n), .val (.int (t - f))] d9_25 rfl ?_
    refine o_aloadN 28 W d9_27 rfl rfl ?_
    have hq := own_subI ht hf h1 (by omega)
    generalize t - f = q at hq ⊢
    show Go p e below _ _ (mkF m 28 #[.val (.ref a), .val (.int f), .val (.int t), .val (.int n), .val (.int q)] [(.ref a)])
    obtain ⟨-, C1, d, k, nn, V1, A1, l1⟩ := X
    refine o_virtual 31 [] W (tw hw 83) (tw hw 84) (tw hw 86) (tw hw 85) (tw hw 5) (tw hw 87) (E1) (con_lat l Z b0 hw a _ W.old C1 cz hcz SC) pd7 d9_28 rfl all0 (fun T h v W qq gg => ?_)
    obtain ⟨_, rfl, rfl, rfl⟩ := qq
    show Go p e below _ _ (mkF m 31 #[.val (.ref a), .val (.int f), .val (.int t), .val (.int n), .val (.int q)] [(.int (1 : Int32))])
    refine o_ifN 34 W d9_31 (by decide) ?_
    refine o_aloadN 35 W d9_34 rfl rfl ?_
    refine o_getF 38 W (tw hw 30) V1 d9_35 (fun T W => ?_)
    refine o_iloadN 39 W d9_38 rfl ?_
    refine o_iload 41 W d9_39 rfl ?_
    refine o_static 44 [(.ref d), (.int f), (.int q)] W (tw hw 88) (tw hw 89) (tw hw 90) (tw hw 91) (con_nst l Z b0 hw d k nn f q cs fi (ti - fi) l1 hbig hf hq (by omega) (by omega) _ W.old A1) pd15 d9_41 rfl all0 (fun T h v W qq gg => ?_)
    obtain ⟨_, rfl, o, rfl, Xo, Eo⟩ := qq
    show Go p e below _ _ (mkF m 44 #[.val (.ref a), .val (.int f), .val (.int t), .val (.int n), .val (.int q)] [(.ref o)])
    refine o_goto 57 W d9_44 ?_
    exact o_aret W rfl rfl rfl d9_57 (⟨o, rfl, Xo, Eo⟩)
  · refine o_iloadN 16 W d9_15 rfl ?_
    refine o_iloadN 17 W d9_16 rfl ?_
    refine o_icne 22 20 W d9_17 (fun c17 => ?_) (fun c17 => ?_)
    · have hz : ¬ (fi = 0 ∧ ti = cs.length) := fun z => c17 (Int32.toInt_inj.mp (by rw [ht, hn]; omega))
      refine o_iloadN 23 W d9_22 rfl ?_
      refine o_iloadN 24 W d9_23 rfl ?_
      refine o_isub 25 W d9_24 ?_
      refine o_istore 27 W #[.val (.ref a), .val (.int f), .val (.int t), .val (.int n), .val (.int (t - f))] d9_25 rfl ?_
      refine o_aloadN 28 W d9_27 rfl rfl ?_
      have hq := own_subI ht hf h1 (by omega)
      generalize t - f = q at hq ⊢
      show Go p e below _ _ (mkF m 28 #[.val (.ref a), .val (.int f), .val (.int t), .val (.int n), .val (.int q)] [(.ref a)])
      obtain ⟨-, C1, d, k, nn, V1, A1, l1⟩ := X
      refine o_virtual 31 [] W (tw hw 83) (tw hw 84) (tw hw 86) (tw hw 85) (tw hw 5) (tw hw 87) (E1) (con_lat l Z b0 hw a _ W.old C1 cz hcz SC) pd7 d9_28 rfl all0 (fun T h v W qq gg => ?_)
      obtain ⟨_, rfl, rfl, rfl⟩ := qq
      show Go p e below _ _ (mkF m 31 #[.val (.ref a), .val (.int f), .val (.int t), .val (.int n), .val (.int q)] [(.int (1 : Int32))])
      refine o_ifN 34 W d9_31 (by decide) ?_
      refine o_aloadN 35 W d9_34 rfl rfl ?_
      refine o_getF 38 W (tw hw 30) V1 d9_35 (fun T W => ?_)
      refine o_iloadN 39 W d9_38 rfl ?_
      refine o_iload 41 W d9_39 rfl ?_
      refine o_static 44 [(.ref d), (.int f), (.int q)] W (tw hw 88) (tw hw 89) (tw hw 90) (tw hw 91) (con_nst l Z b0 hw d k nn f q cs fi (ti - fi) l1 hbig hf hq (by omega) (by omega) _ W.old A1) pd15 d9_41 rfl all0 (fun T h v W qq gg => ?_)
      obtain ⟨_, rfl, o, rfl, Xo, Eo⟩ := qq
      show Go p e below _ _ (mkF m 44 #[.val (.ref a), .val (.int f), .val (.int t), .val (.int n), .val (.int q)] [(.ref o)])
      refine o_goto 57 W d9_44 ?_
      exact o_aret W rfl rfl rfl d9_57 (⟨o, rfl, Xo, Eo⟩)
    · refine o_aloadN 21 W d9_20 rfl rfl ?_
      obtain rfl : fi = 0 := by rw [c12] at hf; omega
      obtain rfl : ti = cs.length := by rw [c17] at ht; omega
      exact o_aret W rfl rfl rfl d9_21 (⟨a, rfl, by rw [Nat.sub_zero, own_sub_all]; exact X, own_ext_refl _⟩)
theorem con_uin (l : Launch) (Z : State) (b0 : Array Value) (hw : ∀ d ∈ tables_1, d.before b0 Z = true) (o t : Addr) (i1 i2 i3 i5 i6 i7 : Int32) (h0 : Heap) (hE : Ext Z.heap h0) (A : Exa Z h0 o "com/example/strict_uri/stricturi/UriReference") (Ft : Fld Z h0 o "com/example/strict_uri/stricturi/UriReference" "text" "Ljava/lang/String;" .null) (Fa : Fld Z h0 o "com/example/strict_uri/stricturi/UriReference" "schemeEnd" "I" (.int 0)) (Fb : Fld Z h0 o "com/example/strict_uri/stricturi/UriReference" "userInfoEnd" "I" (.int 0)) (Fc : Fld Z h0 o "com/example/strict_uri/stricturi/UriReference" "hostEnd" "I" (.int 0)) (Fk : Fld Z h0 o "com/example/strict_uri/stricturi/UriReference" "hostKind" "Lcom/example/strict_uri/stricturi/HostKind;" .null) (Fd : Fld Z h0 o "com/example/strict_uri/stricturi/UriReference" "pathStart" "I" (.int 0)) (Fe : Fld Z h0 o "com/example/strict_uri/stricturi/UriReference" "pathEnd" "I" (.int 0)) (Ff : Fld Z h0 o "com/example/strict_uri/stricturi/UriReference" "queryEnd" "I" (.int 0)) (zo : Z.heap.size ≤ o) : Con l Z (⟨"com/example/strict_uri/stricturi/UriReference", "<init>", "(Ljava/lang/String;IIILcom/example/strict_uri/stricturi/HostKind;III)V"⟩ : MethodName) prog_7_method_1_code 9 none ({ frames := 1, cells := 0, slots := 0, locals := 12 } : Room) #[(.ref o), (.ref t), (.int i1), (.int i2), (.int i3), .null, (.int i5), (.int i6), (.int i7)] h0 [] (Q0 fun h => Keep h0 h [o] ∧ Exa Z h o "com/example/strict_uri/stricturi/UriReference" ∧ Fld Z h o "com/example/strict_uri/stricturi/UriReference" "text" "Ljava/lang/String;" (.ref t) ∧ Fld Z h o "com/example/strict_uri/stricturi/UriReference" "pathEnd" "I" (.int i6) ∧ Fld Z h o "com/example/strict_uri/stricturi/UriReference" "queryEnd" "I" (.int i7)) := by
  refine Con.of (plainFor_of_name pn5) hE ⟨b0, own_ew0 hw⟩ all0 (L0 := #[.val (.ref o), .val (.ref t), .val (.int i1), .val (.int i2), .val (.int i3), .val (.null), .val (.int i5), .val (.int i6), .val (.int i7)]) (fun m => by first | (simp [entryFrame, mkF, argsToLocals, Value.category]; done) | rfl) ?_
  intro p e s m args below meth c T W
  have K0 := Keep.refl h0 [o]
  refine o_aloadN 1 W d7_0 rfl rfl ?_
  refine o_initO 4 W (tw hw 38) (tw hw 14) (tw hw 15) d7_1 (fun T W => ?_)
  refine o_aloadN 5 W d7_4 rfl rfl ?_
  refine o_aloadN 6 W d7_5 rfl rfl ?_
  refine o_putF 9 W (tw hw 39) Ft A (Or.inr ⟨(tw hw 40), rfl, rfl⟩) (tw hw 33) (ty := (.object "java/lang/String")) (by decide) rfl rfl (Or.inr (by decide)) zo d7_6 (fun T h W w1 => ?_)
  have K0 := K0.wr w1 (Or.inl (List.mem_singleton.mpr rfl))
  have A := A.wr w1
  have Ft := Ft.same w1
  have Fa := Fa.other w1 (Or.inr (slot_ne (C := "com/example/strict_uri/stricturi/UriReference") (Or.inr (tw hw 42)) (Or.inr (tw hw 40)) (by decide) (t := .int) (t' := (.object "java/lang/String")) (by decide) (by decide)))
  have Fb := Fb.other w1 (Or.inr (slot_ne (C := "com/example/strict_uri/stricturi/UriReference") (Or.inr (tw hw 44)) (Or.inr (tw hw 40)) (by decide) (t := .int) (t' := (.object "java/lang/String")) (by decide) (by decide)))
  have Fc := Fc.other w1 (Or.inr (slot_ne (C := "com/example/strict_uri/stricturi/UriReference") (Or.inr (tw hw 46)) (Or.inr (tw hw 40)) (by decide) (t := .int) (t' := (.object "java/lang/String")) (by decide) (by decide)))
  have Fk := Fk.other w1 (Or.inr (slot_ne (C := "com/example/strict_uri/stricturi/UriReference") (Or.inr (tw hw 48)) (Or.inr (tw hw 40)) (by decide) (t := (.object "com/example/strict_uri/stricturi/HostKind")) (t' := (.object "java/lang/String")) (by decide) (by decide)))
  have Fd := Fd.other w1 (Or.inr (slot_ne (C := "com/example/strict_uri/stricturi/UriReference") (Or.inr (tw hw 50)) (Or.inr (tw hw 40)) (by decide) (t := .int) (t' := (.object "java/lang/String")) (by decide) (by decide)))
  have Fe := Fe.other w1 (Or.inr (slot_ne (C := "com/example/strict_uri/stricturi/UriReference") (Or.inr (tw hw 52)) (Or.inr (tw hw 40)) (by decide) (t := .int) (t' := (.object "java/lang/String")) (by decide) (by decide)))
  have Ff := Ff.other w1 (Or.inr (slot_ne (C := "com/example/strict_uri/stricturi/UriReference") (Or.inr (tw hw 54)) (Or.inr (tw hw 40)) (by decide) (t := .int) (t' := (.object "java/lang/String")) (by decide) (by decide)))
  refine o_aloadN 10 W d7_9 rfl rfl ?_
  refine o_iloadN 11 W d7_10 rfl ?_
  refine o_putF 14 W (tw hw 41) Fa A (Or.inr ⟨(tw hw 42), rfl, rfl⟩) (tw hw 33) (ty := .int) (by decide) rfl rfl (Or.inr (by decide)) zo d7_11 (fun T h W w1 => ?_)
  have K0 := K0.wr w1 (Or.inl (List.mem_singleton.mpr rfl))
  have A := A.wr w1
  have Fa := Fa.same w1
  have Ft := Ft.other w1 (Or.inr (slot_ne (C := "com/example/strict_uri/stricturi/UriReference") (Or.inr (tw hw 40)) (Or.inr (tw hw 42)) (by decide) (t := (.object "java/lang/String")) (t' := .int) (by decide) (by decide)))
  have Fb := Fb.other w1 (Or.inr (slot_ne (C := "com/example/strict_uri/stricturi/UriReference") (Or.inr (tw hw 44)) (Or.inr (tw hw 42)) (by decide) (t := .int) (t' := .int) (by decide) (by decide)))
  have Fc := Fc.other w1 (Or.inr (slot_ne (C := "com/example/strict_uri/stricturi/UriReference") (Or.inr (tw hw 46)) (Or.inr (tw hw 42)) (by decide) (t := .int) (t' := .int) (by decide) (by decide)))
  have Fk := Fk.other w1 (Or.inr (slot_ne (C := "com/example/strict_uri/stricturi/UriReference") (Or.inr (tw hw 48)) (Or.inr (tw hw 42)) (by decide) (t := (.object "com/example/strict_uri/stricturi/HostKind")) (t' := .int) (by decide) (by decide)))
  have Fd := Fd.other w1 (Or.inr (slot_ne (C := "com/example/strict_uri/stricturi/UriReference") (Or.inr (tw hw 50)) (Or.inr (tw hw 42)) (by decide) (t := .int) (t' := .int) (by decide) (by decide)))
  have Fe := Fe.other w1 (Or.inr (slot_ne (C := "com/example/strict_uri/stricturi/UriReference") (Or.inr (tw hw 52)) (Or.inr (tw hw 42)) (by decide) (t := .int) (t' := .int) (by decide) (by decide)))
  have Ff := Ff.other w1 (Or.inr (slot_ne (C := "com/example/strict_uri/stricturi/UriReference") (Or.inr (tw hw 54)) (Or.inr (tw hw 42)) (by decide) (t := .int) (t' := .int) (by decide) (by decide)))
  refine o_aloadN 15 W d7_14 rfl rfl ?_
  refine o_iloadN 16 W d7_15 rfl ?_
  refine o_putF 19 W (tw hw 43) Fb A (Or.inr ⟨(tw hw 44), rfl, rfl⟩) (tw hw 33) (ty := .int) (by decide) rfl rfl (Or.inr (by decide)) zo d7_16 (fun T h W w1 => ?_)
  have K0 := K0.wr w1 (Or.inl (List.mem_singleton.mpr rfl))
  have A := A.wr w1
  have Fb := Fb.same w1
  have Ft := Ft.other w1 (Or.inr (slot_ne (C := "com/example/strict_uri/stricturi/UriReference") (Or.inr (tw hw 40)) (Or.inr (tw hw 44)) (by decide) (t := (.object "java/lang/String")) (t' := .int) (by decide) (by decide)))
  have Fc := Fc.other w1 (Or.inr (slot_ne (C := "com/example/strict_uri/stricturi/UriReference") (Or.inr (tw hw 46)) (Or.inr (tw hw 44)) (by decide) (t := .int) (t' := .int) (by decide) (by decide)))
  have Fk := Fk.other w1 (Or.inr (slot_ne (C := "com/example/strict_uri/stricturi/UriReference") (Or.inr (tw hw 48)) (Or.inr (tw hw 44)) (by decide) (t := (.object "com/example/strict_uri/stricturi/HostKind")) (t' := .int) (by decide) (by decide)))
  have Fd := Fd.other w1 (Or.inr (slot_ne (C := "com/example/strict_uri/stricturi/UriReference") (Or.inr (tw hw 50)) (Or.inr (tw hw 44)) (by decide) (t := .int) (t' := .int) (by decide) (by decide)))
  have Fe := Fe.other w1 (Or.inr (slot_ne (C := "com/example/strict_uri/stricturi/UriReference") (Or.inr (tw hw 52)) (Or.inr (tw hw 44)) (by decide) (t := .int) (t' := .int) (by decide) (by decide)))
  have Ff := Ff.other w1 (Or.inr (slot_ne (C := "com/example/strict_uri/stricturi/UriReference") (Or.inr (tw hw 54)) (Or.inr (tw hw 44)) (by decide) (t := .int) (t' := .int) (by decide) (by decide)))
  refine o_aloadN 20 W d7_19 rfl rfl ?_
  refine o_iload 22 W d7_20 rfl ?_
  refine o_putF 25 W (tw hw 45) Fc A (Or.inr ⟨(tw hw 46), rfl, rfl⟩) (tw hw 33) (ty := .int) (by decide) rfl rfl (Or.inr (by decide)) zo d7_22 (fun T h W w1 => ?_)
  have K0 := K0.wr w1 (Or.inl (List.mem_singleton.mpr rfl))
  have A := A.wr w1
  have Fc := Fc.same w1
  have Ft := Ft.other w1 (Or.inr (slot_ne (C := "com/example/strict_uri/stricturi/UriReference") (Or.inr (tw hw 40)) (Or.inr (tw hw 46)) (by decide) (t := (.object "java/lang/String")) (t' := .int) (by decide) (by decide)))
  have Fk := Fk.other w1 (Or.inr (slot_ne (C := "com/example/strict_uri/stricturi/UriReference") (Or.inr (tw hw 48)) (Or.inr (tw hw 46)) (by decide) (t := (.object "com/example/strict_uri/stricturi/HostKind")) (t' := .int) (by decide) (by decide)))
  have Fd := Fd.other w1 (Or.inr (slot_ne (C := "com/example/strict_uri/stricturi/UriReference") (Or.inr (tw hw 50)) (Or.inr (tw hw 46)) (by decide) (t := .int) (t' := .int) (by decide) (by decide)))
  have Fe := Fe.other w1 (Or.inr (slot_ne (C := "com/example/strict_uri/stricturi/UriReference") (Or.inr (tw hw 52)) (Or.inr (tw hw 46)) (by decide) (t := .int) (t' := .int) (by decide) (by decide)))
  have Ff := Ff.other w1 (Or.inr (slot_ne (C := "com/example/strict_uri/stricturi/UriReference") (Or.inr (tw hw 54)) (Or.inr (tw hw 46)) (by decide) (t := .int) (t' := .int) (by decide) (by decide)))
  refine o_aloadN 26 W d7_25 rfl rfl ?_
  refine o_aload 28 W d7_26 rfl rfl ?_
  refine o_putF 31 W (tw hw 47) Fk A (Or.inr ⟨(tw hw 48), rfl, rfl⟩) (tw hw 33) (ty := (.object "com/example/strict_uri/stricturi/HostKind")) (by decide) rfl rfl (Or.inr (by decide)) zo d7_28 (fun T h W w1 => ?_)
  have K0 := K0.wr w1 (Or.inl (List.mem_singleton.mpr rfl))
  have A := A.wr w1
  have Fk := Fk.same w1
  have Ft := Ft.other w1 (Or.inr (slot_ne (C := "com/example/strict_uri/stricturi/UriReference") (Or.inr (tw hw 40)) (Or.inr (tw hw 48)) (by decide) (t := (.object "java/lang/String")) (t' := (.object "com/example/strict_uri/stricturi/HostKind")) (by decide) (by decide)))
  have Fd := Fd.other w1 (Or.inr (slot_ne (C := "com/example/strict_uri/stricturi/UriReference") (Or.inr (tw hw 50)) (Or.inr (tw hw 48)) (by decide) (t := .int) (t' := (.object "com/example/strict_uri/stricturi/HostKind")) (by decide) (by decide)))
  have Fe := Fe.other w1 (Or.inr (slot_ne (C := "com/example/strict_uri/stricturi/UriReference") (Or.inr (tw hw 52)) (Or.inr (tw hw 48)) (by decide) (t := .int) (t' := (.object "com/example/strict_uri/stricturi/HostKind")) (by decide) (by decide)))
  have Ff := Ff.other w1 (Or.inr (slot_ne (C := "com/example/strict_uri/stricturi/UriReference") (Or.inr (tw hw 54)) (Or.inr (tw hw 48)) (by decide) (t := .int) (t' := (.object "com/example/strict_uri/stricturi/HostKind")) (by decide) (by decide)))
  refine o_aloadN 32 W d7_31 rfl rfl ?_
  refine o_iload 34 W d7_32 rfl ?_
  refine o_putF 37 W (tw hw 49) Fd A (Or.inr ⟨(tw hw 50), rfl, rfl⟩) (tw hw 33) (ty := .int) (by decide) rfl rfl (Or.inr (by decide)) zo d7_34 (fun T h W w1 => ?_)
  have K0 := K0.wr w1 (Or.inl (List.mem_singleton.mpr rfl))
  have A := A.wr w1
  have Fd := Fd.same w1
  have Ft := Ft.other w1 (Or.inr (slot_ne (C := "com/example/strict_uri/stricturi/UriReference") (Or.inr (tw hw 40)) (Or.inr (tw hw 50)) (by decide) (t := (.object "java/lang/String")) (t' := .int) (by decide) (by decide)))
  have Fe := Fe.other w1 (Or.inr (slot_ne (C := "com/example/strict_uri/stricturi/UriReference") (Or.inr (tw hw 52)) (Or.inr (tw hw 50)) (by decide) (t := .int) (t' := .int) (by decide) (by decide)))
  have Ff := Ff.other w1 (Or.inr (slot_ne (C := "com/example/strict_uri/stricturi/UriReference") (Or.inr (tw hw 54)) (Or.inr (tw hw 50)) (by decide) (t := .int) (t' := .int) (by decide) (by decide)))
  refine o_aloadN 38 W d7_37 rfl rfl ?_
  refine o_iload 40 W d7_38 rfl ?_
  refine o_putF 43 W (tw hw 51) Fe A (Or.inr ⟨(tw hw 52), rfl, rfl⟩) (tw hw 33) (ty := .int) (by decide) rfl rfl (Or.inr (by decide)) zo d7_40 (fun T h W w1 => ?_)
  have K0 := K0.wr w1 (Or.inl (List.mem_singleton.mpr rfl))
  have A := A.wr w1
  have Fe := Fe.same w1
  have Ft := Ft.other w1 (Or.inr (slot_ne (C := "com/example/strict_uri/stricturi/UriReference") (Or.inr (tw hw 40)) (Or.inr (tw hw 52)) (by decide) (t := (.object "java/lang/String")) (t' := .int) (by decide) (by decide)))
  have Ff := Ff.other w1 (Or.inr (slot_ne (C := "com/example/strict_uri/stricturi/UriReference") (Or.inr (tw hw 54)) (Or.inr (tw hw 52)) (by decide) (t := .int) (t' := .int) (by decide) (by decide)))
  refine o_aloadN 44 W d7_43 rfl rfl ?_
  refine o_iload 46 W d7_44 rfl ?_
  refine o_putF 49 W (tw hw 53) Ff A (Or.inr ⟨(tw hw 54), rfl, rfl⟩) (tw hw 33) (ty := .int) (by decide) rfl rfl (Or.inr (by decide)) zo d7_46 (fun T h W w1 => ?_)
  have K0 := K0.wr w1 (Or.inl (List.mem_singleton.mpr rfl))
  have A := A.wr w1
  have Ff := Ff.same w1
  have Ft := Ft.other w1 (Or.inr (slot_ne (C := "com/example/strict_uri/stricturi/UriReference") (Or.inr (tw hw 40)) (Or.inr (tw hw 54)) (by decide) (t := (.object "java/lang/String")) (t' := .int) (by decide) (by decide)))
  have Fe := Fe.other w1 (Or.inr (slot_ne (C := "com/example/strict_uri/stricturi/UriReference") (Or.inr (tw hw 52)) (Or.inr (tw hw 54)) (by decide) (t := .int) (t' := .int) (by decide) (by decide)))
  exact o_ret W d7_49 (⟨K0, A, Ft, Fe, Ff⟩)
theorem con_qryN (l : Launch) (Z : State) (b0 : Array Value) (hw : ∀ d ∈ tables_1, d.before b0 Z = true) (a t : Addr) (pe qe : Int32) (h0 : Heap) (hE : Ext Z.heap h0) (Ft : Fld Z h0 a "com/example/strict_uri/stricturi/UriReference" "text" "Ljava/lang/String;" (.ref t)) (Fe : Fld Z h0 a "com/example/strict_uri/stricturi/UriReference" "pathEnd" "I" (.int pe)) (Ff : Fld Z h0 a "com/example/strict_uri/stricturi/UriReference" "queryEnd" "I" (.int qe)) (hq : qe = pe) : Con l Z (⟨"com/example/strict_uri/stricturi/UriReference", "query", "()Ljava/lang/String;"⟩ : MethodName) prog_7_method_14_code 1 (some (.object "java/lang/String")) ({ frames := 0, cells := 0, slots := 0, locals := 0 } : Room) #[(.ref a)] h0 [] (QV fun w h => w = .null ∧ h0 = h) := by
  refine Con.of (plainFor_of_name pn5) hE ⟨b0, own_ew0 hw⟩ all0 (L0 := #[.val (.ref a)]) (fun m => by first | (simp [entryFrame, mkF, argsToLocals, Value.category]; done) | rfl) ?_
  intro p e s m args below meth c T W
  refine o_aloadN 1 W d8_0 rfl rfl ?_
  refine o_getF 4 W (tw hw 53) Ff d8_1 (fun T W => ?_)
  refine o_aloadN 5 W d8_4 rfl rfl ?_
  refine o_getF 8 W (tw hw 51) Fe d8_5 (fun T W => ?_)
  refine o_icN 11 W d8_8 (XT.ii_ne_f hq) ?_
  refine o_null 12 W d8_11 ?_
  refine o_goto 32 W d8_12 ?_
  exact o_aret W rfl rfl rfl d8_32 (⟨rfl, rfl⟩)
theorem con_qry (l : Launch) (Z : State) (b0 : Array Value) (hw : ∀ d ∈ tables_1, d.before b0 Z = true) (a t : Addr) (pe qe : Int32) (h0 : Heap) (hE : Ext Z.heap h0) (Ft : Fld Z h0 a "com/example/strict_uri/stricturi/UriReference" "text" "Ljava/lang/String;" (.ref t)) (Fe : Fld Z h0 a "com/example/strict_uri/stricturi/UriReference" "pathEnd" "I" (.int pe)) (Ff : Fld Z h0 a "com/example/strict_uri/stricturi/UriReference" "queryEnd" "I" (.int qe)) (hq : ¬ qe = pe) (cs : List Int32) (pi qi : Nat) (hbig : cs.length ≤ 16) (hp : pe.toInt = pi) (hqi : qe.toInt = qi) (h1 : pi + 1 ≤ qi) (h2 : qi ≤ cs.length) (X : Str Z h0 t cs) (cz : Int32) (hcz : ¬ cz = 0) (SC : Sta Z Z.heap "java/lang/String" "COMPACT_STRINGS" "Z" (.int cz)) (vf : Value) (rf : vf.isRef = true) (SF : Sta Z Z.heap "jdk/internal/util/Preconditions" "SIOOBE_FORMATTER" "Ljava/util/function/BiFunction;" vf) : Con l Z (⟨"com/example/strict_uri/stricturi/UriReference", "query", "()Ljava/lang/String;"⟩ : MethodName) prog_7_method_14_code 1 (some (.object "java/lang/String")) ({ frames := 5, cells := 4, slots := 24, locals := 184 } : Room) #[(.ref a)] h0 [] (QV fun w h => ∃ o, w = .ref o ∧ Str Z h o (own_sub cs (pi + 1) (qi - (pi + 1))) ∧ Ext h0 h) := by
  refine Con.of (plainFor_of_name pn5) hE ⟨b0, own_ew0 hw⟩ all0 (L0 := #[.val (.ref a)]) (fun m => by first | (simp [entryFrame, mkF, argsToLocals, Value.category]; done) | rfl) ?_
  intro p e s m args below meth c T W
  refine o_aloadN 1 W d8_0 rfl rfl ?_
  refine o_getF 4 W (tw hw 53) Ff d8_1 (fun T W => ?_)
  refine o_aloadN 5 W d8_4 rfl rfl ?_
  refine o_getF 8 W (tw hw 51) Fe d8_5 (fun T W => ?_)
  refine o_icY 15 W d8_8 (XT.ii_ne_t hq) ?_
  refine o_aloadN 16 W d8_15 rfl rfl ?_
  refine o_getF 19 W (tw hw 39) Ft d8_16 (fun T W => ?_)
  refine o_aloadN 20 W d8_19 rfl rfl ?_
  refine o_getF 23 W (tw hw 51) Fe d8_20 (fun T W => ?_)
  refine o_iconst 24 W (1) d8_23 (by first | rfl | decide) ?_
  refine o_iadd 25 W d8_24 ?_
  refine o_aloadN 26 W d8_25 rfl rfl ?_
  refine o_getF 29 W (tw hw 53) Ff d8_26 (fun T W => ?_)
  refine o_virtual 32 [(.int (pe + (1 : Int32))), (.int qe)] W (tw hw 60) (tw hw 61) (tw hw 63) (tw hw 62) (tw hw 5) (tw hw 64) (X.1) (con_sub l Z b0 hw t (pe + 1) qe cs (pi + 1) qi hbig (own_inc1 hp (by omega)) hqi h1 h2 _ W.old X cz hcz SC vf rf SF) pd16 d8_29 rfl all0 (fun T h v W qq gg => ?_)
  obtain ⟨_, rfl, o, rfl, Xo, Eo⟩ := qq
  show Go p e below _ _ (mkF m 32 #[.val (.ref a)] [(.ref o)])
  exact o_aret W rfl rfl rfl d8_32 (⟨o, rfl, Xo, Eo⟩)
theorem own_sub_get (cs : List Int32) (f n k : Nat) (hk : k < n) (h : f + n ≤ cs.length) : (own_sub cs f n).getD k 0 = cs.getD (f + k) 0 := by
  have h3 : f + k < cs.length := by omega
  simp [own_sub, List.getD_eq_getElem?_getD, hk]
theorem con_sam (l : Launch) (Z : State) (b0 : Array Value) (hw : ∀ d ∈ tables_1, d.before b0 Z = true) (r d : Addr) (kd : ClassId) (f n k : Int32) (cs : List Int32) (fi ni ki : Nat) (hl : cs.length = 6) (hc : own_ch cs) (hf : f.toInt = fi) (hn : n.toInt = ni) (hk : k.toInt = ki) (h1 : fi + ni ≤ 6) (h0 : Heap) (hE : Ext Z.heap h0) (X : Str Z h0 r (own_sub cs fi ni)) (A : Arv Z h0 d kd .char 6 (cs.map Value.int) (.int 0)) (cz : Int32) (hcz : ¬ cz = 0) (SC : Sta Z Z.heap "java/lang/String" "COMPACT_STRINGS" "Z" (.int cz)) (vf : Value) (rf : vf.isRef = true) (SF : Sta Z Z.heap "jdk/internal/util/Preconditions" "SIOOBE_FORMATTER" "Ljava/util/function/BiFunction;" vf) : Con l Z (⟨"com/example/strict_uri/stricturi/UriReferenceQueryPinLaw", "same", "(Ljava/lang/String;[CIII)Z"⟩ : MethodName) method_3_code 5 (some .boolean) ({ frames := 4, cells := 0, slots := 0, locals := 112 } : Room) #[(.ref r), (.ref d), (.int f), (.int n), (.int k)] h0 [] (QV fun w h => w = .int 1 ∧ h0 = h) := by
  refine Con.of (plainFor_of_name pn6) hE ⟨b0, own_ew0 hw⟩ all0 (L0 := #[.val (.ref r), .val (.ref d), .val (.int f), .val (.int n), .val (.int k)]) (fun m => by first | (simp [entryFrame, mkF, argsToLocals, Value.category]; done) | rfl) ?_
  intro p e s m args below meth c T W
  refine o_iload 2 W d16_0 rfl ?_
  refine o_iloadN 3 W d16_2 rfl ?_
  refine o_icge 21 6 W d16_3 (fun c3 => ?_) (fun c3 => ?_)
  · refine o_iconst 22 W (1) d16_21 (by first | rfl | decide) ?_
    refine o_goto 26 W d16_22 ?_
    exact o_nret W (1 : Int32) (by simp) (by decide) d16_26 (⟨rfl, rfl⟩)
  · have hkn : ki < ni := by have q := c3; rw [Int32.lt_iff_toInt_lt] at q; omega
    have hsl := own_sub_len cs fi ni (by omega)
    refine o_aloadN 7 W d16_6 rfl rfl ?_
    refine o_iload 9 W d16_7 rfl ?_
    refine o_virtual 12 [(.int k)] W (tw hw 122) (tw hw 123) (tw hw 125) (tw hw 124) (tw hw 5) (tw hw 126) (X.1) (con_cat l Z b0 hw r k _ (own_sub_ch hc fi ni) cz hcz SC vf rf SF (own_nn hk) (by omega) _ W.old X) pd17 d16_9 rfl all0 (fun T h v W qq gg => ?_)
    obtain ⟨_, rfl, rfl, rfl⟩ := qq
    show Go p e below _ _ (mkF m 12 #[.val (.ref r), .val (.ref d), .val (.int f), .val (.int n), .val (.int k)] [(.int ((own_sub cs fi ni).getD k.toNatClampNeg 0))])
    refine o_aloadN 13 W d16_12 rfl rfl ?_
    refine o_iloadN 14 W d16_13 rfl ?_
    refine o_iload 16 W d16_14 rfl ?_
    refine o_iadd 17 W d16_16 ?_
    have hfk := own_addI hf hk (by omega)
    have six : (6 : Int32).toInt = ((6 : Nat) : Int) := rfl
    refine o_caloadV 18 W A ⟨own_nn hfk, own_ltI hfk six (by omega)⟩ (own_gd cs _) d16_17 ?_
    refine o_icN 21 W d16_18 (XT.ii_ne_f (by rw [own_cl hfk, own_cl hk]; exact own_sub_get cs fi ni ki hkn (by omega))) ?_
    refine o_iconst 22 W (1) d16_21 (by first | rfl | decide) ?_
    refine o_goto 26 W d16_22 ?_
    exact o_nret W (1 : Int32) (by simp) (by decide) d16_26 (⟨rfl, rfl⟩)
theorem own_l255 (x : Int64) : ¬ (x &&& 255).toInt32.toUInt32.toUInt16.toUInt32.toInt32 < 0 ∧ ¬ (255 : Int32) < (x &&& 255).toInt32.toUInt32.toUInt16.toUInt32.toInt32 := by
  have e : (x &&& 255).toInt32 = x.toInt32 &&& 255 := by rw [Int64.toInt32_and]; rfl
  rw [e]; exact own_c255 _
theorem own_set (cs : List Int32) (i : Nat) (v : Int32) : (cs.map Value.int).set i (.int v) = (cs.set i v).map Value.int := by rw [List.map_set]
theorem own_chset {cs : List Int32} (h : own_ch cs) (i : Nat) {v : Int32} (hv : ¬ v < 0 ∧ ¬ (255 : Int32) < v) : own_ch (cs.set i v) := fun c hc => by
  rcases List.mem_or_eq_of_mem_set hc with q | q
  · exact h c q
  · exact q ▸ hv
theorem con_law (l : Launch) (Z : State) (b0 : Array Value) (hw : ∀ d ∈ tables_1, d.before b0 Z = true) (x0 : Int64) (x1 x2 : Int32) (cz : Int32) (hcz : ¬ cz = 0) (SC : Sta Z Z.heap "java/lang/String" "COMPACT_STRINGS" "Z" (.int cz)) (vf : Value) (rf : vf.isRef = true) (SF : Sta Z Z.heap "jdk/internal/util/Preconditions" "SIOOBE_FORMATTER" "Ljava/util/function/BiFunction;" vf) : Con l Z x code maxLocals ret room_1 #[(.long x0), (.int x1), (.int x2)] Z.heap [] (QV fun w h => w = .int 1) := by
  refine Con.of (plainFor_of_name pn6) (own_ext_refl _) ⟨b0, own_ew0 hw⟩ all0 (L0 := #[.val (.long x0), .second, .val (.int x1), .val (.int x2), .unset, .unset, .unset, .unset, .unset, .unset, .unset, .unset, .unset]) (fun m => by first | (simp [entryFrame, mkF, argsToLocals, Value.category, maxLocals]; done) | rfl) ?_
  intro p e s m args below meth c T W
  refine o_bipush 2 W (6) at_0 (by first | rfl | decide) ?_
  refine o_newarray 4 6 W (tw hw 0) at_2 (by decide) (by decide) (fun T h d kd W Ed Ad gd zd => ?_)
  have Ad := own_pad 6 Ad
  refine o_astore 6 W #[.val (.long x0), .second, .val (.int x1), .val (.int x2), .val (.ref d), .unset, .unset, .unset, .unset, .unset, .unset, .unset, .unset] at_4 rfl rfl ?_
  refine o_aload 8 W at_6 rfl rfl ?_
  refine o_iconst 9 W (0) at_8 (by first | rfl | decide) ?_
  refine o_lloadN 10 W at_9 rfl ?_
  refine o_ldc2J 13 W (tw hw 1) at_10 ?_
  refine o_land 14 W at_13 ?_
  refine o_l2i 15 W at_14 ?_
  refine o_i2c 16 W at_15 ?_
  refine o_castore 17 0 W Ad (by decide) rfl (by first | decide | simp) zd at_16 (fun T h W w0 Ad => ?_)
  have Ed := own_ext_wr Ed w0 gd
  have r0 := own_l255 x0
  rw [own_nar r0] at Ad
  refine o_aload 19 W at_17 rfl rfl ?_
  refine o_iconst 20 W (1) at_19 (by first | rfl | decide) ?_
  refine o_lloadN 21 W at_20 rfl ?_
  refine o_bipush 23 W (8) at_21 (by first | rfl | decide) ?_
  refine o_lushr 24 W at_23 ?_
  refine o_ldc2J 27 W (tw hw 1) at_24 ?_
  refine o_land 28 W at_27 ?_
  refine o_l2i 29 W at_28 ?_
  refine o_i2c 30 W at_29 ?_
  refine o_castore 31 1 W Ad (by decide) rfl (by first | decide | simp) zd at_30 (fun T h W w1 Ad => ?_)
  have Ed := own_ext_wr Ed w1 gd
  have r1 := own_l255 (XT.ushrL x0 (8 : Int32))
  rw [own_nar r1] at Ad
  refine o_aload 33 W at_31 rfl rfl ?_
  refine o_iconst 34 W (2) at_33 (by first | rfl | decide) ?_
  refine o_lloadN 35 W at_34 rfl ?_
  refine o_bipush 37 W (16) at_35 (by first | rfl | decide) ?_
  refine o_lushr 38 W at_37 ?_
  refine o_ldc2J 41 W (tw hw 1) at_38 ?_
  refine o_land 42 W at_41 ?_
  refine o_l2i 43 W at_42 ?_
  refine o_i2c 44 W at_43 ?_
  refine o_castore 45 2 W Ad (by decide) rfl (by first | decide | simp) zd at_44 (fun T h W w2 Ad => ?_)
  have Ed := own_ext_wr Ed w2 gd
  have r2 := own_l255 (XT.ushrL x0 (16 : Int32))
  rw [own_nar r2] at Ad
  refine o_aload 47 W at_45 rfl rfl ?_
  refine o_iconst 48 W (3) at_47 (by first | rfl | decide) ?_
  refine o_lloadN 49 W at_48 rfl ?_
  refine o_bipush 51 W (24) at_49 (by first | rfl | decide) ?_
  refine o_lushr 52 W at_51 ?_
  refine o_ldc2J 55 W (tw hw 1) at_52 ?_
  refine o_land 56 W at_55 ?_
  refine o_l2i 57 W at_56 ?_
  refine o_i2c 58 W at_57 ?_
  refine o_castore 59 3 W Ad (by decide) rfl (by first | decide | simp) zd at_58 (fun T h W w3 Ad => ?_)
  have Ed := own_ext_wr Ed w3 gd
  have r3 := own_l255 (XT.ushrL x0 (24 : Int32))
  rw [own_nar r3] at Ad
  refine o_aload 61 W at_59 rfl rfl ?_
  refine o_iconst 62 W (4) at_61 (by first | rfl | decide) ?_
  refine o_lloadN 63 W at_62 rfl ?_
  refine o_bipush 65 W (32) at_63 (by first | rfl | decide) ?_
  refine o_lushr 66 W at_65 ?_
  refine o_ldc2J 69 W (tw hw 1) at_66 ?_
  refine o_land 70 W at_69 ?_
  refine o_l2i 71 W at_70 ?_
  refine o_i2c 72 W at_71 ?_
  refine o_castore 73 4 W Ad (by decide) rfl (by first | decide | simp) zd at_72 (fun T h W w4 Ad => ?_)
  have Ed := own_ext_wr Ed w4 gd
  have r4 := own_l255 (XT.ushrL x0 (32 : Int32))
  rw [own_nar r4] at Ad
  refine o_aload 75 W at_73 rfl rfl ?_
  refine o_iconst 76 W (5) at_75 (by first | rfl | decide) ?_
  refine o_lloadN 77 W at_76 rfl ?_
  refine o_bipush 79 W (40) at_77 (by first | rfl | decide) ?_
  refine o_lushr 80 W at_79 ?_
  refine o_ldc2J 83 W (tw hw 1) at_80 ?_
  refine o_land 84 W at_83 ?_
  refine o_l2i 85 W at_84 ?_
  refine o_i2c 86 W at_85 ?_
  refine o_castore 87 5 W Ad (by decide) rfl (by first | decide | simp) zd at_86 (fun T h W w5 Ad => ?_)
  have Ed := own_ext_wr Ed w5 gd
  have r5 := own_l255 (XT.ushrL x0 (40 : Int32))
  rw [own_nar r5] at Ad
  obtain ⟨cs, hcs⟩ : ∃ cs : List Int32, cs = [(((x0 &&& (255 : Int64)).toInt32).toUInt32.toUInt16.toUInt32.toInt32), ((((XT.ushrL x0 (8 : Int32)) &&& (255 : Int64)).toInt32).toUInt32.toUInt16.toUInt32.toInt32), ((((XT.ushrL x0 (16 : Int32)) &&& (255 : Int64)).toInt32).toUInt32.toUInt16.toUInt32.toInt32), ((((XT.ushrL x0 (24 : Int32)) &&& (255 : Int64)).toInt32).toUInt32.toUInt16.toUInt32.toInt32), ((((XT.ushrL x0 (32 : Int32)) &&& (255 : Int64)).toInt32).toUInt32.toUInt16.toUInt32.toInt32), ((((XT.ushrL x0 (40 : Int32)) &&& (255 : Int64)).toInt32).toUInt32.toUInt16.toUInt32.toInt32)] := ⟨_, rfl⟩
  have hl : cs.length = 6 := by rw [hcs]; rfl
  have hc : own_ch cs := by rw [hcs]; exact (own_chS r0 (own_chS r1 (own_chS r2 (own_chS r3 (own_chS r4 (own_chS r5 own_ch0))))))
  have Ad : Arv Z h d kd .char 6 (cs.map Value.int) (.int 0) := by rw [hcs]; exact Ad
  clear hcs
  refine o_iloadN 88 W at_87 rfl ?_
  refine o_ldcI 90 W (tw hw 2) at_88 ?_
  refine o_iand 91 W at_90 ?_
  refine o_bipush 93 W (7) at_91 (by first | rfl | decide) ?_
  refine o_irem 94 W at_93 (by decide) ?_
  refine o_istore 96 W #[.val (.long x0), .second, .val (.int x1), .val (.int x2), .val (.ref d), .val (.int ((x1 &&& (2147483647 : Int32)) % (7 : Int32))), .unset, .unset, .unset, .unset, .unset, .unset, .unset] at_94 rfl ?_
  have hpm := own_mod x1 7 (by decide)
  have h7 : (7 : Int32).toInt = 7 := rfl
  generalize ((x1 &&& (2147483647 : Int32)) % (7 : Int32)) = pe at hpm ⊢
  show Go p e below _ _ (mkF m 96 #[.val (.long x0), .second, .val (.int x1), .val (.int x2), .val (.ref d), .val (.int pe), .unset, .unset, .unset, .unset, .unset, .unset, .unset] [])
  obtain ⟨pi, hp⟩ : ∃ pi : Nat, pe.toInt = pi := ⟨pe.toInt.toNat, by omega⟩
  have hpi : pi ≤ 6 := by omega
  refine o_iload 98 W at_96 rfl ?_
  refine o_iloadN 99 W at_98 rfl ?_
  refine o_ldcI 101 W (tw hw 2) at_99 ?_
  refine o_iand 102 W at_101 ?_
  refine o_bipush 104 W (7) at_102 (by first | rfl | decide) ?_
  refine o_iload 106 W at_104 rfl ?_
  refine o_isub 107 W at_106 ?_
  have hd7 : (7 - pe).toInt = ((7 - pi : Nat) : Int) := own_subI (i := 7) rfl hp (by omega) (by omega)
  have hqm := own_mod x2 (7 - pe) (by omega)
  refine o_irem 108 W at_107 (fun q => by rw [q] at hd7; have : (0 : Int32).toInt = 0 := rfl; omega) ?_
  generalize ((x2 &&& (2147483647 : Int32)) % ((7 : Int32) - pe)) = dq at hqm ⊢
  show Go p e below _ _ (mkF m 108 #[.val (.long x0), .second, .val (.int x1), .val (.int x2), .val (.ref d), .val (.int pe), .unset, .unset, .unset, .unset, .unset, .unset, .unset] [(.int dq), (.int pe)])
  obtain ⟨di, hdi⟩ : ∃ di : Nat, dq.toInt = di := ⟨dq.toInt.toNat, by omega⟩
  have hdb : di ≤ 6 - pi := by omega
  refine o_iadd 109 W at_108 ?_
  refine o_istore 111 W #[.val (.long x0), .second, .val (.int x1), .val (.int x2), .val (.ref d), .val (.int pe), .val (.int (pe + dq)), .unset, .unset, .unset, .unset, .unset, .unset] at_109 rfl ?_
  have hq := own_addI hp hdi (by omega)
  obtain ⟨qi, hqi⟩ : ∃ qi, qi = pi + di := ⟨_, rfl⟩
  rw [← hqi] at hq
  generalize (pe + dq) = qe at hq ⊢
  show Go p e below _ _ (mkF m 111 #[.val (.long x0), .second, .val (.int x1), .val (.int x2), .val (.ref d), .val (.int pe), .val (.int qe), .unset, .unset, .unset, .unset, .unset, .unset] [])
  have six : (6 : Int32).toInt = ((6 : Nat) : Int) := rfl
  have hqb : qi ≤ 6 := by omega
  refine o_iload 113 W at_111 rfl ?_
  refine o_iload 115 W at_113 rfl ?_
  refine o_icle 122 118 W at_115 (fun c115 => ?_) (fun c115 => ?_)
  · have hqe : qe = pe := Int32.toInt_inj.mp (by have q := c115; rw [Int32.lt_iff_toInt_lt] at q; omega)
    refine o_iconst 123 W (0) at_122 (by first | rfl | decide) ?_
    refine o_istore 125 W #[.val (.long x0), .second, .val (.int x1), .val (.int x2), .val (.ref d), .val (.int pe), .val (.int qe), .val (.int (0 : Int32)), .unset, .unset, .unset, .unset, .unset] at_123 rfl ?_
    refine o_iload 127 W at_125 rfl ?_
    refine o_ifY 137 W at_127 (by decide) ?_
    refine o_iload 139 W at_137 rfl ?_
    refine o_bipush 141 W (6) at_139 (by first | rfl | decide) ?_
    refine o_icge 151 144 W at_141 (fun c141 => ?_) (fun c141 => ?_)
    · have hdlt := Ad.lt
      refine o_new 154 W (tw hw 3) (tw hw 4) (tw hw 5) at_151 (fun T h o W Eo Ao Do go zo => ?_)
      have Po := Do (Or.inr (tw hw 31)) (ty := .array .byte) (by decide)
      have Co := Do (Or.inr (tw hw 29)) (ty := .byte) (by decide)
      have Ad := Ad.ext Eo
      refine o_dup 155 W at_154 rfl ?_
      refine o_aload 157 W at_155 rfl rfl ?_
      refine o_special 160 [(.ref d)] W (tw hw 6) (tw hw 7) (tw hw 5) (tw hw 8) (con_sin l Z b0 hw o d kd 6 cs (by rw [hl]; rfl) (by omega) hc _ W.old Ad Ao Po Co zo cz hcz SC (by intro e; rw [e] at hl; cases hl)) pd18 at_157 rfl (by simp) (fun T h v W qq gg => ?_)
      obtain ⟨rfl, Ko, Xo⟩ := qq
      show Go p e below _ _ (mkF m 160 #[.val (.long x0), .second, .val (.int x1), .val (.int x2), .val (.ref d), .val (.int pe), .val (.int qe), .val (.int (0 : Int32)), .unset, .unset, .unset, .unset, .unset] [(.ref o)])
      have Ad := Ad.keep Ko (ninS (by have := Ao.lt; intro e; subst e; exact absurd go (Nat.not_le.mpr hdlt)) nin0)
      refine o_astore 162 W #[.val (.long x0), .second, .val (.int x1), .val (.int x2), .val (.ref d), .val (.int pe), .val (.int qe), .val (.int (0 : Int32)), .val (.ref o), .unset, .unset, .unset, .unset] at_160 rfl rfl ?_
      refine o_new 165 W (tw hw 32) (tw hw 33) (tw hw 34) at_162 (fun T h u W Eu Au Du gu zu => ?_)
      refine o_dup 166 W at_165 rfl ?_
      refine o_aload 168 W at_166 rfl rfl ?_
      refine o_iconst 169 W (-1) at_168 (by first | rfl | decide) ?_
      refine o_iconst 170 W (-1) at_169 (by first | rfl | decide) ?_
      refine o_iconst 171 W (-1) at_170 (by first | rfl | decide) ?_
      refine o_null 172 W at_171 ?_
      refine o_iconst 173 W (0) at_172 (by first | rfl | decide) ?_
      refine o_iload 175 W at_173 rfl ?_
      refine o_iload 177 W at_175 rfl ?_
      refine o_special 180 [(.ref o), (.int (-1 : Int32)), (.int (-1 : Int32)), (.int (-1 : Int32)), (.null), (.int (0 : Int32)), (.int pe), (.int qe)] W (tw hw 35) (tw hw 36) (tw hw 34) (tw hw 37) (con_uin l Z b0 hw u o (-1) (-1) (-1) 0 pe qe _ W.old Au (Du (Or.inr (tw hw 40)) (ty := (.object "java/lang/String")) (by decide)) (Du (Or.inr (tw hw 42)) (ty := .int) (by decide)) (Du (Or.inr (tw hw 44)) (ty := .int) (by decide)) (Du (Or.inr (tw hw 46)) (ty := .int) (by decide)) (Du (Or.inr (tw hw 48)) (ty := (.object "com/example/strict_uri/stricturi/HostKind")) (by decide)) (Du (Or.inr (tw hw 50)) (ty := .int) (by decide)) (Du (Or.inr (tw hw 52)) (ty := .int) (by decide)) (Du (Or.inr (tw hw 54)) (ty := .int) (by decide)) zu) pd19 at_177 rfl all0 (fun T h v W qq gg => ?_)
      obtain ⟨rfl, Ku, Au, Ft, Fe, Ff⟩ := qq
      show Go p e below _ _ (mkF m 180 #[.val (.long x0), .second, .val (.int x1), .val (.int x2), .val (.ref d), .val (.int pe), .val (.int qe), .val (.int (0 : Int32)), .val (.ref o), .unset, .unset, .unset, .unset] [(.ref u)])
      have Eu := own_ext_keep Eu Ku gu
      have Ad := Ad.ext Eu
      have Xo := Xo.ext Eu
      refine o_astore 182 W #[.val (.long x0), .second, .val (.int x1), .val (.int x2), .val (.ref d), .val (.int pe), .val (.int qe), .val (.int (0 : Int32)), .val (.ref o), .val (.ref u), .unset, .unset, .unset] at_180 rfl rfl ?_
      refine o_aload 184 W at_182 rfl rfl ?_
      refine o_virtual 187 [] W (tw hw 55) (tw hw 56) (tw hw 58) (tw hw 57) (tw hw 34) (tw hw 59) (Au) (con_qryN l Z b0 hw u o pe qe _ W.old Ft Fe Ff hqe) pd20 at_184 rfl all0 (fun T h v W qq gg => ?_)
      obtain ⟨_, rfl, rfl, rfl⟩ := qq
      show Go p e below _ _ (mkF m 187 #[.val (.long x0), .second, .val (.int x1), .val (.int x2), .val (.ref d), .val (.int pe), .val (.int qe), .val (.int (0 : Int32)), .val (.ref o), .val (.ref u), .unset, .unset, .unset] [(.null)])
      refine o_astore 189 W #[.val (.long x0), .second, .val (.int x1), .val (.int x2), .val (.ref d), .val (.int pe), .val (.int qe), .val (.int (0 : Int32)), .val (.ref o), .val (.ref u), .val (.null), .unset, .unset] at_187 rfl rfl ?_
      refine o_iload 191 W at_189 rfl ?_
      refine o_ifN 194 W at_191 (by decide) ?_
      refine o_aload 196 W at_194 rfl rfl ?_
      refine o_nnN 199 W at_196 ?_
      refine o_iconst 200 W (1) at_199 (by first | rfl | decide) ?_
      refine o_goto 204 W at_200 ?_
      exact o_nret W (1 : Int32) (by simp) (by decide) at_204 (rfl)
    · have hq6 : qi < 6 := by have q := c141; rw [Int32.lt_iff_toInt_lt] at q; omega
      refine o_aload 146 W at_144 rfl rfl ?_
      refine o_iload 148 W at_146 rfl ?_
      refine o_bipush 150 W (35) at_148 (by first | rfl | decide) ?_
      refine o_castore 151 qi W Ad ⟨own_nn hq, own_ltI hq six hq6⟩ (own_cl hq) (by simp; omega) zd at_150 (fun T h W wh Ad => ?_)
      have Ed := own_ext_wr Ed wh gd
      rw [show nar .char (35 : Int32) = 35 by decide, own_set] at Ad
      have hc := own_chset hc qi (v := 35) (by decide)
      have hl := (List.length_set (as := cs) (i := qi) (a := (35 : Int32))).trans hl
      generalize cs.set qi (35 : Int32) = cs at hc hl Ad
      have hdlt := Ad.lt
      refine o_new 154 W (tw hw 3) (tw hw 4) (tw hw 5) at_151 (fun T h o W Eo Ao Do go zo => ?_)
      have Po := Do (Or.inr (tw hw 31)) (ty := .array .byte) (by decide)
      have Co := Do (Or.inr (tw hw 29)) (ty := .byte) (by decide)
      have Ad := Ad.ext Eo
      refine o_dup 155 W at_154 rfl ?_
      refine o_aload 157 W at_155 rfl rfl ?_
      refine o_special 160 [(.ref d)] W (tw hw 6) (tw hw 7) (tw hw 5) (tw hw 8) (con_sin l Z b0 hw o d kd 6 cs (by rw [hl]; rfl) (by omega) hc _ W.old Ad Ao Po Co zo cz hcz SC (by intro e; rw [e] at hl; cases hl)) pd18 at_157 rfl (by simp) (fun T h v W qq gg => ?_)
      obtain ⟨rfl, Ko, Xo⟩ := qq
      show Go p e below _ _ (mkF m 160 #[.val (.long x0), .second, .val (.int x1), .val (.int x2), .val (.ref d), .val (.int pe), .val (.int qe), .val (.int (0 : Int32)), .unset, .unset, .unset, .unset, .unset] [(.ref o)])
      have Ad := Ad.keep Ko (ninS (by have := Ao.lt; intro e; subst e; exact absurd go (Nat.not_le.mpr hdlt)) nin0)
      refine o_astore 162 W #[.val (.long x0), .second, .val (.int x1), .val (.int x2), .val (.ref d), .val (.int pe), .val (.int qe), .val (.int (0 : Int32)), .val (.ref o), .unset, .unset, .unset, .unset] at_160 rfl rfl ?_
      refine o_new 165 W (tw hw 32) (tw hw 33) (tw hw 34) at_162 (fun T h u W Eu Au Du gu zu => ?_)
      refine o_dup 166 W at_165 rfl ?_
      refine o_aload 168 W at_166 rfl rfl ?_
      refine o_iconst 169 W (-1) at_168 (by first | rfl | decide) ?_
      refine o_iconst 170 W (-1) at_169 (by first | rfl | decide) ?_
      refine o_iconst 171 W (-1) at_170 (by first | rfl | decide) ?_
      refine o_null 172 W at_171 ?_
      refine o_iconst 173 W (0) at_172 (by first | rfl | decide) ?_
      refine o_iload 175 W at_173 rfl ?_
      refine o_iload 177 W at_175 rfl ?_
      refine o_special 180 [(.ref o), (.int (-1 : Int32)), (.int (-1 : Int32)), (.int (-1 : Int32)), (.null), (.int (0 : Int32)), (.int pe), (.int qe)] W (tw hw 35) (tw hw 36) (tw hw 34) (tw hw 37) (con_uin l Z b0 hw u o (-1) (-1) (-1) 0 pe qe _ W.old Au (Du (Or.inr (tw hw 40)) (ty := (.object "java/lang/String")) (by decide)) (Du (Or.inr (tw hw 42)) (ty := .int) (by decide)) (Du (Or.inr (tw hw 44)) (ty := .int) (by decide)) (Du (Or.inr (tw hw 46)) (ty := .int) (by decide)) (Du (Or.inr (tw hw 48)) (ty := (.object "com/example/strict_uri/stricturi/HostKind")) (by decide)) (Du (Or.inr (tw hw 50)) (ty := .int) (by decide)) (Du (Or.inr (tw hw 52)) (ty := .int) (by decide)) (Du (Or.inr (tw hw 54)) (ty := .int) (by decide)) zu) pd19 at_177 rfl all0 (fun T h v W qq gg => ?_)
      obtain ⟨rfl, Ku, Au, Ft, Fe, Ff⟩ := qq
      show Go p e below _ _ (mkF m 180 #[.val (.long x0), .second, .val (.int x1), .val (.int x2), .val (.ref d), .val (.int pe), .val (.int qe), .val (.int (0 : Int32)), .val (.ref o), .unset, .unset, .unset, .unset] [(.ref u)])
      have Eu := own_ext_keep Eu Ku gu
      have Ad := Ad.ext Eu
      have Xo := Xo.ext Eu
      refine o_astore 182 W #[.val (.long x0), .second, .val (.int x1), .val (.int x2), .val (.ref d), .val (.int pe), .val (.int qe), .val (.int (0 : Int32)), .val (.ref o), .val (.ref u), .unset, .unset, .unset] at_180 rfl rfl ?_
      refine o_aload 184 W at_182 rfl rfl ?_
      refine o_virtual 187 [] W (tw hw 55) (tw hw 56) (tw hw 58) (tw hw 57) (tw hw 34) (tw hw 59) (Au) (con_qryN l Z b0 hw u o pe qe _ W.old Ft Fe Ff hqe) pd20 at_184 rfl all0 (fun T h v W qq gg => ?_)
      obtain ⟨_, rfl, rfl, rfl⟩ := qq
      show Go p e below _ _ (mkF m 187 #[.val (.long x0), .second, .val (.int x1), .val (.int x2), .val (.ref d), .val (.int pe), .val (.int qe), .val (.int (0 : Int32)), .val (.ref o), .val (.ref u), .unset, .unset, .unset] [(.null)])
      refine o_astore 189 W #[.val (.long x0), .second, .val (.int x1), .val (.int x2), .val (.ref d), .val (.int pe), .val (.int qe), .val (.int (0 : Int32)), .val (.ref o), .val (.ref u), .val (.null), .unset, .unset] at_187 rfl rfl ?_
      refine o_iload 191 W at_189 rfl ?_
      refine o_ifN 194 W at_191 (by decide) ?_
      refine o_aload 196 W at_194 rfl rfl ?_
      refine o_nnN 199 W at_196 ?_
      refine o_iconst 200 W (1) at_199 (by first | rfl | decide) ?_
      refine o_goto 204 W at_200 ?_
      exact o_nret W (1 : Int32) (by simp) (by decide) at_204 (rfl)
  · have hpq : pi + 1 ≤ qi := by have q := c115; rw [Int32.lt_iff_toInt_lt] at q; omega
    have hqe : ¬ qe = pe := fun e => by rw [e] at hq; omega
    refine o_iconst 119 W (1) at_118 (by first | rfl | decide) ?_
    refine o_goto 123 W at_119 ?_
    refine o_istore 125 W #[.val (.long x0), .second, .val (.int x1), .val (.int x2), .val (.ref d), .val (.int pe), .val (.int qe), .val (.int (1 : Int32)), .unset, .unset, .unset, .unset, .unset] at_123 rfl ?_
    refine o_iload 127 W at_125 rfl ?_
    refine o_ifN 130 W at_127 (by decide) ?_
    refine o_aload 132 W at_130 rfl rfl ?_
    refine o_iload 134 W at_132 rfl ?_
    refine o_bipush 136 W (63) at_134 (by first | rfl | decide) ?_
    refine o_castore 137 pi W Ad ⟨own_nn hp, own_ltI hp six (by omega)⟩ (own_cl hp) (by simp; omega) zd at_136 (fun T h W wq Ad => ?_)
    have Ed := own_ext_wr Ed wq gd
    rw [show nar .char (63 : Int32) = 63 by decide, own_set] at Ad
    have hc := own_chset hc pi (v := 63) (by decide)
    have hl := (List.length_set (as := cs) (i := pi) (a := (63 : Int32))).trans hl
    generalize cs.set pi (63 : Int32) = cs at hc hl Ad
    refine o_iload 139 W at_137 rfl ?_
    refine o_bipush 141 W (6) at_139 (by first | rfl | decide) ?_
    refine o_icge 151 144 W at_141 (fun c141 => ?_) (fun c141 => ?_)
    · have hdlt := Ad.lt
      refine o_new 154 W (tw hw 3) (tw hw 4) (tw hw 5) at_151 (fun T h o W Eo Ao Do go zo => ?_)
      have Po := Do (Or.inr (tw hw 31)) (ty := .array .byte) (by decide)
      have Co := Do (Or.inr (tw hw 29)) (ty := .byte) (by decide)
      have Ad := Ad.ext Eo
      refine o_dup 155 W at_154 rfl ?_
      refine o_aload 157 W at_155 rfl rfl ?_
      refine o_special 160 [(.ref d)] W (tw hw 6) (tw hw 7) (tw hw 5) (tw hw 8) (con_sin l Z b0 hw o d kd 6 cs (by rw [hl]; rfl) (by omega) hc _ W.old Ad Ao Po Co zo cz hcz SC (by intro e; rw [e] at hl; cases hl)) pd18 at_157 rfl (by simp) (fun T h v W qq gg => ?_)
      obtain ⟨rfl, Ko, Xo⟩ := qq
      show Go p e below _ _ (mkF m 160 #[.val (.long x0), .second, .val (.int x1), .val (.int x2), .val (.ref d), .val (.int pe), .val (.int qe), .val (.int (1 : Int32)), .unset, .unset, .unset, .unset, .unset] [(.ref o)])
      have Ad := Ad.keep Ko (ninS (by have := Ao.lt; intro e; subst e; exact absurd go (Nat.not_le.mpr hdlt)) nin0)
      refine o_astore 162 W #[.val (.long x0), .second, .val (.int x1), .val (.int x2), .val (.ref d), .val (.int pe), .val (.int qe), .val (.int (1 : Int32)), .val (.ref o), .unset, .unset, .unset, .unset] at_160 rfl rfl ?_
      refine o_new 165 W (tw hw 32) (tw hw 33) (tw hw 34) at_162 (fun T h u W Eu Au Du gu zu => ?_)
      refine o_dup 166 W at_165 rfl ?_
      refine o_aload 168 W at_166 rfl rfl ?_
      refine o_iconst 169 W (-1) at_168 (by first | rfl | decide) ?_
      refine o_iconst 170 W (-1) at_169 (by first | rfl | decide) ?_
      refine o_iconst 171 W (-1) at_170 (by first | rfl | decide) ?_
      refine o_null 172 W at_171 ?_
      refine o_iconst 173 W (0) at_172 (by first | rfl | decide) ?_
      refine o_iload 175 W at_173 rfl ?_
      refine o_iload 177 W at_175 rfl ?_
      refine o_special 180 [(.ref o), (.int (-1 : Int32)), (.int (-1 : Int32)), (.int (-1 : Int32)), (.null), (.int (0 : Int32)), (.int pe), (.int qe)] W (tw hw 35) (tw hw 36) (tw hw 34) (tw hw 37) (con_uin l Z b0 hw u o (-1) (-1) (-1) 0 pe qe _ W.old Au (Du (Or.inr (tw hw 40)) (ty := (.object "java/lang/String")) (by decide)) (Du (Or.inr (tw hw 42)) (ty := .int) (by decide)) (Du (Or.inr (tw hw 44)) (ty := .int) (by decide)) (Du (Or.inr (tw hw 46)) (ty := .int) (by decide)) (Du (Or.inr (tw hw 48)) (ty := (.object "com/example/strict_uri/stricturi/HostKind")) (by decide)) (Du (Or.inr (tw hw 50)) (ty := .int) (by decide)) (Du (Or.inr (tw hw 52)) (ty := .int) (by decide)) (Du (Or.inr (tw hw 54)) (ty := .int) (by decide)) zu) pd19 at_177 rfl all0 (fun T h v W qq gg => ?_)
      obtain ⟨rfl, Ku, Au, Ft, Fe, Ff⟩ := qq
      show Go p e below _ _ (mkF m 180 #[.val (.long x0), .second, .val (.int x1), .val (.int x2), .val (.ref d), .val (.int pe), .val (.int qe), .val (.int (1 : Int32)), .val (.ref o), .unset, .unset, .unset, .unset] [(.ref u)])
      have Eu := own_ext_keep Eu Ku gu
      have Ad := Ad.ext Eu
      have Xo := Xo.ext Eu
      refine o_astore 182 W #[.val (.long x0), .second, .val (.int x1), .val (.int x2), .val (.ref d), .val (.int pe), .val (.int qe), .val (.int (1 : Int32)), .val (.ref o), .val (.ref u), .unset, .unset, .unset] at_180 rfl rfl ?_
      refine o_aload 184 W at_182 rfl rfl ?_
      refine o_virtual 187 [] W (tw hw 55) (tw hw 56) (tw hw 58) (tw hw 57) (tw hw 34) (tw hw 59) (Au) (con_qry l Z b0 hw u o pe qe _ W.old Ft Fe Ff hqe cs pi qi (by omega) hp hq hpq (by omega) Xo cz hcz SC vf rf SF) pd20 at_184 rfl all0 (fun T h v W qq gg => ?_)
      obtain ⟨_, rfl, r, rfl, Xr, Er⟩ := qq
      show Go p e below _ _ (mkF m 187 #[.val (.long x0), .second, .val (.int x1), .val (.int x2), .val (.ref d), .val (.int pe), .val (.int qe), .val (.int (1 : Int32)), .val (.ref o), .val (.ref u), .unset, .unset, .unset] [(.ref r)])
      have Ad := Ad.ext Er
      refine o_astore 189 W #[.val (.long x0), .second, .val (.int x1), .val (.int x2), .val (.ref d), .val (.int pe), .val (.int qe), .val (.int (1 : Int32)), .val (.ref o), .val (.ref u), .val (.ref r), .unset, .unset] at_187 rfl rfl ?_
      refine o_iload 191 W at_189 rfl ?_
      refine o_ifY 205 W at_191 (by decide) ?_
      refine o_aload 207 W at_205 rfl rfl ?_
      refine o_nnY 212 W at_207 ?_
      refine o_iload 214 W at_212 rfl ?_
      refine o_iload 216 W at_214 rfl ?_
      refine o_isub 217 W at_216 ?_
      refine o_iconst 218 W (1) at_217 (by first | rfl | decide) ?_
      refine o_isub 219 W at_218 ?_
      refine o_istore 221 W #[.val (.long x0), .second, .val (.int x1), .val (.int x2), .val (.ref d), .val (.int pe), .val (.int qe), .val (.int (1 : Int32)), .val (.ref o), .val (.ref u), .val (.ref r), .val (.int ((qe - pe) - (1 : Int32))), .unset] at_219 rfl ?_
      have hsl := own_sub_len cs (pi + 1) (qi - (pi + 1)) (by omega)
      have hlen : (qe - pe - 1).toInt = ((qi - (pi + 1) : Nat) : Int) := by have q1 := own_subI hq hp (by omega) (by omega); have q2 := own_subI (z := 1) (k := 1) q1 rfl (by omega) (by omega); rw [q2]; omega
      generalize ((qe - pe) - 1) = ln at hlen ⊢
      show Go p e below _ _ (mkF m 221 #[.val (.long x0), .second, .val (.int x1), .val (.int x2), .val (.ref d), .val (.int pe), .val (.int qe), .val (.int (1 : Int32)), .val (.ref o), .val (.ref u), .val (.ref r), .val (.int ln), .unset] [])
      refine o_aload 223 W at_221 rfl rfl ?_
      refine o_virtual 226 [] W (tw hw 95) (tw hw 66) (tw hw 68) (tw hw 67) (tw hw 5) (tw hw 69) (Xr.1) (con_len l Z b0 hw r _ _ W.old Xr cz hcz SC) pd13 at_223 rfl all0 (fun T h v W qq gg => ?_)
      obtain ⟨_, rfl, nn, rfl, hnn, rfl⟩ := qq
      show Go p e below _ _ (mkF m 226 #[.val (.long x0), .second, .val (.int x1), .val (.int x2), .val (.ref d), .val (.int pe), .val (.int qe), .val (.int (1 : Int32)), .val (.ref o), .val (.ref u), .val (.ref r), .val (.int ln), .unset] [(.int nn)])
      refine o_iload 228 W at_226 rfl ?_
      refine o_icY 233 W at_228 (XT.ii_eq_t (Int32.toInt_inj.mp (by rw [hnn, hlen, hsl]))) ?_
      refine o_iload 235 W at_233 rfl ?_
      refine o_iconst 236 W (1) at_235 (by first | rfl | decide) ?_
      refine o_iadd 237 W at_236 ?_
      refine o_istore 239 W #[.val (.long x0), .second, .val (.int x1), .val (.int x2), .val (.ref d), .val (.int pe), .val (.int qe), .val (.int (1 : Int32)), .val (.ref o), .val (.ref u), .val (.ref r), .val (.int ln), .val (.int (pe + (1 : Int32)))] at_237 rfl ?_
      have hfr := own_inc1 hp (by omega)
      generalize (pe + 1) = fr at hfr ⊢
      show Go p e below _ _ (mkF m 239 #[.val (.long x0), .second, .val (.int x1), .val (.int x2), .val (.ref d), .val (.int pe), .val (.int qe), .val (.int (1 : Int32)), .val (.ref o), .val (.ref u), .val (.ref r), .val (.int ln), .val (.int fr)] [])
      refine o_aload 241 W at_239 rfl rfl ?_
      refine o_aload 243 W at_241 rfl rfl ?_
      refine o_iload 245 W at_243 rfl ?_
      refine o_iload 247 W at_245 rfl ?_
      refine o_iconst 248 W (0) at_247 (by first | rfl | decide) ?_
      refine o_static 251 [(.ref r), (.ref d), (.int fr), (.int ln), (.int (0 : Int32))] W (tw hw 96) (tw hw 97) (tw hw 98) (tw hw 99) (con_sam l Z b0 hw r d kd fr ln 0 cs (pi + 1) (qi - (pi + 1)) 0 hl hc hfr hlen rfl (by omega) _ W.old Xr Ad cz hcz SC vf rf SF) pd21 at_248 rfl all0 (fun T h v W qq gg => ?_)
      obtain ⟨_, rfl, rfl, rfl⟩ := qq
      show Go p e below _ _ (mkF m 251 #[.val (.long x0), .second, .val (.int x1), .val (.int x2), .val (.ref d), .val (.int pe), .val (.int qe), .val (.int (1 : Int32)), .val (.ref o), .val (.ref u), .val (.ref r), .val (.int ln), .val (.int fr)] [(.int (1 : Int32))])
      refine o_ifN 254 W at_251 (by decide) ?_
      refine o_aload 256 W at_254 rfl rfl ?_
      refine o_aload 258 W at_256 rfl rfl ?_
      refine o_iload 260 W at_258 rfl ?_
      refine o_iload 262 W at_260 rfl ?_
      refine o_iconst 263 W (1) at_262 (by first | rfl | decide) ?_
      refine o_static 266 [(.ref r), (.ref d), (.int fr), (.int ln), (.int (1 : Int32))] W (tw hw 96) (tw hw 97) (tw hw 98) (tw hw 99) (con_sam l Z b0 hw r d kd fr ln 1 cs (pi + 1) (qi - (pi + 1)) 1 hl hc hfr hlen rfl (by omega) _ W.old Xr Ad cz hcz SC vf rf SF) pd21 at_263 rfl all0 (fun T h v W qq gg => ?_)
      obtain ⟨_, rfl, rfl, rfl⟩ := qq
      show Go p e below _ _ (mkF m 266 #[.val (.long x0), .second, .val (.int x1), .val (.int x2), .val (.ref d), .val (.int pe), .val (.int qe), .val (.int (1 : Int32)), .val (.ref o), .val (.ref u), .val (.ref r), .val (.int ln), .val (.int fr)] [(.int (1 : Int32))])
      refine o_ifN 269 W at_266 (by decide) ?_
      refine o_aload 271 W at_269 rfl rfl ?_
      refine o_aload 273 W at_271 rfl rfl ?_
      refine o_iload 275 W at_273 rfl ?_
      refine o_iload 277 W at_275 rfl ?_
      refine o_iconst 278 W (2) at_277 (by first | rfl | decide) ?_
      refine o_static 281 [(.ref r), (.ref d), (.int fr), (.int ln), (.int (2 : Int32))] W (tw hw 96) (tw hw 97) (tw hw 98) (tw hw 99) (con_sam l Z b0 hw r d kd fr ln 2 cs (pi + 1) (qi - (pi + 1)) 2 hl hc hfr hlen rfl (by omega) _ W.old Xr Ad cz hcz SC vf rf SF) pd21 at_278 rfl all0 (fun T h v W qq gg => ?_)
      obtain ⟨_, rfl, rfl, rfl⟩ := qq
      show Go p e below _ _ (mkF m 281 #[.val (.long x0), .second, .val (.int x1), .val (.int x2), .val (.ref d), .val (.int pe), .val (.int qe), .val (.int (1 : Int32)), .val (.ref o), .val (.ref u), .val (.ref r), .val (.int ln), .val (.int fr)] [(.int (1 : Int32))])
      refine o_ifN 284 W at_281 (by decide) ?_
      refine o_aload 286 W at_284 rfl rfl ?_
      refine o_aload 288 W at_286 rfl rfl ?_
      refine o_iload 290 W at_288 rfl ?_
      refine o_iload 292 W at_290 rfl ?_
      refine o_iconst 293 W (3) at_292 (by first | rfl | decide) ?_
      refine o_static 296 [(.ref r), (.ref d), (.int fr), (.int ln), (.int (3 : Int32))] W (tw hw 96) (tw hw 97) (tw hw 98) (tw hw 99) (con_sam l Z b0 hw r d kd fr ln 3 cs (pi + 1) (qi - (pi + 1)) 3 hl hc hfr hlen rfl (by omega) _ W.old Xr Ad cz hcz SC vf rf SF) pd21 at_293 rfl all0 (fun T h v W qq gg => ?_)
      obtain ⟨_, rfl, rfl, rfl⟩ := qq
      show Go p e below _ _ (mkF m 296 #[.val (.long x0), .second, .val (.int x1), .val (.int x2), .val (.ref d), .val (.int pe), .val (.int qe), .val (.int (1 : Int32)), .val (.ref o), .val (.ref u), .val (.ref r), .val (.int ln), .val (.int fr)] [(.int (1 : Int32))])
      refine o_ifN 299 W at_296 (by decide) ?_
      refine o_aload 301 W at_299 rfl rfl ?_
      refine o_aload 303 W at_301 rfl rfl ?_
      refine o_iload 305 W at_303 rfl ?_
      refine o_iload 307 W at_305 rfl ?_
      refine o_iconst 308 W (4) at_307 (by first | rfl | decide) ?_
      refine o_static 311 [(.ref r), (.ref d), (.int fr), (.int ln), (.int (4 : Int32))] W (tw hw 96) (tw hw 97) (tw hw 98) (tw hw 99) (con_sam l Z b0 hw r d kd fr ln 4 cs (pi + 1) (qi - (pi + 1)) 4 hl hc hfr hlen rfl (by omega) _ W.old Xr Ad cz hcz SC vf rf SF) pd21 at_308 rfl all0 (fun T h v W qq gg => ?_)
      obtain ⟨_, rfl, rfl, rfl⟩ := qq
      show Go p e below _ _ (mkF m 311 #[.val (.long x0), .second, .val (.int x1), .val (.int x2), .val (.ref d), .val (.int pe), .val (.int qe), .val (.int (1 : Int32)), .val (.ref o), .val (.ref u), .val (.ref r), .val (.int ln), .val (.int fr)] [(.int (1 : Int32))])
      refine o_ifN 314 W at_311 (by decide) ?_
      refine o_iconst 315 W (1) at_314 (by first | rfl | decide) ?_
      refine o_goto 319 W at_315 ?_
      exact o_nret W (1 : Int32) (by simp) (by decide) at_319 (rfl)
    · have hq6 : qi < 6 := by have q := c141; rw [Int32.lt_iff_toInt_lt] at q; omega
      refine o_aload 146 W at_144 rfl rfl ?_
      refine o_iload 148 W at_146 rfl ?_
      refine o_bipush 150 W (35) at_148 (by first | rfl | decide) ?_
      refine o_castore 151 qi W Ad ⟨own_nn hq, own_ltI hq six hq6⟩ (own_cl hq) (by simp; omega) zd at_150 (fun T h W wh Ad => ?_)
      have Ed := own_ext_wr Ed wh gd
      rw [show nar .char (35 : Int32) = 35 by decide, own_set] at Ad
      have hc := own_chset hc qi (v := 35) (by decide)
      have hl := (List.length_set (as := cs) (i := qi) (a := (35 : Int32))).trans hl
      generalize cs.set qi (35 : Int32) = cs at hc hl Ad
      have hdlt := Ad.lt
      refine o_new 154 W (tw hw 3) (tw hw 4) (tw hw 5) at_151 (fun T h o W Eo Ao Do go zo => ?_)
      have Po := Do (Or.inr (tw hw 31)) (ty := .array .byte) (by decide)
      have Co := Do (Or.inr (tw hw 29)) (ty := .byte) (by decide)
      have Ad := Ad.ext Eo
      refine o_dup 155 W at_154 rfl ?_
      refine o_aload 157 W at_155 rfl rfl ?_
      refine o_special 160 [(.ref d)] W (tw hw 6) (tw hw 7) (tw hw 5) (tw hw 8) (con_sin l Z b0 hw o d kd 6 cs (by rw [hl]; rfl) (by omega) hc _ W.old Ad Ao Po Co zo cz hcz SC (by intro e; rw [e] at hl; cases hl)) pd18 at_157 rfl (by simp) (fun T h v W qq gg => ?_)
      obtain ⟨rfl, Ko, Xo⟩ := qq
      show Go p e below _ _ (mkF m 160 #[.val (.long x0), .second, .val (.int x1), .val (.int x2), .val (.ref d), .val (.int pe), .val (.int qe), .val (.int (1 : Int32)), .unset, .unset, .unset, .unset, .unset] [(.ref o)])
      have Ad := Ad.keep Ko (ninS (by have := Ao.lt; intro e; subst e; exact absurd go (Nat.not_le.mpr hdlt)) nin0)
      refine o_astore 162 W #[.val (.long x0), .second, .val (.int x1), .val (.int x2), .val (.ref d), .val (.int pe), .val (.int qe), .val (.int (1 : Int32)), .val (.ref o), .unset, .unset, .unset, .unset] at_160 rfl rfl ?_
      refine o_new 165 W (tw hw 32) (tw hw 33) (tw hw 34) at_162 (fun T h u W Eu Au Du gu zu => ?_)
      refine o_dup 166 W at_165 rfl ?_
      refine o_aload 168 W at_166 rfl rfl ?_
      refine o_iconst 169 W (-1) at_168 (by first | rfl | decide) ?_
      refine o_iconst 170 W (-1) at_169 (by first | rfl | decide) ?_
      refine o_iconst 171 W (-1) at_170 (by first | rfl | decide) ?_
      refine o_null 172 W at_171 ?_
      refine o_iconst 173 W (0) at_172 (by first | rfl | decide) ?_
      refine o_iload 175 W at_173 rfl ?_
      refine o_iload 177 W at_175 rfl ?_
      refine o_special 180 [(.ref o), (.int (-1 : Int32)), (.int (-1 : Int32)), (.int (-1 : Int32)), (.null), (.int (0 : Int32)), (.int pe), (.int qe)] W (tw hw 35) (tw hw 36) (tw hw 34) (tw hw 37) (con_uin l Z b0 hw u o (-1) (-1) (-1) 0 pe qe _ W.old Au (Du (Or.inr (tw hw 40)) (ty := (.object "java/lang/String")) (by decide)) (Du (Or.inr (tw hw 42)) (ty := .int) (by decide)) (Du (Or.inr (tw hw 44)) (ty := .int) (by decide)) (Du (Or.inr (tw hw 46)) (ty := .int) (by decide)) (Du (Or.inr (tw hw 48)) (ty := (.object "com/example/strict_uri/stricturi/HostKind")) (by decide)) (Du (Or.inr (tw hw 50)) (ty := .int) (by decide)) (Du (Or.inr (tw hw 52)) (ty := .int) (by decide)) (Du (Or.inr (tw hw 54)) (ty := .int) (by decide)) zu) pd19 at_177 rfl all0 (fun T h v W qq gg => ?_)
      obtain ⟨rfl, Ku, Au, Ft, Fe, Ff⟩ := qq
      show Go p e below _ _ (mkF m 180 #[.val (.long x0), .second, .val (.int x1), .val (.int x2), .val (.ref d), .val (.int pe), .val (.int qe), .val (.int (1 : Int32)), .val (.ref o), .unset, .unset, .unset, .unset] [(.ref u)])
      have Eu := own_ext_keep Eu Ku gu
      have Ad := Ad.ext Eu
      have Xo := Xo.ext Eu
      refine o_astore 182 W #[.val (.long x0), .second, .val (.int x1), .val (.int x2), .val (.ref d), .val (.int pe), .val (.int qe), .val (.int (1 : Int32)), .val (.ref o), .val (.ref u), .unset, .unset, .unset] at_180 rfl rfl ?_
      refine o_aload 184 W at_182 rfl rfl ?_
      refine o_virtual 187 [] W (tw hw 55) (tw hw 56) (tw hw 58) (tw hw 57) (tw hw 34) (tw hw 59) (Au) (con_qry l Z b0 hw u o pe qe _ W.old Ft Fe Ff hqe cs pi qi (by omega) hp hq hpq (by omega) Xo cz hcz SC vf rf SF) pd20 at_184 rfl all0 (fun T h v W qq gg => ?_)
      obtain ⟨_, rfl, r, rfl, Xr, Er⟩ := qq
      show Go p e below _ _ (mkF m 187 #[.val (.long x0), .second, .val (.int x1), .val (.int x2), .val (.ref d), .val (.int pe), .val (.int qe), .val (.int (1 : Int32)), .val (.ref o), .val (.ref u), .unset, .unset, .unset] [(.ref r)])
      have Ad := Ad.ext Er
      refine o_astore 189 W #[.val (.long x0), .second, .val (.int x1), .val (.int x2), .val (.ref d), .val (.int pe), .val (.int qe), .val (.int (1 : Int32)), .val (.ref o), .val (.ref u), .val (.ref r), .unset, .unset] at_187 rfl rfl ?_
      refine o_iload 191 W at_189 rfl ?_
      refine o_ifY 205 W at_191 (by decide) ?_
      refine o_aload 207 W at_205 rfl rfl ?_
      refine o_nnY 212 W at_207 ?_
      refine o_iload 214 W at_212 rfl ?_
      refine o_iload 216 W at_214 rfl ?_
      refine o_isub 217 W at_216 ?_
      refine o_iconst 218 W (1) at_217 (by first | rfl | decide) ?_
      refine o_isub 219 W at_218 ?_
      refine o_istore 221 W #[.val (.long x0), .second, .val (.int x1), .val (.int x2), .val (.ref d), .val (.int pe), .val (.int qe), .val (.int (1 : Int32)), .val (.ref o), .val (.ref u), .val (.ref r), .val (.int ((qe - pe) - (1 : Int32))), .unset] at_219 rfl ?_
      have hsl := own_sub_len cs (pi + 1) (qi - (pi + 1)) (by omega)
      have hlen : (qe - pe - 1).toInt = ((qi - (pi + 1) : Nat) : Int) := by have q1 := own_subI hq hp (by omega) (by omega); have q2 := own_subI (z := 1) (k := 1) q1 rfl (by omega) (by omega); rw [q2]; omega
      generalize ((qe - pe) - 1) = ln at hlen ⊢
      show Go p e below _ _ (mkF m 221 #[.val (.long x0), .second, .val (.int x1), .val (.int x2), .val (.ref d), .val (.int pe), .val (.int qe), .val (.int (1 : Int32)), .val (.ref o), .val (.ref u), .val (.ref r), .val (.int ln), .unset] [])
      refine o_aload 223 W at_221 rfl rfl ?_
      refine o_virtual 226 [] W (tw hw 95) (tw hw 66) (tw hw 68) (tw hw 67) (tw hw 5) (tw hw 69) (Xr.1) (con_len l Z b0 hw r _ _ W.old Xr cz hcz SC) pd13 at_223 rfl all0 (fun T h v W qq gg => ?_)
      obtain ⟨_, rfl, nn, rfl, hnn, rfl⟩ := qq
      show Go p e below _ _ (mkF m 226 #[.val (.long x0), .second, .val (.int x1), .val (.int x2), .val (.ref d), .val (.int pe), .val (.int qe), .val (.int (1 : Int32)), .val (.ref o), .val (.ref u), .val (.ref r), .val (.int ln), .unset] [(.int nn)])
      refine o_iload 228 W at_226 rfl ?_
      refine o_icY 233 W at_228 (XT.ii_eq_t (Int32.toInt_inj.mp (by rw [hnn, hlen, hsl]))) ?_
      refine o_iload 235 W at_233 rfl ?_
      refine o_iconst 236 W (1) at_235 (by first | rfl | decide) ?_
      refine o_iadd 237 W at_236 ?_
      refine o_istore 239 W #[.val (.long x0), .second, .val (.int x1), .val (.int x2), .val (.ref d), .val (.int pe), .val (.int qe), .val (.int (1 : Int32)), .val (.ref o), .val (.ref u), .val (.ref r), .val (.int ln), .val (.int (pe + (1 : Int32)))] at_237 rfl ?_
      have hfr := own_inc1 hp (by omega)
      generalize (pe + 1) = fr at hfr ⊢
      show Go p e below _ _ (mkF m 239 #[.val (.long x0), .second, .val (.int x1), .val (.int x2), .val (.ref d), .val (.int pe), .val (.int qe), .val (.int (1 : Int32)), .val (.ref o), .val (.ref u), .val (.ref r), .val (.int ln), .val (.int fr)] [])
      refine o_aload 241 W at_239 rfl rfl ?_
      refine o_aload 243 W at_241 rfl rfl ?_
      refine o_iload 245 W at_243 rfl ?_
      refine o_iload 247 W at_245 rfl ?_
      refine o_iconst 248 W (0) at_247 (by first | rfl | decide) ?_
      refine o_static 251 [(.ref r), (.ref d), (.int fr), (.int ln), (.int (0 : Int32))] W (tw hw 96) (tw hw 97) (tw hw 98) (tw hw 99) (con_sam l Z b0 hw r d kd fr ln 0 cs (pi + 1) (qi - (pi + 1)) 0 hl hc hfr hlen rfl (by omega) _ W.old Xr Ad cz hcz SC vf rf SF) pd21 at_248 rfl all0 (fun T h v W qq gg => ?_)
      obtain ⟨_, rfl, rfl, rfl⟩ := qq
      show Go p e below _ _ (mkF m 251 #[.val (.long x0), .second, .val (.int x1), .val (.int x2), .val (.ref d), .val (.int pe), .val (.int qe), .val (.int (1 : Int32)), .val (.ref o), .val (.ref u), .val (.ref r), .val (.int ln), .val (.int fr)] [(.int (1 : Int32))])
      refine o_ifN 254 W at_251 (by decide) ?_
      refine o_aload 256 W at_254 rfl rfl ?_
      refine o_aload 258 W at_256 rfl rfl ?_
      refine o_iload 260 W at_258 rfl ?_
      refine o_iload 262 W at_260 rfl ?_
      refine o_iconst 263 W (1) at_262 (by first | rfl | decide) ?_
      refine o_static 266 [(.ref r), (.ref d), (.int fr), (.int ln), (.int (1 : Int32))] W (tw hw 96) (tw hw 97) (tw hw 98) (tw hw 99) (con_sam l Z b0 hw r d kd fr ln 1 cs (pi + 1) (qi - (pi + 1)) 1 hl hc hfr hlen rfl (by omega) _ W.old Xr Ad cz hcz SC vf rf SF) pd21 at_263 rfl all0 (fun T h v W qq gg => ?_)
      obtain ⟨_, rfl, rfl, rfl⟩ := qq
      show Go p e below _ _ (mkF m 266 #[.val (.long x0), .second, .val (.int x1), .val (.int x2), .val (.ref d), .val (.int pe), .val (.int qe), .val (.int (1 : Int32)), .val (.ref o), .val (.ref u), .val (.ref r), .val (.int ln), .val (.int fr)] [(.int (1 : Int32))])
      refine o_ifN 269 W at_266 (by decide) ?_
      refine o_aload 271 W at_269 rfl rfl ?_
      refine o_aload 273 W at_271 rfl rfl ?_
      refine o_iload 275 W at_273 rfl ?_
      refine o_iload 277 W at_275 rfl ?_
      refine o_iconst 278 W (2) at_277 (by first | rfl | decide) ?_
      refine o_static 281 [(.ref r), (.ref d), (.int fr), (.int ln), (.int (2 : Int32))] W (tw hw 96) (tw hw 97) (tw hw 98) (tw hw 99) (con_sam l Z b0 hw r d kd fr ln 2 cs (pi + 1) (qi - (pi + 1)) 2 hl hc hfr hlen rfl (by omega) _ W.old Xr Ad cz hcz SC vf rf SF) pd21 at_278 rfl all0 (fun T h v W qq gg => ?_)
      obtain ⟨_, rfl, rfl, rfl⟩ := qq
      show Go p e below _ _ (mkF m 281 #[.val (.long x0), .second, .val (.int x1), .val (.int x2), .val (.ref d), .val (.int pe), .val (.int qe), .val (.int (1 : Int32)), .val (.ref o), .val (.ref u), .val (.ref r), .val (.int ln), .val (.int fr)] [(.int (1 : Int32))])
      refine o_ifN 284 W at_281 (by decide) ?_
      refine o_aload 286 W at_284 rfl rfl ?_
      refine o_aload 288 W at_286 rfl rfl ?_
      refine o_iload 290 W at_288 rfl ?_
      refine o_iload 292 W at_290 rfl ?_
      refine o_iconst 293 W (3) at_292 (by first | rfl | decide) ?_
      refine o_static 296 [(.ref r), (.ref d), (.int fr), (.int ln), (.int (3 : Int32))] W (tw hw 96) (tw hw 97) (tw hw 98) (tw hw 99) (con_sam l Z b0 hw r d kd fr ln 3 cs (pi + 1) (qi - (pi + 1)) 3 hl hc hfr hlen rfl (by omega) _ W.old Xr Ad cz hcz SC vf rf SF) pd21 at_293 rfl all0 (fun T h v W qq gg => ?_)
      obtain ⟨_, rfl, rfl, rfl⟩ := qq
      show Go p e below _ _ (mkF m 296 #[.val (.long x0), .second, .val (.int x1), .val (.int x2), .val (.ref d), .val (.int pe), .val (.int qe), .val (.int (1 : Int32)), .val (.ref o), .val (.ref u), .val (.ref r), .val (.int ln), .val (.int fr)] [(.int (1 : Int32))])
      refine o_ifN 299 W at_296 (by decide) ?_
      refine o_aload 301 W at_299 rfl rfl ?_
      refine o_aload 303 W at_301 rfl rfl ?_
      refine o_iload 305 W at_303 rfl ?_
      refine o_iload 307 W at_305 rfl ?_
      refine o_iconst 308 W (4) at_307 (by first | rfl | decide) ?_
      refine o_static 311 [(.ref r), (.ref d), (.int fr), (.int ln), (.int (4 : Int32))] W (tw hw 96) (tw hw 97) (tw hw 98) (tw hw 99) (con_sam l Z b0 hw r d kd fr ln 4 cs (pi + 1) (qi - (pi + 1)) 4 hl hc hfr hlen rfl (by omega) _ W.old Xr Ad cz hcz SC vf rf SF) pd21 at_308 rfl all0 (fun T h v W qq gg => ?_)
      obtain ⟨_, rfl, rfl, rfl⟩ := qq
      show Go p e below _ _ (mkF m 311 #[.val (.long x0), .second, .val (.int x1), .val (.int x2), .val (.ref d), .val (.int pe), .val (.int qe), .val (.int (1 : Int32)), .val (.ref o), .val (.ref u), .val (.ref r), .val (.int ln), .val (.int fr)] [(.int (1 : Int32))])
      refine o_ifN 314 W at_311 (by decide) ?_
      refine o_iconst 315 W (1) at_314 (by first | rfl | decide) ?_
      refine o_goto 319 W at_315 ?_
      exact o_nret W (1 : Int32) (by simp) (by decide) at_319 (rfl)
theorem own_sio {s : State} {args : Array Value} {C n d : String} (h1 : (Jvm.Cond.initializedFor C n d).before args s = true) (h2 : (Jvm.Cond.isRef (Jvm.Term.static C n d)).before args s = true) : ∃ v, v.isRef = true ∧ Sta s s.heap C n d v := by
  have q := Cond.before_iff.mp h2
  simp only [Jvm.Cond.value] at q
  cases ev : (Jvm.Term.static C n d).eval args s none [] s with
  | none => rw [ev] at q; simp at q
  | some v =>
    rw [ev] at q
    refine ⟨v, ?_, Sta.start ev (Or.inl h1)⟩
    cases v <;> simp_all [Value.isRef]
set_option maxRecDepth 65536 in
set_option maxHeartbeats 40000000 in
theorem comes_1 {Post : Tables → Env → Array Value → State → Outcome → State → Prop} (hpost : ∀ tb e args s v u, (limb_1_1.after args s (.returned v) u = true ∧ limb_1_2.after args s (.returned v) u = true ∧ True) → ReturnedEndW s (.returned v) u (Jvm.fieldLocs frame_1_writes args s ++ Jvm.arrayLocs frame_1_arrays args s ++ Jvm.staticLocs frame_1_statics s) 24 1216 → Post tb e args s (.returned v) u) :
    ArmFor flags0 classFile x code maxLocals ret World_1 tables_1 room_1 Calls_1 rest_1 Pre_1 Post := by
  intro l hfl _ _ p e ha hc hk s m args below hf hA hF happ hP
  obtain ⟨hcalls, hrest, hpre⟩ := hP
  obtain ⟨-, -, -, hnamed, -, -, -, hat⟩ := (Spec.applies_iff hf).mp happ
  obtain ⟨hg, hn⟩ := and_e (Cond.before_iff.mp (show (Jvm.Cond.and given_1 narrow_1).before args s = true from hpre))
  obtain ⟨hg0, hg⟩ := and_e hg
  obtain ⟨w0, w1, w2, rfl⟩ : ∃ w0 w1 w2 : Value, args = #[w0, w1, w2] := by
    have hs : args.size = 3 := by simpa [Cond.value, given_1] using hg0
    obtain ⟨L⟩ := args
    match L, hs with
    | [w0, w1, w2], _ => exact ⟨w0, w1, w2, rfl⟩
  have hw := fun d (hd : d ∈ tables_1) => atoms_spec (ws := Jvm.Cond.code x code maxLocals ret :: tables_1) hat d (List.mem_cons_of_mem _ hd)
  have hfit : Fit s := fun {y c} hc i hi => by
    obtain ⟨ha, rfl⟩ := Array.getElem?_eq_some_iff.mp hc
    have q := List.all_eq_true.mp ((Array.all_eq_true_iff_forall_mem.mp hF) _ (Array.getElem_mem ha)) i (List.mem_range.mpr hi)
    simpa [Array.getElem?_eq_getElem hi] using q
  obtain ⟨hg1, hg⟩ := and_e hg
  obtain ⟨p0, e0⟩ := isL_v hg1
  obtain rfl : w0 = (.long p0) := Option.some.inj e0
  obtain ⟨hg2, hg⟩ := and_e hg
  obtain ⟨p1, e1⟩ := is_v hg2
  obtain rfl : w1 = (.int p1) := Option.some.inj e1
  have hg3 := hg
  obtain ⟨p2, e2⟩ := is_v hg3
  obtain rfl : w2 = (.int p2) := Option.some.inj e2
  obtain ⟨hjs, -⟩ := atoms_of jdkStatics_1 (own := restOwn_1) (show (jdkStatics_1.foldr Jvm.Cond.and restOwn_1).before _ s = true from hrest)
  obtain ⟨cz, hcz, SC⟩ := own_comp (a0 := #[]) (hjs _ (List.mem_of_getElem? (i := 0) rfl)) (hjs _ (List.mem_of_getElem? (i := 1) rfl)) (hjs _ (List.mem_of_getElem? (i := 2) rfl))
  obtain ⟨vf, rf, SF⟩ := own_sio (hjs _ (List.mem_of_getElem? (i := 7) rfl)) (hjs _ (List.mem_of_getElem? (i := 8) rfl))
  have R := con_law l s _ hw p0 p1 p2 cz hcz SC vf rf SF
  have HCH : CHv s own_EL s.vm s.heap := CHv.start (own_ew0 hw) (fun p hp => hcalls.1 p (by revert hp; simp [own_EL, consts_1])) (show Jvm.Lit.compactW.before _ s = true from (hjs _ (List.mem_of_getElem? (i := 2) rfl))) (tw hw 21) (tw hw 4)
  obtain ⟨n, o, h1, h2, h3, _, Lc, rfl, ⟨_, rfl, rfl⟩, N, hCH, hEx, hNr, hq⟩ := R tables_1 p e ha hc hk s m _ below hf ((Spec.applies_iff_loose hf).mp happ).1 ⟨rfl, State.Warmed39.refl s, rfl, HCH, all0⟩ trivial
  refine ⟨n, _, h1, h2, h3, hpost _ _ _ _ _ _ ⟨Cond.after_iff.mpr rfl, Cond.after_iff.mpr (eq_i res_at (Term.int_eval (1)) rfl), trivial⟩ ⟨hq.1, hq.2.1, hq.2.2.1, (hq.2.2.2.sift fun y hy => Or.inr (N y hy)).mono (by decide) (by decide)⟩⟩
theorem main_1_1 : Claimed_1_1 := comes_1 fun _ _ _ _ _ _ h hF => ⟨h.1, hF⟩
theorem main_1_2 : Claimed_1_2 := comes_1 fun _ _ _ _ _ _ h hF => ⟨h.2.1, hF⟩
end Jvm.Pilot.@@N@@
namespace Jvm.Pilot.@@N@@
open Jvm Jvm.ClassFile Sem Op Lib Jvm.Free Jvm.Stand Jvm.Pilot.@@N@@.Jvm.D
/-! MADE BY PROGRAM (witnessworld.py) out of the Statement's table words and the real class files: 23 classes; the members and pool entries that the words name. The judged class is class 1, her method 1. -/
namespace start1
open Jvm.ClassFile
def u (s : String) : CpInfo := .utf8 (stringToUtf16 s)
/-- a pool by its gaps: so many unusable entries, then the entry; so many at the end -/
def gap : Nat → List CpInfo → List CpInfo
  | 0, r => r
  | n + 1, r => .unusable :: gap n r
def poolList (es : List (Nat × CpInfo)) (last : Nat) : List CpInfo := es.foldr (fun e r => gap e.1 (e.2 :: r)) (gap last [])
def pool (es : List (Nat × CpInfo)) (last : Nat) : Array CpInfo := ⟨poolList es last⟩
def fileOf (pool : Array CpInfo) (this : Nat) (attrs : Array Attribute := #[]) (ms : Array MethodInfo := #[]) (fl : Nat := 33) (sup : Nat := 0) (ifs : Array Nat := #[]) (fds : Array FieldInfo := #[]) : ClassFile where
  minorVersion := 0
  majorVersion := 65
  constantPool := pool
  accessFlags := fl
  thisClass := this
  superClass := sup
  interfaces := ifs
  fields := fds
  methods := ms
  attributes := attrs
def plain (name : String) (sup : Option ClassId) : Class where
  name := name
  kind := .ordinary
  loader := none
  accessFlags := 33
  super := sup
  interfaces := #[]
  cf := none
  fields := #[]
  methods := #[]
  instanceTypes := #[]
  staticTypes := #[]
  resolved := #[]
  callSites := []
  init := .initialized
  statics := none
  mirror := none

def pool0 : Array CpInfo := pool [(5, u "<init>"), (0, u "()V"), (1, .class_ 10), (1, u "java/lang/Object")] 113

def k0c0 : Code := { maxStack := 0, maxLocals := 1, code := object_method_1_code, exceptionTable := #[], attributes := #[] }
def k0m0 : Method := { name := "<init>", desc := "()V", sig := { parameters := [], returnType := none }, accessFlags := 1, code := some k0c0 }
/-- java/lang/Object -/
def k0 : Class := { plain "java/lang/Object" none with
  accessFlags := 33
  interfaces := #[]
  cf := some (fileOf pool0 8 #[] #[{ accessFlags := 1, nameIndex := 5, descriptorIndex := 6, attributes := #[] }] 33 0 #[] #[])
  fields := #[]
  methods := #[k0m0]
  instanceTypes := #[]
  staticTypes := #[]
  resolved := Array.replicate 124 none
  statics := none }

def pool1 : Array CpInfo := pool [(2, .class_ 4), (1, u "java/lang/Object"), (0, u "<init>"), (0, u "()V"), (0, .long 255), (1, .integer 2147483647), (0, .class_ 11), (0, u "java/lang/String"), (0, .methodref 10 13), (0, .nameAndType 5 14), (0, u "([C)V"), (0, .class_ 16), (0, u "com/example/strict_uri/stricturi/UriReference"), (0, .methodref 15 18), (0, .nameAndType 5 19), (0, u "(Ljava/lang/String;IIILcom/example/strict_uri/stricturi/HostKind;III)V"), (0, .methodref 15 21), (0, .nameAndType 22 23), (0, u "query"), (0, u "()Ljava/lang/String;"), (0, .methodref 10 25), (0, .nameAndType 26 27), (0, u "length"), (0, u "()I"), (0, .methodref 29 30), (0, .class_ 31), (0, .nameAndType 32 33), (0, u "com/example/strict_uri/stricturi/UriReferenceQueryPinLaw"), (0, u "same"), (0, u "(Ljava/lang/String;[CIII)Z"), (0, .methodref 10 35), (0, .nameAndType 36 37), (0, u "charAt"), (0, u "(I)C"), (2, u "law"), (0, u "(JII)Z")] 5

def k1m0 : Method := { name := "<init>", desc := "()V", sig := { parameters := [], returnType := none }, accessFlags := 1, code := none }
def k1c1 : Code := { maxStack := 10, maxLocals := 13, code := code, exceptionTable := #[], attributes := #[] }
def k1m1 : Method := { name := "law", desc := "(JII)Z", sig := { parameters := [.long, .int, .int], returnType := some .boolean }, accessFlags := 9, code := some k1c1 }
def k1c2 : Code := { maxStack := 4, maxLocals := 5, code := method_3_code, exceptionTable := #[], attributes := #[] }
def k1m2 : Method := { name := "same", desc := "(Ljava/lang/String;[CIII)Z", sig := { parameters := [(.object "java/lang/String"), (.array .char), .int, .int, .int], returnType := some .boolean }, accessFlags := 10, code := some k1c2 }
/-- com/example/strict_uri/stricturi/UriReferenceQueryPinLaw -/
def k1 : Class := { plain "com/example/strict_uri/stricturi/UriReferenceQueryPinLaw" (some 0) with
  accessFlags := 49
  interfaces := #[]
  cf := some (fileOf pool1 29 #[] #[{ accessFlags := 1, nameIndex := 5, descriptorIndex := 6, attributes := #[] }, { accessFlags := 9, nameIndex := 40, descriptorIndex := 41, attributes := #[] }, { accessFlags := 10, nameIndex := 32, descriptorIndex := 33, attributes := #[] }] 49 2 #[] #[])
  fields := #[]
  methods := #[k1m0, k1m1, k1m2]
  instanceTypes := #[]
  staticTypes := #[]
  resolved := Array.replicate 47 none
  statics := none }

def pool2 : Array CpInfo := pool [(1, .class_ 2), (0, u "java/io/Serializable"), (0, .class_ 4), (0, u "java/lang/Object")] 2

/-- java/io/Serializable -/
def k2 : Class := { plain "java/io/Serializable" (some 0) with
  accessFlags := 1537
  interfaces := #[]
  cf := some (fileOf pool2 1 #[] #[] 1537 3 #[] #[])
  fields := #[]
  methods := #[]
  instanceTypes := #[]
  staticTypes := #[]
  resolved := Array.replicate 7 none
  statics := none }

def pool3 : Array CpInfo := pool [(1, .class_ 2), (0, u "java/lang/Comparable"), (0, .class_ 4), (0, u "java/lang/Object")] 7

/-- java/lang/Comparable -/
def k3 : Class := { plain "java/lang/Comparable" (some 0) with
  accessFlags := 1537
  interfaces := #[]
  cf := some (fileOf pool3 1 #[] #[] 1537 3 #[] #[])
  fields := #[]
  methods := #[]
  instanceTypes := #[]
  staticTypes := #[]
  resolved := Array.replicate 12 none
  statics := none }

def pool4 : Array CpInfo := pool [(2, .class_ 4), (1, u "java/lang/CharSequence"), (42, .class_ 48), (0, u "java/lang/CharSequence$1CodePointIterator"), (10, .class_ 60), (0, u "java/lang/CharSequence$1CharIterator"), (5, .class_ 67), (0, u "java/lang/Object")] 63

/-- java/lang/CharSequence -/
def k4 : Class := { plain "java/lang/CharSequence" (some 0) with
  accessFlags := 1537
  interfaces := #[]
  cf := some (fileOf pool4 2 #[.nestMembers #[47, 59]] #[] 1537 66 #[] #[])
  fields := #[]
  methods := #[]
  instanceTypes := #[]
  staticTypes := #[]
  resolved := Array.replicate 131 none
  statics := none }

def pool5 : Array CpInfo := pool [(1, .class_ 2), (0, u "java/lang/constant/Constable"), (0, .class_ 4), (0, u "java/lang/Object")] 6

/-- java/lang/constant/Constable -/
def k5 : Class := { plain "java/lang/constant/Constable" (some 0) with
  accessFlags := 1537
  interfaces := #[]
  cf := some (fileOf pool5 1 #[] #[] 1537 3 #[] #[])
  fields := #[]
  methods := #[]
  instanceTypes := #[]
  staticTypes := #[]
  resolved := Array.replicate 11 none
  statics := none }

def pool6 : Array CpInfo := pool [(1, .class_ 2), (0, u "java/lang/constant/ConstantDesc"), (0, .class_ 4), (0, u "java/lang/Object")] 32

/-- java/lang/constant/ConstantDesc -/
def k6 : Class := { plain "java/lang/constant/ConstantDesc" (some 0) with
  accessFlags := 1537
  interfaces := #[]
  cf := some (fileOf pool6 1 #[] #[] 1537 3 #[] #[])
  fields := #[]
  methods := #[]
  instanceTypes := #[]
  staticTypes := #[]
  resolved := Array.replicate 37 none
  statics := none }

def pool7 : Array CpInfo := pool [(1, .methodref 2 3), (0, .class_ 4), (0, .nameAndType 5 6), (0, u "java/lang/Object"), (0, u "<init>"), (0, u "()V"), (2, .fieldref 10 11), (0, .class_ 12), (0, .nameAndType 13 14), (0, u "java/lang/String"), (0, u "value"), (0, u "[B"), (0, .fieldref 10 16), (0, .nameAndType 17 18), (0, u "coder"), (0, u "B"), (2, u "hash"), (0, u "I"), (2, u "hashIsZero"), (0, u "Z"), (0, .methodref 10 28), (0, .nameAndType 5 29), (0, u "([CIILjava/lang/Void;)V"), (8, .fieldref 10 39), (0, .nameAndType 40 26), (0, u "COMPACT_STRINGS"), (1, .class_ 44), (1, u "java/lang/StringUTF16"), (0, u "compress"), (1, .methodref 42 48), (0, .nameAndType 49 50), (0, u "coderFromArrayLen"), (0, u "([BI)B"), (56, .class_ 109), (1, u "java/lang/StringLatin1"), (32, u "()Z"), (34, .methodref 42 178), (0, .nameAndType 45 179), (0, u "([CII)[B"), (31, u "([BB)V"), (122, u "()I"), (0, .methodref 10 336), (0, .nameAndType 17 337), (0, u "()B"), (25, u "([BI)C"), (27, u "(II)V"), (35, u "(I)C"), (64, .methodref 10 493), (0, .nameAndType 494 142), (0, u "isLatin1"), (0, .methodref 107 496), (0, .nameAndType 497 363), (0, u "charAt"), (3, u "checkIndex"), (3, .methodref 10 506), (0, .nameAndType 507 334), (0, u "length"), (5, u "checkFromToIndex"), (7, .methodref 10 522), (0, .nameAndType 523 524), (0, u "checkBoundsBeginEnd"), (0, u "(III)V"), (50, .class_ 576), (0, u "java/lang/CharSequence"), (22, u "CASE_INSENSITIVE_ORDER"), (0, u "Ljava/util/Comparator;"), (82, u "substring"), (0, u "(II)Ljava/lang/String;"), (0, .methodref 107 686), (0, .nameAndType 687 688), (0, u "newString"), (0, u "([BII)Ljava/lang/String;"), (321, u "([C)V"), (42, .fieldref 1054 1055), (0, .class_ 1056), (0, .nameAndType 1057 1058), (0, u "jdk/internal/util/Preconditions"), (0, u "SIOOBE_FORMATTER"), (0, u "Ljava/util/function/BiFunction;"), (0, .methodref 1054 1060), (0, .nameAndType 501 1061), (0, u "(IILjava/util/function/BiFunction;)I"), (0, .methodref 1054 1063), (0, .nameAndType 513 1064), (0, u "(IIILjava/util/function/BiFunction;)I"), (36, u "serialPersistentFields"), (0, u "[Ljava/io/ObjectStreamField;"), (0, .class_ 1104), (0, u "java/lang/String$CaseInsensitiveComparator"), (1, .class_ 1107), (0, u "java/io/Serializable"), (0, .class_ 1109), (0, u "java/lang/Comparable"), (0, .class_ 1111), (0, u "java/lang/constant/Constable"), (0, .class_ 1113), (0, u "java/lang/constant/ConstantDesc"), (2, u "serialVersionUID"), (0, u "J"), (3, u "REPL"), (0, u "C"), (2, u "LATIN1"), (1, u "UTF16")] 323

def k7m0 : Method := { name := "<init>", desc := "()V", sig := { parameters := [], returnType := none }, accessFlags := 1, code := none }
def k7c1 : Code := { maxStack := 5, maxLocals := 2, code := jdk_42_method_3_code, exceptionTable := #[], attributes := #[] }
def k7m1 : Method := { name := "<init>", desc := "([C)V", sig := { parameters := [(.array .char)], returnType := none }, accessFlags := 1, code := some k7c1 }
def k7c2 : Code := { maxStack := 2, maxLocals := 1, code := jdk_42_method_54_code, exceptionTable := #[], attributes := #[] }
def k7m2 : Method := { name := "length", desc := "()I", sig := { parameters := [], returnType := some .int }, accessFlags := 1, code := some k7c2 }
def k7c3 : Code := { maxStack := 2, maxLocals := 2, code := jdk_42_method_56_code, exceptionTable := #[], attributes := #[] }
def k7m3 : Method := { name := "charAt", desc := "(I)C", sig := { parameters := [.int], returnType := some .char }, accessFlags := 1, code := some k7c3 }
def k7c4 : Code := { maxStack := 3, maxLocals := 5, code := jdk_42_method_92_code, exceptionTable := #[], attributes := #[] }
def k7m4 : Method := { name := "substring", desc := "(II)Ljava/lang/String;", sig := { parameters := [.int, .int], returnType := some (.object "java/lang/String") }, accessFlags := 1, code := some k7c4 }
def k7c5 : Code := { maxStack := 4, maxLocals := 6, code := jdk_42_method_149_code, exceptionTable := #[], attributes := #[] }
def k7m5 : Method := { name := "<init>", desc := "([CIILjava/lang/Void;)V", sig := { parameters := [(.array .char), .int, .int, (.object "java/lang/Void")], returnType := none }, accessFlags := 2, code := some k7c5 }
def k7c6 : Code := { maxStack := 2, maxLocals := 3, code := jdk_42_method_151_code, exceptionTable := #[], attributes := #[] }
def k7m6 : Method := { name := "<init>", desc := "([BB)V", sig := { parameters := [(.array .byte), .byte], returnType := none }, accessFlags := 0, code := some k7c6 }
def k7c7 : Code := { maxStack := 1, maxLocals := 1, code := jdk_42_method_152_code, exceptionTable := #[], attributes := #[] }
def k7m7 : Method := { name := "coder", desc := "()B", sig := { parameters := [], returnType := some .byte }, accessFlags := 0, code := some k7c7 }
def k7c8 : Code := { maxStack := 1, maxLocals := 1, code := jdk_42_method_154_code, exceptionTable := #[], attributes := #[] }
def k7m8 : Method := { name := "isLatin1", desc := "()Z", sig := { parameters := [], returnType := some .boolean }, accessFlags := 0, code := some k7c8 }
def k7c9 : Code := { maxStack := 3, maxLocals := 2, code := jdk_42_method_155_code, exceptionTable := #[], attributes := #[] }
def k7m9 : Method := { name := "checkIndex", desc := "(II)V", sig := { parameters := [.int, .int], returnType := none }, accessFlags := 8, code := some k7c9 }
def k7c10 : Code := { maxStack := 4, maxLocals := 3, code := jdk_42_method_158_code, exceptionTable := #[], attributes := #[] }
def k7m10 : Method := { name := "checkBoundsBeginEnd", desc := "(III)V", sig := { parameters := [.int, .int, .int], returnType := none }, accessFlags := 8, code := some k7c10 }
/-- java/lang/String -/
def k7 : Class := { plain "java/lang/String" (some 0) with
  accessFlags := 49
  interfaces := #[2, 3, 4, 5, 6]
  cf := some (fileOf pool7 10 #[.nestMembers #[1103]] #[{ accessFlags := 1, nameIndex := 5, descriptorIndex := 6, attributes := #[] }, { accessFlags := 1, nameIndex := 5, descriptorIndex := 1010, attributes := #[] }, { accessFlags := 1, nameIndex := 507, descriptorIndex := 334, attributes := #[] }, { accessFlags := 1, nameIndex := 497, descriptorIndex := 427, attributes := #[] }, { accessFlags := 1, nameIndex := 683, descriptorIndex := 684, attributes := #[] }, { accessFlags := 2, nameIndex := 5, descriptorIndex := 29, attributes := #[] }, { accessFlags := 0, nameIndex := 5, descriptorIndex := 211, attributes := #[] }, { accessFlags := 0, nameIndex := 17, descriptorIndex := 337, attributes := #[] }, { accessFlags := 0, nameIndex := 494, descriptorIndex := 142, attributes := #[] }, { accessFlags := 8, nameIndex := 501, descriptorIndex := 391, attributes := #[] }, { accessFlags := 8, nameIndex := 523, descriptorIndex := 524, attributes := #[] }] 49 2 #[1106, 1108, 575, 1110, 1112] #[{ accessFlags := 18, nameIndex := 13, descriptorIndex := 14, attributes := #[] }, { accessFlags := 18, nameIndex := 17, descriptorIndex := 18, attributes := #[] }, { accessFlags := 2, nameIndex := 21, descriptorIndex := 22, attributes := #[] }, { accessFlags := 2, nameIndex := 25, descriptorIndex := 26, attributes := #[] }, { accessFlags := 26, nameIndex := 1116, descriptorIndex := 1117, attributes := #[] }, { accessFlags := 24, nameIndex := 40, descriptorIndex := 26, attributes := #[] }, { accessFlags := 26, nameIndex := 1101, descriptorIndex := 1102, attributes := #[] }, { accessFlags := 26, nameIndex := 1121, descriptorIndex := 1122, attributes := #[] }, { accessFlags := 25, nameIndex := 599, descriptorIndex := 600, attributes := #[] }, { accessFlags := 24, nameIndex := 1125, descriptorIndex := 18, attributes := #[] }, { accessFlags := 24, nameIndex := 1127, descriptorIndex := 18, attributes := #[] }])
  fields := #[{ name := "value", type := (.array .byte), accessFlags := 18, slot := 0, constantValue := 0 }, { name := "coder", type := .byte, accessFlags := 18, slot := 1, constantValue := 0 }, { name := "hash", type := .int, accessFlags := 2, slot := 2, constantValue := 0 }, { name := "hashIsZero", type := .boolean, accessFlags := 2, slot := 3, constantValue := 0 }, { name := "serialVersionUID", type := .long, accessFlags := 26, slot := 0, constantValue := 0 }, { name := "COMPACT_STRINGS", type := .boolean, accessFlags := 24, slot := 1, constantValue := 0 }, { name := "serialPersistentFields", type := (.array (.object "java/io/ObjectStreamField")), accessFlags := 26, slot := 2, constantValue := 0 }, { name := "REPL", type := .char, accessFlags := 26, slot := 3, constantValue := 0 }, { name := "CASE_INSENSITIVE_ORDER", type := (.object "java/util/Comparator"), accessFlags := 25, slot := 4, constantValue := 0 }, { name := "LATIN1", type := .byte, accessFlags := 24, slot := 5, constantValue := 0 }, { name := "UTF16", type := .byte, accessFlags := 24, slot := 6, constantValue := 0 }]
  methods := #[k7m0, k7m1, k7m2, k7m3, k7m4, k7m5, k7m6, k7m7, k7m8, k7m9, k7m10]
  instanceTypes := #[(.array .byte), .byte, .int, .boolean]
  staticTypes := #[.long, .boolean, (.array (.object "java/io/ObjectStreamField")), .char, (.object "java/util/Comparator"), .byte, .byte]
  resolved := Array.replicate 1451 none
  statics := some 0 }

def pool8 : Array CpInfo := pool [(6, .class_ 8), (1, u "java/lang/Object"), (0, u "<init>"), (0, u "()V"), (1, .class_ 14), (1, u "java/lang/StringUTF16"), (31, u "$assertionsDisabled"), (0, u "Z"), (13, u "HI_BYTE_SHIFT"), (0, u "I"), (2, u "LO_BYTE_SHIFT"), (49, .methodref 12 116), (0, .nameAndType 117 118), (0, u "compress"), (0, u "([CI[BII)I"), (3, u "([CII)[B"), (138, u "coderFromArrayLen"), (0, u "([BI)B"), (106, .class_ 371), (1, u "java/lang/StringUTF16$LinesSpliterator"), (58, u "MAX_LENGTH"), (196, .class_ 628), (0, u "java/lang/StringUTF16$CodePointsSpliterator"), (0, .class_ 630), (0, u "java/lang/StringUTF16$CharsSpliterator")] 4

def k8m0 : Method := { name := "<init>", desc := "()V", sig := { parameters := [], returnType := none }, accessFlags := 0, code := none }
def k8c1 : Code := { maxStack := 2, maxLocals := 2, code := jdk_52_method_15_code, exceptionTable := #[], attributes := #[] }
def k8m1 : Method := { name := "coderFromArrayLen", desc := "([BI)B", sig := { parameters := [(.array .byte), .int], returnType := some .byte }, accessFlags := 8, code := some k8c1 }
def k8c2 : Code := { maxStack := 5, maxLocals := 6, code := jdk_52_method_16_code, exceptionTable := #[], attributes := #[] }
def k8m2 : Method := { name := "compress", desc := "([CII)[B", sig := { parameters := [(.array .char), .int, .int], returnType := some (.array .byte) }, accessFlags := 9, code := some k8c2 }
def k8c3 : Code := { maxStack := 3, maxLocals := 7, code := jdk_52_method_21_code, exceptionTable := #[], attributes := #[] }
def k8m3 : Method := { name := "compress", desc := "([CI[BII)I", sig := { parameters := [(.array .char), .int, (.array .byte), .int, .int], returnType := some .int }, accessFlags := 9, code := some k8c3 }
/-- java/lang/StringUTF16 -/
def k8 : Class := { plain "java/lang/StringUTF16" (some 0) with
  accessFlags := 48
  interfaces := #[]
  cf := some (fileOf pool8 12 #[.nestMembers #[627, 629, 369]] #[{ accessFlags := 0, nameIndex := 9, descriptorIndex := 10, attributes := #[] }, { accessFlags := 8, nameIndex := 261, descriptorIndex := 262, attributes := #[] }, { accessFlags := 9, nameIndex := 117, descriptorIndex := 122, attributes := #[] }, { accessFlags := 9, nameIndex := 117, descriptorIndex := 118, attributes := #[] }] 48 6 #[] #[{ accessFlags := 26, nameIndex := 61, descriptorIndex := 62, attributes := #[] }, { accessFlags := 26, nameIndex := 65, descriptorIndex := 62, attributes := #[] }, { accessFlags := 24, nameIndex := 430, descriptorIndex := 62, attributes := #[] }, { accessFlags := 4120, nameIndex := 46, descriptorIndex := 47, attributes := #[] }])
  fields := #[{ name := "HI_BYTE_SHIFT", type := .int, accessFlags := 26, slot := 0, constantValue := 0 }, { name := "LO_BYTE_SHIFT", type := .int, accessFlags := 26, slot := 1, constantValue := 0 }, { name := "MAX_LENGTH", type := .int, accessFlags := 24, slot := 2, constantValue := 0 }, { name := "$assertionsDisabled", type := .boolean, accessFlags := 4120, slot := 3, constantValue := 0 }]
  methods := #[k8m0, k8m1, k8m2, k8m3]
  instanceTypes := #[]
  staticTypes := #[.int, .int, .int, .boolean]
  resolved := Array.replicate 635 none
  statics := none }

def pool9 : Array CpInfo := pool [(1, .methodref 2 3), (0, .class_ 4), (0, .nameAndType 5 6), (0, u "java/lang/Object"), (0, u "<init>"), (0, u "()V"), (0, .fieldref 8 9), (0, .class_ 10), (0, .nameAndType 11 12), (0, u "com/example/strict_uri/stricturi/UriReference"), (0, u "text"), (0, u "Ljava/lang/String;"), (0, .fieldref 8 14), (0, .nameAndType 15 16), (0, u "schemeEnd"), (0, u "I"), (0, .fieldref 8 18), (0, .nameAndType 19 16), (0, u "userInfoEnd"), (0, .fieldref 8 21), (0, .nameAndType 22 16), (0, u "hostEnd"), (0, .fieldref 8 24), (0, .nameAndType 25 26), (0, u "hostKind"), (0, u "Lcom/example/strict_uri/stricturi/HostKind;"), (0, .fieldref 8 28), (0, .nameAndType 29 16), (0, u "pathStart"), (0, .fieldref 8 31), (0, .nameAndType 32 16), (0, u "pathEnd"), (0, .fieldref 8 34), (0, .nameAndType 35 16), (0, u "queryEnd"), (5, u "()Ljava/lang/String;"), (17, .methodref 60 61), (0, .class_ 62), (0, .nameAndType 63 64), (0, u "java/lang/String"), (0, u "substring"), (0, u "(II)Ljava/lang/String;"), (57, u "query"), (110, u "URL_SCHEMES_WRITTEN_AS_GIVEN"), (0, u "Ljava/util/Set;"), (57, .class_ 293), (0, u "com/example/strict_uri/stricturi/UriReference$Authority"), (51, u "(Ljava/lang/String;IIILcom/example/strict_uri/stricturi/HostKind;III)V")] 82

def k9c0 : Code := { maxStack := 2, maxLocals := 9, code := prog_7_method_1_code, exceptionTable := #[], attributes := #[] }
def k9m0 : Method := { name := "<init>", desc := "(Ljava/lang/String;IIILcom/example/strict_uri/stricturi/HostKind;III)V", sig := { parameters := [(.object "java/lang/String"), .int, .int, .int, (.object "com/example/strict_uri/stricturi/HostKind"), .int, .int, .int], returnType := none }, accessFlags := 0, code := some k9c0 }
def k9c1 : Code := { maxStack := 3, maxLocals := 1, code := prog_7_method_14_code, exceptionTable := #[], attributes := #[] }
def k9m1 : Method := { name := "query", desc := "()Ljava/lang/String;", sig := { parameters := [], returnType := some (.object "java/lang/String") }, accessFlags := 1, code := some k9c1 }
/-- com/example/strict_uri/stricturi/UriReference -/
def k9 : Class := { plain "com/example/strict_uri/stricturi/UriReference" (some 0) with
  accessFlags := 49
  interfaces := #[]
  cf := some (fileOf pool9 8 #[.nestMembers #[292]] #[{ accessFlags := 0, nameIndex := 5, descriptorIndex := 345, attributes := #[] }, { accessFlags := 1, nameIndex := 122, descriptorIndex := 41, attributes := #[] }] 49 2 #[] #[{ accessFlags := 26, nameIndex := 233, descriptorIndex := 234, attributes := #[] }, { accessFlags := 18, nameIndex := 11, descriptorIndex := 12, attributes := #[] }, { accessFlags := 18, nameIndex := 15, descriptorIndex := 16, attributes := #[] }, { accessFlags := 18, nameIndex := 19, descriptorIndex := 16, attributes := #[] }, { accessFlags := 18, nameIndex := 22, descriptorIndex := 16, attributes := #[] }, { accessFlags := 18, nameIndex := 25, descriptorIndex := 26, attributes := #[] }, { accessFlags := 18, nameIndex := 29, descriptorIndex := 16, attributes := #[] }, { accessFlags := 18, nameIndex := 32, descriptorIndex := 16, attributes := #[] }, { accessFlags := 18, nameIndex := 35, descriptorIndex := 16, attributes := #[] }])
  fields := #[{ name := "URL_SCHEMES_WRITTEN_AS_GIVEN", type := (.object "java/util/Set"), accessFlags := 26, slot := 0, constantValue := 0 }, { name := "text", type := (.object "java/lang/String"), accessFlags := 18, slot := 0, constantValue := 0 }, { name := "schemeEnd", type := .int, accessFlags := 18, slot := 1, constantValue := 0 }, { name := "userInfoEnd", type := .int, accessFlags := 18, slot := 2, constantValue := 0 }, { name := "hostEnd", type := .int, accessFlags := 18, slot := 3, constantValue := 0 }, { name := "hostKind", type := (.object "com/example/strict_uri/stricturi/HostKind"), accessFlags := 18, slot := 4, constantValue := 0 }, { name := "pathStart", type := .int, accessFlags := 18, slot := 5, constantValue := 0 }, { name := "pathEnd", type := .int, accessFlags := 18, slot := 6, constantValue := 0 }, { name := "queryEnd", type := .int, accessFlags := 18, slot := 7, constantValue := 0 }]
  methods := #[k9m0, k9m1]
  instanceTypes := #[(.object "java/lang/String"), .int, .int, .int, (.object "com/example/strict_uri/stricturi/HostKind"), .int, .int, .int]
  staticTypes := #[(.object "java/util/Set")]
  resolved := Array.replicate 428 none
  statics := none }

def pool10 : Array CpInfo := pool [(2, .class_ 4), (1, u "java/lang/Object"), (0, u "<init>"), (0, u "()V"), (17, .class_ 26), (1, u "jdk/internal/util/Preconditions"), (6, u "checkIndex"), (13, u "checkFromToIndex"), (7, .class_ 56), (0, u "jdk/internal/util/Preconditions$4"), (57, .class_ 115), (0, u "jdk/internal/util/Preconditions$1"), (7, u "SIOOBE_FORMATTER"), (0, u "Ljava/util/function/BiFunction;"), (0, .class_ 126), (0, u "jdk/internal/util/Preconditions$2"), (3, u "AIOOBE_FORMATTER"), (0, .class_ 132), (0, u "jdk/internal/util/Preconditions$3"), (3, u "IOOBE_FORMATTER"), (41, u "(IILjava/util/function/BiFunction;)I"), (4, u "(IIILjava/util/function/BiFunction;)I")] 10

def k10m0 : Method := { name := "<init>", desc := "()V", sig := { parameters := [], returnType := none }, accessFlags := 1, code := none }
def k10c1 : Code := { maxStack := 3, maxLocals := 3, code := jdk_41_method_11_code, exceptionTable := #[], attributes := #[] }
def k10m1 : Method := { name := "checkIndex", desc := "(IILjava/util/function/BiFunction;)I", sig := { parameters := [.int, .int, (.object "java/util/function/BiFunction")], returnType := some .int }, accessFlags := 9, code := some k10c1 }
def k10c2 : Code := { maxStack := 4, maxLocals := 4, code := jdk_41_method_12_code, exceptionTable := #[], attributes := #[] }
def k10m2 : Method := { name := "checkFromToIndex", desc := "(IIILjava/util/function/BiFunction;)I", sig := { parameters := [.int, .int, .int, (.object "java/util/function/BiFunction")], returnType := some .int }, accessFlags := 9, code := some k10c2 }
/-- jdk/internal/util/Preconditions -/
def k10 : Class := { plain "jdk/internal/util/Preconditions" (some 0) with
  accessFlags := 33
  interfaces := #[]
  cf := some (fileOf pool10 24 #[.nestMembers #[55, 131, 125, 114]] #[{ accessFlags := 1, nameIndex := 5, descriptorIndex := 6, attributes := #[] }, { accessFlags := 9, nameIndex := 33, descriptorIndex := 178, attributes := #[] }, { accessFlags := 9, nameIndex := 47, descriptorIndex := 183, attributes := #[] }] 33 2 #[] #[{ accessFlags := 25, nameIndex := 123, descriptorIndex := 124, attributes := #[] }, { accessFlags := 25, nameIndex := 130, descriptorIndex := 124, attributes := #[] }, { accessFlags := 25, nameIndex := 136, descriptorIndex := 124, attributes := #[] }])
  fields := #[{ name := "SIOOBE_FORMATTER", type := (.object "java/util/function/BiFunction"), accessFlags := 25, slot := 0, constantValue := 0 }, { name := "AIOOBE_FORMATTER", type := (.object "java/util/function/BiFunction"), accessFlags := 25, slot := 1, constantValue := 0 }, { name := "IOOBE_FORMATTER", type := (.object "java/util/function/BiFunction"), accessFlags := 25, slot := 2, constantValue := 0 }]
  methods := #[k10m0, k10m1, k10m2]
  instanceTypes := #[]
  staticTypes := #[(.object "java/util/function/BiFunction"), (.object "java/util/function/BiFunction"), (.object "java/util/function/BiFunction")]
  resolved := Array.replicate 194 none
  statics := some 1 }

def pool11 : Array CpInfo := pool [(1, .class_ 2), (0, u "java/lang/String"), (1, .class_ 6), (1, u "java/lang/Object"), (0, u "<init>"), (0, u "()V"), (0, .methodref 1 10), (0, .nameAndType 11 12), (0, u "checkIndex"), (0, u "(II)V"), (1, .class_ 16), (1, u "java/lang/StringLatin1"), (36, u "([BI)C"), (58, .methodref 1 113), (0, .nameAndType 7 114), (0, u "([BB)V"), (6, u "$assertionsDisabled"), (0, u "Z"), (8, .class_ 133), (1, u "java/util/Arrays"), (17, .string 152), (0, u ""), (43, u "newString"), (0, u "([BII)Ljava/lang/String;"), (23, .class_ 223), (1, u "java/lang/StringLatin1$LinesSpliterator"), (8, .methodref 131 233), (0, .nameAndType 234 235), (0, u "copyOfRange"), (0, u "([BII)[B"), (16, u "charAt"), (137, .class_ 391), (0, u "java/lang/StringLatin1$CharsSpliterator")] 3

def k11m0 : Method := { name := "<init>", desc := "()V", sig := { parameters := [], returnType := none }, accessFlags := 0, code := none }
def k11c1 : Code := { maxStack := 2, maxLocals := 2, code := jdk_43_method_2_code, exceptionTable := #[], attributes := #[] }
def k11m1 : Method := { name := "charAt", desc := "([BI)C", sig := { parameters := [(.array .byte), .int], returnType := some .char }, accessFlags := 9, code := some k11c1 }
def k11c2 : Code := { maxStack := 6, maxLocals := 3, code := jdk_43_method_47_code, exceptionTable := #[], attributes := #[] }
def k11m2 : Method := { name := "newString", desc := "([BII)Ljava/lang/String;", sig := { parameters := [(.array .byte), .int, .int], returnType := some (.object "java/lang/String") }, accessFlags := 9, code := some k11c2 }
/-- java/lang/StringLatin1 -/
def k11 : Class := { plain "java/lang/StringLatin1" (some 0) with
  accessFlags := 48
  interfaces := #[]
  cf := some (fileOf pool11 14 #[.nestMembers #[390, 221]] #[{ accessFlags := 0, nameIndex := 7, descriptorIndex := 8, attributes := #[] }, { accessFlags := 9, nameIndex := 252, descriptorIndex := 53, attributes := #[] }, { accessFlags := 9, nameIndex := 196, descriptorIndex := 197, attributes := #[] }] 48 4 #[] #[{ accessFlags := 4120, nameIndex := 121, descriptorIndex := 122, attributes := #[] }])
  fields := #[{ name := "$assertionsDisabled", type := .boolean, accessFlags := 4120, slot := 0, constantValue := 0 }]
  methods := #[k11m0, k11m1, k11m2]
  instanceTypes := #[]
  staticTypes := #[.boolean]
  resolved := Array.replicate 395 none
  statics := none }

def pool12 : Array CpInfo := pool [(2, .class_ 4), (1, u "java/lang/Object"), (0, u "<init>"), (0, u "()V"), (7, .class_ 16), (1, u "java/util/Arrays"), (57, .class_ 76), (1, u "java/util/Arrays$NaturalOrder"), (36, .class_ 115), (1, u "java/util/Arrays$LegacyMergeSort"), (1, u "Z"), (21, u "copyOfRange"), (10, .methodref 151 152), (0, .class_ 153), (0, .nameAndType 154 155), (0, u "java/lang/System"), (0, u "arraycopy"), (0, u "(Ljava/lang/Object;ILjava/lang/Object;II)V"), (148, .methodref 305 306), (0, .class_ 307), (0, .nameAndType 308 309), (0, u "java/lang/Math"), (0, u "min"), (0, u "(II)I"), (29, .methodref 14 340), (0, .nameAndType 341 342), (0, u "copyOfRangeByte"), (0, u "([BII)[B"), (0, .methodref 14 344), (0, .nameAndType 345 346), (0, u "checkLength"), (0, u "(II)V"), (28, .class_ 376), (0, u "java/util/Arrays$ArrayList"), (68, u "$assertionsDisabled"), (269, u "MIN_ARRAY_SORT_GRAN"), (0, u "I"), (2, u "INSERTIONSORT_THRESHOLD"), (255, .class_ 976), (0, u "java/util/Arrays$ArrayItr")] 52

def k12m0 : Method := { name := "<init>", desc := "()V", sig := { parameters := [], returnType := none }, accessFlags := 2, code := none }
def k12c1 : Code := { maxStack := 4, maxLocals := 2, code := jdk_65_method_131_code, exceptionTable := #[], attributes := #[] }
def k12m1 : Method := { name := "checkLength", desc := "(II)V", sig := { parameters := [.int, .int], returnType := none }, accessFlags := 10, code := some k12c1 }
def k12c2 : Code := { maxStack := 3, maxLocals := 3, code := jdk_65_method_132_code, exceptionTable := #[], attributes := #[] }
def k12m2 : Method := { name := "copyOfRange", desc := "([BII)[B", sig := { parameters := [(.array .byte), .int, .int], returnType := some (.array .byte) }, accessFlags := 9, code := some k12c2 }
def k12c3 : Code := { maxStack := 6, maxLocals := 5, code := jdk_65_method_133_code, exceptionTable := #[], attributes := #[] }
def k12m3 : Method := { name := "copyOfRangeByte", desc := "([BII)[B", sig := { parameters := [(.array .byte), .int, .int], returnType := some (.array .byte) }, accessFlags := 10, code := some k12c3 }
/-- java/util/Arrays -/
def k12 : Class := { plain "java/util/Arrays" (some 0) with
  accessFlags := 49
  interfaces := #[]
  cf := some (fileOf pool12 14 #[.nestMembers #[975, 375, 113, 74]] #[{ accessFlags := 2, nameIndex := 5, descriptorIndex := 6, attributes := #[] }, { accessFlags := 10, nameIndex := 345, descriptorIndex := 346, attributes := #[] }, { accessFlags := 9, nameIndex := 139, descriptorIndex := 342, attributes := #[] }, { accessFlags := 10, nameIndex := 341, descriptorIndex := 342, attributes := #[] }] 49 2 #[] #[{ accessFlags := 26, nameIndex := 715, descriptorIndex := 716, attributes := #[] }, { accessFlags := 26, nameIndex := 719, descriptorIndex := 716, attributes := #[] }, { accessFlags := 4120, nameIndex := 445, descriptorIndex := 117, attributes := #[] }])
  fields := #[{ name := "MIN_ARRAY_SORT_GRAN", type := .int, accessFlags := 26, slot := 0, constantValue := 0 }, { name := "INSERTIONSORT_THRESHOLD", type := .int, accessFlags := 26, slot := 1, constantValue := 0 }, { name := "$assertionsDisabled", type := .boolean, accessFlags := 4120, slot := 2, constantValue := 0 }]
  methods := #[k12m0, k12m1, k12m2, k12m3]
  instanceTypes := #[]
  staticTypes := #[.int, .int, .boolean]
  resolved := Array.replicate 1029 none
  statics := none }

def pool13 : Array CpInfo := pool [(1, .class_ 2), (0, u "java/lang/Math"), (1, .class_ 6), (1, u "java/lang/Object"), (0, u "<init>"), (0, u "()V"), (89, .class_ 100), (1, u "java/lang/Math$RandomNumberGeneratorHolder"), (71, u "negativeZeroFloatBits"), (0, u "J"), (2, u "negativeZeroDoubleBits"), (24, u "min"), (43, u "$assertionsDisabled"), (0, u "Z"), (88, u "(II)I"), (2, u "twoToTheDoubleScaleDown"), (0, u "D"), (4, u "twoToTheDoubleScaleUp"), (9, u "E"), (3, u "PI"), (2, u "TAU"), (2, u "DEGREES_TO_RADIANS"), (0, u "RADIANS_TO_DEGREES")] 94

def k13m0 : Method := { name := "<init>", desc := "()V", sig := { parameters := [], returnType := none }, accessFlags := 2, code := none }
def k13c1 : Code := { maxStack := 2, maxLocals := 2, code := jdk_29_method_69_code, exceptionTable := #[], attributes := #[] }
def k13m1 : Method := { name := "min", desc := "(II)I", sig := { parameters := [.int, .int], returnType := some .int }, accessFlags := 9, code := some k13c1 }
/-- java/lang/Math -/
def k13 : Class := { plain "java/lang/Math" (some 0) with
  accessFlags := 49
  interfaces := #[]
  cf := some (fileOf pool13 1 #[.nestMembers #[98]] #[{ accessFlags := 2, nameIndex := 7, descriptorIndex := 8, attributes := #[] }, { accessFlags := 9, nameIndex := 201, descriptorIndex := 335, attributes := #[] }] 49 4 #[] #[{ accessFlags := 25, nameIndex := 354, descriptorIndex := 339, attributes := #[] }, { accessFlags := 25, nameIndex := 358, descriptorIndex := 339, attributes := #[] }, { accessFlags := 25, nameIndex := 361, descriptorIndex := 339, attributes := #[] }, { accessFlags := 26, nameIndex := 364, descriptorIndex := 339, attributes := #[] }, { accessFlags := 26, nameIndex := 365, descriptorIndex := 339, attributes := #[] }, { accessFlags := 26, nameIndex := 172, descriptorIndex := 173, attributes := #[] }, { accessFlags := 26, nameIndex := 176, descriptorIndex := 173, attributes := #[] }, { accessFlags := 8, nameIndex := 344, descriptorIndex := 339, attributes := #[] }, { accessFlags := 8, nameIndex := 338, descriptorIndex := 339, attributes := #[] }, { accessFlags := 4120, nameIndex := 245, descriptorIndex := 246, attributes := #[] }])
  fields := #[{ name := "E", type := .double, accessFlags := 25, slot := 0, constantValue := 0 }, { name := "PI", type := .double, accessFlags := 25, slot := 1, constantValue := 0 }, { name := "TAU", type := .double, accessFlags := 25, slot := 2, constantValue := 0 }, { name := "DEGREES_TO_RADIANS", type := .double, accessFlags := 26, slot := 3, constantValue := 0 }, { name := "RADIANS_TO_DEGREES", type := .double, accessFlags := 26, slot := 4, constantValue := 0 }, { name := "negativeZeroFloatBits", type := .long, accessFlags := 26, slot := 5, constantValue := 0 }, { name := "negativeZeroDoubleBits", type := .long, accessFlags := 26, slot := 6, constantValue := 0 }, { name := "twoToTheDoubleScaleUp", type := .double, accessFlags := 8, slot := 7, constantValue := 0 }, { name := "twoToTheDoubleScaleDown", type := .double, accessFlags := 8, slot := 8, constantValue := 0 }, { name := "$assertionsDisabled", type := .boolean, accessFlags := 4120, slot := 9, constantValue := 0 }]
  methods := #[k13m0, k13m1]
  instanceTypes := #[]
  staticTypes := #[.double, .double, .double, .double, .double, .long, .long, .double, .double, .boolean]
  resolved := Array.replicate 460 none
  statics := none }

def pool14 : Array CpInfo := pool [(2, .class_ 4), (1, u "java/lang/Object"), (0, u "<init>"), (0, u "()V"), (1, .class_ 10), (1, u "java/lang/System"), (0, u "allowSecurityManager"), (0, u "I"), (16, u "cons"), (0, u "Ljava/io/Console;"), (77, .class_ 110), (1, u "java/lang/System$CallersHolder"), (43, u "initialErrStream"), (0, u "Ljava/io/PrintStream;"), (19, u "security"), (0, u "Ljava/lang/SecurityManager;"), (31, .class_ 209), (0, u "java/lang/System$1"), (7, u "props"), (0, u "Ljava/util/Properties;"), (2, u "lineSeparator"), (0, u "Ljava/lang/String;"), (96, .class_ 321), (1, u "java/lang/System$LoggerFinder"), (5, .class_ 328), (0, u "java/lang/System$Logger"), (67, u "err"), (2, u "out"), (91, u "notSupportedJnuEncoding"), (15, u "in"), (17, u "initialIn"), (0, u "Ljava/io/InputStream;"), (35, u "bootLayer"), (0, u "Ljava/lang/ModuleLayer;"), (99, .class_ 664), (0, u "java/lang/System$2"), (9, u "NEVER"), (2, u "MAYBE"), (49, u "arraycopy"), (0, u "(Ljava/lang/Object;ILjava/lang/Object;II)V"), (72, .class_ 802), (0, u "java/lang/System$Logger$Level")] 31

def k14m0 : Method := { name := "<init>", desc := "()V", sig := { parameters := [], returnType := none }, accessFlags := 2, code := none }
def k14m1 : Method := { name := "arraycopy", desc := "(Ljava/lang/Object;ILjava/lang/Object;II)V", sig := { parameters := [(.object "java/lang/Object"), .int, (.object "java/lang/Object"), .int, .int], returnType := none }, accessFlags := 265, code := none }
/-- java/lang/System -/
def k14 : Class := { plain "java/lang/System" (some 0) with
  accessFlags := 49
  interfaces := #[]
  cf := some (fileOf pool14 8 #[.nestMembers #[319, 327, 801, 108, 663, 208]] #[{ accessFlags := 2, nameIndex := 5, descriptorIndex := 6, attributes := #[] }, { accessFlags := 265, nameIndex := 727, descriptorIndex := 728, attributes := #[] }] 49 2 #[] #[{ accessFlags := 25, nameIndex := 507, descriptorIndex := 526, attributes := #[] }, { accessFlags := 25, nameIndex := 399, descriptorIndex := 155, attributes := #[] }, { accessFlags := 25, nameIndex := 396, descriptorIndex := 155, attributes := #[] }, { accessFlags := 10, nameIndex := 525, descriptorIndex := 526, attributes := #[] }, { accessFlags := 26, nameIndex := 674, descriptorIndex := 12, attributes := #[] }, { accessFlags := 26, nameIndex := 677, descriptorIndex := 12, attributes := #[] }, { accessFlags := 10, nameIndex := 11, descriptorIndex := 12, attributes := #[] }, { accessFlags := 74, nameIndex := 175, descriptorIndex := 176, attributes := #[] }, { accessFlags := 10, nameIndex := 491, descriptorIndex := 222, attributes := #[] }, { accessFlags := 74, nameIndex := 29, descriptorIndex := 30, attributes := #[] }, { accessFlags := 74, nameIndex := 154, descriptorIndex := 155, attributes := #[] }, { accessFlags := 10, nameIndex := 217, descriptorIndex := 218, attributes := #[] }, { accessFlags := 10, nameIndex := 221, descriptorIndex := 222, attributes := #[] }, { accessFlags := 8, nameIndex := 562, descriptorIndex := 563, attributes := #[] }])
  fields := #[{ name := "in", type := (.object "java/io/InputStream"), accessFlags := 25, slot := 0, constantValue := 0 }, { name := "out", type := (.object "java/io/PrintStream"), accessFlags := 25, slot := 1, constantValue := 0 }, { name := "err", type := (.object "java/io/PrintStream"), accessFlags := 25, slot := 2, constantValue := 0 }, { name := "initialIn", type := (.object "java/io/InputStream"), accessFlags := 10, slot := 3, constantValue := 0 }, { name := "NEVER", type := .int, accessFlags := 26, slot := 4, constantValue := 0 }, { name := "MAYBE", type := .int, accessFlags := 26, slot := 5, constantValue := 0 }, { name := "allowSecurityManager", type := .int, accessFlags := 10, slot := 6, constantValue := 0 }, { name := "security", type := (.object "java/lang/SecurityManager"), accessFlags := 74, slot := 7, constantValue := 0 }, { name := "notSupportedJnuEncoding", type := (.object "java/lang/String"), accessFlags := 10, slot := 8, constantValue := 0 }, { name := "cons", type := (.object "java/io/Console"), accessFlags := 74, slot := 9, constantValue := 0 }, { name := "initialErrStream", type := (.object "java/io/PrintStream"), accessFlags := 74, slot := 10, constantValue := 0 }, { name := "props", type := (.object "java/util/Properties"), accessFlags := 10, slot := 11, constantValue := 0 }, { name := "lineSeparator", type := (.object "java/lang/String"), accessFlags := 10, slot := 12, constantValue := 0 }, { name := "bootLayer", type := (.object "java/lang/ModuleLayer"), accessFlags := 8, slot := 13, constantValue := 0 }]
  methods := #[k14m0, k14m1]
  instanceTypes := #[]
  staticTypes := #[(.object "java/io/InputStream"), (.object "java/io/PrintStream"), (.object "java/io/PrintStream"), (.object "java/io/InputStream"), .int, .int, .int, (.object "java/lang/SecurityManager"), (.object "java/lang/String"), (.object "java/io/Console"), (.object "java/io/PrintStream"), (.object "java/util/Properties"), (.object "java/lang/String"), (.object "java/lang/ModuleLayer")]
  resolved := Array.replicate 834 none
  statics := none }

def pool15 : Array CpInfo := pool [(9, u "<init>"), (6, .class_ 18), (1, u "java/lang/Object"), (0, u "()V"), (1, .class_ 23), (1, u "jdk/internal/util/ArraysSupport"), (0, u "LOG2_ARRAY_LONG_INDEX_SCALE"), (0, u "I"), (2, u "U"), (0, u "Ljdk/internal/misc/Unsafe;"), (8, u "BIG_ENDIAN"), (0, u "Z"), (8, u "LOG2_BYTE_BIT_SIZE"), (4, u "LOG2_ARRAY_INT_INDEX_SCALE"), (54, u "JLA"), (0, u "Ljdk/internal/access/JavaLangAccess;"), (11, u "LOG2_ARRAY_BOOLEAN_INDEX_SCALE"), (9, u "LOG2_ARRAY_BYTE_INDEX_SCALE"), (5, u "LOG2_ARRAY_CHAR_INDEX_SCALE"), (5, u "LOG2_ARRAY_SHORT_INDEX_SCALE"), (18, u "LOG2_ARRAY_FLOAT_INDEX_SCALE"), (24, u "LOG2_ARRAY_DOUBLE_INDEX_SCALE"), (89, u "T_BOOLEAN"), (2, u "T_CHAR"), (1, u "T_FLOAT"), (1, u "T_DOUBLE"), (1, u "T_BYTE"), (1, u "T_SHORT"), (1, u "T_INT"), (1, u "T_LONG"), (1, u "SOFT_MAX_ARRAY_LENGTH")] 83

def k15m0 : Method := { name := "<init>", desc := "()V", sig := { parameters := [], returnType := none }, accessFlags := 2, code := none }
/-- jdk/internal/util/ArraysSupport -/
def k15 : Class := { plain "jdk/internal/util/ArraysSupport" (some 0) with
  accessFlags := 33
  interfaces := #[]
  cf := some (fileOf pool15 21 #[] #[{ accessFlags := 2, nameIndex := 9, descriptorIndex := 19, attributes := #[] }] 33 16 #[] #[{ accessFlags := 24, nameIndex := 28, descriptorIndex := 29, attributes := #[] }, { accessFlags := 26, nameIndex := 38, descriptorIndex := 39, attributes := #[] }, { accessFlags := 25, nameIndex := 121, descriptorIndex := 25, attributes := #[] }, { accessFlags := 25, nameIndex := 131, descriptorIndex := 25, attributes := #[] }, { accessFlags := 25, nameIndex := 137, descriptorIndex := 25, attributes := #[] }, { accessFlags := 25, nameIndex := 143, descriptorIndex := 25, attributes := #[] }, { accessFlags := 25, nameIndex := 53, descriptorIndex := 25, attributes := #[] }, { accessFlags := 25, nameIndex := 24, descriptorIndex := 25, attributes := #[] }, { accessFlags := 25, nameIndex := 162, descriptorIndex := 25, attributes := #[] }, { accessFlags := 25, nameIndex := 187, descriptorIndex := 25, attributes := #[] }, { accessFlags := 26, nameIndex := 48, descriptorIndex := 25, attributes := #[] }, { accessFlags := 25, nameIndex := 277, descriptorIndex := 25, attributes := #[] }, { accessFlags := 25, nameIndex := 280, descriptorIndex := 25, attributes := #[] }, { accessFlags := 25, nameIndex := 282, descriptorIndex := 25, attributes := #[] }, { accessFlags := 25, nameIndex := 284, descriptorIndex := 25, attributes := #[] }, { accessFlags := 25, nameIndex := 286, descriptorIndex := 25, attributes := #[] }, { accessFlags := 25, nameIndex := 288, descriptorIndex := 25, attributes := #[] }, { accessFlags := 25, nameIndex := 290, descriptorIndex := 25, attributes := #[] }, { accessFlags := 25, nameIndex := 292, descriptorIndex := 25, attributes := #[] }, { accessFlags := 26, nameIndex := 108, descriptorIndex := 109, attributes := #[] }, { accessFlags := 25, nameIndex := 294, descriptorIndex := 25, attributes := #[] }])
  fields := #[{ name := "U", type := (.object "jdk/internal/misc/Unsafe"), accessFlags := 24, slot := 0, constantValue := 0 }, { name := "BIG_ENDIAN", type := .boolean, accessFlags := 26, slot := 1, constantValue := 0 }, { name := "LOG2_ARRAY_BOOLEAN_INDEX_SCALE", type := .int, accessFlags := 25, slot := 2, constantValue := 0 }, { name := "LOG2_ARRAY_BYTE_INDEX_SCALE", type := .int, accessFlags := 25, slot := 3, constantValue := 0 }, { name := "LOG2_ARRAY_CHAR_INDEX_SCALE", type := .int, accessFlags := 25, slot := 4, constantValue := 0 }, { name := "LOG2_ARRAY_SHORT_INDEX_SCALE", type := .int, accessFlags := 25, slot := 5, constantValue := 0 }, { name := "LOG2_ARRAY_INT_INDEX_SCALE", type := .int, accessFlags := 25, slot := 6, constantValue := 0 }, { name := "LOG2_ARRAY_LONG_INDEX_SCALE", type := .int, accessFlags := 25, slot := 7, constantValue := 0 }, { name := "LOG2_ARRAY_FLOAT_INDEX_SCALE", type := .int, accessFlags := 25, slot := 8, constantValue := 0 }, { name := "LOG2_ARRAY_DOUBLE_INDEX_SCALE", type := .int, accessFlags := 25, slot := 9, constantValue := 0 }, { name := "LOG2_BYTE_BIT_SIZE", type := .int, accessFlags := 26, slot := 10, constantValue := 0 }, { name := "T_BOOLEAN", type := .int, accessFlags := 25, slot := 11, constantValue := 0 }, { name := "T_CHAR", type := .int, accessFlags := 25, slot := 12, constantValue := 0 }, { name := "T_FLOAT", type := .int, accessFlags := 25, slot := 13, constantValue := 0 }, { name := "T_DOUBLE", type := .int, accessFlags := 25, slot := 14, constantValue := 0 }, { name := "T_BYTE", type := .int, accessFlags := 25, slot := 15, constantValue := 0 }, { name := "T_SHORT", type := .int, accessFlags := 25, slot := 16, constantValue := 0 }, { name := "T_INT", type := .int, accessFlags := 25, slot := 17, constantValue := 0 }, { name := "T_LONG", type := .int, accessFlags := 25, slot := 18, constantValue := 0 }, { name := "JLA", type := (.object "jdk/internal/access/JavaLangAccess"), accessFlags := 26, slot := 19, constantValue := 0 }, { name := "SOFT_MAX_ARRAY_LENGTH", type := .int, accessFlags := 25, slot := 20, constantValue := 0 }]
  methods := #[k15m0]
  instanceTypes := #[]
  staticTypes := #[(.object "jdk/internal/misc/Unsafe"), .boolean, .int, .int, .int, .int, .int, .int, .int, .int, .int, .int, .int, .int, .int, .int, .int, .int, .int, (.object "jdk/internal/access/JavaLangAccess"), .int]
  resolved := Array.replicate 378 none
  statics := none }

def pool16 : Array CpInfo := pool [(1, u "java/lang/Cloneable"), (0, .class_ 1), (0, u "java/lang/Object"), (0, .class_ 3)] 3

/-- java/lang/Cloneable -/
def k16 : Class := { plain "java/lang/Cloneable" (some 0) with
  accessFlags := 1537
  interfaces := #[]
  cf := some (fileOf pool16 2 #[] #[] 1537 4 #[] #[])
  fields := #[]
  methods := #[]
  instanceTypes := #[]
  staticTypes := #[]
  resolved := Array.replicate 8 none
  statics := none }

/-- the primitive byte -/
def k17 : Class := { plain "byte" none with kind := .primitive 'B', accessFlags := 0x411 }
/-- [B -/
def k18 : Class := { plain "[B" (some 0) with kind := .array 17 .byte, interfaces := #[16, 2], accessFlags := 1041 }

/-- the primitive char -/
def k19 : Class := { plain "char" none with kind := .primitive 'C', accessFlags := 0x411 }
/-- [C -/
def k20 : Class := { plain "[C" (some 0) with kind := .array 19 .char, interfaces := #[16, 2], accessFlags := 1041 }

/-- the primitive int -/
def k21 : Class := { plain "int" none with kind := .primitive 'I', accessFlags := 0x411 }
/-- [I -/
def k22 : Class := { plain "[I" (some 0) with kind := .array 21 .int, interfaces := #[16, 2], accessFlags := 1041 }

def heap : Heap := #[{ cls := 7, slots := #[.long 0, .int 1, .null, .int 0, .null, .int 0, .int 0], vm := .statics 7 },
  { cls := 10, slots := #[.null, .null, .null], vm := .statics 10 }]
def classes : Array Class := #[k0, k1, k2, k3, k4, k5, k6, k7, k8, k9, k10, k11, k12, k13, k14, k15, k16, k17, k18, k19, k20, k21, k22]
def interned : List (Array UInt16 × Addr) := []
def slotsUsed : Nat := 10
def theMethod : MethodId := ⟨1, 1⟩
def args0 : Array Value := #[.long 5, .int 1, .int 2]
def aboutOver (below : List Frame) : State where
  vm := { classes := classes, interned := interned.toArray }
  heap := heap
  slotsUsed := slotsUsed
  threads := #[{ frames := .invoking theMethod args0 :: below }]
def below0 : List Frame := [.native { method := ⟨0, 0⟩, args := #[] }]
def about1 : State := aboutOver below0
def p0 : Program := .bare "" "" ""
def e0 : Env := launch0.env 0 0 0
theorem w_frames : about1.frames = Frame.invoking theMethod args0 :: below0 := rfl
set_option maxRecDepth 65536 in
theorem w_args : argsFit about1.vm theMethod args0 = true := by decide +kernel
set_option maxRecDepth 65536 in
theorem w_heap : heapFits about1 = true := by decide +kernel
set_option maxRecDepth 65536 in
theorem w_runnable : about1.curStatus? = some .runnable := by decide +kernel
set_option maxRecDepth 65536 in
theorem w_alone : about1.alone = true := by decide +kernel
set_option maxRecDepth 65536 in
theorem w_named : about1.methodNamed? x = some theMethod := by decide +kernel
set_option maxRecDepth 65536 in
theorem w_hears : about1.hears theMethod below0 = true := by decide +kernel
set_option maxRecDepth 65536 in
theorem w_ripe : about1.ripe theMethod args0 below0 = true := by decide +kernel
theorem w_running : about1.status = .running := rfl
set_option maxRecDepth 65536 in
theorem w_room : about1.hasRoom e0.platform room_1 = true :=
  launch0.hasRoom_least _ room_1 (by decide +kernel) (by decide +kernel) (by decide +kernel) (by decide +kernel) (by decide +kernel) (by decide +kernel)
theorem allAtoms_all (ts : List Jvm.Cond) (a : Array Jvm.Value) (st : Jvm.State) : (allAtoms ts).before a st = ts.all (fun c => c.before a st) := by
  induction ts with
  | nil => rfl
  | cons c t ih =>
    show (Jvm.Cond.and c (allAtoms t)).before a st = _
    rw [Jvm.Cond.before_and, ih, List.all_cons]
def words1 : List Jvm.Cond := Jvm.Cond.code x code maxLocals ret :: tables_1
/-- a 'code' word, met by the world's own term for the bytes: nothing is compared byte by byte -/
theorem code_word {y : MethodName} {bytes : ByteArray} {mx : Nat} {rt : Option FieldType} {a : Array Value} {s : State} {m : MethodId} {meth : Method} {c : Code} (h1 : s.methodNamed? y = some m) (h2 : s.vm.method? m = some meth) (h3 : meth.code = some c) (h4 : c.code = bytes)
    (h5 : (c.maxLocals == mx && c.exceptionTable.isEmpty && decide (c.maxStack ≤ mostOperands) && decide (meth.sig.returnType = rt) && !meth.locks && decide (parseMethodDescriptor y.desc = some meth.sig)) = true) : (Jvm.Cond.code y bytes mx rt).before a s = true := by
  simp only [Bool.and_eq_true, beq_iff_eq, Bool.not_eq_true', decide_eq_true_eq] at h5
  obtain ⟨⟨⟨⟨⟨g1, g2⟩, g3⟩, g4⟩, g5⟩, g6⟩ := h5
  simp [Cond.before, Cond.holds, Cond.value, h1, h2, h3, h4, g1, g2, g3, g4, g5, g6]
def isCode : Jvm.Cond → Bool
  | .code _ _ _ _ => true
  | _ => false
theorem all_split {L : List Jvm.Cond} {P : Jvm.Cond → Bool} (h1 : L.all (fun c => isCode c || P c) = true) (h2 : ∀ c ∈ L.filter isCode, P c = true) : L.all P = true := by
  refine List.all_eq_true.mpr fun c hc => ?_
  have h := List.all_eq_true.mp h1 c hc
  rcases Bool.eq_false_or_eq_true (isCode c) with hi | hi
  · exact h2 c (List.mem_filter.mpr ⟨hc, hi⟩)
  · simpa [hi] using h
set_option maxRecDepth 65536 in
theorem w_c0 : (Jvm.Cond.code x code maxLocals ret).before args0 about1 = true := code_word (m := ⟨1, 1⟩) (meth := k1m1) (c := k1c1) (by decide +kernel) rfl rfl rfl (by decide +kernel)
set_option maxRecDepth 65536 in
theorem w_c1 : (Jvm.Cond.code ({ cls := "java/lang/String", name := "<init>", desc := "([C)V" } : Jvm.MethodName) jdk_42_method_3_code (2 : Nat) (Option.none : Option Jvm.ClassFile.FieldType)).before args0 about1 = true := code_word (m := ⟨7, 1⟩) (meth := k7m1) (c := k7c1) (by decide +kernel) rfl rfl rfl (by decide +kernel)
set_option maxRecDepth 65536 in
theorem w_c2 : (Jvm.Cond.code ({ cls := "java/lang/String", name := "<init>", desc := "([CIILjava/lang/Void;)V" } : Jvm.MethodName) jdk_42_method_149_code (6 : Nat) (Option.none : Option Jvm.ClassFile.FieldType)).before args0 about1 = true := code_word (m := ⟨7, 5⟩) (meth := k7m5) (c := k7c5) (by decide +kernel) rfl rfl rfl (by decide +kernel)
set_option maxRecDepth 65536 in
theorem w_c3 : (Jvm.Cond.code ({ cls := "java/lang/Object", name := "<init>", desc := "()V" } : Jvm.MethodName) object_method_1_code (1 : Nat) (Option.none : Option Jvm.ClassFile.FieldType)).before args0 about1 = true := code_word (m := ⟨0, 0⟩) (meth := k0m0) (c := k0c0) (by decide +kernel) rfl rfl rfl (by decide +kernel)
set_option maxRecDepth 65536 in
theorem w_c4 : (Jvm.Cond.code ({ cls := "java/lang/StringUTF16", name := "compress", desc := "([CII)[B" } : Jvm.MethodName) jdk_52_method_16_code (6 : Nat) (Option.some (Jvm.ClassFile.FieldType.array Jvm.ClassFile.FieldType.byte))).before args0 about1 = true := code_word (m := ⟨8, 2⟩) (meth := k8m2) (c := k8c2) (by decide +kernel) rfl rfl rfl (by decide +kernel)
set_option maxRecDepth 65536 in
theorem w_c5 : (Jvm.Cond.code ({ cls := "java/lang/StringUTF16", name := "compress", desc := "([CI[BII)I" } : Jvm.MethodName) jdk_52_method_21_code (7 : Nat) (Option.some Jvm.ClassFile.FieldType.int)).before args0 about1 = true := code_word (m := ⟨8, 3⟩) (meth := k8m3) (c := k8c3) (by decide +kernel) rfl rfl rfl (by decide +kernel)
set_option maxRecDepth 65536 in
theorem w_c6 : (Jvm.Cond.code ({ cls := "java/lang/StringUTF16", name := "coderFromArrayLen", desc := "([BI)B" } : Jvm.MethodName) jdk_52_method_15_code (2 : Nat) (Option.some Jvm.ClassFile.FieldType.byte)).before args0 about1 = true := code_word (m := ⟨8, 1⟩) (meth := k8m1) (c := k8c1) (by decide +kernel) rfl rfl rfl (by decide +kernel)
set_option maxRecDepth 65536 in
theorem w_c7 : (Jvm.Cond.code ({ cls := "com/example/strict_uri/stricturi/UriReference", name := "<init>", desc := "(Ljava/lang/String;IIILcom/example/strict_uri/stricturi/HostKind;III)V" } : Jvm.MethodName) prog_7_method_1_code (9 : Nat) (Option.none : Option Jvm.ClassFile.FieldType)).before args0 about1 = true := code_word (m := ⟨9, 0⟩) (meth := k9m0) (c := k9c0) (by decide +kernel) rfl rfl rfl (by decide +kernel)
set_option maxRecDepth 65536 in
theorem w_c8 : (Jvm.Cond.code ({ cls := "com/example/strict_uri/stricturi/UriReference", name := "query", desc := "()Ljava/lang/String;" } : Jvm.MethodName) prog_7_method_14_code (1 : Nat) (Option.some (Jvm.ClassFile.FieldType.object "java/lang/String"))).before args0 about1 = true := code_word (m := ⟨9, 1⟩) (meth := k9m1) (c := k9c1) (by decide +kernel) rfl rfl rfl (by decide +kernel)
set_option maxRecDepth 65536 in
theorem w_c9 : (Jvm.Cond.code ({ cls := "java/lang/String", name := "substring", desc := "(II)Ljava/lang/String;" } : Jvm.MethodName) jdk_42_method_92_code (5 : Nat) (Option.some (Jvm.ClassFile.FieldType.object "java/lang/String"))).before args0 about1 = true := code_word (m := ⟨7, 4⟩) (meth := k7m4) (c := k7c4) (by decide +kernel) rfl rfl rfl (by decide +kernel)
set_option maxRecDepth 65536 in
theorem w_c10 : (Jvm.Cond.code ({ cls := "java/lang/String", name := "length", desc := "()I" } : Jvm.MethodName) jdk_42_method_54_code (1 : Nat) (Option.some Jvm.ClassFile.FieldType.int)).before args0 about1 = true := code_word (m := ⟨7, 2⟩) (meth := k7m2) (c := k7c2) (by decide +kernel) rfl rfl rfl (by decide +kernel)
set_option maxRecDepth 65536 in
theorem w_c11 : (Jvm.Cond.code ({ cls := "java/lang/String", name := "coder", desc := "()B" } : Jvm.MethodName) jdk_42_method_152_code (1 : Nat) (Option.some Jvm.ClassFile.FieldType.byte)).before args0 about1 = true := code_word (m := ⟨7, 7⟩) (meth := k7m7) (c := k7c7) (by decide +kernel) rfl rfl rfl (by decide +kernel)
set_option maxRecDepth 65536 in
theorem w_c12 : (Jvm.Cond.code ({ cls := "java/lang/String", name := "checkBoundsBeginEnd", desc := "(III)V" } : Jvm.MethodName) jdk_42_method_158_code (3 : Nat) (Option.none : Option Jvm.ClassFile.FieldType)).before args0 about1 = true := code_word (m := ⟨7, 10⟩) (meth := k7m10) (c := k7c10) (by decide +kernel) rfl rfl rfl (by decide +kernel)
set_option maxRecDepth 65536 in
theorem w_c13 : (Jvm.Cond.code ({ cls := "jdk/internal/util/Preconditions", name := "checkFromToIndex", desc := "(IIILjava/util/function/BiFunction;)I" } : Jvm.MethodName) jdk_41_method_12_code (4 : Nat) (Option.some Jvm.ClassFile.FieldType.int)).before args0 about1 = true := code_word (m := ⟨10, 2⟩) (meth := k10m2) (c := k10c2) (by decide +kernel) rfl rfl rfl (by decide +kernel)
set_option maxRecDepth 65536 in
theorem w_c14 : (Jvm.Cond.code ({ cls := "java/lang/String", name := "isLatin1", desc := "()Z" } : Jvm.MethodName) jdk_42_method_154_code (1 : Nat) (Option.some Jvm.ClassFile.FieldType.boolean)).before args0 about1 = true := code_word (m := ⟨7, 8⟩) (meth := k7m8) (c := k7c8) (by decide +kernel) rfl rfl rfl (by decide +kernel)
set_option maxRecDepth 65536 in
theorem w_c15 : (Jvm.Cond.code ({ cls := "java/lang/StringLatin1", name := "newString", desc := "([BII)Ljava/lang/String;" } : Jvm.MethodName) jdk_43_method_47_code (3 : Nat) (Option.some (Jvm.ClassFile.FieldType.object "java/lang/String"))).before args0 about1 = true := code_word (m := ⟨11, 2⟩) (meth := k11m2) (c := k11c2) (by decide +kernel) rfl rfl rfl (by decide +kernel)
set_option maxRecDepth 65536 in
theorem w_c16 : (Jvm.Cond.code ({ cls := "com/example/strict_uri/stricturi/UriReferenceQueryPinLaw", name := "same", desc := "(Ljava/lang/String;[CIII)Z" } : Jvm.MethodName) method_3_code (5 : Nat) (Option.some Jvm.ClassFile.FieldType.boolean)).before args0 about1 = true := code_word (m := ⟨1, 2⟩) (meth := k1m2) (c := k1c2) (by decide +kernel) rfl rfl rfl (by decide +kernel)
set_option maxRecDepth 65536 in
theorem w_c17 : (Jvm.Cond.code ({ cls := "java/util/Arrays", name := "copyOfRange", desc := "([BII)[B" } : Jvm.MethodName) jdk_65_method_132_code (3 : Nat) (Option.some (Jvm.ClassFile.FieldType.array Jvm.ClassFile.FieldType.byte))).before args0 about1 = true := code_word (m := ⟨12, 2⟩) (meth := k12m2) (c := k12c2) (by decide +kernel) rfl rfl rfl (by decide +kernel)
set_option maxRecDepth 65536 in
theorem w_c18 : (Jvm.Cond.code ({ cls := "java/util/Arrays", name := "copyOfRangeByte", desc := "([BII)[B" } : Jvm.MethodName) jdk_65_method_133_code (5 : Nat) (Option.some (Jvm.ClassFile.FieldType.array Jvm.ClassFile.FieldType.byte))).before args0 about1 = true := code_word (m := ⟨12, 3⟩) (meth := k12m3) (c := k12c3) (by decide +kernel) rfl rfl rfl (by decide +kernel)
set_option maxRecDepth 65536 in
theorem w_c19 : (Jvm.Cond.code ({ cls := "java/util/Arrays", name := "checkLength", desc := "(II)V" } : Jvm.MethodName) jdk_65_method_131_code (2 : Nat) (Option.none : Option Jvm.ClassFile.FieldType)).before args0 about1 = true := code_word (m := ⟨12, 1⟩) (meth := k12m1) (c := k12c1) (by decide +kernel) rfl rfl rfl (by decide +kernel)
set_option maxRecDepth 65536 in
theorem w_c20 : (Jvm.Cond.code ({ cls := "java/lang/Math", name := "min", desc := "(II)I" } : Jvm.MethodName) jdk_29_method_69_code (2 : Nat) (Option.some Jvm.ClassFile.FieldType.int)).before args0 about1 = true := code_word (m := ⟨13, 1⟩) (meth := k13m1) (c := k13c1) (by decide +kernel) rfl rfl rfl (by decide +kernel)
set_option maxRecDepth 65536 in
theorem w_c21 : (Jvm.Cond.code ({ cls := "java/lang/String", name := "<init>", desc := "([BB)V" } : Jvm.MethodName) jdk_42_method_151_code (3 : Nat) (Option.none : Option Jvm.ClassFile.FieldType)).before args0 about1 = true := code_word (m := ⟨7, 6⟩) (meth := k7m6) (c := k7c6) (by decide +kernel) rfl rfl rfl (by decide +kernel)
set_option maxRecDepth 65536 in
theorem w_c22 : (Jvm.Cond.code ({ cls := "java/lang/String", name := "charAt", desc := "(I)C" } : Jvm.MethodName) jdk_42_method_56_code (2 : Nat) (Option.some Jvm.ClassFile.FieldType.char)).before args0 about1 = true := code_word (m := ⟨7, 3⟩) (meth := k7m3) (c := k7c3) (by decide +kernel) rfl rfl rfl (by decide +kernel)
set_option maxRecDepth 65536 in
theorem w_c23 : (Jvm.Cond.code ({ cls := "java/lang/StringLatin1", name := "charAt", desc := "([BI)C" } : Jvm.MethodName) jdk_43_method_2_code (2 : Nat) (Option.some Jvm.ClassFile.FieldType.char)).before args0 about1 = true := code_word (m := ⟨11, 1⟩) (meth := k11m1) (c := k11c1) (by decide +kernel) rfl rfl rfl (by decide +kernel)
set_option maxRecDepth 65536 in
theorem w_c24 : (Jvm.Cond.code ({ cls := "java/lang/String", name := "checkIndex", desc := "(II)V" } : Jvm.MethodName) jdk_42_method_155_code (2 : Nat) (Option.none : Option Jvm.ClassFile.FieldType)).before args0 about1 = true := code_word (m := ⟨7, 9⟩) (meth := k7m9) (c := k7c9) (by decide +kernel) rfl rfl rfl (by decide +kernel)
set_option maxRecDepth 65536 in
theorem w_c25 : (Jvm.Cond.code ({ cls := "jdk/internal/util/Preconditions", name := "checkIndex", desc := "(IILjava/util/function/BiFunction;)I" } : Jvm.MethodName) jdk_41_method_11_code (3 : Nat) (Option.some Jvm.ClassFile.FieldType.int)).before args0 about1 = true := code_word (m := ⟨10, 1⟩) (meth := k10m1) (c := k10c1) (by decide +kernel) rfl rfl rfl (by decide +kernel)
def codes1 : List Jvm.Cond := [Jvm.Cond.code x code maxLocals ret, Jvm.Cond.code ({ cls := "java/lang/String", name := "<init>", desc := "([C)V" } : Jvm.MethodName) jdk_42_method_3_code (2 : Nat) (Option.none : Option Jvm.ClassFile.FieldType), Jvm.Cond.code ({ cls := "java/lang/String", name := "<init>", desc := "([CIILjava/lang/Void;)V" } : Jvm.MethodName) jdk_42_method_149_code (6 : Nat) (Option.none : Option Jvm.ClassFile.FieldType), Jvm.Cond.code ({ cls := "java/lang/Object", name := "<init>", desc := "()V" } : Jvm.MethodName) object_method_1_code (1 : Nat) (Option.none : Option Jvm.ClassFile.FieldType), Jvm.Cond.code ({ cls := "java/lang/StringUTF16", name := "compress", desc := "([CII)[B" } : Jvm.MethodName) jdk_52_method_16_code (6 : Nat) (Option.some (Jvm.ClassFile.FieldType.array Jvm.ClassFile.FieldType.byte)), Jvm.Cond.code ({ cls := "java/lang/StringUTF16", name := "compress", desc := "([CI[BII)I" } : Jvm.MethodName) jdk_52_method_21_code (7 : Nat) (Option.some Jvm.ClassFile.FieldType.int), Jvm.Cond.code ({ cls := "java/lang/StringUTF16", name := "coderFromArrayLen", desc := "([BI)B" } : Jvm.MethodName) jdk_52_method_15_code (2 : Nat) (Option.some Jvm.ClassFile.FieldType.byte), Jvm.Cond.code ({ cls := "com/example/strict_uri/stricturi/UriReference", name := "<init>", desc := "(Ljava/lang/String;IIILcom/example/strict_uri/stricturi/HostKind;III)V" } : Jvm.MethodName) prog_7_method_1_code (9 : Nat) (Option.none : Option Jvm.ClassFile.FieldType), Jvm.Cond.code ({ cls := "com/example/strict_uri/stricturi/UriReference", name := "query", desc := "()Ljava/lang/String;" } : Jvm.MethodName) prog_7_method_14_code (1 : Nat) (Option.some (Jvm.ClassFile.FieldType.object "java/lang/String")), Jvm.Cond.code ({ cls := "java/lang/String", name := "substring", desc := "(II)Ljava/lang/String;" } : Jvm.MethodName) jdk_42_method_92_code (5 : Nat) (Option.some (Jvm.ClassFile.FieldType.object "java/lang/String")), Jvm.Cond.code ({ cls := "java/lang/String", name := "length", desc := "()I" } : Jvm.MethodName) jdk_42_method_54_code (1 : Nat) (Option.some Jvm.ClassFile.FieldType.int), Jvm.Cond.code ({ cls := "java/lang/String", name := "coder", desc := "()B" } : Jvm.MethodName) jdk_42_method_152_code (1 : Nat) (Option.some Jvm.ClassFile.FieldType.byte), Jvm.Cond.code ({ cls := "java/lang/String", name := "checkBoundsBeginEnd", desc := "(III)V" } : Jvm.MethodName) jdk_42_method_158_code (3 : Nat) (Option.none : Option Jvm.ClassFile.FieldType), Jvm.Cond.code ({ cls := "jdk/internal/util/Preconditions", name := "checkFromToIndex", desc := "(IIILjava/util/function/BiFunction;)I" } : Jvm.MethodName) jdk_41_method_12_code (4 : Nat) (Option.some Jvm.ClassFile.FieldType.int), Jvm.Cond.code ({ cls := "java/lang/String", name := "isLatin1", desc := "()Z" } : Jvm.MethodName) jdk_42_method_154_code (1 : Nat) (Option.some Jvm.ClassFile.FieldType.boolean), Jvm.Cond.code ({ cls := "java/lang/StringLatin1", name := "newString", desc := "([BII)Ljava/lang/String;" } : Jvm.MethodName) jdk_43_method_47_code (3 : Nat) (Option.some (Jvm.ClassFile.FieldType.object "java/lang/String")), Jvm.Cond.code ({ cls := "com/example/strict_uri/stricturi/UriReferenceQueryPinLaw", name := "same", desc := "(Ljava/lang/String;[CIII)Z" } : Jvm.MethodName) method_3_code (5 : Nat) (Option.some Jvm.ClassFile.FieldType.boolean), Jvm.Cond.code ({ cls := "java/util/Arrays", name := "copyOfRange", desc := "([BII)[B" } : Jvm.MethodName) jdk_65_method_132_code (3 : Nat) (Option.some (Jvm.ClassFile.FieldType.array Jvm.ClassFile.FieldType.byte)), Jvm.Cond.code ({ cls := "java/util/Arrays", name := "copyOfRangeByte", desc := "([BII)[B" } : Jvm.MethodName) jdk_65_method_133_code (5 : Nat) (Option.some (Jvm.ClassFile.FieldType.array Jvm.ClassFile.FieldType.byte)), Jvm.Cond.code ({ cls := "java/util/Arrays", name := "checkLength", desc := "(II)V" } : Jvm.MethodName) jdk_65_method_131_code (2 : Nat) (Option.none : Option Jvm.ClassFile.FieldType), Jvm.Cond.code ({ cls := "java/lang/Math", name := "min", desc := "(II)I" } : Jvm.MethodName) jdk_29_method_69_code (2 : Nat) (Option.some Jvm.ClassFile.FieldType.int), Jvm.Cond.code ({ cls := "java/lang/String", name := "<init>", desc := "([BB)V" } : Jvm.MethodName) jdk_42_method_151_code (3 : Nat) (Option.none : Option Jvm.ClassFile.FieldType), Jvm.Cond.code ({ cls := "java/lang/String", name := "charAt", desc := "(I)C" } : Jvm.MethodName) jdk_42_method_56_code (2 : Nat) (Option.some Jvm.ClassFile.FieldType.char), Jvm.Cond.code ({ cls := "java/lang/StringLatin1", name := "charAt", desc := "([BI)C" } : Jvm.MethodName) jdk_43_method_2_code (2 : Nat) (Option.some Jvm.ClassFile.FieldType.char), Jvm.Cond.code ({ cls := "java/lang/String", name := "checkIndex", desc := "(II)V" } : Jvm.MethodName) jdk_42_method_155_code (2 : Nat) (Option.none : Option Jvm.ClassFile.FieldType), Jvm.Cond.code ({ cls := "jdk/internal/util/Preconditions", name := "checkIndex", desc := "(IILjava/util/function/BiFunction;)I" } : Jvm.MethodName) jdk_41_method_11_code (3 : Nat) (Option.some Jvm.ClassFile.FieldType.int)]
set_option maxRecDepth 65536 in
theorem codes_eq : words1.filter isCode = codes1 := rfl
theorem w_codes : ∀ c ∈ words1.filter isCode, c.before args0 about1 = true := by
  rw [codes_eq]
  intro c hc
  simp only [codes1, List.mem_cons, List.not_mem_nil, or_false] at hc
  rcases hc with rfl | rfl | rfl | rfl | rfl | rfl | rfl | rfl | rfl | rfl | rfl | rfl | rfl | rfl | rfl | rfl | rfl | rfl | rfl | rfl | rfl | rfl | rfl | rfl | rfl | rfl
  · exact w_c0
  · exact w_c1
  · exact w_c2
  · exact w_c3
  · exact w_c4
  · exact w_c5
  · exact w_c6
  · exact w_c7
  · exact w_c8
  · exact w_c9
  · exact w_c10
  · exact w_c11
  · exact w_c12
  · exact w_c13
  · exact w_c14
  · exact w_c15
  · exact w_c16
  · exact w_c17
  · exact w_c18
  · exact w_c19
  · exact w_c20
  · exact w_c21
  · exact w_c22
  · exact w_c23
  · exact w_c24
  · exact w_c25
set_option maxRecDepth 65536 in
theorem w_t1 : (words1.take 24).all (fun c => isCode c || c.before args0 about1) = true := by decide +kernel
set_option maxRecDepth 65536 in
theorem w_t2 : ((words1.drop 24).take 24).all (fun c => isCode c || c.before args0 about1) = true := by decide +kernel
set_option maxRecDepth 65536 in
theorem w_t3 : (((words1.drop 24).drop 24).take 24).all (fun c => isCode c || c.before args0 about1) = true := by decide +kernel
set_option maxRecDepth 65536 in
theorem w_t4 : ((((words1.drop 24).drop 24).drop 24).take 24).all (fun c => isCode c || c.before args0 about1) = true := by decide +kernel
set_option maxRecDepth 65536 in
theorem w_t5 : (((((words1.drop 24).drop 24).drop 24).drop 24).take 24).all (fun c => isCode c || c.before args0 about1) = true := by decide +kernel
set_option maxRecDepth 65536 in
theorem w_t6 : (((((words1.drop 24).drop 24).drop 24).drop 24).drop 24).all (fun c => isCode c || c.before args0 about1) = true := by decide +kernel
theorem w_tables : (allAtoms (Jvm.Cond.code x code maxLocals ret :: tables_1)).before args0 about1 = true := by
  rw [allAtoms_all]
  show words1.all (fun c => c.before args0 about1) = true
  refine all_split ?_ w_codes
  rw [← List.take_append_drop 24 words1, List.all_append, w_t1, ← List.take_append_drop 24 (words1.drop 24), List.all_append, w_t2, ← List.take_append_drop 24 ((words1.drop 24).drop 24), List.all_append, w_t3, ← List.take_append_drop 24 (((words1.drop 24).drop 24).drop 24), List.all_append, w_t4, ← List.take_append_drop 24 ((((words1.drop 24).drop 24).drop 24).drop 24), List.all_append, w_t5, w_t6]
  rfl
set_option maxRecDepth 65536 in
theorem w_rest : rest_1_c.before args0 about1 = true := by decide +kernel
set_option maxRecDepth 65536 in
theorem w_case : (Jvm.Cond.and given_1 narrow_1).before args0 about1 = true := by decide +kernel
set_option maxRecDepth 65536 in
theorem w_consts : constsHeld consts_1 about1 := Jvm.Lit.constsHeldB_iff.mp (by decide +kernel)
theorem w_applies : (headSpec (Jvm.Cond.code x code maxLocals ret :: tables_1) room_1).applies x e0.platform about1 = true :=
  (Spec.applies_iff w_frames).mpr ⟨w_running, w_runnable, w_alone, w_named, w_hears, w_ripe, w_room, w_tables⟩
theorem atStart : AtStart classFile x code maxLocals ret World_1 tables_1 room_1 Calls_1 rest_1 Pre_1 launch0 p0 e0 about1 theMethod args0 below0 :=
  ⟨lists_1, trivial, launch0.admits_env _ _ _, launch0.least_env, fairChoices_fair.cas, fairChoices_fair.clock, w_frames, w_args, w_heap, w_applies, ⟨w_consts, trivial⟩, w_rest, w_case⟩
end start1
theorem witness_1 : WitnessClaimed_1 := ⟨start1.p0, start1.e0, start1.about1, start1.theMethod, start1.args0, start1.below0, start1.atStart⟩
end Jvm.Pilot.@@N@@
