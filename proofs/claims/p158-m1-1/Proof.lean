import JvmDerived
import JvmDerived.Pilot.@@N@@Statement
import JvmDerived.Pilot.@@N@@Code
set_option linter.unusedVariables false
set_option linter.unusedSimpArgs false
namespace Jvm.Pilot.@@N@@
open Jvm Jvm.ClassFile Sem Op Lib Jvm.Free Jvm.Stand Jvm.LawKit Jvm.RoadKit Bundle Jvm.Pilot.@@N@@.Jvm.D
section Own
variable {p : Program} {l : Launch} {e : Env} {R : Room} {s : State} {m : MethodId} {args : Array Value} {below : List Frame} {meth : Method} {c : Code} {Z : State} {a0 : Array Value} {EL : List (String × Nat)} {n0 : Nat} {y : MethodName} {bytes : ByteArray} {maxL : Nat} {ret : Option FieldType} {b : State} {T : State} {h : Heap} {locs : List Loc} {cells slots : Nat} {P : Outcome → State → Prop} {pc pc' : Nat} {Ls : Array Slot} {st : List Value}
def Goes (tb : Tables) (e : Env) (below : List Frame) (P : Outcome → State → Prop) (A : State) : Prop := ∃ s₂ o, Steps tb e below A s₂ ∧ s₂.status = .running ∧ Ended s₂ below o ∧ P o s₂
theorem go {tb : Tables} {A B : State} (q : ∀ t, Steps tb e below B t → Steps tb e below A t) (k : Goes tb e below P B) : Goes tb e below P A := by
  obtain ⟨t, o, h, r⟩ := k
  exact ⟨t, o, q t h, r⟩
def Sfe (Z : State) (EL : List (String × Nat)) (vm : Vm) (h : Heap) (x : Addr) : Prop := True
theorem sfe_new {vm : Vm} {x : Addr} (q : h.size ≤ x) : Sfe Z EL vm h x := trivial
def Bs (Z : State) (a0 : Array Value) (EL : List (String × Nat)) (s b : State) (h : Heap) : Prop := b = s
def Wk (p : Program) (l : Launch) (e : Env) (R : Room) (s : State) (m : MethodId) (args : Array Value) (below : List Frame) (meth : Method) (c : Code) (Z : State) (a0 : Array Value) (EL : List (String × Nat)) (n0 : Nat) (y : MethodName) (bytes : ByteArray) (maxL : Nat) (ret : Option FieldType) (b : State) (T : State) (h : Heap) (locs : List Loc) (cells slots : Nat) : Prop := Stand p l e R b m args below meth c T locs cells slots ∧ T.heap = h ∧ Fr n0 locs ∧ p.tables.exec = Jvm.exec ∧ Z.Warmed39 b.vm ∧ b.vm.findClass y.cls = some m.cls ∧ c.code = bytes ∧ c.maxLocals = maxL ∧ meth.sig.returnType = ret ∧ meth.locks = false ∧ meth.name = y.name ∧ Old Z n0 h ∧ Bs Z a0 EL s b h
theorem Wk.X (K : Wk p l e R s m args below meth c Z a0 EL n0 y bytes maxL ret b T h locs cells slots) : Stand p l e R b m args below meth c T locs cells slots := K.1
theorem Wk.eT (K : Wk p l e R s m args below meth c Z a0 EL n0 y bytes maxL ret b T h locs cells slots) : T.heap = h := K.2.1
theorem Wk.fr (K : Wk p l e R s m args below meth c Z a0 EL n0 y bytes maxL ret b T h locs cells slots) : Fr n0 locs := K.2.2.1
theorem Wk.hx (K : Wk p l e R s m args below meth c Z a0 EL n0 y bytes maxL ret b T h locs cells slots) : p.tables.exec = Jvm.exec := K.2.2.2.1
theorem Wk.hZ (K : Wk p l e R s m args below meth c Z a0 EL n0 y bytes maxL ret b T h locs cells slots) : Z.Warmed39 b.vm := K.2.2.2.2.1
theorem Wk.hown (K : Wk p l e R s m args below meth c Z a0 EL n0 y bytes maxL ret b T h locs cells slots) : b.vm.findClass y.cls = some m.cls := K.2.2.2.2.2.1
theorem Wk.hby (K : Wk p l e R s m args below meth c Z a0 EL n0 y bytes maxL ret b T h locs cells slots) : c.code = bytes := K.2.2.2.2.2.2.1
theorem Wk.hml (K : Wk p l e R s m args below meth c Z a0 EL n0 y bytes maxL ret b T h locs cells slots) : c.maxLocals = maxL := K.2.2.2.2.2.2.2.1
theorem Wk.hret (K : Wk p l e R s m args below meth c Z a0 EL n0 y bytes maxL ret b T h locs cells slots) : meth.sig.returnType = ret := K.2.2.2.2.2.2.2.2.1
theorem Wk.hlk (K : Wk p l e R s m args below meth c Z a0 EL n0 y bytes maxL ret b T h locs cells slots) : meth.locks = false := K.2.2.2.2.2.2.2.2.2.1
theorem Wk.hnm (K : Wk p l e R s m args below meth c Z a0 EL n0 y bytes maxL ret b T h locs cells slots) : meth.name = y.name := K.2.2.2.2.2.2.2.2.2.2.1
theorem Wk.old (K : Wk p l e R s m args below meth c Z a0 EL n0 y bytes maxL ret b T h locs cells slots) : Old Z n0 h := K.2.2.2.2.2.2.2.2.2.2.2.1
theorem Wk.bs (K : Wk p l e R s m args below meth c Z a0 EL n0 y bytes maxL ret b T h locs cells slots) : Bs Z a0 EL s b h := K.2.2.2.2.2.2.2.2.2.2.2.2
theorem Wk.at (K : Wk p l e R s m args below meth c Z a0 EL n0 y bytes maxL ret b T h locs cells slots) : At T m c below := K.X.here
theorem Wk.move (K : Wk p l e R s m args below meth c Z a0 EL n0 y bytes maxL ret b T h locs cells slots) {T' : State} {h' : Heap} {locs' : List Loc} {cells' slots' : Nat} (X : Stand p l e R b m args below meth c T' locs' cells' slots') (eT : T'.heap = h') (hF : Fr n0 locs') (hO : Old Z n0 h') (hB : Bs Z a0 EL s b h') : Wk p l e R s m args below meth c Z a0 EL n0 y bytes maxL ret b T' h' locs' cells' slots' := ⟨X, eT, hF, K.hx, K.hZ, K.hown, K.hby, K.hml, K.hret, K.hlk, K.hnm, hO, hB⟩
theorem k_iload (K : Wk p l e R s m args below meth c Z a0 EL n0 y bytes maxL ret b T h locs cells slots) {i : Int32} {k : Nat} (hd : decode bytes pc = .ok (.iload k, 2)) (hp : pc + 2 = pc') (hl : Ls[k]? = some (.val (.int i))) (k : Goes p.tables e below P (T.setTop (mkF m pc' Ls (.int i :: st)))) : Goes p.tables e below P (T.setTop (mkF m pc Ls st)) := by
  subst hp
  exact go (fun t q => XS.iload K.at K.hx rfl (hb K.hby hd) hl q) k
theorem k_iloadN (K : Wk p l e R s m args below meth c Z a0 EL n0 y bytes maxL ret b T h locs cells slots) {i : Int32} {k : Fin 4} (hd : decode bytes pc = .ok (.iload_n k, 1)) (hp : pc + 1 = pc') (hl : Ls[k.val]? = some (.val (.int i))) (k : Goes p.tables e below P (T.setTop (mkF m pc' Ls (.int i :: st)))) : Goes p.tables e below P (T.setTop (mkF m pc Ls st)) := by
  subst hp
  exact go (fun t q => XS.iloadN K.at K.hx rfl (hb K.hby hd) hl q) k
theorem k_lload (K : Wk p l e R s m args below meth c Z a0 EL n0 y bytes maxL ret b T h locs cells slots) {i : Int64} {k : Nat} (hd : decode bytes pc = .ok (.lload k, 2)) (hp : pc + 2 = pc') (hl : Ls[k]? = some (.val (.long i))) (k : Goes p.tables e below P (T.setTop (mkF m pc' Ls (.long i :: st)))) : Goes p.tables e below P (T.setTop (mkF m pc Ls st)) := by
  subst hp
  exact go (fun t q => XT.lload K.at K.hx rfl (hb K.hby hd) hl q) k
theorem k_lloadN (K : Wk p l e R s m args below meth c Z a0 EL n0 y bytes maxL ret b T h locs cells slots) {i : Int64} {k : Fin 4} (hd : decode bytes pc = .ok (.lload_n k, 1)) (hp : pc + 1 = pc') (hl : Ls[k.val]? = some (.val (.long i))) (k : Goes p.tables e below P (T.setTop (mkF m pc' Ls (.long i :: st)))) : Goes p.tables e below P (T.setTop (mkF m pc Ls st)) := by
  subst hp
  exact go (fun t q => XT.lloadN K.at K.hx rfl (hb K.hby hd) hl q) k
theorem k_aload (K : Wk p l e R s m args below meth c Z a0 EL n0 y bytes maxL ret b T h locs cells slots) {v : Value} {k : Nat} (hd : decode bytes pc = .ok (.aload k, 2)) (hp : pc + 2 = pc') (hl : Ls[k]? = some (.val v)) (hv : v.isRef = true) (k : Goes p.tables e below P (T.setTop (mkF m pc' Ls (v :: st)))) : Goes p.tables e below P (T.setTop (mkF m pc Ls st)) := by
  subst hp
  exact go (fun t q => XS.aload K.at K.hx rfl (hb K.hby hd) hl hv q) k
theorem k_aloadN (K : Wk p l e R s m args below meth c Z a0 EL n0 y bytes maxL ret b T h locs cells slots) {v : Value} {k : Fin 4} (hd : decode bytes pc = .ok (.aload_n k, 1)) (hp : pc + 1 = pc') (hl : Ls[k.val]? = some (.val v)) (hv : v.isRef = true) (k : Goes p.tables e below P (T.setTop (mkF m pc' Ls (v :: st)))) : Goes p.tables e below P (T.setTop (mkF m pc Ls st)) := by
  subst hp
  exact go (fun t q => XS.aloadN K.at K.hx rfl (hb K.hby hd) hl hv q) k
theorem k_istore (K : Wk p l e R s m args below meth c Z a0 EL n0 y bytes maxL ret b T h locs cells slots) {i : Int32} {k : Nat} {L' : Array Slot} (hd : decode bytes pc = .ok (.istore k, 2)) (hp : pc + 2 = pc') (hl : storeLocals Ls k (.int i) = some L') (k : Goes p.tables e below P (T.setTop (mkF m pc' L' st))) : Goes p.tables e below P (T.setTop (mkF m pc Ls (.int i :: st))) := by
  subst hp
  exact go (fun t q => XS.istore K.at K.hx rfl (hb K.hby hd) rfl hl q) k
theorem k_istoreN (K : Wk p l e R s m args below meth c Z a0 EL n0 y bytes maxL ret b T h locs cells slots) {i : Int32} {k : Fin 4} {L' : Array Slot} (hd : decode bytes pc = .ok (.istore_n k, 1)) (hp : pc + 1 = pc') (hl : storeLocals Ls k.val (.int i) = some L') (k : Goes p.tables e below P (T.setTop (mkF m pc' L' st))) : Goes p.tables e below P (T.setTop (mkF m pc Ls (.int i :: st))) := by
  subst hp
  exact go (fun t q => XS.istoreN K.at K.hx rfl (hb K.hby hd) rfl hl q) k
theorem k_lstore (K : Wk p l e R s m args below meth c Z a0 EL n0 y bytes maxL ret b T h locs cells slots) {i : Int64} {k : Nat} {L' : Array Slot} (hd : decode bytes pc = .ok (.lstore k, 2)) (hp : pc + 2 = pc') (hl : storeLocals Ls k (.long i) = some L') (k : Goes p.tables e below P (T.setTop (mkF m pc' L' st))) : Goes p.tables e below P (T.setTop (mkF m pc Ls (.long i :: st))) := by
  subst hp
  exact go (fun t q => XT.lstore K.at K.hx rfl (hb K.hby hd) rfl hl q) k
theorem k_lstoreN (K : Wk p l e R s m args below meth c Z a0 EL n0 y bytes maxL ret b T h locs cells slots) {i : Int64} {k : Fin 4} {L' : Array Slot} (hd : decode bytes pc = .ok (.lstore_n k, 1)) (hp : pc + 1 = pc') (hl : storeLocals Ls k.val (.long i) = some L') (k : Goes p.tables e below P (T.setTop (mkF m pc' L' st))) : Goes p.tables e below P (T.setTop (mkF m pc Ls (.long i :: st))) := by
  subst hp
  exact go (fun t q => XT.lstoreN K.at K.hx rfl (hb K.hby hd) rfl hl q) k
theorem k_astore (K : Wk p l e R s m args below meth c Z a0 EL n0 y bytes maxL ret b T h locs cells slots) {v : Value} {k : Nat} {L' : Array Slot} (hd : decode bytes pc = .ok (.astore k, 2)) (hp : pc + 2 = pc') (hv : v.isRef = true) (hl : storeLocals Ls k v = some L') (k : Goes p.tables e below P (T.setTop (mkF m pc' L' st))) : Goes p.tables e below P (T.setTop (mkF m pc Ls (v :: st))) := by
  subst hp
  exact go (fun t q => XS.astore K.at K.hx rfl (hb K.hby hd) rfl hv hl q) k
theorem k_astoreN (K : Wk p l e R s m args below meth c Z a0 EL n0 y bytes maxL ret b T h locs cells slots) {v : Value} {k : Fin 4} {L' : Array Slot} (hd : decode bytes pc = .ok (.astore_n k, 1)) (hp : pc + 1 = pc') (hv : v.isRef = true) (hl : storeLocals Ls k.val v = some L') (k : Goes p.tables e below P (T.setTop (mkF m pc' L' st))) : Goes p.tables e below P (T.setTop (mkF m pc Ls (v :: st))) := by
  subst hp
  exact go (fun t q => XS.astoreN K.at K.hx rfl (hb K.hby hd) rfl hv hl q) k
theorem k_iconst (K : Wk p l e R s m args below meth c Z a0 EL n0 y bytes maxL ret b T h locs cells slots) {i : Int} (v : Int32) (hd : decode bytes pc = .ok (.iconst i, 1)) (hp : pc + 1 = pc') (hv : Int32.ofInt i = v) (k : Goes p.tables e below P (T.setTop (mkF m pc' Ls (.int v :: st)))) : Goes p.tables e below P (T.setTop (mkF m pc Ls st)) := by
  subst hp
  exact go (fun t q => XT.iconstV K.at K.hx rfl v (hb K.hby hd) hv q) k
theorem k_bipush (K : Wk p l e R s m args below meth c Z a0 EL n0 y bytes maxL ret b T h locs cells slots) {i : Int} (v : Int32) (hd : decode bytes pc = .ok (.bipush i, 2)) (hp : pc + 2 = pc') (hv : (Int8.ofInt i).toInt32 = v) (k : Goes p.tables e below P (T.setTop (mkF m pc' Ls (.int v :: st)))) : Goes p.tables e below P (T.setTop (mkF m pc Ls st)) := by
  subst hp
  exact go (fun t q => XT.bipushV K.at K.hx rfl v (hb K.hby hd) hv q) k
theorem k_sipush (K : Wk p l e R s m args below meth c Z a0 EL n0 y bytes maxL ret b T h locs cells slots) {i : Int} (v : Int32) (hd : decode bytes pc = .ok (.sipush i, 3)) (hp : pc + 3 = pc') (hv : (Int16.ofInt i).toInt32 = v) (k : Goes p.tables e below P (T.setTop (mkF m pc' Ls (.int v :: st)))) : Goes p.tables e below P (T.setTop (mkF m pc Ls st)) := by
  subst hp
  exact go (fun t q => XT.sipushV K.at K.hx rfl v (hb K.hby hd) hv q) k
theorem k_lconst (K : Wk p l e R s m args below meth c Z a0 EL n0 y bytes maxL ret b T h locs cells slots) {i : Fin 2} (v : Int64) (hd : decode bytes pc = .ok (.lconst i, 1)) (hp : pc + 1 = pc') (hv : Int64.ofNat i = v) (k : Goes p.tables e below P (T.setTop (mkF m pc' Ls (.long v :: st)))) : Goes p.tables e below P (T.setTop (mkF m pc Ls st)) := by
  subst hp
  exact go (fun t q => XT.lconstV K.at K.hx rfl v (hb K.hby hd) hv q) k
theorem k_aconst_null (K : Wk p l e R s m args below meth c Z a0 EL n0 y bytes maxL ret b T h locs cells slots)  (hd : decode bytes pc = .ok (.aconst_null, 1)) (hp : pc + 1 = pc') (k : Goes p.tables e below P (T.setTop (mkF m pc' Ls (.null :: st)))) : Goes p.tables e below P (T.setTop (mkF m pc Ls st)) := by
  subst hp
  exact go (fun t q => XS.aconstNull K.at K.hx rfl (hb K.hby hd) q) k
theorem k_ldcI (K : Wk p l e R s m args below meth c Z a0 EL n0 y bytes maxL ret b T h locs cells slots) {i : Nat} {v : Int32} (wd : (Cond.constant y.cls i v).before a0 Z = true) (hd : decode bytes pc = .ok (.ldc i, 2)) (hp : pc + 2 = pc') (k : Goes p.tables e below P (T.setTop (mkF m pc' Ls (.int v :: st)))) : Goes p.tables e below P (T.setTop (mkF m pc Ls st)) := by
  subst hp
  exact go (fun t q => Stand.ldcI K.X K.hx K.hown (mvT K.hZ wd) rfl (hb K.hby hd) q) k
theorem k_ldcWI (K : Wk p l e R s m args below meth c Z a0 EL n0 y bytes maxL ret b T h locs cells slots) {i : Nat} {v : Int32} (wd : (Cond.constant y.cls i v).before a0 Z = true) (hd : decode bytes pc = .ok (.ldc_w i, 3)) (hp : pc + 3 = pc') (k : Goes p.tables e below P (T.setTop (mkF m pc' Ls (.int v :: st)))) : Goes p.tables e below P (T.setTop (mkF m pc Ls st)) := by
  subst hp
  exact go (fun t q => Stand.ldcWI K.X K.hx K.hown (mvT K.hZ wd) rfl (hb K.hby hd) q) k
theorem k_ldcJ (K : Wk p l e R s m args below meth c Z a0 EL n0 y bytes maxL ret b T h locs cells slots) {i : Nat} {v : Int64} (wd : (Cond.constantLong y.cls i v).before a0 Z = true) (hd : decode bytes pc = .ok (.ldc2_w i, 3)) (hp : pc + 3 = pc') (k : Goes p.tables e below P (T.setTop (mkF m pc' Ls (.long v :: st)))) : Goes p.tables e below P (T.setTop (mkF m pc Ls st)) := by
  subst hp
  exact go (fun t q => Stand.ldc2J K.X K.hx K.hown (mvT K.hZ wd) rfl (hb K.hby hd) q) k
theorem k_iadd (K : Wk p l e R s m args below meth c Z a0 EL n0 y bytes maxL ret b T h locs cells slots) {i j : Int32} (hd : decode bytes pc = .ok (.iadd, 1)) (hp : pc + 1 = pc') (k : Goes p.tables e below P (T.setTop (mkF m pc' Ls (.int (i + j) :: st)))) : Goes p.tables e below P (T.setTop (mkF m pc Ls (.int j :: .int i :: st))) := by
  subst hp
  exact go (fun t q => XS.iadd K.at K.hx rfl (hb K.hby hd) rfl q) k
theorem k_isub (K : Wk p l e R s m args below meth c Z a0 EL n0 y bytes maxL ret b T h locs cells slots) {i j : Int32} (hd : decode bytes pc = .ok (.isub, 1)) (hp : pc + 1 = pc') (k : Goes p.tables e below P (T.setTop (mkF m pc' Ls (.int (i - j) :: st)))) : Goes p.tables e below P (T.setTop (mkF m pc Ls (.int j :: .int i :: st))) := by
  subst hp
  exact go (fun t q => XS.isub K.at K.hx rfl (hb K.hby hd) rfl q) k
theorem k_imul (K : Wk p l e R s m args below meth c Z a0 EL n0 y bytes maxL ret b T h locs cells slots) {i j : Int32} (hd : decode bytes pc = .ok (.imul, 1)) (hp : pc + 1 = pc') (k : Goes p.tables e below P (T.setTop (mkF m pc' Ls (.int (i * j) :: st)))) : Goes p.tables e below P (T.setTop (mkF m pc Ls (.int j :: .int i :: st))) := by
  subst hp
  exact go (fun t q => XS.imul K.at K.hx rfl (hb K.hby hd) rfl q) k
theorem k_iand (K : Wk p l e R s m args below meth c Z a0 EL n0 y bytes maxL ret b T h locs cells slots) {i j : Int32} (hd : decode bytes pc = .ok (.iand, 1)) (hp : pc + 1 = pc') (k : Goes p.tables e below P (T.setTop (mkF m pc' Ls (.int (i &&& j) :: st)))) : Goes p.tables e below P (T.setTop (mkF m pc Ls (.int j :: .int i :: st))) := by
  subst hp
  exact go (fun t q => XS.iand K.at K.hx rfl (hb K.hby hd) rfl q) k
theorem k_ior (K : Wk p l e R s m args below meth c Z a0 EL n0 y bytes maxL ret b T h locs cells slots) {i j : Int32} (hd : decode bytes pc = .ok (.ior, 1)) (hp : pc + 1 = pc') (k : Goes p.tables e below P (T.setTop (mkF m pc' Ls (.int (i ||| j) :: st)))) : Goes p.tables e below P (T.setTop (mkF m pc Ls (.int j :: .int i :: st))) := by
  subst hp
  exact go (fun t q => XT.ior K.at K.hx rfl (hb K.hby hd) rfl q) k
theorem k_ixor (K : Wk p l e R s m args below meth c Z a0 EL n0 y bytes maxL ret b T h locs cells slots) {i j : Int32} (hd : decode bytes pc = .ok (.ixor, 1)) (hp : pc + 1 = pc') (k : Goes p.tables e below P (T.setTop (mkF m pc' Ls (.int (i ^^^ j) :: st)))) : Goes p.tables e below P (T.setTop (mkF m pc Ls (.int j :: .int i :: st))) := by
  subst hp
  exact go (fun t q => XT.ixor K.at K.hx rfl (hb K.hby hd) rfl q) k
theorem k_ishl (K : Wk p l e R s m args below meth c Z a0 EL n0 y bytes maxL ret b T h locs cells slots) {i j : Int32} (hd : decode bytes pc = .ok (.ishl, 1)) (hp : pc + 1 = pc') (k : Goes p.tables e below P (T.setTop (mkF m pc' Ls (.int (i <<< (j &&& 31)) :: st)))) : Goes p.tables e below P (T.setTop (mkF m pc Ls (.int j :: .int i :: st))) := by
  subst hp
  exact go (fun t q => XT.ishl K.at K.hx rfl (hb K.hby hd) rfl q) k
theorem k_ishr (K : Wk p l e R s m args below meth c Z a0 EL n0 y bytes maxL ret b T h locs cells slots) {i j : Int32} (hd : decode bytes pc = .ok (.ishr, 1)) (hp : pc + 1 = pc') (k : Goes p.tables e below P (T.setTop (mkF m pc' Ls (.int (i >>> (j &&& 31)) :: st)))) : Goes p.tables e below P (T.setTop (mkF m pc Ls (.int j :: .int i :: st))) := by
  subst hp
  exact go (fun t q => XT.ishr K.at K.hx rfl (hb K.hby hd) rfl q) k
theorem k_iushr (K : Wk p l e R s m args below meth c Z a0 EL n0 y bytes maxL ret b T h locs cells slots) {i j : Int32} (hd : decode bytes pc = .ok (.iushr, 1)) (hp : pc + 1 = pc') (k : Goes p.tables e below P (T.setTop (mkF m pc' Ls (.int (XT.ushr i j) :: st)))) : Goes p.tables e below P (T.setTop (mkF m pc Ls (.int j :: .int i :: st))) := by
  subst hp
  exact go (fun t q => XT.iushr K.at K.hx rfl (hb K.hby hd) rfl q) k
theorem k_ladd (K : Wk p l e R s m args below meth c Z a0 EL n0 y bytes maxL ret b T h locs cells slots) {i j : Int64} (hd : decode bytes pc = .ok (.ladd, 1)) (hp : pc + 1 = pc') (k : Goes p.tables e below P (T.setTop (mkF m pc' Ls (.long (i + j) :: st)))) : Goes p.tables e below P (T.setTop (mkF m pc Ls (.long j :: .long i :: st))) := by
  subst hp
  exact go (fun t q => XT.ladd K.at K.hx rfl (hb K.hby hd) rfl q) k
theorem k_lsub (K : Wk p l e R s m args below meth c Z a0 EL n0 y bytes maxL ret b T h locs cells slots) {i j : Int64} (hd : decode bytes pc = .ok (.lsub, 1)) (hp : pc + 1 = pc') (k : Goes p.tables e below P (T.setTop (mkF m pc' Ls (.long (i - j) :: st)))) : Goes p.tables e below P (T.setTop (mkF m pc Ls (.long j :: .long i :: st))) := by
  subst hp
  exact go (fun t q => XT.lsub K.at K.hx rfl (hb K.hby hd) rfl q) k
theorem k_lmul (K : Wk p l e R s m args below meth c Z a0 EL n0 y bytes maxL ret b T h locs cells slots) {i j : Int64} (hd : decode bytes pc = .ok (.lmul, 1)) (hp : pc + 1 = pc') (k : Goes p.tables e below P (T.setTop (mkF m pc' Ls (.long (i * j) :: st)))) : Goes p.tables e below P (T.setTop (mkF m pc Ls (.long j :: .long i :: st))) := by
  subst hp
  exact go (fun t q => XT.lmul K.at K.hx rfl (hb K.hby hd) rfl q) k
theorem k_land (K : Wk p l e R s m args below meth c Z a0 EL n0 y bytes maxL ret b T h locs cells slots) {i j : Int64} (hd : decode bytes pc = .ok (.land, 1)) (hp : pc + 1 = pc') (k : Goes p.tables e below P (T.setTop (mkF m pc' Ls (.long (i &&& j) :: st)))) : Goes p.tables e below P (T.setTop (mkF m pc Ls (.long j :: .long i :: st))) := by
  subst hp
  exact go (fun t q => XT.land K.at K.hx rfl (hb K.hby hd) rfl q) k
theorem k_lor (K : Wk p l e R s m args below meth c Z a0 EL n0 y bytes maxL ret b T h locs cells slots) {i j : Int64} (hd : decode bytes pc = .ok (.lor, 1)) (hp : pc + 1 = pc') (k : Goes p.tables e below P (T.setTop (mkF m pc' Ls (.long (i ||| j) :: st)))) : Goes p.tables e below P (T.setTop (mkF m pc Ls (.long j :: .long i :: st))) := by
  subst hp
  exact go (fun t q => XT.lor K.at K.hx rfl (hb K.hby hd) rfl q) k
theorem k_lxor (K : Wk p l e R s m args below meth c Z a0 EL n0 y bytes maxL ret b T h locs cells slots) {i j : Int64} (hd : decode bytes pc = .ok (.lxor, 1)) (hp : pc + 1 = pc') (k : Goes p.tables e below P (T.setTop (mkF m pc' Ls (.long (i ^^^ j) :: st)))) : Goes p.tables e below P (T.setTop (mkF m pc Ls (.long j :: .long i :: st))) := by
  subst hp
  exact go (fun t q => XT.lxor K.at K.hx rfl (hb K.hby hd) rfl q) k
theorem k_lshl (K : Wk p l e R s m args below meth c Z a0 EL n0 y bytes maxL ret b T h locs cells slots) {i : Int64} {j : Int32} (hd : decode bytes pc = .ok (.lshl, 1)) (hp : pc + 1 = pc') (k : Goes p.tables e below P (T.setTop (mkF m pc' Ls (.long (i <<< (j.toInt64 &&& 63)) :: st)))) : Goes p.tables e below P (T.setTop (mkF m pc Ls (.int j :: .long i :: st))) := by
  subst hp
  exact go (fun t q => XT.lshl K.at K.hx rfl (hb K.hby hd) rfl q) k
theorem k_lshr (K : Wk p l e R s m args below meth c Z a0 EL n0 y bytes maxL ret b T h locs cells slots) {i : Int64} {j : Int32} (hd : decode bytes pc = .ok (.lshr, 1)) (hp : pc + 1 = pc') (k : Goes p.tables e below P (T.setTop (mkF m pc' Ls (.long (i >>> (j.toInt64 &&& 63)) :: st)))) : Goes p.tables e below P (T.setTop (mkF m pc Ls (.int j :: .long i :: st))) := by
  subst hp
  exact go (fun t q => XT.lshr K.at K.hx rfl (hb K.hby hd) rfl q) k
theorem k_lushr (K : Wk p l e R s m args below meth c Z a0 EL n0 y bytes maxL ret b T h locs cells slots) {i : Int64} {j : Int32} (hd : decode bytes pc = .ok (.lushr, 1)) (hp : pc + 1 = pc') (k : Goes p.tables e below P (T.setTop (mkF m pc' Ls (.long (XT.ushrL i j) :: st)))) : Goes p.tables e below P (T.setTop (mkF m pc Ls (.int j :: .long i :: st))) := by
  subst hp
  exact go (fun t q => XT.lushr K.at K.hx rfl (hb K.hby hd) rfl q) k
theorem k_idiv (K : Wk p l e R s m args below meth c Z a0 EL n0 y bytes maxL ret b T h locs cells slots) {i j : Int32} (hd : decode bytes pc = .ok (.idiv, 1)) (hp : pc + 1 = pc') (hj : j ≠ 0) (k : Goes p.tables e below P (T.setTop (mkF m pc' Ls (.int (i / j) :: st)))) : Goes p.tables e below P (T.setTop (mkF m pc Ls (.int j :: .int i :: st))) := by
  subst hp
  exact go (fun t q => XS.idiv K.at K.hx rfl (hb K.hby hd) rfl hj q) k
theorem k_irem (K : Wk p l e R s m args below meth c Z a0 EL n0 y bytes maxL ret b T h locs cells slots) {i j : Int32} (hd : decode bytes pc = .ok (.irem, 1)) (hp : pc + 1 = pc') (hj : j ≠ 0) (k : Goes p.tables e below P (T.setTop (mkF m pc' Ls (.int (i % j) :: st)))) : Goes p.tables e below P (T.setTop (mkF m pc Ls (.int j :: .int i :: st))) := by
  subst hp
  exact go (fun t q => Jvm.RoadKit.iremM K.X K.hx rfl (hb K.hby hd) rfl hj q) k
theorem k_ldiv (K : Wk p l e R s m args below meth c Z a0 EL n0 y bytes maxL ret b T h locs cells slots) {i j : Int64} (hd : decode bytes pc = .ok (.ldiv, 1)) (hp : pc + 1 = pc') (hj : j ≠ 0) (k : Goes p.tables e below P (T.setTop (mkF m pc' Ls (.long (i / j) :: st)))) : Goes p.tables e below P (T.setTop (mkF m pc Ls (.long j :: .long i :: st))) := by
  subst hp
  exact go (fun t q => XT.ldiv K.at K.hx rfl (hb K.hby hd) rfl hj q) k
theorem k_lrem (K : Wk p l e R s m args below meth c Z a0 EL n0 y bytes maxL ret b T h locs cells slots) {i j : Int64} (hd : decode bytes pc = .ok (.lrem, 1)) (hp : pc + 1 = pc') (hj : j ≠ 0) (k : Goes p.tables e below P (T.setTop (mkF m pc' Ls (.long (i - (i / j) * j) :: st)))) : Goes p.tables e below P (T.setTop (mkF m pc Ls (.long j :: .long i :: st))) := by
  subst hp
  exact go (fun t q => XT.lrem K.at K.hx rfl (hb K.hby hd) rfl hj q) k
theorem k_lcmp (K : Wk p l e R s m args below meth c Z a0 EL n0 y bytes maxL ret b T h locs cells slots) {i j : Int64} (hd : decode bytes pc = .ok (.lcmp, 1)) (hp : pc + 1 = pc') (k : Goes p.tables e below P (T.setTop (mkF m pc' Ls (.int (XT.cmpL i j) :: st)))) : Goes p.tables e below P (T.setTop (mkF m pc Ls (.long j :: .long i :: st))) := by
  subst hp
  exact go (fun t q => XT.lcmp K.at K.hx rfl (hb K.hby hd) rfl q) k
theorem k_ineg (K : Wk p l e R s m args below meth c Z a0 EL n0 y bytes maxL ret b T h locs cells slots) {i : Int32} (hd : decode bytes pc = .ok (.ineg, 1)) (hp : pc + 1 = pc') (k : Goes p.tables e below P (T.setTop (mkF m pc' Ls (.int (-i) :: st)))) : Goes p.tables e below P (T.setTop (mkF m pc Ls (.int i :: st))) := by
  subst hp
  exact go (fun t q => XS.ineg K.at K.hx rfl (hb K.hby hd) rfl q) k
theorem k_lneg (K : Wk p l e R s m args below meth c Z a0 EL n0 y bytes maxL ret b T h locs cells slots) {i : Int64} (hd : decode bytes pc = .ok (.lneg, 1)) (hp : pc + 1 = pc') (k : Goes p.tables e below P (T.setTop (mkF m pc' Ls (.long (-i) :: st)))) : Goes p.tables e below P (T.setTop (mkF m pc Ls (.long i :: st))) := by
  subst hp
  exact go (fun t q => XT.lneg K.at K.hx rfl (hb K.hby hd) rfl q) k
theorem k_i2l (K : Wk p l e R s m args below meth c Z a0 EL n0 y bytes maxL ret b T h locs cells slots) {i : Int32} (hd : decode bytes pc = .ok (.i2l, 1)) (hp : pc + 1 = pc') (k : Goes p.tables e below P (T.setTop (mkF m pc' Ls (.long i.toInt64 :: st)))) : Goes p.tables e below P (T.setTop (mkF m pc Ls (.int i :: st))) := by
  subst hp
  exact go (fun t q => XT.i2l K.at K.hx rfl (hb K.hby hd) rfl q) k
theorem k_l2i (K : Wk p l e R s m args below meth c Z a0 EL n0 y bytes maxL ret b T h locs cells slots) {i : Int64} (hd : decode bytes pc = .ok (.l2i, 1)) (hp : pc + 1 = pc') (k : Goes p.tables e below P (T.setTop (mkF m pc' Ls (.int i.toInt32 :: st)))) : Goes p.tables e below P (T.setTop (mkF m pc Ls (.long i :: st))) := by
  subst hp
  exact go (fun t q => XT.l2i K.at K.hx rfl (hb K.hby hd) rfl q) k
theorem k_i2b (K : Wk p l e R s m args below meth c Z a0 EL n0 y bytes maxL ret b T h locs cells slots) {i : Int32} (hd : decode bytes pc = .ok (.i2b, 1)) (hp : pc + 1 = pc') (k : Goes p.tables e below P (T.setTop (mkF m pc' Ls (.int i.toInt8.toInt32 :: st)))) : Goes p.tables e below P (T.setTop (mkF m pc Ls (.int i :: st))) := by
  subst hp
  exact go (fun t q => XT.i2b K.at K.hx rfl (hb K.hby hd) rfl q) k
theorem k_i2c (K : Wk p l e R s m args below meth c Z a0 EL n0 y bytes maxL ret b T h locs cells slots) {i : Int32} (hd : decode bytes pc = .ok (.i2c, 1)) (hp : pc + 1 = pc') (k : Goes p.tables e below P (T.setTop (mkF m pc' Ls (.int i.toUInt32.toUInt16.toUInt32.toInt32 :: st)))) : Goes p.tables e below P (T.setTop (mkF m pc Ls (.int i :: st))) := by
  subst hp
  exact go (fun t q => XT.i2c K.at K.hx rfl (hb K.hby hd) rfl q) k
theorem k_i2s (K : Wk p l e R s m args below meth c Z a0 EL n0 y bytes maxL ret b T h locs cells slots) {i : Int32} (hd : decode bytes pc = .ok (.i2s, 1)) (hp : pc + 1 = pc') (k : Goes p.tables e below P (T.setTop (mkF m pc' Ls (.int i.toInt16.toInt32 :: st)))) : Goes p.tables e below P (T.setTop (mkF m pc Ls (.int i :: st))) := by
  subst hp
  exact go (fun t q => XT.i2s K.at K.hx rfl (hb K.hby hd) rfl q) k
theorem k_iinc (K : Wk p l e R s m args below meth c Z a0 EL n0 y bytes maxL ret b T h locs cells slots) {i : Int32} {k : Nat} {ct : Int} {L' : Array Slot} (v : Int32) (hd : decode bytes pc = .ok (.iinc k ct, 3)) (hp : pc + 3 = pc') (hv : Int32.ofInt ct = v) (hl : Ls[k]? = some (.val (.int i))) (hl' : storeLocals Ls k (.int (i + v)) = some L') (k : Goes p.tables e below P (T.setTop (mkF m pc' L' st))) : Goes p.tables e below P (T.setTop (mkF m pc Ls st)) := by
  subst hp
  exact go (fun t q => XT.iincV K.at K.hx rfl v (hb K.hby hd) hv hl hl' q) k
theorem k_dup (K : Wk p l e R s m args below meth c Z a0 EL n0 y bytes maxL ret b T h locs cells slots) {v : Value} (hd : decode bytes pc = .ok (.dup, 1)) (hp : pc + 1 = pc') (hc : v.category = 1) (k : Goes p.tables e below P (T.setTop (mkF m pc' Ls (v :: v :: st)))) : Goes p.tables e below P (T.setTop (mkF m pc Ls (v :: st))) := by
  subst hp
  exact go (fun t q => XS.dup K.at K.hx rfl (hb K.hby hd) rfl hc q) k
theorem k_pop (K : Wk p l e R s m args below meth c Z a0 EL n0 y bytes maxL ret b T h locs cells slots) {v : Value} (hd : decode bytes pc = .ok (.pop, 1)) (hp : pc + 1 = pc') (hc : v.category = 1) (k : Goes p.tables e below P (T.setTop (mkF m pc' Ls st))) : Goes p.tables e below P (T.setTop (mkF m pc Ls (v :: st))) := by
  subst hp
  exact go (fun t q => XT.pop K.at K.hx rfl (hb K.hby hd) rfl hc q) k
theorem k_dup_x1 (K : Wk p l e R s m args below meth c Z a0 EL n0 y bytes maxL ret b T h locs cells slots) {v u : Value} (hd : decode bytes pc = .ok (.dup_x1, 1)) (hp : pc + 1 = pc') (hc : v.category = 1) (hc' : u.category = 1) (k : Goes p.tables e below P (T.setTop (mkF m pc' Ls (v :: u :: v :: st)))) : Goes p.tables e below P (T.setTop (mkF m pc Ls (v :: u :: st))) := by
  subst hp
  exact go (fun t q => XT.dupX1 K.at K.hx rfl (hb K.hby hd) rfl hc hc' q) k
theorem k_dup2J (K : Wk p l e R s m args below meth c Z a0 EL n0 y bytes maxL ret b T h locs cells slots) {i : Int64} (hd : decode bytes pc = .ok (.dup2, 1)) (hp : pc + 1 = pc') (k : Goes p.tables e below P (T.setTop (mkF m pc' Ls (.long i :: .long i :: st)))) : Goes p.tables e below P (T.setTop (mkF m pc Ls (.long i :: st))) := by
  subst hp
  refine go (fun t q => ?_) k
  have hd' := (hb K.hby hd)
  have hA := K.at
  have hx := K.hx
  jvm_step hA [hA.top, hx, hd', Value.category]
  exact q
theorem k_dup2II (K : Wk p l e R s m args below meth c Z a0 EL n0 y bytes maxL ret b T h locs cells slots) {i j : Int32} (hd : decode bytes pc = .ok (.dup2, 1)) (hp : pc + 1 = pc') (k : Goes p.tables e below P (T.setTop (mkF m pc' Ls (.int j :: .int i :: .int j :: .int i :: st)))) : Goes p.tables e below P (T.setTop (mkF m pc Ls (.int j :: .int i :: st))) := by
  subst hp
  refine go (fun t q => ?_) k
  have hd' := (hb K.hby hd)
  have hA := K.at
  have hx := K.hx
  jvm_step hA [hA.top, hx, hd', Value.category]
  exact q
theorem k_dup2AI (K : Wk p l e R s m args below meth c Z a0 EL n0 y bytes maxL ret b T h locs cells slots) {a : Addr} {j : Int32} (hd : decode bytes pc = .ok (.dup2, 1)) (hp : pc + 1 = pc') (k : Goes p.tables e below P (T.setTop (mkF m pc' Ls (.int j :: .ref a :: .int j :: .ref a :: st)))) : Goes p.tables e below P (T.setTop (mkF m pc Ls (.int j :: .ref a :: st))) := by
  subst hp
  refine go (fun t q => ?_) k
  have hd' := (hb K.hby hd)
  have hA := K.at
  have hx := K.hx
  jvm_step hA [hA.top, hx, hd', Value.category]
  exact q
theorem k_pop2J (K : Wk p l e R s m args below meth c Z a0 EL n0 y bytes maxL ret b T h locs cells slots) {i : Int64} (hd : decode bytes pc = .ok (.pop2, 1)) (hp : pc + 1 = pc') (k : Goes p.tables e below P (T.setTop (mkF m pc' Ls st))) : Goes p.tables e below P (T.setTop (mkF m pc Ls (.long i :: st))) := by
  subst hp
  refine go (fun t q => ?_) k
  have hd' := (hb K.hby hd)
  have hA := K.at
  have hx := K.hx
  jvm_step hA [hA.top, hx, hd', Value.category]
  exact q
theorem k_dup_x2AI (K : Wk p l e R s m args below meth c Z a0 EL n0 y bytes maxL ret b T h locs cells slots) {a : Addr} {i j : Int32} (hd : decode bytes pc = .ok (.dup_x2, 1)) (hp : pc + 1 = pc') (k : Goes p.tables e below P (T.setTop (mkF m pc' Ls (.int i :: .int j :: .ref a :: .int i :: st)))) : Goes p.tables e below P (T.setTop (mkF m pc Ls (.int i :: .int j :: .ref a :: st))) := by
  subst hp
  refine go (fun t q => ?_) k
  have hd' := (hb K.hby hd)
  have hA := K.at
  have hx := K.hx
  jvm_step hA [hA.top, hx, hd', Value.category]
  exact q
theorem k_dup2_x1JA (K : Wk p l e R s m args below meth c Z a0 EL n0 y bytes maxL ret b T h locs cells slots) {i : Int64} {a : Addr} (hd : decode bytes pc = .ok (.dup2_x1, 1)) (hp : pc + 1 = pc') (k : Goes p.tables e below P (T.setTop (mkF m pc' Ls (.long i :: .ref a :: .long i :: st)))) : Goes p.tables e below P (T.setTop (mkF m pc Ls (.long i :: .ref a :: st))) := by
  subst hp
  refine go (fun t q => ?_) k
  have hd' := (hb K.hby hd)
  have hA := K.at
  have hx := K.hx
  jvm_step hA [hA.top, hx, hd', Value.category]
  exact q
theorem k_dup2_x2JAI (K : Wk p l e R s m args below meth c Z a0 EL n0 y bytes maxL ret b T h locs cells slots) {i : Int64} {a : Addr} {j : Int32} (hd : decode bytes pc = .ok (.dup2_x2, 1)) (hp : pc + 1 = pc') (k : Goes p.tables e below P (T.setTop (mkF m pc' Ls (.long i :: .int j :: .ref a :: .long i :: st)))) : Goes p.tables e below P (T.setTop (mkF m pc Ls (.long i :: .int j :: .ref a :: st))) := by
  subst hp
  refine go (fun t q => ?_) k
  have hd' := (hb K.hby hd)
  have hA := K.at
  have hx := K.hx
  jvm_step hA [hA.top, hx, hd', Value.category]
  exact q
theorem k_goto (K : Wk p l e R s m args below meth c Z a0 EL n0 y bytes maxL ret b T h locs cells slots) {o : Int} (hd : decode bytes pc = .ok (.goto o, 3)) (ho : 0 ≤ (pc : Int) + o) (hp : ((pc : Int) + o).toNat = pc') (k : Goes p.tables e below P (T.setTop (mkF m pc' Ls st))) : Goes p.tables e below P (T.setTop (mkF m pc Ls st)) := go (fun t q => XS.goto K.at K.hx rfl rfl (hb K.hby hd) ho hp q) k
theorem k_icmp_eq (K : Wk p l e R s m args below meth c Z a0 EL n0 y bytes maxL ret b T h locs cells slots) {i j : Int32} {o : Int} {pc2 : Nat} (hd : decode bytes pc = .ok (.if_icmp .eq o, 3)) (ho : 0 ≤ (pc : Int) + o) (hp : ((pc : Int) + o).toNat = pc') (hp2 : pc + 3 = pc2) (kT : i = j → Goes p.tables e below P (T.setTop (mkF m pc' Ls st))) (kF : ¬ i = j → Goes p.tables e below P (T.setTop (mkF m pc2 Ls st))) : Goes p.tables e below P (T.setTop (mkF m pc Ls (.int j :: .int i :: st))) := by
  subst hp2
  by_cases q : i = j
  · exact go (fun t r => XS.icmpYes K.at K.hx rfl rfl (hb K.hby hd) rfl (XT.ii_eq_t q) ho hp r) (kT q)
  · exact go (fun t r => XS.icmpNo K.at K.hx rfl (hb K.hby hd) rfl (XT.ii_eq_f q) r) (kF q)
theorem k_if_eq (K : Wk p l e R s m args below meth c Z a0 EL n0 y bytes maxL ret b T h locs cells slots) {i : Int32} {o : Int} {pc2 : Nat} (hd : decode bytes pc = .ok (.ifCond .eq o, 3)) (ho : 0 ≤ (pc : Int) + o) (hp : ((pc : Int) + o).toNat = pc') (hp2 : pc + 3 = pc2) (kT : i = 0 → Goes p.tables e below P (T.setTop (mkF m pc' Ls st))) (kF : ¬ i = 0 → Goes p.tables e below P (T.setTop (mkF m pc2 Ls st))) : Goes p.tables e below P (T.setTop (mkF m pc Ls (.int i :: st))) := by
  subst hp2
  by_cases q : i = 0
  · exact go (fun t r => XS.ifYes K.at K.hx rfl rfl (hb K.hby hd) rfl (XT.i0_eq_t q) ho hp r) (kT q)
  · exact go (fun t r => XS.ifNo K.at K.hx rfl (hb K.hby hd) rfl (XT.i0_eq_f q) r) (kF q)
theorem k_lif_eq (K : Wk p l e R s m args below meth c Z a0 EL n0 y bytes maxL ret b T h locs cells slots) {i j : Int64} {o : Int} {pc2 : Nat} (hd : decode bytes pc = .ok (.ifCond .eq o, 3)) (ho : 0 ≤ (pc : Int) + o) (hp : ((pc : Int) + o).toNat = pc') (hp2 : pc + 3 = pc2) (kT : i = j → Goes p.tables e below P (T.setTop (mkF m pc' Ls st))) (kF : ¬ i = j → Goes p.tables e below P (T.setTop (mkF m pc2 Ls st))) : Goes p.tables e below P (T.setTop (mkF m pc Ls (.int (XT.cmpL i j) :: st))) := by
  subst hp2
  by_cases q : i = j
  · exact go (fun t r => XS.ifYes K.at K.hx rfl rfl (hb K.hby hd) rfl (XT.ll_eq_t q) ho hp r) (kT q)
  · exact go (fun t r => XS.ifNo K.at K.hx rfl (hb K.hby hd) rfl (XT.ll_eq_f q) r) (kF q)
theorem k_icmp_ne (K : Wk p l e R s m args below meth c Z a0 EL n0 y bytes maxL ret b T h locs cells slots) {i j : Int32} {o : Int} {pc2 : Nat} (hd : decode bytes pc = .ok (.if_icmp .ne o, 3)) (ho : 0 ≤ (pc : Int) + o) (hp : ((pc : Int) + o).toNat = pc') (hp2 : pc + 3 = pc2) (kT : ¬ i = j → Goes p.tables e below P (T.setTop (mkF m pc' Ls st))) (kF : i = j → Goes p.tables e below P (T.setTop (mkF m pc2 Ls st))) : Goes p.tables e below P (T.setTop (mkF m pc Ls (.int j :: .int i :: st))) := by
  subst hp2
  by_cases q : ¬ i = j
  · exact go (fun t r => XS.icmpYes K.at K.hx rfl rfl (hb K.hby hd) rfl (XT.ii_ne_t q) ho hp r) (kT q)
  · exact go (fun t r => XS.icmpNo K.at K.hx rfl (hb K.hby hd) rfl (XT.ii_ne_f (Classical.not_not.mp q)) r) (kF (Classical.not_not.mp q))
theorem k_if_ne (K : Wk p l e R s m args below meth c Z a0 EL n0 y bytes maxL ret b T h locs cells slots) {i : Int32} {o : Int} {pc2 : Nat} (hd : decode bytes pc = .ok (.ifCond .ne o, 3)) (ho : 0 ≤ (pc : Int) + o) (hp : ((pc : Int) + o).toNat = pc') (hp2 : pc + 3 = pc2) (kT : ¬ i = 0 → Goes p.tables e below P (T.setTop (mkF m pc' Ls st))) (kF : i = 0 → Goes p.tables e below P (T.setTop (mkF m pc2 Ls st))) : Goes p.tables e below P (T.setTop (mkF m pc Ls (.int i :: st))) := by
  subst hp2
  by_cases q : ¬ i = 0
  · exact go (fun t r => XS.ifYes K.at K.hx rfl rfl (hb K.hby hd) rfl (XT.i0_ne_t q) ho hp r) (kT q)
  · exact go (fun t r => XS.ifNo K.at K.hx rfl (hb K.hby hd) rfl (XT.i0_ne_f (Classical.not_not.mp q)) r) (kF (Classical.not_not.mp q))
theorem k_lif_ne (K : Wk p l e R s m args below meth c Z a0 EL n0 y bytes maxL ret b T h locs cells slots) {i j : Int64} {o : Int} {pc2 : Nat} (hd : decode bytes pc = .ok (.ifCond .ne o, 3)) (ho : 0 ≤ (pc : Int) + o) (hp : ((pc : Int) + o).toNat = pc') (hp2 : pc + 3 = pc2) (kT : ¬ i = j → Goes p.tables e below P (T.setTop (mkF m pc' Ls st))) (kF : i = j → Goes p.tables e below P (T.setTop (mkF m pc2 Ls st))) : Goes p.tables e below P (T.setTop (mkF m pc Ls (.int (XT.cmpL i j) :: st))) := by
  subst hp2
  by_cases q : ¬ i = j
  · exact go (fun t r => XS.ifYes K.at K.hx rfl rfl (hb K.hby hd) rfl (XT.ll_ne_t q) ho hp r) (kT q)
  · exact go (fun t r => XS.ifNo K.at K.hx rfl (hb K.hby hd) rfl (XT.ll_ne_f (Classical.not_not.mp q)) r) (kF (Classical.not_not.mp q))
theorem k_icmp_lt (K : Wk p l e R s m args below meth c Z a0 EL n0 y bytes maxL ret b T h locs cells slots) {i j : Int32} {o : Int} {pc2 : Nat} (hd : decode bytes pc = .ok (.if_icmp .lt o, 3)) (ho : 0 ≤ (pc : Int) + o) (hp : ((pc : Int) + o).toNat = pc') (hp2 : pc + 3 = pc2) (kT : i < j → Goes p.tables e below P (T.setTop (mkF m pc' Ls st))) (kF : ¬ i < j → Goes p.tables e below P (T.setTop (mkF m pc2 Ls st))) : Goes p.tables e below P (T.setTop (mkF m pc Ls (.int j :: .int i :: st))) := by
  subst hp2
  by_cases q : i < j
  · exact go (fun t r => XS.icmpYes K.at K.hx rfl rfl (hb K.hby hd) rfl (XT.ii_lt_t q) ho hp r) (kT q)
  · exact go (fun t r => XS.icmpNo K.at K.hx rfl (hb K.hby hd) rfl (XT.ii_lt_f q) r) (kF q)
theorem k_if_lt (K : Wk p l e R s m args below meth c Z a0 EL n0 y bytes maxL ret b T h locs cells slots) {i : Int32} {o : Int} {pc2 : Nat} (hd : decode bytes pc = .ok (.ifCond .lt o, 3)) (ho : 0 ≤ (pc : Int) + o) (hp : ((pc : Int) + o).toNat = pc') (hp2 : pc + 3 = pc2) (kT : i < 0 → Goes p.tables e below P (T.setTop (mkF m pc' Ls st))) (kF : ¬ i < 0 → Goes p.tables e below P (T.setTop (mkF m pc2 Ls st))) : Goes p.tables e below P (T.setTop (mkF m pc Ls (.int i :: st))) := by
  subst hp2
  by_cases q : i < 0
  · exact go (fun t r => XS.ifYes K.at K.hx rfl rfl (hb K.hby hd) rfl (XT.i0_lt_t q) ho hp r) (kT q)
  · exact go (fun t r => XS.ifNo K.at K.hx rfl (hb K.hby hd) rfl (XT.i0_lt_f q) r) (kF q)
theorem k_lif_lt (K : Wk p l e R s m args below meth c Z a0 EL n0 y bytes maxL ret b T h locs cells slots) {i j : Int64} {o : Int} {pc2 : Nat} (hd : decode bytes pc = .ok (.ifCond .lt o, 3)) (ho : 0 ≤ (pc : Int) + o) (hp : ((pc : Int) + o).toNat = pc') (hp2 : pc + 3 = pc2) (kT : i < j → Goes p.tables e below P (T.setTop (mkF m pc' Ls st))) (kF : ¬ i < j → Goes p.tables e below P (T.setTop (mkF m pc2 Ls st))) : Goes p.tables e below P (T.setTop (mkF m pc Ls (.int (XT.cmpL i j) :: st))) := by
  subst hp2
  by_cases q : i < j
  · exact go (fun t r => XS.ifYes K.at K.hx rfl rfl (hb K.hby hd) rfl (XT.ll_lt_t q) ho hp r) (kT q)
  · exact go (fun t r => XS.ifNo K.at K.hx rfl (hb K.hby hd) rfl (XT.ll_lt_f q) r) (kF q)
theorem k_icmp_ge (K : Wk p l e R s m args below meth c Z a0 EL n0 y bytes maxL ret b T h locs cells slots) {i j : Int32} {o : Int} {pc2 : Nat} (hd : decode bytes pc = .ok (.if_icmp .ge o, 3)) (ho : 0 ≤ (pc : Int) + o) (hp : ((pc : Int) + o).toNat = pc') (hp2 : pc + 3 = pc2) (kT : ¬ i < j → Goes p.tables e below P (T.setTop (mkF m pc' Ls st))) (kF : i < j → Goes p.tables e below P (T.setTop (mkF m pc2 Ls st))) : Goes p.tables e below P (T.setTop (mkF m pc Ls (.int j :: .int i :: st))) := by
  subst hp2
  by_cases q : ¬ i < j
  · exact go (fun t r => XS.icmpYes K.at K.hx rfl rfl (hb K.hby hd) rfl (XT.ii_ge_t q) ho hp r) (kT q)
  · exact go (fun t r => XS.icmpNo K.at K.hx rfl (hb K.hby hd) rfl (XT.ii_ge_f (Classical.not_not.mp q)) r) (kF (Classical.not_not.mp q))
theorem k_if_ge (K : Wk p l e R s m args below meth c Z a0 EL n0 y bytes maxL ret b T h locs cells slots) {i : Int32} {o : Int} {pc2 : Nat} (hd : decode bytes pc = .ok (.ifCond .ge o, 3)) (ho : 0 ≤ (pc : Int) + o) (hp : ((pc : Int) + o).toNat = pc') (hp2 : pc + 3 = pc2) (kT : ¬ i < 0 → Goes p.tables e below P (T.setTop (mkF m pc' Ls st))) (kF : i < 0 → Goes p.tables e below P (T.setTop (mkF m pc2 Ls st))) : Goes p.tables e below P (T.setTop (mkF m pc Ls (.int i :: st))) := by
  subst hp2
  by_cases q : ¬ i < 0
  · exact go (fun t r => XS.ifYes K.at K.hx rfl rfl (hb K.hby hd) rfl (XT.i0_ge_t q) ho hp r) (kT q)
  · exact go (fun t r => XS.ifNo K.at K.hx rfl (hb K.hby hd) rfl (XT.i0_ge_f (Classical.not_not.mp q)) r) (kF (Classical.not_not.mp q))
theorem k_lif_ge (K : Wk p l e R s m args below meth c Z a0 EL n0 y bytes maxL ret b T h locs cells slots) {i j : Int64} {o : Int} {pc2 : Nat} (hd : decode bytes pc = .ok (.ifCond .ge o, 3)) (ho : 0 ≤ (pc : Int) + o) (hp : ((pc : Int) + o).toNat = pc') (hp2 : pc + 3 = pc2) (kT : ¬ i < j → Goes p.tables e below P (T.setTop (mkF m pc' Ls st))) (kF : i < j → Goes p.tables e below P (T.setTop (mkF m pc2 Ls st))) : Goes p.tables e below P (T.setTop (mkF m pc Ls (.int (XT.cmpL i j) :: st))) := by
  subst hp2
  by_cases q : ¬ i < j
  · exact go (fun t r => XS.ifYes K.at K.hx rfl rfl (hb K.hby hd) rfl (XT.ll_ge_t q) ho hp r) (kT q)
  · exact go (fun t r => XS.ifNo K.at K.hx rfl (hb K.hby hd) rfl (XT.ll_ge_f (Classical.not_not.mp q)) r) (kF (Classical.not_not.mp q))
theorem k_icmp_gt (K : Wk p l e R s m args below meth c Z a0 EL n0 y bytes maxL ret b T h locs cells slots) {i j : Int32} {o : Int} {pc2 : Nat} (hd : decode bytes pc = .ok (.if_icmp .gt o, 3)) (ho : 0 ≤ (pc : Int) + o) (hp : ((pc : Int) + o).toNat = pc') (hp2 : pc + 3 = pc2) (kT : j < i → Goes p.tables e below P (T.setTop (mkF m pc' Ls st))) (kF : ¬ j < i → Goes p.tables e below P (T.setTop (mkF m pc2 Ls st))) : Goes p.tables e below P (T.setTop (mkF m pc Ls (.int j :: .int i :: st))) := by
  subst hp2
  by_cases q : j < i
  · exact go (fun t r => XS.icmpYes K.at K.hx rfl rfl (hb K.hby hd) rfl (XT.ii_gt_t q) ho hp r) (kT q)
  · exact go (fun t r => XS.icmpNo K.at K.hx rfl (hb K.hby hd) rfl (XT.ii_gt_f q) r) (kF q)
theorem k_if_gt (K : Wk p l e R s m args below meth c Z a0 EL n0 y bytes maxL ret b T h locs cells slots) {i : Int32} {o : Int} {pc2 : Nat} (hd : decode bytes pc = .ok (.ifCond .gt o, 3)) (ho : 0 ≤ (pc : Int) + o) (hp : ((pc : Int) + o).toNat = pc') (hp2 : pc + 3 = pc2) (kT : 0 < i → Goes p.tables e below P (T.setTop (mkF m pc' Ls st))) (kF : ¬ 0 < i → Goes p.tables e below P (T.setTop (mkF m pc2 Ls st))) : Goes p.tables e below P (T.setTop (mkF m pc Ls (.int i :: st))) := by
  subst hp2
  by_cases q : 0 < i
  · exact go (fun t r => XS.ifYes K.at K.hx rfl rfl (hb K.hby hd) rfl (XT.i0_gt_t q) ho hp r) (kT q)
  · exact go (fun t r => XS.ifNo K.at K.hx rfl (hb K.hby hd) rfl (XT.i0_gt_f q) r) (kF q)
theorem k_lif_gt (K : Wk p l e R s m args below meth c Z a0 EL n0 y bytes maxL ret b T h locs cells slots) {i j : Int64} {o : Int} {pc2 : Nat} (hd : decode bytes pc = .ok (.ifCond .gt o, 3)) (ho : 0 ≤ (pc : Int) + o) (hp : ((pc : Int) + o).toNat = pc') (hp2 : pc + 3 = pc2) (kT : j < i → Goes p.tables e below P (T.setTop (mkF m pc' Ls st))) (kF : ¬ j < i → Goes p.tables e below P (T.setTop (mkF m pc2 Ls st))) : Goes p.tables e below P (T.setTop (mkF m pc Ls (.int (XT.cmpL i j) :: st))) := by
  subst hp2
  by_cases q : j < i
  · exact go (fun t r => XS.ifYes K.at K.hx rfl rfl (hb K.hby hd) rfl (XT.ll_gt_t q) ho hp r) (kT q)
  · exact go (fun t r => XS.ifNo K.at K.hx rfl (hb K.hby hd) rfl (XT.ll_gt_f q) r) (kF q)
theorem k_icmp_le (K : Wk p l e R s m args below meth c Z a0 EL n0 y bytes maxL ret b T h locs cells slots) {i j : Int32} {o : Int} {pc2 : Nat} (hd : decode bytes pc = .ok (.if_icmp .le o, 3)) (ho : 0 ≤ (pc : Int) + o) (hp : ((pc : Int) + o).toNat = pc') (hp2 : pc + 3 = pc2) (kT : ¬ j < i → Goes p.tables e below P (T.setTop (mkF m pc' Ls st))) (kF : j < i → Goes p.tables e below P (T.setTop (mkF m pc2 Ls st))) : Goes p.tables e below P (T.setTop (mkF m pc Ls (.int j :: .int i :: st))) := by
  subst hp2
  by_cases q : ¬ j < i
  · exact go (fun t r => XS.icmpYes K.at K.hx rfl rfl (hb K.hby hd) rfl (XT.ii_le_t q) ho hp r) (kT q)
  · exact go (fun t r => XS.icmpNo K.at K.hx rfl (hb K.hby hd) rfl (XT.ii_le_f (Classical.not_not.mp q)) r) (kF (Classical.not_not.mp q))
theorem k_if_le (K : Wk p l e R s m args below meth c Z a0 EL n0 y bytes maxL ret b T h locs cells slots) {i : Int32} {o : Int} {pc2 : Nat} (hd : decode bytes pc = .ok (.ifCond .le o, 3)) (ho : 0 ≤ (pc : Int) + o) (hp : ((pc : Int) + o).toNat = pc') (hp2 : pc + 3 = pc2) (kT : ¬ 0 < i → Goes p.tables e below P (T.setTop (mkF m pc' Ls st))) (kF : 0 < i → Goes p.tables e below P (T.setTop (mkF m pc2 Ls st))) : Goes p.tables e below P (T.setTop (mkF m pc Ls (.int i :: st))) := by
  subst hp2
  by_cases q : ¬ 0 < i
  · exact go (fun t r => XS.ifYes K.at K.hx rfl rfl (hb K.hby hd) rfl (XT.i0_le_t q) ho hp r) (kT q)
  · exact go (fun t r => XS.ifNo K.at K.hx rfl (hb K.hby hd) rfl (XT.i0_le_f (Classical.not_not.mp q)) r) (kF (Classical.not_not.mp q))
theorem k_lif_le (K : Wk p l e R s m args below meth c Z a0 EL n0 y bytes maxL ret b T h locs cells slots) {i j : Int64} {o : Int} {pc2 : Nat} (hd : decode bytes pc = .ok (.ifCond .le o, 3)) (ho : 0 ≤ (pc : Int) + o) (hp : ((pc : Int) + o).toNat = pc') (hp2 : pc + 3 = pc2) (kT : ¬ j < i → Goes p.tables e below P (T.setTop (mkF m pc' Ls st))) (kF : j < i → Goes p.tables e below P (T.setTop (mkF m pc2 Ls st))) : Goes p.tables e below P (T.setTop (mkF m pc Ls (.int (XT.cmpL i j) :: st))) := by
  subst hp2
  by_cases q : ¬ j < i
  · exact go (fun t r => XS.ifYes K.at K.hx rfl rfl (hb K.hby hd) rfl (XT.ll_le_t q) ho hp r) (kT q)
  · exact go (fun t r => XS.ifNo K.at K.hx rfl (hb K.hby hd) rfl (XT.ll_le_f (Classical.not_not.mp q)) r) (kF (Classical.not_not.mp q))
theorem k_acmp_eq (K : Wk p l e R s m args below meth c Z a0 EL n0 y bytes maxL ret b T h locs cells slots) {u v : Value} (hu : u.isRef = true) (hv : v.isRef = true) {o : Int} {pc2 : Nat} (hd : decode bytes pc = .ok (.if_acmp .eq o, 3)) (ho : 0 ≤ (pc : Int) + o) (hp : ((pc : Int) + o).toNat = pc') (hp2 : pc + 3 = pc2) (kE : u = v → Goes p.tables e below P (T.setTop (mkF m pc' Ls st))) (kN : ¬ u = v → Goes p.tables e below P (T.setTop (mkF m pc2 Ls st))) : Goes p.tables e below P (T.setTop (mkF m pc Ls (v :: u :: st))) := by
  subst hp2 hp
  by_cases q : u = v
  · exact go (fun t r => Jvm.RoadKit.acmp (g := mkF m pc Ls (v :: u :: st)) K.X K.hx rfl hu hv (pc0 := pc) (same := true) rfl (hb K.hby hd) rfl (decide_eq_true q) ho rfl r) (kE q)
  · exact go (fun t r => Jvm.RoadKit.acmp (g := mkF m pc Ls (v :: u :: st)) K.X K.hx rfl hu hv (pc0 := pc) (same := false) rfl (hb K.hby hd) rfl (decide_eq_false q) ho rfl r) (kN q)
theorem k_acmp_ne (K : Wk p l e R s m args below meth c Z a0 EL n0 y bytes maxL ret b T h locs cells slots) {u v : Value} (hu : u.isRef = true) (hv : v.isRef = true) {o : Int} {pc2 : Nat} (hd : decode bytes pc = .ok (.if_acmp .ne o, 3)) (ho : 0 ≤ (pc : Int) + o) (hp : ((pc : Int) + o).toNat = pc') (hp2 : pc + 3 = pc2) (kE : u = v → Goes p.tables e below P (T.setTop (mkF m pc2 Ls st))) (kN : ¬ u = v → Goes p.tables e below P (T.setTop (mkF m pc' Ls st))) : Goes p.tables e below P (T.setTop (mkF m pc Ls (v :: u :: st))) := by
  subst hp2 hp
  by_cases q : u = v
  · exact go (fun t r => Jvm.RoadKit.acmp (g := mkF m pc Ls (v :: u :: st)) K.X K.hx rfl hu hv (pc0 := pc) (same := true) rfl (hb K.hby hd) rfl (decide_eq_true q) ho rfl r) (kE q)
  · exact go (fun t r => Jvm.RoadKit.acmp (g := mkF m pc Ls (v :: u :: st)) K.X K.hx rfl hu hv (pc0 := pc) (same := false) rfl (hb K.hby hd) rfl (decide_eq_false q) ho rfl r) (kN q)
theorem k_ifnull (K : Wk p l e R s m args below meth c Z a0 EL n0 y bytes maxL ret b T h locs cells slots) {v : Value} (hv : v.isRef = true) {o : Int} {pc2 : Nat} (hd : decode bytes pc = .ok (.ifnull o, 3)) (ho : 0 ≤ (pc : Int) + o) (hp : ((pc : Int) + o).toNat = pc') (hp2 : pc + 3 = pc2) (kT : v = .null → Goes p.tables e below P (T.setTop (mkF m pc' Ls st))) (kF : ¬ v = .null → Goes p.tables e below P (T.setTop (mkF m pc2 Ls st))) : Goes p.tables e below P (T.setTop (mkF m pc Ls (v :: st))) := by
  subst hp2
  by_cases qn : v = .null
  · exact go (fun t r => XT.nullYes K.at K.hx rfl rfl (hb K.hby hd) rfl qn ho hp r) (kT qn)
  · exact go (fun t r => XT.nullNo K.at K.hx rfl (hb K.hby hd) rfl hv qn r) (kF qn)
theorem k_ifnonnull (K : Wk p l e R s m args below meth c Z a0 EL n0 y bytes maxL ret b T h locs cells slots) {v : Value} (hv : v.isRef = true) {o : Int} {pc2 : Nat} (hd : decode bytes pc = .ok (.ifnonnull o, 3)) (ho : 0 ≤ (pc : Int) + o) (hp : ((pc : Int) + o).toNat = pc') (hp2 : pc + 3 = pc2) (kT : ¬ v = .null → Goes p.tables e below P (T.setTop (mkF m pc' Ls st))) (kF : v = .null → Goes p.tables e below P (T.setTop (mkF m pc2 Ls st))) : Goes p.tables e below P (T.setTop (mkF m pc Ls (v :: st))) := by
  subst hp2
  by_cases qn : v = .null
  · exact go (fun t r => XT.nonnullNo K.at K.hx rfl (hb K.hby hd) rfl qn r) (kF qn)
  · exact go (fun t r => XT.nonnullYes K.at K.hx rfl rfl (hb K.hby hd) rfl hv qn ho hp r) (kT qn)
theorem k_getF (K : Wk p l e R s m args below meth c Z a0 EL n0 y bytes maxL ret b T h locs cells slots) {R0 O n d : String} {i : Nat} {a : Addr} {v : Value} (wd : (Cond.fieldLink y.cls i R0 n d).before a0 Z = true) (via : Via Z R0 O n d) (F : Fld Z h a O n d v) (hd : decode bytes pc = .ok (.getfield i, 3)) (hp : pc + 3 = pc') (k : ∀ T', Wk p l e R s m args below meth c Z a0 EL n0 y bytes maxL ret b T' h locs cells slots → Goes p.tables e below P (T'.setTop (mkF m pc' Ls (v :: st)))) : Goes p.tables e below P (T.setTop (mkF m pc Ls (.ref a :: st))) := by
  subst hp
  obtain ⟨T', X', e', q⟩ := Jvm.RoadKit.getF K.X K.hx K.hZ (host := "") K.hown (Or.inl wd) via K.eT F (g := mkF m pc Ls (.ref a :: st)) rfl rfl (hb K.hby hd)
  exact go q (k T' (K.move X' e' K.fr K.old K.bs))
theorem k_getFN (K : Wk p l e R s m args below meth c Z a0 EL n0 y bytes maxL ret b T h locs cells slots) {R0 O n d host : String} {i : Nat} {a : Addr} {v : Value} (wd : (Cond.fieldLinkNest y.cls i R0 n d host).before a0 Z = true) (via : Via Z R0 O n d) (F : Fld Z h a O n d v) (hd : decode bytes pc = .ok (.getfield i, 3)) (hp : pc + 3 = pc') (k : ∀ T', Wk p l e R s m args below meth c Z a0 EL n0 y bytes maxL ret b T' h locs cells slots → Goes p.tables e below P (T'.setTop (mkF m pc' Ls (v :: st)))) : Goes p.tables e below P (T.setTop (mkF m pc Ls (.ref a :: st))) := by
  subst hp
  obtain ⟨T', X', e', q⟩ := Jvm.RoadKit.getF K.X K.hx K.hZ K.hown (Or.inr wd) via K.eT F (g := mkF m pc Ls (.ref a :: st)) rfl rfl (hb K.hby hd)
  exact go q (k T' (K.move X' e' K.fr K.old K.bs))
theorem k_getS (K : Wk p l e R s m args below meth c Z a0 EL n0 y bytes maxL ret b T h locs cells slots) {R0 O n d : String} {i : Nat} {v : Value} (wd : (Cond.fieldLink y.cls i R0 n d).before a0 Z = true) (via : Via Z R0 O n d) (F : Sta Z Z.heap O n d v) (hd : decode bytes pc = .ok (.getstatic i, 3)) (hp : pc + 3 = pc') (k : ∀ T', Wk p l e R s m args below meth c Z a0 EL n0 y bytes maxL ret b T' h locs cells slots → Goes p.tables e below P (T'.setTop (mkF m pc' Ls (v :: st)))) : Goes p.tables e below P (T.setTop (mkF m pc Ls st)) := by
  subst hp
  obtain ⟨T', X', e', q⟩ := getS2 K.X K.hx K.hZ K.hown (host := "") (Or.inl wd) via K.eT (F.ext K.old.2) (g := mkF m pc Ls st) rfl (hb K.hby hd)
  exact go q (k T' (K.move X' e' K.fr K.old K.bs))
theorem k_getSN (K : Wk p l e R s m args below meth c Z a0 EL n0 y bytes maxL ret b T h locs cells slots) {R0 O n d host : String} {i : Nat} {v : Value} (wd : (Cond.fieldLinkNest y.cls i R0 n d host).before a0 Z = true) (via : Via Z R0 O n d) (F : Sta Z Z.heap O n d v) (hd : decode bytes pc = .ok (.getstatic i, 3)) (hp : pc + 3 = pc') (k : ∀ T', Wk p l e R s m args below meth c Z a0 EL n0 y bytes maxL ret b T' h locs cells slots → Goes p.tables e below P (T'.setTop (mkF m pc' Ls (v :: st)))) : Goes p.tables e below P (T.setTop (mkF m pc Ls st)) := by
  subst hp
  obtain ⟨T', X', e', q⟩ := getS2 K.X K.hx K.hZ K.hown (Or.inr wd) via K.eT (F.ext K.old.2) (g := mkF m pc Ls st) rfl (hb K.hby hd)
  exact go q (k T' (K.move X' e' K.fr K.old K.bs))
theorem k_castY (K : Wk p l e R s m args below meth c Z a0 EL n0 y bytes maxL ret b T h locs cells slots) {C : String} {i : Nat} {a : Addr} (wd : (Cond.classLink y.cls i C).before a0 Z = true) (F : Ins Z h a C true) (hd : decode bytes pc = .ok (.checkcast i, 3)) (hp : pc + 3 = pc') (k : ∀ T', Wk p l e R s m args below meth c Z a0 EL n0 y bytes maxL ret b T' h locs cells slots → Goes p.tables e below P (T'.setTop (mkF m pc' Ls (.ref a :: st)))) : Goes p.tables e below P (T.setTop (mkF m pc Ls (.ref a :: st))) := by
  subst hp
  obtain ⟨T', X', e', q⟩ := castY K.X K.hx K.hZ K.hown wd K.eT F (g := mkF m pc Ls (.ref a :: st)) rfl rfl (hb K.hby hd)
  exact go q (k T' (K.move X' e' K.fr K.old K.bs))
theorem k_instY (K : Wk p l e R s m args below meth c Z a0 EL n0 y bytes maxL ret b T h locs cells slots) {C : String} {i : Nat} {a : Addr} (wd : (Cond.classLink y.cls i C).before a0 Z = true) (F : Ins Z h a C true) (hd : decode bytes pc = .ok (.instanceof i, 3)) (hp : pc + 3 = pc') (k : ∀ T', Wk p l e R s m args below meth c Z a0 EL n0 y bytes maxL ret b T' h locs cells slots → Goes p.tables e below P (T'.setTop (mkF m pc' Ls (.int 1 :: st)))) : Goes p.tables e below P (T.setTop (mkF m pc Ls (.ref a :: st))) := by
  subst hp
  obtain ⟨T', X', e', q⟩ := instY K.X K.hx K.hZ K.hown wd K.eT F (g := mkF m pc Ls (.ref a :: st)) rfl rfl (hb K.hby hd)
  exact go q (k T' (K.move X' e' K.fr K.old K.bs))
theorem instN_at (X : Stand p l e R s m args below meth c T locs cells slots) (hx : p.tables.exec = Jvm.exec) (hZ : Z.Warmed39 s.vm) {own C D : String} {index : Nat} (hown : s.vm.findClass own = some m.cls) (w : (Cond.classLink own index C).before a0 Z = true) (eT : T.heap = h) {a : Addr} (F : Ins Z h a C false) (E : Exa Z h a D)
    {g : JFrame} (hg : g.method = m) {rest : List Value} (hs : g.stack = .ref a :: rest) (hd : decode c.code g.pc = .ok (.instanceof index, 3)) : ∃ T', Stand p l e R s m args below meth c T' locs cells slots ∧ T'.heap = h ∧ ∀ target, Steps p.tables e below (T'.setTop { g with pc := g.pc + 3, stack := .int 0 :: rest }) target → Steps p.tables e below (T.setTop g) target := by
  obtain ⟨cell, cT, h1, h2, h3⟩ := F
  obtain ⟨cell', k, e1, -, e3, e4, -⟩ := E
  cases h1.symm.trans e1
  obtain ⟨k', q, -⟩ := hZ.alike.2.2 _ _ e3
  obtain ⟨vm', X', st⟩ := Jvm.Sym.instanceofNoAt X hx hown (mvT hZ w) (by rw [eT]; exact h1) e4 q (by rw [hZ.alike.findClass]; exact h2) (by rw [hZ.alike.assignable]; simpa [e4] using h3) hg hs hd
  exact ⟨_, X', eT, st⟩
theorem k_instN (K : Wk p l e R s m args below meth c Z a0 EL n0 y bytes maxL ret b T h locs cells slots) {C D : String} {i : Nat} {a : Addr} (wd : (Cond.classLink y.cls i C).before a0 Z = true) (F : Ins Z h a C false) (E : Exa Z h a D) (hd : decode bytes pc = .ok (.instanceof i, 3)) (hp : pc + 3 = pc') (k : ∀ T', Wk p l e R s m args below meth c Z a0 EL n0 y bytes maxL ret b T' h locs cells slots → Goes p.tables e below P (T'.setTop (mkF m pc' Ls (.int 0 :: st)))) : Goes p.tables e below P (T.setTop (mkF m pc Ls (.ref a :: st))) := by
  subst hp
  obtain ⟨T', X', e', q⟩ := instN_at K.X K.hx K.hZ K.hown wd K.eT F E (g := mkF m pc Ls (.ref a :: st)) rfl rfl (hb K.hby hd)
  exact go q (k T' (K.move X' e' K.fr K.old K.bs))
theorem k_instNull (K : Wk p l e R s m args below meth c Z a0 EL n0 y bytes maxL ret b T h locs cells slots) {i : Nat} (hd : decode bytes pc = .ok (.instanceof i, 3)) (hp : pc + 3 = pc') (k : Goes p.tables e below P (T.setTop (mkF m pc' Ls (.int 0 :: st)))) : Goes p.tables e below P (T.setTop (mkF m pc Ls (.null :: st))) := by
  subst hp
  exact go (fun t q => K.X.instanceofNull K.hx (g := mkF m pc Ls (.null :: st)) rfl rfl (hb K.hby hd) _ q) k
theorem k_castNull (K : Wk p l e R s m args below meth c Z a0 EL n0 y bytes maxL ret b T h locs cells slots) {i : Nat} (hd : decode bytes pc = .ok (.checkcast i, 3)) (hp : pc + 3 = pc') (k : Goes p.tables e below P (T.setTop (mkF m pc' Ls (.null :: st)))) : Goes p.tables e below P (T.setTop (mkF m pc Ls (.null :: st))) := by
  subst hp
  exact go (fun t q => K.X.checkcastNull K.hx (g := mkF m pc Ls (.null :: st)) rfl rfl (hb K.hby hd) _ q) k
theorem k_iaload (K : Wk p l e R s m args below meth c Z a0 EL n0 y bytes maxL ret b T h locs cells slots) {a : Addr} {kk : ClassId} {z j : Int32} {vs : List Value} {dv : Value} {v : Int32} (F : Arv Z h a kk .int z vs dv) (hj : ¬ j < 0 ∧ j < z) (hv : vs.getD j.toNatClampNeg dv = .int v) (hd : decode bytes pc = .ok (.iaload, 1)) (hp : pc + 1 = pc') (k : Goes p.tables e below P (T.setTop (mkF m pc' Ls (.int v :: st)))) : Goes p.tables e below P (T.setTop (mkF m pc Ls (.int j :: .ref a :: st))) := by
  subst hp
  obtain ⟨cl, Ar, -, S, -, H, -⟩ := F
  exact go (fun t q => K.X.iaload K.hx (j := j) (v := .int v) (by rw [K.eT]; exact Ar.1) (State.isArrayOf_alike K.hZ.alike Ar.2.1) Ar.2.2 (inb_of S hj) (H.at (inb_of S hj) hv) (g := mkF m pc Ls (.int j :: .ref a :: st)) rfl rfl (hb K.hby hd) _ q) k
theorem k_caload (K : Wk p l e R s m args below meth c Z a0 EL n0 y bytes maxL ret b T h locs cells slots) {a : Addr} {kk : ClassId} {z j : Int32} {vs : List Value} {dv : Value} {v : Int32} (F : Arv Z h a kk .char z vs dv) (hj : ¬ j < 0 ∧ j < z) (hv : vs.getD j.toNatClampNeg dv = .int v) (hd : decode bytes pc = .ok (.caload, 1)) (hp : pc + 1 = pc') (k : Goes p.tables e below P (T.setTop (mkF m pc' Ls (.int v :: st)))) : Goes p.tables e below P (T.setTop (mkF m pc Ls (.int j :: .ref a :: st))) := by
  subst hp
  obtain ⟨cl, Ar, -, S, -, H, -⟩ := F
  exact go (fun t q => K.X.caload K.hx (j := j) (v := .int v) (by rw [K.eT]; exact Ar.1) (State.isArrayOf_alike K.hZ.alike Ar.2.1) Ar.2.2 (inb_of S hj) (H.at (inb_of S hj) hv) (g := mkF m pc Ls (.int j :: .ref a :: st)) rfl rfl (hb K.hby hd) _ q) k
theorem k_baload (K : Wk p l e R s m args below meth c Z a0 EL n0 y bytes maxL ret b T h locs cells slots) {a : Addr} {kk : ClassId} {z j : Int32} {vs : List Value} {dv : Value} {v : Int32} (F : Arv Z h a kk .byte z vs dv) (hj : ¬ j < 0 ∧ j < z) (hv : vs.getD j.toNatClampNeg dv = .int v) (hd : decode bytes pc = .ok (.baload, 1)) (hp : pc + 1 = pc') (k : Goes p.tables e below P (T.setTop (mkF m pc' Ls (.int v :: st)))) : Goes p.tables e below P (T.setTop (mkF m pc Ls (.int j :: .ref a :: st))) := by
  subst hp
  obtain ⟨cl, Ar, -, S, -, H, -⟩ := F
  exact go (fun t q => K.X.baloadBytes K.hx (j := j) (v := .int v) (by rw [K.eT]; exact Ar.1) (State.isArrayOf_alike K.hZ.alike Ar.2.1) Ar.2.2 (inb_of S hj) (H.at (inb_of S hj) hv) (g := mkF m pc Ls (.int j :: .ref a :: st)) rfl rfl (hb K.hby hd) _ q) k
theorem k_laload (K : Wk p l e R s m args below meth c Z a0 EL n0 y bytes maxL ret b T h locs cells slots) {a : Addr} {kk : ClassId} {z j : Int32} {vs : List Value} {dv : Value} {v : Int64} (F : Arv Z h a kk .long z vs dv) (hj : ¬ j < 0 ∧ j < z) (hv : vs.getD j.toNatClampNeg dv = .long v) (hd : decode bytes pc = .ok (.laload, 1)) (hp : pc + 1 = pc') (k : Goes p.tables e below P (T.setTop (mkF m pc' Ls (.long v :: st)))) : Goes p.tables e below P (T.setTop (mkF m pc Ls (.int j :: .ref a :: st))) := by
  subst hp
  obtain ⟨cl, Ar, -, S, -, H, -⟩ := F
  exact go (fun t q => K.X.laload K.hx (j := j) (v := .long v) (by rw [K.eT]; exact Ar.1) (State.isArrayOf_alike K.hZ.alike Ar.2.1) Ar.2.2 (inb_of S hj) (H.at (inb_of S hj) hv) (g := mkF m pc Ls (.int j :: .ref a :: st)) rfl rfl (hb K.hby hd) _ q) k
theorem k_aaload (K : Wk p l e R s m args below meth c Z a0 EL n0 y bytes maxL ret b T h locs cells slots) {a : Addr} {kk : ClassId} {ty : FieldType} {z j : Int32} {vs : List Value} {dv v : Value} (F : Arv Z h a kk ty z vs dv) (hty : ty.isReference = true) (hj : ¬ j < 0 ∧ j < z) (hv : vs.getD j.toNatClampNeg dv = v) (hd : decode bytes pc = .ok (.aaload, 1)) (hp : pc + 1 = pc') (k : Goes p.tables e below P (T.setTop (mkF m pc' Ls (v :: st)))) : Goes p.tables e below P (T.setTop (mkF m pc Ls (.int j :: .ref a :: st))) := by
  subst hp
  obtain ⟨cl, Ar, -, S, -, H, -⟩ := F
  exact go (fun t q => K.X.aaload K.hx (j := j) (v := v) (by rw [K.eT]; exact Ar.1) (State.isArrayOf_alike K.hZ.alike Ar.2.1) hty Ar.2.2 (inb_of S hj) (H.at (inb_of S hj) hv) (g := mkF m pc Ls (.int j :: .ref a :: st)) rfl rfl (hb K.hby hd) _ q) k
theorem k_len (K : Wk p l e R s m args below meth c Z a0 EL n0 y bytes maxL ret b T h locs cells slots) {a : Addr} {kk : ClassId} {ty : FieldType} {z : Int32} {vs : List Value} {dv : Value} (F : Arv Z h a kk ty z vs dv) (hd : decode bytes pc = .ok (.arraylength, 1)) (hp : pc + 1 = pc') (k : Goes p.tables e below P (T.setTop (mkF m pc' Ls (.int z :: st)))) : Goes p.tables e below P (T.setTop (mkF m pc Ls (.ref a :: st))) := by
  subst hp
  obtain ⟨cl, Ar, -, S, N, -, -⟩ := F
  refine go (fun t q => K.X.arraylength K.hx (by rw [K.eT]; exact Ar.1) (State.isArrayOf_alike K.hZ.alike Ar.2.1) (g := mkF m pc Ls (.ref a :: st)) rfl rfl (hb K.hby hd) _ (by rw [len_of S N]; exact q)) k
theorem bs_ext (K : Wk p l e R s m args below meth c Z a0 EL n0 y bytes maxL ret b T h locs cells slots) {h' : Heap} (E : Ext h h') : Bs Z a0 EL s b h' := K.bs
theorem bs_wr (K : Wk p l e R s m args below meth c Z a0 EL n0 y bytes maxL ret b T h locs cells slots) {h' : Heap} {a : Addr} {sl : Nat} {v : Value} (W : Wr h h' a sl v) (sf : Sfe Z EL b.vm h a) : Bs Z a0 EL s b h' := K.bs
theorem sfe_ext (K : Wk p l e R s m args below meth c Z a0 EL n0 y bytes maxL ret b T h locs cells slots) {h' : Heap} (E : Ext h h') (x : Addr) (_ : x < h.size) (q : Sfe Z EL b.vm h x) : Sfe Z EL b.vm h' x := trivial
theorem sfe_wr (K : Wk p l e R s m args below meth c Z a0 EL n0 y bytes maxL ret b T h locs cells slots) {h' : Heap} {a : Addr} {sl : Nat} {v : Value} (W : Wr h h' a sl v) (sf : Sfe Z EL b.vm h a) (x : Addr) (_ : x < h.size) (q : Sfe Z EL b.vm h x) : Sfe Z EL b.vm h' x := trivial
theorem sfe_ext_new (K : Wk p l e R s m args below meth c Z a0 EL n0 y bytes maxL ret b T h locs cells slots) {h' : Heap} (E : Ext h h') : Sfe Z EL b.vm h' h.size := trivial
theorem k_new (K : Wk p l e R s m args below meth c Z a0 EL n0 y bytes maxL ret b T h locs cells slots) {C : String} {i n : Nat} (wl : (Cond.classLink y.cls i C).before a0 Z = true) (wi : (Cond.instantiable C n).before a0 Z = true) (wz : (Cond.initialized C).before a0 Z = true) (hd : decode bytes pc = .ok (.new i, 3)) (hp : pc + 3 = pc') (hce : cells + 1 ≤ R.cells) (hsl : slots + n ≤ R.slots) (k : ∀ T' h' a, a = h.size → Wk p l e R s m args below meth c Z a0 EL n0 y bytes maxL ret b T' h' locs (cells + 1) (slots + n) → Ext h h' → (∀ x, x < h.size → Sfe Z EL b.vm h x → Sfe Z EL b.vm h' x) → Sfe Z EL b.vm h' a → Exa Z h' a C → (∀ {O nm d : String} {ty : FieldType}, Laid Z a0 C O nm d → parseFieldDescriptor d = some ty → Fld Z h' a O nm d (defaultValue ty)) → Unt h' a → Goes p.tables e below P (T'.setTop (mkF m pc' Ls (.ref a :: st)))) : Goes p.tables e below P (T.setTop (mkF m pc Ls st)) := by
  subst hp
  obtain ⟨T', h', X', e', E', A', D', U', q⟩ := newO K.X K.hx K.hZ K.hown wl wi wz K.eT (g := mkF m pc Ls st) rfl (hb K.hby hd) hce hsl
  exact go q (k T' h' _ rfl (K.move X' e' K.fr (K.old.ext E') (bs_ext K E')) E' (sfe_ext K E') (sfe_ext_new K E') A' D' U')
theorem k_putF (K : Wk p l e R s m args below meth c Z a0 EL n0 y bytes maxL ret b T h locs cells slots) {R0 O n d C : String} {i kk : Nat} {ty : FieldType} {a : Addr} {v old : Value} (wd : (Cond.fieldLink y.cls i R0 n d).before a0 Z = true) (via : Via Z R0 O n d) (F : Fld Z h a O n d old) (E : Exa Z h a C) (L : (Cond.lays C O n d).before a0 Z = true ∨ ((Cond.laysFinal C O n d).before a0 Z = true ∧ y.cls = O ∧ y.name = "<init>")) (wi : (Cond.instantiable C kk).before a0 Z = true) (hty : parseFieldDescriptor d = some ty) (hn : narrow ty v = v) (hf : fits ty v = true) (ga : n0 ≤ a) (sf : Sfe Z EL b.vm h a) (hd : decode bytes pc = .ok (.putfield i, 3)) (hp : pc + 3 = pc') (k : ∀ T' h', Wk p l e R s m args below meth c Z a0 EL n0 y bytes maxL ret b T' h' (locs ++ [⟨a, Jvm.RoadKit.slotOf Z O n d⟩]) cells slots → Wr h h' a (Jvm.RoadKit.slotOf Z O n d) v → (∀ x, x < h.size → Sfe Z EL b.vm h x → Sfe Z EL b.vm h' x) → Goes p.tables e below P (T'.setTop (mkF m pc' Ls st))) : Goes p.tables e below P (T.setTop (mkF m pc Ls (v :: .ref a :: st))) := by
  subst hp
  obtain ⟨T', h', X', e', W', q⟩ := putF K.X K.hx K.hZ (host := "") K.hown (Or.inl wd) via K.eT F E (L.imp id fun ⟨q1, q2, q3⟩ => ⟨q1, q2, K.hnm.trans q3⟩) wi hty hn hf (g := mkF m pc Ls (v :: .ref a :: st)) rfl rfl (hb K.hby hd)
  exact go q (k T' h' (K.move X' e' (Fr.snoc X' K.fr ga) (K.old.wr W' ga) (bs_wr K W' sf)) W' (sfe_wr K W' sf))
theorem k_putFH (K : Wk p l e R s m args below meth c Z a0 EL n0 y bytes maxL ret b T h locs cells slots) {R0 O n d C host : String} {i kk : Nat} {ty : FieldType} {a : Addr} {v old : Value} (wd : (Cond.fieldLinkNest y.cls i R0 n d host).before a0 Z = true) (via : Via Z R0 O n d) (F : Fld Z h a O n d old) (E : Exa Z h a C) (L : (Cond.lays C O n d).before a0 Z = true ∨ ((Cond.laysFinal C O n d).before a0 Z = true ∧ y.cls = O ∧ y.name = "<init>")) (wi : (Cond.instantiable C kk).before a0 Z = true) (hty : parseFieldDescriptor d = some ty) (hn : narrow ty v = v) (hf : fits ty v = true) (ga : n0 ≤ a) (sf : Sfe Z EL b.vm h a) (hd : decode bytes pc = .ok (.putfield i, 3)) (hp : pc + 3 = pc') (k : ∀ T' h', Wk p l e R s m args below meth c Z a0 EL n0 y bytes maxL ret b T' h' (locs ++ [⟨a, Jvm.RoadKit.slotOf Z O n d⟩]) cells slots → Wr h h' a (Jvm.RoadKit.slotOf Z O n d) v → (∀ x, x < h.size → Sfe Z EL b.vm h x → Sfe Z EL b.vm h' x) → Goes p.tables e below P (T'.setTop (mkF m pc' Ls st))) : Goes p.tables e below P (T.setTop (mkF m pc Ls (v :: .ref a :: st))) := by
  subst hp
  obtain ⟨T', h', X', e', W', q⟩ := putF K.X K.hx K.hZ K.hown (Or.inr wd) via K.eT F E (L.imp id fun ⟨q1, q2, q3⟩ => ⟨q1, q2, K.hnm.trans q3⟩) wi hty hn hf (g := mkF m pc Ls (v :: .ref a :: st)) rfl rfl (hb K.hby hd)
  exact go q (k T' h' (K.move X' e' (Fr.snoc X' K.fr ga) (K.old.wr W' ga) (bs_wr K W' sf)) W' (sfe_wr K W' sf))
theorem k_putFN (K : Wk p l e R s m args below meth c Z a0 EL n0 y bytes maxL ret b T h locs cells slots) {R0 O n d C : String} {i kk : Nat} {ty : FieldType} {a : Addr} {v v' old : Value} (wd : (Cond.fieldLink y.cls i R0 n d).before a0 Z = true) (via : Via Z R0 O n d) (F : Fld Z h a O n d old) (E : Exa Z h a C) (L : (Cond.lays C O n d).before a0 Z = true ∨ ((Cond.laysFinal C O n d).before a0 Z = true ∧ y.cls = O ∧ y.name = "<init>")) (wi : (Cond.instantiable C kk).before a0 Z = true) (hty : parseFieldDescriptor d = some ty) (hn : narrow ty v = v') (hf : fits ty v' = true) (ga : n0 ≤ a) (sf : Sfe Z EL b.vm h a) (hd : decode bytes pc = .ok (.putfield i, 3)) (hp : pc + 3 = pc') (k : ∀ T' h', Wk p l e R s m args below meth c Z a0 EL n0 y bytes maxL ret b T' h' (locs ++ [⟨a, Jvm.RoadKit.slotOf Z O n d⟩]) cells slots → Wr h h' a (Jvm.RoadKit.slotOf Z O n d) v' → (∀ x, x < h.size → Sfe Z EL b.vm h x → Sfe Z EL b.vm h' x) → Goes p.tables e below P (T'.setTop (mkF m pc' Ls st))) : Goes p.tables e below P (T.setTop (mkF m pc Ls (v :: .ref a :: st))) := by
  subst hp
  obtain ⟨T', h', X', e', W', q⟩ := putFN K.X K.hx K.hZ K.hown wd via K.eT F E (L.imp id fun ⟨q1, q2, q3⟩ => ⟨q1, q2, K.hnm.trans q3⟩) wi hty hn hf (g := mkF m pc Ls (v :: .ref a :: st)) rfl rfl (hb K.hby hd)
  exact go q (k T' h' (K.move X' e' (Fr.snoc X' K.fr ga) (K.old.wr W' ga) (bs_wr K W' sf)) W' (sfe_wr K W' sf))
theorem k_newarray (K : Wk p l e R s m args below meth c Z a0 EL n0 y bytes maxL ret b T h locs cells slots) {aty : ArrayType} {z : Int32} (wa : (Cond.arrayClass (newarray.typeOf aty)).before a0 Z = true) (hz : ¬ z < 0) {cap : Nat} (hcap : z.toNatClampNeg ≤ cap) (hbig : cap * 8 ≤ 536870912) (hd : decode bytes pc = .ok (.newarray aty, 2)) (hp : pc + 2 = pc') (hce : cells + 1 ≤ R.cells) (hsl : slots + cap ≤ R.slots) (k : ∀ T' h' a kk, a = h.size → Wk p l e R s m args below meth c Z a0 EL n0 y bytes maxL ret b T' h' locs (cells + 1) (slots + cap) → Ext h h' → (∀ x, x < h.size → Sfe Z EL b.vm h x → Sfe Z EL b.vm h' x) → Sfe Z EL b.vm h' a → Arv Z h' a kk (newarray.typeOf aty) z [] (defaultValue (newarray.typeOf aty)) → Goes p.tables e below P (T'.setTop (mkF m pc' Ls (.ref a :: st)))) : Goes p.tables e below P (T.setTop (mkF m pc Ls (.int z :: st))) := by
  subst hp
  obtain ⟨T', h', kk, X', e', E', A', q⟩ := newP K.X K.hx K.hZ wa K.eT (g := mkF m pc Ls (.int z :: st)) rfl (hb K.hby hd) rfl hz hcap hbig hce hsl
  exact go q (k T' h' _ kk rfl (K.move X' e' K.fr (K.old.ext E') (bs_ext K E')) E' (sfe_ext K E') (sfe_ext_new K E') (Arv.new A' hz))
theorem k_anewarray (K : Wk p l e R s m args below meth c Z a0 EL n0 y bytes maxL ret b T h locs cells slots) {C : String} {i : Nat} {z : Int32} (wl : (Cond.classLink y.cls i C).before a0 Z = true) (wa : (Cond.arrayOver (.object C)).before a0 Z = true) (hz : ¬ z < 0) {cap : Nat} (hcap : z.toNatClampNeg ≤ cap) (hbig : cap * 8 ≤ 536870912) (hd : decode bytes pc = .ok (.anewarray i, 3)) (hp : pc + 3 = pc') (hce : cells + 1 ≤ R.cells) (hsl : slots + cap ≤ R.slots) (k : ∀ T' h' a kk, a = h.size → Wk p l e R s m args below meth c Z a0 EL n0 y bytes maxL ret b T' h' locs (cells + 1) (slots + cap) → Ext h h' → (∀ x, x < h.size → Sfe Z EL b.vm h x → Sfe Z EL b.vm h' x) → Sfe Z EL b.vm h' a → Arv Z h' a kk (.object C) z [] .null → Ovr Z kk C → Goes p.tables e below P (T'.setTop (mkF m pc' Ls (.ref a :: st)))) : Goes p.tables e below P (T.setTop (mkF m pc Ls (.int z :: st))) := by
  subst hp
  obtain ⟨T', h', kk, X', e', E', A', O', q⟩ := newR K.X K.hx K.hZ K.hown wl wa K.eT (g := mkF m pc Ls (.int z :: st)) rfl (hb K.hby hd) rfl hz hcap hbig hce hsl
  exact go q (k T' h' _ kk rfl (K.move X' e' K.fr (K.old.ext E') (bs_ext K E')) E' (sfe_ext K E') (sfe_ext_new K E') (Arv.new A' hz) O')
theorem k_iastore (K : Wk p l e R s m args below meth c Z a0 EL n0 y bytes maxL ret b T h locs cells slots) {a : Addr} {kk : ClassId} {z j : Int32} {vs : List Value} {dv : Value} {v : Int32} (F : Arv Z h a kk .int z vs dv) (hj : ¬ j < 0 ∧ j < z) (hlen : j.toNatClampNeg < vs.length) (ga : n0 ≤ a) (sf : Sfe Z EL b.vm h a) (hd : decode bytes pc = .ok (.iastore, 1)) (hp : pc + 1 = pc') (k : ∀ T' h', Wk p l e R s m args below meth c Z a0 EL n0 y bytes maxL ret b T' h' (locs ++ [⟨a, j.toNatClampNeg⟩]) cells slots → Wr h h' a j.toNatClampNeg (.int v) → (∀ x, x < h.size → Sfe Z EL b.vm h x → Sfe Z EL b.vm h' x) → Arv Z h' a kk .int z (vs.set j.toNatClampNeg (.int v)) dv → Goes p.tables e below P (T'.setTop (mkF m pc' Ls st))) : Goes p.tables e below P (T.setTop (mkF m pc Ls (.int v :: .int j :: .ref a :: st))) := by
  subst hp
  obtain ⟨cl, Ar, q1, S, N, H, G⟩ := F
  obtain ⟨T', h', X', e', W', q⟩ := stI K.X K.hx K.hZ K.eT Ar (j := j) (inb_of S hj) (g := mkF m pc Ls (.int v :: .int j :: .ref a :: st)) rfl rfl (hb K.hby hd)
  exact go q (k T' h' (K.move X' e' (Fr.snoc X' K.fr ga) (K.old.wr W' ga) (bs_wr K W' sf)) W' (sfe_wr K W' sf) (Arv.set Ar q1 S N H G rfl W' _ rfl hlen))
theorem k_castore (K : Wk p l e R s m args below meth c Z a0 EL n0 y bytes maxL ret b T h locs cells slots) {a : Addr} {kk : ClassId} {z j : Int32} {vs : List Value} {dv : Value} {v : Int32} (F : Arv Z h a kk .char z vs dv) (hj : ¬ j < 0 ∧ j < z) (hlen : j.toNatClampNeg < vs.length) (ga : n0 ≤ a) (sf : Sfe Z EL b.vm h a) (hd : decode bytes pc = .ok (.castore, 1)) (hp : pc + 1 = pc') (k : ∀ T' h', Wk p l e R s m args below meth c Z a0 EL n0 y bytes maxL ret b T' h' (locs ++ [⟨a, j.toNatClampNeg⟩]) cells slots → Wr h h' a j.toNatClampNeg (.int (nar .char v)) → (∀ x, x < h.size → Sfe Z EL b.vm h x → Sfe Z EL b.vm h' x) → Arv Z h' a kk .char z (vs.set j.toNatClampNeg (.int (nar .char v))) dv → Goes p.tables e below P (T'.setTop (mkF m pc' Ls st))) : Goes p.tables e below P (T.setTop (mkF m pc Ls (.int v :: .int j :: .ref a :: st))) := by
  subst hp
  obtain ⟨cl, Ar, q1, S, N, H, G⟩ := F
  obtain ⟨T', h', X', e', W', q⟩ := stC K.X K.hx K.hZ K.eT Ar (j := j) (inb_of S hj) (g := mkF m pc Ls (.int v :: .int j :: .ref a :: st)) rfl rfl (hb K.hby hd)
  exact go q (k T' h' (K.move X' e' (Fr.snoc X' K.fr ga) (K.old.wr W' ga) (bs_wr K W' sf)) W' (sfe_wr K W' sf) (Arv.set Ar q1 S N H G (fits_nar_char _) W' _ rfl hlen))
theorem k_bastore (K : Wk p l e R s m args below meth c Z a0 EL n0 y bytes maxL ret b T h locs cells slots) {a : Addr} {kk : ClassId} {z j : Int32} {vs : List Value} {dv : Value} {v : Int32} (F : Arv Z h a kk .byte z vs dv) (hj : ¬ j < 0 ∧ j < z) (hlen : j.toNatClampNeg < vs.length) (ga : n0 ≤ a) (sf : Sfe Z EL b.vm h a) (hd : decode bytes pc = .ok (.bastore, 1)) (hp : pc + 1 = pc') (k : ∀ T' h', Wk p l e R s m args below meth c Z a0 EL n0 y bytes maxL ret b T' h' (locs ++ [⟨a, j.toNatClampNeg⟩]) cells slots → Wr h h' a j.toNatClampNeg (.int (nar .byte v)) → (∀ x, x < h.size → Sfe Z EL b.vm h x → Sfe Z EL b.vm h' x) → Arv Z h' a kk .byte z (vs.set j.toNatClampNeg (.int (nar .byte v))) dv → Goes p.tables e below P (T'.setTop (mkF m pc' Ls st))) : Goes p.tables e below P (T.setTop (mkF m pc Ls (.int v :: .int j :: .ref a :: st))) := by
  subst hp
  obtain ⟨cl, Ar, q1, S, N, H, G⟩ := F
  obtain ⟨T', h', X', e', W', q⟩ := stB K.X K.hx K.hZ K.eT Ar (j := j) (inb_of S hj) (g := mkF m pc Ls (.int v :: .int j :: .ref a :: st)) rfl rfl (hb K.hby hd)
  exact go q (k T' h' (K.move X' e' (Fr.snoc X' K.fr ga) (K.old.wr W' ga) (bs_wr K W' sf)) W' (sfe_wr K W' sf) (Arv.set Ar q1 S N H G (fits_nar_byte _) W' _ rfl hlen))
theorem k_lastore (K : Wk p l e R s m args below meth c Z a0 EL n0 y bytes maxL ret b T h locs cells slots) {a : Addr} {kk : ClassId} {z j : Int32} {vs : List Value} {dv : Value} {v : Int64} (F : Arv Z h a kk .long z vs dv) (hj : ¬ j < 0 ∧ j < z) (hlen : j.toNatClampNeg < vs.length) (ga : n0 ≤ a) (sf : Sfe Z EL b.vm h a) (hd : decode bytes pc = .ok (.lastore, 1)) (hp : pc + 1 = pc') (k : ∀ T' h', Wk p l e R s m args below meth c Z a0 EL n0 y bytes maxL ret b T' h' (locs ++ [⟨a, j.toNatClampNeg⟩]) cells slots → Wr h h' a j.toNatClampNeg (.long v) → (∀ x, x < h.size → Sfe Z EL b.vm h x → Sfe Z EL b.vm h' x) → Arv Z h' a kk .long z (vs.set j.toNatClampNeg (.long v)) dv → Goes p.tables e below P (T'.setTop (mkF m pc' Ls st))) : Goes p.tables e below P (T.setTop (mkF m pc Ls (.long v :: .int j :: .ref a :: st))) := by
  subst hp
  obtain ⟨cl, Ar, q1, S, N, H, G⟩ := F
  obtain ⟨T', h', X', e', W', q⟩ := stJ K.X K.hx K.hZ K.eT Ar (j := j) (inb_of S hj) (g := mkF m pc Ls (.long v :: .int j :: .ref a :: st)) rfl rfl (hb K.hby hd)
  exact go q (k T' h' (K.move X' e' (Fr.snoc X' K.fr ga) (K.old.wr W' ga) (bs_wr K W' sf)) W' (sfe_wr K W' sf) (Arv.set Ar q1 S N H G rfl W' _ rfl hlen))
theorem k_aastore (K : Wk p l e R s m args below meth c Z a0 EL n0 y bytes maxL ret b T h locs cells slots) {a : Addr} {kk : ClassId} {ty : FieldType} {z j : Int32} {vs : List Value} {dv v : Value} (F : Arv Z h a kk ty z vs dv) (hty : ty.isReference = true) (hs : Sto Z h a v) (hfit : fits ty v = true) (hj : ¬ j < 0 ∧ j < z) (hlen : j.toNatClampNeg < vs.length) (ga : n0 ≤ a) (sf : Sfe Z EL b.vm h a) (hd : decode bytes pc = .ok (.aastore, 1)) (hp : pc + 1 = pc') (k : ∀ T' h', Wk p l e R s m args below meth c Z a0 EL n0 y bytes maxL ret b T' h' (locs ++ [⟨a, j.toNatClampNeg⟩]) cells slots → Wr h h' a j.toNatClampNeg v → (∀ x, x < h.size → Sfe Z EL b.vm h x → Sfe Z EL b.vm h' x) → Arv Z h' a kk ty z (vs.set j.toNatClampNeg v) dv → Goes p.tables e below P (T'.setTop (mkF m pc' Ls st))) : Goes p.tables e below P (T.setTop (mkF m pc Ls (v :: .int j :: .ref a :: st))) := by
  subst hp
  obtain ⟨cl, Ar, q1, S, N, H, G⟩ := F
  obtain ⟨T', h', X', e', W', q⟩ := stR K.X K.hx K.hZ K.eT Ar (j := j) (inb_of S hj) hty hs (g := mkF m pc Ls (v :: .int j :: .ref a :: st)) rfl rfl (hb K.hby hd)
  exact go q (k T' h' (K.move X' e' (Fr.snoc X' K.fr ga) (K.old.wr W' ga) (bs_wr K W' sf)) W' (sfe_wr K W' sf) (Arv.set Ar q1 S N H G hfit W' _ rfl hlen))
def FinW (Z : State) (EL : List (String × Nat)) (U : State) (n0 : Nat) (rm : Room) (Q : Option Value → Heap → (Addr → Prop) → Prop) (o : Outcome) (U' : State) : Prop := ∃ v L, o = .returned v ∧ (Fr n0 L ∧ Old Z n0 U'.heap ∧ Q v U'.heap (Sfe Z EL U'.vm U'.heap)) ∧ FrameEnd U o U' L rm.cells rm.slots
def Ct (l : Launch) (Z : State) (EL : List (String × Nat)) (n0 : Nat) (y : MethodName) (bytes : ByteArray) (maxL : Nat) (ret : Option FieldType) (rm : Room) (as : Array Value) (h : Heap) (SP : List Addr) (Q : Option Value → Heap → (Addr → Prop) → Prop) : Prop := ∀ ws, MetFree l y (head1 (Cond.code y bytes maxL ret :: ws) rm) (fun a U => a = as ∧ Z.Warmed39 U.vm ∧ U.heap = h ∧ (∀ x ∈ SP, Sfe Z EL U.vm h x)) (fun _ _ _ _ _ => True) (fun _ U o U' => ∃ v L, o = .returned v ∧ (Fr n0 L ∧ Old Z n0 U'.heap ∧ Q v U'.heap (Sfe Z EL U'.vm U'.heap)) ∧ FrameEnd U o U' L rm.cells rm.slots)
theorem Ct.of {as : Array Value} {rm : Room} {SP : List Addr} {Q : Option Value → Heap → (Addr → Prop) → Prop} (LE : Array Slot) (hO : Old Z n0 h) (hpl : plainFor y = true) (hef : ∀ m, entryFrame m as maxL = mkF m 0 LE []) (body : ∀ {p : Program} {e : Env} {s : State} {m : MethodId} {below : List Frame} {meth : Method} {c : Code} {b T : State}, Wk p l e rm s m as below meth c Z a0 EL n0 y bytes maxL ret b T h [] 0 0 → (∀ x ∈ SP, Sfe Z EL b.vm h x) → Goes p.tables e below (FinW Z EL s n0 rm Q) (T.setTop (mkF m 0 LE []))) : Ct l Z EL n0 y bytes maxL ret rm as h SP Q := by
  intro ws
  refine MetFree.of_bodySF hpl hisR ?_
  intro p e s m args below meth c s₁ Bd hml0 hP hK
  obtain ⟨ha, hZ, hh, hSP⟩ := hP
  subst ha
  have K : Wk p l e rm s m args below meth c Z a0 EL n0 y bytes maxL ret s s₁ h [] 0 0 := ⟨Stand.of_body Bd, by rw [← hh, Bd.state]; rfl, Fr.nil n0, Bd.exec, hZ, findClass_of_methodNamed Bd.named, Bd.bytes, hml0, Bd.returns, Bd.notSynchronized, (name_of_methodNamed Bd.named Bd.method).1, hO, rfl⟩
  obtain ⟨t, o, h1, h2, h3, h4⟩ := body K hSP
  exact ⟨t, o, castTop (hef m) h1, h2, h3, h4⟩
theorem k_return (K : Wk p l e R s m args below meth c Z a0 EL n0 y bytes maxL ret b T h locs cells slots) {Q : Option Value → Heap → (Addr → Prop) → Prop} (hd : decode bytes pc = .ok (.return_, 1)) (hr : ret = none) (hq : ∀ sf : Addr → Prop, (∀ x, x < h.size → Sfe Z EL b.vm h x → sf x) → Q none h sf) (hc : cells ≤ R.cells) (hs : slots ≤ R.slots) : Goes p.tables e below (FinW Z EL s n0 R Q) (T.setTop (mkF m pc Ls [])) := by
  have e0 : b = s := K.bs
  subst e0
  obtain ⟨fs, hr', hrun, hended, hW, hsame⟩ := K.X.leave (v := none) (fun _ => rfl) K.hlk
  refine ⟨_, _, ?_, hrun, hended, _, _, rfl, ⟨K.fr, ?_, ?_⟩, ⟨_, rfl⟩, hW, hsame.mono hc hs⟩
  · exact K.X.returnOut K.hx (K.hret.trans hr) (hb K.hby hd) hr'
  · show Old Z n0 T.heap
    rw [K.eT]; exact K.old
  · show Q _ T.heap (Sfe Z EL T.vm T.heap)
    rw [K.eT]; exact hq _ fun _ _ _ => trivial
theorem k_ret (K : Wk p l e R s m args below meth c Z a0 EL n0 y bytes maxL ret b T h locs cells slots) {Q : Option Value → Heap → (Addr → Prop) → Prop} {t : FieldType} {v : Value} {i : Instr} (hd : decode bytes pc = .ok (i, 1)) (hr : ret = some t) (hn : narrow t v = v) (hi : (i = .ireturn ∧ (t = .int ∨ t = .boolean ∨ t = .byte ∨ t = .char ∨ t = .short) ∧ ∃ z, v = .int z) ∨ (i = .lreturn ∧ t = .long ∧ ∃ z, v = .long z) ∨ (i = .dreturn ∧ t = .double ∧ ∃ z, v = .double z) ∨ (i = .freturn ∧ t = .float ∧ ∃ z, v = .float z) ∨ (i = .areturn ∧ t.isReference = true ∧ v.isRef = true)) (hq : ∀ sf : Addr → Prop, (∀ x, x < h.size → Sfe Z EL b.vm h x → sf x) → Q (some v) h sf) (hc : cells ≤ R.cells) (hs : slots ≤ R.slots) : Goes p.tables e below (FinW Z EL s n0 R Q) (T.setTop (mkF m pc Ls (v :: st))) := by
  have e0 : b = s := K.bs
  subst e0
  obtain ⟨fs, hr', hrun, hended, hW, hsame⟩ := K.X.leave (v := some v) (fun h => by rw [K.hret, hr] at h; cases h) K.hlk
  refine ⟨_, _, ?_, hrun, hended, _, _, rfl, ⟨K.fr, ?_, ?_⟩, ⟨_, rfl⟩, hW, hsame.mono hc hs⟩
  · exact retOut K.X K.hx (K.hret.trans hr) hn hi (hb K.hby hd) hr'
  · show Old Z n0 T.heap
    rw [K.eT]; exact K.old
  · show Q _ T.heap (Sfe Z EL T.vm T.heap)
    rw [K.eT]; exact hq _ fun _ _ _ => trivial
theorem k_iret (K : Wk p l e R s m args below meth c Z a0 EL n0 y bytes maxL ret b T h locs cells slots) {Q : Option Value → Heap → (Addr → Prop) → Prop} {i : Int32} (hd : decode bytes pc = .ok (.ireturn, 1)) (hr : ret = some .int) (hq : ∀ sf : Addr → Prop, (∀ x, x < h.size → Sfe Z EL b.vm h x → sf x) → Q (some (.int i)) h sf) (hc : cells ≤ R.cells) (hs : slots ≤ R.slots) : Goes p.tables e below (FinW Z EL s n0 R Q) (T.setTop (mkF m pc Ls (.int i :: st))) := k_ret K hd hr rfl (Or.inl ⟨rfl, Or.inl rfl, i, rfl⟩) hq hc hs
theorem k_lret (K : Wk p l e R s m args below meth c Z a0 EL n0 y bytes maxL ret b T h locs cells slots) {Q : Option Value → Heap → (Addr → Prop) → Prop} {i : Int64} (hd : decode bytes pc = .ok (.lreturn, 1)) (hr : ret = some .long) (hq : ∀ sf : Addr → Prop, (∀ x, x < h.size → Sfe Z EL b.vm h x → sf x) → Q (some (.long i)) h sf) (hc : cells ≤ R.cells) (hs : slots ≤ R.slots) : Goes p.tables e below (FinW Z EL s n0 R Q) (T.setTop (mkF m pc Ls (.long i :: st))) := k_ret K hd hr rfl (Or.inr (Or.inl ⟨rfl, rfl, i, rfl⟩)) hq hc hs
theorem k_aret (K : Wk p l e R s m args below meth c Z a0 EL n0 y bytes maxL ret b T h locs cells slots) {Q : Option Value → Heap → (Addr → Prop) → Prop} {v : Value} {t : FieldType} (hd : decode bytes pc = .ok (.areturn, 1)) (hr : ret = some t) (ht : t.isReference = true) (hv : v.isRef = true) (hq : ∀ sf : Addr → Prop, (∀ x, x < h.size → Sfe Z EL b.vm h x → sf x) → Q (some v) h sf) (hc : cells ≤ R.cells) (hs : slots ≤ R.slots) : Goes p.tables e below (FinW Z EL s n0 R Q) (T.setTop (mkF m pc Ls (v :: st))) := k_ret K hd hr (by cases t <;> first | rfl | cases ht) (Or.inr (Or.inr (Or.inr (Or.inr ⟨rfl, ht, hv⟩)))) hq hc hs
theorem k_nret (K : Wk p l e R s m args below meth c Z a0 EL n0 y bytes maxL ret b T h locs cells slots) {Q : Option Value → Heap → (Addr → Prop) → Prop} {i : Int32} {t : FieldType} (hd : decode bytes pc = .ok (.ireturn, 1)) (hr : ret = some t) (ht : t = .boolean ∨ t = .byte ∨ t = .char ∨ t = .short) (hn : narrow t (.int i) = .int i) (hq : ∀ sf : Addr → Prop, (∀ x, x < h.size → Sfe Z EL b.vm h x → sf x) → Q (some (.int i)) h sf) (hc : cells ≤ R.cells) (hs : slots ≤ R.slots) : Goes p.tables e below (FinW Z EL s n0 R Q) (T.setTop (mkF m pc Ls (.int i :: st))) := k_ret K hd hr hn (Or.inl ⟨rfl, Or.inr ht, i, rfl⟩) hq hc hs
def Pu (w : Option Value) (h : Heap) (v : Option Value) (h' : Heap) (_ : Addr → Prop) : Prop := v = w ∧ h' = h
theorem own_met {yy : MethodName} {yb : ByteArray} {yml : Nat} {yret : Option FieldType} {rm : Room} {as' : Array Value} {SP : List Addr} {Q : Option Value → Heap → (Addr → Prop) → Prop} (C : Ct l Z EL n0 yy yb yml yret rm as' h SP Q) : MetFree l yy (head1 [Cond.code yy yb yml yret] rm) (fun a U => a = as' ∧ Z.Warmed39 U.vm ∧ U.heap = h) (fun _ _ _ _ _ => True) (fun _ U o U' => ∃ v L, o = .returned v ∧ (Fr n0 L ∧ Old Z n0 U'.heap ∧ Q v U'.heap (fun _ => True)) ∧ FrameEnd U o U' L rm.cells rm.slots) := fun p e ha hc hk s m args below hf happ hP hK => C [] p e ha hc hk s m args below hf happ ⟨hP.1, hP.2.1, hP.2.2, fun _ _ => trivial⟩ hK
theorem k_static (K : Wk p l e R s m args below meth c Z a0 EL n0 y bytes maxL ret b T h locs cells slots) {i : Nat} {yy : MethodName} {yb : ByteArray} {yml : Nat} {yret : Option FieldType} {rm : Room} {SP : List Addr} {Q : Option Value → Heap → (Addr → Prop) → Prop} {ps : List FieldType} {r : Option FieldType} (argsL rest : List Value) (W : Nat) (wl : (Cond.methodLink y.cls i yy).before a0 Z = true) (ws : (Cond.static yy).before a0 Z = true) (wz : (Cond.initialized yy.cls).before a0 Z = true) (wc : (Cond.code yy yb yml yret).before a0 Z = true) (hy : yy.cls ≠ "java/lang/invoke/MethodHandle" ∧ yy.cls ≠ "java/lang/invoke/VarHandle") (hpd : parseMethodDescriptor yy.desc = some ⟨ps, r⟩) (C : Ct l Z EL n0 yy yb yml yret rm argsL.toArray h SP Q) (hd : decode bytes pc = .ok (.invokestatic i, 3)) (hSP : ∀ x ∈ SP, x < h.size ∧ Sfe Z EL b.vm h x) (hp : pc + 3 = pc') (hsz : Ls.size = maxL) (hlen : argsL.length = ps.length) (hst : st = argsL.reverse ++ rest) (hW : (rest.map fun v => v.category).sum ≤ W) (hfr : rm.frames + 1 ≤ R.frames) (hlo : W + (yml + 11) + rm.locals ≤ R.locals) (hce : cells + rm.cells ≤ R.cells) (hsl : slots + rm.slots ≤ R.slots) (k : ∀ b' T' h' locs' v, Wk p l e R s m args below meth c Z a0 EL n0 y bytes maxL ret b' T' h' locs' (cells + rm.cells) (slots + rm.slots) → (∀ x, x < h.size → Sfe Z EL b.vm h x → Sfe Z EL b'.vm h' x) → Q v h' (Sfe Z EL b'.vm h') → Goes p.tables e below P (T'.setTop (mkF m pc' Ls (v.toList ++ rest)))) : Goes p.tables e below P (T.setTop (mkF m pc Ls st)) := by
  subst hp
  obtain ⟨v, _, ⟨T', L', c', n'⟩, -, X', ⟨Lc, ⟨hF, hO', hQ⟩, l', y', z'⟩, q⟩ := Jvm.LawKit.callS K.X K.hx (y := yy) K.hown (mvT K.hZ wl) (mvT K.hZ ws) (mvT K.hZ wz) (mvT K.hZ wc) hy (backOf (Q := fun v hh L => Fr n0 L ∧ Old Z n0 hh ∧ Q v hh (fun _ => True)) (W := W) (own_met C) K.hZ wc wz hfr hlo) (g := mkF m pc Ls st) rfl (hsz.trans K.hml.symm) (argsL := argsL) (rest := rest) (lenOf hpd hlen) hst (by show 2 * 0 + _ ≤ _; rw [Nat.mul_zero, Nat.zero_add]; exact hW) (hb K.hby hd) (fun _ _ => ⟨rfl, K.eT, hce, hsl⟩)
  dsimp only [Pt.U, Pt.locs, Pt.cells, Pt.slots] at X' l' y' z' q hQ hO'
  subst l' y' z'
  exact go q (k _ _ _ _ _ (K.move X' rfl (K.fr.app hF) hO' K.bs) (fun _ _ _ => trivial) hQ)
theorem k_staticP (K : Wk p l e R s m args below meth c Z a0 EL n0 y bytes maxL ret b T h locs cells slots) {i : Nat} {yy : MethodName} {yb : ByteArray} {yml : Nat} {yret : Option FieldType} {rm : Room} {SP : List Addr} {ps : List FieldType} {r : Option FieldType} (argsL rest : List Value) (W : Nat) (wl : (Cond.methodLink y.cls i yy).before a0 Z = true) (ws : (Cond.static yy).before a0 Z = true) (wz : (Cond.initialized yy.cls).before a0 Z = true) (wc : (Cond.code yy yb yml yret).before a0 Z = true) (hy : yy.cls ≠ "java/lang/invoke/MethodHandle" ∧ yy.cls ≠ "java/lang/invoke/VarHandle") (hpd : parseMethodDescriptor yy.desc = some ⟨ps, r⟩) {vv : Option Value} (C : Ct l Z EL n0 yy yb yml yret rm argsL.toArray h SP (Pu vv h)) (hd : decode bytes pc = .ok (.invokestatic i, 3)) (hSP : ∀ x ∈ SP, x < h.size ∧ Sfe Z EL b.vm h x) (hp : pc + 3 = pc') (hsz : Ls.size = maxL) (hlen : argsL.length = ps.length) (hst : st = argsL.reverse ++ rest) (hW : (rest.map fun v => v.category).sum ≤ W) (hfr : rm.frames + 1 ≤ R.frames) (hlo : W + (yml + 11) + rm.locals ≤ R.locals) (hce : cells + rm.cells ≤ R.cells) (hsl : slots + rm.slots ≤ R.slots) (k : ∀ b' T' locs', Wk p l e R s m args below meth c Z a0 EL n0 y bytes maxL ret b' T' h locs' (cells + rm.cells) (slots + rm.slots) → (∀ x, x < h.size → Sfe Z EL b.vm h x → Sfe Z EL b'.vm h x) → Goes p.tables e below P (T'.setTop (mkF m pc' Ls (vv.toList ++ rest)))) : Goes p.tables e below P (T.setTop (mkF m pc Ls st)) := k_static K argsL rest W wl ws wz wc hy hpd C hd hSP hp hsz hlen hst hW hfr hlo hce hsl (fun b' T' h' locs' v K' tr q => by obtain ⟨rfl, rfl⟩ := q; exact k _ _ _ K' tr)
theorem k_special (K : Wk p l e R s m args below meth c Z a0 EL n0 y bytes maxL ret b T h locs cells slots) {i : Nat} {yy : MethodName} {yb : ByteArray} {yml : Nat} {yret : Option FieldType} {rm : Room} {SP : List Addr} {Q : Option Value → Heap → (Addr → Prop) → Prop} {ps : List FieldType} {r : Option FieldType} (argsL rest : List Value) (W : Nat) {a : Addr} (wl : (Cond.methodLink y.cls i yy).before a0 Z = true) (wi : (Cond.instanceMethod yy).before a0 Z = true) (wz : (Cond.initialized yy.cls).before a0 Z = true) (wc : (Cond.code yy yb yml yret).before a0 Z = true) (hin : yy.name = "<init>") (hnr : yret = none) (hy : yy.cls ≠ "java/lang/invoke/MethodHandle" ∧ yy.cls ≠ "java/lang/invoke/VarHandle") (hpd : parseMethodDescriptor yy.desc = some ⟨ps, r⟩) (C : Ct l Z EL n0 yy yb yml yret rm (.ref a :: argsL).toArray h SP Q) (hd : decode bytes pc = .ok (.invokespecial i, 3)) (hSP : ∀ x ∈ SP, x < h.size ∧ Sfe Z EL b.vm h x) (hp : pc + 3 = pc') (hsz : Ls.size = maxL) (hlen : argsL.length = ps.length) (hst : st = argsL.reverse ++ .ref a :: rest) (hW : (rest.map fun v => v.category).sum ≤ W) (hfr : rm.frames + 1 ≤ R.frames) (hlo : W + (yml + 11) + rm.locals ≤ R.locals) (hce : cells + rm.cells ≤ R.cells) (hsl : slots + rm.slots ≤ R.slots) (k : ∀ b' T' h' locs' v, Wk p l e R s m args below meth c Z a0 EL n0 y bytes maxL ret b' T' h' locs' (cells + rm.cells) (slots + rm.slots) → (∀ x, x < h.size → Sfe Z EL b.vm h x → Sfe Z EL b'.vm h' x) → Q v h' (Sfe Z EL b'.vm h') → Goes p.tables e below P (T'.setTop (mkF m pc' Ls (v.toList ++ rest)))) : Goes p.tables e below P (T.setTop (mkF m pc Ls st)) := by
  subst hp
  subst hnr
  obtain ⟨v, _, ⟨T', L', c', n'⟩, -, X', ⟨Lc, ⟨hF, hO', hQ⟩, l', y', z'⟩, q⟩ := K.X.specialBack K.hx (y := yy) hin K.hown (mvT K.hZ wl) (mvT K.hZ wi) (mvT K.hZ wc) hy (backOf (Q := fun v hh L => Fr n0 L ∧ Old Z n0 hh ∧ Q v hh (fun _ => True)) (W := W) (own_met C) K.hZ wc wz hfr hlo) (g := mkF m pc Ls st) rfl (hsz.trans K.hml.symm) (Steps.refl _) (a := a) (argsL := argsL) (rest := rest) (lenOf hpd hlen) hst (by show 2 * 0 + _ ≤ _; rw [Nat.mul_zero, Nat.zero_add]; exact hW) (hb K.hby hd) (fun _ _ => ⟨rfl, K.eT, hce, hsl⟩)
  dsimp only [Pt.U, Pt.locs, Pt.cells, Pt.slots] at X' l' y' z' q hQ hO'
  subst l' y' z'
  exact go (fun _ z => q.trans z) (k _ _ _ _ _ (K.move X' rfl (K.fr.app hF) hO' K.bs) (fun _ _ _ => trivial) hQ)
theorem k_specialP (K : Wk p l e R s m args below meth c Z a0 EL n0 y bytes maxL ret b T h locs cells slots) {i : Nat} {yy : MethodName} {yb : ByteArray} {yml : Nat} {yret : Option FieldType} {rm : Room} {SP : List Addr} {ps : List FieldType} {r : Option FieldType} (argsL rest : List Value) (W : Nat) {a : Addr} (wl : (Cond.methodLink y.cls i yy).before a0 Z = true) (wi : (Cond.instanceMethod yy).before a0 Z = true) (wz : (Cond.initialized yy.cls).before a0 Z = true) (wc : (Cond.code yy yb yml yret).before a0 Z = true) (hin : yy.name = "<init>") (hnr : yret = none) (hy : yy.cls ≠ "java/lang/invoke/MethodHandle" ∧ yy.cls ≠ "java/lang/invoke/VarHandle") (hpd : parseMethodDescriptor yy.desc = some ⟨ps, r⟩) {vv : Option Value} (C : Ct l Z EL n0 yy yb yml yret rm (.ref a :: argsL).toArray h SP (Pu vv h)) (hd : decode bytes pc = .ok (.invokespecial i, 3)) (hSP : ∀ x ∈ SP, x < h.size ∧ Sfe Z EL b.vm h x) (hp : pc + 3 = pc') (hsz : Ls.size = maxL) (hlen : argsL.length = ps.length) (hst : st = argsL.reverse ++ .ref a :: rest) (hW : (rest.map fun v => v.category).sum ≤ W) (hfr : rm.frames + 1 ≤ R.frames) (hlo : W + (yml + 11) + rm.locals ≤ R.locals) (hce : cells + rm.cells ≤ R.cells) (hsl : slots + rm.slots ≤ R.slots) (k : ∀ b' T' locs', Wk p l e R s m args below meth c Z a0 EL n0 y bytes maxL ret b' T' h locs' (cells + rm.cells) (slots + rm.slots) → (∀ x, x < h.size → Sfe Z EL b.vm h x → Sfe Z EL b'.vm h x) → Goes p.tables e below P (T'.setTop (mkF m pc' Ls (vv.toList ++ rest)))) : Goes p.tables e below P (T.setTop (mkF m pc Ls st)) := k_special K argsL rest W wl wi wz wc hin hnr hy hpd C hd hSP hp hsz hlen hst hW hfr hlo hce hsl (fun b' T' h' locs' v K' tr q => by obtain ⟨rfl, rfl⟩ := q; exact k _ _ _ K' tr)
theorem k_virtual (K : Wk p l e R s m args below meth c Z a0 EL n0 y bytes maxL ret b T h locs cells slots) {i : Nat} {yy : MethodName} {yb : ByteArray} {yml : Nat} {yret : Option FieldType} {rm : Room} {SP : List Addr} {Q : Option Value → Heap → (Addr → Prop) → Prop} {ps : List FieldType} {r : Option FieldType} (argsL rest : List Value) (W : Nat) {a : Addr} {C0 : String} {yv : MethodName} (wl : (Cond.methodLink y.cls i yv).before a0 Z = true) (wd : (Cond.declares yv).before a0 Z = true) (wi : (Cond.instanceMethod yy).before a0 Z = true) (wse : (Cond.selects C0 yv yy).before a0 Z = true) (wz : (Cond.initialized yy.cls).before a0 Z = true) (wc : (Cond.code yy yb yml yret).before a0 Z = true) (hnf : NotFace b yv) (hvd : yv.desc = yy.desc) (hyv : yv.cls ≠ "java/lang/invoke/MethodHandle" ∧ yv.cls ≠ "java/lang/invoke/VarHandle") (E : Exa Z h a C0) (hy : yy.cls ≠ "java/lang/invoke/MethodHandle" ∧ yy.cls ≠ "java/lang/invoke/VarHandle") (hpd : parseMethodDescriptor yy.desc = some ⟨ps, r⟩) (C : Ct l Z EL n0 yy yb yml yret rm (.ref a :: argsL).toArray h SP Q) (hd : decode bytes pc = .ok (.invokevirtual i, 3)) (hSP : ∀ x ∈ SP, x < h.size ∧ Sfe Z EL b.vm h x) (hp : pc + 3 = pc') (hsz : Ls.size = maxL) (hlen : argsL.length = ps.length) (hst : st = argsL.reverse ++ .ref a :: rest) (hW : (rest.map fun v => v.category).sum ≤ W) (hfr : rm.frames + 1 ≤ R.frames) (hlo : W + (yml + 11) + rm.locals ≤ R.locals) (hce : cells + rm.cells ≤ R.cells) (hsl : slots + rm.slots ≤ R.slots) (k : ∀ b' T' h' locs' v, Wk p l e R s m args below meth c Z a0 EL n0 y bytes maxL ret b' T' h' locs' (cells + rm.cells) (slots + rm.slots) → (∀ x, x < h.size → Sfe Z EL b.vm h x → Sfe Z EL b'.vm h' x) → Q v h' (Sfe Z EL b'.vm h') → Goes p.tables e below P (T'.setTop (mkF m pc' Ls (v.toList ++ rest)))) : Goes p.tables e below P (T.setTop (mkF m pc Ls st)) := by
  subst hp
  obtain ⟨cq, kq, qa, qb, qc⟩ := isOf K.hZ K.eT E
  obtain ⟨v, _, ⟨T', L', c', n'⟩, -, X', ⟨Lc, ⟨hF, hO', hQ⟩, l', y', z'⟩, q⟩ := K.X.virtualBack K.hx (y := yv) (z := yy) K.hown (mvT K.hZ wl) (mvT K.hZ wd) hnf (mvT K.hZ wse) (mvT K.hZ wi) hyv (backOf (Q := fun v hh L => Fr n0 L ∧ Old Z n0 hh ∧ Q v hh (fun _ => True)) (W := W) (own_met C) K.hZ wc wz hfr hlo) qa qc (g := mkF m pc Ls st) rfl (hsz.trans K.hml.symm) (Steps.refl _) (argsL := argsL) (rest := rest) (lenOf (hvd ▸ hpd) hlen) hst (by show 2 * 0 + _ ≤ _; rw [Nat.mul_zero, Nat.zero_add]; exact hW) (hb K.hby hd) (fun _ _ => ⟨rfl, K.eT, hce, hsl⟩)
  dsimp only [Pt.U, Pt.locs, Pt.cells, Pt.slots] at X' l' y' z' q hQ hO'
  subst l' y' z'
  exact go (fun _ z => q.trans z) (k _ _ _ _ _ (K.move X' rfl (K.fr.app hF) hO' K.bs) (fun _ _ _ => trivial) hQ)
theorem k_virtualP (K : Wk p l e R s m args below meth c Z a0 EL n0 y bytes maxL ret b T h locs cells slots) {i : Nat} {yy : MethodName} {yb : ByteArray} {yml : Nat} {yret : Option FieldType} {rm : Room} {SP : List Addr} {ps : List FieldType} {r : Option FieldType} (argsL rest : List Value) (W : Nat) {a : Addr} {C0 : String} {yv : MethodName} (wl : (Cond.methodLink y.cls i yv).before a0 Z = true) (wd : (Cond.declares yv).before a0 Z = true) (wi : (Cond.instanceMethod yy).before a0 Z = true) (wse : (Cond.selects C0 yv yy).before a0 Z = true) (wz : (Cond.initialized yy.cls).before a0 Z = true) (wc : (Cond.code yy yb yml yret).before a0 Z = true) (hnf : NotFace b yv) (hvd : yv.desc = yy.desc) (hyv : yv.cls ≠ "java/lang/invoke/MethodHandle" ∧ yv.cls ≠ "java/lang/invoke/VarHandle") (E : Exa Z h a C0) (hy : yy.cls ≠ "java/lang/invoke/MethodHandle" ∧ yy.cls ≠ "java/lang/invoke/VarHandle") (hpd : parseMethodDescriptor yy.desc = some ⟨ps, r⟩) {vv : Option Value} (C : Ct l Z EL n0 yy yb yml yret rm (.ref a :: argsL).toArray h SP (Pu vv h)) (hd : decode bytes pc = .ok (.invokevirtual i, 3)) (hSP : ∀ x ∈ SP, x < h.size ∧ Sfe Z EL b.vm h x) (hp : pc + 3 = pc') (hsz : Ls.size = maxL) (hlen : argsL.length = ps.length) (hst : st = argsL.reverse ++ .ref a :: rest) (hW : (rest.map fun v => v.category).sum ≤ W) (hfr : rm.frames + 1 ≤ R.frames) (hlo : W + (yml + 11) + rm.locals ≤ R.locals) (hce : cells + rm.cells ≤ R.cells) (hsl : slots + rm.slots ≤ R.slots) (k : ∀ b' T' locs', Wk p l e R s m args below meth c Z a0 EL n0 y bytes maxL ret b' T' h locs' (cells + rm.cells) (slots + rm.slots) → (∀ x, x < h.size → Sfe Z EL b.vm h x → Sfe Z EL b'.vm h x) → Goes p.tables e below P (T'.setTop (mkF m pc' Ls (vv.toList ++ rest)))) : Goes p.tables e below P (T.setTop (mkF m pc Ls st)) := k_virtual K argsL rest W wl wd wi wse wz wc hnf hvd hyv E hy hpd C hd hSP hp hsz hlen hst hW hfr hlo hce hsl (fun b' T' h' locs' v K' tr q => by obtain ⟨rfl, rfl⟩ := q; exact k _ _ _ K' tr)
theorem own_sel {args args' : Array Value} {C0 : String} {yv yy : MethodName} (w : (Cond.selects C0 yv yy).before args b = true) : (Cond.selects C0 yv yy).before args' b = true := mvT (State.Warmed39.refl b) w
theorem own_priv (K : Wk p l e R s m args below meth c Z a0 EL n0 y bytes maxL ret b T h locs cells slots) {C0 : String} {n : Nat} {yy : MethodName} (hc0 : C0 = yy.cls) (wi : (Cond.instantiable C0 n).before a0 Z = true) (wim : (Cond.instanceMethod yy).before a0 Z = true) (wpr : (Cond.privateMethod yy).before a0 Z = true) (hy : yy.cls ≠ "java/lang/invoke/MethodHandle" ∧ yy.cls ≠ "java/lang/invoke/VarHandle") : (Cond.selects yy.cls yy yy).before a0 b = true := by
  subst hc0
  have q : (Cond.instantiable yy.cls n).before a0 b = true := mvT K.hZ wi
  obtain ⟨c, k, h1, h2, h3, h4, -⟩ := Cond.instantiable_spec q
  simp only [Bool.or_eq_false_iff] at h4
  exact selects_self_of_private h1 h2 h4.1 (Cond.privateMethod_at (mvP K.hZ wpr (args := #[]))) (mvT K.hZ wim) hy
theorem k_private (K : Wk p l e R s m args below meth c Z a0 EL n0 y bytes maxL ret b T h locs cells slots) {i : Nat} {yy : MethodName} {yb : ByteArray} {yml : Nat} {yret : Option FieldType} {rm : Room} {SP : List Addr} {Q : Option Value → Heap → (Addr → Prop) → Prop} {ps : List FieldType} {r : Option FieldType} (argsL rest : List Value) (W : Nat) {a : Addr} {C0 : String} (wl : (Cond.methodLink y.cls i yy).before a0 Z = true) (wi : (Cond.instanceMethod yy).before a0 Z = true) (wse : (Cond.selects yy.cls yy yy).before a0 b = true) (wpr : (Cond.privateMethod yy).before a0 Z = true) (wz : (Cond.initialized yy.cls).before a0 Z = true) (wc : (Cond.code yy yb yml yret).before a0 Z = true) (E : Exa Z h a C0) (hy : yy.cls ≠ "java/lang/invoke/MethodHandle" ∧ yy.cls ≠ "java/lang/invoke/VarHandle") (hpd : parseMethodDescriptor yy.desc = some ⟨ps, r⟩) (C : Ct l Z EL n0 yy yb yml yret rm (.ref a :: argsL).toArray h SP Q) (hd : decode bytes pc = .ok (.invokevirtual i, 3)) (hSP : ∀ x ∈ SP, x < h.size ∧ Sfe Z EL b.vm h x) (hp : pc + 3 = pc') (hsz : Ls.size = maxL) (hlen : argsL.length = ps.length) (hst : st = argsL.reverse ++ .ref a :: rest) (hW : (rest.map fun v => v.category).sum ≤ W) (hfr : rm.frames + 1 ≤ R.frames) (hlo : W + (yml + 11) + rm.locals ≤ R.locals) (hce : cells + rm.cells ≤ R.cells) (hsl : slots + rm.slots ≤ R.slots) (k : ∀ b' T' h' locs' v, Wk p l e R s m args below meth c Z a0 EL n0 y bytes maxL ret b' T' h' locs' (cells + rm.cells) (slots + rm.slots) → (∀ x, x < h.size → Sfe Z EL b.vm h x → Sfe Z EL b'.vm h' x) → Q v h' (Sfe Z EL b'.vm h') → Goes p.tables e below P (T'.setTop (mkF m pc' Ls (v.toList ++ rest)))) : Goes p.tables e below P (T.setTop (mkF m pc Ls st)) := by
  subst hp
  obtain ⟨cq, qa, qb⟩ := E.cell
  obtain ⟨v, _, ⟨T', L', c', n'⟩, -, X', ⟨Lc, ⟨hF, hO', hQ⟩, l', y', z'⟩, q⟩ := K.X.privateBack K.hx (y := yy) K.hown (mvT K.hZ wl) (mvT K.hZ wi) (own_sel wse) (Cond.privateMethod_at (mvP K.hZ wpr (args := #[]))) (mvT K.hZ wc) hy (backOf (Q := fun v hh L => Fr n0 L ∧ Old Z n0 hh ∧ Q v hh (fun _ => True)) (W := W) (own_met C) K.hZ wc wz hfr hlo) (g := mkF m pc Ls st) rfl (hsz.trans K.hml.symm) (Steps.refl _) (a := a) (by rw [K.eT]; exact qa) qb (argsL := argsL) (rest := rest) (lenOf hpd hlen) hst (by show 2 * 0 + _ ≤ _; rw [Nat.mul_zero, Nat.zero_add]; exact hW) (hb K.hby hd) (fun _ _ => ⟨rfl, K.eT, hce, hsl⟩)
  dsimp only [Pt.U, Pt.locs, Pt.cells, Pt.slots] at X' l' y' z' q hQ hO'
  subst l' y' z'
  exact go (fun _ z => q.trans z) (k _ _ _ _ _ (K.move X' rfl (K.fr.app hF) hO' K.bs) (fun _ _ _ => trivial) hQ)
theorem k_privateP (K : Wk p l e R s m args below meth c Z a0 EL n0 y bytes maxL ret b T h locs cells slots) {i : Nat} {yy : MethodName} {yb : ByteArray} {yml : Nat} {yret : Option FieldType} {rm : Room} {SP : List Addr} {ps : List FieldType} {r : Option FieldType} (argsL rest : List Value) (W : Nat) {a : Addr} {C0 : String} (wl : (Cond.methodLink y.cls i yy).before a0 Z = true) (wi : (Cond.instanceMethod yy).before a0 Z = true) (wse : (Cond.selects yy.cls yy yy).before a0 b = true) (wpr : (Cond.privateMethod yy).before a0 Z = true) (wz : (Cond.initialized yy.cls).before a0 Z = true) (wc : (Cond.code yy yb yml yret).before a0 Z = true) (E : Exa Z h a C0) (hy : yy.cls ≠ "java/lang/invoke/MethodHandle" ∧ yy.cls ≠ "java/lang/invoke/VarHandle") (hpd : parseMethodDescriptor yy.desc = some ⟨ps, r⟩) {vv : Option Value} (C : Ct l Z EL n0 yy yb yml yret rm (.ref a :: argsL).toArray h SP (Pu vv h)) (hd : decode bytes pc = .ok (.invokevirtual i, 3)) (hSP : ∀ x ∈ SP, x < h.size ∧ Sfe Z EL b.vm h x) (hp : pc + 3 = pc') (hsz : Ls.size = maxL) (hlen : argsL.length = ps.length) (hst : st = argsL.reverse ++ .ref a :: rest) (hW : (rest.map fun v => v.category).sum ≤ W) (hfr : rm.frames + 1 ≤ R.frames) (hlo : W + (yml + 11) + rm.locals ≤ R.locals) (hce : cells + rm.cells ≤ R.cells) (hsl : slots + rm.slots ≤ R.slots) (k : ∀ b' T' locs', Wk p l e R s m args below meth c Z a0 EL n0 y bytes maxL ret b' T' h locs' (cells + rm.cells) (slots + rm.slots) → (∀ x, x < h.size → Sfe Z EL b.vm h x → Sfe Z EL b'.vm h x) → Goes p.tables e below P (T'.setTop (mkF m pc' Ls (vv.toList ++ rest)))) : Goes p.tables e below P (T.setTop (mkF m pc Ls st)) := k_private K argsL rest W wl wi wse wpr wz wc E hy hpd C hd hSP hp hsz hlen hst hW hfr hlo hce hsl (fun b' T' h' locs' v K' tr q => by obtain ⟨rfl, rfl⟩ := q; exact k _ _ _ K' tr)
theorem k_interface (K : Wk p l e R s m args below meth c Z a0 EL n0 y bytes maxL ret b T h locs cells slots) {i : Nat} {yy : MethodName} {yb : ByteArray} {yml : Nat} {yret : Option FieldType} {rm : Room} {SP : List Addr} {Q : Option Value → Heap → (Addr → Prop) → Prop} {ps : List FieldType} {r : Option FieldType} (argsL rest : List Value) (W : Nat) {a : Addr} {C0 : String} {yv : MethodName} {cnt : Nat} (wl : (Cond.methodLink y.cls i yv).before a0 Z = true) (wd : (Cond.declares yv).before a0 Z = true) (wf : (Cond.interfaceMethod yv.cls yv.cls yv.name yv.desc).before args b = true) (wse : (Cond.selects C0 yv yy).before a0 Z = true) (wi : (Cond.instanceMethod yy).before a0 Z = true) (wpu : (Cond.publicMethod yy).before a0 Z = true) (wun : (Cond.unhidden C0 yv.name yv.desc).before a0 Z = true) (wca : (Cond.castable C0 yv.cls).before a0 Z = true) (wz : (Cond.initialized yy.cls).before a0 Z = true) (wc : (Cond.code yy yb yml yret).before a0 Z = true) (hvd : yv.desc = yy.desc) (hyv : yv.cls ≠ "java/lang/invoke/MethodHandle" ∧ yv.cls ≠ "java/lang/invoke/VarHandle") (E : Exa Z h a C0) (hy : yy.cls ≠ "java/lang/invoke/MethodHandle" ∧ yy.cls ≠ "java/lang/invoke/VarHandle") (hpd : parseMethodDescriptor yy.desc = some ⟨ps, r⟩) (C : Ct l Z EL n0 yy yb yml yret rm (.ref a :: argsL).toArray h SP Q) (hd : decode bytes pc = .ok (.invokeinterface i cnt, 5)) (hSP : ∀ x ∈ SP, x < h.size ∧ Sfe Z EL b.vm h x) (hp : pc + 5 = pc') (hsz : Ls.size = maxL) (hlen : argsL.length = ps.length) (hst : st = argsL.reverse ++ .ref a :: rest) (hW : (rest.map fun v => v.category).sum ≤ W) (hfr : rm.frames + 1 ≤ R.frames) (hlo : W + (yml + 11) + rm.locals ≤ R.locals) (hce : cells + rm.cells ≤ R.cells) (hsl : slots + rm.slots ≤ R.slots) (k : ∀ b' T' h' locs' v, Wk p l e R s m args below meth c Z a0 EL n0 y bytes maxL ret b' T' h' locs' (cells + rm.cells) (slots + rm.slots) → (∀ x, x < h.size → Sfe Z EL b.vm h x → Sfe Z EL b'.vm h' x) → Q v h' (Sfe Z EL b'.vm h') → Goes p.tables e below P (T'.setTop (mkF m pc' Ls (v.toList ++ rest)))) : Goes p.tables e below P (T.setTop (mkF m pc Ls st)) := by
  subst hp
  obtain ⟨cq, kq, qa, qb, qc⟩ := isOf K.hZ K.eT E
  obtain ⟨v, _, ⟨T', L', c', n'⟩, -, X', ⟨Lc, ⟨hF, hO', hQ⟩, l', y', z'⟩, q⟩ := K.X.interfaceBack K.hx (xi := yv) (y := yy) K.hown (mvT K.hZ wl) (mvT K.hZ wd) wf (mvT K.hZ wse) (mvT K.hZ wi) (mvT K.hZ wpu) (mvT K.hZ wun) (mvT K.hZ wca) hyv (backOf (Q := fun v hh L => Fr n0 L ∧ Old Z n0 hh ∧ Q v hh (fun _ => True)) (W := W) (own_met C) K.hZ wc wz hfr hlo) qa qb qc (g := mkF m pc Ls st) rfl (hsz.trans K.hml.symm) (Steps.refl _) (argsL := argsL) (rest := rest) (lenOf (hvd ▸ hpd) hlen) hst (by show 2 * 0 + _ ≤ _; rw [Nat.mul_zero, Nat.zero_add]; exact hW) (hb K.hby hd) (fun _ _ => ⟨rfl, K.eT, hce, hsl⟩)
  dsimp only [Pt.U, Pt.locs, Pt.cells, Pt.slots] at X' l' y' z' q hQ hO'
  subst l' y' z'
  exact go (fun _ z => q.trans z) (k _ _ _ _ _ (K.move X' rfl (K.fr.app hF) hO' K.bs) (fun _ _ _ => trivial) hQ)
theorem k_interfaceP (K : Wk p l e R s m args below meth c Z a0 EL n0 y bytes maxL ret b T h locs cells slots) {i : Nat} {yy : MethodName} {yb : ByteArray} {yml : Nat} {yret : Option FieldType} {rm : Room} {SP : List Addr} {ps : List FieldType} {r : Option FieldType} (argsL rest : List Value) (W : Nat) {a : Addr} {C0 : String} {yv : MethodName} {cnt : Nat} (wl : (Cond.methodLink y.cls i yv).before a0 Z = true) (wd : (Cond.declares yv).before a0 Z = true) (wf : (Cond.interfaceMethod yv.cls yv.cls yv.name yv.desc).before args b = true) (wse : (Cond.selects C0 yv yy).before a0 Z = true) (wi : (Cond.instanceMethod yy).before a0 Z = true) (wpu : (Cond.publicMethod yy).before a0 Z = true) (wun : (Cond.unhidden C0 yv.name yv.desc).before a0 Z = true) (wca : (Cond.castable C0 yv.cls).before a0 Z = true) (wz : (Cond.initialized yy.cls).before a0 Z = true) (wc : (Cond.code yy yb yml yret).before a0 Z = true) (hvd : yv.desc = yy.desc) (hyv : yv.cls ≠ "java/lang/invoke/MethodHandle" ∧ yv.cls ≠ "java/lang/invoke/VarHandle") (E : Exa Z h a C0) (hy : yy.cls ≠ "java/lang/invoke/MethodHandle" ∧ yy.cls ≠ "java/lang/invoke/VarHandle") (hpd : parseMethodDescriptor yy.desc = some ⟨ps, r⟩) {vv : Option Value} (C : Ct l Z EL n0 yy yb yml yret rm (.ref a :: argsL).toArray h SP (Pu vv h)) (hd : decode bytes pc = .ok (.invokeinterface i cnt, 5)) (hSP : ∀ x ∈ SP, x < h.size ∧ Sfe Z EL b.vm h x) (hp : pc + 5 = pc') (hsz : Ls.size = maxL) (hlen : argsL.length = ps.length) (hst : st = argsL.reverse ++ .ref a :: rest) (hW : (rest.map fun v => v.category).sum ≤ W) (hfr : rm.frames + 1 ≤ R.frames) (hlo : W + (yml + 11) + rm.locals ≤ R.locals) (hce : cells + rm.cells ≤ R.cells) (hsl : slots + rm.slots ≤ R.slots) (k : ∀ b' T' locs', Wk p l e R s m args below meth c Z a0 EL n0 y bytes maxL ret b' T' h locs' (cells + rm.cells) (slots + rm.slots) → (∀ x, x < h.size → Sfe Z EL b.vm h x → Sfe Z EL b'.vm h x) → Goes p.tables e below P (T'.setTop (mkF m pc' Ls (vv.toList ++ rest)))) : Goes p.tables e below P (T.setTop (mkF m pc Ls st)) := k_interface K argsL rest W wl wd wf wse wi wpu wun wca wz wc hvd hyv E hy hpd C hd hSP hp hsz hlen hst hW hfr hlo hce hsl (fun b' T' h' locs' v K' tr q => by obtain ⟨rfl, rfl⟩ := q; exact k _ _ _ K' tr)
theorem k_initO (K : Wk p l e R s m args below meth c Z a0 EL n0 y bytes maxL ret b T h locs cells slots) {i : Nat} {a : Addr} (wl : (Cond.methodLink y.cls i Lib.objectInit).before a0 Z = true) (wi : (Cond.instanceMethod Lib.objectInit).before a0 Z = true) (wc : (Cond.code Lib.objectInit ⟨#[0xb1]⟩ 1 none).before a0 Z = true) (hd : decode bytes pc = .ok (.invokespecial i, 3)) (hp : pc + 3 = pc') (hsz : Ls.size = maxL) (hfr : 1 ≤ R.frames) (W : Nat) (hW : (st.map fun v => v.category).sum ≤ W) (hlo : W + 12 ≤ R.locals) (k : ∀ T', Wk p l e R s m args below meth c Z a0 EL n0 y bytes maxL ret b T' h locs cells slots → Goes p.tables e below P (T'.setTop (mkF m pc' Ls st))) : Goes p.tables e below P (T.setTop (mkF m pc Ls (.ref a :: st))) := by
  subst hp
  obtain ⟨T', X', e', q⟩ := initO K.X K.hx K.hZ K.hown wl wi wc K.eT (g := mkF m pc Ls (.ref a :: st)) rfl (hsz.trans K.hml.symm) rfl (hb K.hby hd) hfr (W := W) (by show 2 * 0 + _ ≤ _; rw [Nat.mul_zero, Nat.zero_add]; exact hW) hlo
  exact go q (k T' (K.move X' e' K.fr K.old K.bs))
end Own
abbrev Tb (a0 : Array Value) (Z : State) : Prop := ∀ d ∈ tables_1, d.before a0 Z = true
theorem own_n0 {Z : State} {n0 : Nat} {h : Heap} (O : Old Z n0 h) : n0 ≤ h.size := O.1 ▸ O.2.1
theorem own_ne {x a : Addr} {h : Heap} (q : x < h.size) (g : a = h.size) : x ≠ a := fun e => by rw [e, g] at q; exact Nat.lt_irrefl _ q
theorem own_ne2 {x a : Addr} {h : Heap} (q : x < h.size) (g : h.size ≤ a) : x ≠ a := Nat.ne_of_lt (Nat.lt_of_lt_of_le q g)
theorem own_old {Z : State} {n0 : Nat} {h : Heap} {a : Addr} (O : Old Z n0 h) (g : a = h.size) : n0 ≤ a := g ▸ own_n0 O
def Str (Z : State) (h : Heap) (a b : Addr) (k : ClassId) (cd z : Int32) (vs : List Value) : Prop := Exa Z h a "java/lang/String" ∧ Fld Z h a "java/lang/String" "coder" "B" (.int cd) ∧ Fld Z h a "java/lang/String" "value" "[B" (.ref b) ∧ Arv Z h b k .byte z vs (.int 0)
section StrFacts
variable {Z : State} {h h' : Heap} {a b x : Addr} {k : ClassId} {cd z : Int32} {vs : List Value} {sl : Nat} {v : Value} {ws : List Addr}
theorem Str.ext (S : Str Z h a b k cd z vs) (E : Ext h h') : Str Z h' a b k cd z vs := ⟨S.1.ext E, S.2.1.ext E, S.2.2.1.ext E, S.2.2.2.ext E⟩
theorem Str.keep (S : Str Z h a b k cd z vs) (K : Keep h h' ws) (q1 : a ∉ ws) (q2 : b ∉ ws) : Str Z h' a b k cd z vs := ⟨S.1.keep K, S.2.1.keep K q1, S.2.2.1.keep K q1, S.2.2.2.keep K q2⟩
theorem Str.other (S : Str Z h a b k cd z vs) (W : Wr h h' x sl v) (q1 : a ≠ x) (q2 : b ≠ x) : Str Z h' a b k cd z vs := ⟨S.1.wr W, S.2.1.other W (Or.inl q1), S.2.2.1.other W (Or.inl q1), S.2.2.2.other W q2⟩
theorem Str.lt (S : Str Z h a b k cd z vs) : a < h.size := S.1.lt
theorem Str.blt (S : Str Z h a b k cd z vs) : b < h.size := S.2.2.2.lt
end StrFacts
theorem d_jdk_42_method_152_code_0 : decode jdk_42_method_152_code 0 = .ok (.getstatic 38, 3) := by decide +kernel
theorem w15 {Z : State} {a0 : Array Value} (hw : Tb a0 Z) : (Jvm.Cond.fieldLink "java/lang/String" (38 : Nat) "java/lang/String" "COMPACT_STRINGS" "Z").before a0 Z = true := hw _ (List.mem_of_getElem? (i := 15) rfl)
theorem d_jdk_42_method_152_code_3 : decode jdk_42_method_152_code 3 = .ok (.ifCond .eq 10, 3) := by decide +kernel
theorem d_jdk_42_method_152_code_6 : decode jdk_42_method_152_code 6 = .ok (.aload_n 0, 1) := by decide +kernel
theorem d_jdk_42_method_152_code_7 : decode jdk_42_method_152_code 7 = .ok (.getfield 15, 3) := by decide +kernel
theorem w27 {Z : State} {a0 : Array Value} (hw : Tb a0 Z) : (Jvm.Cond.fieldLink "java/lang/String" (15 : Nat) "java/lang/String" "coder" "B").before a0 Z = true := hw _ (List.mem_of_getElem? (i := 27) rfl)
theorem d_jdk_42_method_152_code_10 : decode jdk_42_method_152_code 10 = .ok (.goto 4, 3) := by decide +kernel
theorem d_jdk_42_method_152_code_14 : decode jdk_42_method_152_code 14 = .ok (.ireturn, 1) := by decide +kernel
theorem pl_java_lang_String : plainName "java/lang/String" = true := by first | (simp [plainName, overriddenIn]; done) | decide +kernel
set_option maxRecDepth 65536 in
set_option maxHeartbeats 40000000 in
theorem c_coder (l : Launch) (Z : State) (a0 : Array Value) (hw : Tb a0 Z) (n0 : Nat) (a b : Addr) (k : ClassId) (cd z : Int32) (vs : List Value) (cs0 : Int32) (h0 : Heap) (O : Old Z n0 h0) (S : Str Z h0 a b k cd z vs) (hcd : cd = 0 ∨ cd = 1) (SC : Sta Z Z.heap "java/lang/String" "COMPACT_STRINGS" "Z" (.int cs0)) (hcs : ¬ cs0 = 0) :
    Ct l Z [] n0 (⟨"java/lang/String", "coder", "()B"⟩ : MethodName) jdk_42_method_152_code 1 (some .byte) ({ frames := 0, cells := 0, slots := 0, locals := 0 } : Room) #[(.ref a)] h0 [] (Pu (some (.int cd)) h0) := by
  refine Ct.of (a0 := a0) #[.val (.ref a)] O (plainFor_of_name pl_java_lang_String) (fun m => by first | (simp [entryFrame, mkF, argsToLocals, Value.category]; done) | rfl) ?_
  intro p_ e_ s_ m_ below_ meth_ c_ b_ T_ K hSP
  refine k_getS K (w15 hw) Via.refl SC d_jdk_42_method_152_code_0 (pc' := 3) rfl ?_
  intro T1 K1
  refine k_if_eq K1 d_jdk_42_method_152_code_3 (by decide) (pc' := 13) (pc2 := 6) (by decide) rfl (fun q => absurd q hcs) (fun hc3 => ?_)
  refine k_aloadN K1 d_jdk_42_method_152_code_6 (pc' := 7) rfl rfl rfl ?_
  refine k_getF K1 (w27 hw) Via.refl S.2.1 d_jdk_42_method_152_code_7 (pc' := 10) rfl ?_
  intro T2 K2
  refine k_goto K2 d_jdk_42_method_152_code_10 (by decide) (pc' := 14) (by decide) ?_
  exact k_nret K2 d_jdk_42_method_152_code_14 rfl (by simp) (by rcases hcd with rfl | rfl <;> rfl) (fun sf ht => ⟨rfl, rfl⟩) (by decide) (by decide)
theorem d_jdk_42_method_54_code_0 : decode jdk_42_method_54_code 0 = .ok (.aload_n 0, 1) := by decide +kernel
theorem d_jdk_42_method_54_code_1 : decode jdk_42_method_54_code 1 = .ok (.getfield 9, 3) := by decide +kernel
theorem w29 {Z : State} {a0 : Array Value} (hw : Tb a0 Z) : (Jvm.Cond.fieldLink "java/lang/String" (9 : Nat) "java/lang/String" "value" "[B").before a0 Z = true := hw _ (List.mem_of_getElem? (i := 29) rfl)
theorem d_jdk_42_method_54_code_4 : decode jdk_42_method_54_code 4 = .ok (.arraylength, 1) := by decide +kernel
theorem d_jdk_42_method_54_code_5 : decode jdk_42_method_54_code 5 = .ok (.aload_n 0, 1) := by decide +kernel
theorem d_jdk_42_method_54_code_6 : decode jdk_42_method_54_code 6 = .ok (.invokevirtual 335, 3) := by decide +kernel
theorem w63 {Z : State} {a0 : Array Value} (hw : Tb a0 Z) : (Jvm.Cond.methodLink "java/lang/String" (335 : Nat) ({ cls := "java/lang/String", name := "coder", desc := "()B" } : Jvm.MethodName)).before a0 Z = true := hw _ (List.mem_of_getElem? (i := 63) rfl)
theorem w4 {Z : State} {a0 : Array Value} (hw : Tb a0 Z) : (Jvm.Cond.initialized "java/lang/String").before a0 Z = true := hw _ (List.mem_of_getElem? (i := 4) rfl)
theorem w67 {Z : State} {a0 : Array Value} (hw : Tb a0 Z) : (Jvm.Cond.code ({ cls := "java/lang/String", name := "coder", desc := "()B" } : Jvm.MethodName) jdk_42_method_152_code (1 : Nat) (Option.some Jvm.ClassFile.FieldType.byte)).before a0 Z = true := hw _ (List.mem_of_getElem? (i := 67) rfl)
theorem w66 {Z : State} {a0 : Array Value} (hw : Tb a0 Z) : (Jvm.Cond.selects "java/lang/String" ({ cls := "java/lang/String", name := "coder", desc := "()B" } : Jvm.MethodName) ({ cls := "java/lang/String", name := "coder", desc := "()B" } : Jvm.MethodName)).before a0 Z = true := hw _ (List.mem_of_getElem? (i := 66) rfl)
theorem w64 {Z : State} {a0 : Array Value} (hw : Tb a0 Z) : (Jvm.Cond.declares ({ cls := "java/lang/String", name := "coder", desc := "()B" } : Jvm.MethodName)).before a0 Z = true := hw _ (List.mem_of_getElem? (i := 64) rfl)
theorem w65 {Z : State} {a0 : Array Value} (hw : Tb a0 Z) : (Jvm.Cond.instanceMethod ({ cls := "java/lang/String", name := "coder", desc := "()B" } : Jvm.MethodName)).before a0 Z = true := hw _ (List.mem_of_getElem? (i := 65) rfl)
theorem pd___B_320 : parseMethodDescriptor "()B" = some ⟨[], some .byte⟩ := by decide +kernel
theorem d_jdk_42_method_54_code_9 : decode jdk_42_method_54_code 9 = .ok (.ishr, 1) := by decide +kernel
theorem d_jdk_42_method_54_code_10 : decode jdk_42_method_54_code 10 = .ok (.ireturn, 1) := by decide +kernel
set_option maxRecDepth 65536 in
set_option maxHeartbeats 40000000 in
theorem c_length (l : Launch) (Z : State) (a0 : Array Value) (hw : Tb a0 Z) (n0 : Nat) (a b : Addr) (k : ClassId) (cd z : Int32) (vs : List Value) (cs0 : Int32) (h0 : Heap) (O : Old Z n0 h0) (S : Str Z h0 a b k cd z vs) (hcd : cd = 0 ∨ cd = 1) (SC : Sta Z Z.heap "java/lang/String" "COMPACT_STRINGS" "Z" (.int cs0)) (hcs : ¬ cs0 = 0) :
    Ct l Z [] n0 (⟨"java/lang/String", "length", "()I"⟩ : MethodName) jdk_42_method_54_code 1 (some .int) ({ frames := 1, cells := 0, slots := 0, locals := 13 } : Room) #[(.ref a)] h0 [] (Pu (some (.int (z >>> (cd &&& 31)))) h0) := by
  refine Ct.of (a0 := a0) #[.val (.ref a)] O (plainFor_of_name pl_java_lang_String) (fun m => by first | (simp [entryFrame, mkF, argsToLocals, Value.category]; done) | rfl) ?_
  intro p_ e_ s_ m_ below_ meth_ c_ b_ T_ K hSP
  refine k_aloadN K d_jdk_42_method_54_code_0 (pc' := 1) rfl rfl rfl ?_
  refine k_getF K (w29 hw) Via.refl S.2.2.1 d_jdk_42_method_54_code_1 (pc' := 4) rfl ?_
  intro T3 K3
  refine k_len K3 S.2.2.2 d_jdk_42_method_54_code_4 (pc' := 5) rfl ?_
  refine k_aloadN K3 d_jdk_42_method_54_code_5 (pc' := 6) rfl rfl rfl ?_
  refine k_virtualP K3 [] [(.int z)] 1 (w63 hw) (w64 hw) (w65 hw) (w66 hw) (w4 hw) (w67 hw) (notFace_of_selects (args := #[]) (mvT K3.hZ (w66 hw))) rfl (by decide) S.1 (by decide) pd___B_320 (c_coder l Z a0 hw n0 a b k cd z vs cs0 h0 K3.old S hcd SC hcs) d_jdk_42_method_54_code_6 nofun (pc' := 9) rfl rfl rfl rfl (Nat.le_of_eq rfl) (by decide) (by decide) (by decide) (by decide) ?_
  intro b4 T4 L4 K4 tr4
  show Goes p_.tables e_ below_ _ (T4.setTop (mkF m_ 9 #[.val (.ref a)] [(.int cd), (.int z)]))
  refine k_ishr K4 d_jdk_42_method_54_code_9 (pc' := 10) rfl ?_
  exact k_iret K4 d_jdk_42_method_54_code_10 rfl (fun sf ht => ⟨rfl, rfl⟩) (by decide) (by decide)
theorem d_jdk_42_method_55_code_0 : decode jdk_42_method_55_code 0 = .ok (.aload_n 0, 1) := by decide +kernel
theorem d_jdk_42_method_55_code_1 : decode jdk_42_method_55_code 1 = .ok (.getfield 9, 3) := by decide +kernel
theorem d_jdk_42_method_55_code_4 : decode jdk_42_method_55_code 4 = .ok (.arraylength, 1) := by decide +kernel
theorem d_jdk_42_method_55_code_5 : decode jdk_42_method_55_code 5 = .ok (.ifCond .ne 7, 3) := by decide +kernel
theorem d_jdk_42_method_55_code_12 : decode jdk_42_method_55_code 12 = .ok (.iconst 0, 1) := by decide +kernel
theorem d_jdk_42_method_55_code_13 : decode jdk_42_method_55_code 13 = .ok (.ireturn, 1) := by decide +kernel
theorem d_jdk_42_method_55_code_8 : decode jdk_42_method_55_code 8 = .ok (.iconst 1, 1) := by decide +kernel
theorem d_jdk_42_method_55_code_9 : decode jdk_42_method_55_code 9 = .ok (.goto 4, 3) := by decide +kernel
set_option maxRecDepth 65536 in
set_option maxHeartbeats 40000000 in
theorem c_isEmpty (l : Launch) (Z : State) (a0 : Array Value) (hw : Tb a0 Z) (n0 : Nat) (a b : Addr) (k : ClassId) (cd z : Int32) (vs : List Value) (h0 : Heap) (O : Old Z n0 h0) (S : Str Z h0 a b k cd z vs) :
    Ct l Z [] n0 (⟨"java/lang/String", "isEmpty", "()Z"⟩ : MethodName) jdk_42_method_55_code 1 (some .boolean) ({ frames := 0, cells := 0, slots := 0, locals := 0 } : Room) #[(.ref a)] h0 [] (Pu (some (.int (if z = 0 then 1 else 0))) h0) := by
  refine Ct.of (a0 := a0) #[.val (.ref a)] O (plainFor_of_name pl_java_lang_String) (fun m => by first | (simp [entryFrame, mkF, argsToLocals, Value.category]; done) | rfl) ?_
  intro p_ e_ s_ m_ below_ meth_ c_ b_ T_ K hSP
  refine k_aloadN K d_jdk_42_method_55_code_0 (pc' := 1) rfl rfl rfl ?_
  refine k_getF K (w29 hw) Via.refl S.2.2.1 d_jdk_42_method_55_code_1 (pc' := 4) rfl ?_
  intro T5 K5
  refine k_len K5 S.2.2.2 d_jdk_42_method_55_code_4 (pc' := 5) rfl ?_
  refine k_if_ne K5 d_jdk_42_method_55_code_5 (by decide) (pc' := 12) (pc2 := 8) (by decide) rfl (fun hc5 => ?_) (fun hc5 => ?_)
  · refine k_iconst K5 (0 : Int32) d_jdk_42_method_55_code_12 (pc' := 13) rfl rfl ?_
    exact k_nret K5 d_jdk_42_method_55_code_13 rfl (by simp) rfl (fun sf ht => ⟨by rw [if_neg hc5], rfl⟩) (by decide) (by decide)
  · refine k_iconst K5 (1 : Int32) d_jdk_42_method_55_code_8 (pc' := 9) rfl rfl ?_
    refine k_goto K5 d_jdk_42_method_55_code_9 (by decide) (pc' := 13) (by decide) ?_
    exact k_nret K5 d_jdk_42_method_55_code_13 rfl (by simp) rfl (fun sf ht => ⟨by rw [if_pos hc5], rfl⟩) (by decide) (by decide)
theorem d_jdk_29_method_65_code_0 : decode jdk_29_method_65_code 0 = .ok (.iload_n 0, 1) := by decide +kernel
theorem d_jdk_29_method_65_code_1 : decode jdk_29_method_65_code 1 = .ok (.iload_n 1, 1) := by decide +kernel
theorem d_jdk_29_method_65_code_2 : decode jdk_29_method_65_code 2 = .ok (.if_icmp .lt 7, 3) := by decide +kernel
theorem d_jdk_29_method_65_code_9 : decode jdk_29_method_65_code 9 = .ok (.iload_n 1, 1) := by decide +kernel
theorem d_jdk_29_method_65_code_10 : decode jdk_29_method_65_code 10 = .ok (.ireturn, 1) := by decide +kernel
theorem d_jdk_29_method_65_code_5 : decode jdk_29_method_65_code 5 = .ok (.iload_n 0, 1) := by decide +kernel
theorem d_jdk_29_method_65_code_6 : decode jdk_29_method_65_code 6 = .ok (.goto 4, 3) := by decide +kernel
set_option maxRecDepth 65536 in
set_option maxHeartbeats 40000000 in
theorem c_max (l : Launch) (Z : State) (a0 : Array Value) (hw : Tb a0 Z) (n0 : Nat) (i j : Int32) (h0 : Heap) (O : Old Z n0 h0)  :
    Ct l Z [] n0 (⟨"java/lang/Math", "max", "(II)I"⟩ : MethodName) jdk_29_method_65_code 2 (some .int) ({ frames := 0, cells := 0, slots := 0, locals := 0 } : Room) #[(.int i), (.int j)] h0 [] (Pu (some (.int (if i < j then j else i))) h0) := by
  refine Ct.of (a0 := a0) #[.val (.int i), .val (.int j)] O (Jvm.Free.JP.mathPlain rfl (by decide +kernel)) (fun m => by first | (simp [entryFrame, mkF, argsToLocals, Value.category]; done) | rfl) ?_
  intro p_ e_ s_ m_ below_ meth_ c_ b_ T_ K hSP
  refine k_iloadN K d_jdk_29_method_65_code_0 (pc' := 1) rfl rfl ?_
  refine k_iloadN K d_jdk_29_method_65_code_1 (pc' := 2) rfl rfl ?_
  refine k_icmp_lt K d_jdk_29_method_65_code_2 (by decide) (pc' := 9) (pc2 := 5) (by decide) rfl (fun hc2 => ?_) (fun hc2 => ?_)
  · refine k_iloadN K d_jdk_29_method_65_code_9 (pc' := 10) rfl rfl ?_
    exact k_iret K d_jdk_29_method_65_code_10 rfl (fun sf ht => ⟨by rw [if_pos hc2], rfl⟩) (by decide) (by decide)
  · refine k_iloadN K d_jdk_29_method_65_code_5 (pc' := 6) rfl rfl ?_
    refine k_goto K d_jdk_29_method_65_code_6 (by decide) (pc' := 10) (by decide) ?_
    exact k_iret K d_jdk_29_method_65_code_10 rfl (fun sf ht => ⟨by rw [if_neg hc2], rfl⟩) (by decide) (by decide)
theorem own_i32 {a b : Int32} : a < b ↔ a.toInt < b.toInt := Int32.lt_iff_toInt_lt
theorem own_i32e {a b : Int32} (h : a.toInt = b.toInt) : a = b := Int32.toInt_inj.mp h
theorem own_0 : (0 : Int32).toInt = 0 := by decide
theorem own_1 : (1 : Int32).toInt = 1 := by decide
theorem own_255 : (255 : Int32).toInt = 255 := by decide
theorem own_add1 {i : Int32} {n : Nat} (h : i.toInt = n) (hn : n < 2147483647) : (i + 1).toInt = (n + 1 : Nat) := by
  rw [XT.add32 (by rw [h, own_1]; constructor <;> omega), h, own_1]; omega
theorem own_clamp {i : Int32} {n : Nat} (h : i.toInt = n) : i.toNatClampNeg = n := by rw [Int32.toNatClampNeg, h]; rfl
theorem own_in {i z : Int32} {n m : Nat} (h : i.toInt = n) (hz : z.toInt = m) (q : n < m) : ¬ i < 0 ∧ i < z := by
  rw [own_i32, own_i32, h, hz, own_0]; omega
def byteV (c : Int32) : Value := .int c.toInt8.toInt32
def preN : List Int32 → Nat
  | [] => 0
  | c :: t => if (255 : Int32) < c then 0 else preN t + 1
def fillL (cs : List Int32) (i : Nat) : List Value := (cs.take i).map byteV ++ List.replicate (cs.length - i) (.int 0)
theorem fillL_len (cs : List Int32) (i : Nat) (h : i ≤ cs.length) : (fillL cs i).length = cs.length := by simp [fillL]; omega
theorem fillL_zero (cs : List Int32) : fillL cs 0 = List.replicate cs.length (.int 0) := by simp [fillL]
theorem fillL_set (cs : List Int32) (i : Nat) (h : i < cs.length) : (fillL cs i).set i (byteV cs[i]) = fillL cs (i + 1) := by
  apply List.ext_getElem?
  intro j
  have e1 : (List.take i (List.map byteV cs)).length = i := by simp; omega
  simp only [fillL, List.getElem?_set, List.map_take, List.getElem?_append, List.length_take, List.length_map, List.getElem?_take, List.getElem?_map, List.getElem?_replicate, List.length_append, List.length_replicate]
  rcases Nat.lt_trichotomy j i with q | q | q
  · simp [show ¬ i = j by omega, show j < i by omega, show j < i + 1 by omega, show j < cs.length by omega, show i < cs.length by omega, Nat.min_eq_left (show i ≤ cs.length by omega), Nat.min_eq_left (show i + 1 ≤ cs.length by omega)]
  · subst q; simp [h, Nat.min_eq_left (show j ≤ cs.length by omega), Nat.min_eq_left (show j + 1 ≤ cs.length by omega)]; omega
  · simp [show ¬ i = j by omega, show ¬ j < i by omega, show ¬ j < i + 1 by omega, Nat.min_eq_left (show i ≤ cs.length by omega), Nat.min_eq_left (show i + 1 ≤ cs.length by omega), show ¬ j < i from by omega]
    congr 1
    apply propext; omega
theorem preN_le : ∀ cs : List Int32, preN cs ≤ cs.length
  | [] => Nat.le_refl _
  | c :: t => by unfold preN; split <;> simp; exact preN_le t
theorem preN_at : ∀ (cs : List Int32) (i : Nat) (h : i < cs.length), (∀ j (hj : j < i), ¬ (255 : Int32) < cs[j]) → (255 : Int32) < cs[i] → preN cs = i
  | c :: t, 0, h, _, q => by unfold preN; exact if_pos q
  | c :: t, i + 1, h, hl, q => by
    unfold preN
    have h0 : ¬ (255 : Int32) < c := hl 0 (by omega)
    rw [if_neg h0, preN_at t i (by simpa using h) (fun j hj => hl (j + 1) (by omega)) q]
theorem preN_all : ∀ (cs : List Int32), (∀ j (hj : j < cs.length), ¬ (255 : Int32) < cs[j]) → preN cs = cs.length
  | [], _ => rfl
  | c :: t, h => by
    have h0 : ¬ (255 : Int32) < c := h 0 (by simp)
    unfold preN; rw [if_neg h0, preN_all t fun j hj => h (j + 1) (by simpa using hj)]; rfl
theorem own_byte (c : Int32) : nar .byte c.toInt8.toInt32 = c.toInt8.toInt32 := by simp [nar]
theorem own_getD (cs : List Int32) (i : Nat) (h : i < cs.length) : (cs.map Value.int).getD i (.int 0) = .int cs[i] := by simp [List.getD_eq_getElem?_getD, h]
theorem d_jdk_52_method_21_code_0 : decode jdk_52_method_21_code 0 = .ok (.iconst 0, 1) := by decide +kernel
theorem d_jdk_52_method_21_code_1 : decode jdk_52_method_21_code 1 = .ok (.istore 5, 2) := by decide +kernel
theorem d_jdk_52_method_21_code_3 : decode jdk_52_method_21_code 3 = .ok (.iload 5, 2) := by decide +kernel
theorem d_jdk_52_method_21_code_5 : decode jdk_52_method_21_code 5 = .ok (.iload 4, 2) := by decide +kernel
theorem d_jdk_52_method_21_code_7 : decode jdk_52_method_21_code 7 = .ok (.if_icmp .ge 37, 3) := by decide +kernel
theorem d_jdk_52_method_21_code_44 : decode jdk_52_method_21_code 44 = .ok (.iload 4, 2) := by decide +kernel
theorem d_jdk_52_method_21_code_46 : decode jdk_52_method_21_code 46 = .ok (.ireturn, 1) := by decide +kernel
theorem d_jdk_52_method_21_code_10 : decode jdk_52_method_21_code 10 = .ok (.aload_n 0, 1) := by decide +kernel
theorem d_jdk_52_method_21_code_11 : decode jdk_52_method_21_code 11 = .ok (.iload_n 1, 1) := by decide +kernel
theorem d_jdk_52_method_21_code_12 : decode jdk_52_method_21_code 12 = .ok (.caload, 1) := by decide +kernel
theorem d_jdk_52_method_21_code_13 : decode jdk_52_method_21_code 13 = .ok (.istore 6, 2) := by decide +kernel
theorem d_jdk_52_method_21_code_15 : decode jdk_52_method_21_code 15 = .ok (.iload 6, 2) := by decide +kernel
theorem d_jdk_52_method_21_code_17 : decode jdk_52_method_21_code 17 = .ok (.sipush 255, 3) := by decide +kernel
theorem d_jdk_52_method_21_code_20 : decode jdk_52_method_21_code 20 = .ok (.if_icmp .le 6, 3) := by decide +kernel
theorem d_jdk_52_method_21_code_26 : decode jdk_52_method_21_code 26 = .ok (.aload_n 2, 1) := by decide +kernel
theorem d_jdk_52_method_21_code_27 : decode jdk_52_method_21_code 27 = .ok (.iload_n 3, 1) := by decide +kernel
theorem d_jdk_52_method_21_code_28 : decode jdk_52_method_21_code 28 = .ok (.iload 6, 2) := by decide +kernel
theorem d_jdk_52_method_21_code_30 : decode jdk_52_method_21_code 30 = .ok (.i2b, 1) := by decide +kernel
theorem d_jdk_52_method_21_code_31 : decode jdk_52_method_21_code 31 = .ok (.bastore, 1) := by decide +kernel
theorem d_jdk_52_method_21_code_32 : decode jdk_52_method_21_code 32 = .ok (.iinc 1 1, 3) := by decide +kernel
theorem d_jdk_52_method_21_code_35 : decode jdk_52_method_21_code 35 = .ok (.iinc 3 1, 3) := by decide +kernel
theorem d_jdk_52_method_21_code_38 : decode jdk_52_method_21_code 38 = .ok (.iinc 5 1, 3) := by decide +kernel
theorem d_jdk_52_method_21_code_41 : decode jdk_52_method_21_code 41 = .ok (.goto (-38), 3) := by decide +kernel
theorem d_jdk_52_method_21_code_23 : decode jdk_52_method_21_code 23 = .ok (.iload 5, 2) := by decide +kernel
theorem d_jdk_52_method_21_code_25 : decode jdk_52_method_21_code 25 = .ok (.ireturn, 1) := by decide +kernel
theorem pl_java_lang_StringUTF16 : plainName "java/lang/StringUTF16" = true := by first | (simp [plainName, overriddenIn]; done) | decide +kernel
set_option maxRecDepth 65536 in
set_option maxHeartbeats 40000000 in
theorem c_compress5 (l : Launch) (Z : State) (a0 : Array Value) (hw : Tb a0 Z) (n0 : Nat) (va d : Addr) (kv kd : ClassId) (n : Int32) (cs : List Int32) (h0 : Heap) (O : Old Z n0 h0) (hn : n.toInt = cs.length) (hb : cs.length ≤ 4000) (V1 : Arv Z h0 va kv .char n (cs.map Value.int) (.int 0)) (V2 : Arv Z h0 d kd .byte n (List.replicate cs.length (.int 0)) (.int 0)) (ne_va_d : va ≠ d) (ga_d : n0 ≤ d) :
    Ct l Z [] n0 (⟨"java/lang/StringUTF16", "compress", "([CI[BII)I"⟩ : MethodName) jdk_52_method_21_code 7 (some .int) ({ frames := 0, cells := 0, slots := 0, locals := 0 } : Room) #[(.ref va), (.int (0 : Int32)), (.ref d), (.int (0 : Int32)), (.int n)] h0 [d] (fun v h _ => v = some (.int (Int32.ofNat (preN cs))) ∧ Keep h0 h [d] ∧ Arv Z h d kd .byte n (fillL cs (preN cs)) (.int 0)) := by
  refine Ct.of (a0 := a0) #[.val (.ref va), .val (.int (0 : Int32)), .val (.ref d), .val (.int (0 : Int32)), .val (.int n), .unset, .unset] O (plainFor_of_name pl_java_lang_StringUTF16) (fun m => by first | (simp [entryFrame, mkF, argsToLocals, Value.category]; done) | rfl) ?_
  intro p_ e_ s_ m_ below_ meth_ c_ b_ T_ K hSP
  refine k_iconst K (0 : Int32) d_jdk_52_method_21_code_0 (pc' := 1) rfl rfl ?_
  refine k_istore K d_jdk_52_method_21_code_1 (pc' := 3) (L' := #[.val (.ref va), .val (.int (0 : Int32)), .val (.ref d), .val (.int (0 : Int32)), .val (.int n), .val (.int (0 : Int32)), .unset]) rfl rfl ?_
  have LOOP : ∀ (k : Nat) (i : Int32) (j : Nat) (hj : i.toInt = j) (hk : j + k = cs.length) (hlow : ∀ x (hx : x < j), ¬ (255 : Int32) < cs[x]) (s6 : Slot) (hs6 : s6 = .unset ∨ ∃ w, s6 = .val (.int w)) (bl Tl : State) (hl : Heap) (Ll : List Loc), Wk p_ l e_ ({ frames := 0, cells := 0, slots := 0, locals := 0 } : Room) s_ m_ #[(.ref va), (.int (0 : Int32)), (.ref d), (.int (0 : Int32)), (.int n)] below_ meth_ c_ Z a0 [] n0 (⟨"java/lang/StringUTF16", "compress", "([CI[BII)I"⟩ : MethodName) jdk_52_method_21_code 7 (some .int) bl Tl hl Ll 0 0 → (Keep h0 hl [d]) → (Arv Z hl va kv .char n (cs.map Value.int) (.int 0)) → (Arv Z hl d kd .byte n (fillL cs j) (.int 0)) → (Sfe Z [] bl.vm hl d) → Goes p_.tables e_ below_ (FinW Z [] s_ n0 ({ frames := 0, cells := 0, slots := 0, locals := 0 } : Room) (fun v h _ => v = some (.int (Int32.ofNat (preN cs))) ∧ Keep h0 h [d] ∧ Arv Z h d kd .byte n (fillL cs (preN cs)) (.int 0))) (Tl.setTop (mkF m_ 3 #[.val (.ref va), .val (.int i), .val (.ref d), .val (.int i), .val (.int n), .val (.int i), s6] [])) := by
    intro k
    induction k with
    | zero =>
      intro i j hj hk hlow s6 hs6 bl Tl hl Ll Kl KP V_va V_d sf_d
      refine k_iload Kl d_jdk_52_method_21_code_3 (pc' := 5) rfl rfl ?_
      refine k_iload Kl d_jdk_52_method_21_code_5 (pc' := 7) rfl rfl ?_
      refine k_icmp_ge Kl d_jdk_52_method_21_code_7 (by decide) (pc' := 44) (pc2 := 10) (by decide) rfl (fun hc7 => ?_) (fun q => absurd q (by rw [own_i32, hj, hn]; omega))
      refine k_iload Kl d_jdk_52_method_21_code_44 (pc' := 46) rfl rfl ?_
      have ej : j = cs.length := by omega
      subst ej
      have ep := preN_all cs hlow
      have en : n = Int32.ofNat (preN cs) := own_i32e (by rw [hn, ep, Int32.toInt_ofNat_of_lt (by omega)])
      exact k_iret Kl d_jdk_52_method_21_code_46 rfl (fun sf ht => ⟨by rw [en], KP, by rw [ep]; exact V_d⟩) (by decide) (by decide)
    | succ k ih =>
      intro i j hj hk hlow s6 hs6 bl Tl hl Ll Kl KP V_va V_d sf_d
      have hjl : j < cs.length := by omega
      refine k_iload Kl d_jdk_52_method_21_code_3 (pc' := 5) rfl rfl ?_
      refine k_iload Kl d_jdk_52_method_21_code_5 (pc' := 7) rfl rfl ?_
      refine k_icmp_ge Kl d_jdk_52_method_21_code_7 (by decide) (pc' := 44) (pc2 := 10) (by decide) rfl (fun q => absurd (by rw [own_i32, hj, hn]; omega) q) (fun hc7 => ?_)
      refine k_aloadN Kl d_jdk_52_method_21_code_10 (pc' := 11) rfl rfl rfl ?_
      refine k_iloadN Kl d_jdk_52_method_21_code_11 (pc' := 12) rfl rfl ?_
      refine k_caload Kl (j := i) V_va (own_in hj hn hjl) (by rw [own_clamp hj]; exact own_getD cs j hjl) d_jdk_52_method_21_code_12 (pc' := 13) rfl ?_
      refine k_istore Kl d_jdk_52_method_21_code_13 (pc' := 15) (L' := #[.val (.ref va), .val (.int i), .val (.ref d), .val (.int i), .val (.int n), .val (.int i), .val (.int cs[j])]) rfl (by rcases hs6 with rfl | ⟨w, rfl⟩ <;> rfl) ?_
      refine k_iload Kl d_jdk_52_method_21_code_15 (pc' := 17) rfl rfl ?_
      refine k_sipush Kl (255 : Int32) d_jdk_52_method_21_code_17 (pc' := 20) rfl rfl ?_
      refine k_icmp_le Kl d_jdk_52_method_21_code_20 (by decide) (pc' := 26) (pc2 := 23) (by decide) rfl (fun hc20 => ?_) (fun hc20 => ?_)
      · refine k_aloadN Kl d_jdk_52_method_21_code_26 (pc' := 27) rfl rfl rfl ?_
        refine k_iloadN Kl d_jdk_52_method_21_code_27 (pc' := 28) rfl rfl ?_
        refine k_iload Kl d_jdk_52_method_21_code_28 (pc' := 30) rfl rfl ?_
        refine k_i2b Kl d_jdk_52_method_21_code_30 (pc' := 31) rfl ?_
        refine k_bastore Kl (j := i) V_d (own_in hj hn hjl) (by rw [own_clamp hj, fillL_len cs j (by omega)]; exact hjl) ga_d sf_d d_jdk_52_method_21_code_31 (pc' := 32) rfl ?_
        intro T7 h7 K7 W7 tr7 V7
        replace sf_d := tr7 d V_d.lt sf_d
        replace V_va := V_va.other W7 ne_va_d
        replace KP := KP.wr W7 (Or.inl (by simp))
        replace V_d := V7
        rw [own_clamp hj, own_byte] at V_d
        replace V_d := (fillL_set cs j hjl) ▸ V_d
        refine k_iinc K7 (1 : Int32) d_jdk_52_method_21_code_32 (pc' := 35) (L' := #[.val (.ref va), .val (.int (i + (1 : Int32))), .val (.ref d), .val (.int i), .val (.int n), .val (.int i), .val (.int cs[j])]) rfl rfl rfl rfl ?_
        refine k_iinc K7 (1 : Int32) d_jdk_52_method_21_code_35 (pc' := 38) (L' := #[.val (.ref va), .val (.int (i + (1 : Int32))), .val (.ref d), .val (.int (i + (1 : Int32))), .val (.int n), .val (.int i), .val (.int cs[j])]) rfl rfl rfl rfl ?_
        refine k_iinc K7 (1 : Int32) d_jdk_52_method_21_code_38 (pc' := 41) (L' := #[.val (.ref va), .val (.int (i + (1 : Int32))), .val (.ref d), .val (.int (i + (1 : Int32))), .val (.int n), .val (.int (i + (1 : Int32))), .val (.int cs[j])]) rfl rfl rfl rfl ?_
        refine k_goto K7 d_jdk_52_method_21_code_41 (by decide) (pc' := 3) (by decide) ?_
        exact ih (i + 1) (j + 1) (own_add1 hj (by omega)) (by omega) (fun x hx => by
          rcases Nat.lt_or_ge x j with q | q
          · exact hlow x q
          · have e1 : x = j := by omega
            subst e1; exact hc20) _ (Or.inr ⟨_, rfl⟩) _ _ _ _ K7 KP V_va V_d sf_d
      · refine k_iload Kl d_jdk_52_method_21_code_23 (pc' := 25) rfl rfl ?_
        have hhi : (255 : Int32) < cs[j] := hc20
        have ep := preN_at cs j hjl hlow hhi
        have en : i = Int32.ofNat (preN cs) := own_i32e (by rw [hj, ep, Int32.toInt_ofNat_of_lt (by omega)])
        exact k_iret Kl d_jdk_52_method_21_code_25 rfl (fun sf ht => ⟨by rw [en], KP, by rw [ep]; exact V_d⟩) (by decide) (by decide)
  exact LOOP cs.length (0 : Int32) 0 rfl (by omega) (fun x hx => absurd hx (Nat.not_lt_zero _)) _ (Or.inl rfl) _ _ _ _ K (Keep.refl _ _) V1 (by rw [fillL_zero]; exact V2) (hSP d (by simp))
def loB (c : Int32) : Value := .int ((c >>> ((0 : Int32) &&& 31)).toInt8.toInt32)
def hiB (c : Int32) : Value := .int ((c >>> ((8 : Int32) &&& 31)).toInt8.toInt32)
def fill2 (cs : List Int32) (i : Nat) : List Value := (cs.take i).flatMap (fun c => [loB c, hiB c]) ++ List.replicate (2 * (cs.length - i)) (.int 0)
theorem flat_len (cs : List Int32) : (cs.flatMap (fun c => [loB c, hiB c])).length = 2 * cs.length := by
  induction cs with
  | nil => rfl
  | cons c t ih => simp only [List.flatMap_cons, List.length_append, ih, List.length_cons, List.length_nil]; omega
theorem fill2_len (cs : List Int32) (i : Nat) (h : i ≤ cs.length) : (fill2 cs i).length = 2 * cs.length := by
  simp only [fill2, List.length_append, flat_len, List.length_take, List.length_replicate]; omega
theorem fill2_zero (cs : List Int32) : fill2 cs 0 = List.replicate (2 * cs.length) (.int 0) := by simp [fill2]
theorem fill2_set (cs : List Int32) (i : Nat) (h : i < cs.length) : ((fill2 cs i).set (2 * i) (loB cs[i])).set (2 * i + 1) (hiB cs[i]) = fill2 cs (i + 1) := by
  have e0 : (cs.take i).length = i := by simp; omega
  have e1 : ((cs.take i).flatMap (fun c => [loB c, hiB c])).length = 2 * i := by rw [flat_len, e0]
  have e2 : 2 * (cs.length - i) = (2 * (cs.length - (i + 1)) + 1) + 1 := by omega
  have e3 : cs.take (i + 1) = cs.take i ++ [cs[i]] := by rw [List.take_succ_eq_append_getElem h]
  unfold fill2
  rw [e3, e2, List.replicate_succ, List.replicate_succ, List.flatMap_append]
  rw [List.set_append_right _ _ (by rw [e1]; exact Nat.le_refl _), e1, Nat.sub_self]
  rw [List.set_append_right _ _ (by rw [e1]; omega), e1, show 2 * i + 1 - 2 * i = 1 by omega]
  simp
theorem fill2_lo (cs : List Int32) (j : Nat) (h : j < cs.length) : (fill2 cs cs.length).getD (2 * j) (.int 0) = loB cs[j] := by
  unfold fill2
  rw [List.take_length, Nat.sub_self, Nat.mul_zero, List.replicate_zero, List.append_nil]
  induction cs generalizing j with
  | nil => exact absurd h (Nat.not_lt_zero _)
  | cons c t ih =>
    cases j with
    | zero => rfl
    | succ j => rw [List.flatMap_cons, show 2 * (j + 1) = 2 * j + 1 + 1 by omega]; exact ih j (by simpa using h)
theorem fill2_hi (cs : List Int32) (j : Nat) (h : j < cs.length) : (fill2 cs cs.length).getD (2 * j + 1) (.int 0) = hiB cs[j] := by
  unfold fill2
  rw [List.take_length, Nat.sub_self, Nat.mul_zero, List.replicate_zero, List.append_nil]
  induction cs generalizing j with
  | nil => exact absurd h (Nat.not_lt_zero _)
  | cons c t ih =>
    cases j with
    | zero => rfl
    | succ j => rw [List.flatMap_cons, show 2 * (j + 1) + 1 = 2 * j + 1 + 1 + 1 by omega]; exact ih j (by simpa using h)
theorem own_dbl {i : Int32} {n : Nat} (h : i.toInt = n) (hn : n < 1000000000) : (i <<< ((1 : Int32) &&& 31)).toInt = (2 * n : Nat) := by
  have hb : i.toBitVec.toNat = n := by
    have q : i.toBitVec.toInt = n := h
    rw [BitVec.toInt_eq_toNat_cond] at q
    have := i.toBitVec.isLt
    split at q <;> omega
  have e1 : (i <<< ((1 : Int32) &&& 31)).toBitVec = i.toBitVec <<< 1 := rfl
  have e2 : (i.toBitVec <<< 1).toNat = 2 * n := by rw [BitVec.toNat_shiftLeft, hb, Nat.shiftLeft_eq]; omega
  show (i <<< ((1 : Int32) &&& 31)).toBitVec.toInt = _
  rw [e1, BitVec.toInt_eq_toNat_cond, e2]; split <;> omega
theorem own_nat {c : Int32} {n : Nat} (h : c.toInt = n) : c.toBitVec.toNat = n := by
  have q : c.toBitVec.toInt = n := h
  have hn : c.toInt < 2 ^ 31 := Int32.toInt_lt c
  rw [BitVec.toInt_eq_toNat_cond] at q
  have := c.toBitVec.isLt
  split at q <;> omega
theorem own_toInt {c : Int32} (h : c.toBitVec.toNat < 2147483648) : c.toInt = c.toBitVec.toNat := by
  show c.toBitVec.toInt = _
  rw [BitVec.toInt_eq_toNat_cond]; split <;> omega
theorem own_i2cN (x : Int32) : (x.toUInt32.toUInt16.toUInt32.toInt32).toBitVec.toNat = x.toBitVec.toNat % 65536 := by
  have e : (x.toUInt32.toUInt16.toUInt32.toInt32).toBitVec = (x.toBitVec.setWidth 16).setWidth 32 := rfl
  rw [e, BitVec.toNat_setWidth, BitVec.toNat_setWidth]; omega
theorem own_i2c (x : Int32) : 0 ≤ (x.toUInt32.toUInt16.toUInt32.toInt32).toInt ∧ (x.toUInt32.toUInt16.toUInt32.toInt32).toInt < 65536 := by
  have h := own_i2cN x
  rw [own_toInt (by rw [h]; omega), h]; omega
theorem own_i2cI {c : Int32} (h1 : 0 ≤ c.toInt) (h2 : c.toInt < 65536) : c.toUInt32.toUInt16.toUInt32.toInt32 = c := by
  obtain ⟨n, hn⟩ := Int.eq_ofNat_of_zero_le h1
  have e := own_nat hn
  apply Int32.toBitVec_inj.mp
  apply BitVec.eq_of_toNat_eq
  rw [own_i2cN, e]; omega
theorem own_narrowc {c : Int32} (h1 : 0 ≤ c.toInt) (h2 : c.toInt < 65536) : narrow .char (.int c) = .int c := by
  show Value.int c.toUInt32.toUInt16.toUInt32.toInt32 = _
  rw [own_i2cI h1 h2]
theorem own_shr0 (n : Int32) : n >>> ((0 : Int32) &&& 31) = n := by
  apply Int32.toBitVec_inj.mp
  show n.toBitVec.sshiftRight 0 = n.toBitVec
  simp
theorem own_low (x : Int32) : (x.toInt8.toInt32 &&& 255).toBitVec.toNat = x.toBitVec.toNat % 256 := by
  have e : (x.toInt8.toInt32 &&& 255).toBitVec = ((x.toBitVec.signExtend 8).signExtend 32) &&& 255#32 := rfl
  have e8 : x.toBitVec.signExtend 8 = x.toBitVec.setWidth 8 := BitVec.signExtend_eq_setWidth_of_le _ (by decide)
  have e2 : ((x.toBitVec.setWidth 8).signExtend 32) &&& 255#32 = (x.toBitVec.setWidth 8).setWidth 32 := by
    apply BitVec.eq_of_getLsbD_eq
    intro i hi
    have h255 : (255#32).getLsbD i = decide (i < 8) := by
      have := (by decide : ∀ i : Fin 32, (255#32).getLsbD i.val = decide (i.val < 8)) ⟨i, hi⟩
      exact this
    rw [BitVec.getLsbD_and, h255, BitVec.getLsbD_signExtend, BitVec.getLsbD_setWidth]
    by_cases q : i < 8
    · simp [hi, q]
    · simp [q]
  rw [e, e8, e2, BitVec.toNat_setWidth, BitVec.toNat_setWidth]; omega
theorem own_dblN {i : Int32} {n : Nat} (h : i.toInt = n) (hn : n < 1000000000) : (i <<< ((1 : Int32) &&& 31)).toBitVec.toNat = 2 * n := by
  show (i.toBitVec <<< 1).toNat = _
  rw [BitVec.toNat_shiftLeft, own_nat h, Nat.shiftLeft_eq]; omega
theorem own_half {n : Int32} {m : Nat} (hn : n.toInt = m) (hm : m ≤ 4000) : (n <<< ((1 : Int32) &&& 31)) >>> ((1 : Int32) &&& 31) = n := by
  have e := own_dblN hn (by omega)
  generalize n <<< ((1 : Int32) &&& 31) = z at e
  apply Int32.toBitVec_inj.mp
  apply BitVec.eq_of_toNat_eq
  show (z.toBitVec.sshiftRight 1).toNat = _
  rw [BitVec.sshiftRight_eq_of_msb_false (by rw [BitVec.msb_eq_decide, e]; simp; omega), BitVec.toNat_ushiftRight, e, Nat.shiftRight_eq_div_pow, own_nat hn]; omega
theorem own_ush0 (n : Int32) : (Jvm.Free.XT.ushr (n - n) (31 : Int32)).toInt8.toInt32 = 0 := by
  have e : n - n = 0 := by simp
  rw [e]; decide
theorem own_ush1 {n : Int32} {m : Nat} (hn : n.toInt = m) (h1 : 1 ≤ m) (hm : m ≤ 4000) : (Jvm.Free.XT.ushr (n - n <<< ((1 : Int32) &&& 31)) (31 : Int32)).toInt8.toInt32 = 1 := by
  have e := own_dblN hn (by omega)
  have e1 : Jvm.Free.XT.ushr (n - n <<< ((1 : Int32) &&& 31)) (31 : Int32) = 1 := by
    generalize n <<< ((1 : Int32) &&& 31) = z at e
    apply Int32.toBitVec_inj.mp
    apply BitVec.eq_of_toNat_eq
    show ((n.toBitVec - z.toBitVec) >>> 31).toNat = 1
    rw [BitVec.toNat_ushiftRight, BitVec.toNat_sub, own_nat hn, e, Nat.shiftRight_eq_div_pow]; omega
  rw [e1]; decide
theorem own_join (c : Int32) (h1 : 0 ≤ c.toInt) (h2 : c.toInt < 65536) : ((((c >>> ((0 : Int32) &&& 31)).toInt8.toInt32 &&& 255) <<< ((0 : Int32) &&& 31)) ||| (((c >>> ((8 : Int32) &&& 31)).toInt8.toInt32 &&& 255) <<< ((8 : Int32) &&& 31))).toUInt32.toUInt16.toUInt32.toInt32 = c := by
  obtain ⟨n, hn⟩ := Int.eq_ofNat_of_zero_le h1
  have e := own_nat hn
  have hN : n < 65536 := by omega
  rw [own_shr0]
  have a1 := own_low c
  have a2 := own_low (c >>> ((8 : Int32) &&& 31))
  have s8 : (c >>> ((8 : Int32) &&& 31)).toBitVec.toNat = n / 256 := by
    show (c.toBitVec.sshiftRight 8).toNat = _
    rw [BitVec.sshiftRight_eq_of_msb_false (by rw [BitVec.msb_eq_decide, e]; simp; omega), BitVec.toNat_ushiftRight, e, Nat.shiftRight_eq_div_pow]
  rw [s8] at a2
  rw [e] at a1
  generalize (c.toInt8.toInt32 &&& 255) = p at a1
  generalize ((c >>> ((8 : Int32) &&& 31)).toInt8.toInt32 &&& 255) = q at a2
  apply Int32.toBitVec_inj.mp
  apply BitVec.eq_of_toNat_eq
  rw [own_i2cN, e]
  have b1 : (p <<< ((0 : Int32) &&& 31)).toBitVec = p.toBitVec := by
    show p.toBitVec <<< 0 = _
    simp
  have b2 : (q <<< ((8 : Int32) &&& 31)).toBitVec.toNat = (n / 256 % 256) * 256 := by
    show (q.toBitVec <<< 8).toNat = _
    rw [BitVec.toNat_shiftLeft, a2, Nat.shiftLeft_eq]; omega
  have b3 : (p <<< ((0 : Int32) &&& 31) ||| q <<< ((8 : Int32) &&& 31)).toBitVec.toNat = n % 256 ||| (n / 256 % 256) * 256 := by
    show ((p <<< ((0 : Int32) &&& 31)).toBitVec ||| (q <<< ((8 : Int32) &&& 31)).toBitVec).toNat = _
    rw [BitVec.toNat_or, b1, b2, a1]
  rw [b3]
  have b4 : n % 256 ||| (n / 256 % 256) * 256 = n := by
    rw [Nat.or_comm, Nat.mul_comm, show (256 : Nat) = 2 ^ 8 by decide, ← Nat.two_pow_add_eq_or_of_lt (Nat.mod_lt _ (by decide))]; omega
  rw [b4]; omega
theorem preN_gt : ∀ (cs : List Int32) (h : preN cs < cs.length), (255 : Int32) < cs[preN cs]
  | [], h => absurd h (Nat.not_lt_zero _)
  | c :: t, h => by
    by_cases q : (255 : Int32) < c
    · have e : preN (c :: t) = 0 := if_pos q
      simpa [e] using q
    · have e : preN (c :: t) = preN t + 1 := if_neg q
      have h2 : preN t < t.length := by rw [e] at h; simpa using h
      simpa [e] using preN_gt t h2
def strCd (cs : List Int32) : Int32 := if preN cs = cs.length then 0 else 1
def strVs (cs : List Int32) : List Value := if preN cs = cs.length then fillL cs cs.length else fill2 cs cs.length
def strZ (n : Int32) (cs : List Int32) : Int32 := if preN cs = cs.length then n else n <<< ((1 : Int32) &&& 31)
theorem strCd_01 (cs : List Int32) : strCd cs = 0 ∨ strCd cs = 1 := by unfold strCd; split <;> simp
theorem strCd_n (cs : List Int32) : narrow .byte (.int (strCd cs)) = .int (strCd cs) := by rcases strCd_01 cs with q | q <;> rw [q] <;> rfl
theorem strCd_f (cs : List Int32) : fits .byte (.int (strCd cs)) = true := by rcases strCd_01 cs with q | q <;> rw [q] <;> rfl
theorem own_ofN {n : Nat} (h : n ≤ 4000) : (Int32.ofNat n).toInt = n := Int32.toInt_ofNat_of_lt (by omega)
theorem own_cfal {n : Int32} {cs : List Int32} (hn : n.toInt = cs.length) (h1 : 1 ≤ cs.length) (hb : cs.length ≤ 4000) : ((XT.ushr (n - strZ n cs) (31 : Int32)).toInt8.toInt32) = strCd cs := by
  unfold strZ strCd
  split
  · exact own_ush0 n
  · exact own_ush1 hn h1 hb
theorem own_len {n : Int32} {cs : List Int32} (hn : n.toInt = cs.length) (hb : cs.length ≤ 4000) : strZ n cs >>> (strCd cs &&& 31) = n := by
  unfold strZ strCd
  split
  · exact own_shr0 n
  · exact own_half hn hb
theorem preN_lat {cs : List Int32} (h : ∀ c ∈ cs, 0 ≤ c.toInt ∧ c.toInt < 256) : preN cs = cs.length := preN_all cs fun j hj => by
  rw [own_i32, own_255]; have := (h cs[j] (List.getElem_mem hj)).2; omega
theorem own_strCd {cs : List Int32} (h : ∀ c ∈ cs, 0 ≤ c.toInt ∧ c.toInt < 256) : strCd cs = 0 := if_pos (preN_lat h)
theorem own_strZ {n : Int32} {cs : List Int32} (h : ∀ c ∈ cs, 0 ≤ c.toInt ∧ c.toInt < 256) : strZ n cs = n := if_pos (preN_lat h)
theorem own_strVs {cs : List Int32} (h : ∀ c ∈ cs, 0 ≤ c.toInt ∧ c.toInt < 256) : strVs cs = (cs.map fun c => c.toInt8.toInt32).map Value.int := by
  rw [strVs, if_pos (preN_lat h), fillL, List.take_length, Nat.sub_self, List.replicate_zero, List.append_nil, List.map_map]; rfl
theorem d_jdk_52_method_16_code_0 : decode jdk_52_method_16_code 0 = .ok (.iload_n 2, 1) := by decide +kernel
theorem d_jdk_52_method_16_code_1 : decode jdk_52_method_16_code 1 = .ok (.newarray .byte, 2) := by decide +kernel
theorem w20 {Z : State} {a0 : Array Value} (hw : Tb a0 Z) : (Jvm.Cond.arrayClass Jvm.ClassFile.FieldType.byte).before a0 Z = true := hw _ (List.mem_of_getElem? (i := 20) rfl)
theorem d_jdk_52_method_16_code_3 : decode jdk_52_method_16_code 3 = .ok (.astore_n 3, 1) := by decide +kernel
theorem d_jdk_52_method_16_code_4 : decode jdk_52_method_16_code 4 = .ok (.aload_n 0, 1) := by decide +kernel
theorem d_jdk_52_method_16_code_5 : decode jdk_52_method_16_code 5 = .ok (.iload_n 1, 1) := by decide +kernel
theorem d_jdk_52_method_16_code_6 : decode jdk_52_method_16_code 6 = .ok (.aload_n 3, 1) := by decide +kernel
theorem d_jdk_52_method_16_code_7 : decode jdk_52_method_16_code 7 = .ok (.iconst 0, 1) := by decide +kernel
theorem d_jdk_52_method_16_code_8 : decode jdk_52_method_16_code 8 = .ok (.iload_n 2, 1) := by decide +kernel
theorem d_jdk_52_method_16_code_9 : decode jdk_52_method_16_code 9 = .ok (.invokestatic 115, 3) := by decide +kernel
theorem w21 {Z : State} {a0 : Array Value} (hw : Tb a0 Z) : (Jvm.Cond.methodLink "java/lang/StringUTF16" (115 : Nat) ({ cls := "java/lang/StringUTF16", name := "compress", desc := "([CI[BII)I" } : Jvm.MethodName)).before a0 Z = true := hw _ (List.mem_of_getElem? (i := 21) rfl)
theorem w18 {Z : State} {a0 : Array Value} (hw : Tb a0 Z) : (Jvm.Cond.initialized "java/lang/StringUTF16").before a0 Z = true := hw _ (List.mem_of_getElem? (i := 18) rfl)
theorem w23 {Z : State} {a0 : Array Value} (hw : Tb a0 Z) : (Jvm.Cond.code ({ cls := "java/lang/StringUTF16", name := "compress", desc := "([CI[BII)I" } : Jvm.MethodName) jdk_52_method_21_code (7 : Nat) (Option.some Jvm.ClassFile.FieldType.int)).before a0 Z = true := hw _ (List.mem_of_getElem? (i := 23) rfl)
theorem w22 {Z : State} {a0 : Array Value} (hw : Tb a0 Z) : (Jvm.Cond.static ({ cls := "java/lang/StringUTF16", name := "compress", desc := "([CI[BII)I" } : Jvm.MethodName)).before a0 Z = true := hw _ (List.mem_of_getElem? (i := 22) rfl)
theorem pd___CI_BII_I_3760 : parseMethodDescriptor "([CI[BII)I" = some ⟨[(.array .char), .int, (.array .byte), .int, .int], some .int⟩ := by decide +kernel
theorem d_jdk_52_method_16_code_12 : decode jdk_52_method_16_code 12 = .ok (.istore 4, 2) := by decide +kernel
theorem d_jdk_52_method_16_code_14 : decode jdk_52_method_16_code 14 = .ok (.iload 4, 2) := by decide +kernel
theorem d_jdk_52_method_16_code_16 : decode jdk_52_method_16_code 16 = .ok (.iload_n 2, 1) := by decide +kernel
theorem d_jdk_52_method_16_code_17 : decode jdk_52_method_16_code 17 = .ok (.if_icmp .eq 40, 3) := by decide +kernel
theorem d_jdk_52_method_3_code_0 : decode jdk_52_method_3_code 0 = .ok (.iload_n 0, 1) := by decide +kernel
theorem d_jdk_52_method_3_code_1 : decode jdk_52_method_3_code 1 = .ok (.ifCond .ge 11, 3) := by decide +kernel
theorem d_jdk_52_method_3_code_12 : decode jdk_52_method_3_code 12 = .ok (.iload_n 0, 1) := by decide +kernel
theorem d_jdk_52_method_3_code_13 : decode jdk_52_method_3_code 13 = .ok (.ldc 20, 2) := by decide +kernel
theorem w78 {Z : State} {a0 : Array Value} (hw : Tb a0 Z) : (Jvm.Cond.constant "java/lang/StringUTF16" (20 : Nat) (1073741823 : Int32)).before a0 Z = true := hw _ (List.mem_of_getElem? (i := 78) rfl)
theorem d_jdk_52_method_3_code_15 : decode jdk_52_method_3_code 15 = .ok (.if_icmp .lt 40, 3) := by decide +kernel
theorem d_jdk_52_method_3_code_55 : decode jdk_52_method_3_code 55 = .ok (.iload_n 0, 1) := by decide +kernel
theorem d_jdk_52_method_3_code_56 : decode jdk_52_method_3_code 56 = .ok (.iconst 1, 1) := by decide +kernel
theorem d_jdk_52_method_3_code_57 : decode jdk_52_method_3_code 57 = .ok (.ishl, 1) := by decide +kernel
theorem d_jdk_52_method_3_code_58 : decode jdk_52_method_3_code 58 = .ok (.ireturn, 1) := by decide +kernel
set_option maxRecDepth 65536 in
set_option maxHeartbeats 40000000 in
theorem c_nbl (l : Launch) (Z : State) (a0 : Array Value) (hw : Tb a0 Z) (n0 : Nat) (n : Int32) (m : Nat) (h0 : Heap) (O : Old Z n0 h0) (hn : n.toInt = m) (hm : m ≤ 4000) :
    Ct l Z [] n0 (⟨"java/lang/StringUTF16", "newBytesLength", "(I)I"⟩ : MethodName) jdk_52_method_3_code 1 (some .int) ({ frames := 0, cells := 0, slots := 0, locals := 0 } : Room) #[(.int n)] h0 [] (Pu (some (.int (n <<< ((1 : Int32) &&& 31)))) h0) := by
  refine Ct.of (a0 := a0) #[.val (.int n)] O (plainFor_of_name pl_java_lang_StringUTF16) (fun m => by first | (simp [entryFrame, mkF, argsToLocals, Value.category]; done) | rfl) ?_
  intro p_ e_ s_ m_ below_ meth_ c_ b_ T_ K hSP
  refine k_iloadN K d_jdk_52_method_3_code_0 (pc' := 1) rfl rfl ?_
  refine k_if_ge K d_jdk_52_method_3_code_1 (by decide) (pc' := 12) (pc2 := 4) (by decide) rfl (fun hc1 => ?_) (fun q => absurd q (by rw [own_i32, own_0, hn]; omega))
  refine k_iloadN K d_jdk_52_method_3_code_12 (pc' := 13) rfl rfl ?_
  refine k_ldcI K (w78 hw) d_jdk_52_method_3_code_13 (pc' := 15) rfl ?_
  refine k_icmp_lt K d_jdk_52_method_3_code_15 (by decide) (pc' := 55) (pc2 := 18) (by decide) rfl (fun hc15 => ?_) (fun q => absurd (by rw [own_i32, hn, show (1073741823 : Int32).toInt = 1073741823 by decide]; omega) q)
  refine k_iloadN K d_jdk_52_method_3_code_55 (pc' := 56) rfl rfl ?_
  refine k_iconst K (1 : Int32) d_jdk_52_method_3_code_56 (pc' := 57) rfl rfl ?_
  refine k_ishl K d_jdk_52_method_3_code_57 (pc' := 58) rfl ?_
  exact k_iret K d_jdk_52_method_3_code_58 rfl (fun sf ht => ⟨rfl, rfl⟩) (by decide) (by decide)
theorem d_jdk_52_method_2_code_0 : decode jdk_52_method_2_code 0 = .ok (.iload_n 0, 1) := by decide +kernel
theorem d_jdk_52_method_2_code_1 : decode jdk_52_method_2_code 1 = .ok (.invokestatic 11, 3) := by decide +kernel
theorem w75 {Z : State} {a0 : Array Value} (hw : Tb a0 Z) : (Jvm.Cond.methodLink "java/lang/StringUTF16" (11 : Nat) ({ cls := "java/lang/StringUTF16", name := "newBytesLength", desc := "(I)I" } : Jvm.MethodName)).before a0 Z = true := hw _ (List.mem_of_getElem? (i := 75) rfl)
theorem w77 {Z : State} {a0 : Array Value} (hw : Tb a0 Z) : (Jvm.Cond.code ({ cls := "java/lang/StringUTF16", name := "newBytesLength", desc := "(I)I" } : Jvm.MethodName) jdk_52_method_3_code (1 : Nat) (Option.some Jvm.ClassFile.FieldType.int)).before a0 Z = true := hw _ (List.mem_of_getElem? (i := 77) rfl)
theorem w76 {Z : State} {a0 : Array Value} (hw : Tb a0 Z) : (Jvm.Cond.static ({ cls := "java/lang/StringUTF16", name := "newBytesLength", desc := "(I)I" } : Jvm.MethodName)).before a0 Z = true := hw _ (List.mem_of_getElem? (i := 76) rfl)
theorem pd__I_I_601 : parseMethodDescriptor "(I)I" = some ⟨[.int], some .int⟩ := by decide +kernel
theorem d_jdk_52_method_2_code_4 : decode jdk_52_method_2_code 4 = .ok (.newarray .byte, 2) := by decide +kernel
theorem d_jdk_52_method_2_code_6 : decode jdk_52_method_2_code 6 = .ok (.areturn, 1) := by decide +kernel
set_option maxRecDepth 65536 in
set_option maxHeartbeats 40000000 in
theorem c_nbf (l : Launch) (Z : State) (a0 : Array Value) (hw : Tb a0 Z) (n0 : Nat) (n : Int32) (m : Nat) (h0 : Heap) (O : Old Z n0 h0) (hn : n.toInt = m) (hm : m ≤ 4) :
    Ct l Z [] n0 (⟨"java/lang/StringUTF16", "newBytesFor", "(I)[B"⟩ : MethodName) jdk_52_method_2_code 1 (some (.array .byte)) ({ frames := 1, cells := 1, slots := 8, locals := 12 } : Room) #[(.int n)] h0 [] (fun v h sf => ∃ d kd, v = some (.ref d) ∧ h0.size ≤ d ∧ Keep h0 h [] ∧ Arv Z h d kd .byte (n <<< ((1 : Int32) &&& 31)) (List.replicate (2 * m) (.int 0)) (.int 0) ∧ sf d) := by
  refine Ct.of (a0 := a0) #[.val (.int n)] O (plainFor_of_name pl_java_lang_StringUTF16) (fun m => by first | (simp [entryFrame, mkF, argsToLocals, Value.category]; done) | rfl) ?_
  intro p_ e_ s_ m_ below_ meth_ c_ b_ T_ K hSP
  have KP := Keep.refl h0 []
  refine k_iloadN K d_jdk_52_method_2_code_0 (pc' := 1) rfl rfl ?_
  refine k_staticP K [(.int n)] [] 0 (w75 hw) (w76 hw) (w18 hw) (w77 hw) (by decide) pd__I_I_601 (c_nbl l Z a0 hw n0 n m h0 K.old hn (by omega)) d_jdk_52_method_2_code_1 nofun (pc' := 4) rfl rfl rfl rfl (Nat.le_of_eq rfl) (by decide) (by decide) (by decide) (by decide) ?_
  intro b10 T10 L10 K10 tr10
  show Goes p_.tables e_ below_ _ (T10.setTop (mkF m_ 4 #[.val (.int n)] [(.int (n <<< ((1 : Int32) &&& 31)))]))
  have hz := own_dbl hn (by omega)
  refine k_newarray K10 (aty := .byte) (z := (n <<< ((1 : Int32) &&& 31))) (w20 hw) (by rw [own_i32, own_0, hz]; omega) (cap := 8) (by rw [own_clamp hz]; omega) (by decide) d_jdk_52_method_2_code_4 (pc' := 6) rfl (by decide) (by decide) ?_
  intro T11 h11 a11 ka11 g11 K11 E11 tr11 sf_a11 V_a11
  have ga_a11 : n0 ≤ a11 := own_old K10.old g11
  have sz_a11 : h0.size ≤ a11 := g11 ▸ KP.1
  replace KP := KP.ext E11
  replace V_a11 : Arv Z h11 a11 ka11 .byte (n <<< ((1 : Int32) &&& 31)) (List.replicate (2 * m) (.int (0 : Int32))) (.int (0 : Int32)) := V_a11.pad (pad_rep [] (.int (0 : Int32)) (2 * m))
  exact k_aret K11 d_jdk_52_method_2_code_6 rfl rfl rfl (fun sf ht => ⟨_, _, rfl, sz_a11, KP, V_a11, ht _ V_a11.lt sf_a11⟩) (by decide) (by decide)
theorem d_jdk_52_method_4_code_0 : decode jdk_52_method_4_code 0 = .ok (.getstatic 44, 3) := by decide +kernel
theorem w82 {Z : State} {a0 : Array Value} (hw : Tb a0 Z) : (Jvm.Cond.fieldLink "java/lang/StringUTF16" (44 : Nat) "java/lang/StringUTF16" "$assertionsDisabled" "Z").before a0 Z = true := hw _ (List.mem_of_getElem? (i := 82) rfl)
theorem d_jdk_52_method_4_code_3 : decode jdk_52_method_4_code 3 = .ok (.ifCond .ne 25, 3) := by decide +kernel
theorem d_jdk_52_method_4_code_28 : decode jdk_52_method_4_code 28 = .ok (.iload_n 1, 1) := by decide +kernel
theorem d_jdk_52_method_4_code_29 : decode jdk_52_method_4_code 29 = .ok (.iconst 1, 1) := by decide +kernel
theorem d_jdk_52_method_4_code_30 : decode jdk_52_method_4_code 30 = .ok (.ishl, 1) := by decide +kernel
theorem d_jdk_52_method_4_code_31 : decode jdk_52_method_4_code 31 = .ok (.istore_n 1, 1) := by decide +kernel
theorem d_jdk_52_method_4_code_32 : decode jdk_52_method_4_code 32 = .ok (.aload_n 0, 1) := by decide +kernel
theorem d_jdk_52_method_4_code_33 : decode jdk_52_method_4_code 33 = .ok (.iload_n 1, 1) := by decide +kernel
theorem d_jdk_52_method_4_code_34 : decode jdk_52_method_4_code 34 = .ok (.iinc 1 1, 3) := by decide +kernel
theorem d_jdk_52_method_4_code_37 : decode jdk_52_method_4_code 37 = .ok (.iload_n 2, 1) := by decide +kernel
theorem d_jdk_52_method_4_code_38 : decode jdk_52_method_4_code 38 = .ok (.getstatic 59, 3) := by decide +kernel
theorem w83 {Z : State} {a0 : Array Value} (hw : Tb a0 Z) : (Jvm.Cond.fieldLink "java/lang/StringUTF16" (59 : Nat) "java/lang/StringUTF16" "HI_BYTE_SHIFT" "I").before a0 Z = true := hw _ (List.mem_of_getElem? (i := 83) rfl)
theorem d_jdk_52_method_4_code_41 : decode jdk_52_method_4_code 41 = .ok (.ishr, 1) := by decide +kernel
theorem d_jdk_52_method_4_code_42 : decode jdk_52_method_4_code 42 = .ok (.i2b, 1) := by decide +kernel
theorem d_jdk_52_method_4_code_43 : decode jdk_52_method_4_code 43 = .ok (.bastore, 1) := by decide +kernel
theorem d_jdk_52_method_4_code_44 : decode jdk_52_method_4_code 44 = .ok (.aload_n 0, 1) := by decide +kernel
theorem d_jdk_52_method_4_code_45 : decode jdk_52_method_4_code 45 = .ok (.iload_n 1, 1) := by decide +kernel
theorem d_jdk_52_method_4_code_46 : decode jdk_52_method_4_code 46 = .ok (.iload_n 2, 1) := by decide +kernel
theorem d_jdk_52_method_4_code_47 : decode jdk_52_method_4_code 47 = .ok (.getstatic 63, 3) := by decide +kernel
theorem w84 {Z : State} {a0 : Array Value} (hw : Tb a0 Z) : (Jvm.Cond.fieldLink "java/lang/StringUTF16" (63 : Nat) "java/lang/StringUTF16" "LO_BYTE_SHIFT" "I").before a0 Z = true := hw _ (List.mem_of_getElem? (i := 84) rfl)
theorem d_jdk_52_method_4_code_50 : decode jdk_52_method_4_code 50 = .ok (.ishr, 1) := by decide +kernel
theorem d_jdk_52_method_4_code_51 : decode jdk_52_method_4_code 51 = .ok (.i2b, 1) := by decide +kernel
theorem d_jdk_52_method_4_code_52 : decode jdk_52_method_4_code 52 = .ok (.bastore, 1) := by decide +kernel
theorem d_jdk_52_method_4_code_53 : decode jdk_52_method_4_code 53 = .ok (.return_, 1) := by decide +kernel
set_option maxRecDepth 65536 in
set_option maxHeartbeats 40000000 in
theorem c_putChar (l : Launch) (Z : State) (a0 : Array Value) (hw : Tb a0 Z) (n0 : Nat) (d : Addr) (kd : ClassId) (i c z : Int32) (j m : Nat) (vs : List Value) (h0 : Heap) (O : Old Z n0 h0) (hj : i.toInt = j) (hjm : j < m) (hm : m ≤ 4000) (hz : z.toInt = (2 * m : Nat)) (hvs : vs.length = 2 * m) (V_d : Arv Z h0 d kd .byte z vs (.int 0)) (ga_d : n0 ≤ d) (SA : Sta Z Z.heap "java/lang/StringUTF16" "$assertionsDisabled" "Z" (.int 1)) (SH : Sta Z Z.heap "java/lang/StringUTF16" "HI_BYTE_SHIFT" "I" (.int 0)) (SL : Sta Z Z.heap "java/lang/StringUTF16" "LO_BYTE_SHIFT" "I" (.int 8)) :
    Ct l Z [] n0 (⟨"java/lang/StringUTF16", "putChar", "([BII)V"⟩ : MethodName) jdk_52_method_4_code 3 none ({ frames := 0, cells := 0, slots := 0, locals := 0 } : Room) #[(.ref d), (.int i), (.int c)] h0 [d] (fun v h _ => v = none ∧ Keep h0 h [d] ∧ Arv Z h d kd .byte z ((vs.set (2 * j) (loB c)).set (2 * j + 1) (hiB c)) (.int 0)) := by
  refine Ct.of (a0 := a0) #[.val (.ref d), .val (.int i), .val (.int c)] O (plainFor_of_name pl_java_lang_StringUTF16) (fun m => by first | (simp [entryFrame, mkF, argsToLocals, Value.category]; done) | rfl) ?_
  intro p_ e_ s_ m_ below_ meth_ c_ b_ T_ K hSP
  have KP := Keep.refl h0 [d]
  have sf_d := hSP d (by simp)
  refine k_getS K (w82 hw) Via.refl SA d_jdk_52_method_4_code_0 (pc' := 3) rfl ?_
  intro T12 K12
  refine k_if_ne K12 d_jdk_52_method_4_code_3 (by decide) (pc' := 28) (pc2 := 6) (by decide) rfl (fun hc3 => ?_) (fun q => absurd q (by decide))
  refine k_iloadN K12 d_jdk_52_method_4_code_28 (pc' := 29) rfl rfl ?_
  refine k_iconst K12 (1 : Int32) d_jdk_52_method_4_code_29 (pc' := 30) rfl rfl ?_
  refine k_ishl K12 d_jdk_52_method_4_code_30 (pc' := 31) rfl ?_
  refine k_istoreN K12 d_jdk_52_method_4_code_31 (pc' := 32) (L' := #[.val (.ref d), .val (.int (i <<< ((1 : Int32) &&& 31))), .val (.int c)]) rfl rfl ?_
  have hi := own_dbl hj (by omega)
  have hi1 := own_add1 hi (by omega)
  generalize hii : i <<< ((1 : Int32) &&& 31) = i2 at hi hi1 ⊢
  refine k_aloadN K12 d_jdk_52_method_4_code_32 (pc' := 33) rfl rfl rfl ?_
  refine k_iloadN K12 d_jdk_52_method_4_code_33 (pc' := 34) rfl rfl ?_
  refine k_iinc K12 (1 : Int32) d_jdk_52_method_4_code_34 (pc' := 37) (L' := #[.val (.ref d), .val (.int (i2 + (1 : Int32))), .val (.int c)]) rfl rfl rfl rfl ?_
  refine k_iloadN K12 d_jdk_52_method_4_code_37 (pc' := 38) rfl rfl ?_
  refine k_getS K12 (w83 hw) Via.refl SH d_jdk_52_method_4_code_38 (pc' := 41) rfl ?_
  intro T13 K13
  refine k_ishr K13 d_jdk_52_method_4_code_41 (pc' := 42) rfl ?_
  refine k_i2b K13 d_jdk_52_method_4_code_42 (pc' := 43) rfl ?_
  refine k_bastore K13 (j := i2) V_d (own_in hi hz (by omega)) (by rw [own_clamp hi, hvs]; omega) ga_d sf_d d_jdk_52_method_4_code_43 (pc' := 44) rfl ?_
  intro T14 h14 K14 W14 tr14 V14
  replace sf_d := tr14 d V_d.lt sf_d
  replace KP := KP.wr W14 (Or.inl (by simp))
  replace V_d := V14
  rw [own_clamp hi, own_byte] at V_d
  replace V_d : Arv Z h14 d kd .byte z (vs.set (2 * j) (loB c)) (.int 0) := V_d
  refine k_aloadN K14 d_jdk_52_method_4_code_44 (pc' := 45) rfl rfl rfl ?_
  refine k_iloadN K14 d_jdk_52_method_4_code_45 (pc' := 46) rfl rfl ?_
  refine k_iloadN K14 d_jdk_52_method_4_code_46 (pc' := 47) rfl rfl ?_
  refine k_getS K14 (w84 hw) Via.refl SL d_jdk_52_method_4_code_47 (pc' := 50) rfl ?_
  intro T15 K15
  refine k_ishr K15 d_jdk_52_method_4_code_50 (pc' := 51) rfl ?_
  refine k_i2b K15 d_jdk_52_method_4_code_51 (pc' := 52) rfl ?_
  refine k_bastore K15 (j := (i2 + (1 : Int32))) V_d (own_in hi1 hz (by omega)) (by rw [own_clamp hi1, List.length_set, hvs]; omega) ga_d sf_d d_jdk_52_method_4_code_52 (pc' := 53) rfl ?_
  intro T16 h16 K16 W16 tr16 V16
  replace sf_d := tr16 d V_d.lt sf_d
  replace KP := KP.wr W16 (Or.inl (by simp))
  replace V_d := V16
  rw [own_clamp hi1, own_byte] at V_d
  replace V_d : Arv Z h16 d kd .byte z ((vs.set (2 * j) (loB c)).set (2 * j + 1) (hiB c)) (.int 0) := V_d
  exact k_return K16 d_jdk_52_method_4_code_53 rfl (fun sf ht => ⟨rfl, KP, V_d⟩) (by decide) (by decide)
theorem d_jdk_52_method_14_code_0 : decode jdk_52_method_14_code 0 = .ok (.iload_n 2, 1) := by decide +kernel
theorem d_jdk_52_method_14_code_1 : decode jdk_52_method_14_code 1 = .ok (.invokestatic 107, 3) := by decide +kernel
theorem w72 {Z : State} {a0 : Array Value} (hw : Tb a0 Z) : (Jvm.Cond.methodLink "java/lang/StringUTF16" (107 : Nat) ({ cls := "java/lang/StringUTF16", name := "newBytesFor", desc := "(I)[B" } : Jvm.MethodName)).before a0 Z = true := hw _ (List.mem_of_getElem? (i := 72) rfl)
theorem w74 {Z : State} {a0 : Array Value} (hw : Tb a0 Z) : (Jvm.Cond.code ({ cls := "java/lang/StringUTF16", name := "newBytesFor", desc := "(I)[B" } : Jvm.MethodName) jdk_52_method_2_code (1 : Nat) (Option.some (Jvm.ClassFile.FieldType.array Jvm.ClassFile.FieldType.byte))).before a0 Z = true := hw _ (List.mem_of_getElem? (i := 74) rfl)
theorem w73 {Z : State} {a0 : Array Value} (hw : Tb a0 Z) : (Jvm.Cond.static ({ cls := "java/lang/StringUTF16", name := "newBytesFor", desc := "(I)[B" } : Jvm.MethodName)).before a0 Z = true := hw _ (List.mem_of_getElem? (i := 73) rfl)
theorem pd__I__B_1003 : parseMethodDescriptor "(I)[B" = some ⟨[.int], some (.array .byte)⟩ := by decide +kernel
theorem d_jdk_52_method_14_code_4 : decode jdk_52_method_14_code 4 = .ok (.astore_n 3, 1) := by decide +kernel
theorem d_jdk_52_method_14_code_5 : decode jdk_52_method_14_code 5 = .ok (.iconst 0, 1) := by decide +kernel
theorem d_jdk_52_method_14_code_6 : decode jdk_52_method_14_code 6 = .ok (.istore 4, 2) := by decide +kernel
theorem d_jdk_52_method_14_code_8 : decode jdk_52_method_14_code 8 = .ok (.iload 4, 2) := by decide +kernel
theorem d_jdk_52_method_14_code_10 : decode jdk_52_method_14_code 10 = .ok (.iload_n 2, 1) := by decide +kernel
theorem d_jdk_52_method_14_code_11 : decode jdk_52_method_14_code 11 = .ok (.if_icmp .ge 21, 3) := by decide +kernel
theorem d_jdk_52_method_14_code_32 : decode jdk_52_method_14_code 32 = .ok (.aload_n 3, 1) := by decide +kernel
theorem d_jdk_52_method_14_code_33 : decode jdk_52_method_14_code 33 = .ok (.areturn, 1) := by decide +kernel
theorem d_jdk_52_method_14_code_14 : decode jdk_52_method_14_code 14 = .ok (.aload_n 3, 1) := by decide +kernel
theorem d_jdk_52_method_14_code_15 : decode jdk_52_method_14_code 15 = .ok (.iload 4, 2) := by decide +kernel
theorem d_jdk_52_method_14_code_17 : decode jdk_52_method_14_code 17 = .ok (.aload_n 0, 1) := by decide +kernel
theorem d_jdk_52_method_14_code_18 : decode jdk_52_method_14_code 18 = .ok (.iload_n 1, 1) := by decide +kernel
theorem d_jdk_52_method_14_code_19 : decode jdk_52_method_14_code 19 = .ok (.caload, 1) := by decide +kernel
theorem d_jdk_52_method_14_code_20 : decode jdk_52_method_14_code 20 = .ok (.invokestatic 111, 3) := by decide +kernel
theorem w79 {Z : State} {a0 : Array Value} (hw : Tb a0 Z) : (Jvm.Cond.methodLink "java/lang/StringUTF16" (111 : Nat) ({ cls := "java/lang/StringUTF16", name := "putChar", desc := "([BII)V" } : Jvm.MethodName)).before a0 Z = true := hw _ (List.mem_of_getElem? (i := 79) rfl)
theorem w81 {Z : State} {a0 : Array Value} (hw : Tb a0 Z) : (Jvm.Cond.code ({ cls := "java/lang/StringUTF16", name := "putChar", desc := "([BII)V" } : Jvm.MethodName) jdk_52_method_4_code (3 : Nat) (Option.none : Option Jvm.ClassFile.FieldType)).before a0 Z = true := hw _ (List.mem_of_getElem? (i := 81) rfl)
theorem w80 {Z : State} {a0 : Array Value} (hw : Tb a0 Z) : (Jvm.Cond.static ({ cls := "java/lang/StringUTF16", name := "putChar", desc := "([BII)V" } : Jvm.MethodName)).before a0 Z = true := hw _ (List.mem_of_getElem? (i := 80) rfl)
theorem pd___BII_V_1925 : parseMethodDescriptor "([BII)V" = some ⟨[(.array .byte), .int, .int], none⟩ := by decide +kernel
theorem d_jdk_52_method_14_code_23 : decode jdk_52_method_14_code 23 = .ok (.iinc 1 1, 3) := by decide +kernel
theorem d_jdk_52_method_14_code_26 : decode jdk_52_method_14_code 26 = .ok (.iinc 4 1, 3) := by decide +kernel
theorem d_jdk_52_method_14_code_29 : decode jdk_52_method_14_code 29 = .ok (.goto (-21), 3) := by decide +kernel
set_option maxRecDepth 65536 in
set_option maxHeartbeats 40000000 in
theorem c_toBytes3 (l : Launch) (Z : State) (a0 : Array Value) (hw : Tb a0 Z) (n0 : Nat) (va : Addr) (kv : ClassId) (n : Int32) (cs : List Int32) (h0 : Heap) (O : Old Z n0 h0) (hn : n.toInt = cs.length) (hb : cs.length ≤ 4) (V_va : Arv Z h0 va kv .char n (cs.map Value.int) (.int 0)) (SA : Sta Z Z.heap "java/lang/StringUTF16" "$assertionsDisabled" "Z" (.int 1)) (SH : Sta Z Z.heap "java/lang/StringUTF16" "HI_BYTE_SHIFT" "I" (.int 0)) (SL : Sta Z Z.heap "java/lang/StringUTF16" "LO_BYTE_SHIFT" "I" (.int 8)) :
    Ct l Z [] n0 (⟨"java/lang/StringUTF16", "toBytes", "([CII)[B"⟩ : MethodName) jdk_52_method_14_code 5 (some (.array .byte)) ({ frames := 2, cells := 1, slots := 8, locals := 24 } : Room) #[(.ref va), (.int (0 : Int32)), (.int n)] h0 [] (fun v h sf => ∃ d kd, v = some (.ref d) ∧ h0.size ≤ d ∧ Keep h0 h [] ∧ Arv Z h d kd .byte (n <<< ((1 : Int32) &&& 31)) (fill2 cs cs.length) (.int 0) ∧ sf d) := by
  refine Ct.of (a0 := a0) #[.val (.ref va), .val (.int (0 : Int32)), .val (.int n), .unset, .unset] O (plainFor_of_name pl_java_lang_StringUTF16) (fun m => by first | (simp [entryFrame, mkF, argsToLocals, Value.category]; done) | rfl) ?_
  intro p_ e_ s_ m_ below_ meth_ c_ b_ T_ K hSP
  have KP := Keep.refl h0 []
  refine k_iloadN K d_jdk_52_method_14_code_0 (pc' := 1) rfl rfl ?_
  refine k_static K [(.int n)] [] 0 (w72 hw) (w73 hw) (w18 hw) (w74 hw) (by decide) pd__I__B_1003 (c_nbf l Z a0 hw n0 n cs.length h0 K.old hn hb) d_jdk_52_method_14_code_1 nofun (pc' := 4) rfl rfl rfl rfl (Nat.le_of_eq rfl) (by decide) (by decide) (by decide) (by decide) ?_
  intro b17 T17 h17 L17 v17 K17 tr17 q17
  obtain ⟨d, kd, rfl, hd, KQ, V_d, sf_d⟩ := q17
  have ga_d : n0 ≤ d := Nat.le_trans (own_n0 K.old) hd
  have sz_d : h0.size ≤ d := Nat.le_trans KP.1 hd
  have ne_va_d : va ≠ d := own_ne2 V_va.lt hd
  replace V_va := V_va.keep KQ nin0
  replace KP := KP.trans KQ all0
  show Goes p_.tables e_ below_ _ (T17.setTop (mkF m_ 4 #[.val (.ref va), .val (.int (0 : Int32)), .val (.int n), .unset, .unset] [(.ref d)]))
  refine k_astoreN K17 d_jdk_52_method_14_code_4 (pc' := 5) (L' := #[.val (.ref va), .val (.int (0 : Int32)), .val (.int n), .val (.ref d), .unset]) rfl rfl rfl ?_
  refine k_iconst K17 (0 : Int32) d_jdk_52_method_14_code_5 (pc' := 6) rfl rfl ?_
  refine k_istore K17 d_jdk_52_method_14_code_6 (pc' := 8) (L' := #[.val (.ref va), .val (.int (0 : Int32)), .val (.int n), .val (.ref d), .val (.int (0 : Int32))]) rfl rfl ?_
  have hz := own_dbl hn (by omega)
  rw [← fill2_zero] at V_d
  have LOOP : ∀ (k : Nat) (i : Int32) (j : Nat) (hj : i.toInt = j) (hk : j + k = cs.length) (bl Tl : State) (hl : Heap) (Ll : List Loc), Wk p_ l e_ ({ frames := 2, cells := 1, slots := 8, locals := 24 } : Room) s_ m_ #[(.ref va), (.int (0 : Int32)), (.int n)] below_ meth_ c_ Z a0 [] n0 (⟨"java/lang/StringUTF16", "toBytes", "([CII)[B"⟩ : MethodName) jdk_52_method_14_code 5 (some (.array .byte)) bl Tl hl Ll 1 8 → (Keep h0 hl []) → (Arv Z hl va kv .char n (cs.map Value.int) (.int 0)) → (Arv Z hl d kd .byte (n <<< ((1 : Int32) &&& 31)) (fill2 cs j) (.int 0)) → (Sfe Z [] bl.vm hl d) → Goes p_.tables e_ below_ (FinW Z [] s_ n0 ({ frames := 2, cells := 1, slots := 8, locals := 24 } : Room) (fun v h sf => ∃ d kd, v = some (.ref d) ∧ h0.size ≤ d ∧ Keep h0 h [] ∧ Arv Z h d kd .byte (n <<< ((1 : Int32) &&& 31)) (fill2 cs cs.length) (.int 0) ∧ sf d)) (Tl.setTop (mkF m_ 8 #[.val (.ref va), .val (.int i), .val (.int n), .val (.ref d), .val (.int i)] [])) := by
    intro k
    induction k with
    | zero =>
      intro i j hj hk bl Tl hl Ll Kl KP V_va V_d sf_d
      refine k_iload Kl d_jdk_52_method_14_code_8 (pc' := 10) rfl rfl ?_
      refine k_iloadN Kl d_jdk_52_method_14_code_10 (pc' := 11) rfl rfl ?_
      refine k_icmp_ge Kl d_jdk_52_method_14_code_11 (by decide) (pc' := 32) (pc2 := 14) (by decide) rfl (fun hc11 => ?_) (fun q => absurd q (by rw [own_i32, hj, hn]; omega))
      refine k_aloadN Kl d_jdk_52_method_14_code_32 (pc' := 33) rfl rfl rfl ?_
      have ej : j = cs.length := by omega
      subst ej
      exact k_aret Kl d_jdk_52_method_14_code_33 rfl rfl rfl (fun sf ht => ⟨d, kd, rfl, sz_d, KP, V_d, ht _ V_d.lt sf_d⟩) (by decide) (by decide)
    | succ k ih =>
      intro i j hj hk bl Tl hl Ll Kl KP V_va V_d sf_d
      have hjl : j < cs.length := by omega
      refine k_iload Kl d_jdk_52_method_14_code_8 (pc' := 10) rfl rfl ?_
      refine k_iloadN Kl d_jdk_52_method_14_code_10 (pc' := 11) rfl rfl ?_
      refine k_icmp_ge Kl d_jdk_52_method_14_code_11 (by decide) (pc' := 32) (pc2 := 14) (by decide) rfl (fun q => absurd (by rw [own_i32, hj, hn]; omega) q) (fun hc11 => ?_)
      refine k_aloadN Kl d_jdk_52_method_14_code_14 (pc' := 15) rfl rfl rfl ?_
      refine k_iload Kl d_jdk_52_method_14_code_15 (pc' := 17) rfl rfl ?_
      refine k_aloadN Kl d_jdk_52_method_14_code_17 (pc' := 18) rfl rfl rfl ?_
      refine k_iloadN Kl d_jdk_52_method_14_code_18 (pc' := 19) rfl rfl ?_
      refine k_caload Kl (j := i) V_va (own_in hj hn hjl) (by rw [own_clamp hj]; exact own_getD cs j hjl) d_jdk_52_method_14_code_19 (pc' := 20) rfl ?_
      refine k_static Kl [(.ref d), (.int i), (.int cs[j])] [] 0 (w79 hw) (w80 hw) (w18 hw) (w81 hw) (by decide) pd___BII_V_1925 (c_putChar l Z a0 hw n0 d kd i cs[j] (n <<< ((1 : Int32) &&& 31)) j cs.length (fill2 cs j) hl Kl.old hj hjl (by omega) hz (fill2_len cs j (by omega)) V_d ga_d SA SH SL) d_jdk_52_method_14_code_20 (fun x hx => by cases List.mem_singleton.mp hx; exact ⟨V_d.lt, sf_d⟩) (pc' := 23) rfl rfl rfl rfl (Nat.le_of_eq rfl) (by decide) (by decide) (by decide) (by decide) ?_
      intro b19 T19 h19 L19 v19 K19 tr19 q19
      obtain ⟨rfl, KQ, V2⟩ := q19
      replace sf_d := tr19 d V_d.lt sf_d
      replace V_va := V_va.keep KQ (ninS ne_va_d nin0)
      replace KP := KP.trans KQ (allS (Or.inr sz_d) all0)
      replace V_d := (fill2_set cs j hjl) ▸ V2
      show Goes p_.tables e_ below_ _ (T19.setTop (mkF m_ 23 #[.val (.ref va), .val (.int i), .val (.int n), .val (.ref d), .val (.int i)] []))
      refine k_iinc K19 (1 : Int32) d_jdk_52_method_14_code_23 (pc' := 26) (L' := #[.val (.ref va), .val (.int (i + (1 : Int32))), .val (.int n), .val (.ref d), .val (.int i)]) rfl rfl rfl rfl ?_
      refine k_iinc K19 (1 : Int32) d_jdk_52_method_14_code_26 (pc' := 29) (L' := #[.val (.ref va), .val (.int (i + (1 : Int32))), .val (.int n), .val (.ref d), .val (.int (i + (1 : Int32)))]) rfl rfl rfl rfl ?_
      refine k_goto K19 d_jdk_52_method_14_code_29 (by decide) (pc' := 8) (by decide) ?_
      exact ih (i + 1) (j + 1) (own_add1 hj (by omega)) (by omega) _ _ _ _ K19 KP V_va V_d sf_d
  exact LOOP cs.length (0 : Int32) 0 rfl (by omega) _ _ _ _ K17 KP V_va V_d sf_d
theorem d_jdk_52_method_5_code_0 : decode jdk_52_method_5_code 0 = .ok (.getstatic 44, 3) := by decide +kernel
theorem d_jdk_52_method_5_code_3 : decode jdk_52_method_5_code 3 = .ok (.ifCond .ne 25, 3) := by decide +kernel
theorem d_jdk_52_method_5_code_28 : decode jdk_52_method_5_code 28 = .ok (.iload_n 1, 1) := by decide +kernel
theorem d_jdk_52_method_5_code_29 : decode jdk_52_method_5_code 29 = .ok (.iconst 1, 1) := by decide +kernel
theorem d_jdk_52_method_5_code_30 : decode jdk_52_method_5_code 30 = .ok (.ishl, 1) := by decide +kernel
theorem d_jdk_52_method_5_code_31 : decode jdk_52_method_5_code 31 = .ok (.istore_n 1, 1) := by decide +kernel
theorem d_jdk_52_method_5_code_32 : decode jdk_52_method_5_code 32 = .ok (.aload_n 0, 1) := by decide +kernel
theorem d_jdk_52_method_5_code_33 : decode jdk_52_method_5_code 33 = .ok (.iload_n 1, 1) := by decide +kernel
theorem d_jdk_52_method_5_code_34 : decode jdk_52_method_5_code 34 = .ok (.iinc 1 1, 3) := by decide +kernel
theorem d_jdk_52_method_5_code_37 : decode jdk_52_method_5_code 37 = .ok (.baload, 1) := by decide +kernel
theorem d_jdk_52_method_5_code_38 : decode jdk_52_method_5_code 38 = .ok (.sipush 255, 3) := by decide +kernel
theorem d_jdk_52_method_5_code_41 : decode jdk_52_method_5_code 41 = .ok (.iand, 1) := by decide +kernel
theorem d_jdk_52_method_5_code_42 : decode jdk_52_method_5_code 42 = .ok (.getstatic 59, 3) := by decide +kernel
theorem d_jdk_52_method_5_code_45 : decode jdk_52_method_5_code 45 = .ok (.ishl, 1) := by decide +kernel
theorem d_jdk_52_method_5_code_46 : decode jdk_52_method_5_code 46 = .ok (.aload_n 0, 1) := by decide +kernel
theorem d_jdk_52_method_5_code_47 : decode jdk_52_method_5_code 47 = .ok (.iload_n 1, 1) := by decide +kernel
theorem d_jdk_52_method_5_code_48 : decode jdk_52_method_5_code 48 = .ok (.baload, 1) := by decide +kernel
theorem d_jdk_52_method_5_code_49 : decode jdk_52_method_5_code 49 = .ok (.sipush 255, 3) := by decide +kernel
theorem d_jdk_52_method_5_code_52 : decode jdk_52_method_5_code 52 = .ok (.iand, 1) := by decide +kernel
theorem d_jdk_52_method_5_code_53 : decode jdk_52_method_5_code 53 = .ok (.getstatic 63, 3) := by decide +kernel
theorem d_jdk_52_method_5_code_56 : decode jdk_52_method_5_code 56 = .ok (.ishl, 1) := by decide +kernel
theorem d_jdk_52_method_5_code_57 : decode jdk_52_method_5_code 57 = .ok (.ior, 1) := by decide +kernel
theorem d_jdk_52_method_5_code_58 : decode jdk_52_method_5_code 58 = .ok (.i2c, 1) := by decide +kernel
theorem d_jdk_52_method_5_code_59 : decode jdk_52_method_5_code 59 = .ok (.ireturn, 1) := by decide +kernel
set_option maxRecDepth 65536 in
set_option maxHeartbeats 40000000 in
theorem c_getChar (l : Launch) (Z : State) (a0 : Array Value) (hw : Tb a0 Z) (n0 : Nat) (d : Addr) (kd : ClassId) (i z : Int32) (j : Nat) (cs : List Int32) (h0 : Heap) (O : Old Z n0 h0) (hj : i.toInt = j) (hjl : j < cs.length) (hm : cs.length ≤ 4000) (hz : z.toInt = (2 * cs.length : Nat)) (hc : ∀ c ∈ cs, 0 ≤ c.toInt ∧ c.toInt < 65536) (V_d : Arv Z h0 d kd .byte z (fill2 cs cs.length) (.int 0)) (SA : Sta Z Z.heap "java/lang/StringUTF16" "$assertionsDisabled" "Z" (.int 1)) (SH : Sta Z Z.heap "java/lang/StringUTF16" "HI_BYTE_SHIFT" "I" (.int 0)) (SL : Sta Z Z.heap "java/lang/StringUTF16" "LO_BYTE_SHIFT" "I" (.int 8)) :
    Ct l Z [] n0 (⟨"java/lang/StringUTF16", "getChar", "([BI)C"⟩ : MethodName) jdk_52_method_5_code 2 (some .char) ({ frames := 0, cells := 0, slots := 0, locals := 0 } : Room) #[(.ref d), (.int i)] h0 [] (Pu (some (.int cs[j])) h0) := by
  refine Ct.of (a0 := a0) #[.val (.ref d), .val (.int i)] O (plainFor_of_name pl_java_lang_StringUTF16) (fun m => by first | (simp [entryFrame, mkF, argsToLocals, Value.category]; done) | rfl) ?_
  intro p_ e_ s_ m_ below_ meth_ c_ b_ T_ K hSP
  refine k_getS K (w82 hw) Via.refl SA d_jdk_52_method_5_code_0 (pc' := 3) rfl ?_
  intro T20 K20
  refine k_if_ne K20 d_jdk_52_method_5_code_3 (by decide) (pc' := 28) (pc2 := 6) (by decide) rfl (fun hc3 => ?_) (fun q => absurd q (by decide))
  refine k_iloadN K20 d_jdk_52_method_5_code_28 (pc' := 29) rfl rfl ?_
  refine k_iconst K20 (1 : Int32) d_jdk_52_method_5_code_29 (pc' := 30) rfl rfl ?_
  refine k_ishl K20 d_jdk_52_method_5_code_30 (pc' := 31) rfl ?_
  refine k_istoreN K20 d_jdk_52_method_5_code_31 (pc' := 32) (L' := #[.val (.ref d), .val (.int (i <<< ((1 : Int32) &&& 31)))]) rfl rfl ?_
  have hi := own_dbl hj (by omega)
  have hi1 := own_add1 hi (by omega)
  generalize hii : i <<< ((1 : Int32) &&& 31) = i2 at hi hi1 ⊢
  refine k_aloadN K20 d_jdk_52_method_5_code_32 (pc' := 33) rfl rfl rfl ?_
  refine k_iloadN K20 d_jdk_52_method_5_code_33 (pc' := 34) rfl rfl ?_
  refine k_iinc K20 (1 : Int32) d_jdk_52_method_5_code_34 (pc' := 37) (L' := #[.val (.ref d), .val (.int (i2 + (1 : Int32)))]) rfl rfl rfl rfl ?_
  refine k_baload K20 (j := i2) V_d (own_in hi hz (by omega)) (by rw [own_clamp hi]; exact fill2_lo cs j hjl) d_jdk_52_method_5_code_37 (pc' := 38) rfl ?_
  refine k_sipush K20 (255 : Int32) d_jdk_52_method_5_code_38 (pc' := 41) rfl rfl ?_
  refine k_iand K20 d_jdk_52_method_5_code_41 (pc' := 42) rfl ?_
  refine k_getS K20 (w83 hw) Via.refl SH d_jdk_52_method_5_code_42 (pc' := 45) rfl ?_
  intro T21 K21
  refine k_ishl K21 d_jdk_52_method_5_code_45 (pc' := 46) rfl ?_
  refine k_aloadN K21 d_jdk_52_method_5_code_46 (pc' := 47) rfl rfl rfl ?_
  refine k_iloadN K21 d_jdk_52_method_5_code_47 (pc' := 48) rfl rfl ?_
  refine k_baload K21 (j := (i2 + (1 : Int32))) V_d (own_in hi1 hz (by omega)) (by rw [own_clamp hi1]; exact fill2_hi cs j hjl) d_jdk_52_method_5_code_48 (pc' := 49) rfl ?_
  refine k_sipush K21 (255 : Int32) d_jdk_52_method_5_code_49 (pc' := 52) rfl rfl ?_
  refine k_iand K21 d_jdk_52_method_5_code_52 (pc' := 53) rfl ?_
  refine k_getS K21 (w84 hw) Via.refl SL d_jdk_52_method_5_code_53 (pc' := 56) rfl ?_
  intro T22 K22
  refine k_ishl K22 d_jdk_52_method_5_code_56 (pc' := 57) rfl ?_
  refine k_ior K22 d_jdk_52_method_5_code_57 (pc' := 58) rfl ?_
  refine k_i2c K22 d_jdk_52_method_5_code_58 (pc' := 59) rfl ?_
  have hcj := hc cs[j] (List.getElem_mem hjl)
  have ej := own_join cs[j] hcj.1 hcj.2
  rw [ej]
  exact k_nret K22 d_jdk_52_method_5_code_59 rfl (by simp) (own_narrowc hcj.1 hcj.2) (fun sf ht => ⟨rfl, rfl⟩) (by decide) (by decide)
theorem d_jdk_52_method_16_code_57 : decode jdk_52_method_16_code 57 = .ok (.aload_n 3, 1) := by decide +kernel
theorem d_jdk_52_method_16_code_58 : decode jdk_52_method_16_code 58 = .ok (.areturn, 1) := by decide +kernel
theorem d_jdk_52_method_16_code_20 : decode jdk_52_method_16_code 20 = .ok (.aload_n 0, 1) := by decide +kernel
theorem d_jdk_52_method_16_code_21 : decode jdk_52_method_16_code 21 = .ok (.iload_n 1, 1) := by decide +kernel
theorem d_jdk_52_method_16_code_22 : decode jdk_52_method_16_code 22 = .ok (.iload_n 2, 1) := by decide +kernel
theorem d_jdk_52_method_16_code_23 : decode jdk_52_method_16_code 23 = .ok (.invokestatic 119, 3) := by decide +kernel
theorem w69 {Z : State} {a0 : Array Value} (hw : Tb a0 Z) : (Jvm.Cond.methodLink "java/lang/StringUTF16" (119 : Nat) ({ cls := "java/lang/StringUTF16", name := "toBytes", desc := "([CII)[B" } : Jvm.MethodName)).before a0 Z = true := hw _ (List.mem_of_getElem? (i := 69) rfl)
theorem w71 {Z : State} {a0 : Array Value} (hw : Tb a0 Z) : (Jvm.Cond.code ({ cls := "java/lang/StringUTF16", name := "toBytes", desc := "([CII)[B" } : Jvm.MethodName) jdk_52_method_14_code (5 : Nat) (Option.some (Jvm.ClassFile.FieldType.array Jvm.ClassFile.FieldType.byte))).before a0 Z = true := hw _ (List.mem_of_getElem? (i := 71) rfl)
theorem w70 {Z : State} {a0 : Array Value} (hw : Tb a0 Z) : (Jvm.Cond.static ({ cls := "java/lang/StringUTF16", name := "toBytes", desc := "([CII)[B" } : Jvm.MethodName)).before a0 Z = true := hw _ (List.mem_of_getElem? (i := 70) rfl)
theorem pd___CII__B_2491 : parseMethodDescriptor "([CII)[B" = some ⟨[(.array .char), .int, .int], some (.array .byte)⟩ := by decide +kernel
theorem d_jdk_52_method_16_code_26 : decode jdk_52_method_16_code 26 = .ok (.astore 5, 2) := by decide +kernel
theorem d_jdk_52_method_16_code_28 : decode jdk_52_method_16_code 28 = .ok (.aload 5, 2) := by decide +kernel
theorem d_jdk_52_method_16_code_30 : decode jdk_52_method_16_code 30 = .ok (.iload 4, 2) := by decide +kernel
theorem d_jdk_52_method_16_code_32 : decode jdk_52_method_16_code 32 = .ok (.invokestatic 71, 3) := by decide +kernel
theorem w85 {Z : State} {a0 : Array Value} (hw : Tb a0 Z) : (Jvm.Cond.methodLink "java/lang/StringUTF16" (71 : Nat) ({ cls := "java/lang/StringUTF16", name := "getChar", desc := "([BI)C" } : Jvm.MethodName)).before a0 Z = true := hw _ (List.mem_of_getElem? (i := 85) rfl)
theorem w87 {Z : State} {a0 : Array Value} (hw : Tb a0 Z) : (Jvm.Cond.code ({ cls := "java/lang/StringUTF16", name := "getChar", desc := "([BI)C" } : Jvm.MethodName) jdk_52_method_5_code (2 : Nat) (Option.some Jvm.ClassFile.FieldType.char)).before a0 Z = true := hw _ (List.mem_of_getElem? (i := 87) rfl)
theorem w86 {Z : State} {a0 : Array Value} (hw : Tb a0 Z) : (Jvm.Cond.static ({ cls := "java/lang/StringUTF16", name := "getChar", desc := "([BI)C" } : Jvm.MethodName)).before a0 Z = true := hw _ (List.mem_of_getElem? (i := 86) rfl)
theorem pd___BI_C_1319 : parseMethodDescriptor "([BI)C" = some ⟨[(.array .byte), .int], some .char⟩ := by decide +kernel
theorem d_jdk_52_method_16_code_35 : decode jdk_52_method_16_code 35 = .ok (.sipush 255, 3) := by decide +kernel
theorem d_jdk_52_method_16_code_38 : decode jdk_52_method_16_code 38 = .ok (.if_icmp .gt 16, 3) := by decide +kernel
theorem d_jdk_52_method_16_code_54 : decode jdk_52_method_16_code 54 = .ok (.aload 5, 2) := by decide +kernel
theorem d_jdk_52_method_16_code_56 : decode jdk_52_method_16_code 56 = .ok (.areturn, 1) := by decide +kernel
set_option maxRecDepth 65536 in
set_option maxHeartbeats 40000000 in
theorem c_compress3 (l : Launch) (Z : State) (a0 : Array Value) (hw : Tb a0 Z) (n0 : Nat) (va : Addr) (kv : ClassId) (n : Int32) (cs : List Int32) (h0 : Heap) (O : Old Z n0 h0) (hn : n.toInt = cs.length) (hb : cs.length ≤ 4) (hc : ∀ c ∈ cs, 0 ≤ c.toInt ∧ c.toInt < 65536) (V_va : Arv Z h0 va kv .char n (cs.map Value.int) (.int 0)) (SA : Sta Z Z.heap "java/lang/StringUTF16" "$assertionsDisabled" "Z" (.int 1)) (SH : Sta Z Z.heap "java/lang/StringUTF16" "HI_BYTE_SHIFT" "I" (.int 0)) (SL : Sta Z Z.heap "java/lang/StringUTF16" "LO_BYTE_SHIFT" "I" (.int 8)) :
    Ct l Z [] n0 (⟨"java/lang/StringUTF16", "compress", "([CII)[B"⟩ : MethodName) jdk_52_method_16_code 6 (some (.array .byte)) ({ frames := 3, cells := 2, slots := 12, locals := 40 } : Room) #[(.ref va), (.int (0 : Int32)), (.int n)] h0 [] (fun v h sf => ∃ d kd, v = some (.ref d) ∧ h0.size ≤ d ∧ Keep h0 h [] ∧ Arv Z h d kd .byte (strZ n cs) (strVs cs) (.int 0) ∧ sf d) := by
  refine Ct.of (a0 := a0) #[.val (.ref va), .val (.int (0 : Int32)), .val (.int n), .unset, .unset, .unset] O (plainFor_of_name pl_java_lang_StringUTF16) (fun m => by first | (simp [entryFrame, mkF, argsToLocals, Value.category]; done) | rfl) ?_
  intro p_ e_ s_ m_ below_ meth_ c_ b_ T_ K hSP
  have KP := Keep.refl h0 []
  refine k_iloadN K d_jdk_52_method_16_code_0 (pc' := 1) rfl rfl ?_
  refine k_newarray K (aty := .byte) (z := n) (w20 hw) (by rw [own_i32, own_0, hn]; omega) (cap := 4) (by rw [own_clamp hn]; omega) (by decide) d_jdk_52_method_16_code_1 (pc' := 3) rfl (by decide) (by decide) ?_
  intro T8 h8 a8 ka8 g8 K8 E8 tr8 sf_a8 V_a8
  have ga_a8 : n0 ≤ a8 := own_old K.old g8
  have sz_a8 : h0.size ≤ a8 := g8 ▸ KP.1
  have ne_va_a8 : va ≠ a8 := own_ne V_va.lt g8
  replace V_va := V_va.ext E8
  replace KP := KP.ext E8
  replace V_a8 : Arv Z h8 a8 ka8 .byte n (List.replicate cs.length (.int (0 : Int32))) (.int (0 : Int32)) := V_a8.pad (pad_rep [] (.int (0 : Int32)) cs.length)
  refine k_astoreN K8 d_jdk_52_method_16_code_3 (pc' := 4) (L' := #[.val (.ref va), .val (.int (0 : Int32)), .val (.int n), .val (.ref a8), .unset, .unset]) rfl rfl rfl ?_
  refine k_aloadN K8 d_jdk_52_method_16_code_4 (pc' := 5) rfl rfl rfl ?_
  refine k_iloadN K8 d_jdk_52_method_16_code_5 (pc' := 6) rfl rfl ?_
  refine k_aloadN K8 d_jdk_52_method_16_code_6 (pc' := 7) rfl rfl rfl ?_
  refine k_iconst K8 (0 : Int32) d_jdk_52_method_16_code_7 (pc' := 8) rfl rfl ?_
  refine k_iloadN K8 d_jdk_52_method_16_code_8 (pc' := 9) rfl rfl ?_
  refine k_static K8 [(.ref va), (.int (0 : Int32)), (.ref a8), (.int (0 : Int32)), (.int n)] [] 0 (w21 hw) (w22 hw) (w18 hw) (w23 hw) (by decide) pd___CI_BII_I_3760 (c_compress5 l Z a0 hw n0 va a8 kv ka8 n cs h8 K8.old hn (by omega) V_va V_a8 ne_va_a8 ga_a8) d_jdk_52_method_16_code_9 (fun x hx => by cases List.mem_singleton.mp hx; exact ⟨V_a8.lt, sf_a8⟩) (pc' := 12) rfl rfl rfl rfl (Nat.le_of_eq rfl) (by decide) (by decide) (by decide) (by decide) ?_
  intro b9 T9 h9 L9 v9 K9 tr9 q9
  obtain ⟨rfl, KQ, V2⟩ := q9
  replace sf_a8 := tr9 a8 V_a8.lt sf_a8
  replace V_va := V_va.keep KQ (ninS ne_va_a8 nin0)
  replace KP := KP.trans KQ (allS (Or.inr sz_a8) all0)
  have V_a8 := V2
  have hp := own_ofN (Nat.le_trans (preN_le cs) (show cs.length ≤ 4000 by omega))
  generalize hpp : Int32.ofNat (preN cs) = p1 at hp ⊢
  show Goes p_.tables e_ below_ _ (T9.setTop (mkF m_ 12 #[.val (.ref va), .val (.int (0 : Int32)), .val (.int n), .val (.ref a8), .unset, .unset] [(.int p1)]))
  refine k_istore K9 d_jdk_52_method_16_code_12 (pc' := 14) (L' := #[.val (.ref va), .val (.int (0 : Int32)), .val (.int n), .val (.ref a8), .val (.int p1), .unset]) rfl rfl ?_
  refine k_iload K9 d_jdk_52_method_16_code_14 (pc' := 16) rfl rfl ?_
  refine k_iloadN K9 d_jdk_52_method_16_code_16 (pc' := 17) rfl rfl ?_
  refine k_icmp_eq K9 d_jdk_52_method_16_code_17 (by decide) (pc' := 57) (pc2 := 20) (by decide) rfl (fun hc17 => ?_) (fun hc17 => ?_)
  · refine k_aloadN K9 d_jdk_52_method_16_code_57 (pc' := 58) rfl rfl rfl ?_
    have ep : preN cs = cs.length := by have q := congrArg Int32.toInt hc17; rw [hp, hn] at q; omega
    exact k_aret K9 d_jdk_52_method_16_code_58 rfl rfl rfl (fun sf ht => ⟨a8, ka8, rfl, sz_a8, KP, by rw [strZ, strVs, if_pos ep, if_pos ep, ← ep]; exact V_a8, ht _ V_a8.lt sf_a8⟩) (by decide) (by decide)
  · have ep : ¬ preN cs = cs.length := fun q => hc17 (own_i32e (by rw [hp, hn, q]))
    have hlt : preN cs < cs.length := Nat.lt_of_le_of_ne (preN_le cs) ep
    refine k_aloadN K9 d_jdk_52_method_16_code_20 (pc' := 21) rfl rfl rfl ?_
    refine k_iloadN K9 d_jdk_52_method_16_code_21 (pc' := 22) rfl rfl ?_
    refine k_iloadN K9 d_jdk_52_method_16_code_22 (pc' := 23) rfl rfl ?_
    refine k_static K9 [(.ref va), (.int (0 : Int32)), (.int n)] [] 0 (w69 hw) (w70 hw) (w18 hw) (w71 hw) (by decide) pd___CII__B_2491 (c_toBytes3 l Z a0 hw n0 va kv n cs h9 K9.old hn hb V_va SA SH SL) d_jdk_52_method_16_code_23 nofun (pc' := 26) rfl rfl rfl rfl (Nat.le_of_eq rfl) (by decide) (by decide) (by decide) (by decide) ?_
    intro b23 T23 h23 L23 v23 K23 tr23 q23
    obtain ⟨d, kd, rfl, hd, KQ, V_d, sf_d⟩ := q23
    have ga_d : n0 ≤ d := Nat.le_trans (own_n0 K9.old) hd
    have sz_d : h0.size ≤ d := Nat.le_trans KP.1 hd
    have ne_va_d : va ≠ d := own_ne2 V_va.lt hd
    have ne_a8_d : a8 ≠ d := own_ne2 V_a8.lt hd
    replace sf_a8 := tr23 a8 V_a8.lt sf_a8
    replace V_va := V_va.keep KQ nin0
    replace V_a8 := V_a8.keep KQ nin0
    replace KP := KP.trans KQ all0
    show Goes p_.tables e_ below_ _ (T23.setTop (mkF m_ 26 #[.val (.ref va), .val (.int (0 : Int32)), .val (.int n), .val (.ref a8), .val (.int p1), .unset] [(.ref d)]))
    refine k_astore K23 d_jdk_52_method_16_code_26 (pc' := 28) (L' := #[.val (.ref va), .val (.int (0 : Int32)), .val (.int n), .val (.ref a8), .val (.int p1), .val (.ref d)]) rfl rfl rfl ?_
    refine k_aload K23 d_jdk_52_method_16_code_28 (pc' := 30) rfl rfl rfl ?_
    refine k_iload K23 d_jdk_52_method_16_code_30 (pc' := 32) rfl rfl ?_
    refine k_staticP K23 [(.ref d), (.int p1)] [] 0 (w85 hw) (w86 hw) (w18 hw) (w87 hw) (by decide) pd___BI_C_1319 (c_getChar l Z a0 hw n0 d kd p1 (n <<< ((1 : Int32) &&& 31)) (preN cs) cs h23 K23.old hp hlt (by omega) (own_dbl hn (by omega)) hc V_d SA SH SL) d_jdk_52_method_16_code_32 nofun (pc' := 35) rfl rfl rfl rfl (Nat.le_of_eq rfl) (by decide) (by decide) (by decide) (by decide) ?_
    intro b24 T24 L24 K24 tr24
    show Goes p_.tables e_ below_ _ (T24.setTop (mkF m_ 35 #[.val (.ref va), .val (.int (0 : Int32)), .val (.int n), .val (.ref a8), .val (.int p1), .val (.ref d)] [(.int cs[preN cs])]))
    replace sf_a8 := tr24 a8 V_a8.lt sf_a8
    replace sf_d := tr24 d V_d.lt sf_d
    refine k_sipush K24 (255 : Int32) d_jdk_52_method_16_code_35 (pc' := 38) rfl rfl ?_
    refine k_icmp_gt K24 d_jdk_52_method_16_code_38 (by decide) (pc' := 54) (pc2 := 41) (by decide) rfl (fun hc38 => ?_) (fun q => absurd (preN_gt cs hlt) q)
    refine k_aload K24 d_jdk_52_method_16_code_54 (pc' := 56) rfl rfl rfl ?_
    exact k_aret K24 d_jdk_52_method_16_code_56 rfl rfl rfl (fun sf ht => ⟨d, kd, rfl, sz_d, KP, by rw [strZ, strVs, if_neg ep, if_neg ep]; exact V_d, ht _ V_d.lt sf_d⟩) (by decide) (by decide)
theorem d_jdk_52_method_15_code_0 : decode jdk_52_method_15_code 0 = .ok (.iload_n 1, 1) := by decide +kernel
theorem d_jdk_52_method_15_code_1 : decode jdk_52_method_15_code 1 = .ok (.aload_n 0, 1) := by decide +kernel
theorem d_jdk_52_method_15_code_2 : decode jdk_52_method_15_code 2 = .ok (.arraylength, 1) := by decide +kernel
theorem d_jdk_52_method_15_code_3 : decode jdk_52_method_15_code 3 = .ok (.isub, 1) := by decide +kernel
theorem d_jdk_52_method_15_code_4 : decode jdk_52_method_15_code 4 = .ok (.bipush 31, 2) := by decide +kernel
theorem d_jdk_52_method_15_code_6 : decode jdk_52_method_15_code 6 = .ok (.iushr, 1) := by decide +kernel
theorem d_jdk_52_method_15_code_7 : decode jdk_52_method_15_code 7 = .ok (.i2b, 1) := by decide +kernel
theorem d_jdk_52_method_15_code_8 : decode jdk_52_method_15_code 8 = .ok (.ireturn, 1) := by decide +kernel
set_option maxRecDepth 65536 in
set_option maxHeartbeats 40000000 in
theorem c_cfal (l : Launch) (Z : State) (a0 : Array Value) (hw : Tb a0 Z) (n0 : Nat) (d : Addr) (kd : ClassId) (n z cd : Int32) (vs : List Value) (h0 : Heap) (O : Old Z n0 h0) (V_d : Arv Z h0 d kd .byte z vs (.int 0)) (hcd : cd = 0 ∨ cd = 1) (he : ((XT.ushr (n - z) (31 : Int32)).toInt8.toInt32) = cd) :
    Ct l Z [] n0 (⟨"java/lang/StringUTF16", "coderFromArrayLen", "([BI)B"⟩ : MethodName) jdk_52_method_15_code 2 (some .byte) ({ frames := 0, cells := 0, slots := 0, locals := 0 } : Room) #[(.ref d), (.int n)] h0 [] (Pu (some (.int cd)) h0) := by
  refine Ct.of (a0 := a0) #[.val (.ref d), .val (.int n)] O (plainFor_of_name pl_java_lang_StringUTF16) (fun m => by first | (simp [entryFrame, mkF, argsToLocals, Value.category]; done) | rfl) ?_
  intro p_ e_ s_ m_ below_ meth_ c_ b_ T_ K hSP
  refine k_iloadN K d_jdk_52_method_15_code_0 (pc' := 1) rfl rfl ?_
  refine k_aloadN K d_jdk_52_method_15_code_1 (pc' := 2) rfl rfl rfl ?_
  refine k_len K V_d d_jdk_52_method_15_code_2 (pc' := 3) rfl ?_
  refine k_isub K d_jdk_52_method_15_code_3 (pc' := 4) rfl ?_
  refine k_bipush K (31 : Int32) d_jdk_52_method_15_code_4 (pc' := 6) rfl rfl ?_
  refine k_iushr K d_jdk_52_method_15_code_6 (pc' := 7) rfl ?_
  refine k_i2b K d_jdk_52_method_15_code_7 (pc' := 8) rfl ?_
  rw [he]
  exact k_nret K d_jdk_52_method_15_code_8 rfl (by simp) (by rcases hcd with rfl | rfl <;> rfl) (fun sf ht => ⟨rfl, rfl⟩) (by decide) (by decide)
theorem d_jdk_42_method_149_code_0 : decode jdk_42_method_149_code 0 = .ok (.aload_n 0, 1) := by decide +kernel
theorem d_jdk_42_method_149_code_1 : decode jdk_42_method_149_code 1 = .ok (.invokespecial 1, 3) := by decide +kernel
theorem w12 {Z : State} {a0 : Array Value} (hw : Tb a0 Z) : (Jvm.Cond.methodLink "java/lang/String" (1 : Nat) ({ cls := "java/lang/Object", name := "<init>", desc := "()V" } : Jvm.MethodName)).before a0 Z = true := hw _ (List.mem_of_getElem? (i := 12) rfl)
theorem w13 {Z : State} {a0 : Array Value} (hw : Tb a0 Z) : (Jvm.Cond.instanceMethod ({ cls := "java/lang/Object", name := "<init>", desc := "()V" } : Jvm.MethodName)).before a0 Z = true := hw _ (List.mem_of_getElem? (i := 13) rfl)
theorem w14 {Z : State} {a0 : Array Value} (hw : Tb a0 Z) : (Jvm.Cond.code ({ cls := "java/lang/Object", name := "<init>", desc := "()V" } : Jvm.MethodName) object_method_1_code (1 : Nat) (Option.none : Option Jvm.ClassFile.FieldType)).before a0 Z = true := hw _ (List.mem_of_getElem? (i := 14) rfl)
theorem d_jdk_42_method_149_code_4 : decode jdk_42_method_149_code 4 = .ok (.iload_n 3, 1) := by decide +kernel
theorem d_jdk_42_method_149_code_5 : decode jdk_42_method_149_code 5 = .ok (.ifCond .ne 22, 3) := by decide +kernel
theorem d_jdk_42_method_149_code_27 : decode jdk_42_method_149_code 27 = .ok (.getstatic 38, 3) := by decide +kernel
theorem d_jdk_42_method_149_code_30 : decode jdk_42_method_149_code 30 = .ok (.ifCond .eq 28, 3) := by decide +kernel
theorem d_jdk_42_method_149_code_33 : decode jdk_42_method_149_code 33 = .ok (.aload_n 1, 1) := by decide +kernel
theorem d_jdk_42_method_149_code_34 : decode jdk_42_method_149_code 34 = .ok (.iload_n 2, 1) := by decide +kernel
theorem d_jdk_42_method_149_code_35 : decode jdk_42_method_149_code 35 = .ok (.iload_n 3, 1) := by decide +kernel
theorem d_jdk_42_method_149_code_36 : decode jdk_42_method_149_code 36 = .ok (.invokestatic 177, 3) := by decide +kernel
theorem w16 {Z : State} {a0 : Array Value} (hw : Tb a0 Z) : (Jvm.Cond.methodLink "java/lang/String" (177 : Nat) ({ cls := "java/lang/StringUTF16", name := "compress", desc := "([CII)[B" } : Jvm.MethodName)).before a0 Z = true := hw _ (List.mem_of_getElem? (i := 16) rfl)
theorem w19 {Z : State} {a0 : Array Value} (hw : Tb a0 Z) : (Jvm.Cond.code ({ cls := "java/lang/StringUTF16", name := "compress", desc := "([CII)[B" } : Jvm.MethodName) jdk_52_method_16_code (6 : Nat) (Option.some (Jvm.ClassFile.FieldType.array Jvm.ClassFile.FieldType.byte))).before a0 Z = true := hw _ (List.mem_of_getElem? (i := 19) rfl)
theorem w17 {Z : State} {a0 : Array Value} (hw : Tb a0 Z) : (Jvm.Cond.static ({ cls := "java/lang/StringUTF16", name := "compress", desc := "([CII)[B" } : Jvm.MethodName)).before a0 Z = true := hw _ (List.mem_of_getElem? (i := 17) rfl)
theorem d_jdk_42_method_149_code_39 : decode jdk_42_method_149_code 39 = .ok (.astore 5, 2) := by decide +kernel
theorem d_jdk_42_method_149_code_41 : decode jdk_42_method_149_code 41 = .ok (.aload_n 0, 1) := by decide +kernel
theorem d_jdk_42_method_149_code_42 : decode jdk_42_method_149_code 42 = .ok (.aload 5, 2) := by decide +kernel
theorem d_jdk_42_method_149_code_44 : decode jdk_42_method_149_code 44 = .ok (.iload_n 3, 1) := by decide +kernel
theorem d_jdk_42_method_149_code_45 : decode jdk_42_method_149_code 45 = .ok (.invokestatic 47, 3) := by decide +kernel
theorem w24 {Z : State} {a0 : Array Value} (hw : Tb a0 Z) : (Jvm.Cond.methodLink "java/lang/String" (47 : Nat) ({ cls := "java/lang/StringUTF16", name := "coderFromArrayLen", desc := "([BI)B" } : Jvm.MethodName)).before a0 Z = true := hw _ (List.mem_of_getElem? (i := 24) rfl)
theorem w26 {Z : State} {a0 : Array Value} (hw : Tb a0 Z) : (Jvm.Cond.code ({ cls := "java/lang/StringUTF16", name := "coderFromArrayLen", desc := "([BI)B" } : Jvm.MethodName) jdk_52_method_15_code (2 : Nat) (Option.some Jvm.ClassFile.FieldType.byte)).before a0 Z = true := hw _ (List.mem_of_getElem? (i := 26) rfl)
theorem w25 {Z : State} {a0 : Array Value} (hw : Tb a0 Z) : (Jvm.Cond.static ({ cls := "java/lang/StringUTF16", name := "coderFromArrayLen", desc := "([BI)B" } : Jvm.MethodName)).before a0 Z = true := hw _ (List.mem_of_getElem? (i := 25) rfl)
theorem pd___BI_B_1313 : parseMethodDescriptor "([BI)B" = some ⟨[(.array .byte), .int], some .byte⟩ := by decide +kernel
theorem d_jdk_42_method_149_code_48 : decode jdk_42_method_149_code 48 = .ok (.putfield 15, 3) := by decide +kernel
theorem w28 {Z : State} {a0 : Array Value} (hw : Tb a0 Z) : (Jvm.Cond.laysFinal "java/lang/String" "java/lang/String" "coder" "B").before a0 Z = true := hw _ (List.mem_of_getElem? (i := 28) rfl)
theorem w3 {Z : State} {a0 : Array Value} (hw : Tb a0 Z) : (Jvm.Cond.instantiable "java/lang/String" (4 : Nat)).before a0 Z = true := hw _ (List.mem_of_getElem? (i := 3) rfl)
theorem w30 {Z : State} {a0 : Array Value} (hw : Tb a0 Z) : (Jvm.Cond.laysFinal "java/lang/String" "java/lang/String" "value" "[B").before a0 Z = true := hw _ (List.mem_of_getElem? (i := 30) rfl)
theorem d_jdk_42_method_149_code_51 : decode jdk_42_method_149_code 51 = .ok (.aload_n 0, 1) := by decide +kernel
theorem d_jdk_42_method_149_code_52 : decode jdk_42_method_149_code 52 = .ok (.aload 5, 2) := by decide +kernel
theorem d_jdk_42_method_149_code_54 : decode jdk_42_method_149_code 54 = .ok (.putfield 9, 3) := by decide +kernel
theorem d_jdk_42_method_149_code_57 : decode jdk_42_method_149_code 57 = .ok (.return_, 1) := by decide +kernel
set_option maxRecDepth 65536 in
set_option maxHeartbeats 40000000 in
theorem c_init149 (l : Launch) (Z : State) (a0 : Array Value) (hw : Tb a0 Z) (n0 : Nat) (a va : Addr) (kv : ClassId) (n : Int32) (cs : List Int32) (u1 u2 : Value) (cs0 : Int32) (h0 : Heap) (O : Old Z n0 h0) (hn : n.toInt = cs.length) (h1 : 1 ≤ cs.length) (hb : cs.length ≤ 4) (hc : ∀ c ∈ cs, 0 ≤ c.toInt ∧ c.toInt < 65536) (V_va : Arv Z h0 va kv .char n (cs.map Value.int) (.int 0)) (X_a : Exa Z h0 a "java/lang/String") (F_a_value : Fld Z h0 a "java/lang/String" "value" "[B" u1) (F_a_coder : Fld Z h0 a "java/lang/String" "coder" "B" u2) (ga_a : n0 ≤ a) (ne_a_va : a ≠ va) (SC : Sta Z Z.heap "java/lang/String" "COMPACT_STRINGS" "Z" (.int cs0)) (hcs : ¬ cs0 = 0) (SA : Sta Z Z.heap "java/lang/StringUTF16" "$assertionsDisabled" "Z" (.int 1)) (SH : Sta Z Z.heap "java/lang/StringUTF16" "HI_BYTE_SHIFT" "I" (.int 0)) (SL : Sta Z Z.heap "java/lang/StringUTF16" "LO_BYTE_SHIFT" "I" (.int 8)) :
    Ct l Z [] n0 (⟨"java/lang/String", "<init>", "([CIILjava/lang/Void;)V"⟩ : MethodName) jdk_42_method_149_code 6 none ({ frames := 4, cells := 2, slots := 12, locals := 57 } : Room) #[(.ref a), (.ref va), (.int (0 : Int32)), (.int n), .null] h0 [a] (fun v h sf => v = none ∧ Keep h0 h [a] ∧ ∃ d kd, h0.size ≤ d ∧ Str Z h a d kd (strCd cs) (strZ n cs) (strVs cs)) := by
  refine Ct.of (a0 := a0) #[.val (.ref a), .val (.ref va), .val (.int (0 : Int32)), .val (.int n), .val .null, .unset] O (plainFor_of_name pl_java_lang_String) (fun m => by first | (simp [entryFrame, mkF, argsToLocals, Value.category]; done) | rfl) ?_
  intro p_ e_ s_ m_ below_ meth_ c_ b_ T_ K hSP
  have KP := Keep.refl h0 [a]
  have sf_a := hSP a (by simp)
  refine k_aloadN K d_jdk_42_method_149_code_0 (pc' := 1) rfl rfl rfl ?_
  refine k_initO K (w12 hw) (w13 hw) (w14 hw) d_jdk_42_method_149_code_1 (pc' := 4) rfl rfl (by decide) 0 (Nat.le_of_eq rfl) (by decide) ?_
  intro T25 K25
  refine k_iloadN K25 d_jdk_42_method_149_code_4 (pc' := 5) rfl rfl ?_
  refine k_if_ne K25 d_jdk_42_method_149_code_5 (by decide) (pc' := 27) (pc2 := 8) (by decide) rfl (fun hc5 => ?_) (fun q => absurd q (fun q => by rw [q, own_0] at hn; omega))
  refine k_getS K25 (w15 hw) Via.refl SC d_jdk_42_method_149_code_27 (pc' := 30) rfl ?_
  intro T26 K26
  refine k_if_eq K26 d_jdk_42_method_149_code_30 (by decide) (pc' := 58) (pc2 := 33) (by decide) rfl (fun q => absurd q hcs) (fun hc30 => ?_)
  refine k_aloadN K26 d_jdk_42_method_149_code_33 (pc' := 34) rfl rfl rfl ?_
  refine k_iloadN K26 d_jdk_42_method_149_code_34 (pc' := 35) rfl rfl ?_
  refine k_iloadN K26 d_jdk_42_method_149_code_35 (pc' := 36) rfl rfl ?_
  refine k_static K26 [(.ref va), (.int (0 : Int32)), (.int n)] [] 0 (w16 hw) (w17 hw) (w18 hw) (w19 hw) (by decide) pd___CII__B_2491 (c_compress3 l Z a0 hw n0 va kv n cs h0 K26.old hn hb hc V_va SA SH SL) d_jdk_42_method_149_code_36 nofun (pc' := 39) rfl rfl rfl rfl (Nat.le_of_eq rfl) (by decide) (by decide) (by decide) (by decide) ?_
  intro b27 T27 h27 L27 v27 K27 tr27 q27
  obtain ⟨d, kd, rfl, hd, KQ, V_d, sf_d⟩ := q27
  have ga_d : n0 ≤ d := Nat.le_trans (own_n0 K26.old) hd
  have sz_d : h0.size ≤ d := Nat.le_trans KP.1 hd
  have ne_va_d : va ≠ d := own_ne2 V_va.lt hd
  have ne_a_d : a ≠ d := own_ne2 X_a.lt hd
  replace sf_a := tr27 a X_a.lt sf_a
  replace V_va := V_va.keep KQ nin0
  replace X_a := X_a.keep KQ
  replace F_a_value := F_a_value.keep KQ nin0
  replace F_a_coder := F_a_coder.keep KQ nin0
  replace KP := KP.trans KQ all0
  show Goes p_.tables e_ below_ _ (T27.setTop (mkF m_ 39 #[.val (.ref a), .val (.ref va), .val (.int (0 : Int32)), .val (.int n), .val .null, .unset] [(.ref d)]))
  refine k_astore K27 d_jdk_42_method_149_code_39 (pc' := 41) (L' := #[.val (.ref a), .val (.ref va), .val (.int (0 : Int32)), .val (.int n), .val .null, .val (.ref d)]) rfl rfl rfl ?_
  refine k_aloadN K27 d_jdk_42_method_149_code_41 (pc' := 42) rfl rfl rfl ?_
  refine k_aload K27 d_jdk_42_method_149_code_42 (pc' := 44) rfl rfl rfl ?_
  refine k_iloadN K27 d_jdk_42_method_149_code_44 (pc' := 45) rfl rfl ?_
  refine k_staticP K27 [(.ref d), (.int n)] [(.ref a)] 1 (w24 hw) (w25 hw) (w18 hw) (w26 hw) (by decide) pd___BI_B_1313 (c_cfal l Z a0 hw n0 d kd n (strZ n cs) (strCd cs) (strVs cs) h27 K27.old V_d (strCd_01 cs) (own_cfal hn h1 (by omega))) d_jdk_42_method_149_code_45 nofun (pc' := 48) rfl rfl rfl rfl (Nat.le_of_eq rfl) (by decide) (by decide) (by decide) (by decide) ?_
  intro b28 T28 L28 K28 tr28
  show Goes p_.tables e_ below_ _ (T28.setTop (mkF m_ 48 #[.val (.ref a), .val (.ref va), .val (.int (0 : Int32)), .val (.int n), .val .null, .val (.ref d)] [(.int (strCd cs)), (.ref a)]))
  replace sf_a := tr28 a X_a.lt sf_a
  refine k_putF K28 (w27 hw) Via.refl F_a_coder X_a (Or.inr ⟨(w28 hw), rfl, rfl⟩) (w3 hw) (ty := .byte) (by decide) (strCd_n cs) (strCd_f cs) ga_a sf_a d_jdk_42_method_149_code_48 (pc' := 51) rfl ?_
  intro T29 h29 K29 W29 tr29
  have F29 := F_a_coder.same W29
  replace sf_a := tr29 a X_a.lt sf_a
  replace V_va := V_va.other W29 (Ne.symm ne_a_va)
  replace X_a := X_a.wr W29
  replace F_a_value := F_a_value.other W29 (Or.inr (slot_ne (Or.inr (w30 hw)) (Or.inr (w28 hw)) (by decide) (t := (.array .byte)) (t' := .byte) (by decide) (by decide)))
  replace V_d := V_d.other W29 (Ne.symm ne_a_d)
  replace KP := KP.wr W29 (Or.inl (by simp))
  replace F_a_coder := F29
  refine k_aloadN K29 d_jdk_42_method_149_code_51 (pc' := 52) rfl rfl rfl ?_
  refine k_aload K29 d_jdk_42_method_149_code_52 (pc' := 54) rfl rfl rfl ?_
  refine k_putF K29 (w29 hw) Via.refl F_a_value X_a (Or.inr ⟨(w30 hw), rfl, rfl⟩) (w3 hw) (ty := (.array .byte)) (by decide) rfl rfl ga_a sf_a d_jdk_42_method_149_code_54 (pc' := 57) rfl ?_
  intro T30 h30 K30 W30 tr30
  have F30 := F_a_value.same W30
  replace sf_a := tr30 a X_a.lt sf_a
  replace V_va := V_va.other W30 (Ne.symm ne_a_va)
  replace X_a := X_a.wr W30
  replace F_a_coder := F_a_coder.other W30 (Or.inr (slot_ne (Or.inr (w28 hw)) (Or.inr (w30 hw)) (by decide) (t := .byte) (t' := (.array .byte)) (by decide) (by decide)))
  replace V_d := V_d.other W30 (Ne.symm ne_a_d)
  replace KP := KP.wr W30 (Or.inl (by simp))
  replace F_a_value := F30
  exact k_return K30 d_jdk_42_method_149_code_57 rfl (fun sf ht => ⟨rfl, KP, d, kd, sz_d, X_a, F_a_coder, F_a_value, V_d⟩) (by decide) (by decide)
theorem d_jdk_42_method_3_code_0 : decode jdk_42_method_3_code 0 = .ok (.aload_n 0, 1) := by decide +kernel
theorem d_jdk_42_method_3_code_1 : decode jdk_42_method_3_code 1 = .ok (.aload_n 1, 1) := by decide +kernel
theorem d_jdk_42_method_3_code_2 : decode jdk_42_method_3_code 2 = .ok (.iconst 0, 1) := by decide +kernel
theorem d_jdk_42_method_3_code_3 : decode jdk_42_method_3_code 3 = .ok (.aload_n 1, 1) := by decide +kernel
theorem d_jdk_42_method_3_code_4 : decode jdk_42_method_3_code 4 = .ok (.arraylength, 1) := by decide +kernel
theorem d_jdk_42_method_3_code_5 : decode jdk_42_method_3_code 5 = .ok (.aconst_null, 1) := by decide +kernel
theorem d_jdk_42_method_3_code_6 : decode jdk_42_method_3_code 6 = .ok (.invokespecial 27, 3) := by decide +kernel
theorem w8 {Z : State} {a0 : Array Value} (hw : Tb a0 Z) : (Jvm.Cond.methodLink "java/lang/String" (27 : Nat) ({ cls := "java/lang/String", name := "<init>", desc := "([CIILjava/lang/Void;)V" } : Jvm.MethodName)).before a0 Z = true := hw _ (List.mem_of_getElem? (i := 8) rfl)
theorem w11 {Z : State} {a0 : Array Value} (hw : Tb a0 Z) : (Jvm.Cond.code ({ cls := "java/lang/String", name := "<init>", desc := "([CIILjava/lang/Void;)V" } : Jvm.MethodName) jdk_42_method_149_code (6 : Nat) (Option.none : Option Jvm.ClassFile.FieldType)).before a0 Z = true := hw _ (List.mem_of_getElem? (i := 11) rfl)
theorem w9 {Z : State} {a0 : Array Value} (hw : Tb a0 Z) : (Jvm.Cond.instanceMethod ({ cls := "java/lang/String", name := "<init>", desc := "([CIILjava/lang/Void;)V" } : Jvm.MethodName)).before a0 Z = true := hw _ (List.mem_of_getElem? (i := 9) rfl)
theorem pd___CIILjava_lang_Void__V_3625 : parseMethodDescriptor "([CIILjava/lang/Void;)V" = some ⟨[(.array .char), .int, .int, (.object "java/lang/Void")], none⟩ := by decide +kernel
theorem d_jdk_42_method_3_code_9 : decode jdk_42_method_3_code 9 = .ok (.return_, 1) := by decide +kernel
set_option maxRecDepth 65536 in
set_option maxHeartbeats 40000000 in
theorem c_init3 (l : Launch) (Z : State) (a0 : Array Value) (hw : Tb a0 Z) (n0 : Nat) (a va : Addr) (kv : ClassId) (n : Int32) (cs : List Int32) (u1 u2 : Value) (cs0 : Int32) (h0 : Heap) (O : Old Z n0 h0) (hn : n.toInt = cs.length) (h1 : 1 ≤ cs.length) (hb : cs.length ≤ 4) (hc : ∀ c ∈ cs, 0 ≤ c.toInt ∧ c.toInt < 65536) (V_va : Arv Z h0 va kv .char n (cs.map Value.int) (.int 0)) (X_a : Exa Z h0 a "java/lang/String") (F_a_value : Fld Z h0 a "java/lang/String" "value" "[B" u1) (F_a_coder : Fld Z h0 a "java/lang/String" "coder" "B" u2) (ga_a : n0 ≤ a) (ne_a_va : a ≠ va) (SC : Sta Z Z.heap "java/lang/String" "COMPACT_STRINGS" "Z" (.int cs0)) (hcs : ¬ cs0 = 0) (SA : Sta Z Z.heap "java/lang/StringUTF16" "$assertionsDisabled" "Z" (.int 1)) (SH : Sta Z Z.heap "java/lang/StringUTF16" "HI_BYTE_SHIFT" "I" (.int 0)) (SL : Sta Z Z.heap "java/lang/StringUTF16" "LO_BYTE_SHIFT" "I" (.int 8)) :
    Ct l Z [] n0 (⟨"java/lang/String", "<init>", "([C)V"⟩ : MethodName) jdk_42_method_3_code 2 none ({ frames := 5, cells := 2, slots := 12, locals := 74 } : Room) #[(.ref a), (.ref va)] h0 [a] (fun v h sf => v = none ∧ Keep h0 h [a] ∧ ∃ d kd, h0.size ≤ d ∧ Str Z h a d kd (strCd cs) (strZ n cs) (strVs cs)) := by
  refine Ct.of (a0 := a0) #[.val (.ref a), .val (.ref va)] O (plainFor_of_name pl_java_lang_String) (fun m => by first | (simp [entryFrame, mkF, argsToLocals, Value.category]; done) | rfl) ?_
  intro p_ e_ s_ m_ below_ meth_ c_ b_ T_ K hSP
  refine k_aloadN K d_jdk_42_method_3_code_0 (pc' := 1) rfl rfl rfl ?_
  refine k_aloadN K d_jdk_42_method_3_code_1 (pc' := 2) rfl rfl rfl ?_
  refine k_iconst K (0 : Int32) d_jdk_42_method_3_code_2 (pc' := 3) rfl rfl ?_
  refine k_aloadN K d_jdk_42_method_3_code_3 (pc' := 4) rfl rfl rfl ?_
  refine k_len K V_va d_jdk_42_method_3_code_4 (pc' := 5) rfl ?_
  refine k_aconst_null K d_jdk_42_method_3_code_5 (pc' := 6) rfl ?_
  refine k_special K [(.ref va), (.int (0 : Int32)), (.int n), .null] [] 0 (w8 hw) (w9 hw) (w4 hw) (w11 hw) rfl rfl (by decide) pd___CIILjava_lang_Void__V_3625 (c_init149 l Z a0 hw n0 a va kv n cs u1 u2 cs0 h0 K.old hn h1 hb hc V_va X_a F_a_value F_a_coder ga_a ne_a_va SC hcs SA SH SL) d_jdk_42_method_3_code_6 (fun x hx => by cases List.mem_singleton.mp hx; exact ⟨X_a.lt, hSP a (by simp)⟩) (pc' := 9) rfl rfl rfl rfl (Nat.le_of_eq rfl) (by decide) (by decide) (by decide) (by decide) ?_
  intro b31 T31 h31 L31 v31 K31 tr31 q31
  obtain ⟨rfl, KQ, d, kd, hd, S⟩ := q31
  show Goes p_.tables e_ below_ _ (T31.setTop (mkF m_ 9 #[.val (.ref a), .val (.ref va)] []))
  exact k_return K31 d_jdk_42_method_3_code_9 rfl (fun sf ht => ⟨rfl, KQ, d, kd, hd, S⟩) (by decide) (by decide)
theorem d_jdk_43_method_3_code_0 : decode jdk_43_method_3_code 0 = .ok (.iload_n 0, 1) := by decide +kernel
theorem d_jdk_43_method_3_code_1 : decode jdk_43_method_3_code 1 = .ok (.sipush 255, 3) := by decide +kernel
theorem d_jdk_43_method_3_code_4 : decode jdk_43_method_3_code 4 = .ok (.if_icmp .gt 7, 3) := by decide +kernel
theorem d_jdk_43_method_3_code_11 : decode jdk_43_method_3_code 11 = .ok (.iconst 0, 1) := by decide +kernel
theorem d_jdk_43_method_3_code_12 : decode jdk_43_method_3_code 12 = .ok (.ireturn, 1) := by decide +kernel
theorem d_jdk_43_method_3_code_7 : decode jdk_43_method_3_code 7 = .ok (.iconst 1, 1) := by decide +kernel
theorem d_jdk_43_method_3_code_8 : decode jdk_43_method_3_code 8 = .ok (.goto 4, 3) := by decide +kernel
theorem pl_java_lang_StringLatin1 : plainName "java/lang/StringLatin1" = true := by first | (simp [plainName, overriddenIn]; done) | decide +kernel
set_option maxRecDepth 65536 in
set_option maxHeartbeats 40000000 in
theorem c_canEncode (l : Launch) (Z : State) (a0 : Array Value) (hw : Tb a0 Z) (n0 : Nat) (i : Int32) (h0 : Heap) (O : Old Z n0 h0)  :
    Ct l Z [] n0 (⟨"java/lang/StringLatin1", "canEncode", "(C)Z"⟩ : MethodName) jdk_43_method_3_code 1 (some .boolean) ({ frames := 0, cells := 0, slots := 0, locals := 0 } : Room) #[(.int i)] h0 [] (Pu (some (.int (if (255 : Int32) < i then 0 else 1))) h0) := by
  refine Ct.of (a0 := a0) #[.val (.int i)] O (plainFor_of_name pl_java_lang_StringLatin1) (fun m => by first | (simp [entryFrame, mkF, argsToLocals, Value.category]; done) | rfl) ?_
  intro p_ e_ s_ m_ below_ meth_ c_ b_ T_ K hSP
  refine k_iloadN K d_jdk_43_method_3_code_0 (pc' := 1) rfl rfl ?_
  refine k_sipush K (255 : Int32) d_jdk_43_method_3_code_1 (pc' := 4) rfl rfl ?_
  refine k_icmp_gt K d_jdk_43_method_3_code_4 (by decide) (pc' := 11) (pc2 := 7) (by decide) rfl (fun hc4 => ?_) (fun hc4 => ?_)
  · refine k_iconst K (0 : Int32) d_jdk_43_method_3_code_11 (pc' := 12) rfl rfl ?_
    exact k_nret K d_jdk_43_method_3_code_12 rfl (by simp) rfl (fun sf ht => ⟨by rw [if_pos hc4], rfl⟩) (by decide) (by decide)
  · refine k_iconst K (1 : Int32) d_jdk_43_method_3_code_7 (pc' := 8) rfl rfl ?_
    refine k_goto K d_jdk_43_method_3_code_8 (by decide) (pc' := 12) (by decide) ?_
    exact k_nret K d_jdk_43_method_3_code_12 rfl (by simp) rfl (fun sf ht => ⟨by rw [if_neg hc4], rfl⟩) (by decide) (by decide)
theorem d_jdk_43_method_46_code_0 : decode jdk_43_method_46_code 0 = .ok (.iconst 1, 1) := by decide +kernel
theorem d_jdk_43_method_46_code_1 : decode jdk_43_method_46_code 1 = .ok (.newarray .byte, 2) := by decide +kernel
theorem d_jdk_43_method_46_code_3 : decode jdk_43_method_46_code 3 = .ok (.dup, 1) := by decide +kernel
theorem d_jdk_43_method_46_code_4 : decode jdk_43_method_46_code 4 = .ok (.iconst 0, 1) := by decide +kernel
theorem d_jdk_43_method_46_code_5 : decode jdk_43_method_46_code 5 = .ok (.iload_n 0, 1) := by decide +kernel
theorem d_jdk_43_method_46_code_6 : decode jdk_43_method_46_code 6 = .ok (.i2b, 1) := by decide +kernel
theorem d_jdk_43_method_46_code_7 : decode jdk_43_method_46_code 7 = .ok (.bastore, 1) := by decide +kernel
theorem d_jdk_43_method_46_code_8 : decode jdk_43_method_46_code 8 = .ok (.areturn, 1) := by decide +kernel
set_option maxRecDepth 65536 in
set_option maxHeartbeats 40000000 in
theorem c_l1toBytes (l : Launch) (Z : State) (a0 : Array Value) (hw : Tb a0 Z) (n0 : Nat) (i : Int32) (h0 : Heap) (O : Old Z n0 h0)  :
    Ct l Z [] n0 (⟨"java/lang/StringLatin1", "toBytes", "(C)[B"⟩ : MethodName) jdk_43_method_46_code 1 (some (.array .byte)) ({ frames := 0, cells := 1, slots := 1, locals := 0 } : Room) #[(.int i)] h0 [] (fun v h sf => ∃ d kd, v = some (.ref d) ∧ h0.size ≤ d ∧ Keep h0 h [] ∧ Arv Z h d kd .byte 1 [byteV i] (.int 0) ∧ sf d) := by
  refine Ct.of (a0 := a0) #[.val (.int i)] O (plainFor_of_name pl_java_lang_StringLatin1) (fun m => by first | (simp [entryFrame, mkF, argsToLocals, Value.category]; done) | rfl) ?_
  intro p_ e_ s_ m_ below_ meth_ c_ b_ T_ K hSP
  have KP := Keep.refl h0 []
  refine k_iconst K (1 : Int32) d_jdk_43_method_46_code_0 (pc' := 1) rfl rfl ?_
  refine k_newarray K (aty := .byte) (z := (1 : Int32)) (w20 hw) (by decide) (cap := 1) (by decide) (by decide) d_jdk_43_method_46_code_1 (pc' := 3) rfl (by decide) (by decide) ?_
  intro T32 h32 a32 ka32 g32 K32 E32 tr32 sf_a32 V_a32
  have ga_a32 : n0 ≤ a32 := own_old K.old g32
  have sz_a32 : h0.size ≤ a32 := g32 ▸ KP.1
  replace KP := KP.ext E32
  replace V_a32 : Arv Z h32 a32 ka32 .byte (1 : Int32) [(.int (0 : Int32))] (.int (0 : Int32)) := V_a32.pad (pad_rep [] (.int (0 : Int32)) 1)
  refine k_dup K32 d_jdk_43_method_46_code_3 (pc' := 4) rfl rfl ?_
  refine k_iconst K32 (0 : Int32) d_jdk_43_method_46_code_4 (pc' := 5) rfl rfl ?_
  refine k_iloadN K32 d_jdk_43_method_46_code_5 (pc' := 6) rfl rfl ?_
  refine k_i2b K32 d_jdk_43_method_46_code_6 (pc' := 7) rfl ?_
  refine k_bastore K32 (j := (0 : Int32)) V_a32 ⟨by decide, by decide⟩ (Nat.le_of_ble_eq_true rfl) ga_a32 sf_a32 d_jdk_43_method_46_code_7 (pc' := 8) rfl ?_
  intro T33 h33 K33 W33 tr33 V33
  replace sf_a32 := tr33 a32 V_a32.lt sf_a32
  replace KP := KP.wr W33 (Or.inr sz_a32)
  replace V_a32 := V33
  rw [own_byte] at V_a32
  replace V_a32 : Arv Z h33 a32 ka32 .byte 1 [byteV i] (.int 0) := V_a32
  exact k_aret K33 d_jdk_43_method_46_code_8 rfl rfl rfl (fun sf ht => ⟨a32, ka32, rfl, sz_a32, KP, V_a32, ht _ V_a32.lt sf_a32⟩) (by decide) (by decide)
theorem d_jdk_42_method_151_code_0 : decode jdk_42_method_151_code 0 = .ok (.aload_n 0, 1) := by decide +kernel
theorem d_jdk_42_method_151_code_1 : decode jdk_42_method_151_code 1 = .ok (.invokespecial 1, 3) := by decide +kernel
theorem d_jdk_42_method_151_code_4 : decode jdk_42_method_151_code 4 = .ok (.aload_n 0, 1) := by decide +kernel
theorem d_jdk_42_method_151_code_5 : decode jdk_42_method_151_code 5 = .ok (.aload_n 1, 1) := by decide +kernel
theorem d_jdk_42_method_151_code_6 : decode jdk_42_method_151_code 6 = .ok (.putfield 9, 3) := by decide +kernel
theorem d_jdk_42_method_151_code_9 : decode jdk_42_method_151_code 9 = .ok (.aload_n 0, 1) := by decide +kernel
theorem d_jdk_42_method_151_code_10 : decode jdk_42_method_151_code 10 = .ok (.iload_n 2, 1) := by decide +kernel
theorem d_jdk_42_method_151_code_11 : decode jdk_42_method_151_code 11 = .ok (.putfield 15, 3) := by decide +kernel
theorem d_jdk_42_method_151_code_14 : decode jdk_42_method_151_code 14 = .ok (.return_, 1) := by decide +kernel
set_option maxRecDepth 65536 in
set_option maxHeartbeats 40000000 in
theorem c_initBB (l : Launch) (Z : State) (a0 : Array Value) (hw : Tb a0 Z) (n0 : Nat) (a d : Addr) (kd : ClassId) (cd z : Int32) (vs : List Value) (u1 u2 : Value) (h0 : Heap) (O : Old Z n0 h0) (hcd : cd = 0 ∨ cd = 1) (V_d : Arv Z h0 d kd .byte z vs (.int 0)) (X_a : Exa Z h0 a "java/lang/String") (F_a_value : Fld Z h0 a "java/lang/String" "value" "[B" u1) (F_a_coder : Fld Z h0 a "java/lang/String" "coder" "B" u2) (ga_a : n0 ≤ a) (ne_a_d : a ≠ d) :
    Ct l Z [] n0 (⟨"java/lang/String", "<init>", "([BB)V"⟩ : MethodName) jdk_42_method_151_code 3 none ({ frames := 1, cells := 0, slots := 0, locals := 12 } : Room) #[(.ref a), (.ref d), (.int cd)] h0 [a] (fun v h sf => v = none ∧ Keep h0 h [a] ∧ Str Z h a d kd cd z vs) := by
  refine Ct.of (a0 := a0) #[.val (.ref a), .val (.ref d), .val (.int cd)] O (plainFor_of_name pl_java_lang_String) (fun m => by first | (simp [entryFrame, mkF, argsToLocals, Value.category]; done) | rfl) ?_
  intro p_ e_ s_ m_ below_ meth_ c_ b_ T_ K hSP
  have KP := Keep.refl h0 [a]
  have sf_a := hSP a (by simp)
  refine k_aloadN K d_jdk_42_method_151_code_0 (pc' := 1) rfl rfl rfl ?_
  refine k_initO K (w12 hw) (w13 hw) (w14 hw) d_jdk_42_method_151_code_1 (pc' := 4) rfl rfl (by decide) 0 (Nat.le_of_eq rfl) (by decide) ?_
  intro T34 K34
  refine k_aloadN K34 d_jdk_42_method_151_code_4 (pc' := 5) rfl rfl rfl ?_
  refine k_aloadN K34 d_jdk_42_method_151_code_5 (pc' := 6) rfl rfl rfl ?_
  refine k_putF K34 (w29 hw) Via.refl F_a_value X_a (Or.inr ⟨(w30 hw), rfl, rfl⟩) (w3 hw) (ty := (.array .byte)) (by decide) rfl rfl ga_a sf_a d_jdk_42_method_151_code_6 (pc' := 9) rfl ?_
  intro T35 h35 K35 W35 tr35
  have F35 := F_a_value.same W35
  replace sf_a := tr35 a X_a.lt sf_a
  replace V_d := V_d.other W35 (Ne.symm ne_a_d)
  replace X_a := X_a.wr W35
  replace F_a_coder := F_a_coder.other W35 (Or.inr (slot_ne (Or.inr (w28 hw)) (Or.inr (w30 hw)) (by decide) (t := .byte) (t' := (.array .byte)) (by decide) (by decide)))
  replace KP := KP.wr W35 (Or.inl (by simp))
  replace F_a_value := F35
  refine k_aloadN K35 d_jdk_42_method_151_code_9 (pc' := 10) rfl rfl rfl ?_
  refine k_iloadN K35 d_jdk_42_method_151_code_10 (pc' := 11) rfl rfl ?_
  refine k_putF K35 (w27 hw) Via.refl F_a_coder X_a (Or.inr ⟨(w28 hw), rfl, rfl⟩) (w3 hw) (ty := .byte) (by decide) (by rcases hcd with rfl | rfl <;> rfl) (by rcases hcd with rfl | rfl <;> rfl) ga_a sf_a d_jdk_42_method_151_code_11 (pc' := 14) rfl ?_
  intro T36 h36 K36 W36 tr36
  have F36 := F_a_coder.same W36
  replace sf_a := tr36 a X_a.lt sf_a
  replace V_d := V_d.other W36 (Ne.symm ne_a_d)
  replace X_a := X_a.wr W36
  replace F_a_value := F_a_value.other W36 (Or.inr (slot_ne (Or.inr (w30 hw)) (Or.inr (w28 hw)) (by decide) (t := (.array .byte)) (t' := .byte) (by decide) (by decide)))
  replace KP := KP.wr W36 (Or.inl (by simp))
  replace F_a_coder := F36
  exact k_return K36 d_jdk_42_method_151_code_14 rfl (fun sf ht => ⟨rfl, KP, X_a, F_a_coder, F_a_value, V_d⟩) (by decide) (by decide)
theorem d_jdk_52_method_24_code_0 : decode jdk_52_method_24_code 0 = .ok (.iconst 2, 1) := by decide +kernel
theorem d_jdk_52_method_24_code_1 : decode jdk_52_method_24_code 1 = .ok (.newarray .byte, 2) := by decide +kernel
theorem d_jdk_52_method_24_code_3 : decode jdk_52_method_24_code 3 = .ok (.astore_n 1, 1) := by decide +kernel
theorem d_jdk_52_method_24_code_4 : decode jdk_52_method_24_code 4 = .ok (.aload_n 1, 1) := by decide +kernel
theorem d_jdk_52_method_24_code_5 : decode jdk_52_method_24_code 5 = .ok (.iconst 0, 1) := by decide +kernel
theorem d_jdk_52_method_24_code_6 : decode jdk_52_method_24_code 6 = .ok (.iload_n 0, 1) := by decide +kernel
theorem d_jdk_52_method_24_code_7 : decode jdk_52_method_24_code 7 = .ok (.invokestatic 111, 3) := by decide +kernel
theorem d_jdk_52_method_24_code_10 : decode jdk_52_method_24_code 10 = .ok (.aload_n 1, 1) := by decide +kernel
theorem d_jdk_52_method_24_code_11 : decode jdk_52_method_24_code 11 = .ok (.areturn, 1) := by decide +kernel
set_option maxRecDepth 65536 in
set_option maxHeartbeats 40000000 in
theorem c_u16toBytes (l : Launch) (Z : State) (a0 : Array Value) (hw : Tb a0 Z) (n0 : Nat) (i : Int32) (h0 : Heap) (O : Old Z n0 h0) (SA : Sta Z Z.heap "java/lang/StringUTF16" "$assertionsDisabled" "Z" (.int 1)) (SH : Sta Z Z.heap "java/lang/StringUTF16" "HI_BYTE_SHIFT" "I" (.int 0)) (SL : Sta Z Z.heap "java/lang/StringUTF16" "LO_BYTE_SHIFT" "I" (.int 8)) :
    Ct l Z [] n0 (⟨"java/lang/StringUTF16", "toBytes", "(C)[B"⟩ : MethodName) jdk_52_method_24_code 2 (some (.array .byte)) ({ frames := 1, cells := 1, slots := 2, locals := 14 } : Room) #[(.int i)] h0 [] (fun v h sf => ∃ d kd, v = some (.ref d) ∧ h0.size ≤ d ∧ Keep h0 h [] ∧ Arv Z h d kd .byte 2 [loB i, hiB i] (.int 0) ∧ sf d) := by
  refine Ct.of (a0 := a0) #[.val (.int i), .unset] O (plainFor_of_name pl_java_lang_StringUTF16) (fun m => by first | (simp [entryFrame, mkF, argsToLocals, Value.category]; done) | rfl) ?_
  intro p_ e_ s_ m_ below_ meth_ c_ b_ T_ K hSP
  have KP := Keep.refl h0 []
  refine k_iconst K (2 : Int32) d_jdk_52_method_24_code_0 (pc' := 1) rfl rfl ?_
  refine k_newarray K (aty := .byte) (z := (2 : Int32)) (w20 hw) (by decide) (cap := 2) (by decide) (by decide) d_jdk_52_method_24_code_1 (pc' := 3) rfl (by decide) (by decide) ?_
  intro T37 h37 a37 ka37 g37 K37 E37 tr37 sf_a37 V_a37
  have ga_a37 : n0 ≤ a37 := own_old K.old g37
  have sz_a37 : h0.size ≤ a37 := g37 ▸ KP.1
  replace KP := KP.ext E37
  replace V_a37 : Arv Z h37 a37 ka37 .byte (2 : Int32) [(.int (0 : Int32)), (.int (0 : Int32))] (.int (0 : Int32)) := V_a37.pad (pad_rep [] (.int (0 : Int32)) 2)
  refine k_astoreN K37 d_jdk_52_method_24_code_3 (pc' := 4) (L' := #[.val (.int i), .val (.ref a37)]) rfl rfl rfl ?_
  refine k_aloadN K37 d_jdk_52_method_24_code_4 (pc' := 5) rfl rfl rfl ?_
  refine k_iconst K37 (0 : Int32) d_jdk_52_method_24_code_5 (pc' := 6) rfl rfl ?_
  refine k_iloadN K37 d_jdk_52_method_24_code_6 (pc' := 7) rfl rfl ?_
  refine k_static K37 [(.ref a37), (.int (0 : Int32)), (.int i)] [] 0 (w79 hw) (w80 hw) (w18 hw) (w81 hw) (by decide) pd___BII_V_1925 (c_putChar l Z a0 hw n0 a37 ka37 0 i 2 0 1 [.int 0, .int 0] h37 K37.old rfl (by decide) (by decide) rfl rfl V_a37 ga_a37 SA SH SL) d_jdk_52_method_24_code_7 (fun x hx => by cases List.mem_singleton.mp hx; exact ⟨V_a37.lt, sf_a37⟩) (pc' := 10) rfl rfl rfl rfl (Nat.le_of_eq rfl) (by decide) (by decide) (by decide) (by decide) ?_
  intro b38 T38 h38 L38 v38 K38 tr38 q38
  obtain ⟨rfl, KQ, V2⟩ := q38
  replace sf_a37 := tr38 a37 V_a37.lt sf_a37
  replace KP := KP.trans KQ (allS (Or.inr sz_a37) all0)
  have V_a37 : Arv Z h38 a37 ka37 .byte 2 [loB i, hiB i] (.int 0) := V2
  show Goes p_.tables e_ below_ _ (T38.setTop (mkF m_ 10 #[.val (.int i), .val (.ref a37)] []))
  refine k_aloadN K38 d_jdk_52_method_24_code_10 (pc' := 11) rfl rfl rfl ?_
  exact k_aret K38 d_jdk_52_method_24_code_11 rfl rfl rfl (fun sf ht => ⟨a37, ka37, rfl, sz_a37, KP, V_a37, ht _ V_a37.lt sf_a37⟩) (by decide) (by decide)
theorem d_jdk_42_method_139_code_0 : decode jdk_42_method_139_code 0 = .ok (.getstatic 38, 3) := by decide +kernel
theorem d_jdk_42_method_139_code_3 : decode jdk_42_method_139_code 3 = .ok (.ifCond .eq 23, 3) := by decide +kernel
theorem d_jdk_42_method_139_code_6 : decode jdk_42_method_139_code 6 = .ok (.iload_n 0, 1) := by decide +kernel
theorem d_jdk_42_method_139_code_7 : decode jdk_42_method_139_code 7 = .ok (.invokestatic 1015, 3) := by decide +kernel
theorem w34 {Z : State} {a0 : Array Value} (hw : Tb a0 Z) : (Jvm.Cond.methodLink "java/lang/String" (1015 : Nat) ({ cls := "java/lang/StringLatin1", name := "canEncode", desc := "(C)Z" } : Jvm.MethodName)).before a0 Z = true := hw _ (List.mem_of_getElem? (i := 34) rfl)
theorem w36 {Z : State} {a0 : Array Value} (hw : Tb a0 Z) : (Jvm.Cond.initialized "java/lang/StringLatin1").before a0 Z = true := hw _ (List.mem_of_getElem? (i := 36) rfl)
theorem w37 {Z : State} {a0 : Array Value} (hw : Tb a0 Z) : (Jvm.Cond.code ({ cls := "java/lang/StringLatin1", name := "canEncode", desc := "(C)Z" } : Jvm.MethodName) jdk_43_method_3_code (1 : Nat) (Option.some Jvm.ClassFile.FieldType.boolean)).before a0 Z = true := hw _ (List.mem_of_getElem? (i := 37) rfl)
theorem w35 {Z : State} {a0 : Array Value} (hw : Tb a0 Z) : (Jvm.Cond.static ({ cls := "java/lang/StringLatin1", name := "canEncode", desc := "(C)Z" } : Jvm.MethodName)).before a0 Z = true := hw _ (List.mem_of_getElem? (i := 35) rfl)
theorem pd__C_Z_657 : parseMethodDescriptor "(C)Z" = some ⟨[.char], some .boolean⟩ := by decide +kernel
theorem d_jdk_42_method_139_code_10 : decode jdk_42_method_139_code 10 = .ok (.ifCond .eq 16, 3) := by decide +kernel
theorem d_jdk_42_method_139_code_26 : decode jdk_42_method_139_code 26 = .ok (.new 10, 3) := by decide +kernel
theorem w38 {Z : State} {a0 : Array Value} (hw : Tb a0 Z) : (Jvm.Cond.classLink "java/lang/String" (10 : Nat) "java/lang/String").before a0 Z = true := hw _ (List.mem_of_getElem? (i := 38) rfl)
theorem d_jdk_42_method_139_code_29 : decode jdk_42_method_139_code 29 = .ok (.dup, 1) := by decide +kernel
theorem d_jdk_42_method_139_code_30 : decode jdk_42_method_139_code 30 = .ok (.iload_n 0, 1) := by decide +kernel
theorem d_jdk_42_method_139_code_31 : decode jdk_42_method_139_code 31 = .ok (.invokestatic 1021, 3) := by decide +kernel
theorem w88 {Z : State} {a0 : Array Value} (hw : Tb a0 Z) : (Jvm.Cond.methodLink "java/lang/String" (1021 : Nat) ({ cls := "java/lang/StringUTF16", name := "toBytes", desc := "(C)[B" } : Jvm.MethodName)).before a0 Z = true := hw _ (List.mem_of_getElem? (i := 88) rfl)
theorem w90 {Z : State} {a0 : Array Value} (hw : Tb a0 Z) : (Jvm.Cond.code ({ cls := "java/lang/StringUTF16", name := "toBytes", desc := "(C)[B" } : Jvm.MethodName) jdk_52_method_24_code (2 : Nat) (Option.some (Jvm.ClassFile.FieldType.array Jvm.ClassFile.FieldType.byte))).before a0 Z = true := hw _ (List.mem_of_getElem? (i := 90) rfl)
theorem w89 {Z : State} {a0 : Array Value} (hw : Tb a0 Z) : (Jvm.Cond.static ({ cls := "java/lang/StringUTF16", name := "toBytes", desc := "(C)[B" } : Jvm.MethodName)).before a0 Z = true := hw _ (List.mem_of_getElem? (i := 89) rfl)
theorem pd__C__B_991 : parseMethodDescriptor "(C)[B" = some ⟨[.char], some (.array .byte)⟩ := by decide +kernel
theorem d_jdk_42_method_139_code_34 : decode jdk_42_method_139_code 34 = .ok (.iconst 1, 1) := by decide +kernel
theorem d_jdk_42_method_139_code_35 : decode jdk_42_method_139_code 35 = .ok (.invokespecial 209, 3) := by decide +kernel
theorem w42 {Z : State} {a0 : Array Value} (hw : Tb a0 Z) : (Jvm.Cond.methodLink "java/lang/String" (209 : Nat) ({ cls := "java/lang/String", name := "<init>", desc := "([BB)V" } : Jvm.MethodName)).before a0 Z = true := hw _ (List.mem_of_getElem? (i := 42) rfl)
theorem w44 {Z : State} {a0 : Array Value} (hw : Tb a0 Z) : (Jvm.Cond.code ({ cls := "java/lang/String", name := "<init>", desc := "([BB)V" } : Jvm.MethodName) jdk_42_method_151_code (3 : Nat) (Option.none : Option Jvm.ClassFile.FieldType)).before a0 Z = true := hw _ (List.mem_of_getElem? (i := 44) rfl)
theorem w43 {Z : State} {a0 : Array Value} (hw : Tb a0 Z) : (Jvm.Cond.instanceMethod ({ cls := "java/lang/String", name := "<init>", desc := "([BB)V" } : Jvm.MethodName)).before a0 Z = true := hw _ (List.mem_of_getElem? (i := 43) rfl)
theorem pd___BB_V_1405 : parseMethodDescriptor "([BB)V" = some ⟨[(.array .byte), .byte], none⟩ := by decide +kernel
theorem d_jdk_42_method_139_code_38 : decode jdk_42_method_139_code 38 = .ok (.areturn, 1) := by decide +kernel
theorem d_jdk_42_method_139_code_13 : decode jdk_42_method_139_code 13 = .ok (.new 10, 3) := by decide +kernel
theorem d_jdk_42_method_139_code_16 : decode jdk_42_method_139_code 16 = .ok (.dup, 1) := by decide +kernel
theorem d_jdk_42_method_139_code_17 : decode jdk_42_method_139_code 17 = .ok (.iload_n 0, 1) := by decide +kernel
theorem d_jdk_42_method_139_code_18 : decode jdk_42_method_139_code 18 = .ok (.invokestatic 1018, 3) := by decide +kernel
theorem w39 {Z : State} {a0 : Array Value} (hw : Tb a0 Z) : (Jvm.Cond.methodLink "java/lang/String" (1018 : Nat) ({ cls := "java/lang/StringLatin1", name := "toBytes", desc := "(C)[B" } : Jvm.MethodName)).before a0 Z = true := hw _ (List.mem_of_getElem? (i := 39) rfl)
theorem w41 {Z : State} {a0 : Array Value} (hw : Tb a0 Z) : (Jvm.Cond.code ({ cls := "java/lang/StringLatin1", name := "toBytes", desc := "(C)[B" } : Jvm.MethodName) jdk_43_method_46_code (1 : Nat) (Option.some (Jvm.ClassFile.FieldType.array Jvm.ClassFile.FieldType.byte))).before a0 Z = true := hw _ (List.mem_of_getElem? (i := 41) rfl)
theorem w40 {Z : State} {a0 : Array Value} (hw : Tb a0 Z) : (Jvm.Cond.static ({ cls := "java/lang/StringLatin1", name := "toBytes", desc := "(C)[B" } : Jvm.MethodName)).before a0 Z = true := hw _ (List.mem_of_getElem? (i := 40) rfl)
theorem d_jdk_42_method_139_code_21 : decode jdk_42_method_139_code 21 = .ok (.iconst 0, 1) := by decide +kernel
theorem d_jdk_42_method_139_code_22 : decode jdk_42_method_139_code 22 = .ok (.invokespecial 209, 3) := by decide +kernel
theorem d_jdk_42_method_139_code_25 : decode jdk_42_method_139_code 25 = .ok (.areturn, 1) := by decide +kernel
set_option maxRecDepth 65536 in
set_option maxHeartbeats 40000000 in
theorem c_valueOfC (l : Launch) (Z : State) (a0 : Array Value) (hw : Tb a0 Z) (n0 : Nat) (i : Int32) (cs0 : Int32) (h0 : Heap) (O : Old Z n0 h0) (SC : Sta Z Z.heap "java/lang/String" "COMPACT_STRINGS" "Z" (.int cs0)) (hcs : ¬ cs0 = 0) (SA : Sta Z Z.heap "java/lang/StringUTF16" "$assertionsDisabled" "Z" (.int 1)) (SH : Sta Z Z.heap "java/lang/StringUTF16" "HI_BYTE_SHIFT" "I" (.int 0)) (SL : Sta Z Z.heap "java/lang/StringUTF16" "LO_BYTE_SHIFT" "I" (.int 8)) :
    Ct l Z [] n0 (⟨"java/lang/String", "valueOf", "(C)Ljava/lang/String;"⟩ : MethodName) jdk_42_method_139_code 1 (some (.object "java/lang/String")) ({ frames := 2, cells := 2, slots := 6, locals := 29 } : Room) #[(.int i)] h0 [] (fun v h sf => ∃ a d kd, v = some (.ref a) ∧ h0.size ≤ a ∧ h0.size ≤ d ∧ a ≠ d ∧ Keep h0 h [] ∧ Str Z h a d kd (if (255 : Int32) < i then 1 else 0) (if (255 : Int32) < i then 2 else 1) (if (255 : Int32) < i then [loB i, hiB i] else [byteV i])) := by
  refine Ct.of (a0 := a0) #[.val (.int i)] O (plainFor_of_name pl_java_lang_String) (fun m => by first | (simp [entryFrame, mkF, argsToLocals, Value.category]; done) | rfl) ?_
  intro p_ e_ s_ m_ below_ meth_ c_ b_ T_ K hSP
  have KP := Keep.refl h0 []
  refine k_getS K (w15 hw) Via.refl SC d_jdk_42_method_139_code_0 (pc' := 3) rfl ?_
  intro T39 K39
  refine k_if_eq K39 d_jdk_42_method_139_code_3 (by decide) (pc' := 26) (pc2 := 6) (by decide) rfl (fun q => absurd q hcs) (fun hc3 => ?_)
  refine k_iloadN K39 d_jdk_42_method_139_code_6 (pc' := 7) rfl rfl ?_
  refine k_staticP K39 [(.int i)] [] 0 (w34 hw) (w35 hw) (w36 hw) (w37 hw) (by decide) pd__C_Z_657 (c_canEncode l Z a0 hw n0 i h0 K39.old ) d_jdk_42_method_139_code_7 nofun (pc' := 10) rfl rfl rfl rfl (Nat.le_of_eq rfl) (by decide) (by decide) (by decide) (by decide) ?_
  intro b40 T40 L40 K40 tr40
  show Goes p_.tables e_ below_ _ (T40.setTop (mkF m_ 10 #[.val (.int i)] [(.int (if (255 : Int32) < i then 0 else 1))]))
  refine k_if_eq K40 d_jdk_42_method_139_code_10 (by decide) (pc' := 26) (pc2 := 13) (by decide) rfl (fun hc10 => ?_) (fun hc10 => ?_)
  · have q255 : (255 : Int32) < i := Classical.byContradiction fun q => by rw [if_neg q] at hc10; exact absurd hc10 (by decide)
    refine k_new K40 (w38 hw) (w3 hw) (w4 hw) d_jdk_42_method_139_code_26 (pc' := 29) rfl (by decide) (by decide) ?_
    intro T41 h41 a41 g41 K41 E41 tr41 sf_a41 X_a41 D41 U41
    have ga_a41 : n0 ≤ a41 := own_old K40.old g41
    have sz_a41 : h0.size ≤ a41 := g41 ▸ KP.1
    replace KP := KP.ext E41
    have F_a41_coder : Fld Z h41 a41 "java/lang/String" "coder" "B" (.int (0 : Int32)) := D41 (Or.inr (w28 hw)) (ty := .byte) (by decide)
    have F_a41_value : Fld Z h41 a41 "java/lang/String" "value" "[B" .null := D41 (Or.inr (w30 hw)) (ty := (.array .byte)) (by decide)
    refine k_dup K41 d_jdk_42_method_139_code_29 (pc' := 30) rfl rfl ?_
    refine k_iloadN K41 d_jdk_42_method_139_code_30 (pc' := 31) rfl rfl ?_
    refine k_static K41 [(.int i)] [(.ref a41), (.ref a41)] 2 (w88 hw) (w89 hw) (w18 hw) (w90 hw) (by decide) pd__C__B_991 (c_u16toBytes l Z a0 hw n0 i h41 K41.old SA SH SL) d_jdk_42_method_139_code_31 nofun (pc' := 34) rfl rfl rfl rfl (Nat.le_of_eq rfl) (by decide) (by decide) (by decide) (by decide) ?_
    intro b42 T42 h42 L42 v42 K42 tr42 q42
    obtain ⟨d, kd, rfl, hd, KQ, V_d, sf_d⟩ := q42
    have ga_d : n0 ≤ d := Nat.le_trans (own_n0 K41.old) hd
    have sz_d : h0.size ≤ d := Nat.le_trans KP.1 hd
    have ne_a41_d : a41 ≠ d := own_ne2 X_a41.lt hd
    replace sf_a41 := tr42 a41 X_a41.lt sf_a41
    replace X_a41 := X_a41.keep KQ
    replace F_a41_coder := F_a41_coder.keep KQ nin0
    replace F_a41_value := F_a41_value.keep KQ nin0
    replace KP := KP.trans KQ all0
    show Goes p_.tables e_ below_ _ (T42.setTop (mkF m_ 34 #[.val (.int i)] [(.ref d), (.ref a41), (.ref a41)]))
    refine k_iconst K42 (1 : Int32) d_jdk_42_method_139_code_34 (pc' := 35) rfl rfl ?_
    refine k_special K42 [(.ref d), (.int (1 : Int32))] [(.ref a41)] 1 (w42 hw) (w43 hw) (w4 hw) (w44 hw) rfl rfl (by decide) pd___BB_V_1405 (c_initBB l Z a0 hw n0 a41 d kd 1 2 [loB i, hiB i] _ _ h42 K42.old (by simp) V_d X_a41 F_a41_value F_a41_coder ga_a41 ne_a41_d) d_jdk_42_method_139_code_35 (fun x hx => by cases List.mem_singleton.mp hx; exact ⟨X_a41.lt, sf_a41⟩) (pc' := 38) rfl rfl rfl rfl (Nat.le_of_eq rfl) (by decide) (by decide) (by decide) (by decide) ?_
    intro b43 T43 h43 L43 v43 K43 tr43 q43
    obtain ⟨rfl, KQ2, S⟩ := q43
    replace KP := KP.trans KQ2 (allS (Or.inr sz_a41) all0)
    show Goes p_.tables e_ below_ _ (T43.setTop (mkF m_ 38 #[.val (.int i)] [(.ref a41)]))
    exact k_aret K43 d_jdk_42_method_139_code_38 rfl rfl rfl (fun sf ht => ⟨a41, d, kd, rfl, sz_a41, sz_d, ne_a41_d, KP, by rw [if_pos q255, if_pos q255, if_pos q255]; exact S⟩) (by decide) (by decide)
  · have q255 : ¬ (255 : Int32) < i := fun q => by rw [if_pos q] at hc10; exact absurd rfl hc10
    refine k_new K40 (w38 hw) (w3 hw) (w4 hw) d_jdk_42_method_139_code_13 (pc' := 16) rfl (by decide) (by decide) ?_
    intro T44 h44 a44 g44 K44 E44 tr44 sf_a44 X_a44 D44 U44
    have ga_a44 : n0 ≤ a44 := own_old K40.old g44
    have sz_a44 : h0.size ≤ a44 := g44 ▸ KP.1
    replace KP := KP.ext E44
    have F_a44_coder : Fld Z h44 a44 "java/lang/String" "coder" "B" (.int (0 : Int32)) := D44 (Or.inr (w28 hw)) (ty := .byte) (by decide)
    have F_a44_value : Fld Z h44 a44 "java/lang/String" "value" "[B" .null := D44 (Or.inr (w30 hw)) (ty := (.array .byte)) (by decide)
    refine k_dup K44 d_jdk_42_method_139_code_16 (pc' := 17) rfl rfl ?_
    refine k_iloadN K44 d_jdk_42_method_139_code_17 (pc' := 18) rfl rfl ?_
    refine k_static K44 [(.int i)] [(.ref a44), (.ref a44)] 2 (w39 hw) (w40 hw) (w36 hw) (w41 hw) (by decide) pd__C__B_991 (c_l1toBytes l Z a0 hw n0 i h44 K44.old ) d_jdk_42_method_139_code_18 nofun (pc' := 21) rfl rfl rfl rfl (Nat.le_of_eq rfl) (by decide) (by decide) (by decide) (by decide) ?_
    intro b45 T45 h45 L45 v45 K45 tr45 q45
    obtain ⟨d, kd, rfl, hd, KQ, V_d, sf_d⟩ := q45
    have ga_d : n0 ≤ d := Nat.le_trans (own_n0 K44.old) hd
    have sz_d : h0.size ≤ d := Nat.le_trans KP.1 hd
    have ne_a44_d : a44 ≠ d := own_ne2 X_a44.lt hd
    replace sf_a44 := tr45 a44 X_a44.lt sf_a44
    replace X_a44 := X_a44.keep KQ
    replace F_a44_coder := F_a44_coder.keep KQ nin0
    replace F_a44_value := F_a44_value.keep KQ nin0
    replace KP := KP.trans KQ all0
    show Goes p_.tables e_ below_ _ (T45.setTop (mkF m_ 21 #[.val (.int i)] [(.ref d), (.ref a44), (.ref a44)]))
    refine k_iconst K45 (0 : Int32) d_jdk_42_method_139_code_21 (pc' := 22) rfl rfl ?_
    refine k_special K45 [(.ref d), (.int (0 : Int32))] [(.ref a44)] 1 (w42 hw) (w43 hw) (w4 hw) (w44 hw) rfl rfl (by decide) pd___BB_V_1405 (c_initBB l Z a0 hw n0 a44 d kd 0 1 [byteV i] _ _ h45 K45.old (by simp) V_d X_a44 F_a44_value F_a44_coder ga_a44 ne_a44_d) d_jdk_42_method_139_code_22 (fun x hx => by cases List.mem_singleton.mp hx; exact ⟨X_a44.lt, sf_a44⟩) (pc' := 25) rfl rfl rfl rfl (Nat.le_of_eq rfl) (by decide) (by decide) (by decide) (by decide) ?_
    intro b46 T46 h46 L46 v46 K46 tr46 q46
    obtain ⟨rfl, KQ2, S⟩ := q46
    replace KP := KP.trans KQ2 (allS (Or.inr sz_a44) all0)
    show Goes p_.tables e_ below_ _ (T46.setTop (mkF m_ 25 #[.val (.int i)] [(.ref a44)]))
    exact k_aret K46 d_jdk_42_method_139_code_25 rfl rfl rfl (fun sf ht => ⟨a44, d, kd, rfl, sz_a44, sz_d, ne_a44_d, KP, by rw [if_neg q255, if_neg q255, if_neg q255]; exact S⟩) (by decide) (by decide)
theorem own_nz {n : Int32} {cs : List Int32} (hn : n.toInt = cs.length) (h1 : 1 ≤ cs.length) (hb : cs.length ≤ 4000) : ¬ strZ n cs = 0 := by
  unfold strZ; split
  · intro q; rw [q, own_0] at hn; omega
  · intro q
    have := own_dbl hn (by omega)
    rw [q, own_0] at this; omega
theorem own_narc {c : Int32} (h : 0 ≤ c.toInt ∧ c.toInt < 65536) : nar .char c = c := Value.int.inj (own_narrowc h.1 h.2)
theorem own_ln (x : Int32) : (x &&& 3) + 1 = 1 ∨ (x &&& 3) + 1 = 2 ∨ (x &&& 3) + 1 = 3 ∨ (x &&& 3) + 1 = 4 := by
  have e : (x &&& 3).toBitVec.toNat = x.toBitVec.toNat % 4 := by
    show (x.toBitVec &&& 3#32).toNat = _
    rw [BitVec.toNat_and]; exact Nat.and_two_pow_sub_one_eq_mod _ 2
  have key : ∀ k : Int32, (x &&& 3).toBitVec.toNat = k.toBitVec.toNat → x &&& 3 = k := fun k q => Int32.toBitVec_inj.mp (BitVec.eq_of_toNat_eq q)
  have h4 : x.toBitVec.toNat % 4 = 0 ∨ x.toBitVec.toNat % 4 = 1 ∨ x.toBitVec.toNat % 4 = 2 ∨ x.toBitVec.toNat % 4 = 3 := by omega
  rcases h4 with q | q | q | q
  · rw [key 0 (e.trans q)]; decide
  · rw [key 1 (e.trans q)]; decide
  · rw [key 2 (e.trans q)]; decide
  · rw [key 3 (e.trans q)]; decide
theorem d_prog_10_method_2_code_0 : decode prog_10_method_2_code 0 = .ok (.aload_n 1, 1) := by decide +kernel
theorem d_prog_10_method_2_code_1 : decode prog_10_method_2_code 1 = .ok (.invokevirtual 7, 3) := by decide +kernel
theorem w53 {Z : State} {a0 : Array Value} (hw : Tb a0 Z) : (Jvm.Cond.methodLink "com/example/conveyr/conveyr/Names" (7 : Nat) ({ cls := "java/lang/String", name := "isEmpty", desc := "()Z" } : Jvm.MethodName)).before a0 Z = true := hw _ (List.mem_of_getElem? (i := 53) rfl)
theorem w57 {Z : State} {a0 : Array Value} (hw : Tb a0 Z) : (Jvm.Cond.code ({ cls := "java/lang/String", name := "isEmpty", desc := "()Z" } : Jvm.MethodName) jdk_42_method_55_code (1 : Nat) (Option.some Jvm.ClassFile.FieldType.boolean)).before a0 Z = true := hw _ (List.mem_of_getElem? (i := 57) rfl)
theorem w56 {Z : State} {a0 : Array Value} (hw : Tb a0 Z) : (Jvm.Cond.selects "java/lang/String" ({ cls := "java/lang/String", name := "isEmpty", desc := "()Z" } : Jvm.MethodName) ({ cls := "java/lang/String", name := "isEmpty", desc := "()Z" } : Jvm.MethodName)).before a0 Z = true := hw _ (List.mem_of_getElem? (i := 56) rfl)
theorem w54 {Z : State} {a0 : Array Value} (hw : Tb a0 Z) : (Jvm.Cond.declares ({ cls := "java/lang/String", name := "isEmpty", desc := "()Z" } : Jvm.MethodName)).before a0 Z = true := hw _ (List.mem_of_getElem? (i := 54) rfl)
theorem w55 {Z : State} {a0 : Array Value} (hw : Tb a0 Z) : (Jvm.Cond.instanceMethod ({ cls := "java/lang/String", name := "isEmpty", desc := "()Z" } : Jvm.MethodName)).before a0 Z = true := hw _ (List.mem_of_getElem? (i := 55) rfl)
theorem pd___Z_392 : parseMethodDescriptor "()Z" = some ⟨[], some .boolean⟩ := by decide +kernel
theorem d_prog_10_method_2_code_4 : decode prog_10_method_2_code 4 = .ok (.ifCond .ne 11, 3) := by decide +kernel
theorem d_prog_10_method_2_code_7 : decode prog_10_method_2_code 7 = .ok (.aload_n 1, 1) := by decide +kernel
theorem d_prog_10_method_2_code_8 : decode prog_10_method_2_code 8 = .ok (.invokevirtual 13, 3) := by decide +kernel
theorem w58 {Z : State} {a0 : Array Value} (hw : Tb a0 Z) : (Jvm.Cond.methodLink "com/example/conveyr/conveyr/Names" (13 : Nat) ({ cls := "java/lang/String", name := "length", desc := "()I" } : Jvm.MethodName)).before a0 Z = true := hw _ (List.mem_of_getElem? (i := 58) rfl)
theorem w62 {Z : State} {a0 : Array Value} (hw : Tb a0 Z) : (Jvm.Cond.code ({ cls := "java/lang/String", name := "length", desc := "()I" } : Jvm.MethodName) jdk_42_method_54_code (1 : Nat) (Option.some Jvm.ClassFile.FieldType.int)).before a0 Z = true := hw _ (List.mem_of_getElem? (i := 62) rfl)
theorem w61 {Z : State} {a0 : Array Value} (hw : Tb a0 Z) : (Jvm.Cond.selects "java/lang/String" ({ cls := "java/lang/String", name := "length", desc := "()I" } : Jvm.MethodName) ({ cls := "java/lang/String", name := "length", desc := "()I" } : Jvm.MethodName)).before a0 Z = true := hw _ (List.mem_of_getElem? (i := 61) rfl)
theorem w59 {Z : State} {a0 : Array Value} (hw : Tb a0 Z) : (Jvm.Cond.declares ({ cls := "java/lang/String", name := "length", desc := "()I" } : Jvm.MethodName)).before a0 Z = true := hw _ (List.mem_of_getElem? (i := 59) rfl)
theorem w60 {Z : State} {a0 : Array Value} (hw : Tb a0 Z) : (Jvm.Cond.instanceMethod ({ cls := "java/lang/String", name := "length", desc := "()I" } : Jvm.MethodName)).before a0 Z = true := hw _ (List.mem_of_getElem? (i := 60) rfl)
theorem pd___I_341 : parseMethodDescriptor "()I" = some ⟨[], some .int⟩ := by decide +kernel
theorem d_prog_10_method_2_code_11 : decode prog_10_method_2_code 11 = .ok (.iload_n 2, 1) := by decide +kernel
theorem d_prog_10_method_2_code_12 : decode prog_10_method_2_code 12 = .ok (.if_icmp .le 22, 3) := by decide +kernel
theorem d_prog_10_method_2_code_34 : decode prog_10_method_2_code 34 = .ok (.return_, 1) := by decide +kernel
theorem pl_com_example_conveyr_conveyr_Names : plainName "com/example/conveyr/conveyr/Names" = true := by first | (simp [plainName, overriddenIn]; done) | decide +kernel
set_option maxRecDepth 65536 in
set_option maxHeartbeats 40000000 in
theorem c_require (l : Launch) (Z : State) (a0 : Array Value) (hw : Tb a0 Z) (n0 : Nat) (kk : Addr) (mxl : Int32) (a b : Addr) (k : ClassId) (cd z : Int32) (vs : List Value) (cs0 : Int32) (h0 : Heap) (O : Old Z n0 h0) (S : Str Z h0 a b k cd z vs) (hcd : cd = 0 ∨ cd = 1) (SC : Sta Z Z.heap "java/lang/String" "COMPACT_STRINGS" "Z" (.int cs0)) (hcs : ¬ cs0 = 0) (hz : ¬ z = 0) (hm : ¬ mxl < z >>> (cd &&& 31)) :
    Ct l Z [] n0 (⟨"com/example/conveyr/conveyr/Names", "requireLength", "(Ljava/lang/String;Ljava/lang/String;I)V"⟩ : MethodName) prog_10_method_2_code 3 none ({ frames := 2, cells := 0, slots := 0, locals := 25 } : Room) #[(.ref kk), (.ref a), (.int mxl)] h0 [] (Pu none h0) := by
  refine Ct.of (a0 := a0) #[.val (.ref kk), .val (.ref a), .val (.int mxl)] O (plainFor_of_name pl_com_example_conveyr_conveyr_Names) (fun m => by first | (simp [entryFrame, mkF, argsToLocals, Value.category]; done) | rfl) ?_
  intro p_ e_ s_ m_ below_ meth_ c_ b_ T_ K hSP
  refine k_aloadN K d_prog_10_method_2_code_0 (pc' := 1) rfl rfl rfl ?_
  refine k_virtualP K [] [] 0 (w53 hw) (w54 hw) (w55 hw) (w56 hw) (w4 hw) (w57 hw) (notFace_of_selects (args := #[]) (mvT K.hZ (w56 hw))) rfl (by decide) S.1 (by decide) pd___Z_392 (c_isEmpty l Z a0 hw n0 a b k cd z vs h0 K.old S) d_prog_10_method_2_code_1 nofun (pc' := 4) rfl rfl rfl rfl (Nat.le_of_eq rfl) (by decide) (by decide) (by decide) (by decide) ?_
  intro b47 T47 L47 K47 tr47
  show Goes p_.tables e_ below_ _ (T47.setTop (mkF m_ 4 #[.val (.ref kk), .val (.ref a), .val (.int mxl)] [(.int (if z = 0 then 1 else 0))]))
  refine k_if_ne K47 d_prog_10_method_2_code_4 (by decide) (pc' := 15) (pc2 := 7) (by decide) rfl (fun q => absurd (if_neg hz) q) (fun hc4 => ?_)
  refine k_aloadN K47 d_prog_10_method_2_code_7 (pc' := 8) rfl rfl rfl ?_
  refine k_virtualP K47 [] [] 0 (w58 hw) (w59 hw) (w60 hw) (w61 hw) (w4 hw) (w62 hw) (notFace_of_selects (args := #[]) (mvT K47.hZ (w61 hw))) rfl (by decide) S.1 (by decide) pd___I_341 (c_length l Z a0 hw n0 a b k cd z vs cs0 h0 K47.old S hcd SC hcs) d_prog_10_method_2_code_8 nofun (pc' := 11) rfl rfl rfl rfl (Nat.le_of_eq rfl) (by decide) (by decide) (by decide) (by decide) ?_
  intro b48 T48 L48 K48 tr48
  show Goes p_.tables e_ below_ _ (T48.setTop (mkF m_ 11 #[.val (.ref kk), .val (.ref a), .val (.int mxl)] [(.int (z >>> (cd &&& 31)))]))
  refine k_iloadN K48 d_prog_10_method_2_code_11 (pc' := 12) rfl rfl ?_
  refine k_icmp_le K48 d_prog_10_method_2_code_12 (by decide) (pc' := 34) (pc2 := 15) (by decide) rfl (fun hc12 => ?_) (fun q => absurd q hm)
  exact k_return K48 d_prog_10_method_2_code_34 rfl (fun sf ht => ⟨rfl, rfl⟩) (by decide) (by decide)
theorem w0 {Z : State} {a0 : Array Value} (hw : Tb a0 Z) : (Jvm.Cond.constant "com/example/conveyr/conveyr/NamesRequireLengthPinLaw" (7 : Nat) (65535 : Int32)).before a0 Z = true := hw _ (List.mem_of_getElem? (i := 0) rfl)
theorem w1 {Z : State} {a0 : Array Value} (hw : Tb a0 Z) : (Jvm.Cond.arrayClass Jvm.ClassFile.FieldType.char).before a0 Z = true := hw _ (List.mem_of_getElem? (i := 1) rfl)
theorem w2 {Z : State} {a0 : Array Value} (hw : Tb a0 Z) : (Jvm.Cond.classLink "com/example/conveyr/conveyr/NamesRequireLengthPinLaw" (8 : Nat) "java/lang/String").before a0 Z = true := hw _ (List.mem_of_getElem? (i := 2) rfl)
theorem w5 {Z : State} {a0 : Array Value} (hw : Tb a0 Z) : (Jvm.Cond.methodLink "com/example/conveyr/conveyr/NamesRequireLengthPinLaw" (10 : Nat) ({ cls := "java/lang/String", name := "<init>", desc := "([C)V" } : Jvm.MethodName)).before a0 Z = true := hw _ (List.mem_of_getElem? (i := 5) rfl)
theorem w7 {Z : State} {a0 : Array Value} (hw : Tb a0 Z) : (Jvm.Cond.code ({ cls := "java/lang/String", name := "<init>", desc := "([C)V" } : Jvm.MethodName) jdk_42_method_3_code (2 : Nat) (Option.none : Option Jvm.ClassFile.FieldType)).before a0 Z = true := hw _ (List.mem_of_getElem? (i := 7) rfl)
theorem w6 {Z : State} {a0 : Array Value} (hw : Tb a0 Z) : (Jvm.Cond.instanceMethod ({ cls := "java/lang/String", name := "<init>", desc := "([C)V" } : Jvm.MethodName)).before a0 Z = true := hw _ (List.mem_of_getElem? (i := 6) rfl)
theorem pd___C_V_1017 : parseMethodDescriptor "([C)V" = some ⟨[(.array .char)], none⟩ := by decide +kernel
theorem w31 {Z : State} {a0 : Array Value} (hw : Tb a0 Z) : (Jvm.Cond.methodLink "com/example/conveyr/conveyr/NamesRequireLengthPinLaw" (13 : Nat) ({ cls := "java/lang/String", name := "valueOf", desc := "(C)Ljava/lang/String;" } : Jvm.MethodName)).before a0 Z = true := hw _ (List.mem_of_getElem? (i := 31) rfl)
theorem w33 {Z : State} {a0 : Array Value} (hw : Tb a0 Z) : (Jvm.Cond.code ({ cls := "java/lang/String", name := "valueOf", desc := "(C)Ljava/lang/String;" } : Jvm.MethodName) jdk_42_method_139_code (1 : Nat) (Option.some (Jvm.ClassFile.FieldType.object "java/lang/String"))).before a0 Z = true := hw _ (List.mem_of_getElem? (i := 33) rfl)
theorem w32 {Z : State} {a0 : Array Value} (hw : Tb a0 Z) : (Jvm.Cond.static ({ cls := "java/lang/String", name := "valueOf", desc := "(C)Ljava/lang/String;" } : Jvm.MethodName)).before a0 Z = true := hw _ (List.mem_of_getElem? (i := 32) rfl)
theorem pd__C_Ljava_lang_String__1574 : parseMethodDescriptor "(C)Ljava/lang/String;" = some ⟨[.char], some (.object "java/lang/String")⟩ := by decide +kernel
theorem w45 {Z : State} {a0 : Array Value} (hw : Tb a0 Z) : (Jvm.Cond.methodLink "com/example/conveyr/conveyr/NamesRequireLengthPinLaw" (17 : Nat) ({ cls := "java/lang/Math", name := "max", desc := "(II)I" } : Jvm.MethodName)).before a0 Z = true := hw _ (List.mem_of_getElem? (i := 45) rfl)
theorem w47 {Z : State} {a0 : Array Value} (hw : Tb a0 Z) : (Jvm.Cond.initialized "java/lang/Math").before a0 Z = true := hw _ (List.mem_of_getElem? (i := 47) rfl)
theorem w48 {Z : State} {a0 : Array Value} (hw : Tb a0 Z) : (Jvm.Cond.code ({ cls := "java/lang/Math", name := "max", desc := "(II)I" } : Jvm.MethodName) jdk_29_method_65_code (2 : Nat) (Option.some Jvm.ClassFile.FieldType.int)).before a0 Z = true := hw _ (List.mem_of_getElem? (i := 48) rfl)
theorem w46 {Z : State} {a0 : Array Value} (hw : Tb a0 Z) : (Jvm.Cond.static ({ cls := "java/lang/Math", name := "max", desc := "(II)I" } : Jvm.MethodName)).before a0 Z = true := hw _ (List.mem_of_getElem? (i := 46) rfl)
theorem pd__II_I_934 : parseMethodDescriptor "(II)I" = some ⟨[.int, .int], some .int⟩ := by decide +kernel
theorem w49 {Z : State} {a0 : Array Value} (hw : Tb a0 Z) : (Jvm.Cond.methodLink "com/example/conveyr/conveyr/NamesRequireLengthPinLaw" (23 : Nat) ({ cls := "com/example/conveyr/conveyr/Names", name := "requireLength", desc := "(Ljava/lang/String;Ljava/lang/String;I)V" } : Jvm.MethodName)).before a0 Z = true := hw _ (List.mem_of_getElem? (i := 49) rfl)
theorem w51 {Z : State} {a0 : Array Value} (hw : Tb a0 Z) : (Jvm.Cond.initialized "com/example/conveyr/conveyr/Names").before a0 Z = true := hw _ (List.mem_of_getElem? (i := 51) rfl)
theorem w52 {Z : State} {a0 : Array Value} (hw : Tb a0 Z) : (Jvm.Cond.code ({ cls := "com/example/conveyr/conveyr/Names", name := "requireLength", desc := "(Ljava/lang/String;Ljava/lang/String;I)V" } : Jvm.MethodName) prog_10_method_2_code (3 : Nat) (Option.none : Option Jvm.ClassFile.FieldType)).before a0 Z = true := hw _ (List.mem_of_getElem? (i := 52) rfl)
theorem w50 {Z : State} {a0 : Array Value} (hw : Tb a0 Z) : (Jvm.Cond.static ({ cls := "com/example/conveyr/conveyr/Names", name := "requireLength", desc := "(Ljava/lang/String;Ljava/lang/String;I)V" } : Jvm.MethodName)).before a0 Z = true := hw _ (List.mem_of_getElem? (i := 50) rfl)
theorem pd__Ljava_lang_String_Ljava_lang_String_I_V_4232 : parseMethodDescriptor "(Ljava/lang/String;Ljava/lang/String;I)V" = some ⟨[(.object "java/lang/String"), (.object "java/lang/String"), .int], none⟩ := by decide +kernel
theorem w68 {Z : State} {a0 : Array Value} (hw : Tb a0 Z) : (Jvm.Cond.methodLink "com/example/conveyr/conveyr/NamesRequireLengthPinLaw" (29 : Nat) ({ cls := "java/lang/String", name := "length", desc := "()I" } : Jvm.MethodName)).before a0 Z = true := hw _ (List.mem_of_getElem? (i := 68) rfl)
theorem pl_com_example_conveyr_conveyr_NamesRequireLengthPinLaw : plainName "com/example/conveyr/conveyr/NamesRequireLengthPinLaw" = true := by first | (simp [plainName, overriddenIn]; done) | decide +kernel
set_option maxRecDepth 65536 in
set_option maxHeartbeats 40000000 in
theorem c_law (l : Launch) (Z : State) (a0 : Array Value) (hw : Tb a0 Z) (n0 : Nat) (sel ab cdd mxx kk cs0 : Int32) (h0 : Heap) (O : Old Z n0 h0) (SC : Sta Z Z.heap "java/lang/String" "COMPACT_STRINGS" "Z" (.int cs0)) (hcs : ¬ cs0 = 0) (SA : Sta Z Z.heap "java/lang/StringUTF16" "$assertionsDisabled" "Z" (.int 1)) (SH : Sta Z Z.heap "java/lang/StringUTF16" "HI_BYTE_SHIFT" "I" (.int 0)) (SL : Sta Z Z.heap "java/lang/StringUTF16" "LO_BYTE_SHIFT" "I" (.int 8)) :
    Ct l Z [] n0 x code maxLocals ret room_1 #[(.int sel), (.int ab), (.int cdd), (.int mxx), (.int kk)] h0 [] (fun v _ _ => v = some (.int 1) ∧ True) := by
  refine Ct.of (a0 := a0) #[.val (.int sel), .val (.int ab), .val (.int cdd), .val (.int mxx), .val (.int kk), .unset, .unset, .unset, .unset, .unset, .unset, .unset, .unset, .unset, .unset, .unset, .unset, .unset] O (plainFor_of_name pl_com_example_conveyr_conveyr_NamesRequireLengthPinLaw) (fun m => by first | (simp [entryFrame, mkF, argsToLocals, Value.category, maxLocals]; done) | rfl) ?_
  intro p_ e_ s_ m_ below_ meth_ c_ b_ T_ K hSP
  refine k_iloadN K at_0 (pc' := 1) rfl rfl ?_
  refine k_ldcI K (w0 hw) at_1 (pc' := 3) rfl ?_
  refine k_iand K at_3 (pc' := 4) rfl ?_
  refine k_i2c K at_4 (pc' := 5) rfl ?_
  refine k_istore K at_5 (pc' := 7) (L' := #[.val (.int sel), .val (.int ab), .val (.int cdd), .val (.int mxx), .val (.int kk), .val (.int ((ab &&& (65535 : Int32)).toUInt32.toUInt16.toUInt32.toInt32)), .unset, .unset, .unset, .unset, .unset, .unset, .unset, .unset, .unset, .unset, .unset, .unset]) rfl rfl ?_
  have hc0 := own_i2c (ab &&& (65535 : Int32))
  generalize hhc0 : (ab &&& (65535 : Int32)).toUInt32.toUInt16.toUInt32.toInt32 = c0 at hc0 ⊢
  refine k_iloadN K at_7 (pc' := 8) rfl rfl ?_
  refine k_bipush K (16 : Int32) at_8 (pc' := 10) rfl rfl ?_
  refine k_iushr K at_10 (pc' := 11) rfl ?_
  refine k_ldcI K (w0 hw) at_11 (pc' := 13) rfl ?_
  refine k_iand K at_13 (pc' := 14) rfl ?_
  refine k_i2c K at_14 (pc' := 15) rfl ?_
  refine k_istore K at_15 (pc' := 17) (L' := #[.val (.int sel), .val (.int ab), .val (.int cdd), .val (.int mxx), .val (.int kk), .val (.int c0), .val (.int (((XT.ushr ab (16 : Int32)) &&& (65535 : Int32)).toUInt32.toUInt16.toUInt32.toInt32)), .unset, .unset, .unset, .unset, .unset, .unset, .unset, .unset, .unset, .unset, .unset]) rfl rfl ?_
  have hc1 := own_i2c ((XT.ushr ab (16 : Int32)) &&& (65535 : Int32))
  generalize hhc1 : ((XT.ushr ab (16 : Int32)) &&& (65535 : Int32)).toUInt32.toUInt16.toUInt32.toInt32 = c1 at hc1 ⊢
  refine k_iloadN K at_17 (pc' := 18) rfl rfl ?_
  refine k_ldcI K (w0 hw) at_18 (pc' := 20) rfl ?_
  refine k_iand K at_20 (pc' := 21) rfl ?_
  refine k_i2c K at_21 (pc' := 22) rfl ?_
  refine k_istore K at_22 (pc' := 24) (L' := #[.val (.int sel), .val (.int ab), .val (.int cdd), .val (.int mxx), .val (.int kk), .val (.int c0), .val (.int c1), .val (.int ((cdd &&& (65535 : Int32)).toUInt32.toUInt16.toUInt32.toInt32)), .unset, .unset, .unset, .unset, .unset, .unset, .unset, .unset, .unset, .unset]) rfl rfl ?_
  have hc2 := own_i2c (cdd &&& (65535 : Int32))
  generalize hhc2 : (cdd &&& (65535 : Int32)).toUInt32.toUInt16.toUInt32.toInt32 = c2 at hc2 ⊢
  refine k_iloadN K at_24 (pc' := 25) rfl rfl ?_
  refine k_bipush K (16 : Int32) at_25 (pc' := 27) rfl rfl ?_
  refine k_iushr K at_27 (pc' := 28) rfl ?_
  refine k_ldcI K (w0 hw) at_28 (pc' := 30) rfl ?_
  refine k_iand K at_30 (pc' := 31) rfl ?_
  refine k_i2c K at_31 (pc' := 32) rfl ?_
  refine k_istore K at_32 (pc' := 34) (L' := #[.val (.int sel), .val (.int ab), .val (.int cdd), .val (.int mxx), .val (.int kk), .val (.int c0), .val (.int c1), .val (.int c2), .val (.int (((XT.ushr cdd (16 : Int32)) &&& (65535 : Int32)).toUInt32.toUInt16.toUInt32.toInt32)), .unset, .unset, .unset, .unset, .unset, .unset, .unset, .unset, .unset]) rfl rfl ?_
  have hc3 := own_i2c ((XT.ushr cdd (16 : Int32)) &&& (65535 : Int32))
  generalize hhc3 : ((XT.ushr cdd (16 : Int32)) &&& (65535 : Int32)).toUInt32.toUInt16.toUInt32.toInt32 = c3 at hc3 ⊢
  refine k_iloadN K at_34 (pc' := 35) rfl rfl ?_
  refine k_iconst K (3 : Int32) at_35 (pc' := 36) rfl rfl ?_
  refine k_iand K at_36 (pc' := 37) rfl ?_
  refine k_iconst K (1 : Int32) at_37 (pc' := 38) rfl rfl ?_
  refine k_iadd K at_38 (pc' := 39) rfl ?_
  refine k_istore K at_39 (pc' := 41) (L' := #[.val (.int sel), .val (.int ab), .val (.int cdd), .val (.int mxx), .val (.int kk), .val (.int c0), .val (.int c1), .val (.int c2), .val (.int c3), .val (.int ((sel &&& (3 : Int32)) + (1 : Int32))), .unset, .unset, .unset, .unset, .unset, .unset, .unset, .unset]) rfl rfl ?_
  have hln := own_ln sel
  generalize hlnn : (sel &&& (3 : Int32)) + (1 : Int32) = ln at hln ⊢
  refine k_iconst K (1 : Int32) at_41 (pc' := 42) rfl rfl ?_
  refine k_newarray K (aty := .char) (z := (1 : Int32)) (w1 hw) (by decide) (cap := 1) (by decide) (by decide) at_42 (pc' := 44) rfl (by decide) (by decide) ?_
  intro T49 h49 a49 ka49 g49 K49 E49 tr49 sf_a49 V_a49
  have ga_a49 : n0 ≤ a49 := own_old K.old g49
  replace V_a49 : Arv Z h49 a49 ka49 .char (1 : Int32) [(.int (0 : Int32))] (.int (0 : Int32)) := V_a49.pad (pad_rep [] (.int (0 : Int32)) 1)
  refine k_dup K49 at_44 (pc' := 45) rfl rfl ?_
  refine k_iconst K49 (0 : Int32) at_45 (pc' := 46) rfl rfl ?_
  refine k_iload K49 at_46 (pc' := 48) rfl rfl ?_
  refine k_castore K49 (j := (0 : Int32)) V_a49 ⟨by decide, by decide⟩ (Nat.le_of_ble_eq_true rfl) ga_a49 sf_a49 at_48 (pc' := 49) rfl ?_
  intro T50 h50 K50 W50 tr50 V50
  replace sf_a49 := tr50 a49 V_a49.lt sf_a49
  replace V_a49 := V50
  rw [own_narc hc0] at V_a49
  replace V_a49 : Arv Z h50 a49 ka49 .char 1 ([c0].map Value.int) (.int 0) := V_a49
  refine k_astore K50 at_49 (pc' := 51) (L' := #[.val (.int sel), .val (.int ab), .val (.int cdd), .val (.int mxx), .val (.int kk), .val (.int c0), .val (.int c1), .val (.int c2), .val (.int c3), .val (.int ln), .val (.ref a49), .unset, .unset, .unset, .unset, .unset, .unset, .unset]) rfl rfl rfl ?_
  refine k_iconst K50 (2 : Int32) at_51 (pc' := 52) rfl rfl ?_
  refine k_newarray K50 (aty := .char) (z := (2 : Int32)) (w1 hw) (by decide) (cap := 2) (by decide) (by decide) at_52 (pc' := 54) rfl (by decide) (by decide) ?_
  intro T51 h51 a51 ka51 g51 K51 E51 tr51 sf_a51 V_a51
  have ga_a51 : n0 ≤ a51 := own_old K50.old g51
  have ne_a49_a51 : a49 ≠ a51 := own_ne V_a49.lt g51
  replace sf_a49 := tr51 a49 V_a49.lt sf_a49
  replace V_a49 := V_a49.ext E51
  replace V_a51 : Arv Z h51 a51 ka51 .char (2 : Int32) [(.int (0 : Int32)), (.int (0 : Int32))] (.int (0 : Int32)) := V_a51.pad (pad_rep [] (.int (0 : Int32)) 2)
  refine k_dup K51 at_54 (pc' := 55) rfl rfl ?_
  refine k_iconst K51 (0 : Int32) at_55 (pc' := 56) rfl rfl ?_
  refine k_iload K51 at_56 (pc' := 58) rfl rfl ?_
  refine k_castore K51 (j := (0 : Int32)) V_a51 ⟨by decide, by decide⟩ (Nat.le_of_ble_eq_true rfl) ga_a51 sf_a51 at_58 (pc' := 59) rfl ?_
  intro T52 h52 K52 W52 tr52 V52
  replace sf_a49 := tr52 a49 V_a49.lt sf_a49
  replace sf_a51 := tr52 a51 V_a51.lt sf_a51
  replace V_a49 := V_a49.other W52 ne_a49_a51
  replace V_a51 := V52
  rw [own_narc hc0] at V_a51
  refine k_dup K52 at_59 (pc' := 60) rfl rfl ?_
  refine k_iconst K52 (1 : Int32) at_60 (pc' := 61) rfl rfl ?_
  refine k_iload K52 at_61 (pc' := 63) rfl rfl ?_
  refine k_castore K52 (j := (1 : Int32)) V_a51 ⟨by decide, by decide⟩ (Nat.le_of_ble_eq_true rfl) ga_a51 sf_a51 at_63 (pc' := 64) rfl ?_
  intro T53 h53 K53 W53 tr53 V53
  replace sf_a49 := tr53 a49 V_a49.lt sf_a49
  replace sf_a51 := tr53 a51 V_a51.lt sf_a51
  replace V_a49 := V_a49.other W53 ne_a49_a51
  replace V_a51 := V53
  rw [own_narc hc1] at V_a51
  replace V_a51 : Arv Z h53 a51 ka51 .char 2 ([c0, c1].map Value.int) (.int 0) := V_a51
  refine k_astore K53 at_64 (pc' := 66) (L' := #[.val (.int sel), .val (.int ab), .val (.int cdd), .val (.int mxx), .val (.int kk), .val (.int c0), .val (.int c1), .val (.int c2), .val (.int c3), .val (.int ln), .val (.ref a49), .val (.ref a51), .unset, .unset, .unset, .unset, .unset, .unset]) rfl rfl rfl ?_
  refine k_iconst K53 (3 : Int32) at_66 (pc' := 67) rfl rfl ?_
  refine k_newarray K53 (aty := .char) (z := (3 : Int32)) (w1 hw) (by decide) (cap := 3) (by decide) (by decide) at_67 (pc' := 69) rfl (by decide) (by decide) ?_
  intro T54 h54 a54 ka54 g54 K54 E54 tr54 sf_a54 V_a54
  have ga_a54 : n0 ≤ a54 := own_old K53.old g54
  have ne_a49_a54 : a49 ≠ a54 := own_ne V_a49.lt g54
  have ne_a51_a54 : a51 ≠ a54 := own_ne V_a51.lt g54
  replace sf_a49 := tr54 a49 V_a49.lt sf_a49
  replace sf_a51 := tr54 a51 V_a51.lt sf_a51
  replace V_a49 := V_a49.ext E54
  replace V_a51 := V_a51.ext E54
  replace V_a54 : Arv Z h54 a54 ka54 .char (3 : Int32) [(.int (0 : Int32)), (.int (0 : Int32)), (.int (0 : Int32))] (.int (0 : Int32)) := V_a54.pad (pad_rep [] (.int (0 : Int32)) 3)
  refine k_dup K54 at_69 (pc' := 70) rfl rfl ?_
  refine k_iconst K54 (0 : Int32) at_70 (pc' := 71) rfl rfl ?_
  refine k_iload K54 at_71 (pc' := 73) rfl rfl ?_
  refine k_castore K54 (j := (0 : Int32)) V_a54 ⟨by decide, by decide⟩ (Nat.le_of_ble_eq_true rfl) ga_a54 sf_a54 at_73 (pc' := 74) rfl ?_
  intro T55 h55 K55 W55 tr55 V55
  replace sf_a49 := tr55 a49 V_a49.lt sf_a49
  replace sf_a51 := tr55 a51 V_a51.lt sf_a51
  replace sf_a54 := tr55 a54 V_a54.lt sf_a54
  replace V_a49 := V_a49.other W55 ne_a49_a54
  replace V_a51 := V_a51.other W55 ne_a51_a54
  replace V_a54 := V55
  rw [own_narc hc0] at V_a54
  refine k_dup K55 at_74 (pc' := 75) rfl rfl ?_
  refine k_iconst K55 (1 : Int32) at_75 (pc' := 76) rfl rfl ?_
  refine k_iload K55 at_76 (pc' := 78) rfl rfl ?_
  refine k_castore K55 (j := (1 : Int32)) V_a54 ⟨by decide, by decide⟩ (Nat.le_of_ble_eq_true rfl) ga_a54 sf_a54 at_78 (pc' := 79) rfl ?_
  intro T56 h56 K56 W56 tr56 V56
  replace sf_a49 := tr56 a49 V_a49.lt sf_a49
  replace sf_a51 := tr56 a51 V_a51.lt sf_a51
  replace sf_a54 := tr56 a54 V_a54.lt sf_a54
  replace V_a49 := V_a49.other W56 ne_a49_a54
  replace V_a51 := V_a51.other W56 ne_a51_a54
  replace V_a54 := V56
  rw [own_narc hc1] at V_a54
  refine k_dup K56 at_79 (pc' := 80) rfl rfl ?_
  refine k_iconst K56 (2 : Int32) at_80 (pc' := 81) rfl rfl ?_
  refine k_iload K56 at_81 (pc' := 83) rfl rfl ?_
  refine k_castore K56 (j := (2 : Int32)) V_a54 ⟨by decide, by decide⟩ (Nat.le_of_ble_eq_true rfl) ga_a54 sf_a54 at_83 (pc' := 84) rfl ?_
  intro T57 h57 K57 W57 tr57 V57
  replace sf_a49 := tr57 a49 V_a49.lt sf_a49
  replace sf_a51 := tr57 a51 V_a51.lt sf_a51
  replace sf_a54 := tr57 a54 V_a54.lt sf_a54
  replace V_a49 := V_a49.other W57 ne_a49_a54
  replace V_a51 := V_a51.other W57 ne_a51_a54
  replace V_a54 := V57
  rw [own_narc hc2] at V_a54
  replace V_a54 : Arv Z h57 a54 ka54 .char 3 ([c0, c1, c2].map Value.int) (.int 0) := V_a54
  refine k_astore K57 at_84 (pc' := 86) (L' := #[.val (.int sel), .val (.int ab), .val (.int cdd), .val (.int mxx), .val (.int kk), .val (.int c0), .val (.int c1), .val (.int c2), .val (.int c3), .val (.int ln), .val (.ref a49), .val (.ref a51), .val (.ref a54), .unset, .unset, .unset, .unset, .unset]) rfl rfl rfl ?_
  refine k_iconst K57 (4 : Int32) at_86 (pc' := 87) rfl rfl ?_
  refine k_newarray K57 (aty := .char) (z := (4 : Int32)) (w1 hw) (by decide) (cap := 4) (by decide) (by decide) at_87 (pc' := 89) rfl (by decide) (by decide) ?_
  intro T58 h58 a58 ka58 g58 K58 E58 tr58 sf_a58 V_a58
  have ga_a58 : n0 ≤ a58 := own_old K57.old g58
  have ne_a49_a58 : a49 ≠ a58 := own_ne V_a49.lt g58
  have ne_a51_a58 : a51 ≠ a58 := own_ne V_a51.lt g58
  have ne_a54_a58 : a54 ≠ a58 := own_ne V_a54.lt g58
  replace sf_a49 := tr58 a49 V_a49.lt sf_a49
  replace sf_a51 := tr58 a51 V_a51.lt sf_a51
  replace sf_a54 := tr58 a54 V_a54.lt sf_a54
  replace V_a49 := V_a49.ext E58
  replace V_a51 := V_a51.ext E58
  replace V_a54 := V_a54.ext E58
  replace V_a58 : Arv Z h58 a58 ka58 .char (4 : Int32) [(.int (0 : Int32)), (.int (0 : Int32)), (.int (0 : Int32)), (.int (0 : Int32))] (.int (0 : Int32)) := V_a58.pad (pad_rep [] (.int (0 : Int32)) 4)
  refine k_dup K58 at_89 (pc' := 90) rfl rfl ?_
  refine k_iconst K58 (0 : Int32) at_90 (pc' := 91) rfl rfl ?_
  refine k_iload K58 at_91 (pc' := 93) rfl rfl ?_
  refine k_castore K58 (j := (0 : Int32)) V_a58 ⟨by decide, by decide⟩ (Nat.le_of_ble_eq_true rfl) ga_a58 sf_a58 at_93 (pc' := 94) rfl ?_
  intro T59 h59 K59 W59 tr59 V59
  replace sf_a49 := tr59 a49 V_a49.lt sf_a49
  replace sf_a51 := tr59 a51 V_a51.lt sf_a51
  replace sf_a54 := tr59 a54 V_a54.lt sf_a54
  replace sf_a58 := tr59 a58 V_a58.lt sf_a58
  replace V_a49 := V_a49.other W59 ne_a49_a58
  replace V_a51 := V_a51.other W59 ne_a51_a58
  replace V_a54 := V_a54.other W59 ne_a54_a58
  replace V_a58 := V59
  rw [own_narc hc0] at V_a58
  refine k_dup K59 at_94 (pc' := 95) rfl rfl ?_
  refine k_iconst K59 (1 : Int32) at_95 (pc' := 96) rfl rfl ?_
  refine k_iload K59 at_96 (pc' := 98) rfl rfl ?_
  refine k_castore K59 (j := (1 : Int32)) V_a58 ⟨by decide, by decide⟩ (Nat.le_of_ble_eq_true rfl) ga_a58 sf_a58 at_98 (pc' := 99) rfl ?_
  intro T60 h60 K60 W60 tr60 V60
  replace sf_a49 := tr60 a49 V_a49.lt sf_a49
  replace sf_a51 := tr60 a51 V_a51.lt sf_a51
  replace sf_a54 := tr60 a54 V_a54.lt sf_a54
  replace sf_a58 := tr60 a58 V_a58.lt sf_a58
  replace V_a49 := V_a49.other W60 ne_a49_a58
  replace V_a51 := V_a51.other W60 ne_a51_a58
  replace V_a54 := V_a54.other W60 ne_a54_a58
  replace V_a58 := V60
  rw [own_narc hc1] at V_a58
  refine k_dup K60 at_99 (pc' := 100) rfl rfl ?_
  refine k_iconst K60 (2 : Int32) at_100 (pc' := 101) rfl rfl ?_
  refine k_iload K60 at_101 (pc' := 103) rfl rfl ?_
  refine k_castore K60 (j := (2 : Int32)) V_a58 ⟨by decide, by decide⟩ (Nat.le_of_ble_eq_true rfl) ga_a58 sf_a58 at_103 (pc' := 104) rfl ?_
  intro T61 h61 K61 W61 tr61 V61
  replace sf_a49 := tr61 a49 V_a49.lt sf_a49
  replace sf_a51 := tr61 a51 V_a51.lt sf_a51
  replace sf_a54 := tr61 a54 V_a54.lt sf_a54
  replace sf_a58 := tr61 a58 V_a58.lt sf_a58
  replace V_a49 := V_a49.other W61 ne_a49_a58
  replace V_a51 := V_a51.other W61 ne_a51_a58
  replace V_a54 := V_a54.other W61 ne_a54_a58
  replace V_a58 := V61
  rw [own_narc hc2] at V_a58
  refine k_dup K61 at_104 (pc' := 105) rfl rfl ?_
  refine k_iconst K61 (3 : Int32) at_105 (pc' := 106) rfl rfl ?_
  refine k_iload K61 at_106 (pc' := 108) rfl rfl ?_
  refine k_castore K61 (j := (3 : Int32)) V_a58 ⟨by decide, by decide⟩ (Nat.le_of_ble_eq_true rfl) ga_a58 sf_a58 at_108 (pc' := 109) rfl ?_
  intro T62 h62 K62 W62 tr62 V62
  replace sf_a49 := tr62 a49 V_a49.lt sf_a49
  replace sf_a51 := tr62 a51 V_a51.lt sf_a51
  replace sf_a54 := tr62 a54 V_a54.lt sf_a54
  replace sf_a58 := tr62 a58 V_a58.lt sf_a58
  replace V_a49 := V_a49.other W62 ne_a49_a58
  replace V_a51 := V_a51.other W62 ne_a51_a58
  replace V_a54 := V_a54.other W62 ne_a54_a58
  replace V_a58 := V62
  rw [own_narc hc3] at V_a58
  replace V_a58 : Arv Z h62 a58 ka58 .char 4 ([c0, c1, c2, c3].map Value.int) (.int 0) := V_a58
  refine k_astore K62 at_109 (pc' := 111) (L' := #[.val (.int sel), .val (.int ab), .val (.int cdd), .val (.int mxx), .val (.int kk), .val (.int c0), .val (.int c1), .val (.int c2), .val (.int c3), .val (.int ln), .val (.ref a49), .val (.ref a51), .val (.ref a54), .val (.ref a58), .unset, .unset, .unset, .unset]) rfl rfl rfl ?_
  refine k_aload K62 at_111 (pc' := 113) rfl rfl rfl ?_
  refine k_astore K62 at_113 (pc' := 115) (L' := #[.val (.int sel), .val (.int ab), .val (.int cdd), .val (.int mxx), .val (.int kk), .val (.int c0), .val (.int c1), .val (.int c2), .val (.int c3), .val (.int ln), .val (.ref a49), .val (.ref a51), .val (.ref a54), .val (.ref a58), .val (.ref a58), .unset, .unset, .unset]) rfl rfl rfl ?_
  have J : ∀ (va : Addr) (kv : ClassId) (cs : List Int32) (hn : ln.toInt = cs.length) (h1 : 1 ≤ cs.length) (hb : cs.length ≤ 4) (hc : ∀ c ∈ cs, 0 ≤ c.toInt ∧ c.toInt < 65536) (V_va : Arv Z h62 va kv .char ln (cs.map Value.int) (.int 0)) (b63 T63 : State) (L63 : List Loc), Wk p_ l e_ room_1 s_ m_ #[(.int sel), (.int ab), (.int cdd), (.int mxx), (.int kk)] below_ meth_ c_ Z a0 [] n0 x code maxLocals ret b63 T63 h62 L63 4 10 → Goes p_.tables e_ below_ (FinW Z [] s_ n0 room_1 (fun v _ _ => v = some (.int 1) ∧ True)) (T63.setTop (mkF m_ 151 #[.val (.int sel), .val (.int ab), .val (.int cdd), .val (.int mxx), .val (.int kk), .val (.int c0), .val (.int c1), .val (.int c2), .val (.int c3), .val (.int ln), .val (.ref a49), .val (.ref a51), .val (.ref a54), .val (.ref a58), .val (.ref va), .unset, .unset, .unset] [])) := by
    intro va kv cs hn h1 hb hc V_va b63 T63 L63 K63
    refine k_new K63 (w2 hw) (w3 hw) (w4 hw) at_151 (pc' := 154) rfl (by decide) (by decide) ?_
    intro T64 h64 a64 g64 K64 E64 tr64 sf_a64 X_a64 D64 U64
    have ga_a64 : n0 ≤ a64 := own_old K63.old g64
    have ne_va_a64 : va ≠ a64 := own_ne V_va.lt g64
    replace V_va := V_va.ext E64
    have F_a64_coder : Fld Z h64 a64 "java/lang/String" "coder" "B" (.int (0 : Int32)) := D64 (Or.inr (w28 hw)) (ty := .byte) (by decide)
    have F_a64_value : Fld Z h64 a64 "java/lang/String" "value" "[B" .null := D64 (Or.inr (w30 hw)) (ty := (.array .byte)) (by decide)
    refine k_dup K64 at_154 (pc' := 155) rfl rfl ?_
    refine k_aload K64 at_155 (pc' := 157) rfl rfl rfl ?_
    refine k_special K64 [(.ref va)] [(.ref a64)] 1 (w5 hw) (w6 hw) (w4 hw) (w7 hw) rfl rfl (by decide) pd___C_V_1017 (c_init3 l Z a0 hw n0 a64 va kv ln cs _ _ cs0 h64 K64.old hn h1 hb hc V_va X_a64 F_a64_value F_a64_coder ga_a64 (Ne.symm ne_va_a64) SC hcs SA SH SL) at_157 (fun x hx => by cases List.mem_singleton.mp hx; exact ⟨X_a64.lt, sf_a64⟩) (pc' := 160) rfl rfl rfl rfl (Nat.le_of_eq rfl) (by decide) (by decide) (by decide) (by decide) ?_
    intro b65 T65 h65 L65 v65 K65 tr65 q65
    obtain ⟨rfl, KQ, d, kd, hd, S⟩ := q65
    have ga_d : n0 ≤ d := Nat.le_trans (own_n0 K64.old) hd
    show Goes p_.tables e_ below_ _ (T65.setTop (mkF m_ 160 #[.val (.int sel), .val (.int ab), .val (.int cdd), .val (.int mxx), .val (.int kk), .val (.int c0), .val (.int c1), .val (.int c2), .val (.int c3), .val (.int ln), .val (.ref a49), .val (.ref a51), .val (.ref a54), .val (.ref a58), .val (.ref va), .unset, .unset, .unset] [(.ref a64)]))
    refine k_astore K65 at_160 (pc' := 162) (L' := #[.val (.int sel), .val (.int ab), .val (.int cdd), .val (.int mxx), .val (.int kk), .val (.int c0), .val (.int c1), .val (.int c2), .val (.int c3), .val (.int ln), .val (.ref a49), .val (.ref a51), .val (.ref a54), .val (.ref a58), .val (.ref va), .val (.ref a64), .unset, .unset]) rfl rfl rfl ?_
    refine k_iload K65 at_162 (pc' := 164) rfl rfl ?_
    refine k_ldcI K65 (w0 hw) at_164 (pc' := 166) rfl ?_
    refine k_iand K65 at_166 (pc' := 167) rfl ?_
    refine k_i2c K65 at_167 (pc' := 168) rfl ?_
    refine k_static K65 [(.int ((kk &&& (65535 : Int32)).toUInt32.toUInt16.toUInt32.toInt32))] [] 0 (w31 hw) (w32 hw) (w4 hw) (w33 hw) (by decide) pd__C_Ljava_lang_String__1574 (c_valueOfC l Z a0 hw n0 ((kk &&& (65535 : Int32)).toUInt32.toUInt16.toUInt32.toInt32) cs0 h65 K65.old SC hcs SA SH SL) at_168 nofun (pc' := 171) rfl rfl rfl rfl (Nat.le_of_eq rfl) (by decide) (by decide) (by decide) (by decide) ?_
    intro b66 T66 h66 L66 v66 K66 tr66 q66
    obtain ⟨a2, d2, kd2, rfl, ha2, hd2, -, KQ2, S2⟩ := q66
    replace S := S.keep KQ2 nin0 nin0
    show Goes p_.tables e_ below_ _ (T66.setTop (mkF m_ 171 #[.val (.int sel), .val (.int ab), .val (.int cdd), .val (.int mxx), .val (.int kk), .val (.int c0), .val (.int c1), .val (.int c2), .val (.int c3), .val (.int ln), .val (.ref a49), .val (.ref a51), .val (.ref a54), .val (.ref a58), .val (.ref va), .val (.ref a64), .unset, .unset] [(.ref a2)]))
    refine k_astore K66 at_171 (pc' := 173) (L' := #[.val (.int sel), .val (.int ab), .val (.int cdd), .val (.int mxx), .val (.int kk), .val (.int c0), .val (.int c1), .val (.int c2), .val (.int c3), .val (.int ln), .val (.ref a49), .val (.ref a51), .val (.ref a54), .val (.ref a58), .val (.ref va), .val (.ref a64), .val (.ref a2), .unset]) rfl rfl rfl ?_
    refine k_iload K66 at_173 (pc' := 175) rfl rfl ?_
    refine k_iloadN K66 at_175 (pc' := 176) rfl rfl ?_
    refine k_staticP K66 [(.int ln), (.int mxx)] [] 0 (w45 hw) (w46 hw) (w47 hw) (w48 hw) (by decide) pd__II_I_934 (c_max l Z a0 hw n0 ln mxx h66 K66.old ) at_176 nofun (pc' := 179) rfl rfl rfl rfl (Nat.le_of_eq rfl) (by decide) (by decide) (by decide) (by decide) ?_
    intro b67 T67 L67 K67 tr67
    show Goes p_.tables e_ below_ _ (T67.setTop (mkF m_ 179 #[.val (.int sel), .val (.int ab), .val (.int cdd), .val (.int mxx), .val (.int kk), .val (.int c0), .val (.int c1), .val (.int c2), .val (.int c3), .val (.int ln), .val (.ref a49), .val (.ref a51), .val (.ref a54), .val (.ref a58), .val (.ref va), .val (.ref a64), .val (.ref a2), .unset] [(.int (if ln < mxx then mxx else ln))]))
    have hmax : ¬ (if ln < mxx then mxx else ln) < ln := by
      split
      · rename_i q; exact Int32.not_lt.mpr (Int32.le_of_lt q)
      · exact fun q => Int32.lt_irrefl q
    generalize hmxx : (if ln < mxx then mxx else ln) = ml at hmax ⊢
    have hlen := own_len hn (show cs.length ≤ 4000 by omega)
    refine k_istore K67 at_179 (pc' := 181) (L' := #[.val (.int sel), .val (.int ab), .val (.int cdd), .val (.int mxx), .val (.int kk), .val (.int c0), .val (.int c1), .val (.int c2), .val (.int c3), .val (.int ln), .val (.ref a49), .val (.ref a51), .val (.ref a54), .val (.ref a58), .val (.ref va), .val (.ref a64), .val (.ref a2), .val (.int ml)]) rfl rfl ?_
    refine k_aload K67 at_181 (pc' := 183) rfl rfl rfl ?_
    refine k_aload K67 at_183 (pc' := 185) rfl rfl rfl ?_
    refine k_iload K67 at_185 (pc' := 187) rfl rfl ?_
    refine k_staticP K67 [(.ref a2), (.ref a64), (.int ml)] [] 0 (w49 hw) (w50 hw) (w51 hw) (w52 hw) (by decide) pd__Ljava_lang_String_Ljava_lang_String_I_V_4232 (c_require l Z a0 hw n0 a2 ml a64 d kd (strCd cs) (strZ ln cs) (strVs cs) cs0 h66 K67.old S (strCd_01 cs) SC hcs (own_nz hn h1 (by omega)) (by rw [hlen]; exact hmax)) at_187 nofun (pc' := 190) rfl rfl rfl rfl (Nat.le_of_eq rfl) (by decide) (by decide) (by decide) (by decide) ?_
    intro b68 T68 L68 K68 tr68
    show Goes p_.tables e_ below_ _ (T68.setTop (mkF m_ 190 #[.val (.int sel), .val (.int ab), .val (.int cdd), .val (.int mxx), .val (.int kk), .val (.int c0), .val (.int c1), .val (.int c2), .val (.int c3), .val (.int ln), .val (.ref a49), .val (.ref a51), .val (.ref a54), .val (.ref a58), .val (.ref va), .val (.ref a64), .val (.ref a2), .val (.int ml)] []))
    refine k_aload K68 at_190 (pc' := 192) rfl rfl rfl ?_
    refine k_virtualP K68 [] [] 0 (w68 hw) (w59 hw) (w60 hw) (w61 hw) (w4 hw) (w62 hw) (notFace_of_selects (args := #[]) (mvT K68.hZ (w61 hw))) rfl (by decide) S.1 (by decide) pd___I_341 (c_length l Z a0 hw n0 a64 d kd (strCd cs) (strZ ln cs) (strVs cs) cs0 h66 K68.old S (strCd_01 cs) SC hcs) at_192 nofun (pc' := 195) rfl rfl rfl rfl (Nat.le_of_eq rfl) (by decide) (by decide) (by decide) (by decide) ?_
    intro b69 T69 L69 K69 tr69
    show Goes p_.tables e_ below_ _ (T69.setTop (mkF m_ 195 #[.val (.int sel), .val (.int ab), .val (.int cdd), .val (.int mxx), .val (.int kk), .val (.int c0), .val (.int c1), .val (.int c2), .val (.int c3), .val (.int ln), .val (.ref a49), .val (.ref a51), .val (.ref a54), .val (.ref a58), .val (.ref va), .val (.ref a64), .val (.ref a2), .val (.int ml)] [(.int (strZ ln cs >>> (strCd cs &&& 31)))]))
    refine k_iload K69 at_195 (pc' := 197) rfl rfl ?_
    refine k_icmp_ne K69 at_197 (by decide) (pc' := 211) (pc2 := 200) (by decide) rfl (fun q => absurd hlen q) (fun hc197 => ?_)
    refine k_iload K69 at_200 (pc' := 202) rfl rfl ?_
    refine k_iload K69 at_202 (pc' := 204) rfl rfl ?_
    refine k_icmp_lt K69 at_204 (by decide) (pc' := 211) (pc2 := 207) (by decide) rfl (fun q => absurd q hmax) (fun hc204 => ?_)
    refine k_iconst K69 (1 : Int32) at_207 (pc' := 208) rfl rfl ?_
    refine k_goto K69 at_208 (by decide) (pc' := 212) (by decide) ?_
    exact k_nret K69 at_212 rfl (by simp) rfl (fun sf ht => ⟨rfl, trivial⟩) (by decide) (by decide)
  refine k_iload K62 at_115 (pc' := 117) rfl rfl ?_
  refine k_iconst K62 (1 : Int32) at_117 (pc' := 118) rfl rfl ?_
  refine k_icmp_ne K62 at_118 (by decide) (pc' := 128) (pc2 := 121) (by decide) rfl (fun hc118 => ?_) (fun hc118 => ?_)
  · refine k_iload K62 at_128 (pc' := 130) rfl rfl ?_
    refine k_iconst K62 (2 : Int32) at_130 (pc' := 131) rfl rfl ?_
    refine k_icmp_ne K62 at_131 (by decide) (pc' := 141) (pc2 := 134) (by decide) rfl (fun hc131 => ?_) (fun hc131 => ?_)
    · refine k_iload K62 at_141 (pc' := 143) rfl rfl ?_
      refine k_iconst K62 (3 : Int32) at_143 (pc' := 144) rfl rfl ?_
      refine k_icmp_ne K62 at_144 (by decide) (pc' := 151) (pc2 := 147) (by decide) rfl (fun hc144 => ?_) (fun hc144 => ?_)
      · have hk : ln = 4 := by
          rcases hln with q | q | q | q
          · exact absurd q hc118
          · exact absurd q hc131
          · exact absurd q hc144
          · exact q
        exact J a58 ka58 [c0, c1, c2, c3] (by rw [hk]; rfl) (by simp) (by simp) (fun c hc => by
          simp only [List.mem_cons, List.not_mem_nil, or_false] at hc
          rcases hc with rfl | rfl | rfl | rfl
          · exact hc0
          · exact hc1
          · exact hc2
          · exact hc3) (by rw [hk]; exact V_a58) _ _ _ K62
      · have hk := hc144
        refine k_aload K62 at_147 (pc' := 149) rfl rfl rfl ?_
        refine k_astore K62 at_149 (pc' := 151) (L' := #[.val (.int sel), .val (.int ab), .val (.int cdd), .val (.int mxx), .val (.int kk), .val (.int c0), .val (.int c1), .val (.int c2), .val (.int c3), .val (.int ln), .val (.ref a49), .val (.ref a51), .val (.ref a54), .val (.ref a58), .val (.ref a54), .unset, .unset, .unset]) rfl rfl rfl ?_
        exact J a54 ka54 [c0, c1, c2] (by rw [hk]; rfl) (by simp) (by simp) (fun c hc => by
          simp only [List.mem_cons, List.not_mem_nil, or_false] at hc
          rcases hc with rfl | rfl | rfl
          · exact hc0
          · exact hc1
          · exact hc2) (by rw [hk]; exact V_a54) _ _ _ K62
    · have hk := hc131
      refine k_aload K62 at_134 (pc' := 136) rfl rfl rfl ?_
      refine k_astore K62 at_136 (pc' := 138) (L' := #[.val (.int sel), .val (.int ab), .val (.int cdd), .val (.int mxx), .val (.int kk), .val (.int c0), .val (.int c1), .val (.int c2), .val (.int c3), .val (.int ln), .val (.ref a49), .val (.ref a51), .val (.ref a54), .val (.ref a58), .val (.ref a51), .unset, .unset, .unset]) rfl rfl rfl ?_
      refine k_goto K62 at_138 (by decide) (pc' := 151) (by decide) ?_
      exact J a51 ka51 [c0, c1] (by rw [hk]; rfl) (by simp) (by simp) (fun c hc => by
        simp only [List.mem_cons, List.not_mem_nil, or_false] at hc
        rcases hc with rfl | rfl
        · exact hc0
        · exact hc1) (by rw [hk]; exact V_a51) _ _ _ K62
  · have hk := hc118
    refine k_aload K62 at_121 (pc' := 123) rfl rfl rfl ?_
    refine k_astore K62 at_123 (pc' := 125) (L' := #[.val (.int sel), .val (.int ab), .val (.int cdd), .val (.int mxx), .val (.int kk), .val (.int c0), .val (.int c1), .val (.int c2), .val (.int c3), .val (.int ln), .val (.ref a49), .val (.ref a51), .val (.ref a54), .val (.ref a58), .val (.ref a49), .unset, .unset, .unset]) rfl rfl rfl ?_
    refine k_goto K62 at_125 (by decide) (pc' := 151) (by decide) ?_
    exact J a49 ka49 [c0] (by rw [hk]; rfl) (by simp) (by simp) (fun c hc => by
      simp only [List.mem_cons, List.not_mem_nil, or_false] at hc
      rcases hc with rfl
      · exact hc0) (by rw [hk]; exact V_a49) _ _ _ K62
theorem own_eqI {args : Array Value} {s : State} {t : Term} {k : Int32} (h : (Cond.eq t (.int k)).value args s none s [] = some true) : t.eval args s none [] s = some (.int k) := by
  obtain ⟨x, y, e1, e2, -, k2⟩ := cmp_v (Or.inl h)
  have e3 : y = .int k := (Option.some.inj e2).symm
  subst e3
  obtain ⟨z, rfl⟩ := k2
  have q : z = k := by simpa [Cond.value, Term.eval, e1] using h
  rw [e1, q]
theorem own_fld {args : Array Value} {s : State} {t : Term} {a : Addr} {C n d : String} {v : Value} (ht : t.eval args s none [] s = some (.ref a)) (h : (Term.field t C n d).eval args s none [] s = some v) : Fld s s.heap a C n d v := Fld.start (by rw [← fld_at ht]; exact h)
set_option maxRecDepth 65536 in
set_option maxHeartbeats 40000000 in
theorem comes_1 {Post : Tables → Env → Array Value → State → Outcome → State → Prop} (hpost : ∀ tb e args s v u, (limb_1_1.after args s (.returned v) u = true ∧ limb_1_2.after args s (.returned v) u = true ∧ True) → FrameEnd s (.returned v) u (Jvm.fieldLocs frame_1_writes args s ++ Jvm.arrayLocs frame_1_arrays args s ++ Jvm.staticLocs frame_1_statics s) 32 128 → Post tb e args s (.returned v) u) :
    ArmFor flags0 classFile x code maxLocals ret World_1 tables_1 room_1 Calls_1 rest_1 Pre_1 Post := by
  intro l hfl _ _ p e ha hc hk s m args below hf hA hF happ hP
  obtain ⟨hcalls, hrest, hpre⟩ := hP
  obtain ⟨-, -, -, hnamed, -, -, -, hat⟩ := (Spec.applies_iff hf).mp happ
  obtain ⟨hg, hn⟩ := and_e (Cond.before_iff.mp (show (Jvm.Cond.and given_1 narrow_1).before args s = true from hpre))
  obtain ⟨hg_0, hg⟩ := and_e hg
  obtain ⟨w0, w1, w2, w3, w4, rfl⟩ : ∃ w0 w1 w2 w3 w4 : Value, args = #[w0, w1, w2, w3, w4] := by
    have hs : args.size = 5 := by simpa [Cond.value, given_1] using hg_0
    obtain ⟨L⟩ := args
    match L, hs with
    | [w0, w1, w2, w3, w4], _ => exact ⟨w0, w1, w2, w3, w4, rfl⟩
  obtain ⟨hg_1, hg⟩ := and_e hg
  obtain ⟨hg_2, hg⟩ := and_e hg
  obtain ⟨hg_3, hg⟩ := and_e hg
  obtain ⟨hg_4, hg⟩ := and_e hg
  have hg_5 := hg
  have hw := fun d (hd : d ∈ tables_1) => atoms_spec (ws := Jvm.Cond.code x code maxLocals ret :: tables_1) hat d (List.mem_cons_of_mem _ hd)
  have hfit : Fit s := fun {y c} hc i hi => by
    obtain ⟨ha, rfl⟩ := Array.getElem?_eq_some_iff.mp hc
    have q := List.all_eq_true.mp ((Array.all_eq_true_iff_forall_mem.mp hF) _ (Array.getElem_mem ha)) i (List.mem_range.mpr hi)
    simpa [Array.getElem?_eq_getElem hi] using q
  obtain ⟨hsets, hown0⟩ := atoms_of _ (rest_1_c_eq ▸ (show rest_1_c.before _ s = true from hrest))
  obtain ⟨i0, ei0⟩ := is_v hg_1
  obtain rfl : w0 = (.int i0) := Option.some.inj ei0
  obtain ⟨i1, ei1⟩ := is_v hg_2
  obtain rfl : w1 = (.int i1) := Option.some.inj ei1
  obtain ⟨i2, ei2⟩ := is_v hg_3
  obtain rfl : w2 = (.int i2) := Option.some.inj ei2
  obtain ⟨i3, ei3⟩ := is_v hg_4
  obtain rfl : w3 = (.int i3) := Option.some.inj ei3
  obtain ⟨i4, ei4⟩ := is_v hg_5
  obtain rfl : w4 = (.int i4) := Option.some.inj ei4
  obtain ⟨cs0, ecs⟩ := is_v (Cond.before_iff.mp (hsets _ (List.mem_of_getElem? (i := 1) rfl)))
  have SC := Sta.start ecs (Or.inl (hsets _ (List.mem_of_getElem? (i := 0) rfl)))
  have hcs : ¬ cs0 = 0 := fun q => by
    have h2 := not_v (Cond.before_iff.mp (hsets _ (List.mem_of_getElem? (i := 2) rfl)))
    rw [q] at ecs
    rw [eq_i ecs (Term.int_eval 0) rfl] at h2
    cases h2
  have SA := Sta.start (own_eqI (Cond.before_iff.mp (hsets _ (List.mem_of_getElem? (i := 12) rfl)))) (Or.inl (hsets _ (List.mem_of_getElem? (i := 11) rfl)))
  have SH := Sta.start (own_eqI (Cond.before_iff.mp (hsets _ (List.mem_of_getElem? (i := 15) rfl)))) (Or.inl (hsets _ (List.mem_of_getElem? (i := 14) rfl)))
  have SL := Sta.start (own_eqI (Cond.before_iff.mp (hsets _ (List.mem_of_getElem? (i := 18) rfl)))) (Or.inl (hsets _ (List.mem_of_getElem? (i := 17) rfl)))
  obtain ⟨n, o, h1, h2, h3, _, L, rfl, ⟨N, -, rfl, -⟩, hq⟩ := c_law l s _ hw s.heap.size i0 i1 i2 i3 i4 cs0 s.heap (Old.start s) SC hcs SA SH SL tables_1 p e ha hc hk s m _ below hf ((Spec.applies_iff_loose hf).mp happ).1 ⟨rfl, State.Warmed39.refl s, rfl, nofun⟩ trivial
  refine ⟨n, _, h1, h2, h3, hpost _ _ _ _ _ _ ⟨Cond.after_iff.mpr rfl, Cond.after_iff.mpr (eq_i res_at (Term.int_eval (1)) rfl), trivial⟩ ⟨hq.1, hq.2.1, (hq.2.2.sift fun y hy => Or.inr (N y hy)).mono (by decide) (by decide)⟩⟩
theorem main_1_1 : Claimed_1_1 := comes_1 fun _ _ _ _ _ _ h hF => ⟨h.1, hF⟩
theorem main_1_2 : Claimed_1_2 := comes_1 fun _ _ _ _ _ _ h hF => ⟨h.2.1, hF⟩
end Jvm.Pilot.@@N@@
namespace Jvm.Pilot.@@N@@
open Jvm Jvm.ClassFile Sem Op Lib Jvm.Free Jvm.Stand Jvm.Pilot.@@N@@.Jvm.D
/-! MADE BY PROGRAM (witnessworld.py) out of the Statement's table words and the real class files: 21 classes; the members and pool entries that the words name. The judged class is class 1, her method 1. -/
namespace start1
open Jvm.ClassFile
def u (s : String) : CpInfo := .utf8 (stringToUtf16 s)
/-- a pool by its gaps: so many unusable entries, then the entry; so many at the end -/
def gap : Nat → List CpInfo → List CpInfo
  | 0, r => r
  | n + 1, r => .unusable :: gap n r
def poolList (es : List (Nat × CpInfo)) (last : Nat) : List CpInfo := es.foldr (fun e r => gap e.1 (e.2 :: r)) (gap last [])
def pool (es : List (Nat × CpInfo)) (last : Nat) : Array CpInfo := ⟨poolList es last⟩
def fileOf (pool : Array CpInfo) (this : Nat) (attrs : Array Attribute := #[]) (ms : Array MethodInfo := #[]) (fl : Nat := 33) (sup : Nat := 0) (ifs : Array Nat := #[]) (fds : Array FieldInfo := #[]) : ClassFile where
  minorVersion := 0
  majorVersion := 65
  constantPool := pool
  accessFlags := fl
  thisClass := this
  superClass := sup
  interfaces := ifs
  fields := fds
  methods := ms
  attributes := attrs
def plain (name : String) (sup : Option ClassId) : Class where
  name := name
  kind := .ordinary
  loader := none
  accessFlags := 33
  super := sup
  interfaces := #[]
  cf := none
  fields := #[]
  methods := #[]
  instanceTypes := #[]
  staticTypes := #[]
  resolved := #[]
  callSites := []
  init := .initialized
  statics := none
  mirror := none

def pool0 : Array CpInfo := pool [(5, u "<init>"), (0, u "()V"), (1, .class_ 10), (1, u "java/lang/Object")] 113

def k0c0 : Code := { maxStack := 0, maxLocals := 1, code := object_method_1_code, exceptionTable := #[], attributes := #[] }
def k0m0 : Method := { name := "<init>", desc := "()V", sig := { parameters := [], returnType := none }, accessFlags := 1, code := some k0c0 }
/-- java/lang/Object -/
def k0 : Class := { plain "java/lang/Object" none with
  accessFlags := 33
  interfaces := #[]
  cf := some (fileOf pool0 8 #[] #[{ accessFlags := 1, nameIndex := 5, descriptorIndex := 6, attributes := #[] }] 33 0 #[] #[])
  fields := #[]
  methods := #[k0m0]
  instanceTypes := #[]
  staticTypes := #[]
  resolved := Array.replicate 124 none
  statics := none }

def pool1 : Array CpInfo := pool [(2, .class_ 4), (1, u "java/lang/Object"), (0, u "<init>"), (0, u "()V"), (0, .integer 65535), (0, .class_ 9), (0, u "java/lang/String"), (0, .methodref 8 11), (0, .nameAndType 5 12), (0, u "([C)V"), (0, .methodref 8 14), (0, .nameAndType 15 16), (0, u "valueOf"), (0, u "(C)Ljava/lang/String;"), (0, .methodref 18 19), (0, .class_ 20), (0, .nameAndType 21 22), (0, u "java/lang/Math"), (0, u "max"), (0, u "(II)I"), (0, .methodref 24 25), (0, .class_ 26), (0, .nameAndType 27 28), (0, u "com/example/conveyr/conveyr/Names"), (0, u "requireLength"), (0, u "(Ljava/lang/String;Ljava/lang/String;I)V"), (0, .methodref 8 30), (0, .nameAndType 31 32), (0, u "length"), (0, u "()I"), (0, .class_ 34), (0, u "com/example/conveyr/conveyr/NamesRequireLengthPinLaw"), (2, u "law"), (0, u "(IIIII)Z")] 5

def k1m0 : Method := { name := "<init>", desc := "()V", sig := { parameters := [], returnType := none }, accessFlags := 2, code := none }
def k1c1 : Code := { maxStack := 4, maxLocals := 18, code := code, exceptionTable := #[], attributes := #[] }
def k1m1 : Method := { name := "law", desc := "(IIIII)Z", sig := { parameters := [.int, .int, .int, .int, .int], returnType := some .boolean }, accessFlags := 9, code := some k1c1 }
/-- com/example/conveyr/conveyr/NamesRequireLengthPinLaw -/
def k1 : Class := { plain "com/example/conveyr/conveyr/NamesRequireLengthPinLaw" (some 0) with
  accessFlags := 49
  interfaces := #[]
  cf := some (fileOf pool1 33 #[] #[{ accessFlags := 2, nameIndex := 5, descriptorIndex := 6, attributes := #[] }, { accessFlags := 9, nameIndex := 37, descriptorIndex := 38, attributes := #[] }] 49 2 #[] #[])
  fields := #[]
  methods := #[k1m0, k1m1]
  instanceTypes := #[]
  staticTypes := #[]
  resolved := Array.replicate 44 none
  statics := none }

def pool2 : Array CpInfo := pool [(1, .class_ 2), (0, u "java/io/Serializable"), (0, .class_ 4), (0, u "java/lang/Object")] 2

/-- java/io/Serializable -/
def k2 : Class := { plain "java/io/Serializable" (some 0) with
  accessFlags := 1537
  interfaces := #[]
  cf := some (fileOf pool2 1 #[] #[] 1537 3 #[] #[])
  fields := #[]
  methods := #[]
  instanceTypes := #[]
  staticTypes := #[]
  resolved := Array.replicate 7 none
  statics := none }

def pool3 : Array CpInfo := pool [(1, .class_ 2), (0, u "java/lang/Comparable"), (0, .class_ 4), (0, u "java/lang/Object")] 7

/-- java/lang/Comparable -/
def k3 : Class := { plain "java/lang/Comparable" (some 0) with
  accessFlags := 1537
  interfaces := #[]
  cf := some (fileOf pool3 1 #[] #[] 1537 3 #[] #[])
  fields := #[]
  methods := #[]
  instanceTypes := #[]
  staticTypes := #[]
  resolved := Array.replicate 12 none
  statics := none }

def pool4 : Array CpInfo := pool [(2, .class_ 4), (1, u "java/lang/CharSequence"), (42, .class_ 48), (0, u "java/lang/CharSequence$1CodePointIterator"), (10, .class_ 60), (0, u "java/lang/CharSequence$1CharIterator"), (5, .class_ 67), (0, u "java/lang/Object")] 63

/-- java/lang/CharSequence -/
def k4 : Class := { plain "java/lang/CharSequence" (some 0) with
  accessFlags := 1537
  interfaces := #[]
  cf := some (fileOf pool4 2 #[.nestMembers #[47, 59]] #[] 1537 66 #[] #[])
  fields := #[]
  methods := #[]
  instanceTypes := #[]
  staticTypes := #[]
  resolved := Array.replicate 131 none
  statics := none }

def pool5 : Array CpInfo := pool [(1, .class_ 2), (0, u "java/lang/constant/Constable"), (0, .class_ 4), (0, u "java/lang/Object")] 6

/-- java/lang/constant/Constable -/
def k5 : Class := { plain "java/lang/constant/Constable" (some 0) with
  accessFlags := 1537
  interfaces := #[]
  cf := some (fileOf pool5 1 #[] #[] 1537 3 #[] #[])
  fields := #[]
  methods := #[]
  instanceTypes := #[]
  staticTypes := #[]
  resolved := Array.replicate 11 none
  statics := none }

def pool6 : Array CpInfo := pool [(1, .class_ 2), (0, u "java/lang/constant/ConstantDesc"), (0, .class_ 4), (0, u "java/lang/Object")] 32

/-- java/lang/constant/ConstantDesc -/
def k6 : Class := { plain "java/lang/constant/ConstantDesc" (some 0) with
  accessFlags := 1537
  interfaces := #[]
  cf := some (fileOf pool6 1 #[] #[] 1537 3 #[] #[])
  fields := #[]
  methods := #[]
  instanceTypes := #[]
  staticTypes := #[]
  resolved := Array.replicate 37 none
  statics := none }

def pool7 : Array CpInfo := pool [(1, .methodref 2 3), (0, .class_ 4), (0, .nameAndType 5 6), (0, u "java/lang/Object"), (0, u "<init>"), (0, u "()V"), (2, .fieldref 10 11), (0, .class_ 12), (0, .nameAndType 13 14), (0, u "java/lang/String"), (0, u "value"), (0, u "[B"), (0, .fieldref 10 16), (0, .nameAndType 17 18), (0, u "coder"), (0, u "B"), (2, u "hash"), (0, u "I"), (2, u "hashIsZero"), (0, u "Z"), (0, .methodref 10 28), (0, .nameAndType 5 29), (0, u "([CIILjava/lang/Void;)V"), (8, .fieldref 10 39), (0, .nameAndType 40 26), (0, u "COMPACT_STRINGS"), (1, .class_ 44), (1, u "java/lang/StringUTF16"), (0, u "compress"), (1, .methodref 42 48), (0, .nameAndType 49 50), (0, u "coderFromArrayLen"), (0, u "([BI)B"), (2, u "toBytes"), (53, .class_ 109), (1, u "java/lang/StringLatin1"), (32, u "()Z"), (34, .methodref 42 178), (0, .nameAndType 45 179), (0, u "([CII)[B"), (29, .methodref 10 210), (0, .nameAndType 5 211), (0, u "([BB)V"), (122, u "()I"), (0, .methodref 10 336), (0, .nameAndType 17 337), (0, u "()B"), (31, u "(C)Z"), (137, u "length"), (67, .class_ 576), (0, u "java/lang/CharSequence"), (22, u "CASE_INSENSITIVE_ORDER"), (0, u "Ljava/util/Comparator;"), (91, u "isEmpty"), (89, u "valueOf"), (0, u "(C)Ljava/lang/String;"), (226, u "([C)V"), (4, .methodref 107 1016), (0, .nameAndType 1017 369), (0, u "canEncode"), (0, .methodref 107 1019), (0, .nameAndType 53 1020), (0, u "(C)[B"), (0, .methodref 42 1019), (79, u "serialPersistentFields"), (0, u "[Ljava/io/ObjectStreamField;"), (0, .class_ 1104), (0, u "java/lang/String$CaseInsensitiveComparator"), (1, .class_ 1107), (0, u "java/io/Serializable"), (0, .class_ 1109), (0, u "java/lang/Comparable"), (0, .class_ 1111), (0, u "java/lang/constant/Constable"), (0, .class_ 1113), (0, u "java/lang/constant/ConstantDesc"), (2, u "serialVersionUID"), (0, u "J"), (3, u "REPL"), (0, u "C"), (2, u "LATIN1"), (1, u "UTF16")] 323

def k7m0 : Method := { name := "<init>", desc := "()V", sig := { parameters := [], returnType := none }, accessFlags := 1, code := none }
def k7c1 : Code := { maxStack := 5, maxLocals := 2, code := jdk_42_method_3_code, exceptionTable := #[], attributes := #[] }
def k7m1 : Method := { name := "<init>", desc := "([C)V", sig := { parameters := [(.array .char)], returnType := none }, accessFlags := 1, code := some k7c1 }
def k7c2 : Code := { maxStack := 2, maxLocals := 1, code := jdk_42_method_54_code, exceptionTable := #[], attributes := #[] }
def k7m2 : Method := { name := "length", desc := "()I", sig := { parameters := [], returnType := some .int }, accessFlags := 1, code := some k7c2 }
def k7c3 : Code := { maxStack := 1, maxLocals := 1, code := jdk_42_method_55_code, exceptionTable := #[], attributes := #[] }
def k7m3 : Method := { name := "isEmpty", desc := "()Z", sig := { parameters := [], returnType := some .boolean }, accessFlags := 1, code := some k7c3 }
def k7c4 : Code := { maxStack := 4, maxLocals := 1, code := jdk_42_method_139_code, exceptionTable := #[], attributes := #[] }
def k7m4 : Method := { name := "valueOf", desc := "(C)Ljava/lang/String;", sig := { parameters := [.char], returnType := some (.object "java/lang/String") }, accessFlags := 9, code := some k7c4 }
def k7c5 : Code := { maxStack := 4, maxLocals := 6, code := jdk_42_method_149_code, exceptionTable := #[], attributes := #[] }
def k7m5 : Method := { name := "<init>", desc := "([CIILjava/lang/Void;)V", sig := { parameters := [(.array .char), .int, .int, (.object "java/lang/Void")], returnType := none }, accessFlags := 2, code := some k7c5 }
def k7c6 : Code := { maxStack := 2, maxLocals := 3, code := jdk_42_method_151_code, exceptionTable := #[], attributes := #[] }
def k7m6 : Method := { name := "<init>", desc := "([BB)V", sig := { parameters := [(.array .byte), .byte], returnType := none }, accessFlags := 0, code := some k7c6 }
def k7c7 : Code := { maxStack := 1, maxLocals := 1, code := jdk_42_method_152_code, exceptionTable := #[], attributes := #[] }
def k7m7 : Method := { name := "coder", desc := "()B", sig := { parameters := [], returnType := some .byte }, accessFlags := 0, code := some k7c7 }
/-- java/lang/String -/
def k7 : Class := { plain "java/lang/String" (some 0) with
  accessFlags := 49
  interfaces := #[2, 3, 4, 5, 6]
  cf := some (fileOf pool7 10 #[.nestMembers #[1103]] #[{ accessFlags := 1, nameIndex := 5, descriptorIndex := 6, attributes := #[] }, { accessFlags := 1, nameIndex := 5, descriptorIndex := 1010, attributes := #[] }, { accessFlags := 1, nameIndex := 507, descriptorIndex := 334, attributes := #[] }, { accessFlags := 1, nameIndex := 692, descriptorIndex := 142, attributes := #[] }, { accessFlags := 9, nameIndex := 782, descriptorIndex := 783, attributes := #[] }, { accessFlags := 2, nameIndex := 5, descriptorIndex := 29, attributes := #[] }, { accessFlags := 0, nameIndex := 5, descriptorIndex := 211, attributes := #[] }, { accessFlags := 0, nameIndex := 17, descriptorIndex := 337, attributes := #[] }] 49 2 #[1106, 1108, 575, 1110, 1112] #[{ accessFlags := 18, nameIndex := 13, descriptorIndex := 14, attributes := #[] }, { accessFlags := 18, nameIndex := 17, descriptorIndex := 18, attributes := #[] }, { accessFlags := 2, nameIndex := 21, descriptorIndex := 22, attributes := #[] }, { accessFlags := 2, nameIndex := 25, descriptorIndex := 26, attributes := #[] }, { accessFlags := 26, nameIndex := 1116, descriptorIndex := 1117, attributes := #[] }, { accessFlags := 24, nameIndex := 40, descriptorIndex := 26, attributes := #[] }, { accessFlags := 26, nameIndex := 1101, descriptorIndex := 1102, attributes := #[] }, { accessFlags := 26, nameIndex := 1121, descriptorIndex := 1122, attributes := #[] }, { accessFlags := 25, nameIndex := 599, descriptorIndex := 600, attributes := #[] }, { accessFlags := 24, nameIndex := 1125, descriptorIndex := 18, attributes := #[] }, { accessFlags := 24, nameIndex := 1127, descriptorIndex := 18, attributes := #[] }])
  fields := #[{ name := "value", type := (.array .byte), accessFlags := 18, slot := 0, constantValue := 0 }, { name := "coder", type := .byte, accessFlags := 18, slot := 1, constantValue := 0 }, { name := "hash", type := .int, accessFlags := 2, slot := 2, constantValue := 0 }, { name := "hashIsZero", type := .boolean, accessFlags := 2, slot := 3, constantValue := 0 }, { name := "serialVersionUID", type := .long, accessFlags := 26, slot := 0, constantValue := 0 }, { name := "COMPACT_STRINGS", type := .boolean, accessFlags := 24, slot := 1, constantValue := 0 }, { name := "serialPersistentFields", type := (.array (.object "java/io/ObjectStreamField")), accessFlags := 26, slot := 2, constantValue := 0 }, { name := "REPL", type := .char, accessFlags := 26, slot := 3, constantValue := 0 }, { name := "CASE_INSENSITIVE_ORDER", type := (.object "java/util/Comparator"), accessFlags := 25, slot := 4, constantValue := 0 }, { name := "LATIN1", type := .byte, accessFlags := 24, slot := 5, constantValue := 0 }, { name := "UTF16", type := .byte, accessFlags := 24, slot := 6, constantValue := 0 }]
  methods := #[k7m0, k7m1, k7m2, k7m3, k7m4, k7m5, k7m6, k7m7]
  instanceTypes := #[(.array .byte), .byte, .int, .boolean]
  staticTypes := #[.long, .boolean, (.array (.object "java/io/ObjectStreamField")), .char, (.object "java/util/Comparator"), .byte, .byte]
  resolved := Array.replicate 1451 none
  statics := some 0 }

def pool8 : Array CpInfo := pool [(6, .class_ 8), (1, u "java/lang/Object"), (0, u "<init>"), (0, u "()V"), (0, .methodref 12 13), (0, .class_ 14), (0, .nameAndType 15 16), (0, u "java/lang/StringUTF16"), (0, u "newBytesLength"), (0, u "(I)I"), (3, .integer 1073741823), (23, .fieldref 12 45), (0, .nameAndType 46 47), (0, u "$assertionsDisabled"), (0, u "Z"), (11, .fieldref 12 60), (0, .nameAndType 61 62), (0, u "HI_BYTE_SHIFT"), (0, u "I"), (0, .fieldref 12 64), (0, .nameAndType 65 62), (0, u "LO_BYTE_SHIFT"), (5, .methodref 12 72), (0, .nameAndType 73 74), (0, u "getChar"), (0, u "([BI)C"), (32, .methodref 12 108), (0, .nameAndType 109 110), (0, u "newBytesFor"), (0, u "(I)[B"), (0, .methodref 12 112), (0, .nameAndType 113 114), (0, u "putChar"), (0, u "([BII)V"), (0, .methodref 12 116), (0, .nameAndType 117 118), (0, u "compress"), (0, u "([CI[BII)I"), (0, .methodref 12 120), (0, .nameAndType 121 122), (0, u "toBytes"), (0, u "([CII)[B"), (138, u "coderFromArrayLen"), (0, u "([BI)B"), (106, .class_ 371), (1, u "java/lang/StringUTF16$LinesSpliterator"), (58, u "MAX_LENGTH"), (44, u "(C)[B"), (151, .class_ 628), (0, u "java/lang/StringUTF16$CodePointsSpliterator"), (0, .class_ 630), (0, u "java/lang/StringUTF16$CharsSpliterator")] 4

def k8m0 : Method := { name := "<init>", desc := "()V", sig := { parameters := [], returnType := none }, accessFlags := 0, code := none }
def k8c1 : Code := { maxStack := 1, maxLocals := 1, code := jdk_52_method_2_code, exceptionTable := #[], attributes := #[] }
def k8m1 : Method := { name := "newBytesFor", desc := "(I)[B", sig := { parameters := [.int], returnType := some (.array .byte) }, accessFlags := 9, code := some k8c1 }
def k8c2 : Code := { maxStack := 4, maxLocals := 1, code := jdk_52_method_3_code, exceptionTable := #[], attributes := #[] }
def k8m2 : Method := { name := "newBytesLength", desc := "(I)I", sig := { parameters := [.int], returnType := some .int }, accessFlags := 9, code := some k8c2 }
def k8c3 : Code := { maxStack := 4, maxLocals := 3, code := jdk_52_method_4_code, exceptionTable := #[], attributes := #[] }
def k8m3 : Method := { name := "putChar", desc := "([BII)V", sig := { parameters := [(.array .byte), .int, .int], returnType := none }, accessFlags := 8, code := some k8c3 }
def k8c4 : Code := { maxStack := 3, maxLocals := 2, code := jdk_52_method_5_code, exceptionTable := #[], attributes := #[] }
def k8m4 : Method := { name := "getChar", desc := "([BI)C", sig := { parameters := [(.array .byte), .int], returnType := some .char }, accessFlags := 8, code := some k8c4 }
def k8c5 : Code := { maxStack := 4, maxLocals := 5, code := jdk_52_method_14_code, exceptionTable := #[], attributes := #[] }
def k8m5 : Method := { name := "toBytes", desc := "([CII)[B", sig := { parameters := [(.array .char), .int, .int], returnType := some (.array .byte) }, accessFlags := 9, code := some k8c5 }
def k8c6 : Code := { maxStack := 2, maxLocals := 2, code := jdk_52_method_15_code, exceptionTable := #[], attributes := #[] }
def k8m6 : Method := { name := "coderFromArrayLen", desc := "([BI)B", sig := { parameters := [(.array .byte), .int], returnType := some .byte }, accessFlags := 8, code := some k8c6 }
def k8c7 : Code := { maxStack := 5, maxLocals := 6, code := jdk_52_method_16_code, exceptionTable := #[], attributes := #[] }
def k8m7 : Method := { name := "compress", desc := "([CII)[B", sig := { parameters := [(.array .char), .int, .int], returnType := some (.array .byte) }, accessFlags := 9, code := some k8c7 }
def k8c8 : Code := { maxStack := 3, maxLocals := 7, code := jdk_52_method_21_code, exceptionTable := #[], attributes := #[] }
def k8m8 : Method := { name := "compress", desc := "([CI[BII)I", sig := { parameters := [(.array .char), .int, (.array .byte), .int, .int], returnType := some .int }, accessFlags := 9, code := some k8c8 }
def k8c9 : Code := { maxStack := 3, maxLocals := 2, code := jdk_52_method_24_code, exceptionTable := #[], attributes := #[] }
def k8m9 : Method := { name := "toBytes", desc := "(C)[B", sig := { parameters := [.char], returnType := some (.array .byte) }, accessFlags := 9, code := some k8c9 }
/-- java/lang/StringUTF16 -/
def k8 : Class := { plain "java/lang/StringUTF16" (some 0) with
  accessFlags := 48
  interfaces := #[]
  cf := some (fileOf pool8 12 #[.nestMembers #[627, 629, 369]] #[{ accessFlags := 0, nameIndex := 9, descriptorIndex := 10, attributes := #[] }, { accessFlags := 9, nameIndex := 109, descriptorIndex := 110, attributes := #[] }, { accessFlags := 9, nameIndex := 15, descriptorIndex := 16, attributes := #[] }, { accessFlags := 8, nameIndex := 113, descriptorIndex := 114, attributes := #[] }, { accessFlags := 8, nameIndex := 73, descriptorIndex := 74, attributes := #[] }, { accessFlags := 9, nameIndex := 121, descriptorIndex := 122, attributes := #[] }, { accessFlags := 8, nameIndex := 261, descriptorIndex := 262, attributes := #[] }, { accessFlags := 9, nameIndex := 117, descriptorIndex := 122, attributes := #[] }, { accessFlags := 9, nameIndex := 117, descriptorIndex := 118, attributes := #[] }, { accessFlags := 9, nameIndex := 121, descriptorIndex := 475, attributes := #[] }] 48 6 #[] #[{ accessFlags := 26, nameIndex := 61, descriptorIndex := 62, attributes := #[] }, { accessFlags := 26, nameIndex := 65, descriptorIndex := 62, attributes := #[] }, { accessFlags := 24, nameIndex := 430, descriptorIndex := 62, attributes := #[] }, { accessFlags := 4120, nameIndex := 46, descriptorIndex := 47, attributes := #[] }])
  fields := #[{ name := "HI_BYTE_SHIFT", type := .int, accessFlags := 26, slot := 0, constantValue := 0 }, { name := "LO_BYTE_SHIFT", type := .int, accessFlags := 26, slot := 1, constantValue := 0 }, { name := "MAX_LENGTH", type := .int, accessFlags := 24, slot := 2, constantValue := 0 }, { name := "$assertionsDisabled", type := .boolean, accessFlags := 4120, slot := 3, constantValue := 0 }]
  methods := #[k8m0, k8m1, k8m2, k8m3, k8m4, k8m5, k8m6, k8m7, k8m8, k8m9]
  instanceTypes := #[]
  staticTypes := #[.int, .int, .int, .boolean]
  resolved := Array.replicate 635 none
  statics := some 1 }

def pool9 : Array CpInfo := pool [(4, .class_ 6), (1, u "java/lang/Object"), (0, u "<init>"), (0, u "()V"), (5, .class_ 16), (1, u "java/lang/StringLatin1"), (73, u "canEncode"), (14, u "(C)Z"), (15, u "$assertionsDisabled"), (0, u "Z"), (98, .class_ 223), (1, u "java/lang/StringLatin1$LinesSpliterator"), (156, u "toBytes"), (1, u "(C)[B"), (7, .class_ 391), (0, u "java/lang/StringLatin1$CharsSpliterator")] 3

def k9m0 : Method := { name := "<init>", desc := "()V", sig := { parameters := [], returnType := none }, accessFlags := 0, code := none }
def k9c1 : Code := { maxStack := 2, maxLocals := 1, code := jdk_43_method_3_code, exceptionTable := #[], attributes := #[] }
def k9m1 : Method := { name := "canEncode", desc := "(C)Z", sig := { parameters := [.char], returnType := some .boolean }, accessFlags := 9, code := some k9c1 }
def k9c2 : Code := { maxStack := 4, maxLocals := 1, code := jdk_43_method_46_code, exceptionTable := #[], attributes := #[] }
def k9m2 : Method := { name := "toBytes", desc := "(C)[B", sig := { parameters := [.char], returnType := some (.array .byte) }, accessFlags := 9, code := some k9c2 }
/-- java/lang/StringLatin1 -/
def k9 : Class := { plain "java/lang/StringLatin1" (some 0) with
  accessFlags := 48
  interfaces := #[]
  cf := some (fileOf pool9 14 #[.nestMembers #[390, 221]] #[{ accessFlags := 0, nameIndex := 7, descriptorIndex := 8, attributes := #[] }, { accessFlags := 9, nameIndex := 90, descriptorIndex := 105, attributes := #[] }, { accessFlags := 9, nameIndex := 380, descriptorIndex := 382, attributes := #[] }] 48 4 #[] #[{ accessFlags := 4120, nameIndex := 121, descriptorIndex := 122, attributes := #[] }])
  fields := #[{ name := "$assertionsDisabled", type := .boolean, accessFlags := 4120, slot := 0, constantValue := 0 }]
  methods := #[k9m0, k9m1, k9m2]
  instanceTypes := #[]
  staticTypes := #[.boolean]
  resolved := Array.replicate 395 none
  statics := none }

def pool10 : Array CpInfo := pool [(1, .class_ 2), (0, u "java/lang/Math"), (1, .class_ 6), (1, u "java/lang/Object"), (0, u "<init>"), (0, u "()V"), (89, .class_ 100), (1, u "java/lang/Math$RandomNumberGeneratorHolder"), (71, u "negativeZeroFloatBits"), (0, u "J"), (2, u "negativeZeroDoubleBits"), (21, u "max"), (46, u "$assertionsDisabled"), (0, u "Z"), (88, u "(II)I"), (2, u "twoToTheDoubleScaleDown"), (0, u "D"), (4, u "twoToTheDoubleScaleUp"), (9, u "E"), (3, u "PI"), (2, u "TAU"), (2, u "DEGREES_TO_RADIANS"), (0, u "RADIANS_TO_DEGREES")] 94

def k10m0 : Method := { name := "<init>", desc := "()V", sig := { parameters := [], returnType := none }, accessFlags := 2, code := none }
def k10c1 : Code := { maxStack := 2, maxLocals := 2, code := jdk_29_method_65_code, exceptionTable := #[], attributes := #[] }
def k10m1 : Method := { name := "max", desc := "(II)I", sig := { parameters := [.int, .int], returnType := some .int }, accessFlags := 9, code := some k10c1 }
/-- java/lang/Math -/
def k10 : Class := { plain "java/lang/Math" (some 0) with
  accessFlags := 49
  interfaces := #[]
  cf := some (fileOf pool10 1 #[.nestMembers #[98]] #[{ accessFlags := 2, nameIndex := 7, descriptorIndex := 8, attributes := #[] }, { accessFlags := 9, nameIndex := 198, descriptorIndex := 335, attributes := #[] }] 49 4 #[] #[{ accessFlags := 25, nameIndex := 354, descriptorIndex := 339, attributes := #[] }, { accessFlags := 25, nameIndex := 358, descriptorIndex := 339, attributes := #[] }, { accessFlags := 25, nameIndex := 361, descriptorIndex := 339, attributes := #[] }, { accessFlags := 26, nameIndex := 364, descriptorIndex := 339, attributes := #[] }, { accessFlags := 26, nameIndex := 365, descriptorIndex := 339, attributes := #[] }, { accessFlags := 26, nameIndex := 172, descriptorIndex := 173, attributes := #[] }, { accessFlags := 26, nameIndex := 176, descriptorIndex := 173, attributes := #[] }, { accessFlags := 8, nameIndex := 344, descriptorIndex := 339, attributes := #[] }, { accessFlags := 8, nameIndex := 338, descriptorIndex := 339, attributes := #[] }, { accessFlags := 4120, nameIndex := 245, descriptorIndex := 246, attributes := #[] }])
  fields := #[{ name := "E", type := .double, accessFlags := 25, slot := 0, constantValue := 0 }, { name := "PI", type := .double, accessFlags := 25, slot := 1, constantValue := 0 }, { name := "TAU", type := .double, accessFlags := 25, slot := 2, constantValue := 0 }, { name := "DEGREES_TO_RADIANS", type := .double, accessFlags := 26, slot := 3, constantValue := 0 }, { name := "RADIANS_TO_DEGREES", type := .double, accessFlags := 26, slot := 4, constantValue := 0 }, { name := "negativeZeroFloatBits", type := .long, accessFlags := 26, slot := 5, constantValue := 0 }, { name := "negativeZeroDoubleBits", type := .long, accessFlags := 26, slot := 6, constantValue := 0 }, { name := "twoToTheDoubleScaleUp", type := .double, accessFlags := 8, slot := 7, constantValue := 0 }, { name := "twoToTheDoubleScaleDown", type := .double, accessFlags := 8, slot := 8, constantValue := 0 }, { name := "$assertionsDisabled", type := .boolean, accessFlags := 4120, slot := 9, constantValue := 0 }]
  methods := #[k10m0, k10m1]
  instanceTypes := #[]
  staticTypes := #[.double, .double, .double, .double, .double, .long, .long, .double, .double, .boolean]
  resolved := Array.replicate 460 none
  statics := none }

def pool11 : Array CpInfo := pool [(2, .class_ 4), (1, u "java/lang/Object"), (0, u "<init>"), (0, u "()V"), (0, .methodref 8 9), (0, .class_ 10), (0, .nameAndType 11 12), (0, u "java/lang/String"), (0, u "isEmpty"), (0, u "()Z"), (0, .methodref 8 14), (0, .nameAndType 15 16), (0, u "length"), (0, u "()I"), (10, .class_ 29), (1, u "com/example/conveyr/conveyr/Names"), (0, u "requireLength"), (0, u "(Ljava/lang/String;Ljava/lang/String;I)V")] 88

def k11m0 : Method := { name := "<init>", desc := "()V", sig := { parameters := [], returnType := none }, accessFlags := 2, code := none }
def k11c1 : Code := { maxStack := 5, maxLocals := 3, code := prog_10_method_2_code, exceptionTable := #[], attributes := #[] }
def k11m1 : Method := { name := "requireLength", desc := "(Ljava/lang/String;Ljava/lang/String;I)V", sig := { parameters := [(.object "java/lang/String"), (.object "java/lang/String"), .int], returnType := none }, accessFlags := 8, code := some k11c1 }
/-- com/example/conveyr/conveyr/Names -/
def k11 : Class := { plain "com/example/conveyr/conveyr/Names" (some 0) with
  accessFlags := 32
  interfaces := #[]
  cf := some (fileOf pool11 27 #[] #[{ accessFlags := 2, nameIndex := 5, descriptorIndex := 6, attributes := #[] }, { accessFlags := 8, nameIndex := 30, descriptorIndex := 31, attributes := #[] }] 32 2 #[] #[])
  fields := #[]
  methods := #[k11m0, k11m1]
  instanceTypes := #[]
  staticTypes := #[]
  resolved := Array.replicate 120 none
  statics := none }

def pool12 : Array CpInfo := pool [(2, .class_ 4), (1, u "java/lang/Object"), (0, u "<init>"), (0, u "()V"), (17, .class_ 26), (1, u "jdk/internal/util/Preconditions"), (28, .class_ 56), (0, u "jdk/internal/util/Preconditions$4"), (57, .class_ 115), (0, u "jdk/internal/util/Preconditions$1"), (7, u "SIOOBE_FORMATTER"), (0, u "Ljava/util/function/BiFunction;"), (0, .class_ 126), (0, u "jdk/internal/util/Preconditions$2"), (3, u "AIOOBE_FORMATTER"), (0, .class_ 132), (0, u "jdk/internal/util/Preconditions$3"), (3, u "IOOBE_FORMATTER")] 57

def k12m0 : Method := { name := "<init>", desc := "()V", sig := { parameters := [], returnType := none }, accessFlags := 1, code := none }
/-- jdk/internal/util/Preconditions -/
def k12 : Class := { plain "jdk/internal/util/Preconditions" (some 0) with
  accessFlags := 33
  interfaces := #[]
  cf := some (fileOf pool12 24 #[.nestMembers #[55, 131, 125, 114]] #[{ accessFlags := 1, nameIndex := 5, descriptorIndex := 6, attributes := #[] }] 33 2 #[] #[{ accessFlags := 25, nameIndex := 123, descriptorIndex := 124, attributes := #[] }, { accessFlags := 25, nameIndex := 130, descriptorIndex := 124, attributes := #[] }, { accessFlags := 25, nameIndex := 136, descriptorIndex := 124, attributes := #[] }])
  fields := #[{ name := "SIOOBE_FORMATTER", type := (.object "java/util/function/BiFunction"), accessFlags := 25, slot := 0, constantValue := 0 }, { name := "AIOOBE_FORMATTER", type := (.object "java/util/function/BiFunction"), accessFlags := 25, slot := 1, constantValue := 0 }, { name := "IOOBE_FORMATTER", type := (.object "java/util/function/BiFunction"), accessFlags := 25, slot := 2, constantValue := 0 }]
  methods := #[k12m0]
  instanceTypes := #[]
  staticTypes := #[(.object "java/util/function/BiFunction"), (.object "java/util/function/BiFunction"), (.object "java/util/function/BiFunction")]
  resolved := Array.replicate 194 none
  statics := some 2 }

def pool13 : Array CpInfo := pool [(9, u "<init>"), (6, .class_ 18), (1, u "java/lang/Object"), (0, u "()V"), (1, .class_ 23), (1, u "jdk/internal/util/ArraysSupport"), (0, u "LOG2_ARRAY_LONG_INDEX_SCALE"), (0, u "I"), (2, u "U"), (0, u "Ljdk/internal/misc/Unsafe;"), (8, u "BIG_ENDIAN"), (0, u "Z"), (8, u "LOG2_BYTE_BIT_SIZE"), (4, u "LOG2_ARRAY_INT_INDEX_SCALE"), (54, u "JLA"), (0, u "Ljdk/internal/access/JavaLangAccess;"), (11, u "LOG2_ARRAY_BOOLEAN_INDEX_SCALE"), (9, u "LOG2_ARRAY_BYTE_INDEX_SCALE"), (5, u "LOG2_ARRAY_CHAR_INDEX_SCALE"), (5, u "LOG2_ARRAY_SHORT_INDEX_SCALE"), (18, u "LOG2_ARRAY_FLOAT_INDEX_SCALE"), (24, u "LOG2_ARRAY_DOUBLE_INDEX_SCALE"), (89, u "T_BOOLEAN"), (2, u "T_CHAR"), (1, u "T_FLOAT"), (1, u "T_DOUBLE"), (1, u "T_BYTE"), (1, u "T_SHORT"), (1, u "T_INT"), (1, u "T_LONG"), (1, u "SOFT_MAX_ARRAY_LENGTH")] 83

def k13m0 : Method := { name := "<init>", desc := "()V", sig := { parameters := [], returnType := none }, accessFlags := 2, code := none }
/-- jdk/internal/util/ArraysSupport -/
def k13 : Class := { plain "jdk/internal/util/ArraysSupport" (some 0) with
  accessFlags := 33
  interfaces := #[]
  cf := some (fileOf pool13 21 #[] #[{ accessFlags := 2, nameIndex := 9, descriptorIndex := 19, attributes := #[] }] 33 16 #[] #[{ accessFlags := 24, nameIndex := 28, descriptorIndex := 29, attributes := #[] }, { accessFlags := 26, nameIndex := 38, descriptorIndex := 39, attributes := #[] }, { accessFlags := 25, nameIndex := 121, descriptorIndex := 25, attributes := #[] }, { accessFlags := 25, nameIndex := 131, descriptorIndex := 25, attributes := #[] }, { accessFlags := 25, nameIndex := 137, descriptorIndex := 25, attributes := #[] }, { accessFlags := 25, nameIndex := 143, descriptorIndex := 25, attributes := #[] }, { accessFlags := 25, nameIndex := 53, descriptorIndex := 25, attributes := #[] }, { accessFlags := 25, nameIndex := 24, descriptorIndex := 25, attributes := #[] }, { accessFlags := 25, nameIndex := 162, descriptorIndex := 25, attributes := #[] }, { accessFlags := 25, nameIndex := 187, descriptorIndex := 25, attributes := #[] }, { accessFlags := 26, nameIndex := 48, descriptorIndex := 25, attributes := #[] }, { accessFlags := 25, nameIndex := 277, descriptorIndex := 25, attributes := #[] }, { accessFlags := 25, nameIndex := 280, descriptorIndex := 25, attributes := #[] }, { accessFlags := 25, nameIndex := 282, descriptorIndex := 25, attributes := #[] }, { accessFlags := 25, nameIndex := 284, descriptorIndex := 25, attributes := #[] }, { accessFlags := 25, nameIndex := 286, descriptorIndex := 25, attributes := #[] }, { accessFlags := 25, nameIndex := 288, descriptorIndex := 25, attributes := #[] }, { accessFlags := 25, nameIndex := 290, descriptorIndex := 25, attributes := #[] }, { accessFlags := 25, nameIndex := 292, descriptorIndex := 25, attributes := #[] }, { accessFlags := 26, nameIndex := 108, descriptorIndex := 109, attributes := #[] }, { accessFlags := 25, nameIndex := 294, descriptorIndex := 25, attributes := #[] }])
  fields := #[{ name := "U", type := (.object "jdk/internal/misc/Unsafe"), accessFlags := 24, slot := 0, constantValue := 0 }, { name := "BIG_ENDIAN", type := .boolean, accessFlags := 26, slot := 1, constantValue := 0 }, { name := "LOG2_ARRAY_BOOLEAN_INDEX_SCALE", type := .int, accessFlags := 25, slot := 2, constantValue := 0 }, { name := "LOG2_ARRAY_BYTE_INDEX_SCALE", type := .int, accessFlags := 25, slot := 3, constantValue := 0 }, { name := "LOG2_ARRAY_CHAR_INDEX_SCALE", type := .int, accessFlags := 25, slot := 4, constantValue := 0 }, { name := "LOG2_ARRAY_SHORT_INDEX_SCALE", type := .int, accessFlags := 25, slot := 5, constantValue := 0 }, { name := "LOG2_ARRAY_INT_INDEX_SCALE", type := .int, accessFlags := 25, slot := 6, constantValue := 0 }, { name := "LOG2_ARRAY_LONG_INDEX_SCALE", type := .int, accessFlags := 25, slot := 7, constantValue := 0 }, { name := "LOG2_ARRAY_FLOAT_INDEX_SCALE", type := .int, accessFlags := 25, slot := 8, constantValue := 0 }, { name := "LOG2_ARRAY_DOUBLE_INDEX_SCALE", type := .int, accessFlags := 25, slot := 9, constantValue := 0 }, { name := "LOG2_BYTE_BIT_SIZE", type := .int, accessFlags := 26, slot := 10, constantValue := 0 }, { name := "T_BOOLEAN", type := .int, accessFlags := 25, slot := 11, constantValue := 0 }, { name := "T_CHAR", type := .int, accessFlags := 25, slot := 12, constantValue := 0 }, { name := "T_FLOAT", type := .int, accessFlags := 25, slot := 13, constantValue := 0 }, { name := "T_DOUBLE", type := .int, accessFlags := 25, slot := 14, constantValue := 0 }, { name := "T_BYTE", type := .int, accessFlags := 25, slot := 15, constantValue := 0 }, { name := "T_SHORT", type := .int, accessFlags := 25, slot := 16, constantValue := 0 }, { name := "T_INT", type := .int, accessFlags := 25, slot := 17, constantValue := 0 }, { name := "T_LONG", type := .int, accessFlags := 25, slot := 18, constantValue := 0 }, { name := "JLA", type := (.object "jdk/internal/access/JavaLangAccess"), accessFlags := 26, slot := 19, constantValue := 0 }, { name := "SOFT_MAX_ARRAY_LENGTH", type := .int, accessFlags := 25, slot := 20, constantValue := 0 }]
  methods := #[k13m0]
  instanceTypes := #[]
  staticTypes := #[(.object "jdk/internal/misc/Unsafe"), .boolean, .int, .int, .int, .int, .int, .int, .int, .int, .int, .int, .int, .int, .int, .int, .int, .int, .int, (.object "jdk/internal/access/JavaLangAccess"), .int]
  resolved := Array.replicate 378 none
  statics := none }

def pool14 : Array CpInfo := pool [(1, u "java/lang/Cloneable"), (0, .class_ 1), (0, u "java/lang/Object"), (0, .class_ 3)] 3

/-- java/lang/Cloneable -/
def k14 : Class := { plain "java/lang/Cloneable" (some 0) with
  accessFlags := 1537
  interfaces := #[]
  cf := some (fileOf pool14 2 #[] #[] 1537 4 #[] #[])
  fields := #[]
  methods := #[]
  instanceTypes := #[]
  staticTypes := #[]
  resolved := Array.replicate 8 none
  statics := none }

/-- the primitive byte -/
def k15 : Class := { plain "byte" none with kind := .primitive 'B', accessFlags := 0x411 }
/-- [B -/
def k16 : Class := { plain "[B" (some 0) with kind := .array 15 .byte, interfaces := #[14, 2], accessFlags := 1041 }

/-- the primitive char -/
def k17 : Class := { plain "char" none with kind := .primitive 'C', accessFlags := 0x411 }
/-- [C -/
def k18 : Class := { plain "[C" (some 0) with kind := .array 17 .char, interfaces := #[14, 2], accessFlags := 1041 }

/-- the primitive int -/
def k19 : Class := { plain "int" none with kind := .primitive 'I', accessFlags := 0x411 }
/-- [I -/
def k20 : Class := { plain "[I" (some 0) with kind := .array 19 .int, interfaces := #[14, 2], accessFlags := 1041 }

def heap : Heap := #[{ cls := 7, slots := #[.long 0, .int 1, .null, .int 0, .null, .int 0, .int 0], vm := .statics 7 },
  { cls := 8, slots := #[.int 0, .int 8, .int 0, .int 1], vm := .statics 8 },
  { cls := 12, slots := #[.null, .null, .null], vm := .statics 12 }]
def classes : Array Class := #[k0, k1, k2, k3, k4, k5, k6, k7, k8, k9, k10, k11, k12, k13, k14, k15, k16, k17, k18, k19, k20]
def interned : List (Array UInt16 × Addr) := []
def slotsUsed : Nat := 14
def theMethod : MethodId := ⟨1, 1⟩
def args0 : Array Value := #[.int 5, .int 9, .int 3, .int 7, .int 65]
def aboutOver (below : List Frame) : State where
  vm := { classes := classes, interned := interned.toArray }
  heap := heap
  slotsUsed := slotsUsed
  threads := #[{ frames := .invoking theMethod args0 :: below }]
def below0 : List Frame := [.native { method := ⟨0, 0⟩, args := #[] }]
def about1 : State := aboutOver below0
def p0 : Program := .bare "" "" ""
def e0 : Env := launch0.env 0 0 0
theorem w_frames : about1.frames = Frame.invoking theMethod args0 :: below0 := rfl
set_option maxRecDepth 65536 in
theorem w_args : argsFit about1.vm theMethod args0 = true := by decide +kernel
set_option maxRecDepth 65536 in
theorem w_heap : heapFits about1 = true := by decide +kernel
set_option maxRecDepth 65536 in
theorem w_runnable : about1.curStatus? = some .runnable := by decide +kernel
set_option maxRecDepth 65536 in
theorem w_alone : about1.alone = true := by decide +kernel
set_option maxRecDepth 65536 in
theorem w_named : about1.methodNamed? x = some theMethod := by decide +kernel
set_option maxRecDepth 65536 in
theorem w_hears : about1.hears theMethod below0 = true := by decide +kernel
set_option maxRecDepth 65536 in
theorem w_ripe : about1.ripe theMethod args0 below0 = true := by decide +kernel
theorem w_running : about1.status = .running := rfl
set_option maxRecDepth 65536 in
theorem w_room : about1.hasRoom e0.platform room_1 = true :=
  launch0.hasRoom_least _ room_1 (by decide +kernel) (by decide +kernel) (by decide +kernel) (by decide +kernel) (by decide +kernel) (by decide +kernel)
theorem allAtoms_all (ts : List Jvm.Cond) (a : Array Jvm.Value) (st : Jvm.State) : (allAtoms ts).before a st = ts.all (fun c => c.before a st) := by
  induction ts with
  | nil => rfl
  | cons c t ih =>
    show (Jvm.Cond.and c (allAtoms t)).before a st = _
    rw [Jvm.Cond.before_and, ih, List.all_cons]
def words1 : List Jvm.Cond := Jvm.Cond.code x code maxLocals ret :: tables_1
/-- a 'code' word, met by the world's own term for the bytes: nothing is compared byte by byte -/
theorem code_word {y : MethodName} {bytes : ByteArray} {mx : Nat} {rt : Option FieldType} {a : Array Value} {s : State} {m : MethodId} {meth : Method} {c : Code} (h1 : s.methodNamed? y = some m) (h2 : s.vm.method? m = some meth) (h3 : meth.code = some c) (h4 : c.code = bytes)
    (h5 : (c.maxLocals == mx && c.exceptionTable.isEmpty && decide (c.maxStack ≤ mostOperands) && decide (meth.sig.returnType = rt) && !meth.locks && decide (parseMethodDescriptor y.desc = some meth.sig)) = true) : (Jvm.Cond.code y bytes mx rt).before a s = true := by
  simp only [Bool.and_eq_true, beq_iff_eq, Bool.not_eq_true', decide_eq_true_eq] at h5
  obtain ⟨⟨⟨⟨⟨g1, g2⟩, g3⟩, g4⟩, g5⟩, g6⟩ := h5
  simp [Cond.before, Cond.holds, Cond.value, h1, h2, h3, h4, g1, g2, g3, g4, g5, g6]
def isCode : Jvm.Cond → Bool
  | .code _ _ _ _ => true
  | _ => false
theorem all_split {L : List Jvm.Cond} {P : Jvm.Cond → Bool} (h1 : L.all (fun c => isCode c || P c) = true) (h2 : ∀ c ∈ L.filter isCode, P c = true) : L.all P = true := by
  refine List.all_eq_true.mpr fun c hc => ?_
  have h := List.all_eq_true.mp h1 c hc
  rcases Bool.eq_false_or_eq_true (isCode c) with hi | hi
  · exact h2 c (List.mem_filter.mpr ⟨hc, hi⟩)
  · simpa [hi] using h
set_option maxRecDepth 65536 in
theorem w_c0 : (Jvm.Cond.code x code maxLocals ret).before args0 about1 = true := code_word (m := ⟨1, 1⟩) (meth := k1m1) (c := k1c1) (by decide +kernel) rfl rfl rfl (by decide +kernel)
set_option maxRecDepth 65536 in
theorem w_c1 : (Jvm.Cond.code ({ cls := "java/lang/String", name := "<init>", desc := "([C)V" } : Jvm.MethodName) jdk_42_method_3_code (2 : Nat) (Option.none : Option Jvm.ClassFile.FieldType)).before args0 about1 = true := code_word (m := ⟨7, 1⟩) (meth := k7m1) (c := k7c1) (by decide +kernel) rfl rfl rfl (by decide +kernel)
set_option maxRecDepth 65536 in
theorem w_c2 : (Jvm.Cond.code ({ cls := "java/lang/String", name := "<init>", desc := "([CIILjava/lang/Void;)V" } : Jvm.MethodName) jdk_42_method_149_code (6 : Nat) (Option.none : Option Jvm.ClassFile.FieldType)).before args0 about1 = true := code_word (m := ⟨7, 5⟩) (meth := k7m5) (c := k7c5) (by decide +kernel) rfl rfl rfl (by decide +kernel)
set_option maxRecDepth 65536 in
theorem w_c3 : (Jvm.Cond.code ({ cls := "java/lang/Object", name := "<init>", desc := "()V" } : Jvm.MethodName) object_method_1_code (1 : Nat) (Option.none : Option Jvm.ClassFile.FieldType)).before args0 about1 = true := code_word (m := ⟨0, 0⟩) (meth := k0m0) (c := k0c0) (by decide +kernel) rfl rfl rfl (by decide +kernel)
set_option maxRecDepth 65536 in
theorem w_c4 : (Jvm.Cond.code ({ cls := "java/lang/StringUTF16", name := "compress", desc := "([CII)[B" } : Jvm.MethodName) jdk_52_method_16_code (6 : Nat) (Option.some (Jvm.ClassFile.FieldType.array Jvm.ClassFile.FieldType.byte))).before args0 about1 = true := code_word (m := ⟨8, 7⟩) (meth := k8m7) (c := k8c7) (by decide +kernel) rfl rfl rfl (by decide +kernel)
set_option maxRecDepth 65536 in
theorem w_c5 : (Jvm.Cond.code ({ cls := "java/lang/StringUTF16", name := "compress", desc := "([CI[BII)I" } : Jvm.MethodName) jdk_52_method_21_code (7 : Nat) (Option.some Jvm.ClassFile.FieldType.int)).before args0 about1 = true := code_word (m := ⟨8, 8⟩) (meth := k8m8) (c := k8c8) (by decide +kernel) rfl rfl rfl (by decide +kernel)
set_option maxRecDepth 65536 in
theorem w_c6 : (Jvm.Cond.code ({ cls := "java/lang/StringUTF16", name := "coderFromArrayLen", desc := "([BI)B" } : Jvm.MethodName) jdk_52_method_15_code (2 : Nat) (Option.some Jvm.ClassFile.FieldType.byte)).before args0 about1 = true := code_word (m := ⟨8, 6⟩) (meth := k8m6) (c := k8c6) (by decide +kernel) rfl rfl rfl (by decide +kernel)
set_option maxRecDepth 65536 in
theorem w_c7 : (Jvm.Cond.code ({ cls := "java/lang/String", name := "valueOf", desc := "(C)Ljava/lang/String;" } : Jvm.MethodName) jdk_42_method_139_code (1 : Nat) (Option.some (Jvm.ClassFile.FieldType.object "java/lang/String"))).before args0 about1 = true := code_word (m := ⟨7, 4⟩) (meth := k7m4) (c := k7c4) (by decide +kernel) rfl rfl rfl (by decide +kernel)
set_option maxRecDepth 65536 in
theorem w_c8 : (Jvm.Cond.code ({ cls := "java/lang/StringLatin1", name := "canEncode", desc := "(C)Z" } : Jvm.MethodName) jdk_43_method_3_code (1 : Nat) (Option.some Jvm.ClassFile.FieldType.boolean)).before args0 about1 = true := code_word (m := ⟨9, 1⟩) (meth := k9m1) (c := k9c1) (by decide +kernel) rfl rfl rfl (by decide +kernel)
set_option maxRecDepth 65536 in
theorem w_c9 : (Jvm.Cond.code ({ cls := "java/lang/StringLatin1", name := "toBytes", desc := "(C)[B" } : Jvm.MethodName) jdk_43_method_46_code (1 : Nat) (Option.some (Jvm.ClassFile.FieldType.array Jvm.ClassFile.FieldType.byte))).before args0 about1 = true := code_word (m := ⟨9, 2⟩) (meth := k9m2) (c := k9c2) (by decide +kernel) rfl rfl rfl (by decide +kernel)
set_option maxRecDepth 65536 in
theorem w_c10 : (Jvm.Cond.code ({ cls := "java/lang/String", name := "<init>", desc := "([BB)V" } : Jvm.MethodName) jdk_42_method_151_code (3 : Nat) (Option.none : Option Jvm.ClassFile.FieldType)).before args0 about1 = true := code_word (m := ⟨7, 6⟩) (meth := k7m6) (c := k7c6) (by decide +kernel) rfl rfl rfl (by decide +kernel)
set_option maxRecDepth 65536 in
theorem w_c11 : (Jvm.Cond.code ({ cls := "java/lang/Math", name := "max", desc := "(II)I" } : Jvm.MethodName) jdk_29_method_65_code (2 : Nat) (Option.some Jvm.ClassFile.FieldType.int)).before args0 about1 = true := code_word (m := ⟨10, 1⟩) (meth := k10m1) (c := k10c1) (by decide +kernel) rfl rfl rfl (by decide +kernel)
set_option maxRecDepth 65536 in
theorem w_c12 : (Jvm.Cond.code ({ cls := "com/example/conveyr/conveyr/Names", name := "requireLength", desc := "(Ljava/lang/String;Ljava/lang/String;I)V" } : Jvm.MethodName) prog_10_method_2_code (3 : Nat) (Option.none : Option Jvm.ClassFile.FieldType)).before args0 about1 = true := code_word (m := ⟨11, 1⟩) (meth := k11m1) (c := k11c1) (by decide +kernel) rfl rfl rfl (by decide +kernel)
set_option maxRecDepth 65536 in
theorem w_c13 : (Jvm.Cond.code ({ cls := "java/lang/String", name := "isEmpty", desc := "()Z" } : Jvm.MethodName) jdk_42_method_55_code (1 : Nat) (Option.some Jvm.ClassFile.FieldType.boolean)).before args0 about1 = true := code_word (m := ⟨7, 3⟩) (meth := k7m3) (c := k7c3) (by decide +kernel) rfl rfl rfl (by decide +kernel)
set_option maxRecDepth 65536 in
theorem w_c14 : (Jvm.Cond.code ({ cls := "java/lang/String", name := "length", desc := "()I" } : Jvm.MethodName) jdk_42_method_54_code (1 : Nat) (Option.some Jvm.ClassFile.FieldType.int)).before args0 about1 = true := code_word (m := ⟨7, 2⟩) (meth := k7m2) (c := k7c2) (by decide +kernel) rfl rfl rfl (by decide +kernel)
set_option maxRecDepth 65536 in
theorem w_c15 : (Jvm.Cond.code ({ cls := "java/lang/String", name := "coder", desc := "()B" } : Jvm.MethodName) jdk_42_method_152_code (1 : Nat) (Option.some Jvm.ClassFile.FieldType.byte)).before args0 about1 = true := code_word (m := ⟨7, 7⟩) (meth := k7m7) (c := k7c7) (by decide +kernel) rfl rfl rfl (by decide +kernel)
set_option maxRecDepth 65536 in
theorem w_c16 : (Jvm.Cond.code ({ cls := "java/lang/StringUTF16", name := "toBytes", desc := "([CII)[B" } : Jvm.MethodName) jdk_52_method_14_code (5 : Nat) (Option.some (Jvm.ClassFile.FieldType.array Jvm.ClassFile.FieldType.byte))).before args0 about1 = true := code_word (m := ⟨8, 5⟩) (meth := k8m5) (c := k8c5) (by decide +kernel) rfl rfl rfl (by decide +kernel)
set_option maxRecDepth 65536 in
theorem w_c17 : (Jvm.Cond.code ({ cls := "java/lang/StringUTF16", name := "newBytesFor", desc := "(I)[B" } : Jvm.MethodName) jdk_52_method_2_code (1 : Nat) (Option.some (Jvm.ClassFile.FieldType.array Jvm.ClassFile.FieldType.byte))).before args0 about1 = true := code_word (m := ⟨8, 1⟩) (meth := k8m1) (c := k8c1) (by decide +kernel) rfl rfl rfl (by decide +kernel)
set_option maxRecDepth 65536 in
theorem w_c18 : (Jvm.Cond.code ({ cls := "java/lang/StringUTF16", name := "newBytesLength", desc := "(I)I" } : Jvm.MethodName) jdk_52_method_3_code (1 : Nat) (Option.some Jvm.ClassFile.FieldType.int)).before args0 about1 = true := code_word (m := ⟨8, 2⟩) (meth := k8m2) (c := k8c2) (by decide +kernel) rfl rfl rfl (by decide +kernel)
set_option maxRecDepth 65536 in
theorem w_c19 : (Jvm.Cond.code ({ cls := "java/lang/StringUTF16", name := "putChar", desc := "([BII)V" } : Jvm.MethodName) jdk_52_method_4_code (3 : Nat) (Option.none : Option Jvm.ClassFile.FieldType)).before args0 about1 = true := code_word (m := ⟨8, 3⟩) (meth := k8m3) (c := k8c3) (by decide +kernel) rfl rfl rfl (by decide +kernel)
set_option maxRecDepth 65536 in
theorem w_c20 : (Jvm.Cond.code ({ cls := "java/lang/StringUTF16", name := "getChar", desc := "([BI)C" } : Jvm.MethodName) jdk_52_method_5_code (2 : Nat) (Option.some Jvm.ClassFile.FieldType.char)).before args0 about1 = true := code_word (m := ⟨8, 4⟩) (meth := k8m4) (c := k8c4) (by decide +kernel) rfl rfl rfl (by decide +kernel)
set_option maxRecDepth 65536 in
theorem w_c21 : (Jvm.Cond.code ({ cls := "java/lang/StringUTF16", name := "toBytes", desc := "(C)[B" } : Jvm.MethodName) jdk_52_method_24_code (2 : Nat) (Option.some (Jvm.ClassFile.FieldType.array Jvm.ClassFile.FieldType.byte))).before args0 about1 = true := code_word (m := ⟨8, 9⟩) (meth := k8m9) (c := k8c9) (by decide +kernel) rfl rfl rfl (by decide +kernel)
def codes1 : List Jvm.Cond := [Jvm.Cond.code x code maxLocals ret, Jvm.Cond.code ({ cls := "java/lang/String", name := "<init>", desc := "([C)V" } : Jvm.MethodName) jdk_42_method_3_code (2 : Nat) (Option.none : Option Jvm.ClassFile.FieldType), Jvm.Cond.code ({ cls := "java/lang/String", name := "<init>", desc := "([CIILjava/lang/Void;)V" } : Jvm.MethodName) jdk_42_method_149_code (6 : Nat) (Option.none : Option Jvm.ClassFile.FieldType), Jvm.Cond.code ({ cls := "java/lang/Object", name := "<init>", desc := "()V" } : Jvm.MethodName) object_method_1_code (1 : Nat) (Option.none : Option Jvm.ClassFile.FieldType), Jvm.Cond.code ({ cls := "java/lang/StringUTF16", name := "compress", desc := "([CII)[B" } : Jvm.MethodName) jdk_52_method_16_code (6 : Nat) (Option.some (Jvm.ClassFile.FieldType.array Jvm.ClassFile.FieldType.byte)), Jvm.Cond.code ({ cls := "java/lang/StringUTF16", name := "compress", desc := "([CI[BII)I" } : Jvm.MethodName) jdk_52_method_21_code (7 : Nat) (Option.some Jvm.ClassFile.FieldType.int), Jvm.Cond.code ({ cls := "java/lang/StringUTF16", name := "coderFromArrayLen", desc := "([BI)B" } : Jvm.MethodName) jdk_52_method_15_code (2 : Nat) (Option.some Jvm.ClassFile.FieldType.byte), Jvm.Cond.code ({ cls := "java/lang/String", name := "valueOf", desc := "(C)Ljava/lang/String;" } : Jvm.MethodName) jdk_42_method_139_code (1 : Nat) (Option.some (Jvm.ClassFile.FieldType.object "java/lang/String")), Jvm.Cond.code ({ cls := "java/lang/StringLatin1", name := "canEncode", desc := "(C)Z" } : Jvm.MethodName) jdk_43_method_3_code (1 : Nat) (Option.some Jvm.ClassFile.FieldType.boolean), Jvm.Cond.code ({ cls := "java/lang/StringLatin1", name := "toBytes", desc := "(C)[B" } : Jvm.MethodName) jdk_43_method_46_code (1 : Nat) (Option.some (Jvm.ClassFile.FieldType.array Jvm.ClassFile.FieldType.byte)), Jvm.Cond.code ({ cls := "java/lang/String", name := "<init>", desc := "([BB)V" } : Jvm.MethodName) jdk_42_method_151_code (3 : Nat) (Option.none : Option Jvm.ClassFile.FieldType), Jvm.Cond.code ({ cls := "java/lang/Math", name := "max", desc := "(II)I" } : Jvm.MethodName) jdk_29_method_65_code (2 : Nat) (Option.some Jvm.ClassFile.FieldType.int), Jvm.Cond.code ({ cls := "com/example/conveyr/conveyr/Names", name := "requireLength", desc := "(Ljava/lang/String;Ljava/lang/String;I)V" } : Jvm.MethodName) prog_10_method_2_code (3 : Nat) (Option.none : Option Jvm.ClassFile.FieldType), Jvm.Cond.code ({ cls := "java/lang/String", name := "isEmpty", desc := "()Z" } : Jvm.MethodName) jdk_42_method_55_code (1 : Nat) (Option.some Jvm.ClassFile.FieldType.boolean), Jvm.Cond.code ({ cls := "java/lang/String", name := "length", desc := "()I" } : Jvm.MethodName) jdk_42_method_54_code (1 : Nat) (Option.some Jvm.ClassFile.FieldType.int), Jvm.Cond.code ({ cls := "java/lang/String", name := "coder", desc := "()B" } : Jvm.MethodName) jdk_42_method_152_code (1 : Nat) (Option.some Jvm.ClassFile.FieldType.byte), Jvm.Cond.code ({ cls := "java/lang/StringUTF16", name := "toBytes", desc := "([CII)[B" } : Jvm.MethodName) jdk_52_method_14_code (5 : Nat) (Option.some (Jvm.ClassFile.FieldType.array Jvm.ClassFile.FieldType.byte)), Jvm.Cond.code ({ cls := "java/lang/StringUTF16", name := "newBytesFor", desc := "(I)[B" } : Jvm.MethodName) jdk_52_method_2_code (1 : Nat) (Option.some (Jvm.ClassFile.FieldType.array Jvm.ClassFile.FieldType.byte)), Jvm.Cond.code ({ cls := "java/lang/StringUTF16", name := "newBytesLength", desc := "(I)I" } : Jvm.MethodName) jdk_52_method_3_code (1 : Nat) (Option.some Jvm.ClassFile.FieldType.int), Jvm.Cond.code ({ cls := "java/lang/StringUTF16", name := "putChar", desc := "([BII)V" } : Jvm.MethodName) jdk_52_method_4_code (3 : Nat) (Option.none : Option Jvm.ClassFile.FieldType), Jvm.Cond.code ({ cls := "java/lang/StringUTF16", name := "getChar", desc := "([BI)C" } : Jvm.MethodName) jdk_52_method_5_code (2 : Nat) (Option.some Jvm.ClassFile.FieldType.char), Jvm.Cond.code ({ cls := "java/lang/StringUTF16", name := "toBytes", desc := "(C)[B" } : Jvm.MethodName) jdk_52_method_24_code (2 : Nat) (Option.some (Jvm.ClassFile.FieldType.array Jvm.ClassFile.FieldType.byte))]
set_option maxRecDepth 65536 in
theorem codes_eq : words1.filter isCode = codes1 := rfl
theorem w_codes : ∀ c ∈ words1.filter isCode, c.before args0 about1 = true := by
  rw [codes_eq]
  intro c hc
  simp only [codes1, List.mem_cons, List.not_mem_nil, or_false] at hc
  rcases hc with rfl | rfl | rfl | rfl | rfl | rfl | rfl | rfl | rfl | rfl | rfl | rfl | rfl | rfl | rfl | rfl | rfl | rfl | rfl | rfl | rfl | rfl
  · exact w_c0
  · exact w_c1
  · exact w_c2
  · exact w_c3
  · exact w_c4
  · exact w_c5
  · exact w_c6
  · exact w_c7
  · exact w_c8
  · exact w_c9
  · exact w_c10
  · exact w_c11
  · exact w_c12
  · exact w_c13
  · exact w_c14
  · exact w_c15
  · exact w_c16
  · exact w_c17
  · exact w_c18
  · exact w_c19
  · exact w_c20
  · exact w_c21
set_option maxRecDepth 65536 in
theorem w_t1 : (words1.take 24).all (fun c => isCode c || c.before args0 about1) = true := by decide +kernel
set_option maxRecDepth 65536 in
theorem w_t2 : ((words1.drop 24).take 24).all (fun c => isCode c || c.before args0 about1) = true := by decide +kernel
set_option maxRecDepth 65536 in
theorem w_t3 : (((words1.drop 24).drop 24).take 24).all (fun c => isCode c || c.before args0 about1) = true := by decide +kernel
set_option maxRecDepth 65536 in
theorem w_t4 : (((words1.drop 24).drop 24).drop 24).all (fun c => isCode c || c.before args0 about1) = true := by decide +kernel
theorem w_tables : (allAtoms (Jvm.Cond.code x code maxLocals ret :: tables_1)).before args0 about1 = true := by
  rw [allAtoms_all]
  show words1.all (fun c => c.before args0 about1) = true
  refine all_split ?_ w_codes
  rw [← List.take_append_drop 24 words1, List.all_append, w_t1, ← List.take_append_drop 24 (words1.drop 24), List.all_append, w_t2, ← List.take_append_drop 24 ((words1.drop 24).drop 24), List.all_append, w_t3, w_t4]
  rfl
set_option maxRecDepth 65536 in
theorem w_rest : rest_1_c.before args0 about1 = true := by decide +kernel
set_option maxRecDepth 65536 in
theorem w_case : (Jvm.Cond.and given_1 narrow_1).before args0 about1 = true := by decide +kernel
theorem w_applies : (headSpec (Jvm.Cond.code x code maxLocals ret :: tables_1) room_1).applies x e0.platform about1 = true :=
  (Spec.applies_iff w_frames).mpr ⟨w_running, w_runnable, w_alone, w_named, w_hears, w_ripe, w_room, w_tables⟩
theorem atStart : AtStart classFile x code maxLocals ret World_1 tables_1 room_1 Calls_1 rest_1 Pre_1 launch0 p0 e0 about1 theMethod args0 below0 :=
  ⟨lists_1, trivial, launch0.admits_env _ _ _, launch0.least_env, fairChoices_fair.cas, fairChoices_fair.clock, w_frames, w_args, w_heap, w_applies, trivial, w_rest, w_case⟩
end start1
theorem witness_1 : WitnessClaimed_1 := ⟨start1.p0, start1.e0, start1.about1, start1.theMethod, start1.args0, start1.below0, start1.atStart⟩
end Jvm.Pilot.@@N@@
