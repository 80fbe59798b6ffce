import JvmDerived
import JvmDerived.Pilot.@@N@@Statement
import JvmDerived.Pilot.@@N@@Code
set_option linter.unusedVariables false
set_option linter.unusedSimpArgs false
namespace Jvm.Pilot.@@N@@
open Jvm Jvm.ClassFile Sem Op Lib Jvm.Free Jvm.Stand Jvm.LawKit Jvm.RoadKit Bundle Jvm.Pilot.@@N@@.Jvm.D
/-! A. where a walk stands: W; what a body owes: Gl; a body's contract: Ctr -/
abbrev Cx := Program × Env × State × MethodId × Array Value × List Frame × Method × Code × State
def W (l : Launch) (Z : State) (n0 : Nat) (y : MethodName) (bytes : ByteArray) (maxl : Nat) (ret : Option FieldType) (R : Room) (G : Cx) (h : Heap) (pc : Nat) (Ls : Array Slot) (St : List Value) (cells slots : Nat) : Prop :=
  match G with
  | (p, e, s, m, args, below, meth, c, st) =>
    p.tables.exec = Jvm.exec ∧ Z.Warmed39 s.vm ∧ c.code = bytes ∧ c.maxLocals = maxl ∧ s.vm.findClass y.cls = some m.cls ∧ meth.name = y.name ∧ meth.sig.returnType = ret ∧ meth.locks = false ∧ n0 ≤ s.heap.size ∧
    ∃ (T : State) (locs : List Loc), Stand p l e R s m args below meth c T locs cells slots ∧ Fr n0 locs ∧ T.heap = h ∧ ∀ t, Steps p.tables e below (T.setTop (mkF m pc Ls St)) t → Steps p.tables e below st t
def Gl (R : Room) (n0 : Nat) (G : Cx) (Q : Option Value → Heap → Prop) : Prop :=
  match G with
  | (p, e, s, m, args, below, meth, c, st) => ∃ s₂ o, Steps p.tables e below st s₂ ∧ s₂.status = .running ∧ Ended s₂ below o ∧ ∃ v L, o = .returned v ∧ (Fr n0 L ∧ Q v s₂.heap) ∧ FrameEnd s o s₂ L R.cells R.slots
def Ctr (l : Launch) (Z : State) (n0 : Nat) (y : MethodName) (bytes : ByteArray) (maxl : Nat) (ret : Option FieldType) (ws : List Jvm.Cond) (R : Room) (as : Array Value) (h0 : Heap) (Q : Option Value → Heap → Prop) : Prop :=
  MetFree l y (head1 (Jvm.Cond.code y bytes maxl ret :: ws) R) (fun a U => a = as ∧ Z.Warmed39 U.vm ∧ U.heap = h0) (fun _ _ _ _ _ => True) (fun _ U o U' => ∃ v L, o = .returned v ∧ (Fr n0 L ∧ Q v U'.heap) ∧ FrameEnd U o U' L R.cells R.slots)
def QI (P : Int32 → Heap → Prop) (v : Option Value) (h : Heap) : Prop := ∃ r, v = some (.int r) ∧ P r h
def QJ (P : Int64 → Heap → Prop) (v : Option Value) (h : Heap) : Prop := ∃ r, v = some (.long r) ∧ P r h
def QA (P : Addr → Heap → Prop) (v : Option Value) (h : Heap) : Prop := ∃ r, v = some (.ref r) ∧ P r h
def QV (P : Heap → Prop) (v : Option Value) (h : Heap) : Prop := v = none ∧ P h
theorem ilt {x y : Int32} {a b : Int} (ha : x.toInt = a) (hb : y.toInt = b) (h : a < b) : x < y := by subst ha hb; exact Int32.lt_iff_toInt_lt.mpr h
theorem inlt {x y : Int32} {a b : Int} (ha : x.toInt = a) (hb : y.toInt = b) (h : ¬ a < b) : ¬ x < y := by subst ha hb; exact fun q => h (Int32.lt_iff_toInt_lt.mp q)
theorem igt {x y : Int32} {a b : Int} (ha : x.toInt = a) (hb : y.toInt = b) (h : b < a) : y < x := ilt hb ha h
theorem ingt {x y : Int32} {a b : Int} (ha : x.toInt = a) (hb : y.toInt = b) (h : ¬ b < a) : ¬ y < x := inlt hb ha h
theorem ieq {x y : Int32} {a b : Int} (ha : x.toInt = a) (hb : y.toInt = b) (h : a = b) : x = y := by subst ha hb; exact Int32.toInt_inj.mp h
theorem ine {x y : Int32} {a b : Int} (ha : x.toInt = a) (hb : y.toInt = b) (h : ¬ a = b) : ¬ x = y := by subst ha hb; exact fun q => h (Int32.toInt_inj.mpr q)
theorem llt {x y : Int64} {a b : Int} (ha : x.toInt = a) (hb : y.toInt = b) (h : a < b) : lcmpW x y < 0 := by subst ha hb; exact (lw_lt _ _).mpr (Int64.lt_iff_toInt_lt.mpr h)
theorem lnlt {x y : Int64} {a b : Int} (ha : x.toInt = a) (hb : y.toInt = b) (h : ¬ a < b) : ¬ lcmpW x y < 0 := by subst ha hb; exact fun q => h (Int64.lt_iff_toInt_lt.mp ((lw_lt _ _).mp q))
theorem lgt {x y : Int64} {a b : Int} (ha : x.toInt = a) (hb : y.toInt = b) (h : b < a) : 0 < lcmpW x y := by subst ha hb; exact (lw_gt _ _).mpr (Int64.lt_iff_toInt_lt.mpr h)
theorem lngt {x y : Int64} {a b : Int} (ha : x.toInt = a) (hb : y.toInt = b) (h : ¬ b < a) : ¬ 0 < lcmpW x y := by subst ha hb; exact fun q => h (Int64.lt_iff_toInt_lt.mp ((lw_gt _ _).mp q))
theorem leq {x y : Int64} {a b : Int} (ha : x.toInt = a) (hb : y.toInt = b) (h : a = b) : lcmpW x y = 0 := by subst ha hb; exact (lw_eq _ _).mpr (Int64.toInt_inj.mp h)
theorem lne {x y : Int64} {a b : Int} (ha : x.toInt = a) (hb : y.toInt = b) (h : ¬ a = b) : ¬ lcmpW x y = 0 := by subst ha hb; exact fun q => h (Int64.toInt_inj.mpr ((lw_eq _ _).mp q))
section Walk
variable {l : Launch} {Z : State} {n0 : Nat} {y : MethodName} {bytes : ByteArray} {maxl : Nat} {ret : Option FieldType} {R : Room} {G : Cx} {h : Heap} {pc pc' : Nat} {Ls : Array Slot} {St : List Value} {C S C' S' : Nat} {Q : Option Value → Heap → Prop} {a0 : Array Value}
theorem W.mk {p : Program} {e : Env} {s : State} {m : MethodId} {args : Array Value} {below : List Frame} {meth : Method} {c : Code} {st : State} {T : State} {locs : List Loc} (hx : p.tables.exec = Jvm.exec) (hZ : Z.Warmed39 s.vm) (hby : c.code = bytes) (hml : c.maxLocals = maxl) (hown : s.vm.findClass y.cls = some m.cls) (hnm : meth.name = y.name) (hrt : meth.sig.returnType = ret) (hlk : meth.locks = false) (hn0 : n0 ≤ s.heap.size)
    (X : Stand p l e R s m args below meth c T locs C S) (N : Fr n0 locs) (eT : T.heap = h) (k : ∀ t, Steps p.tables e below (T.setTop (mkF m pc Ls St)) t → Steps p.tables e below st t) : W l Z n0 y bytes maxl ret R (p, e, s, m, args, below, meth, c, st) h pc Ls St C S :=
  show _ ∧ _ from ⟨hx, hZ, hby, hml, hown, hnm, hrt, hlk, hn0, T, locs, X, N, eT, k⟩
theorem ctr_of {ws : List Jvm.Cond} {as : Array Value} (hpn : plainFor y = true) (hn0 : n0 ≤ h.size) (hef : ∀ m, entryFrame m as maxl = mkF m 0 Ls []) (body : ∀ G, W l Z n0 y bytes maxl ret R G h 0 Ls [] 0 0 → Gl R n0 G Q) : Ctr l Z n0 y bytes maxl ret ws R as h Q := by
  refine MetFree.of_bodySF hpn hisR ?_
  intro p e s m args below meth c s₁ Bd hml0 hP hK
  obtain ⟨rfl, hZ, hh⟩ := hP
  have e0 : s₁.heap = h := by rw [← hh, Bd.state]; rfl
  exact body (p, e, s, m, args, below, meth, c, s₁.setTop (entryFrame m args maxl)) (W.mk Bd.exec hZ Bd.bytes hml0 (findClass_of_methodNamed Bd.named) (name_of_methodNamed Bd.named Bd.method).1 Bd.returns (BodyLoose.notSynchronized Bd) (hh ▸ hn0) (Stand.of_body Bd) (Fr.nil n0) e0 (fun t k => castTop (hef m) k))
theorem W.size (A : W l Z n0 y bytes maxl ret R G h pc Ls St C S) : n0 ≤ h.size := by
  obtain ⟨p, e, s, m, args, below, meth, c, st⟩ := G
  obtain ⟨hx, hZ, hby, hml, hown, hnm, hrt, hlk, hn0, T, locs, X, N, eT, k⟩ := A
  exact Nat.le_trans hn0 (by rw [← eT]; exact X.same.2.1)
theorem W.more (A : W l Z n0 y bytes maxl ret R G h pc Ls St C S) (hC : C ≤ C') (hS : S ≤ S') : W l Z n0 y bytes maxl ret R G h pc Ls St C' S' := by
  obtain ⟨p, e, s, m, args, below, meth, c, st⟩ := G
  obtain ⟨hx, hZ, hby, hml, hown, hnm, hrt, hlk, hn0, T, locs, X, N, eT, k⟩ := A
  exact W.mk hx hZ hby hml hown hnm hrt hlk hn0 (X.more hC hS) N eT k
theorem W.cast {Ls' : Array Slot} {St' : List Value} (A : W l Z n0 y bytes maxl ret R G h pc Ls St C S) (hp : pc = pc') (hL : Ls = Ls') (hSt : St = St') : W l Z n0 y bytes maxl ret R G h pc' Ls' St' C S := by subst hp hL hSt; exact A
/-- a plain step -/
theorem W.step (A : W l Z n0 y bytes maxl ret R G h pc Ls St C S) {Ls' : Array Slot} {St' : List Value}
    (f : ∀ {p : Program} {e : Env} {s : State} {m : MethodId} {args : Array Value} {below : List Frame} {meth : Method} {c : Code} {T t : State} {locs : List Loc}, Stand p l e R s m args below meth c T locs C S → p.tables.exec = Jvm.exec → Z.Warmed39 s.vm → s.vm.findClass y.cls = some m.cls → c.code = bytes → T.heap = h → Steps p.tables e below (T.setTop (mkF m pc' Ls' St')) t → Steps p.tables e below (T.setTop (mkF m pc Ls St)) t) : W l Z n0 y bytes maxl ret R G h pc' Ls' St' C S := by
  obtain ⟨p, e, s, m, args, below, meth, c, st⟩ := G
  obtain ⟨hx, hZ, hby, hml, hown, hnm, hrt, hlk, hn0, T, locs, X, N, eT, k⟩ := A
  exact W.mk hx hZ hby hml hown hnm hrt hlk hn0 X N eT (fun t q => k t (f X hx hZ hown hby eT q))
/-! B. plain instructions -/
theorem W.iloadN (A : W l Z n0 y bytes maxl ret R G h pc Ls St C S) {k : Fin 4} {v : Int32} (hd : decode bytes pc = .ok (.iload_n k, 1)) (hl : Ls[k.val]? = some (.val (.int v))) (hp : pc + 1 = pc') : W l Z n0 y bytes maxl ret R G h pc' Ls (.int v :: St) C S := by
  subst hp; exact A.step fun X hx _ _ q _ r => XS.iloadN X.here hx rfl (hb q hd) hl r
theorem W.iload (A : W l Z n0 y bytes maxl ret R G h pc Ls St C S) {k : Nat} {v : Int32} (hd : decode bytes pc = .ok (.iload k, 2)) (hl : Ls[k]? = some (.val (.int v))) (hp : pc + 2 = pc') : W l Z n0 y bytes maxl ret R G h pc' Ls (.int v :: St) C S := by
  subst hp; exact A.step fun X hx _ _ q _ r => XS.iload X.here hx rfl (hb q hd) hl r
theorem W.lloadN (A : W l Z n0 y bytes maxl ret R G h pc Ls St C S) {k : Fin 4} {v : Int64} (hd : decode bytes pc = .ok (.lload_n k, 1)) (hl : Ls[k.val]? = some (.val (.long v))) (hp : pc + 1 = pc') : W l Z n0 y bytes maxl ret R G h pc' Ls (.long v :: St) C S := by
  subst hp; exact A.step fun X hx _ _ q _ r => XS.lloadN X.here hx rfl (hb q hd) hl r
theorem W.lload (A : W l Z n0 y bytes maxl ret R G h pc Ls St C S) {k : Nat} {v : Int64} (hd : decode bytes pc = .ok (.lload k, 2)) (hl : Ls[k]? = some (.val (.long v))) (hp : pc + 2 = pc') : W l Z n0 y bytes maxl ret R G h pc' Ls (.long v :: St) C S := by
  subst hp; exact A.step fun X hx _ _ q _ r => XS.lload X.here hx rfl (hb q hd) hl r
theorem W.aloadN (A : W l Z n0 y bytes maxl ret R G h pc Ls St C S) {k : Fin 4} {v : Value} (hd : decode bytes pc = .ok (.aload_n k, 1)) (hl : Ls[k.val]? = some (.val v)) (hv : v.isRef = true) (hp : pc + 1 = pc') : W l Z n0 y bytes maxl ret R G h pc' Ls (v :: St) C S := by
  subst hp; exact A.step fun X hx _ _ q _ r => XS.aloadN X.here hx rfl (hb q hd) hl hv r
theorem W.aload (A : W l Z n0 y bytes maxl ret R G h pc Ls St C S) {k : Nat} {v : Value} (hd : decode bytes pc = .ok (.aload k, 2)) (hl : Ls[k]? = some (.val v)) (hv : v.isRef = true) (hp : pc + 2 = pc') : W l Z n0 y bytes maxl ret R G h pc' Ls (v :: St) C S := by
  subst hp; exact A.step fun X hx _ _ q _ r => XS.aload X.here hx rfl (hb q hd) hl hv r
theorem W.istoreN {v : Int32} (A : W l Z n0 y bytes maxl ret R G h pc Ls (.int v :: St) C S) {k : Fin 4} {Ls' : Array Slot} (hd : decode bytes pc = .ok (.istore_n k, 1)) (hl : storeLocals Ls k.val (.int v) = some Ls') (hp : pc + 1 = pc') : W l Z n0 y bytes maxl ret R G h pc' Ls' St C S := by
  subst hp; exact A.step fun X hx _ _ q _ r => XS.istoreN X.here hx rfl (hb q hd) rfl hl r
theorem W.istore {v : Int32} (A : W l Z n0 y bytes maxl ret R G h pc Ls (.int v :: St) C S) {k : Nat} {Ls' : Array Slot} (hd : decode bytes pc = .ok (.istore k, 2)) (hl : storeLocals Ls k (.int v) = some Ls') (hp : pc + 2 = pc') : W l Z n0 y bytes maxl ret R G h pc' Ls' St C S := by
  subst hp; exact A.step fun X hx _ _ q _ r => XS.istore X.here hx rfl (hb q hd) rfl hl r
theorem W.lstoreN {v : Int64} (A : W l Z n0 y bytes maxl ret R G h pc Ls (.long v :: St) C S) {k : Fin 4} {Ls' : Array Slot} (hd : decode bytes pc = .ok (.lstore_n k, 1)) (hl : storeLocals Ls k.val (.long v) = some Ls') (hp : pc + 1 = pc') : W l Z n0 y bytes maxl ret R G h pc' Ls' St C S := by
  subst hp; exact A.step fun X hx _ _ q _ r => XS.lstoreN X.here hx rfl (hb q hd) rfl hl r
theorem W.lstore {v : Int64} (A : W l Z n0 y bytes maxl ret R G h pc Ls (.long v :: St) C S) {k : Nat} {Ls' : Array Slot} (hd : decode bytes pc = .ok (.lstore k, 2)) (hl : storeLocals Ls k (.long v) = some Ls') (hp : pc + 2 = pc') : W l Z n0 y bytes maxl ret R G h pc' Ls' St C S := by
  subst hp; exact A.step fun X hx _ _ q _ r => XS.lstore X.here hx rfl (hb q hd) rfl hl r
theorem W.astoreN {v : Value} (A : W l Z n0 y bytes maxl ret R G h pc Ls (v :: St) C S) {k : Fin 4} {Ls' : Array Slot} (hd : decode bytes pc = .ok (.astore_n k, 1)) (hv : v.isRef = true) (hl : storeLocals Ls k.val v = some Ls') (hp : pc + 1 = pc') : W l Z n0 y bytes maxl ret R G h pc' Ls' St C S := by
  subst hp; exact A.step fun X hx _ _ q _ r => XS.astoreN X.here hx rfl (hb q hd) rfl hv hl r
theorem W.astore {v : Value} (A : W l Z n0 y bytes maxl ret R G h pc Ls (v :: St) C S) {k : Nat} {Ls' : Array Slot} (hd : decode bytes pc = .ok (.astore k, 2)) (hv : v.isRef = true) (hl : storeLocals Ls k v = some Ls') (hp : pc + 2 = pc') : W l Z n0 y bytes maxl ret R G h pc' Ls' St C S := by
  subst hp; exact A.step fun X hx _ _ q _ r => XS.astore X.here hx rfl (hb q hd) rfl hv hl r
theorem W.iconst (A : W l Z n0 y bytes maxl ret R G h pc Ls St C S) {i : Int} {z : Int32} (hd : decode bytes pc = .ok (.iconst i, 1)) (hz : Int32.ofInt i = z) (hp : pc + 1 = pc') : W l Z n0 y bytes maxl ret R G h pc' Ls (.int z :: St) C S := by
  subst hp hz; exact A.step fun X hx _ _ q _ r => XS.iconst X.here hx rfl (hb q hd) r
theorem W.bipush (A : W l Z n0 y bytes maxl ret R G h pc Ls St C S) {i : Int} {z : Int32} (hd : decode bytes pc = .ok (.bipush i, 2)) (hz : (Int8.ofInt i).toInt32 = z) (hp : pc + 2 = pc') : W l Z n0 y bytes maxl ret R G h pc' Ls (.int z :: St) C S := by
  subst hp hz; exact A.step fun X hx _ _ q _ r => XS.bipush X.here hx rfl (hb q hd) r
theorem W.sipush (A : W l Z n0 y bytes maxl ret R G h pc Ls St C S) {i : Int} {z : Int32} (hd : decode bytes pc = .ok (.sipush i, 3)) (hz : (Int16.ofInt i).toInt32 = z) (hp : pc + 3 = pc') : W l Z n0 y bytes maxl ret R G h pc' Ls (.int z :: St) C S := by
  subst hp hz; exact A.step fun X hx _ _ q _ r => XS.sipush X.here hx rfl (hb q hd) r
theorem W.lconst (A : W l Z n0 y bytes maxl ret R G h pc Ls St C S) {k : Fin 2} {z : Int64} (hd : decode bytes pc = .ok (.lconst k, 1)) (hz : Int64.ofNat k.val = z) (hp : pc + 1 = pc') : W l Z n0 y bytes maxl ret R G h pc' Ls (.long z :: St) C S := by
  subst hp hz; exact A.step fun X hx _ _ q _ r => XS.lconst X.here hx rfl (hb q hd) r
theorem W.aconstNull (A : W l Z n0 y bytes maxl ret R G h pc Ls St C S) (hd : decode bytes pc = .ok (.aconst_null, 1)) (hp : pc + 1 = pc') : W l Z n0 y bytes maxl ret R G h pc' Ls (.null :: St) C S := by
  subst hp; exact A.step fun X hx _ _ q _ r => XS.aconstNull X.here hx rfl (hb q hd) r
theorem W.ldc (A : W l Z n0 y bytes maxl ret R G h pc Ls St C S) {i : Nat} {z : Int32} (hd : decode bytes pc = .ok (.ldc i, 2)) (w : (Jvm.Cond.constant y.cls i z).before a0 Z = true) (hp : pc + 2 = pc') : W l Z n0 y bytes maxl ret R G h pc' Ls (.int z :: St) C S := by
  subst hp; exact A.step fun X hx hZ hown q _ r => X.ldcInt hx hown (mvT hZ w) (g := mkF _ pc Ls St) rfl (hb q hd) _ r
theorem W.ldcW (A : W l Z n0 y bytes maxl ret R G h pc Ls St C S) {i : Nat} {z : Int32} (hd : decode bytes pc = .ok (.ldc_w i, 3)) (w : (Jvm.Cond.constant y.cls i z).before a0 Z = true) (hp : pc + 3 = pc') : W l Z n0 y bytes maxl ret R G h pc' Ls (.int z :: St) C S := by
  subst hp; exact A.step fun X hx hZ hown q _ r => X.ldcwInt hx hown (mvT hZ w) (g := mkF _ pc Ls St) rfl (hb q hd) _ r
theorem W.ldc2 (A : W l Z n0 y bytes maxl ret R G h pc Ls St C S) {i : Nat} {z : Int64} (hd : decode bytes pc = .ok (.ldc2_w i, 3)) (w : (Jvm.Cond.constantLong y.cls i z).before a0 Z = true) (hp : pc + 3 = pc') : W l Z n0 y bytes maxl ret R G h pc' Ls (.long z :: St) C S := by
  subst hp; exact A.step fun X hx hZ hown q _ r => X.ldc2Long hx hown (mvT hZ w) (g := mkF _ pc Ls St) rfl (hb q hd) _ r
theorem W.iinc (A : W l Z n0 y bytes maxl ret R G h pc Ls St C S) {k : Nat} {i : Int} {v z : Int32} {Ls' : Array Slot} (hd : decode bytes pc = .ok (.iinc k i, 3)) (hl : Ls[k]? = some (.val (.int v))) (hz : v + Int32.ofInt i = z) (hl' : storeLocals Ls k (.int z) = some Ls') (hp : pc + 3 = pc') : W l Z n0 y bytes maxl ret R G h pc' Ls' St C S := by
  subst hp hz; exact A.step fun X hx _ _ q _ r => XS.iinc X.here hx rfl (hb q hd) hl hl' r
theorem W.iadd {x z : Int32} (A : W l Z n0 y bytes maxl ret R G h pc Ls (.int z :: .int x :: St) C S) (hd : decode bytes pc = .ok (.iadd, 1)) (hp : pc + 1 = pc') : W l Z n0 y bytes maxl ret R G h pc' Ls (.int (x + z) :: St) C S := by
  subst hp; exact A.step fun X hx _ _ q _ r => XS.iadd X.here hx rfl (hb q hd) rfl r
theorem W.ladd {x z : Int64} (A : W l Z n0 y bytes maxl ret R G h pc Ls (.long z :: .long x :: St) C S) (hd : decode bytes pc = .ok (.ladd, 1)) (hp : pc + 1 = pc') : W l Z n0 y bytes maxl ret R G h pc' Ls (.long (x + z) :: St) C S := by
  subst hp; exact A.step fun X hx _ _ q _ r => XS.ladd X.here hx rfl (hb q hd) rfl r
theorem W.isub {x z : Int32} (A : W l Z n0 y bytes maxl ret R G h pc Ls (.int z :: .int x :: St) C S) (hd : decode bytes pc = .ok (.isub, 1)) (hp : pc + 1 = pc') : W l Z n0 y bytes maxl ret R G h pc' Ls (.int (x - z) :: St) C S := by
  subst hp; exact A.step fun X hx _ _ q _ r => XS.isub X.here hx rfl (hb q hd) rfl r
theorem W.lsub {x z : Int64} (A : W l Z n0 y bytes maxl ret R G h pc Ls (.long z :: .long x :: St) C S) (hd : decode bytes pc = .ok (.lsub, 1)) (hp : pc + 1 = pc') : W l Z n0 y bytes maxl ret R G h pc' Ls (.long (x - z) :: St) C S := by
  subst hp; exact A.step fun X hx _ _ q _ r => XS.lsub X.here hx rfl (hb q hd) rfl r
theorem W.imul {x z : Int32} (A : W l Z n0 y bytes maxl ret R G h pc Ls (.int z :: .int x :: St) C S) (hd : decode bytes pc = .ok (.imul, 1)) (hp : pc + 1 = pc') : W l Z n0 y bytes maxl ret R G h pc' Ls (.int (x * z) :: St) C S := by
  subst hp; exact A.step fun X hx _ _ q _ r => XS.imul X.here hx rfl (hb q hd) rfl r
theorem W.lmul {x z : Int64} (A : W l Z n0 y bytes maxl ret R G h pc Ls (.long z :: .long x :: St) C S) (hd : decode bytes pc = .ok (.lmul, 1)) (hp : pc + 1 = pc') : W l Z n0 y bytes maxl ret R G h pc' Ls (.long (x * z) :: St) C S := by
  subst hp; exact A.step fun X hx _ _ q _ r => XS.lmul X.here hx rfl (hb q hd) rfl r
theorem W.iand {x z : Int32} (A : W l Z n0 y bytes maxl ret R G h pc Ls (.int z :: .int x :: St) C S) (hd : decode bytes pc = .ok (.iand, 1)) (hp : pc + 1 = pc') : W l Z n0 y bytes maxl ret R G h pc' Ls (.int (x &&& z) :: St) C S := by
  subst hp; exact A.step fun X hx _ _ q _ r => XS.iand X.here hx rfl (hb q hd) rfl r
theorem W.land {x z : Int64} (A : W l Z n0 y bytes maxl ret R G h pc Ls (.long z :: .long x :: St) C S) (hd : decode bytes pc = .ok (.land, 1)) (hp : pc + 1 = pc') : W l Z n0 y bytes maxl ret R G h pc' Ls (.long (x &&& z) :: St) C S := by
  subst hp; exact A.step fun X hx _ _ q _ r => XS.land X.here hx rfl (hb q hd) rfl r
theorem W.ior {x z : Int32} (A : W l Z n0 y bytes maxl ret R G h pc Ls (.int z :: .int x :: St) C S) (hd : decode bytes pc = .ok (.ior, 1)) (hp : pc + 1 = pc') : W l Z n0 y bytes maxl ret R G h pc' Ls (.int (x ||| z) :: St) C S := by
  subst hp; exact A.step fun X hx _ _ q _ r => XS.ior X.here hx rfl (hb q hd) rfl r
theorem W.lor {x z : Int64} (A : W l Z n0 y bytes maxl ret R G h pc Ls (.long z :: .long x :: St) C S) (hd : decode bytes pc = .ok (.lor, 1)) (hp : pc + 1 = pc') : W l Z n0 y bytes maxl ret R G h pc' Ls (.long (x ||| z) :: St) C S := by
  subst hp; exact A.step fun X hx _ _ q _ r => XS.lor X.here hx rfl (hb q hd) rfl r
theorem W.ixor {x z : Int32} (A : W l Z n0 y bytes maxl ret R G h pc Ls (.int z :: .int x :: St) C S) (hd : decode bytes pc = .ok (.ixor, 1)) (hp : pc + 1 = pc') : W l Z n0 y bytes maxl ret R G h pc' Ls (.int (x ^^^ z) :: St) C S := by
  subst hp; exact A.step fun X hx _ _ q _ r => XS.ixor X.here hx rfl (hb q hd) rfl r
theorem W.lxor {x z : Int64} (A : W l Z n0 y bytes maxl ret R G h pc Ls (.long z :: .long x :: St) C S) (hd : decode bytes pc = .ok (.lxor, 1)) (hp : pc + 1 = pc') : W l Z n0 y bytes maxl ret R G h pc' Ls (.long (x ^^^ z) :: St) C S := by
  subst hp; exact A.step fun X hx _ _ q _ r => XS.lxor X.here hx rfl (hb q hd) rfl r
theorem W.ineg {x : Int32} (A : W l Z n0 y bytes maxl ret R G h pc Ls (.int x :: St) C S) (hd : decode bytes pc = .ok (.ineg, 1)) (hp : pc + 1 = pc') : W l Z n0 y bytes maxl ret R G h pc' Ls (.int (-x) :: St) C S := by
  subst hp; exact A.step fun X hx _ _ q _ r => XS.ineg X.here hx rfl (hb q hd) rfl r
theorem W.lneg {x : Int64} (A : W l Z n0 y bytes maxl ret R G h pc Ls (.long x :: St) C S) (hd : decode bytes pc = .ok (.lneg, 1)) (hp : pc + 1 = pc') : W l Z n0 y bytes maxl ret R G h pc' Ls (.long (-x) :: St) C S := by
  subst hp; exact A.step fun X hx _ _ q _ r => XS.lneg X.here hx rfl (hb q hd) rfl r
theorem W.ishl {x z : Int32} (A : W l Z n0 y bytes maxl ret R G h pc Ls (.int z :: .int x :: St) C S) (hd : decode bytes pc = .ok (.ishl, 1)) (hp : pc + 1 = pc') : W l Z n0 y bytes maxl ret R G h pc' Ls (.int (x <<< (z &&& 31)) :: St) C S := by
  subst hp; exact A.step fun X hx _ _ q _ r => XS.ishl X.here hx rfl (hb q hd) rfl r
theorem W.ishr {x z : Int32} (A : W l Z n0 y bytes maxl ret R G h pc Ls (.int z :: .int x :: St) C S) (hd : decode bytes pc = .ok (.ishr, 1)) (hp : pc + 1 = pc') : W l Z n0 y bytes maxl ret R G h pc' Ls (.int (x >>> (z &&& 31)) :: St) C S := by
  subst hp; exact A.step fun X hx _ _ q _ r => XS.ishr X.here hx rfl (hb q hd) rfl r
theorem W.iushr {x z : Int32} (A : W l Z n0 y bytes maxl ret R G h pc Ls (.int z :: .int x :: St) C S) (hd : decode bytes pc = .ok (.iushr, 1)) (hp : pc + 1 = pc') : W l Z n0 y bytes maxl ret R G h pc' Ls (.int ((x.toUInt32 >>> (z &&& 31).toUInt32).toInt32) :: St) C S := by
  subst hp; exact A.step fun X hx _ _ q _ r => XS.iushr X.here hx rfl (hb q hd) rfl r
theorem W.lshl {x : Int64} {z : Int32} (A : W l Z n0 y bytes maxl ret R G h pc Ls (.int z :: .long x :: St) C S) (hd : decode bytes pc = .ok (.lshl, 1)) (hp : pc + 1 = pc') : W l Z n0 y bytes maxl ret R G h pc' Ls (.long (x <<< (z &&& 0x3f).toInt64) :: St) C S := by
  subst hp; exact A.step fun X hx _ _ q _ r => XS.lshl X.here hx rfl (hb q hd) rfl r
theorem W.lshr {x : Int64} {z : Int32} (A : W l Z n0 y bytes maxl ret R G h pc Ls (.int z :: .long x :: St) C S) (hd : decode bytes pc = .ok (.lshr, 1)) (hp : pc + 1 = pc') : W l Z n0 y bytes maxl ret R G h pc' Ls (.long (x >>> (z &&& 0x3f).toInt64) :: St) C S := by
  subst hp; exact A.step fun X hx _ _ q _ r => XS.lshr X.here hx rfl (hb q hd) rfl r
theorem W.lushr {x : Int64} {z : Int32} (A : W l Z n0 y bytes maxl ret R G h pc Ls (.int z :: .long x :: St) C S) (hd : decode bytes pc = .ok (.lushr, 1)) (hp : pc + 1 = pc') : W l Z n0 y bytes maxl ret R G h pc' Ls (.long ((x.toUInt64 >>> (z &&& 0x3f).toInt64.toUInt64).toInt64) :: St) C S := by
  subst hp; exact A.step fun X hx _ _ q _ r => XS.lushr X.here hx rfl (hb q hd) rfl r
theorem W.i2l {x : Int32} (A : W l Z n0 y bytes maxl ret R G h pc Ls (.int x :: St) C S) (hd : decode bytes pc = .ok (.i2l, 1)) (hp : pc + 1 = pc') : W l Z n0 y bytes maxl ret R G h pc' Ls (.long x.toInt64 :: St) C S := by
  subst hp; exact A.step fun X hx _ _ q _ r => XS.i2l X.here hx rfl (hb q hd) rfl r
theorem W.l2i {x : Int64} (A : W l Z n0 y bytes maxl ret R G h pc Ls (.long x :: St) C S) (hd : decode bytes pc = .ok (.l2i, 1)) (hp : pc + 1 = pc') : W l Z n0 y bytes maxl ret R G h pc' Ls (.int x.toInt32 :: St) C S := by
  subst hp; exact A.step fun X hx _ _ q _ r => XS.l2i X.here hx rfl (hb q hd) rfl r
theorem W.i2b {x : Int32} (A : W l Z n0 y bytes maxl ret R G h pc Ls (.int x :: St) C S) (hd : decode bytes pc = .ok (.i2b, 1)) (hp : pc + 1 = pc') : W l Z n0 y bytes maxl ret R G h pc' Ls (.int x.toInt8.toInt32 :: St) C S := by
  subst hp; exact A.step fun X hx _ _ q _ r => XS.i2b X.here hx rfl (hb q hd) rfl r
theorem W.i2s {x : Int32} (A : W l Z n0 y bytes maxl ret R G h pc Ls (.int x :: St) C S) (hd : decode bytes pc = .ok (.i2s, 1)) (hp : pc + 1 = pc') : W l Z n0 y bytes maxl ret R G h pc' Ls (.int x.toInt16.toInt32 :: St) C S := by
  subst hp; exact A.step fun X hx _ _ q _ r => XS.i2s X.here hx rfl (hb q hd) rfl r
theorem W.i2c {x : Int32} (A : W l Z n0 y bytes maxl ret R G h pc Ls (.int x :: St) C S) (hd : decode bytes pc = .ok (.i2c, 1)) (hp : pc + 1 = pc') : W l Z n0 y bytes maxl ret R G h pc' Ls (.int x.toUInt32.toUInt16.toUInt32.toInt32 :: St) C S := by
  subst hp; exact A.step fun X hx _ _ q _ r => XS.i2c X.here hx rfl (hb q hd) rfl r
theorem W.lcmp {x z : Int64} (A : W l Z n0 y bytes maxl ret R G h pc Ls (.long z :: .long x :: St) C S) (hd : decode bytes pc = .ok (.lcmp, 1)) (hp : pc + 1 = pc') : W l Z n0 y bytes maxl ret R G h pc' Ls (.int (lcmpW x z) :: St) C S := by
  subst hp; exact A.step fun X hx _ _ q _ r => XS.lcmp X.here hx rfl (hb q hd) rfl r
theorem W.idiv {x z : Int32} (A : W l Z n0 y bytes maxl ret R G h pc Ls (.int z :: .int x :: St) C S) (hd : decode bytes pc = .ok (.idiv, 1)) (hz : z ≠ 0) (hp : pc + 1 = pc') : W l Z n0 y bytes maxl ret R G h pc' Ls (.int (x / z) :: St) C S := by
  subst hp; exact A.step fun X hx _ _ q _ r => XS.idiv X.here hx rfl (hb q hd) rfl hz r
theorem W.irem {x z : Int32} (A : W l Z n0 y bytes maxl ret R G h pc Ls (.int z :: .int x :: St) C S) (hd : decode bytes pc = .ok (.irem, 1)) (hz : z ≠ 0) (hp : pc + 1 = pc') : W l Z n0 y bytes maxl ret R G h pc' Ls (.int (x % z) :: St) C S := by
  subst hp; exact A.step fun X hx _ _ q _ r => iremM (g := mkF _ _ _ _) X hx rfl (hb q hd) rfl hz r
theorem W.ldiv {x z : Int64} (A : W l Z n0 y bytes maxl ret R G h pc Ls (.long z :: .long x :: St) C S) (hd : decode bytes pc = .ok (.ldiv, 1)) (hz : z ≠ 0) (hp : pc + 1 = pc') : W l Z n0 y bytes maxl ret R G h pc' Ls (.long (x / z) :: St) C S := by
  subst hp; exact A.step fun X hx _ _ q _ r => XS.ldiv X.here hx rfl (hb q hd) rfl hz r
theorem W.lrem {x z : Int64} (A : W l Z n0 y bytes maxl ret R G h pc Ls (.long z :: .long x :: St) C S) (hd : decode bytes pc = .ok (.lrem, 1)) (hz : z ≠ 0) (hp : pc + 1 = pc') : W l Z n0 y bytes maxl ret R G h pc' Ls (.long (x % z) :: St) C S := by
  subst hp; exact A.step fun X hx _ _ q _ r => XS.lrem X.here hx rfl (hb q hd) rfl hz (by rw [lrem_mod]; exact r)
theorem W.dup {v : Value} (A : W l Z n0 y bytes maxl ret R G h pc Ls (v :: St) C S) (hd : decode bytes pc = .ok (.dup, 1)) (hc : v.category = 1) (hp : pc + 1 = pc') : W l Z n0 y bytes maxl ret R G h pc' Ls (v :: v :: St) C S := by
  subst hp; exact A.step fun X hx _ _ q _ r => XS.dup X.here hx rfl (hb q hd) rfl hc r
theorem W.pop {v : Value} (A : W l Z n0 y bytes maxl ret R G h pc Ls (v :: St) C S) (hd : decode bytes pc = .ok (.pop, 1)) (hc : v.category = 1) (hp : pc + 1 = pc') : W l Z n0 y bytes maxl ret R G h pc' Ls St C S := by
  subst hp; exact A.step fun X hx _ _ q _ r => XS.pop X.here hx rfl (hb q hd) rfl hc r
theorem W.dupX1 {v w : Value} (A : W l Z n0 y bytes maxl ret R G h pc Ls (v :: w :: St) C S) (hd : decode bytes pc = .ok (.dup_x1, 1)) (hc : v.category = 1) (hc' : w.category = 1) (hp : pc + 1 = pc') : W l Z n0 y bytes maxl ret R G h pc' Ls (v :: w :: v :: St) C S := by
  subst hp; exact A.step fun X hx _ _ q _ r => XS.dupX1 X.here hx rfl (hb q hd) rfl hc hc' r
theorem W.dup2 {v w : Value} (A : W l Z n0 y bytes maxl ret R G h pc Ls (v :: w :: St) C S) (hd : decode bytes pc = .ok (.dup2, 1)) (hc : v.category = 1) (hc' : w.category = 1) (hp : pc + 1 = pc') : W l Z n0 y bytes maxl ret R G h pc' Ls (v :: w :: v :: w :: St) C S := by
  subst hp; exact A.step fun X hx _ _ q _ r => XT.dup2 X.here hx rfl (hb q hd) rfl hc hc' r
theorem W.dup2L {x : Int64} (A : W l Z n0 y bytes maxl ret R G h pc Ls (.long x :: St) C S) (hd : decode bytes pc = .ok (.dup2, 1)) (hp : pc + 1 = pc') : W l Z n0 y bytes maxl ret R G h pc' Ls (.long x :: .long x :: St) C S := by
  subst hp; exact A.step fun X hx _ _ q _ r => XT.dup2L X.here hx rfl (hb q hd) rfl r
theorem W.goto (A : W l Z n0 y bytes maxl ret R G h pc Ls St C S) {o : Int} (hd : decode bytes pc = .ok (.goto o, 3)) (ho : 0 ≤ (pc : Int) + o) (hp : ((pc : Int) + o).toNat = pc') : W l Z n0 y bytes maxl ret R G h pc' Ls St C S :=
  A.step fun X hx _ _ q _ r => XS.goto X.here hx rfl rfl (hb q hd) ho hp r
theorem W.ifYes {x : Int32} (A : W l Z n0 y bytes maxl ret R G h pc Ls (.int x :: St) C S) {cd : ClassFile.Cond} {o : Int} (hd : decode bytes pc = .ok (.ifCond cd o, 3)) (hc : if_icmp.holds cd x 0 = true) (ho : 0 ≤ (pc : Int) + o) (hp : ((pc : Int) + o).toNat = pc') : W l Z n0 y bytes maxl ret R G h pc' Ls St C S :=
  A.step fun X hx _ _ q _ r => XS.ifYes X.here hx rfl rfl (hb q hd) rfl ((if0 _ _).trans hc) ho hp r
theorem W.ifNo {x : Int32} (A : W l Z n0 y bytes maxl ret R G h pc Ls (.int x :: St) C S) {cd : ClassFile.Cond} {o : Int} (hd : decode bytes pc = .ok (.ifCond cd o, 3)) (hc : if_icmp.holds cd x 0 = false) (hp : pc + 3 = pc') : W l Z n0 y bytes maxl ret R G h pc' Ls St C S := by
  subst hp; exact A.step fun X hx _ _ q _ r => XS.ifNo X.here hx rfl (hb q hd) rfl ((if0 _ _).trans hc) r
theorem W.icmpYes {x z : Int32} (A : W l Z n0 y bytes maxl ret R G h pc Ls (.int z :: .int x :: St) C S) {cd : ClassFile.Cond} {o : Int} (hd : decode bytes pc = .ok (.if_icmp cd o, 3)) (hc : if_icmp.holds cd x z = true) (ho : 0 ≤ (pc : Int) + o) (hp : ((pc : Int) + o).toNat = pc') : W l Z n0 y bytes maxl ret R G h pc' Ls St C S :=
  A.step fun X hx _ _ q _ r => XS.icmpYes X.here hx rfl rfl (hb q hd) rfl hc ho hp r
theorem W.icmpNo {x z : Int32} (A : W l Z n0 y bytes maxl ret R G h pc Ls (.int z :: .int x :: St) C S) {cd : ClassFile.Cond} {o : Int} (hd : decode bytes pc = .ok (.if_icmp cd o, 3)) (hc : if_icmp.holds cd x z = false) (hp : pc + 3 = pc') : W l Z n0 y bytes maxl ret R G h pc' Ls St C S := by
  subst hp; exact A.step fun X hx _ _ q _ r => XS.icmpNo X.here hx rfl (hb q hd) rfl hc r
theorem W.ifnullYes (A : W l Z n0 y bytes maxl ret R G h pc Ls (.null :: St) C S) {o : Int} (hd : decode bytes pc = .ok (.ifnull o, 3)) (ho : 0 ≤ (pc : Int) + o) (hp : ((pc : Int) + o).toNat = pc') : W l Z n0 y bytes maxl ret R G h pc' Ls St C S :=
  A.step fun X hx _ _ q _ r => XS.ifnullYes X.here hx rfl rfl (hb q hd) rfl ho hp r
theorem W.ifnullNo {a : Addr} (A : W l Z n0 y bytes maxl ret R G h pc Ls (.ref a :: St) C S) {o : Int} (hd : decode bytes pc = .ok (.ifnull o, 3)) (hp : pc + 3 = pc') : W l Z n0 y bytes maxl ret R G h pc' Ls St C S := by
  subst hp; exact A.step fun X hx _ _ q _ r => XS.ifnullNo X.here hx rfl (hb q hd) rfl r
theorem W.ifnonnullNo (A : W l Z n0 y bytes maxl ret R G h pc Ls (.null :: St) C S) {o : Int} (hd : decode bytes pc = .ok (.ifnonnull o, 3)) (hp : pc + 3 = pc') : W l Z n0 y bytes maxl ret R G h pc' Ls St C S := by
  subst hp; exact A.step fun X hx _ _ q _ r => XS.ifnonnullNo X.here hx rfl (hb q hd) rfl r
theorem W.ifnonnullYes {a : Addr} (A : W l Z n0 y bytes maxl ret R G h pc Ls (.ref a :: St) C S) {o : Int} (hd : decode bytes pc = .ok (.ifnonnull o, 3)) (ho : 0 ≤ (pc : Int) + o) (hp : ((pc : Int) + o).toNat = pc') : W l Z n0 y bytes maxl ret R G h pc' Ls St C S :=
  A.step fun X hx _ _ q _ r => XS.ifnonnullYes X.here hx rfl rfl (hb q hd) rfl ho hp r
/-! C. the returns -/
theorem W.fin {v : Option Value} (A : W l Z n0 y bytes maxl ret R G h pc Ls St C S) (hC : C ≤ R.cells) (hS : S ≤ R.slots) (hv : ret = none → v = none) (hQ : Q v h)
    (f : ∀ {p : Program} {e : Env} {s : State} {m : MethodId} {args : Array Value} {below : List Frame} {meth : Method} {c : Code} {T : State} {locs : List Loc} {fs : List Frame}, Stand p l e R s m args below meth c T locs C S → p.tables.exec = Jvm.exec → c.code = bytes → meth.sig.returnType = ret → (∀ (f : JFrame) (acts : List Action), f.method = m → f.locked = none → f.entered = [] → (doReturn e (T.setTop f) acts v).1 = T.setFrames fs) → Steps p.tables e below (T.setTop (mkF m pc Ls St)) (T.setFrames fs)) : Gl R n0 G Q := by
  obtain ⟨p, e, s, m, args, below, meth, c, st⟩ := G
  obtain ⟨hx, hZ, hby, hml, hown, hnm, hrt, hlk, hn0, T, locs, X, N, eT, k⟩ := A
  obtain ⟨fs, hr, hrun, hended, hW, hsame⟩ := X.leave (v := v) (fun q => hv (hrt.symm.trans q)) hlk
  show ∃ s₂ o, _
  refine ⟨_, _, k _ (f X hx hby hrt hr), hrun, hended, v, locs, rfl, ⟨N, ?_⟩, ⟨_, rfl⟩, hW, hsame.mono hC hS⟩
  show Q v T.heap
  rw [eT]; exact hQ
theorem W.retI {z : Int32} (A : W l Z n0 y bytes maxl (some .int) R G h pc Ls (.int z :: St) C S) (hd : decode bytes pc = .ok (.ireturn, 1)) (hC : C ≤ R.cells) (hS : S ≤ R.slots) (hQ : Q (some (.int z)) h) : Gl R n0 G Q :=
  A.fin hC hS (fun q => nomatch q) hQ fun X hx q hret hr => retOut X hx hret (t := .int) rfl (Or.inl ⟨rfl, Or.inl rfl, z, rfl⟩) (hb q hd) hr
theorem W.retN {z z' : Int32} {t : FieldType} (A : W l Z n0 y bytes maxl (some t) R G h pc Ls (.int z :: St) C S) (hd : decode bytes pc = .ok (.ireturn, 1)) (hC : C ≤ R.cells) (hS : S ≤ R.slots) (ht : t = .boolean ∨ t = .byte ∨ t = .char ∨ t = .short) (hz : nar t z = z') (hQ : Q (some (.int z')) h) : Gl R n0 G Q := by
  subst hz; exact A.fin hC hS (fun q => nomatch q) hQ fun X hx q hret hr => RoadKit.retN X hx hret ht (hb q hd) hr
theorem W.retJ {z : Int64} (A : W l Z n0 y bytes maxl (some .long) R G h pc Ls (.long z :: St) C S) (hd : decode bytes pc = .ok (.lreturn, 1)) (hC : C ≤ R.cells) (hS : S ≤ R.slots) (hQ : Q (some (.long z)) h) : Gl R n0 G Q :=
  A.fin hC hS (fun q => nomatch q) hQ fun X hx q hret hr => retOut X hx hret (t := .long) rfl (Or.inr (Or.inl ⟨rfl, rfl, z, rfl⟩)) (hb q hd) hr
theorem W.retA {v : Value} {t : FieldType} (A : W l Z n0 y bytes maxl (some t) R G h pc Ls (v :: St) C S) (hd : decode bytes pc = .ok (.areturn, 1)) (hC : C ≤ R.cells) (hS : S ≤ R.slots) (ht : t.isReference = true) (hv : v.isRef = true) (hn : narrow t v = v) (hQ : Q (some v) h) : Gl R n0 G Q :=
  A.fin hC hS (fun q => nomatch q) hQ fun X hx q hret hr => retOut X hx hret (t := t) hn (Or.inr (Or.inr (Or.inr (Or.inr ⟨rfl, ht, hv⟩)))) (hb q hd) hr
theorem W.retV (A : W l Z n0 y bytes maxl none R G h pc Ls [] C S) (hd : decode bytes pc = .ok (.return_, 1)) (hC : C ≤ R.cells) (hS : S ≤ R.slots) (hQ : Q none h) : Gl R n0 G Q :=
  A.fin hC hS (fun _ => rfl) hQ fun X hx q hret hr => X.returnOut hx hret (hb q hd) hr
/-! D. calls -/
theorem W.callS (A : W l Z n0 y bytes maxl ret R G h pc Ls St C S) {y' : MethodName} {bytes' : ByteArray} {maxl' : Nat} {ret' : Option FieldType} {R' : Room} {as : Array Value} {idx : Nat} {argsL rest : List Value} {ps : List FieldType} {rr : Option FieldType} (hd : decode bytes pc = .ok (.invokestatic idx, 3))
    (w1 : (Jvm.Cond.methodLink y.cls idx y').before a0 Z = true) (w2 : (Jvm.Cond.static y').before a0 Z = true) (w3 : (Jvm.Cond.initialized y'.cls).before a0 Z = true) (w4 : (Jvm.Cond.code y' bytes' maxl' ret').before a0 Z = true) (hM : Ctr l Z n0 y' bytes' maxl' ret' [] R' as h Q) (has : argsL.toArray = as) (hs : St = argsL.reverse ++ rest)
    (hpd : parseMethodDescriptor y'.desc = some ⟨ps, rr⟩) (hlen : argsL.length = ps.length) (hsz : Ls.size = maxl) (hy : y'.cls ≠ "java/lang/invoke/MethodHandle" ∧ y'.cls ≠ "java/lang/invoke/VarHandle") (hf : R'.frames + 1 ≤ R.frames) (hlo : (rest.map fun v => v.category).sum + (maxl' + 11) + R'.locals ≤ R.locals) (hC : C + R'.cells ≤ R.cells) (hS : S + R'.slots ≤ R.slots) (hC' : C + R'.cells = C') (hS' : S + R'.slots = S') (hp : pc + 3 = pc') :
    ∃ v h', Q v h' ∧ W l Z n0 y bytes maxl ret R G h' pc' Ls (v.toList ++ rest) C' S' := by
  subst hp hC' hS' has
  obtain ⟨p, e, s, m, args, below, meth, c, st⟩ := G
  obtain ⟨hx, hZ, hby, hml, hown, hnm, hrt, hlk, hn0, T, locs, X, N, eT, k⟩ := A
  obtain ⟨v, _, ⟨T', L', k', n'⟩, -, X', ⟨Lc, hQ, l1, y1, z1⟩, st'⟩ := Jvm.LawKit.callS X hx (y := y') hown (mvT hZ w1) (mvT hZ w2) (mvT hZ w3) (mvT hZ w4) hy (backOf (Q := fun v h L => Fr n0 L ∧ Q v h) (W := (rest.map fun v => v.category).sum) hM hZ w4 w3 hf hlo) (g := mkF m pc Ls St) rfl (by rw [hml]; exact hsz) (argsL := argsL) (rest := rest) (lenOf hpd hlen) hs (by show 2 * 0 + _ ≤ _; omega) (hb hby hd) (fun _ _ => ⟨rfl, eT, hC, hS⟩)
  dsimp only [Pt.U, Pt.locs, Pt.cells, Pt.slots] at X' l1 y1 z1 st' hQ
  subst l1 y1 z1
  exact ⟨v, T'.heap, hQ.2, W.mk hx hZ hby hml hown hnm hrt hlk hn0 X' (N.app hQ.1) rfl (fun t q => k t (st' t q))⟩
theorem W.callI (A : W l Z n0 y bytes maxl ret R G h pc Ls St C S) {a : Addr} {y' : MethodName} {bytes' : ByteArray} {maxl' : Nat} {R' : Room} {as : Array Value} {idx : Nat} {argsL rest : List Value} {ps : List FieldType} {rr : Option FieldType} (hd : decode bytes pc = .ok (.invokespecial idx, 3)) (hy1 : y'.name = "<init>")
    (w1 : (Jvm.Cond.methodLink y.cls idx y').before a0 Z = true) (w2 : (Jvm.Cond.instanceMethod y').before a0 Z = true) (w3 : (Jvm.Cond.initialized y'.cls).before a0 Z = true) (w4 : (Jvm.Cond.code y' bytes' maxl' none).before a0 Z = true) (hM : Ctr l Z n0 y' bytes' maxl' none [] R' as h Q) (has : (.ref a :: argsL).toArray = as) (hs : St = argsL.reverse ++ .ref a :: rest)
    (hpd : parseMethodDescriptor y'.desc = some ⟨ps, rr⟩) (hlen : argsL.length = ps.length) (hsz : Ls.size = maxl) (hy : y'.cls ≠ "java/lang/invoke/MethodHandle" ∧ y'.cls ≠ "java/lang/invoke/VarHandle") (hf : R'.frames + 1 ≤ R.frames) (hlo : (rest.map fun v => v.category).sum + (maxl' + 11) + R'.locals ≤ R.locals) (hC : C + R'.cells ≤ R.cells) (hS : S + R'.slots ≤ R.slots) (hC' : C + R'.cells = C') (hS' : S + R'.slots = S') (hp : pc + 3 = pc') :
    ∃ v h', Q v h' ∧ W l Z n0 y bytes maxl ret R G h' pc' Ls (v.toList ++ rest) C' S' := by
  subst hp hC' hS' has
  obtain ⟨p, e, s, m, args, below, meth, c, st⟩ := G
  obtain ⟨hx, hZ, hby, hml, hown, hnm, hrt, hlk, hn0, T, locs, X, N, eT, k⟩ := A
  obtain ⟨v, _, ⟨T', L', k', n'⟩, -, X', ⟨Lc, hQ, l1, y1, z1⟩, st'⟩ := X.specialBack hx (y := y') hy1 hown (mvT hZ w1) (mvT hZ w2) (mvT hZ w4) hy (backOf (Q := fun v h L => Fr n0 L ∧ Q v h) (W := (rest.map fun v => v.category).sum) hM hZ w4 w3 hf hlo) (g := mkF m pc Ls St) rfl (by rw [hml]; exact hsz) (Steps.refl _) (a := a) (argsL := argsL) (rest := rest) (lenOf hpd hlen) hs (by show 2 * 0 + _ ≤ _; omega) (hb hby hd) (fun _ _ => ⟨rfl, eT, hC, hS⟩)
  dsimp only [Pt.U, Pt.locs, Pt.cells, Pt.slots] at X' l1 y1 z1 st' hQ
  subst l1 y1 z1
  exact ⟨v, T'.heap, hQ.2, W.mk hx hZ hby hml hown hnm hrt hlk hn0 X' (N.app hQ.1) rfl (fun t q => k t (st'.trans q))⟩
theorem W.callV (A : W l Z n0 y bytes maxl ret R G h pc Ls St C S) {a : Addr} {K : String} {y' z' : MethodName} {bytes' : ByteArray} {maxl' : Nat} {ret' : Option FieldType} {R' : Room} {as : Array Value} {idx : Nat} {argsL rest : List Value} {ps : List FieldType} {rr : Option FieldType} (hd : decode bytes pc = .ok (.invokevirtual idx, 3)) (E : Exa Z h a K)
    (w1 : (Jvm.Cond.methodLink y.cls idx y').before a0 Z = true) (wd : (Jvm.Cond.declares y').before a0 Z = true) (hnf : ∀ {s : State}, Z.Warmed39 s.vm → NotFace s y') (ws : (Jvm.Cond.selects K y' z').before a0 Z = true) (w2 : (Jvm.Cond.instanceMethod z').before a0 Z = true) (w3 : (Jvm.Cond.initialized z'.cls).before a0 Z = true) (w4 : (Jvm.Cond.code z' bytes' maxl' ret').before a0 Z = true) (hM : Ctr l Z n0 z' bytes' maxl' ret' [] R' as h Q) (has : (.ref a :: argsL).toArray = as) (hs : St = argsL.reverse ++ .ref a :: rest)
    (hpd : parseMethodDescriptor y'.desc = some ⟨ps, rr⟩) (hlen : argsL.length = ps.length) (hsz : Ls.size = maxl) (hy : y'.cls ≠ "java/lang/invoke/MethodHandle" ∧ y'.cls ≠ "java/lang/invoke/VarHandle") (hf : R'.frames + 1 ≤ R.frames) (hlo : (rest.map fun v => v.category).sum + (maxl' + 11) + R'.locals ≤ R.locals) (hC : C + R'.cells ≤ R.cells) (hS : S + R'.slots ≤ R.slots) (hC' : C + R'.cells = C') (hS' : S + R'.slots = S') (hp : pc + 3 = pc') :
    ∃ v h', Q v h' ∧ W l Z n0 y bytes maxl ret R G h' pc' Ls (v.toList ++ rest) C' S' := by
  subst hp hC' hS' has
  obtain ⟨p, e, s, m, args, below, meth, c, st⟩ := G
  obtain ⟨hx, hZ, hby, hml, hown, hnm, hrt, hlk, hn0, T, locs, X, N, eT, k⟩ := A
  obtain ⟨cq, kq, qa, qb, qc⟩ := isOf hZ eT E
  obtain ⟨v, _, ⟨T', L', k', n'⟩, -, X', ⟨Lc, hQ, l1, y1, z1⟩, st'⟩ := X.virtualBack hx (y := y') (z := z') hown (mvT hZ w1) (mvT hZ wd) (hnf hZ) (mvT hZ ws) (mvT hZ w2) hy (backOf (Q := fun v h L => Fr n0 L ∧ Q v h) (W := (rest.map fun v => v.category).sum) hM hZ w4 w3 hf hlo) qa qc (g := mkF m pc Ls St) rfl (by rw [hml]; exact hsz) (Steps.refl _) (argsL := argsL) (rest := rest) (lenOf hpd hlen) hs (by show 2 * 0 + _ ≤ _; omega) (hb hby hd) (fun _ _ => ⟨rfl, eT, hC, hS⟩)
  dsimp only [Pt.U, Pt.locs, Pt.cells, Pt.slots] at X' l1 y1 z1 st' hQ
  subst l1 y1 z1
  exact ⟨v, T'.heap, hQ.2, W.mk hx hZ hby hml hown hnm hrt hlk hn0 X' (N.app hQ.1) rfl (fun t q => k t (st'.trans q))⟩
theorem W.kI {P : Int32 → Heap → Prop} {rest : List Value} (q : ∃ v h', QI P v h' ∧ W l Z n0 y bytes maxl ret R G h' pc Ls (v.toList ++ rest) C S) : ∃ r h', P r h' ∧ W l Z n0 y bytes maxl ret R G h' pc Ls (.int r :: rest) C S := by
  obtain ⟨v, h', ⟨r, rfl, hP⟩, A⟩ := q; exact ⟨r, h', hP, A⟩
theorem W.kJ {P : Int64 → Heap → Prop} {rest : List Value} (q : ∃ v h', QJ P v h' ∧ W l Z n0 y bytes maxl ret R G h' pc Ls (v.toList ++ rest) C S) : ∃ r h', P r h' ∧ W l Z n0 y bytes maxl ret R G h' pc Ls (.long r :: rest) C S := by
  obtain ⟨v, h', ⟨r, rfl, hP⟩, A⟩ := q; exact ⟨r, h', hP, A⟩
theorem W.kA {P : Addr → Heap → Prop} {rest : List Value} (q : ∃ v h', QA P v h' ∧ W l Z n0 y bytes maxl ret R G h' pc Ls (v.toList ++ rest) C S) : ∃ r h', P r h' ∧ W l Z n0 y bytes maxl ret R G h' pc Ls (.ref r :: rest) C S := by
  obtain ⟨v, h', ⟨r, rfl, hP⟩, A⟩ := q; exact ⟨r, h', hP, A⟩
theorem W.kV {P : Heap → Prop} {rest : List Value} (q : ∃ v h', QV P v h' ∧ W l Z n0 y bytes maxl ret R G h' pc Ls (v.toList ++ rest) C S) : ∃ h', P h' ∧ W l Z n0 y bytes maxl ret R G h' pc Ls rest C S := by
  obtain ⟨v, h', ⟨rfl, hP⟩, A⟩ := q; exact ⟨h', hP, A⟩
end Walk
end Jvm.Pilot.@@N@@
namespace Jvm.Pilot.@@N@@
open Jvm Jvm.ClassFile Sem Op Lib Jvm.Free Jvm.Stand Jvm.LawKit Jvm.RoadKit Bundle
/-! numbers -/
theorem rng32 (x : Int32) : -2147483648 ≤ x.toInt ∧ x.toInt < 2147483648 := ⟨x.le_toInt, x.toInt_lt⟩
theorem rng64 (x : Int64) : -9223372036854775808 ≤ x.toInt ∧ x.toInt < 9223372036854775808 := ⟨x.le_toInt, x.toInt_lt⟩
theorem add32 (x y : Int32) (h1 : -2147483648 ≤ x.toInt + y.toInt) (h2 : x.toInt + y.toInt < 2147483648) : (x + y).toInt = x.toInt + y.toInt := by
  have e := c_iadd x y; have r := rng32 (x + y); omega
theorem sub32 (x y : Int32) (h1 : -2147483648 ≤ x.toInt - y.toInt) (h2 : x.toInt - y.toInt < 2147483648) : (x - y).toInt = x.toInt - y.toInt := by
  have e := c_isub x y; have r := rng32 (x - y); omega
theorem mul32 (x y : Int32) (h1 : -2147483648 ≤ x.toInt * y.toInt) (h2 : x.toInt * y.toInt < 2147483648) : (x * y).toInt = x.toInt * y.toInt := by
  have e := c_imul x y; have r := rng32 (x * y); generalize x.toInt * y.toInt = z at *; omega
theorem add64 (x y : Int64) (h1 : -9223372036854775808 ≤ x.toInt + y.toInt) (h2 : x.toInt + y.toInt < 9223372036854775808) : (x + y).toInt = x.toInt + y.toInt := by
  have e := c_ladd x y; have r := rng64 (x + y); omega
theorem sub64 (x y : Int64) (h1 : -9223372036854775808 ≤ x.toInt - y.toInt) (h2 : x.toInt - y.toInt < 9223372036854775808) : (x - y).toInt = x.toInt - y.toInt := by
  have e := c_lsub x y; have r := rng64 (x - y); omega
theorem mul64 (x y : Int64) (h1 : -9223372036854775808 ≤ x.toInt * y.toInt) (h2 : x.toInt * y.toInt < 9223372036854775808) : (x * y).toInt = x.toInt * y.toInt := by
  have e := c_lmul x y; have r := rng64 (x * y); generalize x.toInt * y.toInt = z at *; omega
theorem mulc32 (x c : Int32) (k : Int) (hc : c.toInt = k) (h1 : -2147483648 ≤ x.toInt * k) (h2 : x.toInt * k < 2147483648) : (x * c).toInt = x.toInt * k := by
  subst hc; exact mul32 x c h1 h2
theorem mulc64 (x c : Int64) (k : Int) (hc : c.toInt = k) (h1 : -9223372036854775808 ≤ x.toInt * k) (h2 : x.toInt * k < 9223372036854775808) : (x * c).toInt = x.toInt * k := by
  subst hc; exact mul64 x c h1 h2
theorem addc32 (x c : Int32) (k : Int) (hc : c.toInt = k) (h1 : -2147483648 ≤ x.toInt + k) (h2 : x.toInt + k < 2147483648) : (x + c).toInt = x.toInt + k := by
  subst hc; exact add32 x c h1 h2
theorem subc32 (x c : Int32) (k : Int) (hc : c.toInt = k) (h1 : -2147483648 ≤ x.toInt - k) (h2 : x.toInt - k < 2147483648) : (x - c).toInt = x.toInt - k := by
  subst hc; exact sub32 x c h1 h2
theorem sta_int {args : Array Value} {s : State} {C n d : String} {v : Int32} (h : (Jvm.Cond.eq (Jvm.Term.static C n d) (Jvm.Term.int v)).value args s none s [] = some true) : (Jvm.Term.static C n d).eval args s none [] s = some (.int v) := by
  obtain ⟨a, b, h1, h2, -, -⟩ := cmp_v (Or.inl h)
  cases Option.some.inj (h2.symm.trans (rfl : (Jvm.Term.int v).eval args s none [] s = some (.int v)))
  rw [h1]; cases a <;> simp [Cond.value, h1, h2] at h ⊢; exact h
theorem sta_long {args : Array Value} {s : State} {C n d : String} {v : Int64} (h : (Jvm.Cond.eq (Jvm.Term.static C n d) (Jvm.Term.long v)).value args s none s [] = some true) : (Jvm.Term.static C n d).eval args s none [] s = some (.long v) := by
  obtain ⟨a, b, h1, h2, -, -⟩ := cmp_v (Or.inl h)
  cases Option.some.inj (h2.symm.trans (rfl : (Jvm.Term.long v).eval args s none [] s = some (.long v)))
  rw [h1]; cases a <;> simp [Cond.value, h1, h2] at h ⊢; exact h
/-- (y & 0x7fffffff) % m -/
theorem pmod32 (x m : Int32) (M : Int) (hm : m.toInt = M) (hM : 0 < M) : ((x &&& (2147483647 : Int32)) % m).toInt = (x.toInt % 2147483648) % M ∧ 0 ≤ ((x &&& (2147483647 : Int32)) % m).toInt ∧ ((x &&& (2147483647 : Int32)) % m).toInt < M := by
  have e : (x &&& (2147483647 : Int32)).toInt = x.toInt % 2147483648 := c_mask x 2147483647 31 (by decide) (by decide)
  have q := (c_irem (x &&& (2147483647 : Int32)) m M hm).1 (by omega)
  have := Int.emod_nonneg (x.toInt % 2147483648) (show M ≠ 0 by omega)
  have := Int.emod_lt_of_pos (x.toInt % 2147483648) hM
  rw [q, e]; omega
/-- (x & Long.MAX_VALUE) % m -/
theorem pmod64 (x m : Int64) (M : Int) (hm : m.toInt = M) (hM : 0 < M) : 0 ≤ ((x &&& (9223372036854775807 : Int64)) % m).toInt ∧ ((x &&& (9223372036854775807 : Int64)) % m).toInt < M := by
  have e : (x &&& (9223372036854775807 : Int64)).toInt = x.toInt % 9223372036854775808 := c_maskL x 9223372036854775807 63 (by decide) (by decide)
  have q := (c_lrem (x &&& (9223372036854775807 : Int64)) m M hm).1 (by omega)
  rw [lrem_mod] at q
  have := Int.emod_nonneg (x.toInt % 9223372036854775808) (show M ≠ 0 by omega)
  have := Int.emod_lt_of_pos (x.toInt % 9223372036854775808) hM
  rw [q, e]; omega
end Jvm.Pilot.@@N@@
namespace Jvm.Pilot.@@N@@
open Jvm Jvm.ClassFile Sem Op Lib Jvm.Free Jvm.Stand Jvm.LawKit Jvm.RoadKit Bundle Jvm.Pilot.@@N@@.Jvm.D
theorem pd_0 : parseMethodDescriptor "(I)I" = some ⟨[.int], some .int⟩ := by decide +kernel
def own_nlz (i : Int32) : Int32 := if 0 < i.toInt then (if i.toInt < 65536 then (if i.toInt < 256 then (if i.toInt < 16 then (if i.toInt < 4 then ((31 : Int32) - ((i.toUInt32 >>> ((1 : Int32) &&& 31).toUInt32).toInt32)) else (((31 : Int32) + (-2 : Int32)) - ((((i.toUInt32 >>> ((2 : Int32) &&& 31).toUInt32).toInt32).toUInt32 >>> ((1 : Int32) &&& 31).toUInt32).toInt32))) else (if ((i.toUInt32 >>> ((4 : Int32) &&& 31).toUInt32).toInt32).toInt < 4 then (((31 : Int32) + (-4 : Int32)) - ((((i.toUInt32 >>> ((4 : Int32) &&& 31).toUInt32).toInt32).toUInt32 >>> ((1 : Int32) &&& 31).toUInt32).toInt32)) else ((((31 : Int32) + (-4 : Int32)) + (-2 : Int32)) - ((((((i.toUInt32 >>> ((4 : Int32) &&& 31).toUInt32).toInt32).toUInt32 >>> ((2 : Int32) &&& 31).toUInt32).toInt32).toUInt32 >>> ((1 : Int32) &&& 31).toUInt32).toInt32)))) else (if ((i.toUInt32 >>> ((8 : Int32) &&& 31).toUInt32).toInt32).toInt < 16 then (if ((i.toUInt32 >>> ((8 : Int32) &&& 31).toUInt32).toInt32).toInt < 4 then (((31 : Int32) + (-8 : Int32)) - ((((i.toUInt32 >>> ((8 : Int32) &&& 31).toUInt32).toInt32).toUInt32 >>> ((1 : Int32) &&& 31).toUInt32).toInt32)) else ((((31 : Int32) + (-8 : Int32)) + (-2 : Int32)) - ((((((i.toUInt32 >>> ((8 : Int32) &&& 31).toUInt32).toInt32).toUInt32 >>> ((2 : Int32) &&& 31).toUInt32).toInt32).toUInt32 >>> ((1 : Int32) &&& 31).toUInt32).toInt32))) else (if ((((i.toUInt32 >>> ((8 : Int32) &&& 31).toUInt32).toInt32).toUInt32 >>> ((4 : Int32) &&& 31).toUInt32).toInt32).toInt < 4 then ((((31 : Int32) + (-8 : Int32)) + (-4 : Int32)) - ((((((i.toUInt32 >>> ((8 : Int32) &&& 31).toUInt32).toInt32).toUInt32 >>> ((4 : Int32) &&& 31).toUInt32).toInt32).toUInt32 >>> ((1 : Int32) &&& 31).toUInt32).toInt32)) else (((((31 : Int32) + (-8 : Int32)) + (-4 : Int32)) + (-2 : Int32)) - ((((((((i.toUInt32 >>> ((8 : Int32) &&& 31).toUInt32).toInt32).toUInt32 >>> ((4 : Int32) &&& 31).toUInt32).toInt32).toUInt32 >>> ((2 : Int32) &&& 31).toUInt32).toInt32).toUInt32 >>> ((1 : Int32) &&& 31).toUInt32).toInt32))))) else (if ((i.toUInt32 >>> ((16 : Int32) &&& 31).toUInt32).toInt32).toInt < 256 then (if ((i.toUInt32 >>> ((16 : Int32) &&& 31).toUInt32).toInt32).toInt < 16 then (if ((i.toUInt32 >>> ((16 : Int32) &&& 31).toUInt32).toInt32).toInt < 4 then (((31 : Int32) + (-16 : Int32)) - ((((i.toUInt32 >>> ((16 : Int32) &&& 31).toUInt32).toInt32).toUInt32 >>> ((1 : Int32) &&& 31).toUInt32).toInt32)) else ((((31 : Int32) + (-16 : Int32)) + (-2 : Int32)) - ((((((i.toUInt32 >>> ((16 : Int32) &&& 31).toUInt32).toInt32).toUInt32 >>> ((2 : Int32) &&& 31).toUInt32).toInt32).toUInt32 >>> ((1 : Int32) &&& 31).toUInt32).toInt32))) else (if ((((i.toUInt32 >>> ((16 : Int32) &&& 31).toUInt32).toInt32).toUInt32 >>> ((4 : Int32) &&& 31).toUInt32).toInt32).toInt < 4 then ((((31 : Int32) + (-16 : Int32)) + (-4 : Int32)) - ((((((i.toUInt32 >>> ((16 : Int32) &&& 31).toUInt32).toInt32).toUInt32 >>> ((4 : Int32) &&& 31).toUInt32).toInt32).toUInt32 >>> ((1 : Int32) &&& 31).toUInt32).toInt32)) else (((((31 : Int32) + (-16 : Int32)) + (-4 : Int32)) + (-2 : Int32)) - ((((((((i.toUInt32 >>> ((16 : Int32) &&& 31).toUInt32).toInt32).toUInt32 >>> ((4 : Int32) &&& 31).toUInt32).toInt32).toUInt32 >>> ((2 : Int32) &&& 31).toUInt32).toInt32).toUInt32 >>> ((1 : Int32) &&& 31).toUInt32).toInt32)))) else (if ((((i.toUInt32 >>> ((16 : Int32) &&& 31).toUInt32).toInt32).toUInt32 >>> ((8 : Int32) &&& 31).toUInt32).toInt32).toInt < 16 then (if ((((i.toUInt32 >>> ((16 : Int32) &&& 31).toUInt32).toInt32).toUInt32 >>> ((8 : Int32) &&& 31).toUInt32).toInt32).toInt < 4 then ((((31 : Int32) + (-16 : Int32)) + (-8 : Int32)) - ((((((i.toUInt32 >>> ((16 : Int32) &&& 31).toUInt32).toInt32).toUInt32 >>> ((8 : Int32) &&& 31).toUInt32).toInt32).toUInt32 >>> ((1 : Int32) &&& 31).toUInt32).toInt32)) else (((((31 : Int32) + (-16 : Int32)) + (-8 : Int32)) + (-2 : Int32)) - ((((((((i.toUInt32 >>> ((16 : Int32) &&& 31).toUInt32).toInt32).toUInt32 >>> ((8 : Int32) &&& 31).toUInt32).toInt32).toUInt32 >>> ((2 : Int32) &&& 31).toUInt32).toInt32).toUInt32 >>> ((1 : Int32) &&& 31).toUInt32).toInt32))) else (if ((((((i.toUInt32 >>> ((16 : Int32) &&& 31).toUInt32).toInt32).toUInt32 >>> ((8 : Int32) &&& 31).toUInt32).toInt32).toUInt32 >>> ((4 : Int32) &&& 31).toUInt32).toInt32).toInt < 4 then (((((31 : Int32) + (-16 : Int32)) + (-8 : Int32)) + (-4 : Int32)) - ((((((((i.toUInt32 >>> ((16 : Int32) &&& 31).toUInt32).toInt32).toUInt32 >>> ((8 : Int32) &&& 31).toUInt32).toInt32).toUInt32 >>> ((4 : Int32) &&& 31).toUInt32).toInt32).toUInt32 >>> ((1 : Int32) &&& 31).toUInt32).toInt32)) else ((((((31 : Int32) + (-16 : Int32)) + (-8 : Int32)) + (-4 : Int32)) + (-2 : Int32)) - ((((((((((i.toUInt32 >>> ((16 : Int32) &&& 31).toUInt32).toInt32).toUInt32 >>> ((8 : Int32) &&& 31).toUInt32).toInt32).toUInt32 >>> ((4 : Int32) &&& 31).toUInt32).toInt32).toUInt32 >>> ((2 : Int32) &&& 31).toUInt32).toInt32).toUInt32 >>> ((1 : Int32) &&& 31).toUInt32).toInt32)))))) else (if i.toInt = 0 then (32 : Int32) else (0 : Int32))
theorem pn3 : plainFor (⟨"java/lang/Integer", "numberOfLeadingZeros", "(I)I"⟩ : MethodName) = true := by first | exact plainFor_of_name (by first | (simp [plainName, overriddenIn]; done) | decide +kernel) | exact Jvm.Free.JP.mathPlain rfl (by decide +kernel) | decide +kernel
theorem d3_0 : decode jdk_33_method_47_code 0 = .ok (.iload_n 0, 1) := by decide +kernel
theorem d3_1 : decode jdk_33_method_47_code 1 = .ok (.ifCond .gt 14, 3) := by decide +kernel
theorem d3_4 : decode jdk_33_method_47_code 4 = .ok (.iload_n 0, 1) := by decide +kernel
theorem d3_5 : decode jdk_33_method_47_code 5 = .ok (.ifCond .ne 8, 3) := by decide +kernel
theorem d3_8 : decode jdk_33_method_47_code 8 = .ok (.bipush 32, 2) := by decide +kernel
theorem d3_10 : decode jdk_33_method_47_code 10 = .ok (.goto 4, 3) := by decide +kernel
theorem d3_13 : decode jdk_33_method_47_code 13 = .ok (.iconst 0, 1) := by decide +kernel
theorem d3_14 : decode jdk_33_method_47_code 14 = .ok (.ireturn, 1) := by decide +kernel
theorem d3_15 : decode jdk_33_method_47_code 15 = .ok (.bipush 31, 2) := by decide +kernel
theorem d3_17 : decode jdk_33_method_47_code 17 = .ok (.istore_n 1, 1) := by decide +kernel
theorem d3_18 : decode jdk_33_method_47_code 18 = .ok (.iload_n 0, 1) := by decide +kernel
theorem d3_19 : decode jdk_33_method_47_code 19 = .ok (.ldc_w 264, 3) := by decide +kernel
theorem d3_22 : decode jdk_33_method_47_code 22 = .ok (.if_icmp .lt 11, 3) := by decide +kernel
theorem d3_25 : decode jdk_33_method_47_code 25 = .ok (.iinc 1 (-16), 3) := by decide +kernel
theorem d3_28 : decode jdk_33_method_47_code 28 = .ok (.iload_n 0, 1) := by decide +kernel
theorem d3_29 : decode jdk_33_method_47_code 29 = .ok (.bipush 16, 2) := by decide +kernel
theorem d3_31 : decode jdk_33_method_47_code 31 = .ok (.iushr, 1) := by decide +kernel
theorem d3_32 : decode jdk_33_method_47_code 32 = .ok (.istore_n 0, 1) := by decide +kernel
theorem d3_33 : decode jdk_33_method_47_code 33 = .ok (.iload_n 0, 1) := by decide +kernel
theorem d3_34 : decode jdk_33_method_47_code 34 = .ok (.sipush 256, 3) := by decide +kernel
theorem d3_37 : decode jdk_33_method_47_code 37 = .ok (.if_icmp .lt 11, 3) := by decide +kernel
theorem d3_40 : decode jdk_33_method_47_code 40 = .ok (.iinc 1 (-8), 3) := by decide +kernel
theorem d3_43 : decode jdk_33_method_47_code 43 = .ok (.iload_n 0, 1) := by decide +kernel
theorem d3_44 : decode jdk_33_method_47_code 44 = .ok (.bipush 8, 2) := by decide +kernel
theorem d3_46 : decode jdk_33_method_47_code 46 = .ok (.iushr, 1) := by decide +kernel
theorem d3_47 : decode jdk_33_method_47_code 47 = .ok (.istore_n 0, 1) := by decide +kernel
theorem d3_48 : decode jdk_33_method_47_code 48 = .ok (.iload_n 0, 1) := by decide +kernel
theorem d3_49 : decode jdk_33_method_47_code 49 = .ok (.bipush 16, 2) := by decide +kernel
theorem d3_51 : decode jdk_33_method_47_code 51 = .ok (.if_icmp .lt 10, 3) := by decide +kernel
theorem d3_54 : decode jdk_33_method_47_code 54 = .ok (.iinc 1 (-4), 3) := by decide +kernel
theorem d3_57 : decode jdk_33_method_47_code 57 = .ok (.iload_n 0, 1) := by decide +kernel
theorem d3_58 : decode jdk_33_method_47_code 58 = .ok (.iconst 4, 1) := by decide +kernel
theorem d3_59 : decode jdk_33_method_47_code 59 = .ok (.iushr, 1) := by decide +kernel
theorem d3_60 : decode jdk_33_method_47_code 60 = .ok (.istore_n 0, 1) := by decide +kernel
theorem d3_61 : decode jdk_33_method_47_code 61 = .ok (.iload_n 0, 1) := by decide +kernel
theorem d3_62 : decode jdk_33_method_47_code 62 = .ok (.iconst 4, 1) := by decide +kernel
theorem d3_63 : decode jdk_33_method_47_code 63 = .ok (.if_icmp .lt 10, 3) := by decide +kernel
theorem d3_66 : decode jdk_33_method_47_code 66 = .ok (.iinc 1 (-2), 3) := by decide +kernel
theorem d3_69 : decode jdk_33_method_47_code 69 = .ok (.iload_n 0, 1) := by decide +kernel
theorem d3_70 : decode jdk_33_method_47_code 70 = .ok (.iconst 2, 1) := by decide +kernel
theorem d3_71 : decode jdk_33_method_47_code 71 = .ok (.iushr, 1) := by decide +kernel
theorem d3_72 : decode jdk_33_method_47_code 72 = .ok (.istore_n 0, 1) := by decide +kernel
theorem d3_73 : decode jdk_33_method_47_code 73 = .ok (.iload_n 1, 1) := by decide +kernel
theorem d3_74 : decode jdk_33_method_47_code 74 = .ok (.iload_n 0, 1) := by decide +kernel
theorem d3_75 : decode jdk_33_method_47_code 75 = .ok (.iconst 1, 1) := by decide +kernel
theorem d3_76 : decode jdk_33_method_47_code 76 = .ok (.iushr, 1) := by decide +kernel
theorem d3_77 : decode jdk_33_method_47_code 77 = .ok (.isub, 1) := by decide +kernel
theorem d3_78 : decode jdk_33_method_47_code 78 = .ok (.ireturn, 1) := by decide +kernel
abbrev y3 : MethodName := (⟨"java/lang/Integer", "numberOfLeadingZeros", "(I)I"⟩ : MethodName)
abbrev R3 : Room := { frames := 0, cells := 0, slots := 0, locals := 0 }
set_option maxRecDepth 65536 in
set_option maxHeartbeats 4000000 in
theorem ef3 (i : Int32) (m : MethodId) : entryFrame m #[(.int i)] 2 = mkF m 0 #[.val (.int i), .unset] [] := by first | (simp [entryFrame, mkF, argsToLocals, Value.category]; done) | rfl
set_option maxRecDepth 65536 in
set_option maxHeartbeats 40000000 in
theorem rm3 (l : Launch) (Z : State) (a0 : Array Value) (hw : ∀ d ∈ tables_1, d.before a0 Z = true) (n0 : Nat) (ws : List Jvm.Cond) (i : Int32)  (h0 : Heap) (hn0 : n0 ≤ h0.size)  :
    Ctr l Z n0 y3 jdk_33_method_47_code 2 (some .int) ws R3 #[(.int i)] h0 (QI fun r h => (h0 = h) ∧ (r = (own_nlz i))) := by
  refine ctr_of pn3 hn0 (ef3 i) fun G A0 => ?_
  have A1 := A0.iloadN (v := i) (pc' := 1) d3_0 rfl rfl
  by_cases c2 : 0 < i.toInt
  · have A3 := A1.ifYes (pc' := 15) d3_1 (tlt (igt (x := i) (y := (0 : Int32)) rfl rfl c2)).2.2.1 (by decide) (by decide)
    have A4 := A3.bipush (z := (31 : Int32)) (pc' := 17) d3_15 rfl rfl
    have A5 := A4.istoreN (Ls' := #[.val (.int i), .val (.int (31 : Int32))]) (pc' := 18) d3_17 rfl rfl
    have A6 := A5.iloadN (v := i) (pc' := 19) d3_18 rfl rfl
    have A7 := A6.ldcW (z := (65536 : Int32)) (pc' := 22) d3_19 (hw _ (List.mem_of_getElem? (i := 11) rfl)) rfl
    by_cases c8 : i.toInt < 65536
    · have A9 := A7.icmpYes (pc' := 33) d3_22 (tlt (ilt (x := i) (y := (65536 : Int32)) rfl rfl c8)).1 (by decide) (by decide)
      have A10 := A9.iloadN (v := i) (pc' := 34) d3_33 rfl rfl
      have A11 := A10.sipush (z := (256 : Int32)) (pc' := 37) d3_34 rfl rfl
      by_cases c12 : i.toInt < 256
      · have A13 := A11.icmpYes (pc' := 48) d3_37 (tlt (ilt (x := i) (y := (256 : Int32)) rfl rfl c12)).1 (by decide) (by decide)
        have A14 := A13.iloadN (v := i) (pc' := 49) d3_48 rfl rfl
        have A15 := A14.bipush (z := (16 : Int32)) (pc' := 51) d3_49 rfl rfl
        by_cases c16 : i.toInt < 16
        · have A17 := A15.icmpYes (pc' := 61) d3_51 (tlt (ilt (x := i) (y := (16 : Int32)) rfl rfl c16)).1 (by decide) (by decide)
          have A18 := A17.iloadN (v := i) (pc' := 62) d3_61 rfl rfl
          have A19 := A18.iconst (z := (4 : Int32)) (pc' := 63) d3_62 rfl rfl
          by_cases c20 : i.toInt < 4
          · have A21 := A19.icmpYes (pc' := 73) d3_63 (tlt (ilt (x := i) (y := (4 : Int32)) rfl rfl c20)).1 (by decide) (by decide)
            have A22 := A21.iloadN (v := (31 : Int32)) (pc' := 74) d3_73 rfl rfl
            have A23 := A22.iloadN (v := i) (pc' := 75) d3_74 rfl rfl
            have A24 := A23.iconst (z := (1 : Int32)) (pc' := 76) d3_75 rfl rfl
            have A25 := A24.iushr (pc' := 77) d3_76 rfl
            have A26 := A25.isub (pc' := 78) d3_77 rfl
            refine A26.retI d3_78 (by decide) (by decide) ⟨_, rfl, ⟨rfl, ?_⟩⟩
            rw [own_nlz, if_pos c2, if_pos c8, if_pos c12, if_pos c16, if_pos c20]
          · have A27 := A19.icmpNo (pc' := 66) d3_63 (flt (inlt (x := i) (y := (4 : Int32)) rfl rfl c20)).1 rfl
            have A28 := A27.iinc (v := (31 : Int32)) (z := ((31 : Int32) + (-2 : Int32))) (Ls' := #[.val (.int i), .val (.int ((31 : Int32) + (-2 : Int32)))]) (pc' := 69) d3_66 rfl rfl rfl rfl
            have A29 := A28.iloadN (v := i) (pc' := 70) d3_69 rfl rfl
            have A30 := A29.iconst (z := (2 : Int32)) (pc' := 71) d3_70 rfl rfl
            have A31 := A30.iushr (pc' := 72) d3_71 rfl
            have A32 := A31.istoreN (Ls' := #[.val (.int ((i.toUInt32 >>> ((2 : Int32) &&& 31).toUInt32).toInt32)), .val (.int ((31 : Int32) + (-2 : Int32)))]) (pc' := 73) d3_72 rfl rfl
            have A33 := A32.iloadN (v := ((31 : Int32) + (-2 : Int32))) (pc' := 74) d3_73 rfl rfl
            have A34 := A33.iloadN (v := ((i.toUInt32 >>> ((2 : Int32) &&& 31).toUInt32).toInt32)) (pc' := 75) d3_74 rfl rfl
            have A35 := A34.iconst (z := (1 : Int32)) (pc' := 76) d3_75 rfl rfl
            have A36 := A35.iushr (pc' := 77) d3_76 rfl
            have A37 := A36.isub (pc' := 78) d3_77 rfl
            refine A37.retI d3_78 (by decide) (by decide) ⟨_, rfl, ⟨rfl, ?_⟩⟩
            rw [own_nlz, if_pos c2, if_pos c8, if_pos c12, if_pos c16, if_neg c20]
        · have A38 := A15.icmpNo (pc' := 54) d3_51 (flt (inlt (x := i) (y := (16 : Int32)) rfl rfl c16)).1 rfl
          have A39 := A38.iinc (v := (31 : Int32)) (z := ((31 : Int32) + (-4 : Int32))) (Ls' := #[.val (.int i), .val (.int ((31 : Int32) + (-4 : Int32)))]) (pc' := 57) d3_54 rfl rfl rfl rfl
          have A40 := A39.iloadN (v := i) (pc' := 58) d3_57 rfl rfl
          have A41 := A40.iconst (z := (4 : Int32)) (pc' := 59) d3_58 rfl rfl
          have A42 := A41.iushr (pc' := 60) d3_59 rfl
          have A43 := A42.istoreN (Ls' := #[.val (.int ((i.toUInt32 >>> ((4 : Int32) &&& 31).toUInt32).toInt32)), .val (.int ((31 : Int32) + (-4 : Int32)))]) (pc' := 61) d3_60 rfl rfl
          have A44 := A43.iloadN (v := ((i.toUInt32 >>> ((4 : Int32) &&& 31).toUInt32).toInt32)) (pc' := 62) d3_61 rfl rfl
          have A45 := A44.iconst (z := (4 : Int32)) (pc' := 63) d3_62 rfl rfl
          by_cases c46 : ((i.toUInt32 >>> ((4 : Int32) &&& 31).toUInt32).toInt32).toInt < 4
          · have A47 := A45.icmpYes (pc' := 73) d3_63 (tlt (ilt (x := ((i.toUInt32 >>> ((4 : Int32) &&& 31).toUInt32).toInt32)) (y := (4 : Int32)) rfl rfl c46)).1 (by decide) (by decide)
            have A48 := A47.iloadN (v := ((31 : Int32) + (-4 : Int32))) (pc' := 74) d3_73 rfl rfl
            have A49 := A48.iloadN (v := ((i.toUInt32 >>> ((4 : Int32) &&& 31).toUInt32).toInt32)) (pc' := 75) d3_74 rfl rfl
            have A50 := A49.iconst (z := (1 : Int32)) (pc' := 76) d3_75 rfl rfl
            have A51 := A50.iushr (pc' := 77) d3_76 rfl
            have A52 := A51.isub (pc' := 78) d3_77 rfl
            refine A52.retI d3_78 (by decide) (by decide) ⟨_, rfl, ⟨rfl, ?_⟩⟩
            rw [own_nlz, if_pos c2, if_pos c8, if_pos c12, if_neg c16, if_pos c46]
          · have A53 := A45.icmpNo (pc' := 66) d3_63 (flt (inlt (x := ((i.toUInt32 >>> ((4 : Int32) &&& 31).toUInt32).toInt32)) (y := (4 : Int32)) rfl rfl c46)).1 rfl
            have A54 := A53.iinc (v := ((31 : Int32) + (-4 : Int32))) (z := (((31 : Int32) + (-4 : Int32)) + (-2 : Int32))) (Ls' := #[.val (.int ((i.toUInt32 >>> ((4 : Int32) &&& 31).toUInt32).toInt32)), .val (.int (((31 : Int32) + (-4 : Int32)) + (-2 : Int32)))]) (pc' := 69) d3_66 rfl rfl rfl rfl
            have A55 := A54.iloadN (v := ((i.toUInt32 >>> ((4 : Int32) &&& 31).toUInt32).toInt32)) (pc' := 70) d3_69 rfl rfl
            have A56 := A55.iconst (z := (2 : Int32)) (pc' := 71) d3_70 rfl rfl
            have A57 := A56.iushr (pc' := 72) d3_71 rfl
            have A58 := A57.istoreN (Ls' := #[.val (.int ((((i.toUInt32 >>> ((4 : Int32) &&& 31).toUInt32).toInt32).toUInt32 >>> ((2 : Int32) &&& 31).toUInt32).toInt32)), .val (.int (((31 : Int32) + (-4 : Int32)) + (-2 : Int32)))]) (pc' := 73) d3_72 rfl rfl
            have A59 := A58.iloadN (v := (((31 : Int32) + (-4 : Int32)) + (-2 : Int32))) (pc' := 74) d3_73 rfl rfl
            have A60 := A59.iloadN (v := ((((i.toUInt32 >>> ((4 : Int32) &&& 31).toUInt32).toInt32).toUInt32 >>> ((2 : Int32) &&& 31).toUInt32).toInt32)) (pc' := 75) d3_74 rfl rfl
            have A61 := A60.iconst (z := (1 : Int32)) (pc' := 76) d3_75 rfl rfl
            have A62 := A61.iushr (pc' := 77) d3_76 rfl
            have A63 := A62.isub (pc' := 78) d3_77 rfl
            refine A63.retI d3_78 (by decide) (by decide) ⟨_, rfl, ⟨rfl, ?_⟩⟩
            rw [own_nlz, if_pos c2, if_pos c8, if_pos c12, if_neg c16, if_neg c46]
      · have A64 := A11.icmpNo (pc' := 40) d3_37 (flt (inlt (x := i) (y := (256 : Int32)) rfl rfl c12)).1 rfl
        have A65 := A64.iinc (v := (31 : Int32)) (z := ((31 : Int32) + (-8 : Int32))) (Ls' := #[.val (.int i), .val (.int ((31 : Int32) + (-8 : Int32)))]) (pc' := 43) d3_40 rfl rfl rfl rfl
        have A66 := A65.iloadN (v := i) (pc' := 44) d3_43 rfl rfl
        have A67 := A66.bipush (z := (8 : Int32)) (pc' := 46) d3_44 rfl rfl
        have A68 := A67.iushr (pc' := 47) d3_46 rfl
        have A69 := A68.istoreN (Ls' := #[.val (.int ((i.toUInt32 >>> ((8 : Int32) &&& 31).toUInt32).toInt32)), .val (.int ((31 : Int32) + (-8 : Int32)))]) (pc' := 48) d3_47 rfl rfl
        have A70 := A69.iloadN (v := ((i.toUInt32 >>> ((8 : Int32) &&& 31).toUInt32).toInt32)) (pc' := 49) d3_48 rfl rfl
        have A71 := A70.bipush (z := (16 : Int32)) (pc' := 51) d3_49 rfl rfl
        by_cases c72 : ((i.toUInt32 >>> ((8 : Int32) &&& 31).toUInt32).toInt32).toInt < 16
        · have A73 := A71.icmpYes (pc' := 61) d3_51 (tlt (ilt (x := ((i.toUInt32 >>> ((8 : Int32) &&& 31).toUInt32).toInt32)) (y := (16 : Int32)) rfl rfl c72)).1 (by decide) (by decide)
          have A74 := A73.iloadN (v := ((i.toUInt32 >>> ((8 : Int32) &&& 31).toUInt32).toInt32)) (pc' := 62) d3_61 rfl rfl
          have A75 := A74.iconst (z := (4 : Int32)) (pc' := 63) d3_62 rfl rfl
          by_cases c76 : ((i.toUInt32 >>> ((8 : Int32) &&& 31).toUInt32).toInt32).toInt < 4
          · have A77 := A75.icmpYes (pc' := 73) d3_63 (tlt (ilt (x := ((i.toUInt32 >>> ((8 : Int32) &&& 31).toUInt32).toInt32)) (y := (4 : Int32)) rfl rfl c76)).1 (by decide) (by decide)
            have A78 := A77.iloadN (v := ((31 : Int32) + (-8 : Int32))) (pc' := 74) d3_73 rfl rfl
            have A79 := A78.iloadN (v := ((i.toUInt32 >>> ((8 : Int32) &&& 31).toUInt32).toInt32)) (pc' := 75) d3_74 rfl rfl
            have A80 := A79.iconst (z := (1 : Int32)) (pc' := 76) d3_75 rfl rfl
            have A81 := A80.iushr (pc' := 77) d3_76 rfl
            have A82 := A81.isub (pc' := 78) d3_77 rfl
            refine A82.retI d3_78 (by decide) (by decide) ⟨_, rfl, ⟨rfl, ?_⟩⟩
            rw [own_nlz, if_pos c2, if_pos c8, if_neg c12, if_pos c72, if_pos c76]
          · have A83 := A75.icmpNo (pc' := 66) d3_63 (flt (inlt (x := ((i.toUInt32 >>> ((8 : Int32) &&& 31).toUInt32).toInt32)) (y := (4 : Int32)) rfl rfl c76)).1 rfl
            have A84 := A83.iinc (v := ((31 : Int32) + (-8 : Int32))) (z := (((31 : Int32) + (-8 : Int32)) + (-2 : Int32))) (Ls' := #[.val (.int ((i.toUInt32 >>> ((8 : Int32) &&& 31).toUInt32).toInt32)), .val (.int (((31 : Int32) + (-8 : Int32)) + (-2 : Int32)))]) (pc' := 69) d3_66 rfl rfl rfl rfl
            have A85 := A84.iloadN (v := ((i.toUInt32 >>> ((8 : Int32) &&& 31).toUInt32).toInt32)) (pc' := 70) d3_69 rfl rfl
            have A86 := A85.iconst (z := (2 : Int32)) (pc' := 71) d3_70 rfl rfl
            have A87 := A86.iushr (pc' := 72) d3_71 rfl
            have A88 := A87.istoreN (Ls' := #[.val (.int ((((i.toUInt32 >>> ((8 : Int32) &&& 31).toUInt32).toInt32).toUInt32 >>> ((2 : Int32) &&& 31).toUInt32).toInt32)), .val (.int (((31 : Int32) + (-8 : Int32)) + (-2 : Int32)))]) (pc' := 73) d3_72 rfl rfl
            have A89 := A88.iloadN (v := (((31 : Int32) + (-8 : Int32)) + (-2 : Int32))) (pc' := 74) d3_73 rfl rfl
            have A90 := A89.iloadN (v := ((((i.toUInt32 >>> ((8 : Int32) &&& 31).toUInt32).toInt32).toUInt32 >>> ((2 : Int32) &&& 31).toUInt32).toInt32)) (pc' := 75) d3_74 rfl rfl
            have A91 := A90.iconst (z := (1 : Int32)) (pc' := 76) d3_75 rfl rfl
            have A92 := A91.iushr (pc' := 77) d3_76 rfl
            have A93 := A92.isub (pc' := 78) d3_77 rfl
            refine A93.retI d3_78 (by decide) (by decide) ⟨_, rfl, ⟨rfl, ?_⟩⟩
            rw [own_nlz, if_pos c2, if_pos c8, if_neg c12, if_pos c72, if_neg c76]
        · have A94 := A71.icmpNo (pc' := 54) d3_51 (flt (inlt (x := ((i.toUInt32 >>> ((8 : Int32) &&& 31).toUInt32).toInt32)) (y := (16 : Int32)) rfl rfl c72)).1 rfl
          have A95 := A94.iinc (v := ((31 : Int32) + (-8 : Int32))) (z := (((31 : Int32) + (-8 : Int32)) + (-4 : Int32))) (Ls' := #[.val (.int ((i.toUInt32 >>> ((8 : Int32) &&& 31).toUInt32).toInt32)), .val (.int (((31 : Int32) + (-8 : Int32)) + (-4 : Int32)))]) (pc' := 57) d3_54 rfl rfl rfl rfl
          have A96 := A95.iloadN (v := ((i.toUInt32 >>> ((8 : Int32) &&& 31).toUInt32).toInt32)) (pc' := 58) d3_57 rfl rfl
          have A97 := A96.iconst (z := (4 : Int32)) (pc' := 59) d3_58 rfl rfl
          have A98 := A97.iushr (pc' := 60) d3_59 rfl
          have A99 := A98.istoreN (Ls' := #[.val (.int ((((i.toUInt32 >>> ((8 : Int32) &&& 31).toUInt32).toInt32).toUInt32 >>> ((4 : Int32) &&& 31).toUInt32).toInt32)), .val (.int (((31 : Int32) + (-8 : Int32)) + (-4 : Int32)))]) (pc' := 61) d3_60 rfl rfl
          have A100 := A99.iloadN (v := ((((i.toUInt32 >>> ((8 : Int32) &&& 31).toUInt32).toInt32).toUInt32 >>> ((4 : Int32) &&& 31).toUInt32).toInt32)) (pc' := 62) d3_61 rfl rfl
          have A101 := A100.iconst (z := (4 : Int32)) (pc' := 63) d3_62 rfl rfl
          by_cases c102 : ((((i.toUInt32 >>> ((8 : Int32) &&& 31).toUInt32).toInt32).toUInt32 >>> ((4 : Int32) &&& 31).toUInt32).toInt32).toInt < 4
          · have A103 := A101.icmpYes (pc' := 73) d3_63 (tlt (ilt (x := ((((i.toUInt32 >>> ((8 : Int32) &&& 31).toUInt32).toInt32).toUInt32 >>> ((4 : Int32) &&& 31).toUInt32).toInt32)) (y := (4 : Int32)) rfl rfl c102)).1 (by decide) (by decide)
            have A104 := A103.iloadN (v := (((31 : Int32) + (-8 : Int32)) + (-4 : Int32))) (pc' := 74) d3_73 rfl rfl
            have A105 := A104.iloadN (v := ((((i.toUInt32 >>> ((8 : Int32) &&& 31).toUInt32).toInt32).toUInt32 >>> ((4 : Int32) &&& 31).toUInt32).toInt32)) (pc' := 75) d3_74 rfl rfl
            have A106 := A105.iconst (z := (1 : Int32)) (pc' := 76) d3_75 rfl rfl
            have A107 := A106.iushr (pc' := 77) d3_76 rfl
            have A108 := A107.isub (pc' := 78) d3_77 rfl
            refine A108.retI d3_78 (by decide) (by decide) ⟨_, rfl, ⟨rfl, ?_⟩⟩
            rw [own_nlz, if_pos c2, if_pos c8, if_neg c12, if_neg c72, if_pos c102]
          · have A109 := A101.icmpNo (pc' := 66) d3_63 (flt (inlt (x := ((((i.toUInt32 >>> ((8 : Int32) &&& 31).toUInt32).toInt32).toUInt32 >>> ((4 : Int32) &&& 31).toUInt32).toInt32)) (y := (4 : Int32)) rfl rfl c102)).1 rfl
            have A110 := A109.iinc (v := (((31 : Int32) + (-8 : Int32)) + (-4 : Int32))) (z := ((((31 : Int32) + (-8 : Int32)) + (-4 : Int32)) + (-2 : Int32))) (Ls' := #[.val (.int ((((i.toUInt32 >>> ((8 : Int32) &&& 31).toUInt32).toInt32).toUInt32 >>> ((4 : Int32) &&& 31).toUInt32).toInt32)), .val (.int ((((31 : Int32) + (-8 : Int32)) + (-4 : Int32)) + (-2 : Int32)))]) (pc' := 69) d3_66 rfl rfl rfl rfl
            have A111 := A110.iloadN (v := ((((i.toUInt32 >>> ((8 : Int32) &&& 31).toUInt32).toInt32).toUInt32 >>> ((4 : Int32) &&& 31).toUInt32).toInt32)) (pc' := 70) d3_69 rfl rfl
            have A112 := A111.iconst (z := (2 : Int32)) (pc' := 71) d3_70 rfl rfl
            have A113 := A112.iushr (pc' := 72) d3_71 rfl
            have A114 := A113.istoreN (Ls' := #[.val (.int ((((((i.toUInt32 >>> ((8 : Int32) &&& 31).toUInt32).toInt32).toUInt32 >>> ((4 : Int32) &&& 31).toUInt32).toInt32).toUInt32 >>> ((2 : Int32) &&& 31).toUInt32).toInt32)), .val (.int ((((31 : Int32) + (-8 : Int32)) + (-4 : Int32)) + (-2 : Int32)))]) (pc' := 73) d3_72 rfl rfl
            have A115 := A114.iloadN (v := ((((31 : Int32) + (-8 : Int32)) + (-4 : Int32)) + (-2 : Int32))) (pc' := 74) d3_73 rfl rfl
            have A116 := A115.iloadN (v := ((((((i.toUInt32 >>> ((8 : Int32) &&& 31).toUInt32).toInt32).toUInt32 >>> ((4 : Int32) &&& 31).toUInt32).toInt32).toUInt32 >>> ((2 : Int32) &&& 31).toUInt32).toInt32)) (pc' := 75) d3_74 rfl rfl
            have A117 := A116.iconst (z := (1 : Int32)) (pc' := 76) d3_75 rfl rfl
            have A118 := A117.iushr (pc' := 77) d3_76 rfl
            have A119 := A118.isub (pc' := 78) d3_77 rfl
            refine A119.retI d3_78 (by decide) (by decide) ⟨_, rfl, ⟨rfl, ?_⟩⟩
            rw [own_nlz, if_pos c2, if_pos c8, if_neg c12, if_neg c72, if_neg c102]
    · have A120 := A7.icmpNo (pc' := 25) d3_22 (flt (inlt (x := i) (y := (65536 : Int32)) rfl rfl c8)).1 rfl
      have A121 := A120.iinc (v := (31 : Int32)) (z := ((31 : Int32) + (-16 : Int32))) (Ls' := #[.val (.int i), .val (.int ((31 : Int32) + (-16 : Int32)))]) (pc' := 28) d3_25 rfl rfl rfl rfl
      have A122 := A121.iloadN (v := i) (pc' := 29) d3_28 rfl rfl
      have A123 := A122.bipush (z := (16 : Int32)) (pc' := 31) d3_29 rfl rfl
      have A124 := A123.iushr (pc' := 32) d3_31 rfl
      have A125 := A124.istoreN (Ls' := #[.val (.int ((i.toUInt32 >>> ((16 : Int32) &&& 31).toUInt32).toInt32)), .val (.int ((31 : Int32) + (-16 : Int32)))]) (pc' := 33) d3_32 rfl rfl
      have A126 := A125.iloadN (v := ((i.toUInt32 >>> ((16 : Int32) &&& 31).toUInt32).toInt32)) (pc' := 34) d3_33 rfl rfl
      have A127 := A126.sipush (z := (256 : Int32)) (pc' := 37) d3_34 rfl rfl
      by_cases c128 : ((i.toUInt32 >>> ((16 : Int32) &&& 31).toUInt32).toInt32).toInt < 256
      · have A129 := A127.icmpYes (pc' := 48) d3_37 (tlt (ilt (x := ((i.toUInt32 >>> ((16 : Int32) &&& 31).toUInt32).toInt32)) (y := (256 : Int32)) rfl rfl c128)).1 (by decide) (by decide)
        have A130 := A129.iloadN (v := ((i.toUInt32 >>> ((16 : Int32) &&& 31).toUInt32).toInt32)) (pc' := 49) d3_48 rfl rfl
        have A131 := A130.bipush (z := (16 : Int32)) (pc' := 51) d3_49 rfl rfl
        by_cases c132 : ((i.toUInt32 >>> ((16 : Int32) &&& 31).toUInt32).toInt32).toInt < 16
        · have A133 := A131.icmpYes (pc' := 61) d3_51 (tlt (ilt (x := ((i.toUInt32 >>> ((16 : Int32) &&& 31).toUInt32).toInt32)) (y := (16 : Int32)) rfl rfl c132)).1 (by decide) (by decide)
          have A134 := A133.iloadN (v := ((i.toUInt32 >>> ((16 : Int32) &&& 31).toUInt32).toInt32)) (pc' := 62) d3_61 rfl rfl
          have A135 := A134.iconst (z := (4 : Int32)) (pc' := 63) d3_62 rfl rfl
          by_cases c136 : ((i.toUInt32 >>> ((16 : Int32) &&& 31).toUInt32).toInt32).toInt < 4
          · have A137 := A135.icmpYes (pc' := 73) d3_63 (tlt (ilt (x := ((i.toUInt32 >>> ((16 : Int32) &&& 31).toUInt32).toInt32)) (y := (4 : Int32)) rfl rfl c136)).1 (by decide) (by decide)
            have A138 := A137.iloadN (v := ((31 : Int32) + (-16 : Int32))) (pc' := 74) d3_73 rfl rfl
            have A139 := A138.iloadN (v := ((i.toUInt32 >>> ((16 : Int32) &&& 31).toUInt32).toInt32)) (pc' := 75) d3_74 rfl rfl
            have A140 := A139.iconst (z := (1 : Int32)) (pc' := 76) d3_75 rfl rfl
            have A141 := A140.iushr (pc' := 77) d3_76 rfl
            have A142 := A141.isub (pc' := 78) d3_77 rfl
            refine A142.retI d3_78 (by decide) (by decide) ⟨_, rfl, ⟨rfl, ?_⟩⟩
            rw [own_nlz, if_pos c2, if_neg c8, if_pos c128, if_pos c132, if_pos c136]
          · have A143 := A135.icmpNo (pc' := 66) d3_63 (flt (inlt (x := ((i.toUInt32 >>> ((16 : Int32) &&& 31).toUInt32).toInt32)) (y := (4 : Int32)) rfl rfl c136)).1 rfl
            have A144 := A143.iinc (v := ((31 : Int32) + (-16 : Int32))) (z := (((31 : Int32) + (-16 : Int32)) + (-2 : Int32))) (Ls' := #[.val (.int ((i.toUInt32 >>> ((16 : Int32) &&& 31).toUInt32).toInt32)), .val (.int (((31 : Int32) + (-16 : Int32)) + (-2 : Int32)))]) (pc' := 69) d3_66 rfl rfl rfl rfl
            have A145 := A144.iloadN (v := ((i.toUInt32 >>> ((16 : Int32) &&& 31).toUInt32).toInt32)) (pc' := 70) d3_69 rfl rfl
            have A146 := A145.iconst (z := (2 : Int32)) (pc' := 71) d3_70 rfl rfl
            have A147 := A146.iushr (pc' := 72) d3_71 rfl
            have A148 := A147.istoreN (Ls' := #[.val (.int ((((i.toUInt32 >>> ((16 : Int32) &&& 31).toUInt32).toInt32).toUInt32 >>> ((2 : Int32) &&& 31).toUInt32).toInt32)), .val (.int (((31 : Int32) + (-16 : Int32)) + (-2 : Int32)))]) (pc' := 73) d3_72 rfl rfl
            have A149 := A148.iloadN (v := (((31 : Int32) + (-16 : Int32)) + (-2 : Int32))) (pc' := 74) d3_73 rfl rfl
            have A150 := A149.iloadN (v := ((((i.toUInt32 >>> ((16 : Int32) &&& 31).toUInt32).toInt32).toUInt32 >>> ((2 : Int32) &&& 31).toUInt32).toInt32)) (pc' := 75) d3_74 rfl rfl
            have A151 := A150.iconst (z := (1 : Int32)) (pc' := 76) d3_75 rfl rfl
            have A152 := A151.iushr (pc' := 77) d3_76 rfl
            have A153 := A152.isub (pc' := 78) d3_77 rfl
            refine A153.retI d3_78 (by decide) (by decide) ⟨_, rfl, ⟨rfl, ?_⟩⟩
            rw [own_nlz, if_pos c2, if_neg c8, if_pos c128, if_pos c132, if_neg c136]
        · have A154 := A131.icmpNo (pc' := 54) d3_51 (flt (inlt (x := ((i.toUInt32 >>> ((16 : Int32) &&& 31).toUInt32).toInt32)) (y := (16 : Int32)) rfl rfl c132)).1 rfl
          have A155 := A154.iinc (v := ((31 : Int32) + (-16 : Int32))) (z := (((31 : Int32) + (-16 : Int32)) + (-4 : Int32))) (Ls' := #[.val (.int ((i.toUInt32 >>> ((16 : Int32) &&& 31).toUInt32).toInt32)), .val (.int (((31 : Int32) + (-16 : Int32)) + (-4 : Int32)))]) (pc' := 57) d3_54 rfl rfl rfl rfl
          have A156 := A155.iloadN (v := ((i.toUInt32 >>> ((16 : Int32) &&& 31).toUInt32).toInt32)) (pc' := 58) d3_57 rfl rfl
          have A157 := A156.iconst (z := (4 : Int32)) (pc' := 59) d3_58 rfl rfl
          have A158 := A157.iushr (pc' := 60) d3_59 rfl
          have A159 := A158.istoreN (Ls' := #[.val (.int ((((i.toUInt32 >>> ((16 : Int32) &&& 31).toUInt32).toInt32).toUInt32 >>> ((4 : Int32) &&& 31).toUInt32).toInt32)), .val (.int (((31 : Int32) + (-16 : Int32)) + (-4 : Int32)))]) (pc' := 61) d3_60 rfl rfl
          have A160 := A159.iloadN (v := ((((i.toUInt32 >>> ((16 : Int32) &&& 31).toUInt32).toInt32).toUInt32 >>> ((4 : Int32) &&& 31).toUInt32).toInt32)) (pc' := 62) d3_61 rfl rfl
          have A161 := A160.iconst (z := (4 : Int32)) (pc' := 63) d3_62 rfl rfl
          by_cases c162 : ((((i.toUInt32 >>> ((16 : Int32) &&& 31).toUInt32).toInt32).toUInt32 >>> ((4 : Int32) &&& 31).toUInt32).toInt32).toInt < 4
          · have A163 := A161.icmpYes (pc' := 73) d3_63 (tlt (ilt (x := ((((i.toUInt32 >>> ((16 : Int32) &&& 31).toUInt32).toInt32).toUInt32 >>> ((4 : Int32) &&& 31).toUInt32).toInt32)) (y := (4 : Int32)) rfl rfl c162)).1 (by decide) (by decide)
            have A164 := A163.iloadN (v := (((31 : Int32) + (-16 : Int32)) + (-4 : Int32))) (pc' := 74) d3_73 rfl rfl
            have A165 := A164.iloadN (v := ((((i.toUInt32 >>> ((16 : Int32) &&& 31).toUInt32).toInt32).toUInt32 >>> ((4 : Int32) &&& 31).toUInt32).toInt32)) (pc' := 75) d3_74 rfl rfl
            have A166 := A165.iconst (z := (1 : Int32)) (pc' := 76) d3_75 rfl rfl
            have A167 := A166.iushr (pc' := 77) d3_76 rfl
            have A168 := A167.isub (pc' := 78) d3_77 rfl
            refine A168.retI d3_78 (by decide) (by decide) ⟨_, rfl, ⟨rfl, ?_⟩⟩
            rw [own_nlz, if_pos c2, if_neg c8, if_pos c128, if_neg c132, if_pos c162]
          · have A169 := A161.icmpNo (pc' := 66) d3_63 (flt (inlt (x := ((((i.toUInt32 >>> ((16 : Int32) &&& 31).toUInt32).toInt32).toUInt32 >>> ((4 : Int32) &&& 31).toUInt32).toInt32)) (y := (4 : Int32)) rfl rfl c162)).1 rfl
            have A170 := A169.iinc (v := (((31 : Int32) + (-16 : Int32)) + (-4 : Int32))) (z := ((((31 : Int32) + (-16 : Int32)) + (-4 : Int32)) + (-2 : Int32))) (Ls' := #[.val (.int ((((i.toUInt32 >>> ((16 : Int32) &&& 31).toUInt32).toInt32).toUInt32 >>> ((4 : Int32) &&& 31).toUInt32).toInt32)), .val (.int ((((31 : Int32) + (-16 : Int32)) + (-4 : Int32)) + (-2 : Int32)))]) (pc' := 69) d3_66 rfl rfl rfl rfl
            have A171 := A170.iloadN (v := ((((i.toUInt32 >>> ((16 : Int32) &&& 31).toUInt32).toInt32).toUInt32 >>> ((4 : Int32) &&& 31).toUInt32).toInt32)) (pc' := 70) d3_69 rfl rfl
            have A172 := A171.iconst (z := (2 : Int32)) (pc' := 71) d3_70 rfl rfl
            have A173 := A172.iushr (pc' := 72) d3_71 rfl
            have A174 := A173.istoreN (Ls' := #[.val (.int ((((((i.toUInt32 >>> ((16 : Int32) &&& 31).toUInt32).toInt32).toUInt32 >>> ((4 : Int32) &&& 31).toUInt32).toInt32).toUInt32 >>> ((2 : Int32) &&& 31).toUInt32).toInt32)), .val (.int ((((31 : Int32) + (-16 : Int32)) + (-4 : Int32)) + (-2 : Int32)))]) (pc' := 73) d3_72 rfl rfl
            have A175 := A174.iloadN (v := ((((31 : Int32) + (-16 : Int32)) + (-4 : Int32)) + (-2 : Int32))) (pc' := 74) d3_73 rfl rfl
            have A176 := A175.iloadN (v := ((((((i.toUInt32 >>> ((16 : Int32) &&& 31).toUInt32).toInt32).toUInt32 >>> ((4 : Int32) &&& 31).toUInt32).toInt32).toUInt32 >>> ((2 : Int32) &&& 31).toUInt32).toInt32)) (pc' := 75) d3_74 rfl rfl
            have A177 := A176.iconst (z := (1 : Int32)) (pc' := 76) d3_75 rfl rfl
            have A178 := A177.iushr (pc' := 77) d3_76 rfl
            have A179 := A178.isub (pc' := 78) d3_77 rfl
            refine A179.retI d3_78 (by decide) (by decide) ⟨_, rfl, ⟨rfl, ?_⟩⟩
            rw [own_nlz, if_pos c2, if_neg c8, if_pos c128, if_neg c132, if_neg c162]
      · have A180 := A127.icmpNo (pc' := 40) d3_37 (flt (inlt (x := ((i.toUInt32 >>> ((16 : Int32) &&& 31).toUInt32).toInt32)) (y := (256 : Int32)) rfl rfl c128)).1 rfl
        have A181 := A180.iinc (v := ((31 : Int32) + (-16 : Int32))) (z := (((31 : Int32) + (-16 : Int32)) + (-8 : Int32))) (Ls' := #[.val (.int ((i.toUInt32 >>> ((16 : Int32) &&& 31).toUInt32).toInt32)), .val (.int (((31 : Int32) + (-16 : Int32)) + (-8 : Int32)))]) (pc' := 43) d3_40 rfl rfl rfl rfl
        have A182 := A181.iloadN (v := ((i.toUInt32 >>> ((16 : Int32) &&& 31).toUInt32).toInt32)) (pc' := 44) d3_43 rfl rfl
        have A183 := A182.bipush (z := (8 : Int32)) (pc' := 46) d3_44 rfl rfl
        have A184 := A183.iushr (pc' := 47) d3_46 rfl
        have A185 := A184.istoreN (Ls' := #[.val (.int ((((i.toUInt32 >>> ((16 : Int32) &&& 31).toUInt32).toInt32).toUInt32 >>> ((8 : Int32) &&& 31).toUInt32).toInt32)), .val (.int (((31 : Int32) + (-16 : Int32)) + (-8 : Int32)))]) (pc' := 48) d3_47 rfl rfl
        have A186 := A185.iloadN (v := ((((i.toUInt32 >>> ((16 : Int32) &&& 31).toUInt32).toInt32).toUInt32 >>> ((8 : Int32) &&& 31).toUInt32).toInt32)) (pc' := 49) d3_48 rfl rfl
        have A187 := A186.bipush (z := (16 : Int32)) (pc' := 51) d3_49 rfl rfl
        by_cases c188 : ((((i.toUInt32 >>> ((16 : Int32) &&& 31).toUInt32).toInt32).toUInt32 >>> ((8 : Int32) &&& 31).toUInt32).toInt32).toInt < 16
        · have A189 := A187.icmpYes (pc' := 61) d3_51 (tlt (ilt (x := ((((i.toUInt32 >>> ((16 : Int32) &&& 31).toUInt32).toInt32).toUInt32 >>> ((8 : Int32) &&& 31).toUInt32).toInt32)) (y := (16 : Int32)) rfl rfl c188)).1 (by decide) (by decide)
          have A190 := A189.iloadN (v := ((((i.toUInt32 >>> ((16 : Int32) &&& 31).toUInt32).toInt32).toUInt32 >>> ((8 : Int32) &&& 31).toUInt32).toInt32)) (pc' := 62) d3_61 rfl rfl
          have A191 := A190.iconst (z := (4 : Int32)) (pc' := 63) d3_62 rfl rfl
          by_cases c192 : ((((i.toUInt32 >>> ((16 : Int32) &&& 31).toUInt32).toInt32).toUInt32 >>> ((8 : Int32) &&& 31).toUInt32).toInt32).toInt < 4
          · have A193 := A191.icmpYes (pc' := 73) d3_63 (tlt (ilt (x := ((((i.toUInt32 >>> ((16 : Int32) &&& 31).toUInt32).toInt32).toUInt32 >>> ((8 : Int32) &&& 31).toUInt32).toInt32)) (y := (4 : Int32)) rfl rfl c192)).1 (by decide) (by decide)
            have A194 := A193.iloadN (v := (((31 : Int32) + (-16 : Int32)) + (-8 : Int32))) (pc' := 74) d3_73 rfl rfl
            have A195 := A194.iloadN (v := ((((i.toUInt32 >>> ((16 : Int32) &&& 31).toUInt32).toInt32).toUInt32 >>> ((8 : Int32) &&& 31).toUInt32).toInt32)) (pc' := 75) d3_74 rfl rfl
            have A196 := A195.iconst (z := (1 : Int32)) (pc' := 76) d3_75 rfl rfl
            have A197 := A196.iushr (pc' := 77) d3_76 rfl
            have A198 := A197.isub (pc' := 78) d3_77 rfl
            refine A198.retI d3_78 (by decide) (by decide) ⟨_, rfl, ⟨rfl, ?_⟩⟩
            rw [own_nlz, if_pos c2, if_neg c8, if_neg c128, if_pos c188, if_pos c192]
          · have A199 := A191.icmpNo (pc' := 66) d3_63 (flt (inlt (x := ((((i.toUInt32 >>> ((16 : Int32) &&& 31).toUInt32).toInt32).toUInt32 >>> ((8 : Int32) &&& 31).toUInt32).toInt32)) (y := (4 : Int32)) rfl rfl c192)).1 rfl
            have A200 := A199.iinc (v := (((31 : Int32) + (-16 : Int32)) + (-8 : Int32))) (z := ((((31 : Int32) + (-16 : Int32)) + (-8 : Int32)) + (-2 : Int32))) (Ls' := #[.val (.int ((((i.toUInt32 >>> ((16 : Int32) &&& 31).toUInt32).toInt32).toUInt32 >>> ((8 : Int32) &&& 31).toUInt32).toInt32)), .val (.int ((((31 : Int32) + (-16 : Int32)) + (-8 : Int32)) + (-2 : Int32)))]) (pc' := 69) d3_66 rfl rfl rfl rfl
            have A201 := A200.iloadN (v := ((((i.toUInt32 >>> ((16 : Int32) &&& 31).toUInt32).toInt32).toUInt32 >>> ((8 : Int32) &&& 31).toUInt32).toInt32)) (pc' := 70) d3_69 rfl rfl
            have A202 := A201.iconst (z := (2 : Int32)) (pc' := 71) d3_70 rfl rfl
            have A203 := A202.iushr (pc' := 72) d3_71 rfl
            have A204 := A203.istoreN (Ls' := #[.val (.int ((((((i.toUInt32 >>> ((16 : Int32) &&& 31).toUInt32).toInt32).toUInt32 >>> ((8 : Int32) &&& 31).toUInt32).toInt32).toUInt32 >>> ((2 : Int32) &&& 31).toUInt32).toInt32)), .val (.int ((((31 : Int32) + (-16 : Int32)) + (-8 : Int32)) + (-2 : Int32)))]) (pc' := 73) d3_72 rfl rfl
            have A205 := A204.iloadN (v := ((((31 : Int32) + (-16 : Int32)) + (-8 : Int32)) + (-2 : Int32))) (pc' := 74) d3_73 rfl rfl
            have A206 := A205.iloadN (v := ((((((i.toUInt32 >>> ((16 : Int32) &&& 31).toUInt32).toInt32).toUInt32 >>> ((8 : Int32) &&& 31).toUInt32).toInt32).toUInt32 >>> ((2 : Int32) &&& 31).toUInt32).toInt32)) (pc' := 75) d3_74 rfl rfl
            have A207 := A206.iconst (z := (1 : Int32)) (pc' := 76) d3_75 rfl rfl
            have A208 := A207.iushr (pc' := 77) d3_76 rfl
            have A209 := A208.isub (pc' := 78) d3_77 rfl
            refine A209.retI d3_78 (by decide) (by decide) ⟨_, rfl, ⟨rfl, ?_⟩⟩
            rw [own_nlz, if_pos c2, if_neg c8, if_neg c128, if_pos c188, if_neg c192]
        · have A210 := A187.icmpNo (pc' := 54) d3_51 (flt (inlt (x := ((((i.toUInt32 >>> ((16 : Int32) &&& 31).toUInt32).toInt32).toUInt32 >>> ((8 : Int32) &&& 31).toUInt32).toInt32)) (y := (16 : Int32)) rfl rfl c188)).1 rfl
          have A211 := A210.iinc (v := (((31 : Int32) + (-16 : Int32)) + (-8 : Int32))) (z := ((((31 : Int32) + (-16 : Int32)) + (-8 : Int32)) + (-4 : Int32))) (Ls' := #[.val (.int ((((i.toUInt32 >>> ((16 : Int32) &&& 31).toUInt32).toInt32).toUInt32 >>> ((8 : Int32) &&& 31).toUInt32).toInt32)), .val (.int ((((31 : Int32) + (-16 : Int32)) + (-8 : Int32)) + (-4 : Int32)))]) (pc' := 57) d3_54 rfl rfl rfl rfl
          have A212 := A211.iloadN (v := ((((i.toUInt32 >>> ((16 : Int32) &&& 31).toUInt32).toInt32).toUInt32 >>> ((8 : Int32) &&& 31).toUInt32).toInt32)) (pc' := 58) d3_57 rfl rfl
          have A213 := A212.iconst (z := (4 : Int32)) (pc' := 59) d3_58 rfl rfl
          have A214 := A213.iushr (pc' := 60) d3_59 rfl
          have A215 := A214.istoreN (Ls' := #[.val (.int ((((((i.toUInt32 >>> ((16 : Int32) &&& 31).toUInt32).toInt32).toUInt32 >>> ((8 : Int32) &&& 31).toUInt32).toInt32).toUInt32 >>> ((4 : Int32) &&& 31).toUInt32).toInt32)), .val (.int ((((31 : Int32) + (-16 : Int32)) + (-8 : Int32)) + (-4 : Int32)))]) (pc' := 61) d3_60 rfl rfl
          have A216 := A215.iloadN (v := ((((((i.toUInt32 >>> ((16 : Int32) &&& 31).toUInt32).toInt32).toUInt32 >>> ((8 : Int32) &&& 31).toUInt32).toInt32).toUInt32 >>> ((4 : Int32) &&& 31).toUInt32).toInt32)) (pc' := 62) d3_61 rfl rfl
          have A217 := A216.iconst (z := (4 : Int32)) (pc' := 63) d3_62 rfl rfl
          by_cases c218 : ((((((i.toUInt32 >>> ((16 : Int32) &&& 31).toUInt32).toInt32).toUInt32 >>> ((8 : Int32) &&& 31).toUInt32).toInt32).toUInt32 >>> ((4 : Int32) &&& 31).toUInt32).toInt32).toInt < 4
          · have A219 := A217.icmpYes (pc' := 73) d3_63 (tlt (ilt (x := ((((((i.toUInt32 >>> ((16 : Int32) &&& 31).toUInt32).toInt32).toUInt32 >>> ((8 : Int32) &&& 31).toUInt32).toInt32).toUInt32 >>> ((4 : Int32) &&& 31).toUInt32).toInt32)) (y := (4 : Int32)) rfl rfl c218)).1 (by decide) (by decide)
            have A220 := A219.iloadN (v := ((((31 : Int32) + (-16 : Int32)) + (-8 : Int32)) + (-4 : Int32))) (pc' := 74) d3_73 rfl rfl
            have A221 := A220.iloadN (v := ((((((i.toUInt32 >>> ((16 : Int32) &&& 31).toUInt32).toInt32).toUInt32 >>> ((8 : Int32) &&& 31).toUInt32).toInt32).toUInt32 >>> ((4 : Int32) &&& 31).toUInt32).toInt32)) (pc' := 75) d3_74 rfl rfl
            have A222 := A221.iconst (z := (1 : Int32)) (pc' := 76) d3_75 rfl rfl
            have A223 := A222.iushr (pc' := 77) d3_76 rfl
            have A224 := A223.isub (pc' := 78) d3_77 rfl
            refine A224.retI d3_78 (by decide) (by decide) ⟨_, rfl, ⟨rfl, ?_⟩⟩
            rw [own_nlz, if_pos c2, if_neg c8, if_neg c128, if_neg c188, if_pos c218]
          · have A225 := A217.icmpNo (pc' := 66) d3_63 (flt (inlt (x := ((((((i.toUInt32 >>> ((16 : Int32) &&& 31).toUInt32).toInt32).toUInt32 >>> ((8 : Int32) &&& 31).toUInt32).toInt32).toUInt32 >>> ((4 : Int32) &&& 31).toUInt32).toInt32)) (y := (4 : Int32)) rfl rfl c218)).1 rfl
            have A226 := A225.iinc (v := ((((31 : Int32) + (-16 : Int32)) + (-8 : Int32)) + (-4 : Int32))) (z := (((((31 : Int32) + (-16 : Int32)) + (-8 : Int32)) + (-4 : Int32)) + (-2 : Int32))) (Ls' := #[.val (.int ((((((i.toUInt32 >>> ((16 : Int32) &&& 31).toUInt32).toInt32).toUInt32 >>> ((8 : Int32) &&& 31).toUInt32).toInt32).toUInt32 >>> ((4 : Int32) &&& 31).toUInt32).toInt32)), .val (.int (((((31 : Int32) + (-16 : Int32)) + (-8 : Int32)) + (-4 : Int32)) + (-2 : Int32)))]) (pc' := 69) d3_66 rfl rfl rfl rfl
            have A227 := A226.iloadN (v := ((((((i.toUInt32 >>> ((16 : Int32) &&& 31).toUInt32).toInt32).toUInt32 >>> ((8 : Int32) &&& 31).toUInt32).toInt32).toUInt32 >>> ((4 : Int32) &&& 31).toUInt32).toInt32)) (pc' := 70) d3_69 rfl rfl
            have A228 := A227.iconst (z := (2 : Int32)) (pc' := 71) d3_70 rfl rfl
            have A229 := A228.iushr (pc' := 72) d3_71 rfl
            have A230 := A229.istoreN (Ls' := #[.val (.int ((((((((i.toUInt32 >>> ((16 : Int32) &&& 31).toUInt32).toInt32).toUInt32 >>> ((8 : Int32) &&& 31).toUInt32).toInt32).toUInt32 >>> ((4 : Int32) &&& 31).toUInt32).toInt32).toUInt32 >>> ((2 : Int32) &&& 31).toUInt32).toInt32)), .val (.int (((((31 : Int32) + (-16 : Int32)) + (-8 : Int32)) + (-4 : Int32)) + (-2 : Int32)))]) (pc' := 73) d3_72 rfl rfl
            have A231 := A230.iloadN (v := (((((31 : Int32) + (-16 : Int32)) + (-8 : Int32)) + (-4 : Int32)) + (-2 : Int32))) (pc' := 74) d3_73 rfl rfl
            have A232 := A231.iloadN (v := ((((((((i.toUInt32 >>> ((16 : Int32) &&& 31).toUInt32).toInt32).toUInt32 >>> ((8 : Int32) &&& 31).toUInt32).toInt32).toUInt32 >>> ((4 : Int32) &&& 31).toUInt32).toInt32).toUInt32 >>> ((2 : Int32) &&& 31).toUInt32).toInt32)) (pc' := 75) d3_74 rfl rfl
            have A233 := A232.iconst (z := (1 : Int32)) (pc' := 76) d3_75 rfl rfl
            have A234 := A233.iushr (pc' := 77) d3_76 rfl
            have A235 := A234.isub (pc' := 78) d3_77 rfl
            refine A235.retI d3_78 (by decide) (by decide) ⟨_, rfl, ⟨rfl, ?_⟩⟩
            rw [own_nlz, if_pos c2, if_neg c8, if_neg c128, if_neg c188, if_neg c218]
  · have A236 := A1.ifNo (pc' := 4) d3_1 (flt (ingt (x := i) (y := (0 : Int32)) rfl rfl c2)).2.2.1 rfl
    have A237 := A236.iloadN (v := i) (pc' := 5) d3_4 rfl rfl
    by_cases c238 : i.toInt = 0
    · have A239 := A237.ifNo (pc' := 8) d3_5 (teq (ieq (x := i) (y := (0 : Int32)) rfl rfl c238)).2 rfl
      have A240 := A239.bipush (z := (32 : Int32)) (pc' := 10) d3_8 rfl rfl
      have A241 := A240.goto (pc' := 14) d3_10 (by decide) (by decide)
      refine A241.retI d3_14 (by decide) (by decide) ⟨_, rfl, ⟨rfl, ?_⟩⟩
      have e1 : (32 : Int32).toInt = 32 := rfl
      rw [own_nlz, if_neg c2, if_pos c238]
    · have A242 := A237.ifYes (pc' := 13) d3_5 (feq (ine (x := i) (y := (0 : Int32)) rfl rfl c238)).2 (by decide) (by decide)
      have A243 := A242.iconst (z := (0 : Int32)) (pc' := 14) d3_13 rfl rfl
      refine A243.retI d3_14 (by decide) (by decide) ⟨_, rfl, ⟨rfl, ?_⟩⟩
      have e1 : (0 : Int32).toInt = 0 := rfl
      rw [own_nlz, if_neg c2, if_neg c238]
def own_cl (c : Int32) : Int32 := if c.toInt < 40 then c else ((((8 : Int32) + ((c - (40 : Int32)) % (8 : Int32))) <<< ((((c - (40 : Int32)) / (8 : Int32)) + (1 : Int32)) &&& 31)) + (24 : Int32))
theorem pn1 : plainFor (⟨"com/example/best_plus_rest/bestplusrest/scoring/Bm25Model", "codedLength", "(I)I"⟩ : MethodName) = true := by first | exact plainFor_of_name (by first | (simp [plainName, overriddenIn]; done) | decide +kernel) | exact Jvm.Free.JP.mathPlain rfl (by decide +kernel) | decide +kernel
theorem d1_0 : decode prog_13_method_6_code 0 = .ok (.iload_n 0, 1) := by decide +kernel
theorem d1_1 : decode prog_13_method_6_code 1 = .ok (.bipush 40, 2) := by decide +kernel
theorem d1_3 : decode prog_13_method_6_code 3 = .ok (.if_icmp .ge 5, 3) := by decide +kernel
theorem d1_6 : decode prog_13_method_6_code 6 = .ok (.iload_n 0, 1) := by decide +kernel
theorem d1_7 : decode prog_13_method_6_code 7 = .ok (.ireturn, 1) := by decide +kernel
theorem d1_8 : decode prog_13_method_6_code 8 = .ok (.iload_n 0, 1) := by decide +kernel
theorem d1_9 : decode prog_13_method_6_code 9 = .ok (.bipush 40, 2) := by decide +kernel
theorem d1_11 : decode prog_13_method_6_code 11 = .ok (.isub, 1) := by decide +kernel
theorem d1_12 : decode prog_13_method_6_code 12 = .ok (.istore_n 1, 1) := by decide +kernel
theorem d1_13 : decode prog_13_method_6_code 13 = .ok (.iload_n 1, 1) := by decide +kernel
theorem d1_14 : decode prog_13_method_6_code 14 = .ok (.bipush 8, 2) := by decide +kernel
theorem d1_16 : decode prog_13_method_6_code 16 = .ok (.idiv, 1) := by decide +kernel
theorem d1_17 : decode prog_13_method_6_code 17 = .ok (.iconst 1, 1) := by decide +kernel
theorem d1_18 : decode prog_13_method_6_code 18 = .ok (.iadd, 1) := by decide +kernel
theorem d1_19 : decode prog_13_method_6_code 19 = .ok (.istore_n 2, 1) := by decide +kernel
theorem d1_20 : decode prog_13_method_6_code 20 = .ok (.bipush 8, 2) := by decide +kernel
theorem d1_22 : decode prog_13_method_6_code 22 = .ok (.iload_n 1, 1) := by decide +kernel
theorem d1_23 : decode prog_13_method_6_code 23 = .ok (.bipush 8, 2) := by decide +kernel
theorem d1_25 : decode prog_13_method_6_code 25 = .ok (.irem, 1) := by decide +kernel
theorem d1_26 : decode prog_13_method_6_code 26 = .ok (.iadd, 1) := by decide +kernel
theorem d1_27 : decode prog_13_method_6_code 27 = .ok (.istore_n 3, 1) := by decide +kernel
theorem d1_28 : decode prog_13_method_6_code 28 = .ok (.iload_n 3, 1) := by decide +kernel
theorem d1_29 : decode prog_13_method_6_code 29 = .ok (.iload_n 2, 1) := by decide +kernel
theorem d1_30 : decode prog_13_method_6_code 30 = .ok (.ishl, 1) := by decide +kernel
theorem d1_31 : decode prog_13_method_6_code 31 = .ok (.bipush 24, 2) := by decide +kernel
theorem d1_33 : decode prog_13_method_6_code 33 = .ok (.iadd, 1) := by decide +kernel
theorem d1_34 : decode prog_13_method_6_code 34 = .ok (.ireturn, 1) := by decide +kernel
abbrev y1 : MethodName := (⟨"com/example/best_plus_rest/bestplusrest/scoring/Bm25Model", "codedLength", "(I)I"⟩ : MethodName)
abbrev R1 : Room := { frames := 0, cells := 0, slots := 0, locals := 0 }
set_option maxRecDepth 65536 in
set_option maxHeartbeats 4000000 in
theorem ef1 (c : Int32) (m : MethodId) : entryFrame m #[(.int c)] 4 = mkF m 0 #[.val (.int c), .unset, .unset, .unset] [] := by first | (simp [entryFrame, mkF, argsToLocals, Value.category]; done) | rfl
set_option maxRecDepth 65536 in
set_option maxHeartbeats 40000000 in
theorem rm1 (l : Launch) (Z : State) (a0 : Array Value) (hw : ∀ d ∈ tables_1, d.before a0 Z = true) (n0 : Nat) (ws : List Jvm.Cond) (c : Int32)  (h0 : Heap) (hn0 : n0 ≤ h0.size)  :
    Ctr l Z n0 y1 prog_13_method_6_code 4 (some .int) ws R1 #[(.int c)] h0 (QI fun r h => (h0 = h) ∧ (r = (own_cl c))) := by
  refine ctr_of pn1 hn0 (ef1 c) fun G A0 => ?_
  have A1 := A0.iloadN (v := c) (pc' := 1) d1_0 rfl rfl
  have A2 := A1.bipush (z := (40 : Int32)) (pc' := 3) d1_1 rfl rfl
  by_cases c3 : c.toInt < 40
  · have A4 := A2.icmpNo (pc' := 6) d1_3 (tlt (ilt (x := c) (y := (40 : Int32)) rfl rfl c3)).2.1 rfl
    have A5 := A4.iloadN (v := c) (pc' := 7) d1_6 rfl rfl
    refine A5.retI d1_7 (by decide) (by decide) ⟨_, rfl, ⟨rfl, ?_⟩⟩
    rw [own_cl, if_pos c3]
  · have A6 := A2.icmpYes (pc' := 8) d1_3 (flt (inlt (x := c) (y := (40 : Int32)) rfl rfl c3)).2.1 (by decide) (by decide)
    have A7 := A6.iloadN (v := c) (pc' := 9) d1_8 rfl rfl
    have A8 := A7.bipush (z := (40 : Int32)) (pc' := 11) d1_9 rfl rfl
    have A9 := A8.isub (pc' := 12) d1_11 rfl
    have A10 := A9.istoreN (Ls' := #[.val (.int c), .val (.int (c - (40 : Int32))), .unset, .unset]) (pc' := 13) d1_12 rfl rfl
    have A11 := A10.iloadN (v := (c - (40 : Int32))) (pc' := 14) d1_13 rfl rfl
    have A12 := A11.bipush (z := (8 : Int32)) (pc' := 16) d1_14 rfl rfl
    have A13 := A12.idiv (pc' := 17) d1_16 (by decide) rfl
    have A14 := A13.iconst (z := (1 : Int32)) (pc' := 18) d1_17 rfl rfl
    have A15 := A14.iadd (pc' := 19) d1_18 rfl
    have A16 := A15.istoreN (Ls' := #[.val (.int c), .val (.int (c - (40 : Int32))), .val (.int (((c - (40 : Int32)) / (8 : Int32)) + (1 : Int32))), .unset]) (pc' := 20) d1_19 rfl rfl
    have A17 := A16.bipush (z := (8 : Int32)) (pc' := 22) d1_20 rfl rfl
    have A18 := A17.iloadN (v := (c - (40 : Int32))) (pc' := 23) d1_22 rfl rfl
    have A19 := A18.bipush (z := (8 : Int32)) (pc' := 25) d1_23 rfl rfl
    have A20 := A19.irem (pc' := 26) d1_25 (by decide) rfl
    have A21 := A20.iadd (pc' := 27) d1_26 rfl
    have A22 := A21.istoreN (Ls' := #[.val (.int c), .val (.int (c - (40 : Int32))), .val (.int (((c - (40 : Int32)) / (8 : Int32)) + (1 : Int32))), .val (.int ((8 : Int32) + ((c - (40 : Int32)) % (8 : Int32))))]) (pc' := 28) d1_27 rfl rfl
    have A23 := A22.iloadN (v := ((8 : Int32) + ((c - (40 : Int32)) % (8 : Int32)))) (pc' := 29) d1_28 rfl rfl
    have A24 := A23.iloadN (v := (((c - (40 : Int32)) / (8 : Int32)) + (1 : Int32))) (pc' := 30) d1_29 rfl rfl
    have A25 := A24.ishl (pc' := 31) d1_30 rfl
    have A26 := A25.bipush (z := (24 : Int32)) (pc' := 33) d1_31 rfl rfl
    have A27 := A26.iadd (pc' := 34) d1_33 rfl
    refine A27.retI d1_34 (by decide) (by decide) ⟨_, rfl, ⟨rfl, ?_⟩⟩
    rw [own_cl, if_neg c3]
def own_lc (n : Int32) : Int32 := if (n - (24 : Int32)).toInt < 16 then n else ((((40 : Int32) + (((((32 : Int32) - (own_nlz (n - (24 : Int32)))) - (4 : Int32)) - (1 : Int32)) * (8 : Int32))) + (((n - (24 : Int32)).toUInt32 >>> ((((32 : Int32) - (own_nlz (n - (24 : Int32)))) - (4 : Int32)) &&& 31).toUInt32).toInt32)) - (8 : Int32))
theorem pn2 : plainFor (⟨"com/example/best_plus_rest/bestplusrest/scoring/Bm25Model", "lengthCode", "(I)I"⟩ : MethodName) = true := by first | exact plainFor_of_name (by first | (simp [plainName, overriddenIn]; done) | decide +kernel) | exact Jvm.Free.JP.mathPlain rfl (by decide +kernel) | decide +kernel
theorem d2_0 : decode prog_13_method_5_code 0 = .ok (.iload_n 0, 1) := by decide +kernel
theorem d2_1 : decode prog_13_method_5_code 1 = .ok (.bipush 24, 2) := by decide +kernel
theorem d2_3 : decode prog_13_method_5_code 3 = .ok (.isub, 1) := by decide +kernel
theorem d2_4 : decode prog_13_method_5_code 4 = .ok (.istore_n 1, 1) := by decide +kernel
theorem d2_5 : decode prog_13_method_5_code 5 = .ok (.iload_n 1, 1) := by decide +kernel
theorem d2_6 : decode prog_13_method_5_code 6 = .ok (.bipush 16, 2) := by decide +kernel
theorem d2_8 : decode prog_13_method_5_code 8 = .ok (.if_icmp .ge 5, 3) := by decide +kernel
theorem d2_11 : decode prog_13_method_5_code 11 = .ok (.iload_n 0, 1) := by decide +kernel
theorem d2_12 : decode prog_13_method_5_code 12 = .ok (.ireturn, 1) := by decide +kernel
theorem d2_13 : decode prog_13_method_5_code 13 = .ok (.bipush 32, 2) := by decide +kernel
theorem d2_15 : decode prog_13_method_5_code 15 = .ok (.iload_n 1, 1) := by decide +kernel
theorem d2_16 : decode prog_13_method_5_code 16 = .ok (.invokestatic 26, 3) := by decide +kernel
theorem d2_19 : decode prog_13_method_5_code 19 = .ok (.isub, 1) := by decide +kernel
theorem d2_20 : decode prog_13_method_5_code 20 = .ok (.istore_n 2, 1) := by decide +kernel
theorem d2_21 : decode prog_13_method_5_code 21 = .ok (.iload_n 1, 1) := by decide +kernel
theorem d2_22 : decode prog_13_method_5_code 22 = .ok (.iload_n 2, 1) := by decide +kernel
theorem d2_23 : decode prog_13_method_5_code 23 = .ok (.iconst 4, 1) := by decide +kernel
theorem d2_24 : decode prog_13_method_5_code 24 = .ok (.isub, 1) := by decide +kernel
theorem d2_25 : decode prog_13_method_5_code 25 = .ok (.iushr, 1) := by decide +kernel
theorem d2_26 : decode prog_13_method_5_code 26 = .ok (.istore_n 3, 1) := by decide +kernel
theorem d2_27 : decode prog_13_method_5_code 27 = .ok (.bipush 40, 2) := by decide +kernel
theorem d2_29 : decode prog_13_method_5_code 29 = .ok (.iload_n 2, 1) := by decide +kernel
theorem d2_30 : decode prog_13_method_5_code 30 = .ok (.iconst 4, 1) := by decide +kernel
theorem d2_31 : decode prog_13_method_5_code 31 = .ok (.isub, 1) := by decide +kernel
theorem d2_32 : decode prog_13_method_5_code 32 = .ok (.iconst 1, 1) := by decide +kernel
theorem d2_33 : decode prog_13_method_5_code 33 = .ok (.isub, 1) := by decide +kernel
theorem d2_34 : decode prog_13_method_5_code 34 = .ok (.bipush 8, 2) := by decide +kernel
theorem d2_36 : decode prog_13_method_5_code 36 = .ok (.imul, 1) := by decide +kernel
theorem d2_37 : decode prog_13_method_5_code 37 = .ok (.iadd, 1) := by decide +kernel
theorem d2_38 : decode prog_13_method_5_code 38 = .ok (.iload_n 3, 1) := by decide +kernel
theorem d2_39 : decode prog_13_method_5_code 39 = .ok (.iadd, 1) := by decide +kernel
theorem d2_40 : decode prog_13_method_5_code 40 = .ok (.bipush 8, 2) := by decide +kernel
theorem d2_42 : decode prog_13_method_5_code 42 = .ok (.isub, 1) := by decide +kernel
theorem d2_43 : decode prog_13_method_5_code 43 = .ok (.ireturn, 1) := by decide +kernel
abbrev y2 : MethodName := (⟨"com/example/best_plus_rest/bestplusrest/scoring/Bm25Model", "lengthCode", "(I)I"⟩ : MethodName)
abbrev R2 : Room := { frames := 1, cells := 0, slots := 0, locals := 14 }
set_option maxRecDepth 65536 in
set_option maxHeartbeats 4000000 in
theorem ef2 (n : Int32) (m : MethodId) : entryFrame m #[(.int n)] 4 = mkF m 0 #[.val (.int n), .unset, .unset, .unset] [] := by first | (simp [entryFrame, mkF, argsToLocals, Value.category]; done) | rfl
set_option maxRecDepth 65536 in
set_option maxHeartbeats 40000000 in
theorem rm2 (l : Launch) (Z : State) (a0 : Array Value) (hw : ∀ d ∈ tables_1, d.before a0 Z = true) (n0 : Nat) (ws : List Jvm.Cond) (n : Int32)  (h0 : Heap) (hn0 : n0 ≤ h0.size)  :
    Ctr l Z n0 y2 prog_13_method_5_code 4 (some .int) ws R2 #[(.int n)] h0 (QI fun r h => (h0 = h) ∧ (r = (own_lc n))) := by
  refine ctr_of pn2 hn0 (ef2 n) fun G A0 => ?_
  have A1 := A0.iloadN (v := n) (pc' := 1) d2_0 rfl rfl
  have A2 := A1.bipush (z := (24 : Int32)) (pc' := 3) d2_1 rfl rfl
  have A3 := A2.isub (pc' := 4) d2_3 rfl
  have A4 := A3.istoreN (Ls' := #[.val (.int n), .val (.int (n - (24 : Int32))), .unset, .unset]) (pc' := 5) d2_4 rfl rfl
  have A5 := A4.iloadN (v := (n - (24 : Int32))) (pc' := 6) d2_5 rfl rfl
  have A6 := A5.bipush (z := (16 : Int32)) (pc' := 8) d2_6 rfl rfl
  by_cases c7 : (n - (24 : Int32)).toInt < 16
  · have A8 := A6.icmpNo (pc' := 11) d2_8 (tlt (ilt (x := (n - (24 : Int32))) (y := (16 : Int32)) rfl rfl c7)).2.1 rfl
    have A9 := A8.iloadN (v := n) (pc' := 12) d2_11 rfl rfl
    refine A9.retI d2_12 (by decide) (by decide) ⟨_, rfl, ⟨rfl, ?_⟩⟩
    rw [own_lc, if_pos c7]
  · have A10 := A6.icmpYes (pc' := 13) d2_8 (flt (inlt (x := (n - (24 : Int32))) (y := (16 : Int32)) rfl rfl c7)).2.1 (by decide) (by decide)
    have A11 := A10.bipush (z := (32 : Int32)) (pc' := 15) d2_13 rfl rfl
    have A12 := A11.iloadN (v := (n - (24 : Int32))) (pc' := 16) d2_15 rfl rfl
    obtain ⟨r14, _, ⟨rfl, q15⟩, A13⟩ := W.kI (A12.callS (argsL := [(.int (n - (24 : Int32)))]) (rest := [(.int (32 : Int32))]) (C' := 0) (S' := 0) (pc' := 19) d2_16 (hw _ (List.mem_of_getElem? (i := 7) rfl)) (hw _ (List.mem_of_getElem? (i := 8) rfl)) (hw _ (List.mem_of_getElem? (i := 9) rfl)) (hw _ (List.mem_of_getElem? (i := 10) rfl)) (rm3 l Z a0 hw n0 [] ((n - (24 : Int32)))  h0 A12.size ) rfl rfl pd_0 rfl rfl (by decide) (by decide) (Nat.le_of_ble_eq_true rfl) (by decide) (by decide) rfl rfl rfl)
    subst q15
    have A17 := A13.isub (pc' := 20) d2_19 rfl
    have A18 := A17.istoreN (Ls' := #[.val (.int n), .val (.int (n - (24 : Int32))), .val (.int ((32 : Int32) - (own_nlz (n - (24 : Int32))))), .unset]) (pc' := 21) d2_20 rfl rfl
    have A19 := A18.iloadN (v := (n - (24 : Int32))) (pc' := 22) d2_21 rfl rfl
    have A20 := A19.iloadN (v := ((32 : Int32) - (own_nlz (n - (24 : Int32))))) (pc' := 23) d2_22 rfl rfl
    have A21 := A20.iconst (z := (4 : Int32)) (pc' := 24) d2_23 rfl rfl
    have A22 := A21.isub (pc' := 25) d2_24 rfl
    have A23 := A22.iushr (pc' := 26) d2_25 rfl
    have A24 := A23.istoreN (Ls' := #[.val (.int n), .val (.int (n - (24 : Int32))), .val (.int ((32 : Int32) - (own_nlz (n - (24 : Int32))))), .val (.int (((n - (24 : Int32)).toUInt32 >>> ((((32 : Int32) - (own_nlz (n - (24 : Int32)))) - (4 : Int32)) &&& 31).toUInt32).toInt32))]) (pc' := 27) d2_26 rfl rfl
    have A25 := A24.bipush (z := (40 : Int32)) (pc' := 29) d2_27 rfl rfl
    have A26 := A25.iloadN (v := ((32 : Int32) - (own_nlz (n - (24 : Int32))))) (pc' := 30) d2_29 rfl rfl
    have A27 := A26.iconst (z := (4 : Int32)) (pc' := 31) d2_30 rfl rfl
    have A28 := A27.isub (pc' := 32) d2_31 rfl
    have A29 := A28.iconst (z := (1 : Int32)) (pc' := 33) d2_32 rfl rfl
    have A30 := A29.isub (pc' := 34) d2_33 rfl
    have A31 := A30.bipush (z := (8 : Int32)) (pc' := 36) d2_34 rfl rfl
    have A32 := A31.imul (pc' := 37) d2_36 rfl
    have A33 := A32.iadd (pc' := 38) d2_37 rfl
    have A34 := A33.iloadN (v := (((n - (24 : Int32)).toUInt32 >>> ((((32 : Int32) - (own_nlz (n - (24 : Int32)))) - (4 : Int32)) &&& 31).toUInt32).toInt32)) (pc' := 39) d2_38 rfl rfl
    have A35 := A34.iadd (pc' := 40) d2_39 rfl
    have A36 := A35.bipush (z := (8 : Int32)) (pc' := 42) d2_40 rfl rfl
    have A37 := A36.isub (pc' := 43) d2_42 rfl
    refine A37.retI d2_43 (by decide) (by decide) ⟨_, rfl, ⟨rfl, ?_⟩⟩
    rw [own_lc, if_neg c7]
def own_F (x0 : Int32) : Int32 := if (own_lc (own_cl (x0 &&& (255 : Int32)))).toInt = (x0 &&& (255 : Int32)).toInt then (if (x0 &&& (255 : Int32)).toInt = 0 then (if (own_cl (x0 &&& (255 : Int32))).toInt = 0 then (1 : Int32) else (0 : Int32)) else (if (own_lc ((own_cl (x0 &&& (255 : Int32))) - (1 : Int32))).toInt = ((x0 &&& (255 : Int32)) - (1 : Int32)).toInt then (1 : Int32) else (0 : Int32))) else (0 : Int32)
theorem own_small : ∀ n : Fin 256, own_F (Int32.ofNat n.val) = 1 := by decide +kernel
theorem own_law (x0 : Int32) : own_F x0 = 1 := by
  have e : (x0 &&& (255 : Int32)).toInt = x0.toInt % 256 := c_mask x0 255 8 (by decide) (by decide)
  have h : (x0 &&& (255 : Int32)) &&& (255 : Int32) = x0 &&& (255 : Int32) := by rw [Int32.and_assoc]; rfl
  have hk : ∃ k : Fin 256, x0 &&& (255 : Int32) = Int32.ofNat k.val := by
    refine ⟨⟨(x0.toInt % 256).toNat, by omega⟩, Int32.toInt_inj.mp ?_⟩
    rw [e, Int32.toInt_ofNat_of_lt (show (x0.toInt % 256).toNat < 2 ^ 31 by omega)]
    omega
  obtain ⟨k, hk⟩ := hk
  have q := own_small k
  have u : own_F x0 = own_F (x0 &&& (255 : Int32)) := by unfold own_F; rw [h]
  rw [u, hk]; exact q
theorem pn0 : plainFor x = true := plainFor_of_name (by first | (simp [plainName, overriddenIn, x]; done) | decide +kernel)
abbrev y0 : MethodName := x
abbrev R0 : Room := room_1
set_option maxRecDepth 65536 in
set_option maxHeartbeats 4000000 in
theorem ef0 (x0 : Int32) (m : MethodId) : entryFrame m #[(.int x0)] maxLocals = mkF m 0 #[.val (.int x0), .unset, .unset] [] := by first | (simp [entryFrame, mkF, argsToLocals, Value.category, maxLocals]; done) | rfl
set_option maxRecDepth 65536 in
set_option maxHeartbeats 40000000 in
theorem rm0 (l : Launch) (Z : State) (a0 : Array Value) (hw : ∀ d ∈ tables_1, d.before a0 Z = true) (n0 : Nat) (ws : List Jvm.Cond) (x0 : Int32)  (h0 : Heap) (hn0 : n0 ≤ h0.size)  :
    Ctr l Z n0 y0 code maxLocals ret ws R0 #[(.int x0)] h0 (QI fun r h => (True) ∧ (r = 1)) := by
  refine ctr_of pn0 hn0 (ef0 x0) fun G A0 => ?_
  have A1 := A0.iloadN (v := x0) (pc' := 1) at_0 rfl rfl
  have A2 := A1.sipush (z := (255 : Int32)) (pc' := 4) at_1 rfl rfl
  have A3 := A2.iand (pc' := 5) at_4 rfl
  have A4 := A3.istoreN (Ls' := #[.val (.int x0), .val (.int (x0 &&& (255 : Int32))), .unset]) (pc' := 6) at_5 rfl rfl
  have A5 := A4.iloadN (v := (x0 &&& (255 : Int32))) (pc' := 7) at_6 rfl rfl
  obtain ⟨r7, _, ⟨rfl, q8⟩, A6⟩ := W.kI (A5.callS (argsL := [(.int (x0 &&& (255 : Int32)))]) (rest := []) (C' := 0) (S' := 0) (pc' := 10) at_7 (hw _ (List.mem_of_getElem? (i := 0) rfl)) (hw _ (List.mem_of_getElem? (i := 1) rfl)) (hw _ (List.mem_of_getElem? (i := 2) rfl)) (hw _ (List.mem_of_getElem? (i := 3) rfl)) (rm1 l Z a0 hw n0 [] ((x0 &&& (255 : Int32)))  h0 A5.size ) rfl rfl pd_0 rfl rfl (by decide) (by decide) (Nat.le_of_ble_eq_true rfl) (by decide) (by decide) rfl rfl rfl)
  subst q8
  have A10 := A6.istoreN (Ls' := #[.val (.int x0), .val (.int (x0 &&& (255 : Int32))), .val (.int (own_cl (x0 &&& (255 : Int32))))]) (pc' := 11) at_10 rfl rfl
  have A11 := A10.iloadN (v := (own_cl (x0 &&& (255 : Int32)))) (pc' := 12) at_11 rfl rfl
  obtain ⟨r13, _, ⟨rfl, q14⟩, A12⟩ := W.kI (A11.callS (argsL := [(.int (own_cl (x0 &&& (255 : Int32))))]) (rest := []) (C' := 0) (S' := 0) (pc' := 15) at_12 (hw _ (List.mem_of_getElem? (i := 4) rfl)) (hw _ (List.mem_of_getElem? (i := 5) rfl)) (hw _ (List.mem_of_getElem? (i := 2) rfl)) (hw _ (List.mem_of_getElem? (i := 6) rfl)) (rm2 l Z a0 hw n0 [] ((own_cl (x0 &&& (255 : Int32))))  h0 A11.size ) rfl rfl pd_0 rfl rfl (by decide) (by decide) (Nat.le_of_ble_eq_true rfl) (by decide) (by decide) rfl rfl rfl)
  subst q14
  have A16 := A12.iloadN (v := (x0 &&& (255 : Int32))) (pc' := 16) at_15 rfl rfl
  by_cases c17 : (own_lc (own_cl (x0 &&& (255 : Int32)))).toInt = (x0 &&& (255 : Int32)).toInt
  · have A18 := A16.icmpYes (pc' := 21) at_16 (teq (ieq (x := (own_lc (own_cl (x0 &&& (255 : Int32))))) (y := (x0 &&& (255 : Int32))) rfl rfl c17)).1 (by decide) (by decide)
    have A19 := A18.iloadN (v := (x0 &&& (255 : Int32))) (pc' := 22) at_21 rfl rfl
    by_cases c20 : (x0 &&& (255 : Int32)).toInt = 0
    · have A21 := A19.ifNo (pc' := 25) at_22 (teq (ieq (x := (x0 &&& (255 : Int32))) (y := (0 : Int32)) rfl rfl c20)).2 rfl
      have A22 := A21.iloadN (v := (own_cl (x0 &&& (255 : Int32)))) (pc' := 26) at_25 rfl rfl
      by_cases c23 : (own_cl (x0 &&& (255 : Int32))).toInt = 0
      · have A24 := A22.ifNo (pc' := 29) at_26 (teq (ieq (x := (own_cl (x0 &&& (255 : Int32)))) (y := (0 : Int32)) rfl rfl c23)).2 rfl
        have A25 := A24.iconst (z := (1 : Int32)) (pc' := 30) at_29 rfl rfl
        have A26 := A25.goto (pc' := 34) at_30 (by decide) (by decide)
        refine A26.retN (t := .boolean) (z' := (1 : Int32)) at_34 (by decide) (by decide) (by simp) rfl ⟨_, rfl, ⟨trivial, ?_⟩⟩
        have e1 : (1 : Int32).toInt = 1 := rfl
        rfl
      · have A27 := A22.ifYes (pc' := 33) at_26 (feq (ine (x := (own_cl (x0 &&& (255 : Int32)))) (y := (0 : Int32)) rfl rfl c23)).2 (by decide) (by decide)
        have A28 := A27.iconst (z := (0 : Int32)) (pc' := 34) at_33 rfl rfl
        refine A28.retN (t := .boolean) (z' := (0 : Int32)) at_34 (by decide) (by decide) (by simp) rfl ⟨_, rfl, ⟨trivial, ?_⟩⟩
        have e1 : (0 : Int32).toInt = 0 := rfl
        have own := own_law x0
        rw [own_F, if_pos c17, if_pos c20, if_neg c23] at own
        exact own
    · have A29 := A19.ifYes (pc' := 35) at_22 (feq (ine (x := (x0 &&& (255 : Int32))) (y := (0 : Int32)) rfl rfl c20)).2 (by decide) (by decide)
      have A30 := A29.iloadN (v := (own_cl (x0 &&& (255 : Int32)))) (pc' := 36) at_35 rfl rfl
      have A31 := A30.iconst (z := (1 : Int32)) (pc' := 37) at_36 rfl rfl
      have A32 := A31.isub (pc' := 38) at_37 rfl
      obtain ⟨r34, _, ⟨rfl, q35⟩, A33⟩ := W.kI (A32.callS (argsL := [(.int ((own_cl (x0 &&& (255 : Int32))) - (1 : Int32)))]) (rest := []) (C' := 0) (S' := 0) (pc' := 41) at_38 (hw _ (List.mem_of_getElem? (i := 4) rfl)) (hw _ (List.mem_of_getElem? (i := 5) rfl)) (hw _ (List.mem_of_getElem? (i := 2) rfl)) (hw _ (List.mem_of_getElem? (i := 6) rfl)) (rm2 l Z a0 hw n0 [] (((own_cl (x0 &&& (255 : Int32))) - (1 : Int32)))  h0 A32.size ) rfl rfl pd_0 rfl rfl (by decide) (by decide) (Nat.le_of_ble_eq_true rfl) (by decide) (by decide) rfl rfl rfl)
      subst q35
      have A37 := A33.iloadN (v := (x0 &&& (255 : Int32))) (pc' := 42) at_41 rfl rfl
      have A38 := A37.iconst (z := (1 : Int32)) (pc' := 43) at_42 rfl rfl
      have A39 := A38.isub (pc' := 44) at_43 rfl
      by_cases c40 : (own_lc ((own_cl (x0 &&& (255 : Int32))) - (1 : Int32))).toInt = ((x0 &&& (255 : Int32)) - (1 : Int32)).toInt
      · have A41 := A39.icmpNo (pc' := 47) at_44 (teq (ieq (x := (own_lc ((own_cl (x0 &&& (255 : Int32))) - (1 : Int32)))) (y := ((x0 &&& (255 : Int32)) - (1 : Int32))) rfl rfl c40)).2 rfl
        have A42 := A41.iconst (z := (1 : Int32)) (pc' := 48) at_47 rfl rfl
        have A43 := A42.goto (pc' := 52) at_48 (by decide) (by decide)
        refine A43.retN (t := .boolean) (z' := (1 : Int32)) at_52 (by decide) (by decide) (by simp) rfl ⟨_, rfl, ⟨trivial, ?_⟩⟩
        have e1 : (1 : Int32).toInt = 1 := rfl
        rfl
      · have A44 := A39.icmpYes (pc' := 51) at_44 (feq (ine (x := (own_lc ((own_cl (x0 &&& (255 : Int32))) - (1 : Int32)))) (y := ((x0 &&& (255 : Int32)) - (1 : Int32))) rfl rfl c40)).2 (by decide) (by decide)
        have A45 := A44.iconst (z := (0 : Int32)) (pc' := 52) at_51 rfl rfl
        refine A45.retN (t := .boolean) (z' := (0 : Int32)) at_52 (by decide) (by decide) (by simp) rfl ⟨_, rfl, ⟨trivial, ?_⟩⟩
        have e1 : (0 : Int32).toInt = 0 := rfl
        have own := own_law x0
        rw [own_F, if_pos c17, if_neg c20, if_neg c40] at own
        exact own
  · have A46 := A16.icmpNo (pc' := 19) at_16 (feq (ine (x := (own_lc (own_cl (x0 &&& (255 : Int32))))) (y := (x0 &&& (255 : Int32))) rfl rfl c17)).1 rfl
    have A47 := A46.iconst (z := (0 : Int32)) (pc' := 20) at_19 rfl rfl
    refine A47.retN (t := .boolean) (z' := (0 : Int32)) at_20 (by decide) (by decide) (by simp) rfl ⟨_, rfl, ⟨trivial, ?_⟩⟩
    have e1 : (0 : Int32).toInt = 0 := rfl
    have own := own_law x0
    rw [own_F, if_neg c17] at own
    exact own
set_option maxRecDepth 65536 in
set_option maxHeartbeats 40000000 in
theorem comes_1 {Post : Tables → Env → Array Value → State → Outcome → State → Prop} (hpost : ∀ tb e args s v u, (limb_1_1.after args s (.returned v) u = true ∧ limb_1_2.after args s (.returned v) u = true ∧ True) → FrameEnd s (.returned v) u (Jvm.fieldLocs frame_1_writes args s ++ Jvm.arrayLocs frame_1_arrays args s ++ Jvm.staticLocs frame_1_statics s) 0 0 → Post tb e args s (.returned v) u) :
    ArmFor flags0 classFile x code maxLocals ret World_1 tables_1 room_1 Calls_1 rest_1 Pre_1 Post := by
  intro l hfl _ _ p e ha hc hk s m args below hf hA hF happ hP
  obtain ⟨hcalls, hrest, hpre⟩ := hP
  obtain ⟨-, -, -, hnamed, -, -, -, hat⟩ := (Spec.applies_iff hf).mp happ
  obtain ⟨hg, hn⟩ := and_e (Cond.before_iff.mp (show (Jvm.Cond.and given_1 narrow_1).before args s = true from hpre))
  obtain ⟨g1a, g1b⟩ := and_e hg
  obtain ⟨w0, rfl⟩ : ∃ w0 : Value, args = #[w0] := by
    have hs : args.size = 1 := by simpa [Cond.value, given_1] using g1a
    obtain ⟨L⟩ := args
    match L, hs with
    | [w0], _ => exact ⟨w0, rfl⟩
  have hw := fun d (hd : d ∈ tables_1) => atoms_spec (ws := Jvm.Cond.code x code maxLocals ret :: tables_1) hat d (List.mem_cons_of_mem _ hd)
  obtain ⟨i0, ei0⟩ := is_v g1b
  obtain rfl : w0 = (.int i0) := Option.some.inj ei0
  obtain ⟨n, o, h1, h2, h3, _, L, rfl, ⟨N, ⟨r, rfl, hr⟩⟩, hq⟩ := rm0 l s _ hw s.heap.size tables_1 i0  s.heap (Nat.le_refl _)  p e ha hc hk s m _ below hf ((Spec.applies_iff_loose hf).mp happ).1 ⟨rfl, State.Warmed39.refl s, rfl⟩ trivial
  have hr1 : r = 1 := hr.2
  subst hr1
  refine ⟨n, _, h1, h2, h3, hpost _ _ _ _ _ _ ⟨Cond.after_iff.mpr rfl, Cond.after_iff.mpr (eq_i res_at (Term.int_eval (1)) rfl), trivial⟩ ⟨hq.1, hq.2.1, (hq.2.2.sift fun y hy => Or.inr (N y hy)).mono (by decide) (by decide)⟩⟩
theorem main_1_1 : Claimed_1_1 := comes_1 fun _ _ _ _ _ _ h hF => ⟨h.1, hF⟩
theorem main_1_2 : Claimed_1_2 := comes_1 fun _ _ _ _ _ _ h hF => ⟨h.2.1, hF⟩
end Jvm.Pilot.@@N@@
namespace Jvm.Pilot.@@N@@
open Jvm Jvm.ClassFile Sem Op Lib Jvm.Free Jvm.Stand Jvm.Pilot.@@N@@.Jvm.D
/-! MADE BY PROGRAM (witnessworld.py) out of the Statement's table words and the real class files: 14 classes; the members and pool entries that the words name. The judged class is class 1, her method 1. -/
namespace start1
open Jvm.ClassFile
def u (s : String) : CpInfo := .utf8 (stringToUtf16 s)
/-- a pool by its gaps: so many unusable entries, then the entry; so many at the end -/
def gap : Nat → List CpInfo → List CpInfo
  | 0, r => r
  | n + 1, r => .unusable :: gap n r
def poolList (es : List (Nat × CpInfo)) (last : Nat) : List CpInfo := es.foldr (fun e r => gap e.1 (e.2 :: r)) (gap last [])
def pool (es : List (Nat × CpInfo)) (last : Nat) : Array CpInfo := ⟨poolList es last⟩
def fileOf (pool : Array CpInfo) (this : Nat) (attrs : Array Attribute := #[]) (ms : Array MethodInfo := #[]) (fl : Nat := 33) (sup : Nat := 0) (ifs : Array Nat := #[]) (fds : Array FieldInfo := #[]) : ClassFile where
  minorVersion := 0
  majorVersion := 65
  constantPool := pool
  accessFlags := fl
  thisClass := this
  superClass := sup
  interfaces := ifs
  fields := fds
  methods := ms
  attributes := attrs
def plain (name : String) (sup : Option ClassId) : Class where
  name := name
  kind := .ordinary
  loader := none
  accessFlags := 33
  super := sup
  interfaces := #[]
  cf := none
  fields := #[]
  methods := #[]
  instanceTypes := #[]
  staticTypes := #[]
  resolved := #[]
  callSites := []
  init := .initialized
  statics := none
  mirror := none

def pool0 : Array CpInfo := pool [(5, u "<init>"), (0, u "()V"), (1, .class_ 10), (1, u "java/lang/Object")] 113

def k0m0 : Method := { name := "<init>", desc := "()V", sig := { parameters := [], returnType := none }, accessFlags := 1, code := none }
/-- java/lang/Object -/
def k0 : Class := { plain "java/lang/Object" none with
  accessFlags := 33
  interfaces := #[]
  cf := some (fileOf pool0 8 #[] #[{ accessFlags := 1, nameIndex := 5, descriptorIndex := 6, attributes := #[] }] 33 0 #[] #[])
  fields := #[]
  methods := #[k0m0]
  instanceTypes := #[]
  staticTypes := #[]
  resolved := Array.replicate 124 none
  statics := none }

def pool1 : Array CpInfo := pool [(2, .class_ 4), (1, u "java/lang/Object"), (0, u "<init>"), (0, u "()V"), (0, .methodref 8 9), (0, .class_ 10), (0, .nameAndType 11 12), (0, u "com/example/best_plus_rest/bestplusrest/scoring/Bm25Model"), (0, u "codedLength"), (0, u "(I)I"), (0, .methodref 8 14), (0, .nameAndType 15 12), (0, u "lengthCode"), (0, .class_ 17), (0, u "com/example/best_plus_rest/bestplusrest/scoring/Bm25ModelCodedLengthPinLaw"), (2, u "law"), (0, u "(I)Z")] 3

def k1m0 : Method := { name := "<init>", desc := "()V", sig := { parameters := [], returnType := none }, accessFlags := 2, code := none }
def k1c1 : Code := { maxStack := 3, maxLocals := 3, code := code, exceptionTable := #[], attributes := #[] }
def k1m1 : Method := { name := "law", desc := "(I)Z", sig := { parameters := [.int], returnType := some .boolean }, accessFlags := 9, code := some k1c1 }
/-- com/example/best_plus_rest/bestplusrest/scoring/Bm25ModelCodedLengthPinLaw -/
def k1 : Class := { plain "com/example/best_plus_rest/bestplusrest/scoring/Bm25ModelCodedLengthPinLaw" (some 0) with
  accessFlags := 49
  interfaces := #[]
  cf := some (fileOf pool1 16 #[] #[{ accessFlags := 2, nameIndex := 5, descriptorIndex := 6, attributes := #[] }, { accessFlags := 9, nameIndex := 20, descriptorIndex := 21, attributes := #[] }] 49 2 #[] #[])
  fields := #[]
  methods := #[k1m0, k1m1]
  instanceTypes := #[]
  staticTypes := #[]
  resolved := Array.replicate 25 none
  statics := none }

def pool2 : Array CpInfo := pool [(1, .class_ 2), (0, u "com/example/best_plus_rest/bestplusrest/scoring/Bm25Model"), (1, .class_ 6), (1, u "java/lang/Object"), (0, u "<init>"), (0, u "()V"), (10, u "lengthCode"), (0, u "(I)I"), (2, u "codedLength"), (0, .class_ 25), (0, u "java/lang/Integer"), (0, .methodref 24 27), (0, .nameAndType 28 20), (0, u "numberOfLeadingZeros"), (0, u "LENGTH_CODES"), (0, u "I"), (2, u "EXACT_LENGTHS"), (1, u "KEPT_DIGITS"), (1, u "FIRST_ROUNDED"), (1, u "EXACT_CODES"), (1, u "CODES_PER_DIGIT_COUNT")] 17

def k2m0 : Method := { name := "<init>", desc := "()V", sig := { parameters := [], returnType := none }, accessFlags := 2, code := none }
def k2c1 : Code := { maxStack := 3, maxLocals := 4, code := prog_13_method_5_code, exceptionTable := #[], attributes := #[] }
def k2m1 : Method := { name := "lengthCode", desc := "(I)I", sig := { parameters := [.int], returnType := some .int }, accessFlags := 9, code := some k2c1 }
def k2c2 : Code := { maxStack := 3, maxLocals := 4, code := prog_13_method_6_code, exceptionTable := #[], attributes := #[] }
def k2m2 : Method := { name := "codedLength", desc := "(I)I", sig := { parameters := [.int], returnType := some .int }, accessFlags := 9, code := some k2c2 }
/-- com/example/best_plus_rest/bestplusrest/scoring/Bm25Model -/
def k2 : Class := { plain "com/example/best_plus_rest/bestplusrest/scoring/Bm25Model" (some 0) with
  accessFlags := 33
  interfaces := #[]
  cf := some (fileOf pool2 1 #[] #[{ accessFlags := 2, nameIndex := 7, descriptorIndex := 8, attributes := #[] }, { accessFlags := 9, nameIndex := 19, descriptorIndex := 20, attributes := #[] }, { accessFlags := 9, nameIndex := 23, descriptorIndex := 20, attributes := #[] }] 33 4 #[] #[{ accessFlags := 25, nameIndex := 29, descriptorIndex := 30, attributes := #[] }, { accessFlags := 26, nameIndex := 33, descriptorIndex := 30, attributes := #[] }, { accessFlags := 26, nameIndex := 35, descriptorIndex := 30, attributes := #[] }, { accessFlags := 26, nameIndex := 37, descriptorIndex := 30, attributes := #[] }, { accessFlags := 26, nameIndex := 39, descriptorIndex := 30, attributes := #[] }, { accessFlags := 26, nameIndex := 41, descriptorIndex := 30, attributes := #[] }])
  fields := #[{ name := "LENGTH_CODES", type := .int, accessFlags := 25, slot := 0, constantValue := 0 }, { name := "EXACT_LENGTHS", type := .int, accessFlags := 26, slot := 1, constantValue := 0 }, { name := "KEPT_DIGITS", type := .int, accessFlags := 26, slot := 2, constantValue := 0 }, { name := "FIRST_ROUNDED", type := .int, accessFlags := 26, slot := 3, constantValue := 0 }, { name := "EXACT_CODES", type := .int, accessFlags := 26, slot := 4, constantValue := 0 }, { name := "CODES_PER_DIGIT_COUNT", type := .int, accessFlags := 26, slot := 5, constantValue := 0 }]
  methods := #[k2m0, k2m1, k2m2]
  instanceTypes := #[]
  staticTypes := #[.int, .int, .int, .int, .int, .int]
  resolved := Array.replicate 59 none
  statics := none }

def pool3 : Array CpInfo := pool [(1, .class_ 2), (0, u "java/io/Serializable"), (0, .class_ 4), (0, u "java/lang/Object")] 2

/-- java/io/Serializable -/
def k3 : Class := { plain "java/io/Serializable" (some 0) with
  accessFlags := 1537
  interfaces := #[]
  cf := some (fileOf pool3 1 #[] #[] 1537 3 #[] #[])
  fields := #[]
  methods := #[]
  instanceTypes := #[]
  staticTypes := #[]
  resolved := Array.replicate 7 none
  statics := none }

def pool4 : Array CpInfo := pool [(2, .class_ 4), (1, u "java/lang/Object"), (0, u "<init>"), (0, u "()V"), (1, .class_ 10), (1, u "java/lang/Number"), (2, .class_ 14), (0, u "java/io/Serializable"), (0, u "serialVersionUID"), (0, u "J")] 20

def k4m0 : Method := { name := "<init>", desc := "()V", sig := { parameters := [], returnType := none }, accessFlags := 1, code := none }
/-- java/lang/Number -/
def k4 : Class := { plain "java/lang/Number" (some 0) with
  accessFlags := 1057
  interfaces := #[3]
  cf := some (fileOf pool4 8 #[] #[{ accessFlags := 1, nameIndex := 5, descriptorIndex := 6, attributes := #[] }] 1057 2 #[13] #[{ accessFlags := 26, nameIndex := 15, descriptorIndex := 16, attributes := #[] }])
  fields := #[{ name := "serialVersionUID", type := .long, accessFlags := 26, slot := 0, constantValue := 0 }]
  methods := #[k4m0]
  instanceTypes := #[]
  staticTypes := #[.long]
  resolved := Array.replicate 37 none
  statics := none }

def pool5 : Array CpInfo := pool [(1, .class_ 2), (0, u "java/lang/Comparable"), (0, .class_ 4), (0, u "java/lang/Object")] 7

/-- java/lang/Comparable -/
def k5 : Class := { plain "java/lang/Comparable" (some 0) with
  accessFlags := 1537
  interfaces := #[]
  cf := some (fileOf pool5 1 #[] #[] 1537 3 #[] #[])
  fields := #[]
  methods := #[]
  instanceTypes := #[]
  staticTypes := #[]
  resolved := Array.replicate 12 none
  statics := none }

def pool6 : Array CpInfo := pool [(1, .class_ 2), (0, u "java/lang/constant/Constable"), (0, .class_ 4), (0, u "java/lang/Object")] 6

/-- java/lang/constant/Constable -/
def k6 : Class := { plain "java/lang/constant/Constable" (some 0) with
  accessFlags := 1537
  interfaces := #[]
  cf := some (fileOf pool6 1 #[] #[] 1537 3 #[] #[])
  fields := #[]
  methods := #[]
  instanceTypes := #[]
  staticTypes := #[]
  resolved := Array.replicate 11 none
  statics := none }

def pool7 : Array CpInfo := pool [(1, .class_ 2), (0, u "java/lang/constant/ConstantDesc"), (0, .class_ 4), (0, u "java/lang/Object")] 32

/-- java/lang/constant/ConstantDesc -/
def k7 : Class := { plain "java/lang/constant/ConstantDesc" (some 0) with
  accessFlags := 1537
  interfaces := #[]
  cf := some (fileOf pool7 1 #[] #[] 1537 3 #[] #[])
  fields := #[]
  methods := #[]
  instanceTypes := #[]
  staticTypes := #[]
  resolved := Array.replicate 37 none
  statics := none }

def pool8 : Array CpInfo := pool [(1, .class_ 2), (0, u "java/lang/Integer"), (16, u "digits"), (0, u "[C"), (32, u "numberOfLeadingZeros"), (0, u "(I)I"), (30, u "DigitOnes"), (0, u "[B"), (2, u "DigitTens"), (99, .class_ 190), (0, u "java/lang/Integer$IntegerCache"), (3, u "I"), (8, .class_ 204), (0, u "java/lang/Number"), (2, u "value"), (56, .integer 65536), (37, u "TYPE"), (0, u "Ljava/lang/Class;"), (0, .class_ 305), (0, u "java/lang/Comparable"), (0, .class_ 307), (0, u "java/lang/constant/Constable"), (0, .class_ 309), (0, u "java/lang/constant/ConstantDesc"), (0, u "MIN_VALUE"), (1, u "MAX_VALUE"), (3, u "SIZE"), (1, u "BYTES"), (1, u "serialVersionUID"), (0, u "J")] 131

def k8c0 : Code := { maxStack := 3, maxLocals := 2, code := jdk_33_method_47_code, exceptionTable := #[], attributes := #[] }
def k8m0 : Method := { name := "numberOfLeadingZeros", desc := "(I)I", sig := { parameters := [.int], returnType := some .int }, accessFlags := 9, code := some k8c0 }
/-- java/lang/Integer -/
def k8 : Class := { plain "java/lang/Integer" (some 4) with
  accessFlags := 49
  interfaces := #[5, 6, 7]
  cf := some (fileOf pool8 1 #[.nestMembers #[189]] #[{ accessFlags := 9, nameIndex := 53, descriptorIndex := 54, attributes := #[] }] 49 203 #[304, 306, 308] #[{ accessFlags := 25, nameIndex := 310, descriptorIndex := 194, attributes := #[] }, { accessFlags := 25, nameIndex := 312, descriptorIndex := 194, attributes := #[] }, { accessFlags := 25, nameIndex := 302, descriptorIndex := 303, attributes := #[] }, { accessFlags := 24, nameIndex := 19, descriptorIndex := 20, attributes := #[] }, { accessFlags := 24, nameIndex := 89, descriptorIndex := 86, attributes := #[] }, { accessFlags := 24, nameIndex := 85, descriptorIndex := 86, attributes := #[] }, { accessFlags := 18, nameIndex := 207, descriptorIndex := 194, attributes := #[] }, { accessFlags := 25, nameIndex := 316, descriptorIndex := 194, attributes := #[] }, { accessFlags := 25, nameIndex := 318, descriptorIndex := 194, attributes := #[] }, { accessFlags := 26, nameIndex := 320, descriptorIndex := 321, attributes := #[] }])
  fields := #[{ name := "MIN_VALUE", type := .int, accessFlags := 25, slot := 0, constantValue := 0 }, { name := "MAX_VALUE", type := .int, accessFlags := 25, slot := 1, constantValue := 0 }, { name := "TYPE", type := (.object "java/lang/Class"), accessFlags := 25, slot := 2, constantValue := 0 }, { name := "digits", type := (.array .char), accessFlags := 24, slot := 3, constantValue := 0 }, { name := "DigitTens", type := (.array .byte), accessFlags := 24, slot := 4, constantValue := 0 }, { name := "DigitOnes", type := (.array .byte), accessFlags := 24, slot := 5, constantValue := 0 }, { name := "value", type := .int, accessFlags := 18, slot := 0, constantValue := 0 }, { name := "SIZE", type := .int, accessFlags := 25, slot := 6, constantValue := 0 }, { name := "BYTES", type := .int, accessFlags := 25, slot := 7, constantValue := 0 }, { name := "serialVersionUID", type := .long, accessFlags := 26, slot := 8, constantValue := 0 }]
  methods := #[k8m0]
  instanceTypes := #[.int]
  staticTypes := #[.int, .int, (.object "java/lang/Class"), (.array .char), (.array .byte), (.array .byte), .int, .int, .long]
  resolved := Array.replicate 453 none
  statics := none }

def pool9 : Array CpInfo := pool [(1, u "java/lang/Cloneable"), (0, .class_ 1), (0, u "java/lang/Object"), (0, .class_ 3)] 3

/-- java/lang/Cloneable -/
def k9 : Class := { plain "java/lang/Cloneable" (some 0) with
  accessFlags := 1537
  interfaces := #[]
  cf := some (fileOf pool9 2 #[] #[] 1537 4 #[] #[])
  fields := #[]
  methods := #[]
  instanceTypes := #[]
  staticTypes := #[]
  resolved := Array.replicate 8 none
  statics := none }

/-- the primitive byte -/
def k10 : Class := { plain "byte" none with kind := .primitive 'B', accessFlags := 0x411 }
/-- [B -/
def k11 : Class := { plain "[B" (some 0) with kind := .array 10 .byte, interfaces := #[9, 3], accessFlags := 1041 }

/-- the primitive int -/
def k12 : Class := { plain "int" none with kind := .primitive 'I', accessFlags := 0x411 }
/-- [I -/
def k13 : Class := { plain "[I" (some 0) with kind := .array 12 .int, interfaces := #[9, 3], accessFlags := 1041 }

def heap : Heap := #[]
def classes : Array Class := #[k0, k1, k2, k3, k4, k5, k6, k7, k8, k9, k10, k11, k12, k13]
def interned : List (Array UInt16 × Addr) := []
def slotsUsed : Nat := 0
def theMethod : MethodId := ⟨1, 1⟩
def args0 : Array Value := #[.int 5]
def aboutOver (below : List Frame) : State where
  vm := { classes := classes, interned := interned.toArray }
  heap := heap
  slotsUsed := slotsUsed
  threads := #[{ frames := .invoking theMethod args0 :: below }]
def below0 : List Frame := [.native { method := ⟨0, 0⟩, args := #[] }]
def about1 : State := aboutOver below0
def p0 : Program := .bare "" "" ""
def e0 : Env := launch0.env 0 0 0
theorem w_frames : about1.frames = Frame.invoking theMethod args0 :: below0 := rfl
set_option maxRecDepth 65536 in
theorem w_args : argsFit about1.vm theMethod args0 = true := by decide +kernel
set_option maxRecDepth 65536 in
theorem w_heap : heapFits about1 = true := by decide +kernel
set_option maxRecDepth 65536 in
theorem w_runnable : about1.curStatus? = some .runnable := by decide +kernel
set_option maxRecDepth 65536 in
theorem w_alone : about1.alone = true := by decide +kernel
set_option maxRecDepth 65536 in
theorem w_named : about1.methodNamed? x = some theMethod := by decide +kernel
set_option maxRecDepth 65536 in
theorem w_hears : about1.hears theMethod below0 = true := by decide +kernel
set_option maxRecDepth 65536 in
theorem w_ripe : about1.ripe theMethod args0 below0 = true := by decide +kernel
theorem w_running : about1.status = .running := rfl
set_option maxRecDepth 65536 in
theorem w_room : about1.hasRoom e0.platform room_1 = true :=
  launch0.hasRoom_least _ room_1 (by decide +kernel) (by decide +kernel) (by decide +kernel) (by decide +kernel) (by decide +kernel) (by decide +kernel)
theorem allAtoms_all (ts : List Jvm.Cond) (a : Array Jvm.Value) (st : Jvm.State) : (allAtoms ts).before a st = ts.all (fun c => c.before a st) := by
  induction ts with
  | nil => rfl
  | cons c t ih =>
    show (Jvm.Cond.and c (allAtoms t)).before a st = _
    rw [Jvm.Cond.before_and, ih, List.all_cons]
def words1 : List Jvm.Cond := Jvm.Cond.code x code maxLocals ret :: tables_1
/-- a 'code' word, met by the world's own term for the bytes: nothing is compared byte by byte -/
theorem code_word {y : MethodName} {bytes : ByteArray} {mx : Nat} {rt : Option FieldType} {a : Array Value} {s : State} {m : MethodId} {meth : Method} {c : Code} (h1 : s.methodNamed? y = some m) (h2 : s.vm.method? m = some meth) (h3 : meth.code = some c) (h4 : c.code = bytes)
    (h5 : (c.maxLocals == mx && c.exceptionTable.isEmpty && decide (c.maxStack ≤ mostOperands) && decide (meth.sig.returnType = rt) && !meth.locks && decide (parseMethodDescriptor y.desc = some meth.sig)) = true) : (Jvm.Cond.code y bytes mx rt).before a s = true := by
  simp only [Bool.and_eq_true, beq_iff_eq, Bool.not_eq_true', decide_eq_true_eq] at h5
  obtain ⟨⟨⟨⟨⟨g1, g2⟩, g3⟩, g4⟩, g5⟩, g6⟩ := h5
  simp [Cond.before, Cond.holds, Cond.value, h1, h2, h3, h4, g1, g2, g3, g4, g5, g6]
def isCode : Jvm.Cond → Bool
  | .code _ _ _ _ => true
  | _ => false
theorem all_split {L : List Jvm.Cond} {P : Jvm.Cond → Bool} (h1 : L.all (fun c => isCode c || P c) = true) (h2 : ∀ c ∈ L.filter isCode, P c = true) : L.all P = true := by
  refine List.all_eq_true.mpr fun c hc => ?_
  have h := List.all_eq_true.mp h1 c hc
  rcases Bool.eq_false_or_eq_true (isCode c) with hi | hi
  · exact h2 c (List.mem_filter.mpr ⟨hc, hi⟩)
  · simpa [hi] using h
set_option maxRecDepth 65536 in
theorem w_c0 : (Jvm.Cond.code x code maxLocals ret).before args0 about1 = true := code_word (m := ⟨1, 1⟩) (meth := k1m1) (c := k1c1) (by decide +kernel) rfl rfl rfl (by decide +kernel)
set_option maxRecDepth 65536 in
theorem w_c1 : (Jvm.Cond.code ({ cls := "com/example/best_plus_rest/bestplusrest/scoring/Bm25Model", name := "codedLength", desc := "(I)I" } : Jvm.MethodName) prog_13_method_6_code (4 : Nat) (Option.some Jvm.ClassFile.FieldType.int)).before args0 about1 = true := code_word (m := ⟨2, 2⟩) (meth := k2m2) (c := k2c2) (by decide +kernel) rfl rfl rfl (by decide +kernel)
set_option maxRecDepth 65536 in
theorem w_c2 : (Jvm.Cond.code ({ cls := "com/example/best_plus_rest/bestplusrest/scoring/Bm25Model", name := "lengthCode", desc := "(I)I" } : Jvm.MethodName) prog_13_method_5_code (4 : Nat) (Option.some Jvm.ClassFile.FieldType.int)).before args0 about1 = true := code_word (m := ⟨2, 1⟩) (meth := k2m1) (c := k2c1) (by decide +kernel) rfl rfl rfl (by decide +kernel)
set_option maxRecDepth 65536 in
theorem w_c3 : (Jvm.Cond.code ({ cls := "java/lang/Integer", name := "numberOfLeadingZeros", desc := "(I)I" } : Jvm.MethodName) jdk_33_method_47_code (2 : Nat) (Option.some Jvm.ClassFile.FieldType.int)).before args0 about1 = true := code_word (m := ⟨8, 0⟩) (meth := k8m0) (c := k8c0) (by decide +kernel) rfl rfl rfl (by decide +kernel)
def codes1 : List Jvm.Cond := [Jvm.Cond.code x code maxLocals ret, Jvm.Cond.code ({ cls := "com/example/best_plus_rest/bestplusrest/scoring/Bm25Model", name := "codedLength", desc := "(I)I" } : Jvm.MethodName) prog_13_method_6_code (4 : Nat) (Option.some Jvm.ClassFile.FieldType.int), Jvm.Cond.code ({ cls := "com/example/best_plus_rest/bestplusrest/scoring/Bm25Model", name := "lengthCode", desc := "(I)I" } : Jvm.MethodName) prog_13_method_5_code (4 : Nat) (Option.some Jvm.ClassFile.FieldType.int), Jvm.Cond.code ({ cls := "java/lang/Integer", name := "numberOfLeadingZeros", desc := "(I)I" } : Jvm.MethodName) jdk_33_method_47_code (2 : Nat) (Option.some Jvm.ClassFile.FieldType.int)]
set_option maxRecDepth 65536 in
theorem codes_eq : words1.filter isCode = codes1 := rfl
theorem w_codes : ∀ c ∈ words1.filter isCode, c.before args0 about1 = true := by
  rw [codes_eq]
  intro c hc
  simp only [codes1, List.mem_cons, List.not_mem_nil, or_false] at hc
  rcases hc with rfl | rfl | rfl | rfl
  · exact w_c0
  · exact w_c1
  · exact w_c2
  · exact w_c3
set_option maxRecDepth 65536 in
theorem w_t1 : words1.all (fun c => isCode c || c.before args0 about1) = true := by decide +kernel
theorem w_tables : (allAtoms (Jvm.Cond.code x code maxLocals ret :: tables_1)).before args0 about1 = true := by
  rw [allAtoms_all]
  show words1.all (fun c => c.before args0 about1) = true
  refine all_split ?_ w_codes
  rw [w_t1]
set_option maxRecDepth 65536 in
theorem w_case : (Jvm.Cond.and given_1 narrow_1).before args0 about1 = true := by decide +kernel
theorem w_applies : (headSpec (Jvm.Cond.code x code maxLocals ret :: tables_1) room_1).applies x e0.platform about1 = true :=
  (Spec.applies_iff w_frames).mpr ⟨w_running, w_runnable, w_alone, w_named, w_hears, w_ripe, w_room, w_tables⟩
theorem atStart : AtStart classFile x code maxLocals ret World_1 tables_1 room_1 Calls_1 rest_1 Pre_1 launch0 p0 e0 about1 theMethod args0 below0 :=
  ⟨lists_1, trivial, launch0.admits_env _ _ _, launch0.least_env, fairChoices_fair.cas, fairChoices_fair.clock, w_frames, w_args, w_heap, w_applies, trivial, trivial, w_case⟩
end start1
theorem witness_1 : WitnessClaimed_1 := ⟨start1.p0, start1.e0, start1.about1, start1.theMethod, start1.args0, start1.below0, start1.atStart⟩
end Jvm.Pilot.@@N@@
