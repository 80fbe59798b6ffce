import JvmDerived
import JvmDerived.Pilot.@@N@@Statement
import JvmDerived.Pilot.@@N@@Code
set_option linter.unusedVariables false
set_option linter.unusedSimpArgs false
namespace Jvm.Pilot.@@N@@
open Jvm Jvm.ClassFile Sem Op Lib Jvm.Free Jvm.Stand Jvm.LawKit Jvm.RoadKit Bundle Jvm.Pilot.@@N@@.Jvm.D
/-! A. where a walk stands: W; what a body owes: Gl; a body's contract: Ctr -/
abbrev Cx := Program × Env × State × MethodId × Array Value × List Frame × Method × Code × State
def W (l : Launch) (Z : State) (n0 : Nat) (y : MethodName) (bytes : ByteArray) (maxl : Nat) (ret : Option FieldType) (R : Room) (G : Cx) (h : Heap) (pc : Nat) (Ls : Array Slot) (St : List Value) (cells slots : Nat) : Prop :=
  match G with
  | (p, e, s, m, args, below, meth, c, st) =>
    p.tables.exec = Jvm.exec ∧ Z.Warmed39 s.vm ∧ c.code = bytes ∧ c.maxLocals = maxl ∧ s.vm.findClass y.cls = some m.cls ∧ meth.name = y.name ∧ meth.sig.returnType = ret ∧ meth.locks = false ∧ n0 ≤ s.heap.size ∧
    ∃ (T : State) (locs : List Loc), Stand p l e R s m args below meth c T locs cells slots ∧ Fr n0 locs ∧ T.heap = h ∧ ∀ t, Steps p.tables e below (T.setTop (mkF m pc Ls St)) t → Steps p.tables e below st t
def Gl (R : Room) (n0 : Nat) (G : Cx) (Q : Option Value → Heap → Prop) : Prop :=
  match G with
  | (p, e, s, m, args, below, meth, c, st) => ∃ s₂ o, Steps p.tables e below st s₂ ∧ s₂.status = .running ∧ Ended s₂ below o ∧ ∃ v L, o = .returned v ∧ (Fr n0 L ∧ Q v s₂.heap) ∧ FrameEnd s o s₂ L R.cells R.slots
def Ctr (l : Launch) (Z : State) (n0 : Nat) (y : MethodName) (bytes : ByteArray) (maxl : Nat) (ret : Option FieldType) (ws : List Jvm.Cond) (R : Room) (as : Array Value) (h0 : Heap) (Q : Option Value → Heap → Prop) : Prop :=
  MetFree l y (head1 (Jvm.Cond.code y bytes maxl ret :: ws) R) (fun a U => a = as ∧ Z.Warmed39 U.vm ∧ U.heap = h0) (fun _ _ _ _ _ => True) (fun _ U o U' => ∃ v L, o = .returned v ∧ (Fr n0 L ∧ Q v U'.heap) ∧ FrameEnd U o U' L R.cells R.slots)
def QI (P : Int32 → Heap → Prop) (v : Option Value) (h : Heap) : Prop := ∃ r, v = some (.int r) ∧ P r h
def QJ (P : Int64 → Heap → Prop) (v : Option Value) (h : Heap) : Prop := ∃ r, v = some (.long r) ∧ P r h
def QA (P : Addr → Heap → Prop) (v : Option Value) (h : Heap) : Prop := ∃ r, v = some (.ref r) ∧ P r h
def QV (P : Heap → Prop) (v : Option Value) (h : Heap) : Prop := v = none ∧ P h
theorem ilt {x y : Int32} {a b : Int} (ha : x.toInt = a) (hb : y.toInt = b) (h : a < b) : x < y := by subst ha hb; exact Int32.lt_iff_toInt_lt.mpr h
theorem inlt {x y : Int32} {a b : Int} (ha : x.toInt = a) (hb : y.toInt = b) (h : ¬ a < b) : ¬ x < y := by subst ha hb; exact fun q => h (Int32.lt_iff_toInt_lt.mp q)
theorem igt {x y : Int32} {a b : Int} (ha : x.toInt = a) (hb : y.toInt = b) (h : b < a) : y < x := ilt hb ha h
theorem ingt {x y : Int32} {a b : Int} (ha : x.toInt = a) (hb : y.toInt = b) (h : ¬ b < a) : ¬ y < x := inlt hb ha h
theorem ieq {x y : Int32} {a b : Int} (ha : x.toInt = a) (hb : y.toInt = b) (h : a = b) : x = y := by subst ha hb; exact Int32.toInt_inj.mp h
theorem ine {x y : Int32} {a b : Int} (ha : x.toInt = a) (hb : y.toInt = b) (h : ¬ a = b) : ¬ x = y := by subst ha hb; exact fun q => h (Int32.toInt_inj.mpr q)
theorem llt {x y : Int64} {a b : Int} (ha : x.toInt = a) (hb : y.toInt = b) (h : a < b) : lcmpW x y < 0 := by subst ha hb; exact (lw_lt _ _).mpr (Int64.lt_iff_toInt_lt.mpr h)
theorem lnlt {x y : Int64} {a b : Int} (ha : x.toInt = a) (hb : y.toInt = b) (h : ¬ a < b) : ¬ lcmpW x y < 0 := by subst ha hb; exact fun q => h (Int64.lt_iff_toInt_lt.mp ((lw_lt _ _).mp q))
theorem lgt {x y : Int64} {a b : Int} (ha : x.toInt = a) (hb : y.toInt = b) (h : b < a) : 0 < lcmpW x y := by subst ha hb; exact (lw_gt _ _).mpr (Int64.lt_iff_toInt_lt.mpr h)
theorem lngt {x y : Int64} {a b : Int} (ha : x.toInt = a) (hb : y.toInt = b) (h : ¬ b < a) : ¬ 0 < lcmpW x y := by subst ha hb; exact fun q => h (Int64.lt_iff_toInt_lt.mp ((lw_gt _ _).mp q))
theorem leq {x y : Int64} {a b : Int} (ha : x.toInt = a) (hb : y.toInt = b) (h : a = b) : lcmpW x y = 0 := by subst ha hb; exact (lw_eq _ _).mpr (Int64.toInt_inj.mp h)
theorem lne {x y : Int64} {a b : Int} (ha : x.toInt = a) (hb : y.toInt = b) (h : ¬ a = b) : ¬ lcmpW x y = 0 := by subst ha hb; exact fun q => h (Int64.toInt_inj.mpr ((lw_eq _ _).mp q))
section Walk
variable {l : Launch} {Z : State} {n0 : Nat} {y : MethodName} {bytes : ByteArray} {maxl : Nat} {ret : Option FieldType} {R : Room} {G : Cx} {h : Heap} {pc pc' : Nat} {Ls : Array Slot} {St : List Value} {C S C' S' : Nat} {Q : Option Value → Heap → Prop} {a0 : Array Value}
theorem W.mk {p : Program} {e : Env} {s : State} {m : MethodId} {args : Array Value} {below : List Frame} {meth : Method} {c : Code} {st : State} {T : State} {locs : List Loc} (hx : p.tables.exec = Jvm.exec) (hZ : Z.Warmed39 s.vm) (hby : c.code = bytes) (hml : c.maxLocals = maxl) (hown : s.vm.findClass y.cls = some m.cls) (hnm : meth.name = y.name) (hrt : meth.sig.returnType = ret) (hlk : meth.locks = false) (hn0 : n0 ≤ s.heap.size)
    (X : Stand p l e R s m args below meth c T locs C S) (N : Fr n0 locs) (eT : T.heap = h) (k : ∀ t, Steps p.tables e below (T.setTop (mkF m pc Ls St)) t → Steps p.tables e below st t) : W l Z n0 y bytes maxl ret R (p, e, s, m, args, below, meth, c, st) h pc Ls St C S :=
  show _ ∧ _ from ⟨hx, hZ, hby, hml, hown, hnm, hrt, hlk, hn0, T, locs, X, N, eT, k⟩
theorem ctr_of {ws : List Jvm.Cond} {as : Array Value} (hpn : plainFor y = true) (hn0 : n0 ≤ h.size) (hef : ∀ m, entryFrame m as maxl = mkF m 0 Ls []) (body : ∀ G, W l Z n0 y bytes maxl ret R G h 0 Ls [] 0 0 → Gl R n0 G Q) : Ctr l Z n0 y bytes maxl ret ws R as h Q := by
  refine MetFree.of_bodySF hpn hisR ?_
  intro p e s m args below meth c s₁ Bd hml0 hP hK
  obtain ⟨rfl, hZ, hh⟩ := hP
  have e0 : s₁.heap = h := by rw [← hh, Bd.state]; rfl
  exact body (p, e, s, m, args, below, meth, c, s₁.setTop (entryFrame m args maxl)) (W.mk Bd.exec hZ Bd.bytes hml0 (findClass_of_methodNamed Bd.named) (name_of_methodNamed Bd.named Bd.method).1 Bd.returns (BodyLoose.notSynchronized Bd) (hh ▸ hn0) (Stand.of_body Bd) (Fr.nil n0) e0 (fun t k => castTop (hef m) k))
theorem W.size (A : W l Z n0 y bytes maxl ret R G h pc Ls St C S) : n0 ≤ h.size := by
  obtain ⟨p, e, s, m, args, below, meth, c, st⟩ := G
  obtain ⟨hx, hZ, hby, hml, hown, hnm, hrt, hlk, hn0, T, locs, X, N, eT, k⟩ := A
  exact Nat.le_trans hn0 (by rw [← eT]; exact X.same.2.1)
theorem W.more (A : W l Z n0 y bytes maxl ret R G h pc Ls St C S) (hC : C ≤ C') (hS : S ≤ S') : W l Z n0 y bytes maxl ret R G h pc Ls St C' S' := by
  obtain ⟨p, e, s, m, args, below, meth, c, st⟩ := G
  obtain ⟨hx, hZ, hby, hml, hown, hnm, hrt, hlk, hn0, T, locs, X, N, eT, k⟩ := A
  exact W.mk hx hZ hby hml hown hnm hrt hlk hn0 (X.more hC hS) N eT k
theorem W.cast {Ls' : Array Slot} {St' : List Value} (A : W l Z n0 y bytes maxl ret R G h pc Ls St C S) (hp : pc = pc') (hL : Ls = Ls') (hSt : St = St') : W l Z n0 y bytes maxl ret R G h pc' Ls' St' C S := by subst hp hL hSt; exact A
/-- a plain step -/
theorem W.step (A : W l Z n0 y bytes maxl ret R G h pc Ls St C S) {Ls' : Array Slot} {St' : List Value}
    (f : ∀ {p : Program} {e : Env} {s : State} {m : MethodId} {args : Array Value} {below : List Frame} {meth : Method} {c : Code} {T t : State} {locs : List Loc}, Stand p l e R s m args below meth c T locs C S → p.tables.exec = Jvm.exec → Z.Warmed39 s.vm → s.vm.findClass y.cls = some m.cls → c.code = bytes → T.heap = h → Steps p.tables e below (T.setTop (mkF m pc' Ls' St')) t → Steps p.tables e below (T.setTop (mkF m pc Ls St)) t) : W l Z n0 y bytes maxl ret R G h pc' Ls' St' C S := by
  obtain ⟨p, e, s, m, args, below, meth, c, st⟩ := G
  obtain ⟨hx, hZ, hby, hml, hown, hnm, hrt, hlk, hn0, T, locs, X, N, eT, k⟩ := A
  exact W.mk hx hZ hby hml hown hnm hrt hlk hn0 X N eT (fun t q => k t (f X hx hZ hown hby eT q))
/-! B. plain instructions -/
theorem W.iloadN (A : W l Z n0 y bytes maxl ret R G h pc Ls St C S) {k : Fin 4} {v : Int32} (hd : decode bytes pc = .ok (.iload_n k, 1)) (hl : Ls[k.val]? = some (.val (.int v))) (hp : pc + 1 = pc') : W l Z n0 y bytes maxl ret R G h pc' Ls (.int v :: St) C S := by
  subst hp; exact A.step fun X hx _ _ q _ r => XS.iloadN X.here hx rfl (hb q hd) hl r
theorem W.iload (A : W l Z n0 y bytes maxl ret R G h pc Ls St C S) {k : Nat} {v : Int32} (hd : decode bytes pc = .ok (.iload k, 2)) (hl : Ls[k]? = some (.val (.int v))) (hp : pc + 2 = pc') : W l Z n0 y bytes maxl ret R G h pc' Ls (.int v :: St) C S := by
  subst hp; exact A.step fun X hx _ _ q _ r => XS.iload X.here hx rfl (hb q hd) hl r
theorem W.lloadN (A : W l Z n0 y bytes maxl ret R G h pc Ls St C S) {k : Fin 4} {v : Int64} (hd : decode bytes pc = .ok (.lload_n k, 1)) (hl : Ls[k.val]? = some (.val (.long v))) (hp : pc + 1 = pc') : W l Z n0 y bytes maxl ret R G h pc' Ls (.long v :: St) C S := by
  subst hp; exact A.step fun X hx _ _ q _ r => XS.lloadN X.here hx rfl (hb q hd) hl r
theorem W.lload (A : W l Z n0 y bytes maxl ret R G h pc Ls St C S) {k : Nat} {v : Int64} (hd : decode bytes pc = .ok (.lload k, 2)) (hl : Ls[k]? = some (.val (.long v))) (hp : pc + 2 = pc') : W l Z n0 y bytes maxl ret R G h pc' Ls (.long v :: St) C S := by
  subst hp; exact A.step fun X hx _ _ q _ r => XS.lload X.here hx rfl (hb q hd) hl r
theorem W.aloadN (A : W l Z n0 y bytes maxl ret R G h pc Ls St C S) {k : Fin 4} {v : Value} (hd : decode bytes pc = .ok (.aload_n k, 1)) (hl : Ls[k.val]? = some (.val v)) (hv : v.isRef = true) (hp : pc + 1 = pc') : W l Z n0 y bytes maxl ret R G h pc' Ls (v :: St) C S := by
  subst hp; exact A.step fun X hx _ _ q _ r => XS.aloadN X.here hx rfl (hb q hd) hl hv r
theorem W.aload (A : W l Z n0 y bytes maxl ret R G h pc Ls St C S) {k : Nat} {v : Value} (hd : decode bytes pc = .ok (.aload k, 2)) (hl : Ls[k]? = some (.val v)) (hv : v.isRef = true) (hp : pc + 2 = pc') : W l Z n0 y bytes maxl ret R G h pc' Ls (v :: St) C S := by
  subst hp; exact A.step fun X hx _ _ q _ r => XS.aload X.here hx rfl (hb q hd) hl hv r
theorem W.istoreN {v : Int32} (A : W l Z n0 y bytes maxl ret R G h pc Ls (.int v :: St) C S) {k : Fin 4} {Ls' : Array Slot} (hd : decode bytes pc = .ok (.istore_n k, 1)) (hl : storeLocals Ls k.val (.int v) = some Ls') (hp : pc + 1 = pc') : W l Z n0 y bytes maxl ret R G h pc' Ls' St C S := by
  subst hp; exact A.step fun X hx _ _ q _ r => XS.istoreN X.here hx rfl (hb q hd) rfl hl r
theorem W.istore {v : Int32} (A : W l Z n0 y bytes maxl ret R G h pc Ls (.int v :: St) C S) {k : Nat} {Ls' : Array Slot} (hd : decode bytes pc = .ok (.istore k, 2)) (hl : storeLocals Ls k (.int v) = some Ls') (hp : pc + 2 = pc') : W l Z n0 y bytes maxl ret R G h pc' Ls' St C S := by
  subst hp; exact A.step fun X hx _ _ q _ r => XS.istore X.here hx rfl (hb q hd) rfl hl r
theorem W.lstoreN {v : Int64} (A : W l Z n0 y bytes maxl ret R G h pc Ls (.long v :: St) C S) {k : Fin 4} {Ls' : Array Slot} (hd : decode bytes pc = .ok (.lstore_n k, 1)) (hl : storeLocals Ls k.val (.long v) = some Ls') (hp : pc + 1 = pc') : W l Z n0 y bytes maxl ret R G h pc' Ls' St C S := by
  subst hp; exact A.step fun X hx _ _ q _ r => XS.lstoreN X.here hx rfl (hb q hd) rfl hl r
theorem W.lstore {v : Int64} (A : W l Z n0 y bytes maxl ret R G h pc Ls (.long v :: St) C S) {k : Nat} {Ls' : Array Slot} (hd : decode bytes pc = .ok (.lstore k, 2)) (hl : storeLocals Ls k (.long v) = some Ls') (hp : pc + 2 = pc') : W l Z n0 y bytes maxl ret R G h pc' Ls' St C S := by
  subst hp; exact A.step fun X hx _ _ q _ r => XS.lstore X.here hx rfl (hb q hd) rfl hl r
theorem W.astoreN {v : Value} (A : W l Z n0 y bytes maxl ret R G h pc Ls (v :: St) C S) {k : Fin 4} {Ls' : Array Slot} (hd : decode bytes pc = .ok (.astore_n k, 1)) (hv : v.isRef = true) (hl : storeLocals Ls k.val v = some Ls') (hp : pc + 1 = pc') : W l Z n0 y bytes maxl ret R G h pc' Ls' St C S := by
  subst hp; exact A.step fun X hx _ _ q _ r => XS.astoreN X.here hx rfl (hb q hd) rfl hv hl r
theorem W.astore {v : Value} (A : W l Z n0 y bytes maxl ret R G h pc Ls (v :: St) C S) {k : Nat} {Ls' : Array Slot} (hd : decode bytes pc = .ok (.astore k, 2)) (hv : v.isRef = true) (hl : storeLocals Ls k v = some Ls') (hp : pc + 2 = pc') : W l Z n0 y bytes maxl ret R G h pc' Ls' St C S := by
  subst hp; exact A.step fun X hx _ _ q _ r => XS.astore X.here hx rfl (hb q hd) rfl hv hl r
theorem W.iconst (A : W l Z n0 y bytes maxl ret R G h pc Ls St C S) {i : Int} {z : Int32} (hd : decode bytes pc = .ok (.iconst i, 1)) (hz : Int32.ofInt i = z) (hp : pc + 1 = pc') : W l Z n0 y bytes maxl ret R G h pc' Ls (.int z :: St) C S := by
  subst hp hz; exact A.step fun X hx _ _ q _ r => XS.iconst X.here hx rfl (hb q hd) r
theorem W.bipush (A : W l Z n0 y bytes maxl ret R G h pc Ls St C S) {i : Int} {z : Int32} (hd : decode bytes pc = .ok (.bipush i, 2)) (hz : (Int8.ofInt i).toInt32 = z) (hp : pc + 2 = pc') : W l Z n0 y bytes maxl ret R G h pc' Ls (.int z :: St) C S := by
  subst hp hz; exact A.step fun X hx _ _ q _ r => XS.bipush X.here hx rfl (hb q hd) r
theorem W.sipush (A : W l Z n0 y bytes maxl ret R G h pc Ls St C S) {i : Int} {z : Int32} (hd : decode bytes pc = .ok (.sipush i, 3)) (hz : (Int16.ofInt i).toInt32 = z) (hp : pc + 3 = pc') : W l Z n0 y bytes maxl ret R G h pc' Ls (.int z :: St) C S := by
  subst hp hz; exact A.step fun X hx _ _ q _ r => XS.sipush X.here hx rfl (hb q hd) r
theorem W.lconst (A : W l Z n0 y bytes maxl ret R G h pc Ls St C S) {k : Fin 2} {z : Int64} (hd : decode bytes pc = .ok (.lconst k, 1)) (hz : Int64.ofNat k.val = z) (hp : pc + 1 = pc') : W l Z n0 y bytes maxl ret R G h pc' Ls (.long z :: St) C S := by
  subst hp hz; exact A.step fun X hx _ _ q _ r => XS.lconst X.here hx rfl (hb q hd) r
theorem W.aconstNull (A : W l Z n0 y bytes maxl ret R G h pc Ls St C S) (hd : decode bytes pc = .ok (.aconst_null, 1)) (hp : pc + 1 = pc') : W l Z n0 y bytes maxl ret R G h pc' Ls (.null :: St) C S := by
  subst hp; exact A.step fun X hx _ _ q _ r => XS.aconstNull X.here hx rfl (hb q hd) r
theorem W.ldc (A : W l Z n0 y bytes maxl ret R G h pc Ls St C S) {i : Nat} {z : Int32} (hd : decode bytes pc = .ok (.ldc i, 2)) (w : (Jvm.Cond.constant y.cls i z).before a0 Z = true) (hp : pc + 2 = pc') : W l Z n0 y bytes maxl ret R G h pc' Ls (.int z :: St) C S := by
  subst hp; exact A.step fun X hx hZ hown q _ r => X.ldcInt hx hown (mvT hZ w) (g := mkF _ pc Ls St) rfl (hb q hd) _ r
theorem W.ldcW (A : W l Z n0 y bytes maxl ret R G h pc Ls St C S) {i : Nat} {z : Int32} (hd : decode bytes pc = .ok (.ldc_w i, 3)) (w : (Jvm.Cond.constant y.cls i z).before a0 Z = true) (hp : pc + 3 = pc') : W l Z n0 y bytes maxl ret R G h pc' Ls (.int z :: St) C S := by
  subst hp; exact A.step fun X hx hZ hown q _ r => X.ldcwInt hx hown (mvT hZ w) (g := mkF _ pc Ls St) rfl (hb q hd) _ r
theorem W.ldc2 (A : W l Z n0 y bytes maxl ret R G h pc Ls St C S) {i : Nat} {z : Int64} (hd : decode bytes pc = .ok (.ldc2_w i, 3)) (w : (Jvm.Cond.constantLong y.cls i z).before a0 Z = true) (hp : pc + 3 = pc') : W l Z n0 y bytes maxl ret R G h pc' Ls (.long z :: St) C S := by
  subst hp; exact A.step fun X hx hZ hown q _ r => X.ldc2Long hx hown (mvT hZ w) (g := mkF _ pc Ls St) rfl (hb q hd) _ r
theorem W.iinc (A : W l Z n0 y bytes maxl ret R G h pc Ls St C S) {k : Nat} {i : Int} {v z : Int32} {Ls' : Array Slot} (hd : decode bytes pc = .ok (.iinc k i, 3)) (hl : Ls[k]? = some (.val (.int v))) (hz : v + Int32.ofInt i = z) (hl' : storeLocals Ls k (.int z) = some Ls') (hp : pc + 3 = pc') : W l Z n0 y bytes maxl ret R G h pc' Ls' St C S := by
  subst hp hz; exact A.step fun X hx _ _ q _ r => XS.iinc X.here hx rfl (hb q hd) hl hl' r
theorem W.iadd {x z : Int32} (A : W l Z n0 y bytes maxl ret R G h pc Ls (.int z :: .int x :: St) C S) (hd : decode bytes pc = .ok (.iadd, 1)) (hp : pc + 1 = pc') : W l Z n0 y bytes maxl ret R G h pc' Ls (.int (x + z) :: St) C S := by
  subst hp; exact A.step fun X hx _ _ q _ r => XS.iadd X.here hx rfl (hb q hd) rfl r
theorem W.ladd {x z : Int64} (A : W l Z n0 y bytes maxl ret R G h pc Ls (.long z :: .long x :: St) C S) (hd : decode bytes pc = .ok (.ladd, 1)) (hp : pc + 1 = pc') : W l Z n0 y bytes maxl ret R G h pc' Ls (.long (x + z) :: St) C S := by
  subst hp; exact A.step fun X hx _ _ q _ r => XS.ladd X.here hx rfl (hb q hd) rfl r
theorem W.isub {x z : Int32} (A : W l Z n0 y bytes maxl ret R G h pc Ls (.int z :: .int x :: St) C S) (hd : decode bytes pc = .ok (.isub, 1)) (hp : pc + 1 = pc') : W l Z n0 y bytes maxl ret R G h pc' Ls (.int (x - z) :: St) C S := by
  subst hp; exact A.step fun X hx _ _ q _ r => XS.isub X.here hx rfl (hb q hd) rfl r
theorem W.lsub {x z : Int64} (A : W l Z n0 y bytes maxl ret R G h pc Ls (.long z :: .long x :: St) C S) (hd : decode bytes pc = .ok (.lsub, 1)) (hp : pc + 1 = pc') : W l Z n0 y bytes maxl ret R G h pc' Ls (.long (x - z) :: St) C S := by
  subst hp; exact A.step fun X hx _ _ q _ r => XS.lsub X.here hx rfl (hb q hd) rfl r
theorem W.imul {x z : Int32} (A : W l Z n0 y bytes maxl ret R G h pc Ls (.int z :: .int x :: St) C S) (hd : decode bytes pc = .ok (.imul, 1)) (hp : pc + 1 = pc') : W l Z n0 y bytes maxl ret R G h pc' Ls (.int (x * z) :: St) C S := by
  subst hp; exact A.step fun X hx _ _ q _ r => XS.imul X.here hx rfl (hb q hd) rfl r
theorem W.lmul {x z : Int64} (A : W l Z n0 y bytes maxl ret R G h pc Ls (.long z :: .long x :: St) C S) (hd : decode bytes pc = .ok (.lmul, 1)) (hp : pc + 1 = pc') : W l Z n0 y bytes maxl ret R G h pc' Ls (.long (x * z) :: St) C S := by
  subst hp; exact A.step fun X hx _ _ q _ r => XS.lmul X.here hx rfl (hb q hd) rfl r
theorem W.iand {x z : Int32} (A : W l Z n0 y bytes maxl ret R G h pc Ls (.int z :: .int x :: St) C S) (hd : decode bytes pc = .ok (.iand, 1)) (hp : pc + 1 = pc') : W l Z n0 y bytes maxl ret R G h pc' Ls (.int (x &&& z) :: St) C S := by
  subst hp; exact A.step fun X hx _ _ q _ r => XS.iand X.here hx rfl (hb q hd) rfl r
theorem W.land {x z : Int64} (A : W l Z n0 y bytes maxl ret R G h pc Ls (.long z :: .long x :: St) C S) (hd : decode bytes pc = .ok (.land, 1)) (hp : pc + 1 = pc') : W l Z n0 y bytes maxl ret R G h pc' Ls (.long (x &&& z) :: St) C S := by
  subst hp; exact A.step fun X hx _ _ q _ r => XS.land X.here hx rfl (hb q hd) rfl r
theorem W.ior {x z : Int32} (A : W l Z n0 y bytes maxl ret R G h pc Ls (.int z :: .int x :: St) C S) (hd : decode bytes pc = .ok (.ior, 1)) (hp : pc + 1 = pc') : W l Z n0 y bytes maxl ret R G h pc' Ls (.int (x ||| z) :: St) C S := by
  subst hp; exact A.step fun X hx _ _ q _ r => XS.ior X.here hx rfl (hb q hd) rfl r
theorem W.lor {x z : Int64} (A : W l Z n0 y bytes maxl ret R G h pc Ls (.long z :: .long x :: St) C S) (hd : decode bytes pc = .ok (.lor, 1)) (hp : pc + 1 = pc') : W l Z n0 y bytes maxl ret R G h pc' Ls (.long (x ||| z) :: St) C S := by
  subst hp; exact A.step fun X hx _ _ q _ r => XS.lor X.here hx rfl (hb q hd) rfl r
theorem W.ixor {x z : Int32} (A : W l Z n0 y bytes maxl ret R G h pc Ls (.int z :: .int x :: St) C S) (hd : decode bytes pc = .ok (.ixor, 1)) (hp : pc + 1 = pc') : W l Z n0 y bytes maxl ret R G h pc' Ls (.int (x ^^^ z) :: St) C S := by
  subst hp; exact A.step fun X hx _ _ q _ r => XS.ixor X.here hx rfl (hb q hd) rfl r
theorem W.lxor {x z : Int64} (A : W l Z n0 y bytes maxl ret R G h pc Ls (.long z :: .long x :: St) C S) (hd : decode bytes pc = .ok (.lxor, 1)) (hp : pc + 1 = pc') : W l Z n0 y bytes maxl ret R G h pc' Ls (.long (x ^^^ z) :: St) C S := by
  subst hp; exact A.step fun X hx _ _ q _ r => XS.lxor X.here hx rfl (hb q hd) rfl r
theorem W.ineg {x : Int32} (A : W l Z n0 y bytes maxl ret R G h pc Ls (.int x :: St) C S) (hd : decode bytes pc = .ok (.ineg, 1)) (hp : pc + 1 = pc') : W l Z n0 y bytes maxl ret R G h pc' Ls (.int (-x) :: St) C S := by
  subst hp; exact A.step fun X hx _ _ q _ r => XS.ineg X.here hx rfl (hb q hd) rfl r
theorem W.lneg {x : Int64} (A : W l Z n0 y bytes maxl ret R G h pc Ls (.long x :: St) C S) (hd : decode bytes pc = .ok (.lneg, 1)) (hp : pc + 1 = pc') : W l Z n0 y bytes maxl ret R G h pc' Ls (.long (-x) :: St) C S := by
  subst hp; exact A.step fun X hx _ _ q _ r => XS.lneg X.here hx rfl (hb q hd) rfl r
theorem W.ishl {x z : Int32} (A : W l Z n0 y bytes maxl ret R G h pc Ls (.int z :: .int x :: St) C S) (hd : decode bytes pc = .ok (.ishl, 1)) (hp : pc + 1 = pc') : W l Z n0 y bytes maxl ret R G h pc' Ls (.int (x <<< (z &&& 31)) :: St) C S := by
  subst hp; exact A.step fun X hx _ _ q _ r => XS.ishl X.here hx rfl (hb q hd) rfl r
theorem W.ishr {x z : Int32} (A : W l Z n0 y bytes maxl ret R G h pc Ls (.int z :: .int x :: St) C S) (hd : decode bytes pc = .ok (.ishr, 1)) (hp : pc + 1 = pc') : W l Z n0 y bytes maxl ret R G h pc' Ls (.int (x >>> (z &&& 31)) :: St) C S := by
  subst hp; exact A.step fun X hx _ _ q _ r => XS.ishr X.here hx rfl (hb q hd) rfl r
theorem W.iushr {x z : Int32} (A : W l Z n0 y bytes maxl ret R G h pc Ls (.int z :: .int x :: St) C S) (hd : decode bytes pc = .ok (.iushr, 1)) (hp : pc + 1 = pc') : W l Z n0 y bytes maxl ret R G h pc' Ls (.int ((x.toUInt32 >>> (z &&& 31).toUInt32).toInt32) :: St) C S := by
  subst hp; exact A.step fun X hx _ _ q _ r => XS.iushr X.here hx rfl (hb q hd) rfl r
theorem W.lshl {x : Int64} {z : Int32} (A : W l Z n0 y bytes maxl ret R G h pc Ls (.int z :: .long x :: St) C S) (hd : decode bytes pc = .ok (.lshl, 1)) (hp : pc + 1 = pc') : W l Z n0 y bytes maxl ret R G h pc' Ls (.long (x <<< (z &&& 0x3f).toInt64) :: St) C S := by
  subst hp; exact A.step fun X hx _ _ q _ r => XS.lshl X.here hx rfl (hb q hd) rfl r
theorem W.lshr {x : Int64} {z : Int32} (A : W l Z n0 y bytes maxl ret R G h pc Ls (.int z :: .long x :: St) C S) (hd : decode bytes pc = .ok (.lshr, 1)) (hp : pc + 1 = pc') : W l Z n0 y bytes maxl ret R G h pc' Ls (.long (x >>> (z &&& 0x3f).toInt64) :: St) C S := by
  subst hp; exact A.step fun X hx _ _ q _ r => XS.lshr X.here hx rfl (hb q hd) rfl r
theorem W.lushr {x : Int64} {z : Int32} (A : W l Z n0 y bytes maxl ret R G h pc Ls (.int z :: .long x :: St) C S) (hd : decode bytes pc = .ok (.lushr, 1)) (hp : pc + 1 = pc') : W l Z n0 y bytes maxl ret R G h pc' Ls (.long ((x.toUInt64 >>> (z &&& 0x3f).toInt64.toUInt64).toInt64) :: St) C S := by
  subst hp; exact A.step fun X hx _ _ q _ r => XS.lushr X.here hx rfl (hb q hd) rfl r
theorem W.i2l {x : Int32} (A : W l Z n0 y bytes maxl ret R G h pc Ls (.int x :: St) C S) (hd : decode bytes pc = .ok (.i2l, 1)) (hp : pc + 1 = pc') : W l Z n0 y bytes maxl ret R G h pc' Ls (.long x.toInt64 :: St) C S := by
  subst hp; exact A.step fun X hx _ _ q _ r => XS.i2l X.here hx rfl (hb q hd) rfl r
theorem W.l2i {x : Int64} (A : W l Z n0 y bytes maxl ret R G h pc Ls (.long x :: St) C S) (hd : decode bytes pc = .ok (.l2i, 1)) (hp : pc + 1 = pc') : W l Z n0 y bytes maxl ret R G h pc' Ls (.int x.toInt32 :: St) C S := by
  subst hp; exact A.step fun X hx _ _ q _ r => XS.l2i X.here hx rfl (hb q hd) rfl r
theorem W.i2b {x : Int32} (A : W l Z n0 y bytes maxl ret R G h pc Ls (.int x :: St) C S) (hd : decode bytes pc = .ok (.i2b, 1)) (hp : pc + 1 = pc') : W l Z n0 y bytes maxl ret R G h pc' Ls (.int x.toInt8.toInt32 :: St) C S := by
  subst hp; exact A.step fun X hx _ _ q _ r => XS.i2b X.here hx rfl (hb q hd) rfl r
theorem W.i2s {x : Int32} (A : W l Z n0 y bytes maxl ret R G h pc Ls (.int x :: St) C S) (hd : decode bytes pc = .ok (.i2s, 1)) (hp : pc + 1 = pc') : W l Z n0 y bytes maxl ret R G h pc' Ls (.int x.toInt16.toInt32 :: St) C S := by
  subst hp; exact A.step fun X hx _ _ q _ r => XS.i2s X.here hx rfl (hb q hd) rfl r
theorem W.i2c {x : Int32} (A : W l Z n0 y bytes maxl ret R G h pc Ls (.int x :: St) C S) (hd : decode bytes pc = .ok (.i2c, 1)) (hp : pc + 1 = pc') : W l Z n0 y bytes maxl ret R G h pc' Ls (.int x.toUInt32.toUInt16.toUInt32.toInt32 :: St) C S := by
  subst hp; exact A.step fun X hx _ _ q _ r => XS.i2c X.here hx rfl (hb q hd) rfl r
theorem W.lcmp {x z : Int64} (A : W l Z n0 y bytes maxl ret R G h pc Ls (.long z :: .long x :: St) C S) (hd : decode bytes pc = .ok (.lcmp, 1)) (hp : pc + 1 = pc') : W l Z n0 y bytes maxl ret R G h pc' Ls (.int (lcmpW x z) :: St) C S := by
  subst hp; exact A.step fun X hx _ _ q _ r => XS.lcmp X.here hx rfl (hb q hd) rfl r
theorem W.idiv {x z : Int32} (A : W l Z n0 y bytes maxl ret R G h pc Ls (.int z :: .int x :: St) C S) (hd : decode bytes pc = .ok (.idiv, 1)) (hz : z ≠ 0) (hp : pc + 1 = pc') : W l Z n0 y bytes maxl ret R G h pc' Ls (.int (x / z) :: St) C S := by
  subst hp; exact A.step fun X hx _ _ q _ r => XS.idiv X.here hx rfl (hb q hd) rfl hz r
theorem W.irem {x z : Int32} (A : W l Z n0 y bytes maxl ret R G h pc Ls (.int z :: .int x :: St) C S) (hd : decode bytes pc = .ok (.irem, 1)) (hz : z ≠ 0) (hp : pc + 1 = pc') : W l Z n0 y bytes maxl ret R G h pc' Ls (.int (x % z) :: St) C S := by
  subst hp; exact A.step fun X hx _ _ q _ r => iremM (g := mkF _ _ _ _) X hx rfl (hb q hd) rfl hz r
theorem W.ldiv {x z : Int64} (A : W l Z n0 y bytes maxl ret R G h pc Ls (.long z :: .long x :: St) C S) (hd : decode bytes pc = .ok (.ldiv, 1)) (hz : z ≠ 0) (hp : pc + 1 = pc') : W l Z n0 y bytes maxl ret R G h pc' Ls (.long (x / z) :: St) C S := by
  subst hp; exact A.step fun X hx _ _ q _ r => XS.ldiv X.here hx rfl (hb q hd) rfl hz r
theorem W.lrem {x z : Int64} (A : W l Z n0 y bytes maxl ret R G h pc Ls (.long z :: .long x :: St) C S) (hd : decode bytes pc = .ok (.lrem, 1)) (hz : z ≠ 0) (hp : pc + 1 = pc') : W l Z n0 y bytes maxl ret R G h pc' Ls (.long (x % z) :: St) C S := by
  subst hp; exact A.step fun X hx _ _ q _ r => XS.lrem X.here hx rfl (hb q hd) rfl hz (by rw [lrem_mod]; exact r)
theorem W.dup {v : Value} (A : W l Z n0 y bytes maxl ret R G h pc Ls (v :: St) C S) (hd : decode bytes pc = .ok (.dup, 1)) (hc : v.category = 1) (hp : pc + 1 = pc') : W l Z n0 y bytes maxl ret R G h pc' Ls (v :: v :: St) C S := by
  subst hp; exact A.step fun X hx _ _ q _ r => XS.dup X.here hx rfl (hb q hd) rfl hc r
theorem W.pop {v : Value} (A : W l Z n0 y bytes maxl ret R G h pc Ls (v :: St) C S) (hd : decode bytes pc = .ok (.pop, 1)) (hc : v.category = 1) (hp : pc + 1 = pc') : W l Z n0 y bytes maxl ret R G h pc' Ls St C S := by
  subst hp; exact A.step fun X hx _ _ q _ r => XS.pop X.here hx rfl (hb q hd) rfl hc r
theorem W.dupX1 {v w : Value} (A : W l Z n0 y bytes maxl ret R G h pc Ls (v :: w :: St) C S) (hd : decode bytes pc = .ok (.dup_x1, 1)) (hc : v.category = 1) (hc' : w.category = 1) (hp : pc + 1 = pc') : W l Z n0 y bytes maxl ret R G h pc' Ls (v :: w :: v :: St) C S := by
  subst hp; exact A.step fun X hx _ _ q _ r => XS.dupX1 X.here hx rfl (hb q hd) rfl hc hc' r
theorem W.dup2 {v w : Value} (A : W l Z n0 y bytes maxl ret R G h pc Ls (v :: w :: St) C S) (hd : decode bytes pc = .ok (.dup2, 1)) (hc : v.category = 1) (hc' : w.category = 1) (hp : pc + 1 = pc') : W l Z n0 y bytes maxl ret R G h pc' Ls (v :: w :: v :: w :: St) C S := by
  subst hp; exact A.step fun X hx _ _ q _ r => XT.dup2 X.here hx rfl (hb q hd) rfl hc hc' r
theorem W.dup2L {x : Int64} (A : W l Z n0 y bytes maxl ret R G h pc Ls (.long x :: St) C S) (hd : decode bytes pc = .ok (.dup2, 1)) (hp : pc + 1 = pc') : W l Z n0 y bytes maxl ret R G h pc' Ls (.long x :: .long x :: St) C S := by
  subst hp; exact A.step fun X hx _ _ q _ r => XT.dup2L X.here hx rfl (hb q hd) rfl r
theorem W.goto (A : W l Z n0 y bytes maxl ret R G h pc Ls St C S) {o : Int} (hd : decode bytes pc = .ok (.goto o, 3)) (ho : 0 ≤ (pc : Int) + o) (hp : ((pc : Int) + o).toNat = pc') : W l Z n0 y bytes maxl ret R G h pc' Ls St C S :=
  A.step fun X hx _ _ q _ r => XS.goto X.here hx rfl rfl (hb q hd) ho hp r
theorem W.ifYes {x : Int32} (A : W l Z n0 y bytes maxl ret R G h pc Ls (.int x :: St) C S) {cd : ClassFile.Cond} {o : Int} (hd : decode bytes pc = .ok (.ifCond cd o, 3)) (hc : if_icmp.holds cd x 0 = true) (ho : 0 ≤ (pc : Int) + o) (hp : ((pc : Int) + o).toNat = pc') : W l Z n0 y bytes maxl ret R G h pc' Ls St C S :=
  A.step fun X hx _ _ q _ r => XS.ifYes X.here hx rfl rfl (hb q hd) rfl ((if0 _ _).trans hc) ho hp r
theorem W.ifNo {x : Int32} (A : W l Z n0 y bytes maxl ret R G h pc Ls (.int x :: St) C S) {cd : ClassFile.Cond} {o : Int} (hd : decode bytes pc = .ok (.ifCond cd o, 3)) (hc : if_icmp.holds cd x 0 = false) (hp : pc + 3 = pc') : W l Z n0 y bytes maxl ret R G h pc' Ls St C S := by
  subst hp; exact A.step fun X hx _ _ q _ r => XS.ifNo X.here hx rfl (hb q hd) rfl ((if0 _ _).trans hc) r
theorem W.icmpYes {x z : Int32} (A : W l Z n0 y bytes maxl ret R G h pc Ls (.int z :: .int x :: St) C S) {cd : ClassFile.Cond} {o : Int} (hd : decode bytes pc = .ok (.if_icmp cd o, 3)) (hc : if_icmp.holds cd x z = true) (ho : 0 ≤ (pc : Int) + o) (hp : ((pc : Int) + o).toNat = pc') : W l Z n0 y bytes maxl ret R G h pc' Ls St C S :=
  A.step fun X hx _ _ q _ r => XS.icmpYes X.here hx rfl rfl (hb q hd) rfl hc ho hp r
theorem W.icmpNo {x z : Int32} (A : W l Z n0 y bytes maxl ret R G h pc Ls (.int z :: .int x :: St) C S) {cd : ClassFile.Cond} {o : Int} (hd : decode bytes pc = .ok (.if_icmp cd o, 3)) (hc : if_icmp.holds cd x z = false) (hp : pc + 3 = pc') : W l Z n0 y bytes maxl ret R G h pc' Ls St C S := by
  subst hp; exact A.step fun X hx _ _ q _ r => XS.icmpNo X.here hx rfl (hb q hd) rfl hc r
theorem W.ifnullYes (A : W l Z n0 y bytes maxl ret R G h pc Ls (.null :: St) C S) {o : Int} (hd : decode bytes pc = .ok (.ifnull o, 3)) (ho : 0 ≤ (pc : Int) + o) (hp : ((pc : Int) + o).toNat = pc') : W l Z n0 y bytes maxl ret R G h pc' Ls St C S :=
  A.step fun X hx _ _ q _ r => XS.ifnullYes X.here hx rfl rfl (hb q hd) rfl ho hp r
theorem W.ifnullNo {a : Addr} (A : W l Z n0 y bytes maxl ret R G h pc Ls (.ref a :: St) C S) {o : Int} (hd : decode bytes pc = .ok (.ifnull o, 3)) (hp : pc + 3 = pc') : W l Z n0 y bytes maxl ret R G h pc' Ls St C S := by
  subst hp; exact A.step fun X hx _ _ q _ r => XS.ifnullNo X.here hx rfl (hb q hd) rfl r
theorem W.ifnonnullNo (A : W l Z n0 y bytes maxl ret R G h pc Ls (.null :: St) C S) {o : Int} (hd : decode bytes pc = .ok (.ifnonnull o, 3)) (hp : pc + 3 = pc') : W l Z n0 y bytes maxl ret R G h pc' Ls St C S := by
  subst hp; exact A.step fun X hx _ _ q _ r => XS.ifnonnullNo X.here hx rfl (hb q hd) rfl r
theorem W.ifnonnullYes {a : Addr} (A : W l Z n0 y bytes maxl ret R G h pc Ls (.ref a :: St) C S) {o : Int} (hd : decode bytes pc = .ok (.ifnonnull o, 3)) (ho : 0 ≤ (pc : Int) + o) (hp : ((pc : Int) + o).toNat = pc') : W l Z n0 y bytes maxl ret R G h pc' Ls St C S :=
  A.step fun X hx _ _ q _ r => XS.ifnonnullYes X.here hx rfl rfl (hb q hd) rfl ho hp r
/-! C. the returns -/
theorem W.fin {v : Option Value} (A : W l Z n0 y bytes maxl ret R G h pc Ls St C S) (hC : C ≤ R.cells) (hS : S ≤ R.slots) (hv : ret = none → v = none) (hQ : Q v h)
    (f : ∀ {p : Program} {e : Env} {s : State} {m : MethodId} {args : Array Value} {below : List Frame} {meth : Method} {c : Code} {T : State} {locs : List Loc} {fs : List Frame}, Stand p l e R s m args below meth c T locs C S → p.tables.exec = Jvm.exec → c.code = bytes → meth.sig.returnType = ret → (∀ (f : JFrame) (acts : List Action), f.method = m → f.locked = none → f.entered = [] → (doReturn e (T.setTop f) acts v).1 = T.setFrames fs) → Steps p.tables e below (T.setTop (mkF m pc Ls St)) (T.setFrames fs)) : Gl R n0 G Q := by
  obtain ⟨p, e, s, m, args, below, meth, c, st⟩ := G
  obtain ⟨hx, hZ, hby, hml, hown, hnm, hrt, hlk, hn0, T, locs, X, N, eT, k⟩ := A
  obtain ⟨fs, hr, hrun, hended, hW, hsame⟩ := X.leave (v := v) (fun q => hv (hrt.symm.trans q)) hlk
  show ∃ s₂ o, _
  refine ⟨_, _, k _ (f X hx hby hrt hr), hrun, hended, v, locs, rfl, ⟨N, ?_⟩, ⟨_, rfl⟩, hW, hsame.mono hC hS⟩
  show Q v T.heap
  rw [eT]; exact hQ
theorem W.retI {z : Int32} (A : W l Z n0 y bytes maxl (some .int) R G h pc Ls (.int z :: St) C S) (hd : decode bytes pc = .ok (.ireturn, 1)) (hC : C ≤ R.cells) (hS : S ≤ R.slots) (hQ : Q (some (.int z)) h) : Gl R n0 G Q :=
  A.fin hC hS (fun q => nomatch q) hQ fun X hx q hret hr => retOut X hx hret (t := .int) rfl (Or.inl ⟨rfl, Or.inl rfl, z, rfl⟩) (hb q hd) hr
theorem W.retN {z z' : Int32} {t : FieldType} (A : W l Z n0 y bytes maxl (some t) R G h pc Ls (.int z :: St) C S) (hd : decode bytes pc = .ok (.ireturn, 1)) (hC : C ≤ R.cells) (hS : S ≤ R.slots) (ht : t = .boolean ∨ t = .byte ∨ t = .char ∨ t = .short) (hz : nar t z = z') (hQ : Q (some (.int z')) h) : Gl R n0 G Q := by
  subst hz; exact A.fin hC hS (fun q => nomatch q) hQ fun X hx q hret hr => RoadKit.retN X hx hret ht (hb q hd) hr
theorem W.retJ {z : Int64} (A : W l Z n0 y bytes maxl (some .long) R G h pc Ls (.long z :: St) C S) (hd : decode bytes pc = .ok (.lreturn, 1)) (hC : C ≤ R.cells) (hS : S ≤ R.slots) (hQ : Q (some (.long z)) h) : Gl R n0 G Q :=
  A.fin hC hS (fun q => nomatch q) hQ fun X hx q hret hr => retOut X hx hret (t := .long) rfl (Or.inr (Or.inl ⟨rfl, rfl, z, rfl⟩)) (hb q hd) hr
theorem W.retA {v : Value} {t : FieldType} (A : W l Z n0 y bytes maxl (some t) R G h pc Ls (v :: St) C S) (hd : decode bytes pc = .ok (.areturn, 1)) (hC : C ≤ R.cells) (hS : S ≤ R.slots) (ht : t.isReference = true) (hv : v.isRef = true) (hn : narrow t v = v) (hQ : Q (some v) h) : Gl R n0 G Q :=
  A.fin hC hS (fun q => nomatch q) hQ fun X hx q hret hr => retOut X hx hret (t := t) hn (Or.inr (Or.inr (Or.inr (Or.inr ⟨rfl, ht, hv⟩)))) (hb q hd) hr
theorem W.retV (A : W l Z n0 y bytes maxl none R G h pc Ls [] C S) (hd : decode bytes pc = .ok (.return_, 1)) (hC : C ≤ R.cells) (hS : S ≤ R.slots) (hQ : Q none h) : Gl R n0 G Q :=
  A.fin hC hS (fun _ => rfl) hQ fun X hx q hret hr => X.returnOut hx hret (hb q hd) hr
/-! D. calls -/
theorem W.callS (A : W l Z n0 y bytes maxl ret R G h pc Ls St C S) {y' : MethodName} {bytes' : ByteArray} {maxl' : Nat} {ret' : Option FieldType} {R' : Room} {as : Array Value} {idx : Nat} {argsL rest : List Value} {ps : List FieldType} {rr : Option FieldType} (hd : decode bytes pc = .ok (.invokestatic idx, 3))
    (w1 : (Jvm.Cond.methodLink y.cls idx y').before a0 Z = true) (w2 : (Jvm.Cond.static y').before a0 Z = true) (w3 : (Jvm.Cond.initialized y'.cls).before a0 Z = true) (w4 : (Jvm.Cond.code y' bytes' maxl' ret').before a0 Z = true) (hM : Ctr l Z n0 y' bytes' maxl' ret' [] R' as h Q) (has : argsL.toArray = as) (hs : St = argsL.reverse ++ rest)
    (hpd : parseMethodDescriptor y'.desc = some ⟨ps, rr⟩) (hlen : argsL.length = ps.length) (hsz : Ls.size = maxl) (hy : y'.cls ≠ "java/lang/invoke/MethodHandle" ∧ y'.cls ≠ "java/lang/invoke/VarHandle") (hf : R'.frames + 1 ≤ R.frames) (hlo : (rest.map fun v => v.category).sum + (maxl' + 11) + R'.locals ≤ R.locals) (hC : C + R'.cells ≤ R.cells) (hS : S + R'.slots ≤ R.slots) (hC' : C + R'.cells = C') (hS' : S + R'.slots = S') (hp : pc + 3 = pc') :
    ∃ v h', Q v h' ∧ W l Z n0 y bytes maxl ret R G h' pc' Ls (v.toList ++ rest) C' S' := by
  subst hp hC' hS' has
  obtain ⟨p, e, s, m, args, below, meth, c, st⟩ := G
  obtain ⟨hx, hZ, hby, hml, hown, hnm, hrt, hlk, hn0, T, locs, X, N, eT, k⟩ := A
  obtain ⟨v, _, ⟨T', L', k', n'⟩, -, X', ⟨Lc, hQ, l1, y1, z1⟩, st'⟩ := Jvm.LawKit.callS X hx (y := y') hown (mvT hZ w1) (mvT hZ w2) (mvT hZ w3) (mvT hZ w4) hy (backOf (Q := fun v h L => Fr n0 L ∧ Q v h) (W := (rest.map fun v => v.category).sum) hM hZ w4 w3 hf hlo) (g := mkF m pc Ls St) rfl (by rw [hml]; exact hsz) (argsL := argsL) (rest := rest) (lenOf hpd hlen) hs (by show 2 * 0 + _ ≤ _; omega) (hb hby hd) (fun _ _ => ⟨rfl, eT, hC, hS⟩)
  dsimp only [Pt.U, Pt.locs, Pt.cells, Pt.slots] at X' l1 y1 z1 st' hQ
  subst l1 y1 z1
  exact ⟨v, T'.heap, hQ.2, W.mk hx hZ hby hml hown hnm hrt hlk hn0 X' (N.app hQ.1) rfl (fun t q => k t (st' t q))⟩
theorem W.callI (A : W l Z n0 y bytes maxl ret R G h pc Ls St C S) {a : Addr} {y' : MethodName} {bytes' : ByteArray} {maxl' : Nat} {R' : Room} {as : Array Value} {idx : Nat} {argsL rest : List Value} {ps : List FieldType} {rr : Option FieldType} (hd : decode bytes pc = .ok (.invokespecial idx, 3)) (hy1 : y'.name = "<init>")
    (w1 : (Jvm.Cond.methodLink y.cls idx y').before a0 Z = true) (w2 : (Jvm.Cond.instanceMethod y').before a0 Z = true) (w3 : (Jvm.Cond.initialized y'.cls).before a0 Z = true) (w4 : (Jvm.Cond.code y' bytes' maxl' none).before a0 Z = true) (hM : Ctr l Z n0 y' bytes' maxl' none [] R' as h Q) (has : (.ref a :: argsL).toArray = as) (hs : St = argsL.reverse ++ .ref a :: rest)
    (hpd : parseMethodDescriptor y'.desc = some ⟨ps, rr⟩) (hlen : argsL.length = ps.length) (hsz : Ls.size = maxl) (hy : y'.cls ≠ "java/lang/invoke/MethodHandle" ∧ y'.cls ≠ "java/lang/invoke/VarHandle") (hf : R'.frames + 1 ≤ R.frames) (hlo : (rest.map fun v => v.category).sum + (maxl' + 11) + R'.locals ≤ R.locals) (hC : C + R'.cells ≤ R.cells) (hS : S + R'.slots ≤ R.slots) (hC' : C + R'.cells = C') (hS' : S + R'.slots = S') (hp : pc + 3 = pc') :
    ∃ v h', Q v h' ∧ W l Z n0 y bytes maxl ret R G h' pc' Ls (v.toList ++ rest) C' S' := by
  subst hp hC' hS' has
  obtain ⟨p, e, s, m, args, below, meth, c, st⟩ := G
  obtain ⟨hx, hZ, hby, hml, hown, hnm, hrt, hlk, hn0, T, locs, X, N, eT, k⟩ := A
  obtain ⟨v, _, ⟨T', L', k', n'⟩, -, X', ⟨Lc, hQ, l1, y1, z1⟩, st'⟩ := X.specialBack hx (y := y') hy1 hown (mvT hZ w1) (mvT hZ w2) (mvT hZ w4) hy (backOf (Q := fun v h L => Fr n0 L ∧ Q v h) (W := (rest.map fun v => v.category).sum) hM hZ w4 w3 hf hlo) (g := mkF m pc Ls St) rfl (by rw [hml]; exact hsz) (Steps.refl _) (a := a) (argsL := argsL) (rest := rest) (lenOf hpd hlen) hs (by show 2 * 0 + _ ≤ _; omega) (hb hby hd) (fun _ _ => ⟨rfl, eT, hC, hS⟩)
  dsimp only [Pt.U, Pt.locs, Pt.cells, Pt.slots] at X' l1 y1 z1 st' hQ
  subst l1 y1 z1
  exact ⟨v, T'.heap, hQ.2, W.mk hx hZ hby hml hown hnm hrt hlk hn0 X' (N.app hQ.1) rfl (fun t q => k t (st'.trans q))⟩
theorem W.callV (A : W l Z n0 y bytes maxl ret R G h pc Ls St C S) {a : Addr} {K : String} {y' z' : MethodName} {bytes' : ByteArray} {maxl' : Nat} {ret' : Option FieldType} {R' : Room} {as : Array Value} {idx : Nat} {argsL rest : List Value} {ps : List FieldType} {rr : Option FieldType} (hd : decode bytes pc = .ok (.invokevirtual idx, 3)) (E : Exa Z h a K)
    (w1 : (Jvm.Cond.methodLink y.cls idx y').before a0 Z = true) (wd : (Jvm.Cond.declares y').before a0 Z = true) (hnf : ∀ {s : State}, Z.Warmed39 s.vm → NotFace s y') (ws : (Jvm.Cond.selects K y' z').before a0 Z = true) (w2 : (Jvm.Cond.instanceMethod z').before a0 Z = true) (w3 : (Jvm.Cond.initialized z'.cls).before a0 Z = true) (w4 : (Jvm.Cond.code z' bytes' maxl' ret').before a0 Z = true) (hM : Ctr l Z n0 z' bytes' maxl' ret' [] R' as h Q) (has : (.ref a :: argsL).toArray = as) (hs : St = argsL.reverse ++ .ref a :: rest)
    (hpd : parseMethodDescriptor y'.desc = some ⟨ps, rr⟩) (hlen : argsL.length = ps.length) (hsz : Ls.size = maxl) (hy : y'.cls ≠ "java/lang/invoke/MethodHandle" ∧ y'.cls ≠ "java/lang/invoke/VarHandle") (hf : R'.frames + 1 ≤ R.frames) (hlo : (rest.map fun v => v.category).sum + (maxl' + 11) + R'.locals ≤ R.locals) (hC : C + R'.cells ≤ R.cells) (hS : S + R'.slots ≤ R.slots) (hC' : C + R'.cells = C') (hS' : S + R'.slots = S') (hp : pc + 3 = pc') :
    ∃ v h', Q v h' ∧ W l Z n0 y bytes maxl ret R G h' pc' Ls (v.toList ++ rest) C' S' := by
  subst hp hC' hS' has
  obtain ⟨p, e, s, m, args, below, meth, c, st⟩ := G
  obtain ⟨hx, hZ, hby, hml, hown, hnm, hrt, hlk, hn0, T, locs, X, N, eT, k⟩ := A
  obtain ⟨cq, kq, qa, qb, qc⟩ := isOf hZ eT E
  obtain ⟨v, _, ⟨T', L', k', n'⟩, -, X', ⟨Lc, hQ, l1, y1, z1⟩, st'⟩ := X.virtualBack hx (y := y') (z := z') hown (mvT hZ w1) (mvT hZ wd) (hnf hZ) (mvT hZ ws) (mvT hZ w2) hy (backOf (Q := fun v h L => Fr n0 L ∧ Q v h) (W := (rest.map fun v => v.category).sum) hM hZ w4 w3 hf hlo) qa qc (g := mkF m pc Ls St) rfl (by rw [hml]; exact hsz) (Steps.refl _) (argsL := argsL) (rest := rest) (lenOf hpd hlen) hs (by show 2 * 0 + _ ≤ _; omega) (hb hby hd) (fun _ _ => ⟨rfl, eT, hC, hS⟩)
  dsimp only [Pt.U, Pt.locs, Pt.cells, Pt.slots] at X' l1 y1 z1 st' hQ
  subst l1 y1 z1
  exact ⟨v, T'.heap, hQ.2, W.mk hx hZ hby hml hown hnm hrt hlk hn0 X' (N.app hQ.1) rfl (fun t q => k t (st'.trans q))⟩
theorem W.kI {P : Int32 → Heap → Prop} {rest : List Value} (q : ∃ v h', QI P v h' ∧ W l Z n0 y bytes maxl ret R G h' pc Ls (v.toList ++ rest) C S) : ∃ r h', P r h' ∧ W l Z n0 y bytes maxl ret R G h' pc Ls (.int r :: rest) C S := by
  obtain ⟨v, h', ⟨r, rfl, hP⟩, A⟩ := q; exact ⟨r, h', hP, A⟩
theorem W.kJ {P : Int64 → Heap → Prop} {rest : List Value} (q : ∃ v h', QJ P v h' ∧ W l Z n0 y bytes maxl ret R G h' pc Ls (v.toList ++ rest) C S) : ∃ r h', P r h' ∧ W l Z n0 y bytes maxl ret R G h' pc Ls (.long r :: rest) C S := by
  obtain ⟨v, h', ⟨r, rfl, hP⟩, A⟩ := q; exact ⟨r, h', hP, A⟩
theorem W.kA {P : Addr → Heap → Prop} {rest : List Value} (q : ∃ v h', QA P v h' ∧ W l Z n0 y bytes maxl ret R G h' pc Ls (v.toList ++ rest) C S) : ∃ r h', P r h' ∧ W l Z n0 y bytes maxl ret R G h' pc Ls (.ref r :: rest) C S := by
  obtain ⟨v, h', ⟨r, rfl, hP⟩, A⟩ := q; exact ⟨r, h', hP, A⟩
theorem W.kV {P : Heap → Prop} {rest : List Value} (q : ∃ v h', QV P v h' ∧ W l Z n0 y bytes maxl ret R G h' pc Ls (v.toList ++ rest) C S) : ∃ h', P h' ∧ W l Z n0 y bytes maxl ret R G h' pc Ls rest C S := by
  obtain ⟨v, h', ⟨rfl, hP⟩, A⟩ := q; exact ⟨h', hP, A⟩
end Walk
end Jvm.Pilot.@@N@@
namespace Jvm.Pilot.@@N@@
open Jvm Jvm.ClassFile Sem Op Lib Jvm.Free Jvm.Stand Jvm.LawKit Jvm.RoadKit Bundle
/-! numbers -/
theorem rng32 (x : Int32) : -2147483648 ≤ x.toInt ∧ x.toInt < 2147483648 := ⟨x.le_toInt, x.toInt_lt⟩
theorem rng64 (x : Int64) : -9223372036854775808 ≤ x.toInt ∧ x.toInt < 9223372036854775808 := ⟨x.le_toInt, x.toInt_lt⟩
theorem add32 (x y : Int32) (h1 : -2147483648 ≤ x.toInt + y.toInt) (h2 : x.toInt + y.toInt < 2147483648) : (x + y).toInt = x.toInt + y.toInt := by
  have e := c_iadd x y; have r := rng32 (x + y); omega
theorem sub32 (x y : Int32) (h1 : -2147483648 ≤ x.toInt - y.toInt) (h2 : x.toInt - y.toInt < 2147483648) : (x - y).toInt = x.toInt - y.toInt := by
  have e := c_isub x y; have r := rng32 (x - y); omega
theorem mul32 (x y : Int32) (h1 : -2147483648 ≤ x.toInt * y.toInt) (h2 : x.toInt * y.toInt < 2147483648) : (x * y).toInt = x.toInt * y.toInt := by
  have e := c_imul x y; have r := rng32 (x * y); generalize x.toInt * y.toInt = z at *; omega
theorem add64 (x y : Int64) (h1 : -9223372036854775808 ≤ x.toInt + y.toInt) (h2 : x.toInt + y.toInt < 9223372036854775808) : (x + y).toInt = x.toInt + y.toInt := by
  have e := c_ladd x y; have r := rng64 (x + y); omega
theorem sub64 (x y : Int64) (h1 : -9223372036854775808 ≤ x.toInt - y.toInt) (h2 : x.toInt - y.toInt < 9223372036854775808) : (x - y).toInt = x.toInt - y.toInt := by
  have e := c_lsub x y; have r := rng64 (x - y); omega
theorem mul64 (x y : Int64) (h1 : -9223372036854775808 ≤ x.toInt * y.toInt) (h2 : x.toInt * y.toInt < 9223372036854775808) : (x * y).toInt = x.toInt * y.toInt := by
  have e := c_lmul x y; have r := rng64 (x * y); generalize x.toInt * y.toInt = z at *; omega
theorem mulc32 (x c : Int32) (k : Int) (hc : c.toInt = k) (h1 : -2147483648 ≤ x.toInt * k) (h2 : x.toInt * k < 2147483648) : (x * c).toInt = x.toInt * k := by
  subst hc; exact mul32 x c h1 h2
theorem mulc64 (x c : Int64) (k : Int) (hc : c.toInt = k) (h1 : -9223372036854775808 ≤ x.toInt * k) (h2 : x.toInt * k < 9223372036854775808) : (x * c).toInt = x.toInt * k := by
  subst hc; exact mul64 x c h1 h2
theorem addc32 (x c : Int32) (k : Int) (hc : c.toInt = k) (h1 : -2147483648 ≤ x.toInt + k) (h2 : x.toInt + k < 2147483648) : (x + c).toInt = x.toInt + k := by
  subst hc; exact add32 x c h1 h2
theorem subc32 (x c : Int32) (k : Int) (hc : c.toInt = k) (h1 : -2147483648 ≤ x.toInt - k) (h2 : x.toInt - k < 2147483648) : (x - c).toInt = x.toInt - k := by
  subst hc; exact sub32 x c h1 h2
theorem sta_int {args : Array Value} {s : State} {C n d : String} {v : Int32} (h : (Jvm.Cond.eq (Jvm.Term.static C n d) (Jvm.Term.int v)).value args s none s [] = some true) : (Jvm.Term.static C n d).eval args s none [] s = some (.int v) := by
  obtain ⟨a, b, h1, h2, -, -⟩ := cmp_v (Or.inl h)
  cases Option.some.inj (h2.symm.trans (rfl : (Jvm.Term.int v).eval args s none [] s = some (.int v)))
  rw [h1]; cases a <;> simp [Cond.value, h1, h2] at h ⊢; exact h
theorem sta_long {args : Array Value} {s : State} {C n d : String} {v : Int64} (h : (Jvm.Cond.eq (Jvm.Term.static C n d) (Jvm.Term.long v)).value args s none s [] = some true) : (Jvm.Term.static C n d).eval args s none [] s = some (.long v) := by
  obtain ⟨a, b, h1, h2, -, -⟩ := cmp_v (Or.inl h)
  cases Option.some.inj (h2.symm.trans (rfl : (Jvm.Term.long v).eval args s none [] s = some (.long v)))
  rw [h1]; cases a <;> simp [Cond.value, h1, h2] at h ⊢; exact h
/-- (y & 0x7fffffff) % m -/
theorem pmod32 (x m : Int32) (M : Int) (hm : m.toInt = M) (hM : 0 < M) : ((x &&& (2147483647 : Int32)) % m).toInt = (x.toInt % 2147483648) % M ∧ 0 ≤ ((x &&& (2147483647 : Int32)) % m).toInt ∧ ((x &&& (2147483647 : Int32)) % m).toInt < M := by
  have e : (x &&& (2147483647 : Int32)).toInt = x.toInt % 2147483648 := c_mask x 2147483647 31 (by decide) (by decide)
  have q := (c_irem (x &&& (2147483647 : Int32)) m M hm).1 (by omega)
  have := Int.emod_nonneg (x.toInt % 2147483648) (show M ≠ 0 by omega)
  have := Int.emod_lt_of_pos (x.toInt % 2147483648) hM
  rw [q, e]; omega
/-- (x & Long.MAX_VALUE) % m -/
theorem pmod64 (x m : Int64) (M : Int) (hm : m.toInt = M) (hM : 0 < M) : 0 ≤ ((x &&& (9223372036854775807 : Int64)) % m).toInt ∧ ((x &&& (9223372036854775807 : Int64)) % m).toInt < M := by
  have e : (x &&& (9223372036854775807 : Int64)).toInt = x.toInt % 9223372036854775808 := c_maskL x 9223372036854775807 63 (by decide) (by decide)
  have q := (c_lrem (x &&& (9223372036854775807 : Int64)) m M hm).1 (by omega)
  rw [lrem_mod] at q
  have := Int.emod_nonneg (x.toInt % 9223372036854775808) (show M ≠ 0 by omega)
  have := Int.emod_lt_of_pos (x.toInt % 9223372036854775808) hM
  rw [q, e]; omega
end Jvm.Pilot.@@N@@
namespace Jvm.Pilot.@@N@@
open Jvm Jvm.ClassFile Sem Op Lib Jvm.Free Jvm.Stand Jvm.LawKit Jvm.RoadKit Bundle Jvm.Pilot.@@N@@.Jvm.D
theorem pd_0 : parseMethodDescriptor "(III)Z" = some ⟨[.int, .int, .int], some .boolean⟩ := by decide +kernel
theorem pd_1 : parseMethodDescriptor "(I)Z" = some ⟨[.int], some .boolean⟩ := by decide +kernel
theorem pn3 : plainFor (⟨"com/example/dialekt/dialekt/uri/UriSyntaxIsUcscharPinLaw", "in", "(III)Z"⟩ : MethodName) = true := by first | exact plainFor_of_name (by first | (simp [plainName, overriddenIn]; done) | decide +kernel) | exact Jvm.Free.JP.mathPlain rfl (by decide +kernel) | decide +kernel
theorem d3_0 : decode method_2_code 0 = .ok (.iload_n 0, 1) := by decide +kernel
theorem d3_1 : decode method_2_code 1 = .ok (.iload_n 1, 1) := by decide +kernel
theorem d3_2 : decode method_2_code 2 = .ok (.if_icmp .lt 12, 3) := by decide +kernel
theorem d3_5 : decode method_2_code 5 = .ok (.iload_n 0, 1) := by decide +kernel
theorem d3_6 : decode method_2_code 6 = .ok (.iload_n 2, 1) := by decide +kernel
theorem d3_7 : decode method_2_code 7 = .ok (.if_icmp .gt 7, 3) := by decide +kernel
theorem d3_10 : decode method_2_code 10 = .ok (.iconst 1, 1) := by decide +kernel
theorem d3_11 : decode method_2_code 11 = .ok (.goto 4, 3) := by decide +kernel
theorem d3_14 : decode method_2_code 14 = .ok (.iconst 0, 1) := by decide +kernel
theorem d3_15 : decode method_2_code 15 = .ok (.ireturn, 1) := by decide +kernel
abbrev y3 : MethodName := (⟨"com/example/dialekt/dialekt/uri/UriSyntaxIsUcscharPinLaw", "in", "(III)Z"⟩ : MethodName)
abbrev R3 : Room := { frames := 0, cells := 0, slots := 0, locals := 0 }
theorem ef3 (c : Int32) (lo : Int32) (hi : Int32) (m : MethodId) : entryFrame m #[(.int c), (.int lo), (.int hi)] 3 = mkF m 0 #[.val (.int c), .val (.int lo), .val (.int hi)] [] := by first | rfl | (simp [entryFrame, mkF, argsToLocals, Value.category]; done)
set_option maxRecDepth 65536 in
set_option maxHeartbeats 40000000 in
theorem rm3 (l : Launch) (Z : State) (a0 : Array Value) (hw : ∀ d ∈ tables_1, d.before a0 Z = true) (n0 : Nat) (ws : List Jvm.Cond) (c : Int32) (lo : Int32) (hi : Int32)  (h0 : Heap) (hn0 : n0 ≤ h0.size)  :
    Ctr l Z n0 y3 method_2_code 3 (some .boolean) ws R3 #[(.int c), (.int lo), (.int hi)] h0 (QI fun r h => (h0 = h) ∧ ((r.toInt = 1 ∧ (lo.toInt ≤ c.toInt ∧ c.toInt ≤ hi.toInt)) ∨ (r.toInt = 0 ∧ ¬ (lo.toInt ≤ c.toInt ∧ c.toInt ≤ hi.toInt)))) := by
  refine ctr_of pn3 hn0 (ef3 c lo hi) fun G A0 => ?_
  have A1 := A0.iloadN (v := c) (pc' := 1) d3_0 rfl rfl
  have A2 := A1.iloadN (v := lo) (pc' := 2) d3_1 rfl rfl
  by_cases c3 : c.toInt < lo.toInt
  · have A4 := A2.icmpYes (pc' := 14) d3_2 (tlt (ilt (x := c) (y := lo) rfl rfl c3)).1 (by decide) (by decide)
    have A5 := A4.iconst (z := (0 : Int32)) (pc' := 15) d3_14 rfl rfl
    refine A5.retN (t := .boolean) (z' := (0 : Int32)) d3_15 (by decide) (by decide) (by simp) rfl ⟨_, rfl, ⟨rfl, ?_⟩⟩
    have e1 : (0 : Int32).toInt = 0 := rfl
    omega
  · have A6 := A2.icmpNo (pc' := 5) d3_2 (flt (inlt (x := c) (y := lo) rfl rfl c3)).1 rfl
    have A7 := A6.iloadN (v := c) (pc' := 6) d3_5 rfl rfl
    have A8 := A7.iloadN (v := hi) (pc' := 7) d3_6 rfl rfl
    by_cases c9 : hi.toInt < c.toInt
    · have A10 := A8.icmpYes (pc' := 14) d3_7 (tlt (igt (x := c) (y := hi) rfl rfl c9)).2.2.1 (by decide) (by decide)
      have A11 := A10.iconst (z := (0 : Int32)) (pc' := 15) d3_14 rfl rfl
      refine A11.retN (t := .boolean) (z' := (0 : Int32)) d3_15 (by decide) (by decide) (by simp) rfl ⟨_, rfl, ⟨rfl, ?_⟩⟩
      have e1 : (0 : Int32).toInt = 0 := rfl
      omega
    · have A12 := A8.icmpNo (pc' := 10) d3_7 (flt (ingt (x := c) (y := hi) rfl rfl c9)).2.2.1 rfl
      have A13 := A12.iconst (z := (1 : Int32)) (pc' := 11) d3_10 rfl rfl
      have A14 := A13.goto (pc' := 15) d3_11 (by decide) (by decide)
      refine A14.retN (t := .boolean) (z' := (1 : Int32)) d3_15 (by decide) (by decide) (by simp) rfl ⟨_, rfl, ⟨rfl, ?_⟩⟩
      have e1 : (1 : Int32).toInt = 1 := rfl
      omega
theorem pn1 : plainFor (⟨"com/example/dialekt/dialekt/uri/UriSyntax", "isUcschar", "(I)Z"⟩ : MethodName) = true := by first | exact plainFor_of_name (by first | (simp [plainName, overriddenIn]; done) | decide +kernel) | exact Jvm.Free.JP.mathPlain rfl (by decide +kernel) | decide +kernel
theorem d1_0 : decode prog_59_method_9_code 0 = .ok (.iload_n 0, 1) := by decide +kernel
theorem d1_1 : decode prog_59_method_9_code 1 = .ok (.ldc 88, 2) := by decide +kernel
theorem d1_3 : decode prog_59_method_9_code 3 = .ok (.if_icmp .ge 49, 3) := by decide +kernel
theorem d1_6 : decode prog_59_method_9_code 6 = .ok (.iload_n 0, 1) := by decide +kernel
theorem d1_7 : decode prog_59_method_9_code 7 = .ok (.sipush 160, 3) := by decide +kernel
theorem d1_10 : decode prog_59_method_9_code 10 = .ok (.if_icmp .lt 9, 3) := by decide +kernel
theorem d1_13 : decode prog_59_method_9_code 13 = .ok (.iload_n 0, 1) := by decide +kernel
theorem d1_14 : decode prog_59_method_9_code 14 = .ok (.ldc 89, 2) := by decide +kernel
theorem d1_16 : decode prog_59_method_9_code 16 = .ok (.if_icmp .le 27, 3) := by decide +kernel
theorem d1_19 : decode prog_59_method_9_code 19 = .ok (.iload_n 0, 1) := by decide +kernel
theorem d1_20 : decode prog_59_method_9_code 20 = .ok (.ldc 90, 2) := by decide +kernel
theorem d1_22 : decode prog_59_method_9_code 22 = .ok (.if_icmp .lt 9, 3) := by decide +kernel
theorem d1_25 : decode prog_59_method_9_code 25 = .ok (.iload_n 0, 1) := by decide +kernel
theorem d1_26 : decode prog_59_method_9_code 26 = .ok (.ldc 91, 2) := by decide +kernel
theorem d1_28 : decode prog_59_method_9_code 28 = .ok (.if_icmp .le 15, 3) := by decide +kernel
theorem d1_31 : decode prog_59_method_9_code 31 = .ok (.iload_n 0, 1) := by decide +kernel
theorem d1_32 : decode prog_59_method_9_code 32 = .ok (.ldc 92, 2) := by decide +kernel
theorem d1_34 : decode prog_59_method_9_code 34 = .ok (.if_icmp .lt 13, 3) := by decide +kernel
theorem d1_37 : decode prog_59_method_9_code 37 = .ok (.iload_n 0, 1) := by decide +kernel
theorem d1_38 : decode prog_59_method_9_code 38 = .ok (.ldc 93, 2) := by decide +kernel
theorem d1_40 : decode prog_59_method_9_code 40 = .ok (.if_icmp .gt 7, 3) := by decide +kernel
theorem d1_43 : decode prog_59_method_9_code 43 = .ok (.iconst 1, 1) := by decide +kernel
theorem d1_44 : decode prog_59_method_9_code 44 = .ok (.goto 4, 3) := by decide +kernel
theorem d1_47 : decode prog_59_method_9_code 47 = .ok (.iconst 0, 1) := by decide +kernel
theorem d1_48 : decode prog_59_method_9_code 48 = .ok (.istore_n 1, 1) := by decide +kernel
theorem d1_49 : decode prog_59_method_9_code 49 = .ok (.goto 36, 3) := by decide +kernel
theorem d1_52 : decode prog_59_method_9_code 52 = .ok (.iload_n 0, 1) := by decide +kernel
theorem d1_53 : decode prog_59_method_9_code 53 = .ok (.ldc 94, 2) := by decide +kernel
theorem d1_55 : decode prog_59_method_9_code 55 = .ok (.if_icmp .ge 28, 3) := by decide +kernel
theorem d1_58 : decode prog_59_method_9_code 58 = .ok (.iload_n 0, 1) := by decide +kernel
theorem d1_59 : decode prog_59_method_9_code 59 = .ok (.ldc 95, 2) := by decide +kernel
theorem d1_61 : decode prog_59_method_9_code 61 = .ok (.iand, 1) := by decide +kernel
theorem d1_62 : decode prog_59_method_9_code 62 = .ok (.ldc 96, 2) := by decide +kernel
theorem d1_64 : decode prog_59_method_9_code 64 = .ok (.if_icmp .gt 19, 3) := by decide +kernel
theorem d1_67 : decode prog_59_method_9_code 67 = .ok (.iload_n 0, 1) := by decide +kernel
theorem d1_68 : decode prog_59_method_9_code 68 = .ok (.ldc 97, 2) := by decide +kernel
theorem d1_70 : decode prog_59_method_9_code 70 = .ok (.if_icmp .lt 9, 3) := by decide +kernel
theorem d1_73 : decode prog_59_method_9_code 73 = .ok (.iload_n 0, 1) := by decide +kernel
theorem d1_74 : decode prog_59_method_9_code 74 = .ok (.ldc 98, 2) := by decide +kernel
theorem d1_76 : decode prog_59_method_9_code 76 = .ok (.if_icmp .lt 7, 3) := by decide +kernel
theorem d1_79 : decode prog_59_method_9_code 79 = .ok (.iconst 1, 1) := by decide +kernel
theorem d1_80 : decode prog_59_method_9_code 80 = .ok (.goto 4, 3) := by decide +kernel
theorem d1_83 : decode prog_59_method_9_code 83 = .ok (.iconst 0, 1) := by decide +kernel
theorem d1_84 : decode prog_59_method_9_code 84 = .ok (.istore_n 1, 1) := by decide +kernel
theorem d1_85 : decode prog_59_method_9_code 85 = .ok (.iload_n 1, 1) := by decide +kernel
theorem d1_86 : decode prog_59_method_9_code 86 = .ok (.ireturn, 1) := by decide +kernel
abbrev y1 : MethodName := (⟨"com/example/dialekt/dialekt/uri/UriSyntax", "isUcschar", "(I)Z"⟩ : MethodName)
abbrev R1 : Room := { frames := 0, cells := 0, slots := 0, locals := 0 }
theorem ef1 (c : Int32) (m : MethodId) : entryFrame m #[(.int c)] 2 = mkF m 0 #[.val (.int c), .unset] [] := by first | rfl | (simp [entryFrame, mkF, argsToLocals, Value.category]; done)
set_option maxRecDepth 65536 in
set_option maxHeartbeats 40000000 in
theorem rm1 (l : Launch) (Z : State) (a0 : Array Value) (hw : ∀ d ∈ tables_1, d.before a0 Z = true) (n0 : Nat) (ws : List Jvm.Cond) (c : Int32)  (h0 : Heap) (hn0 : n0 ≤ h0.size)  :
    Ctr l Z n0 y1 prog_59_method_9_code 2 (some .boolean) ws R1 #[(.int c)] h0 (QI fun r h => (h0 = h) ∧ ((r.toInt = 1 ∧ (160 ≤ c.toInt ∧ c.toInt ≤ 55295 ∨ 63744 ≤ c.toInt ∧ c.toInt ≤ 64975 ∨ 65008 ≤ c.toInt ∧ c.toInt ≤ 65519 ∨ 65536 ≤ c.toInt ∧ c.toInt ≤ 131069 ∨ 131072 ≤ c.toInt ∧ c.toInt ≤ 196605 ∨ 196608 ≤ c.toInt ∧ c.toInt ≤ 262141 ∨ 262144 ≤ c.toInt ∧ c.toInt ≤ 327677 ∨ 327680 ≤ c.toInt ∧ c.toInt ≤ 393213 ∨ 393216 ≤ c.toInt ∧ c.toInt ≤ 458749 ∨ 458752 ≤ c.toInt ∧ c.toInt ≤ 524285 ∨ 524288 ≤ c.toInt ∧ c.toInt ≤ 589821 ∨ 589824 ≤ c.toInt ∧ c.toInt ≤ 655357 ∨ 655360 ≤ c.toInt ∧ c.toInt ≤ 720893 ∨ 720896 ≤ c.toInt ∧ c.toInt ≤ 786429 ∨ 786432 ≤ c.toInt ∧ c.toInt ≤ 851965 ∨ 851968 ≤ c.toInt ∧ c.toInt ≤ 917501 ∨ 921600 ≤ c.toInt ∧ c.toInt ≤ 983037)) ∨ (r.toInt = 0 ∧ ¬ (160 ≤ c.toInt ∧ c.toInt ≤ 55295 ∨ 63744 ≤ c.toInt ∧ c.toInt ≤ 64975 ∨ 65008 ≤ c.toInt ∧ c.toInt ≤ 65519 ∨ 65536 ≤ c.toInt ∧ c.toInt ≤ 131069 ∨ 131072 ≤ c.toInt ∧ c.toInt ≤ 196605 ∨ 196608 ≤ c.toInt ∧ c.toInt ≤ 262141 ∨ 262144 ≤ c.toInt ∧ c.toInt ≤ 327677 ∨ 327680 ≤ c.toInt ∧ c.toInt ≤ 393213 ∨ 393216 ≤ c.toInt ∧ c.toInt ≤ 458749 ∨ 458752 ≤ c.toInt ∧ c.toInt ≤ 524285 ∨ 524288 ≤ c.toInt ∧ c.toInt ≤ 589821 ∨ 589824 ≤ c.toInt ∧ c.toInt ≤ 655357 ∨ 655360 ≤ c.toInt ∧ c.toInt ≤ 720893 ∨ 720896 ≤ c.toInt ∧ c.toInt ≤ 786429 ∨ 786432 ≤ c.toInt ∧ c.toInt ≤ 851965 ∨ 851968 ≤ c.toInt ∧ c.toInt ≤ 917501 ∨ 921600 ≤ c.toInt ∧ c.toInt ≤ 983037)))) := by
  refine ctr_of pn1 hn0 (ef1 c) fun G A0 => ?_
  have A1 := A0.iloadN (v := c) (pc' := 1) d1_0 rfl rfl
  have A2 := A1.ldc (z := (65536 : Int32)) (pc' := 3) d1_1 (hw _ (List.mem_of_getElem? (i := 6) rfl)) rfl
  by_cases c3 : c.toInt < 65536
  · have A4 := A2.icmpNo (pc' := 6) d1_3 (tlt (ilt (x := c) (y := (65536 : Int32)) rfl rfl c3)).2.1 rfl
    have A5 := A4.iloadN (v := c) (pc' := 7) d1_6 rfl rfl
    have A6 := A5.sipush (z := (160 : Int32)) (pc' := 10) d1_7 rfl rfl
    by_cases c7 : c.toInt < 160
    · have A8 := A6.icmpYes (pc' := 19) d1_10 (tlt (ilt (x := c) (y := (160 : Int32)) rfl rfl c7)).1 (by decide) (by decide)
      have A9 := A8.iloadN (v := c) (pc' := 20) d1_19 rfl rfl
      have A10 := A9.ldc (z := (63744 : Int32)) (pc' := 22) d1_20 (hw _ (List.mem_of_getElem? (i := 8) rfl)) rfl
      by_cases c11 : c.toInt < 63744
      · have A12 := A10.icmpYes (pc' := 31) d1_22 (tlt (ilt (x := c) (y := (63744 : Int32)) rfl rfl c11)).1 (by decide) (by decide)
        have A13 := A12.iloadN (v := c) (pc' := 32) d1_31 rfl rfl
        have A14 := A13.ldc (z := (65008 : Int32)) (pc' := 34) d1_32 (hw _ (List.mem_of_getElem? (i := 10) rfl)) rfl
        by_cases c15 : c.toInt < 65008
        · have A16 := A14.icmpYes (pc' := 47) d1_34 (tlt (ilt (x := c) (y := (65008 : Int32)) rfl rfl c15)).1 (by decide) (by decide)
          have A17 := A16.iconst (z := (0 : Int32)) (pc' := 48) d1_47 rfl rfl
          have A18 := A17.istoreN (Ls' := #[.val (.int c), .val (.int (0 : Int32))]) (pc' := 49) d1_48 rfl rfl
          have A19 := A18.goto (pc' := 85) d1_49 (by decide) (by decide)
          have A20 := A19.iloadN (v := (0 : Int32)) (pc' := 86) d1_85 rfl rfl
          refine A20.retN (t := .boolean) (z' := (0 : Int32)) d1_86 (by decide) (by decide) (by simp) rfl ⟨_, rfl, ⟨rfl, ?_⟩⟩
          have e1 : (0 : Int32).toInt = 0 := rfl
          have k1 : (c &&& (65535 : Int32)).toInt = c.toInt % 65536 := c_mask c 65535 16 (by decide) (by decide)
          omega
        · have A21 := A14.icmpNo (pc' := 37) d1_34 (flt (inlt (x := c) (y := (65008 : Int32)) rfl rfl c15)).1 rfl
          have A22 := A21.iloadN (v := c) (pc' := 38) d1_37 rfl rfl
          have A23 := A22.ldc (z := (65519 : Int32)) (pc' := 40) d1_38 (hw _ (List.mem_of_getElem? (i := 11) rfl)) rfl
          by_cases c24 : 65519 < c.toInt
          · have A25 := A23.icmpYes (pc' := 47) d1_40 (tlt (igt (x := c) (y := (65519 : Int32)) rfl rfl c24)).2.2.1 (by decide) (by decide)
            have A26 := A25.iconst (z := (0 : Int32)) (pc' := 48) d1_47 rfl rfl
            have A27 := A26.istoreN (Ls' := #[.val (.int c), .val (.int (0 : Int32))]) (pc' := 49) d1_48 rfl rfl
            have A28 := A27.goto (pc' := 85) d1_49 (by decide) (by decide)
            have A29 := A28.iloadN (v := (0 : Int32)) (pc' := 86) d1_85 rfl rfl
            refine A29.retN (t := .boolean) (z' := (0 : Int32)) d1_86 (by decide) (by decide) (by simp) rfl ⟨_, rfl, ⟨rfl, ?_⟩⟩
            have e1 : (0 : Int32).toInt = 0 := rfl
            have k1 : (c &&& (65535 : Int32)).toInt = c.toInt % 65536 := c_mask c 65535 16 (by decide) (by decide)
            omega
          · have A30 := A23.icmpNo (pc' := 43) d1_40 (flt (ingt (x := c) (y := (65519 : Int32)) rfl rfl c24)).2.2.1 rfl
            have A31 := A30.iconst (z := (1 : Int32)) (pc' := 44) d1_43 rfl rfl
            have A32 := A31.goto (pc' := 48) d1_44 (by decide) (by decide)
            have A33 := A32.istoreN (Ls' := #[.val (.int c), .val (.int (1 : Int32))]) (pc' := 49) d1_48 rfl rfl
            have A34 := A33.goto (pc' := 85) d1_49 (by decide) (by decide)
            have A35 := A34.iloadN (v := (1 : Int32)) (pc' := 86) d1_85 rfl rfl
            refine A35.retN (t := .boolean) (z' := (1 : Int32)) d1_86 (by decide) (by decide) (by simp) rfl ⟨_, rfl, ⟨rfl, ?_⟩⟩
            have e1 : (1 : Int32).toInt = 1 := rfl
            have k1 : (c &&& (65535 : Int32)).toInt = c.toInt % 65536 := c_mask c 65535 16 (by decide) (by decide)
            omega
      · have A36 := A10.icmpNo (pc' := 25) d1_22 (flt (inlt (x := c) (y := (63744 : Int32)) rfl rfl c11)).1 rfl
        have A37 := A36.iloadN (v := c) (pc' := 26) d1_25 rfl rfl
        have A38 := A37.ldc (z := (64975 : Int32)) (pc' := 28) d1_26 (hw _ (List.mem_of_getElem? (i := 9) rfl)) rfl
        by_cases c39 : 64975 < c.toInt
        · have A40 := A38.icmpNo (pc' := 31) d1_28 (tlt (igt (x := c) (y := (64975 : Int32)) rfl rfl c39)).2.2.2 rfl
          have A41 := A40.iloadN (v := c) (pc' := 32) d1_31 rfl rfl
          have A42 := A41.ldc (z := (65008 : Int32)) (pc' := 34) d1_32 (hw _ (List.mem_of_getElem? (i := 10) rfl)) rfl
          by_cases c43 : c.toInt < 65008
          · have A44 := A42.icmpYes (pc' := 47) d1_34 (tlt (ilt (x := c) (y := (65008 : Int32)) rfl rfl c43)).1 (by decide) (by decide)
            have A45 := A44.iconst (z := (0 : Int32)) (pc' := 48) d1_47 rfl rfl
            have A46 := A45.istoreN (Ls' := #[.val (.int c), .val (.int (0 : Int32))]) (pc' := 49) d1_48 rfl rfl
            have A47 := A46.goto (pc' := 85) d1_49 (by decide) (by decide)
            have A48 := A47.iloadN (v := (0 : Int32)) (pc' := 86) d1_85 rfl rfl
            refine A48.retN (t := .boolean) (z' := (0 : Int32)) d1_86 (by decide) (by decide) (by simp) rfl ⟨_, rfl, ⟨rfl, ?_⟩⟩
            have e1 : (0 : Int32).toInt = 0 := rfl
            have k1 : (c &&& (65535 : Int32)).toInt = c.toInt % 65536 := c_mask c 65535 16 (by decide) (by decide)
            omega
          · have A49 := A42.icmpNo (pc' := 37) d1_34 (flt (inlt (x := c) (y := (65008 : Int32)) rfl rfl c43)).1 rfl
            have A50 := A49.iloadN (v := c) (pc' := 38) d1_37 rfl rfl
            have A51 := A50.ldc (z := (65519 : Int32)) (pc' := 40) d1_38 (hw _ (List.mem_of_getElem? (i := 11) rfl)) rfl
            by_cases c52 : 65519 < c.toInt
            · have A53 := A51.icmpYes (pc' := 47) d1_40 (tlt (igt (x := c) (y := (65519 : Int32)) rfl rfl c52)).2.2.1 (by decide) (by decide)
              have A54 := A53.iconst (z := (0 : Int32)) (pc' := 48) d1_47 rfl rfl
              have A55 := A54.istoreN (Ls' := #[.val (.int c), .val (.int (0 : Int32))]) (pc' := 49) d1_48 rfl rfl
              have A56 := A55.goto (pc' := 85) d1_49 (by decide) (by decide)
              have A57 := A56.iloadN (v := (0 : Int32)) (pc' := 86) d1_85 rfl rfl
              refine A57.retN (t := .boolean) (z' := (0 : Int32)) d1_86 (by decide) (by decide) (by simp) rfl ⟨_, rfl, ⟨rfl, ?_⟩⟩
              have e1 : (0 : Int32).toInt = 0 := rfl
              have k1 : (c &&& (65535 : Int32)).toInt = c.toInt % 65536 := c_mask c 65535 16 (by decide) (by decide)
              omega
            · have A58 := A51.icmpNo (pc' := 43) d1_40 (flt (ingt (x := c) (y := (65519 : Int32)) rfl rfl c52)).2.2.1 rfl
              have A59 := A58.iconst (z := (1 : Int32)) (pc' := 44) d1_43 rfl rfl
              have A60 := A59.goto (pc' := 48) d1_44 (by decide) (by decide)
              have A61 := A60.istoreN (Ls' := #[.val (.int c), .val (.int (1 : Int32))]) (pc' := 49) d1_48 rfl rfl
              have A62 := A61.goto (pc' := 85) d1_49 (by decide) (by decide)
              have A63 := A62.iloadN (v := (1 : Int32)) (pc' := 86) d1_85 rfl rfl
              refine A63.retN (t := .boolean) (z' := (1 : Int32)) d1_86 (by decide) (by decide) (by simp) rfl ⟨_, rfl, ⟨rfl, ?_⟩⟩
              have e1 : (1 : Int32).toInt = 1 := rfl
              have k1 : (c &&& (65535 : Int32)).toInt = c.toInt % 65536 := c_mask c 65535 16 (by decide) (by decide)
              omega
        · have A64 := A38.icmpYes (pc' := 43) d1_28 (flt (ingt (x := c) (y := (64975 : Int32)) rfl rfl c39)).2.2.2 (by decide) (by decide)
          have A65 := A64.iconst (z := (1 : Int32)) (pc' := 44) d1_43 rfl rfl
          have A66 := A65.goto (pc' := 48) d1_44 (by decide) (by decide)
          have A67 := A66.istoreN (Ls' := #[.val (.int c), .val (.int (1 : Int32))]) (pc' := 49) d1_48 rfl rfl
          have A68 := A67.goto (pc' := 85) d1_49 (by decide) (by decide)
          have A69 := A68.iloadN (v := (1 : Int32)) (pc' := 86) d1_85 rfl rfl
          refine A69.retN (t := .boolean) (z' := (1 : Int32)) d1_86 (by decide) (by decide) (by simp) rfl ⟨_, rfl, ⟨rfl, ?_⟩⟩
          have e1 : (1 : Int32).toInt = 1 := rfl
          have k1 : (c &&& (65535 : Int32)).toInt = c.toInt % 65536 := c_mask c 65535 16 (by decide) (by decide)
          omega
    · have A70 := A6.icmpNo (pc' := 13) d1_10 (flt (inlt (x := c) (y := (160 : Int32)) rfl rfl c7)).1 rfl
      have A71 := A70.iloadN (v := c) (pc' := 14) d1_13 rfl rfl
      have A72 := A71.ldc (z := (55295 : Int32)) (pc' := 16) d1_14 (hw _ (List.mem_of_getElem? (i := 7) rfl)) rfl
      by_cases c73 : 55295 < c.toInt
      · have A74 := A72.icmpNo (pc' := 19) d1_16 (tlt (igt (x := c) (y := (55295 : Int32)) rfl rfl c73)).2.2.2 rfl
        have A75 := A74.iloadN (v := c) (pc' := 20) d1_19 rfl rfl
        have A76 := A75.ldc (z := (63744 : Int32)) (pc' := 22) d1_20 (hw _ (List.mem_of_getElem? (i := 8) rfl)) rfl
        by_cases c77 : c.toInt < 63744
        · have A78 := A76.icmpYes (pc' := 31) d1_22 (tlt (ilt (x := c) (y := (63744 : Int32)) rfl rfl c77)).1 (by decide) (by decide)
          have A79 := A78.iloadN (v := c) (pc' := 32) d1_31 rfl rfl
          have A80 := A79.ldc (z := (65008 : Int32)) (pc' := 34) d1_32 (hw _ (List.mem_of_getElem? (i := 10) rfl)) rfl
          by_cases c81 : c.toInt < 65008
          · have A82 := A80.icmpYes (pc' := 47) d1_34 (tlt (ilt (x := c) (y := (65008 : Int32)) rfl rfl c81)).1 (by decide) (by decide)
            have A83 := A82.iconst (z := (0 : Int32)) (pc' := 48) d1_47 rfl rfl
            have A84 := A83.istoreN (Ls' := #[.val (.int c), .val (.int (0 : Int32))]) (pc' := 49) d1_48 rfl rfl
            have A85 := A84.goto (pc' := 85) d1_49 (by decide) (by decide)
            have A86 := A85.iloadN (v := (0 : Int32)) (pc' := 86) d1_85 rfl rfl
            refine A86.retN (t := .boolean) (z' := (0 : Int32)) d1_86 (by decide) (by decide) (by simp) rfl ⟨_, rfl, ⟨rfl, ?_⟩⟩
            have e1 : (0 : Int32).toInt = 0 := rfl
            have k1 : (c &&& (65535 : Int32)).toInt = c.toInt % 65536 := c_mask c 65535 16 (by decide) (by decide)
            omega
          · have A87 := A80.icmpNo (pc' := 37) d1_34 (flt (inlt (x := c) (y := (65008 : Int32)) rfl rfl c81)).1 rfl
            have A88 := A87.iloadN (v := c) (pc' := 38) d1_37 rfl rfl
            have A89 := A88.ldc (z := (65519 : Int32)) (pc' := 40) d1_38 (hw _ (List.mem_of_getElem? (i := 11) rfl)) rfl
            by_cases c90 : 65519 < c.toInt
            · have A91 := A89.icmpYes (pc' := 47) d1_40 (tlt (igt (x := c) (y := (65519 : Int32)) rfl rfl c90)).2.2.1 (by decide) (by decide)
              have A92 := A91.iconst (z := (0 : Int32)) (pc' := 48) d1_47 rfl rfl
              have A93 := A92.istoreN (Ls' := #[.val (.int c), .val (.int (0 : Int32))]) (pc' := 49) d1_48 rfl rfl
              have A94 := A93.goto (pc' := 85) d1_49 (by decide) (by decide)
              have A95 := A94.iloadN (v := (0 : Int32)) (pc' := 86) d1_85 rfl rfl
              refine A95.retN (t := .boolean) (z' := (0 : Int32)) d1_86 (by decide) (by decide) (by simp) rfl ⟨_, rfl, ⟨rfl, ?_⟩⟩
              have e1 : (0 : Int32).toInt = 0 := rfl
              have k1 : (c &&& (65535 : Int32)).toInt = c.toInt % 65536 := c_mask c 65535 16 (by decide) (by decide)
              omega
            · have A96 := A89.icmpNo (pc' := 43) d1_40 (flt (ingt (x := c) (y := (65519 : Int32)) rfl rfl c90)).2.2.1 rfl
              have A97 := A96.iconst (z := (1 : Int32)) (pc' := 44) d1_43 rfl rfl
              have A98 := A97.goto (pc' := 48) d1_44 (by decide) (by decide)
              have A99 := A98.istoreN (Ls' := #[.val (.int c), .val (.int (1 : Int32))]) (pc' := 49) d1_48 rfl rfl
              have A100 := A99.goto (pc' := 85) d1_49 (by decide) (by decide)
              have A101 := A100.iloadN (v := (1 : Int32)) (pc' := 86) d1_85 rfl rfl
              refine A101.retN (t := .boolean) (z' := (1 : Int32)) d1_86 (by decide) (by decide) (by simp) rfl ⟨_, rfl, ⟨rfl, ?_⟩⟩
              have e1 : (1 : Int32).toInt = 1 := rfl
              have k1 : (c &&& (65535 : Int32)).toInt = c.toInt % 65536 := c_mask c 65535 16 (by decide) (by decide)
              omega
        · have A102 := A76.icmpNo (pc' := 25) d1_22 (flt (inlt (x := c) (y := (63744 : Int32)) rfl rfl c77)).1 rfl
          have A103 := A102.iloadN (v := c) (pc' := 26) d1_25 rfl rfl
          have A104 := A103.ldc (z := (64975 : Int32)) (pc' := 28) d1_26 (hw _ (List.mem_of_getElem? (i := 9) rfl)) rfl
          by_cases c105 : 64975 < c.toInt
          · have A106 := A104.icmpNo (pc' := 31) d1_28 (tlt (igt (x := c) (y := (64975 : Int32)) rfl rfl c105)).2.2.2 rfl
            have A107 := A106.iloadN (v := c) (pc' := 32) d1_31 rfl rfl
            have A108 := A107.ldc (z := (65008 : Int32)) (pc' := 34) d1_32 (hw _ (List.mem_of_getElem? (i := 10) rfl)) rfl
            by_cases c109 : c.toInt < 65008
            · have A110 := A108.icmpYes (pc' := 47) d1_34 (tlt (ilt (x := c) (y := (65008 : Int32)) rfl rfl c109)).1 (by decide) (by decide)
              have A111 := A110.iconst (z := (0 : Int32)) (pc' := 48) d1_47 rfl rfl
              have A112 := A111.istoreN (Ls' := #[.val (.int c), .val (.int (0 : Int32))]) (pc' := 49) d1_48 rfl rfl
              have A113 := A112.goto (pc' := 85) d1_49 (by decide) (by decide)
              have A114 := A113.iloadN (v := (0 : Int32)) (pc' := 86) d1_85 rfl rfl
              refine A114.retN (t := .boolean) (z' := (0 : Int32)) d1_86 (by decide) (by decide) (by simp) rfl ⟨_, rfl, ⟨rfl, ?_⟩⟩
              have e1 : (0 : Int32).toInt = 0 := rfl
              have k1 : (c &&& (65535 : Int32)).toInt = c.toInt % 65536 := c_mask c 65535 16 (by decide) (by decide)
              omega
            · have A115 := A108.icmpNo (pc' := 37) d1_34 (flt (inlt (x := c) (y := (65008 : Int32)) rfl rfl c109)).1 rfl
              have A116 := A115.iloadN (v := c) (pc' := 38) d1_37 rfl rfl
              have A117 := A116.ldc (z := (65519 : Int32)) (pc' := 40) d1_38 (hw _ (List.mem_of_getElem? (i := 11) rfl)) rfl
              by_cases c118 : 65519 < c.toInt
              · have A119 := A117.icmpYes (pc' := 47) d1_40 (tlt (igt (x := c) (y := (65519 : Int32)) rfl rfl c118)).2.2.1 (by decide) (by decide)
                have A120 := A119.iconst (z := (0 : Int32)) (pc' := 48) d1_47 rfl rfl
                have A121 := A120.istoreN (Ls' := #[.val (.int c), .val (.int (0 : Int32))]) (pc' := 49) d1_48 rfl rfl
                have A122 := A121.goto (pc' := 85) d1_49 (by decide) (by decide)
                have A123 := A122.iloadN (v := (0 : Int32)) (pc' := 86) d1_85 rfl rfl
                refine A123.retN (t := .boolean) (z' := (0 : Int32)) d1_86 (by decide) (by decide) (by simp) rfl ⟨_, rfl, ⟨rfl, ?_⟩⟩
                have e1 : (0 : Int32).toInt = 0 := rfl
                have k1 : (c &&& (65535 : Int32)).toInt = c.toInt % 65536 := c_mask c 65535 16 (by decide) (by decide)
                omega
              · have A124 := A117.icmpNo (pc' := 43) d1_40 (flt (ingt (x := c) (y := (65519 : Int32)) rfl rfl c118)).2.2.1 rfl
                have A125 := A124.iconst (z := (1 : Int32)) (pc' := 44) d1_43 rfl rfl
                have A126 := A125.goto (pc' := 48) d1_44 (by decide) (by decide)
                have A127 := A126.istoreN (Ls' := #[.val (.int c), .val (.int (1 : Int32))]) (pc' := 49) d1_48 rfl rfl
                have A128 := A127.goto (pc' := 85) d1_49 (by decide) (by decide)
                have A129 := A128.iloadN (v := (1 : Int32)) (pc' := 86) d1_85 rfl rfl
                refine A129.retN (t := .boolean) (z' := (1 : Int32)) d1_86 (by decide) (by decide) (by simp) rfl ⟨_, rfl, ⟨rfl, ?_⟩⟩
                have e1 : (1 : Int32).toInt = 1 := rfl
                have k1 : (c &&& (65535 : Int32)).toInt = c.toInt % 65536 := c_mask c 65535 16 (by decide) (by decide)
                omega
          · have A130 := A104.icmpYes (pc' := 43) d1_28 (flt (ingt (x := c) (y := (64975 : Int32)) rfl rfl c105)).2.2.2 (by decide) (by decide)
            have A131 := A130.iconst (z := (1 : Int32)) (pc' := 44) d1_43 rfl rfl
            have A132 := A131.goto (pc' := 48) d1_44 (by decide) (by decide)
            have A133 := A132.istoreN (Ls' := #[.val (.int c), .val (.int (1 : Int32))]) (pc' := 49) d1_48 rfl rfl
            have A134 := A133.goto (pc' := 85) d1_49 (by decide) (by decide)
            have A135 := A134.iloadN (v := (1 : Int32)) (pc' := 86) d1_85 rfl rfl
            refine A135.retN (t := .boolean) (z' := (1 : Int32)) d1_86 (by decide) (by decide) (by simp) rfl ⟨_, rfl, ⟨rfl, ?_⟩⟩
            have e1 : (1 : Int32).toInt = 1 := rfl
            have k1 : (c &&& (65535 : Int32)).toInt = c.toInt % 65536 := c_mask c 65535 16 (by decide) (by decide)
            omega
      · have A136 := A72.icmpYes (pc' := 43) d1_16 (flt (ingt (x := c) (y := (55295 : Int32)) rfl rfl c73)).2.2.2 (by decide) (by decide)
        have A137 := A136.iconst (z := (1 : Int32)) (pc' := 44) d1_43 rfl rfl
        have A138 := A137.goto (pc' := 48) d1_44 (by decide) (by decide)
        have A139 := A138.istoreN (Ls' := #[.val (.int c), .val (.int (1 : Int32))]) (pc' := 49) d1_48 rfl rfl
        have A140 := A139.goto (pc' := 85) d1_49 (by decide) (by decide)
        have A141 := A140.iloadN (v := (1 : Int32)) (pc' := 86) d1_85 rfl rfl
        refine A141.retN (t := .boolean) (z' := (1 : Int32)) d1_86 (by decide) (by decide) (by simp) rfl ⟨_, rfl, ⟨rfl, ?_⟩⟩
        have e1 : (1 : Int32).toInt = 1 := rfl
        have k1 : (c &&& (65535 : Int32)).toInt = c.toInt % 65536 := c_mask c 65535 16 (by decide) (by decide)
        omega
  · have A142 := A2.icmpYes (pc' := 52) d1_3 (flt (inlt (x := c) (y := (65536 : Int32)) rfl rfl c3)).2.1 (by decide) (by decide)
    have A143 := A142.iloadN (v := c) (pc' := 53) d1_52 rfl rfl
    have A144 := A143.ldc (z := (983040 : Int32)) (pc' := 55) d1_53 (hw _ (List.mem_of_getElem? (i := 52) rfl)) rfl
    by_cases c145 : c.toInt < 983040
    · have A146 := A144.icmpNo (pc' := 58) d1_55 (tlt (ilt (x := c) (y := (983040 : Int32)) rfl rfl c145)).2.1 rfl
      have A147 := A146.iloadN (v := c) (pc' := 59) d1_58 rfl rfl
      have A148 := A147.ldc (z := (65535 : Int32)) (pc' := 61) d1_59 (hw _ (List.mem_of_getElem? (i := 53) rfl)) rfl
      have A149 := A148.iand (pc' := 62) d1_61 rfl
      have A150 := A149.ldc (z := (65533 : Int32)) (pc' := 64) d1_62 (hw _ (List.mem_of_getElem? (i := 54) rfl)) rfl
      by_cases c151 : 65533 < (c &&& (65535 : Int32)).toInt
      · have A152 := A150.icmpYes (pc' := 83) d1_64 (tlt (igt (x := (c &&& (65535 : Int32))) (y := (65533 : Int32)) rfl rfl c151)).2.2.1 (by decide) (by decide)
        have A153 := A152.iconst (z := (0 : Int32)) (pc' := 84) d1_83 rfl rfl
        have A154 := A153.istoreN (Ls' := #[.val (.int c), .val (.int (0 : Int32))]) (pc' := 85) d1_84 rfl rfl
        have A155 := A154.iloadN (v := (0 : Int32)) (pc' := 86) d1_85 rfl rfl
        refine A155.retN (t := .boolean) (z' := (0 : Int32)) d1_86 (by decide) (by decide) (by simp) rfl ⟨_, rfl, ⟨rfl, ?_⟩⟩
        have e1 : (0 : Int32).toInt = 0 := rfl
        have k1 : (c &&& (65535 : Int32)).toInt = c.toInt % 65536 := c_mask c 65535 16 (by decide) (by decide)
        omega
      · have A156 := A150.icmpNo (pc' := 67) d1_64 (flt (ingt (x := (c &&& (65535 : Int32))) (y := (65533 : Int32)) rfl rfl c151)).2.2.1 rfl
        have A157 := A156.iloadN (v := c) (pc' := 68) d1_67 rfl rfl
        have A158 := A157.ldc (z := (917504 : Int32)) (pc' := 70) d1_68 (hw _ (List.mem_of_getElem? (i := 55) rfl)) rfl
        by_cases c159 : c.toInt < 917504
        · have A160 := A158.icmpYes (pc' := 79) d1_70 (tlt (ilt (x := c) (y := (917504 : Int32)) rfl rfl c159)).1 (by decide) (by decide)
          have A161 := A160.iconst (z := (1 : Int32)) (pc' := 80) d1_79 rfl rfl
          have A162 := A161.goto (pc' := 84) d1_80 (by decide) (by decide)
          have A163 := A162.istoreN (Ls' := #[.val (.int c), .val (.int (1 : Int32))]) (pc' := 85) d1_84 rfl rfl
          have A164 := A163.iloadN (v := (1 : Int32)) (pc' := 86) d1_85 rfl rfl
          refine A164.retN (t := .boolean) (z' := (1 : Int32)) d1_86 (by decide) (by decide) (by simp) rfl ⟨_, rfl, ⟨rfl, ?_⟩⟩
          have e1 : (1 : Int32).toInt = 1 := rfl
          have k1 : (c &&& (65535 : Int32)).toInt = c.toInt % 65536 := c_mask c 65535 16 (by decide) (by decide)
          omega
        · have A165 := A158.icmpNo (pc' := 73) d1_70 (flt (inlt (x := c) (y := (917504 : Int32)) rfl rfl c159)).1 rfl
          have A166 := A165.iloadN (v := c) (pc' := 74) d1_73 rfl rfl
          have A167 := A166.ldc (z := (921600 : Int32)) (pc' := 76) d1_74 (hw _ (List.mem_of_getElem? (i := 56) rfl)) rfl
          by_cases c168 : c.toInt < 921600
          · have A169 := A167.icmpYes (pc' := 83) d1_76 (tlt (ilt (x := c) (y := (921600 : Int32)) rfl rfl c168)).1 (by decide) (by decide)
            have A170 := A169.iconst (z := (0 : Int32)) (pc' := 84) d1_83 rfl rfl
            have A171 := A170.istoreN (Ls' := #[.val (.int c), .val (.int (0 : Int32))]) (pc' := 85) d1_84 rfl rfl
            have A172 := A171.iloadN (v := (0 : Int32)) (pc' := 86) d1_85 rfl rfl
            refine A172.retN (t := .boolean) (z' := (0 : Int32)) d1_86 (by decide) (by decide) (by simp) rfl ⟨_, rfl, ⟨rfl, ?_⟩⟩
            have e1 : (0 : Int32).toInt = 0 := rfl
            have k1 : (c &&& (65535 : Int32)).toInt = c.toInt % 65536 := c_mask c 65535 16 (by decide) (by decide)
            omega
          · have A173 := A167.icmpNo (pc' := 79) d1_76 (flt (inlt (x := c) (y := (921600 : Int32)) rfl rfl c168)).1 rfl
            have A174 := A173.iconst (z := (1 : Int32)) (pc' := 80) d1_79 rfl rfl
            have A175 := A174.goto (pc' := 84) d1_80 (by decide) (by decide)
            have A176 := A175.istoreN (Ls' := #[.val (.int c), .val (.int (1 : Int32))]) (pc' := 85) d1_84 rfl rfl
            have A177 := A176.iloadN (v := (1 : Int32)) (pc' := 86) d1_85 rfl rfl
            refine A177.retN (t := .boolean) (z' := (1 : Int32)) d1_86 (by decide) (by decide) (by simp) rfl ⟨_, rfl, ⟨rfl, ?_⟩⟩
            have e1 : (1 : Int32).toInt = 1 := rfl
            have k1 : (c &&& (65535 : Int32)).toInt = c.toInt % 65536 := c_mask c 65535 16 (by decide) (by decide)
            omega
    · have A178 := A144.icmpYes (pc' := 83) d1_55 (flt (inlt (x := c) (y := (983040 : Int32)) rfl rfl c145)).2.1 (by decide) (by decide)
      have A179 := A178.iconst (z := (0 : Int32)) (pc' := 84) d1_83 rfl rfl
      have A180 := A179.istoreN (Ls' := #[.val (.int c), .val (.int (0 : Int32))]) (pc' := 85) d1_84 rfl rfl
      have A181 := A180.iloadN (v := (0 : Int32)) (pc' := 86) d1_85 rfl rfl
      refine A181.retN (t := .boolean) (z' := (0 : Int32)) d1_86 (by decide) (by decide) (by simp) rfl ⟨_, rfl, ⟨rfl, ?_⟩⟩
      have e1 : (0 : Int32).toInt = 0 := rfl
      have k1 : (c &&& (65535 : Int32)).toInt = c.toInt % 65536 := c_mask c 65535 16 (by decide) (by decide)
      omega
theorem pn2 : plainFor (⟨"com/example/dialekt/dialekt/uri/UriSyntaxIsUcscharPinLaw", "reference", "(I)Z"⟩ : MethodName) = true := by first | exact plainFor_of_name (by first | (simp [plainName, overriddenIn]; done) | decide +kernel) | exact Jvm.Free.JP.mathPlain rfl (by decide +kernel) | decide +kernel
theorem d2_0 : decode method_3_code 0 = .ok (.iload_n 0, 1) := by decide +kernel
theorem d2_1 : decode method_3_code 1 = .ok (.sipush 160, 3) := by decide +kernel
theorem d2_4 : decode method_3_code 4 = .ok (.ldc 7, 2) := by decide +kernel
theorem d2_6 : decode method_3_code 6 = .ok (.invokestatic 8, 3) := by decide +kernel
theorem d2_9 : decode method_3_code 9 = .ok (.ifCond .ne 179, 3) := by decide +kernel
theorem d2_12 : decode method_3_code 12 = .ok (.iload_n 0, 1) := by decide +kernel
theorem d2_13 : decode method_3_code 13 = .ok (.ldc 14, 2) := by decide +kernel
theorem d2_15 : decode method_3_code 15 = .ok (.ldc 15, 2) := by decide +kernel
theorem d2_17 : decode method_3_code 17 = .ok (.invokestatic 8, 3) := by decide +kernel
theorem d2_20 : decode method_3_code 20 = .ok (.ifCond .ne 168, 3) := by decide +kernel
theorem d2_23 : decode method_3_code 23 = .ok (.iload_n 0, 1) := by decide +kernel
theorem d2_24 : decode method_3_code 24 = .ok (.ldc 16, 2) := by decide +kernel
theorem d2_26 : decode method_3_code 26 = .ok (.ldc 17, 2) := by decide +kernel
theorem d2_28 : decode method_3_code 28 = .ok (.invokestatic 8, 3) := by decide +kernel
theorem d2_31 : decode method_3_code 31 = .ok (.ifCond .ne 157, 3) := by decide +kernel
theorem d2_34 : decode method_3_code 34 = .ok (.iload_n 0, 1) := by decide +kernel
theorem d2_35 : decode method_3_code 35 = .ok (.ldc 18, 2) := by decide +kernel
theorem d2_37 : decode method_3_code 37 = .ok (.ldc 19, 2) := by decide +kernel
theorem d2_39 : decode method_3_code 39 = .ok (.invokestatic 8, 3) := by decide +kernel
theorem d2_42 : decode method_3_code 42 = .ok (.ifCond .ne 146, 3) := by decide +kernel
theorem d2_45 : decode method_3_code 45 = .ok (.iload_n 0, 1) := by decide +kernel
theorem d2_46 : decode method_3_code 46 = .ok (.ldc 20, 2) := by decide +kernel
theorem d2_48 : decode method_3_code 48 = .ok (.ldc 21, 2) := by decide +kernel
theorem d2_50 : decode method_3_code 50 = .ok (.invokestatic 8, 3) := by decide +kernel
theorem d2_53 : decode method_3_code 53 = .ok (.ifCond .ne 135, 3) := by decide +kernel
theorem d2_56 : decode method_3_code 56 = .ok (.iload_n 0, 1) := by decide +kernel
theorem d2_57 : decode method_3_code 57 = .ok (.ldc 22, 2) := by decide +kernel
theorem d2_59 : decode method_3_code 59 = .ok (.ldc 23, 2) := by decide +kernel
theorem d2_61 : decode method_3_code 61 = .ok (.invokestatic 8, 3) := by decide +kernel
theorem d2_64 : decode method_3_code 64 = .ok (.ifCond .ne 124, 3) := by decide +kernel
theorem d2_67 : decode method_3_code 67 = .ok (.iload_n 0, 1) := by decide +kernel
theorem d2_68 : decode method_3_code 68 = .ok (.ldc 24, 2) := by decide +kernel
theorem d2_70 : decode method_3_code 70 = .ok (.ldc 25, 2) := by decide +kernel
theorem d2_72 : decode method_3_code 72 = .ok (.invokestatic 8, 3) := by decide +kernel
theorem d2_75 : decode method_3_code 75 = .ok (.ifCond .ne 113, 3) := by decide +kernel
theorem d2_78 : decode method_3_code 78 = .ok (.iload_n 0, 1) := by decide +kernel
theorem d2_79 : decode method_3_code 79 = .ok (.ldc 26, 2) := by decide +kernel
theorem d2_81 : decode method_3_code 81 = .ok (.ldc 27, 2) := by decide +kernel
theorem d2_83 : decode method_3_code 83 = .ok (.invokestatic 8, 3) := by decide +kernel
theorem d2_86 : decode method_3_code 86 = .ok (.ifCond .ne 102, 3) := by decide +kernel
theorem d2_89 : decode method_3_code 89 = .ok (.iload_n 0, 1) := by decide +kernel
theorem d2_90 : decode method_3_code 90 = .ok (.ldc 28, 2) := by decide +kernel
theorem d2_92 : decode method_3_code 92 = .ok (.ldc 29, 2) := by decide +kernel
theorem d2_94 : decode method_3_code 94 = .ok (.invokestatic 8, 3) := by decide +kernel
theorem d2_97 : decode method_3_code 97 = .ok (.ifCond .ne 91, 3) := by decide +kernel
theorem d2_100 : decode method_3_code 100 = .ok (.iload_n 0, 1) := by decide +kernel
theorem d2_101 : decode method_3_code 101 = .ok (.ldc 30, 2) := by decide +kernel
theorem d2_103 : decode method_3_code 103 = .ok (.ldc 31, 2) := by decide +kernel
theorem d2_105 : decode method_3_code 105 = .ok (.invokestatic 8, 3) := by decide +kernel
theorem d2_108 : decode method_3_code 108 = .ok (.ifCond .ne 80, 3) := by decide +kernel
theorem d2_111 : decode method_3_code 111 = .ok (.iload_n 0, 1) := by decide +kernel
theorem d2_112 : decode method_3_code 112 = .ok (.ldc 32, 2) := by decide +kernel
theorem d2_114 : decode method_3_code 114 = .ok (.ldc 33, 2) := by decide +kernel
theorem d2_116 : decode method_3_code 116 = .ok (.invokestatic 8, 3) := by decide +kernel
theorem d2_119 : decode method_3_code 119 = .ok (.ifCond .ne 69, 3) := by decide +kernel
theorem d2_122 : decode method_3_code 122 = .ok (.iload_n 0, 1) := by decide +kernel
theorem d2_123 : decode method_3_code 123 = .ok (.ldc 34, 2) := by decide +kernel
theorem d2_125 : decode method_3_code 125 = .ok (.ldc 35, 2) := by decide +kernel
theorem d2_127 : decode method_3_code 127 = .ok (.invokestatic 8, 3) := by decide +kernel
theorem d2_130 : decode method_3_code 130 = .ok (.ifCond .ne 58, 3) := by decide +kernel
theorem d2_133 : decode method_3_code 133 = .ok (.iload_n 0, 1) := by decide +kernel
theorem d2_134 : decode method_3_code 134 = .ok (.ldc 36, 2) := by decide +kernel
theorem d2_136 : decode method_3_code 136 = .ok (.ldc 37, 2) := by decide +kernel
theorem d2_138 : decode method_3_code 138 = .ok (.invokestatic 8, 3) := by decide +kernel
theorem d2_141 : decode method_3_code 141 = .ok (.ifCond .ne 47, 3) := by decide +kernel
theorem d2_144 : decode method_3_code 144 = .ok (.iload_n 0, 1) := by decide +kernel
theorem d2_145 : decode method_3_code 145 = .ok (.ldc 38, 2) := by decide +kernel
theorem d2_147 : decode method_3_code 147 = .ok (.ldc 39, 2) := by decide +kernel
theorem d2_149 : decode method_3_code 149 = .ok (.invokestatic 8, 3) := by decide +kernel
theorem d2_152 : decode method_3_code 152 = .ok (.ifCond .ne 36, 3) := by decide +kernel
theorem d2_155 : decode method_3_code 155 = .ok (.iload_n 0, 1) := by decide +kernel
theorem d2_156 : decode method_3_code 156 = .ok (.ldc 40, 2) := by decide +kernel
theorem d2_158 : decode method_3_code 158 = .ok (.ldc 41, 2) := by decide +kernel
theorem d2_160 : decode method_3_code 160 = .ok (.invokestatic 8, 3) := by decide +kernel
theorem d2_163 : decode method_3_code 163 = .ok (.ifCond .ne 25, 3) := by decide +kernel
theorem d2_166 : decode method_3_code 166 = .ok (.iload_n 0, 1) := by decide +kernel
theorem d2_167 : decode method_3_code 167 = .ok (.ldc 42, 2) := by decide +kernel
theorem d2_169 : decode method_3_code 169 = .ok (.ldc 43, 2) := by decide +kernel
theorem d2_171 : decode method_3_code 171 = .ok (.invokestatic 8, 3) := by decide +kernel
theorem d2_174 : decode method_3_code 174 = .ok (.ifCond .ne 14, 3) := by decide +kernel
theorem d2_177 : decode method_3_code 177 = .ok (.iload_n 0, 1) := by decide +kernel
theorem d2_178 : decode method_3_code 178 = .ok (.ldc 44, 2) := by decide +kernel
theorem d2_180 : decode method_3_code 180 = .ok (.ldc 45, 2) := by decide +kernel
theorem d2_182 : decode method_3_code 182 = .ok (.invokestatic 8, 3) := by decide +kernel
theorem d2_185 : decode method_3_code 185 = .ok (.ifCond .eq 7, 3) := by decide +kernel
theorem d2_188 : decode method_3_code 188 = .ok (.iconst 1, 1) := by decide +kernel
theorem d2_189 : decode method_3_code 189 = .ok (.goto 4, 3) := by decide +kernel
theorem d2_192 : decode method_3_code 192 = .ok (.iconst 0, 1) := by decide +kernel
theorem d2_193 : decode method_3_code 193 = .ok (.ireturn, 1) := by decide +kernel
abbrev y2 : MethodName := (⟨"com/example/dialekt/dialekt/uri/UriSyntaxIsUcscharPinLaw", "reference", "(I)Z"⟩ : MethodName)
abbrev R2 : Room := { frames := 1, cells := 0, slots := 0, locals := 14 }
theorem ef2 (c : Int32) (m : MethodId) : entryFrame m #[(.int c)] 1 = mkF m 0 #[.val (.int c)] [] := by first | rfl | (simp [entryFrame, mkF, argsToLocals, Value.category]; done)
set_option maxRecDepth 65536 in
set_option maxHeartbeats 40000000 in
theorem rm2 (l : Launch) (Z : State) (a0 : Array Value) (hw : ∀ d ∈ tables_1, d.before a0 Z = true) (n0 : Nat) (ws : List Jvm.Cond) (c : Int32)  (h0 : Heap) (hn0 : n0 ≤ h0.size)  :
    Ctr l Z n0 y2 method_3_code 1 (some .boolean) ws R2 #[(.int c)] h0 (QI fun r h => (h0 = h) ∧ ((r.toInt = 1 ∧ (160 ≤ c.toInt ∧ c.toInt ≤ 55295 ∨ 63744 ≤ c.toInt ∧ c.toInt ≤ 64975 ∨ 65008 ≤ c.toInt ∧ c.toInt ≤ 65519 ∨ 65536 ≤ c.toInt ∧ c.toInt ≤ 131069 ∨ 131072 ≤ c.toInt ∧ c.toInt ≤ 196605 ∨ 196608 ≤ c.toInt ∧ c.toInt ≤ 262141 ∨ 262144 ≤ c.toInt ∧ c.toInt ≤ 327677 ∨ 327680 ≤ c.toInt ∧ c.toInt ≤ 393213 ∨ 393216 ≤ c.toInt ∧ c.toInt ≤ 458749 ∨ 458752 ≤ c.toInt ∧ c.toInt ≤ 524285 ∨ 524288 ≤ c.toInt ∧ c.toInt ≤ 589821 ∨ 589824 ≤ c.toInt ∧ c.toInt ≤ 655357 ∨ 655360 ≤ c.toInt ∧ c.toInt ≤ 720893 ∨ 720896 ≤ c.toInt ∧ c.toInt ≤ 786429 ∨ 786432 ≤ c.toInt ∧ c.toInt ≤ 851965 ∨ 851968 ≤ c.toInt ∧ c.toInt ≤ 917501 ∨ 921600 ≤ c.toInt ∧ c.toInt ≤ 983037)) ∨ (r.toInt = 0 ∧ ¬ (160 ≤ c.toInt ∧ c.toInt ≤ 55295 ∨ 63744 ≤ c.toInt ∧ c.toInt ≤ 64975 ∨ 65008 ≤ c.toInt ∧ c.toInt ≤ 65519 ∨ 65536 ≤ c.toInt ∧ c.toInt ≤ 131069 ∨ 131072 ≤ c.toInt ∧ c.toInt ≤ 196605 ∨ 196608 ≤ c.toInt ∧ c.toInt ≤ 262141 ∨ 262144 ≤ c.toInt ∧ c.toInt ≤ 327677 ∨ 327680 ≤ c.toInt ∧ c.toInt ≤ 393213 ∨ 393216 ≤ c.toInt ∧ c.toInt ≤ 458749 ∨ 458752 ≤ c.toInt ∧ c.toInt ≤ 524285 ∨ 524288 ≤ c.toInt ∧ c.toInt ≤ 589821 ∨ 589824 ≤ c.toInt ∧ c.toInt ≤ 655357 ∨ 655360 ≤ c.toInt ∧ c.toInt ≤ 720893 ∨ 720896 ≤ c.toInt ∧ c.toInt ≤ 786429 ∨ 786432 ≤ c.toInt ∧ c.toInt ≤ 851965 ∨ 851968 ≤ c.toInt ∧ c.toInt ≤ 917501 ∨ 921600 ≤ c.toInt ∧ c.toInt ≤ 983037)))) := by
  refine ctr_of pn2 hn0 (ef2 c) fun G A0 => ?_
  have l160 : (160 : Int32).toInt = 160 := rfl
  have l55295 : (55295 : Int32).toInt = 55295 := rfl
  have l63744 : (63744 : Int32).toInt = 63744 := rfl
  have l64975 : (64975 : Int32).toInt = 64975 := rfl
  have l65008 : (65008 : Int32).toInt = 65008 := rfl
  have l65519 : (65519 : Int32).toInt = 65519 := rfl
  have l65536 : (65536 : Int32).toInt = 65536 := rfl
  have l131069 : (131069 : Int32).toInt = 131069 := rfl
  have l131072 : (131072 : Int32).toInt = 131072 := rfl
  have l196605 : (196605 : Int32).toInt = 196605 := rfl
  have l196608 : (196608 : Int32).toInt = 196608 := rfl
  have l262141 : (262141 : Int32).toInt = 262141 := rfl
  have l262144 : (262144 : Int32).toInt = 262144 := rfl
  have l327677 : (327677 : Int32).toInt = 327677 := rfl
  have l327680 : (327680 : Int32).toInt = 327680 := rfl
  have l393213 : (393213 : Int32).toInt = 393213 := rfl
  have l393216 : (393216 : Int32).toInt = 393216 := rfl
  have l458749 : (458749 : Int32).toInt = 458749 := rfl
  have l458752 : (458752 : Int32).toInt = 458752 := rfl
  have l524285 : (524285 : Int32).toInt = 524285 := rfl
  have l524288 : (524288 : Int32).toInt = 524288 := rfl
  have l589821 : (589821 : Int32).toInt = 589821 := rfl
  have l589824 : (589824 : Int32).toInt = 589824 := rfl
  have l655357 : (655357 : Int32).toInt = 655357 := rfl
  have l655360 : (655360 : Int32).toInt = 655360 := rfl
  have l720893 : (720893 : Int32).toInt = 720893 := rfl
  have l720896 : (720896 : Int32).toInt = 720896 := rfl
  have l786429 : (786429 : Int32).toInt = 786429 := rfl
  have l786432 : (786432 : Int32).toInt = 786432 := rfl
  have l851965 : (851965 : Int32).toInt = 851965 := rfl
  have l851968 : (851968 : Int32).toInt = 851968 := rfl
  have l917501 : (917501 : Int32).toInt = 917501 := rfl
  have l921600 : (921600 : Int32).toInt = 921600 := rfl
  have l983037 : (983037 : Int32).toInt = 983037 := rfl
  have A1 := A0.iloadN (v := c) (pc' := 1) d2_0 rfl rfl
  have A2 := A1.sipush (z := (160 : Int32)) (pc' := 4) d2_1 rfl rfl
  have A3 := A2.ldc (z := (55295 : Int32)) (pc' := 6) d2_4 (hw _ (List.mem_of_getElem? (i := 16) rfl)) rfl
  obtain ⟨r5, _, ⟨rfl, q6⟩, A4⟩ := W.kI (A3.callS (argsL := [(.int c), (.int (160 : Int32)), (.int (55295 : Int32))]) (rest := []) (C' := 0) (S' := 0) (pc' := 9) d2_6 (hw _ (List.mem_of_getElem? (i := 17) rfl)) (hw _ (List.mem_of_getElem? (i := 18) rfl)) (hw _ (List.mem_of_getElem? (i := 14) rfl)) (hw _ (List.mem_of_getElem? (i := 19) rfl)) (rm3 l Z a0 hw n0 [] (c) ((160 : Int32)) ((55295 : Int32))  h0 A3.size ) rfl rfl pd_0 rfl rfl (by decide) (by decide) (Nat.le_of_ble_eq_true rfl) (by decide) (by decide) rfl rfl rfl)
  by_cases c8 : r5.toInt = 0
  · have A9 := A4.ifNo (pc' := 12) d2_9 (teq (ieq (x := r5) (y := (0 : Int32)) rfl rfl c8)).2 rfl
    have A10 := A9.iloadN (v := c) (pc' := 13) d2_12 rfl rfl
    have A11 := A10.ldc (z := (63744 : Int32)) (pc' := 15) d2_13 (hw _ (List.mem_of_getElem? (i := 20) rfl)) rfl
    have A12 := A11.ldc (z := (64975 : Int32)) (pc' := 17) d2_15 (hw _ (List.mem_of_getElem? (i := 21) rfl)) rfl
    obtain ⟨r14, _, ⟨rfl, q15⟩, A13⟩ := W.kI (A12.callS (argsL := [(.int c), (.int (63744 : Int32)), (.int (64975 : Int32))]) (rest := []) (C' := 0) (S' := 0) (pc' := 20) d2_17 (hw _ (List.mem_of_getElem? (i := 17) rfl)) (hw _ (List.mem_of_getElem? (i := 18) rfl)) (hw _ (List.mem_of_getElem? (i := 14) rfl)) (hw _ (List.mem_of_getElem? (i := 19) rfl)) (rm3 l Z a0 hw n0 [] (c) ((63744 : Int32)) ((64975 : Int32))  h0 A12.size ) rfl rfl pd_0 rfl rfl (by decide) (by decide) (Nat.le_of_ble_eq_true rfl) (by decide) (by decide) rfl rfl rfl)
    by_cases c17 : r14.toInt = 0
    · have A18 := A13.ifNo (pc' := 23) d2_20 (teq (ieq (x := r14) (y := (0 : Int32)) rfl rfl c17)).2 rfl
      have A19 := A18.iloadN (v := c) (pc' := 24) d2_23 rfl rfl
      have A20 := A19.ldc (z := (65008 : Int32)) (pc' := 26) d2_24 (hw _ (List.mem_of_getElem? (i := 22) rfl)) rfl
      have A21 := A20.ldc (z := (65519 : Int32)) (pc' := 28) d2_26 (hw _ (List.mem_of_getElem? (i := 23) rfl)) rfl
      obtain ⟨r23, _, ⟨rfl, q24⟩, A22⟩ := W.kI (A21.callS (argsL := [(.int c), (.int (65008 : Int32)), (.int (65519 : Int32))]) (rest := []) (C' := 0) (S' := 0) (pc' := 31) d2_28 (hw _ (List.mem_of_getElem? (i := 17) rfl)) (hw _ (List.mem_of_getElem? (i := 18) rfl)) (hw _ (List.mem_of_getElem? (i := 14) rfl)) (hw _ (List.mem_of_getElem? (i := 19) rfl)) (rm3 l Z a0 hw n0 [] (c) ((65008 : Int32)) ((65519 : Int32))  h0 A21.size ) rfl rfl pd_0 rfl rfl (by decide) (by decide) (Nat.le_of_ble_eq_true rfl) (by decide) (by decide) rfl rfl rfl)
      by_cases c26 : r23.toInt = 0
      · have A27 := A22.ifNo (pc' := 34) d2_31 (teq (ieq (x := r23) (y := (0 : Int32)) rfl rfl c26)).2 rfl
        have A28 := A27.iloadN (v := c) (pc' := 35) d2_34 rfl rfl
        have A29 := A28.ldc (z := (65536 : Int32)) (pc' := 37) d2_35 (hw _ (List.mem_of_getElem? (i := 24) rfl)) rfl
        have A30 := A29.ldc (z := (131069 : Int32)) (pc' := 39) d2_37 (hw _ (List.mem_of_getElem? (i := 25) rfl)) rfl
        obtain ⟨r32, _, ⟨rfl, q33⟩, A31⟩ := W.kI (A30.callS (argsL := [(.int c), (.int (65536 : Int32)), (.int (131069 : Int32))]) (rest := []) (C' := 0) (S' := 0) (pc' := 42) d2_39 (hw _ (List.mem_of_getElem? (i := 17) rfl)) (hw _ (List.mem_of_getElem? (i := 18) rfl)) (hw _ (List.mem_of_getElem? (i := 14) rfl)) (hw _ (List.mem_of_getElem? (i := 19) rfl)) (rm3 l Z a0 hw n0 [] (c) ((65536 : Int32)) ((131069 : Int32))  h0 A30.size ) rfl rfl pd_0 rfl rfl (by decide) (by decide) (Nat.le_of_ble_eq_true rfl) (by decide) (by decide) rfl rfl rfl)
        by_cases c35 : r32.toInt = 0
        · have A36 := A31.ifNo (pc' := 45) d2_42 (teq (ieq (x := r32) (y := (0 : Int32)) rfl rfl c35)).2 rfl
          have A37 := A36.iloadN (v := c) (pc' := 46) d2_45 rfl rfl
          have A38 := A37.ldc (z := (131072 : Int32)) (pc' := 48) d2_46 (hw _ (List.mem_of_getElem? (i := 26) rfl)) rfl
          have A39 := A38.ldc (z := (196605 : Int32)) (pc' := 50) d2_48 (hw _ (List.mem_of_getElem? (i := 27) rfl)) rfl
          obtain ⟨r41, _, ⟨rfl, q42⟩, A40⟩ := W.kI (A39.callS (argsL := [(.int c), (.int (131072 : Int32)), (.int (196605 : Int32))]) (rest := []) (C' := 0) (S' := 0) (pc' := 53) d2_50 (hw _ (List.mem_of_getElem? (i := 17) rfl)) (hw _ (List.mem_of_getElem? (i := 18) rfl)) (hw _ (List.mem_of_getElem? (i := 14) rfl)) (hw _ (List.mem_of_getElem? (i := 19) rfl)) (rm3 l Z a0 hw n0 [] (c) ((131072 : Int32)) ((196605 : Int32))  h0 A39.size ) rfl rfl pd_0 rfl rfl (by decide) (by decide) (Nat.le_of_ble_eq_true rfl) (by decide) (by decide) rfl rfl rfl)
          by_cases c44 : r41.toInt = 0
          · have A45 := A40.ifNo (pc' := 56) d2_53 (teq (ieq (x := r41) (y := (0 : Int32)) rfl rfl c44)).2 rfl
            have A46 := A45.iloadN (v := c) (pc' := 57) d2_56 rfl rfl
            have A47 := A46.ldc (z := (196608 : Int32)) (pc' := 59) d2_57 (hw _ (List.mem_of_getElem? (i := 28) rfl)) rfl
            have A48 := A47.ldc (z := (262141 : Int32)) (pc' := 61) d2_59 (hw _ (List.mem_of_getElem? (i := 29) rfl)) rfl
            obtain ⟨r50, _, ⟨rfl, q51⟩, A49⟩ := W.kI (A48.callS (argsL := [(.int c), (.int (196608 : Int32)), (.int (262141 : Int32))]) (rest := []) (C' := 0) (S' := 0) (pc' := 64) d2_61 (hw _ (List.mem_of_getElem? (i := 17) rfl)) (hw _ (List.mem_of_getElem? (i := 18) rfl)) (hw _ (List.mem_of_getElem? (i := 14) rfl)) (hw _ (List.mem_of_getElem? (i := 19) rfl)) (rm3 l Z a0 hw n0 [] (c) ((196608 : Int32)) ((262141 : Int32))  h0 A48.size ) rfl rfl pd_0 rfl rfl (by decide) (by decide) (Nat.le_of_ble_eq_true rfl) (by decide) (by decide) rfl rfl rfl)
            by_cases c53 : r50.toInt = 0
            · have A54 := A49.ifNo (pc' := 67) d2_64 (teq (ieq (x := r50) (y := (0 : Int32)) rfl rfl c53)).2 rfl
              have A55 := A54.iloadN (v := c) (pc' := 68) d2_67 rfl rfl
              have A56 := A55.ldc (z := (262144 : Int32)) (pc' := 70) d2_68 (hw _ (List.mem_of_getElem? (i := 30) rfl)) rfl
              have A57 := A56.ldc (z := (327677 : Int32)) (pc' := 72) d2_70 (hw _ (List.mem_of_getElem? (i := 31) rfl)) rfl
              obtain ⟨r59, _, ⟨rfl, q60⟩, A58⟩ := W.kI (A57.callS (argsL := [(.int c), (.int (262144 : Int32)), (.int (327677 : Int32))]) (rest := []) (C' := 0) (S' := 0) (pc' := 75) d2_72 (hw _ (List.mem_of_getElem? (i := 17) rfl)) (hw _ (List.mem_of_getElem? (i := 18) rfl)) (hw _ (List.mem_of_getElem? (i := 14) rfl)) (hw _ (List.mem_of_getElem? (i := 19) rfl)) (rm3 l Z a0 hw n0 [] (c) ((262144 : Int32)) ((327677 : Int32))  h0 A57.size ) rfl rfl pd_0 rfl rfl (by decide) (by decide) (Nat.le_of_ble_eq_true rfl) (by decide) (by decide) rfl rfl rfl)
              by_cases c62 : r59.toInt = 0
              · have A63 := A58.ifNo (pc' := 78) d2_75 (teq (ieq (x := r59) (y := (0 : Int32)) rfl rfl c62)).2 rfl
                have A64 := A63.iloadN (v := c) (pc' := 79) d2_78 rfl rfl
                have A65 := A64.ldc (z := (327680 : Int32)) (pc' := 81) d2_79 (hw _ (List.mem_of_getElem? (i := 32) rfl)) rfl
                have A66 := A65.ldc (z := (393213 : Int32)) (pc' := 83) d2_81 (hw _ (List.mem_of_getElem? (i := 33) rfl)) rfl
                obtain ⟨r68, _, ⟨rfl, q69⟩, A67⟩ := W.kI (A66.callS (argsL := [(.int c), (.int (327680 : Int32)), (.int (393213 : Int32))]) (rest := []) (C' := 0) (S' := 0) (pc' := 86) d2_83 (hw _ (List.mem_of_getElem? (i := 17) rfl)) (hw _ (List.mem_of_getElem? (i := 18) rfl)) (hw _ (List.mem_of_getElem? (i := 14) rfl)) (hw _ (List.mem_of_getElem? (i := 19) rfl)) (rm3 l Z a0 hw n0 [] (c) ((327680 : Int32)) ((393213 : Int32))  h0 A66.size ) rfl rfl pd_0 rfl rfl (by decide) (by decide) (Nat.le_of_ble_eq_true rfl) (by decide) (by decide) rfl rfl rfl)
                by_cases c71 : r68.toInt = 0
                · have A72 := A67.ifNo (pc' := 89) d2_86 (teq (ieq (x := r68) (y := (0 : Int32)) rfl rfl c71)).2 rfl
                  have A73 := A72.iloadN (v := c) (pc' := 90) d2_89 rfl rfl
                  have A74 := A73.ldc (z := (393216 : Int32)) (pc' := 92) d2_90 (hw _ (List.mem_of_getElem? (i := 34) rfl)) rfl
                  have A75 := A74.ldc (z := (458749 : Int32)) (pc' := 94) d2_92 (hw _ (List.mem_of_getElem? (i := 35) rfl)) rfl
                  obtain ⟨r77, _, ⟨rfl, q78⟩, A76⟩ := W.kI (A75.callS (argsL := [(.int c), (.int (393216 : Int32)), (.int (458749 : Int32))]) (rest := []) (C' := 0) (S' := 0) (pc' := 97) d2_94 (hw _ (List.mem_of_getElem? (i := 17) rfl)) (hw _ (List.mem_of_getElem? (i := 18) rfl)) (hw _ (List.mem_of_getElem? (i := 14) rfl)) (hw _ (List.mem_of_getElem? (i := 19) rfl)) (rm3 l Z a0 hw n0 [] (c) ((393216 : Int32)) ((458749 : Int32))  h0 A75.size ) rfl rfl pd_0 rfl rfl (by decide) (by decide) (Nat.le_of_ble_eq_true rfl) (by decide) (by decide) rfl rfl rfl)
                  by_cases c80 : r77.toInt = 0
                  · have A81 := A76.ifNo (pc' := 100) d2_97 (teq (ieq (x := r77) (y := (0 : Int32)) rfl rfl c80)).2 rfl
                    have A82 := A81.iloadN (v := c) (pc' := 101) d2_100 rfl rfl
                    have A83 := A82.ldc (z := (458752 : Int32)) (pc' := 103) d2_101 (hw _ (List.mem_of_getElem? (i := 36) rfl)) rfl
                    have A84 := A83.ldc (z := (524285 : Int32)) (pc' := 105) d2_103 (hw _ (List.mem_of_getElem? (i := 37) rfl)) rfl
                    obtain ⟨r86, _, ⟨rfl, q87⟩, A85⟩ := W.kI (A84.callS (argsL := [(.int c), (.int (458752 : Int32)), (.int (524285 : Int32))]) (rest := []) (C' := 0) (S' := 0) (pc' := 108) d2_105 (hw _ (List.mem_of_getElem? (i := 17) rfl)) (hw _ (List.mem_of_getElem? (i := 18) rfl)) (hw _ (List.mem_of_getElem? (i := 14) rfl)) (hw _ (List.mem_of_getElem? (i := 19) rfl)) (rm3 l Z a0 hw n0 [] (c) ((458752 : Int32)) ((524285 : Int32))  h0 A84.size ) rfl rfl pd_0 rfl rfl (by decide) (by decide) (Nat.le_of_ble_eq_true rfl) (by decide) (by decide) rfl rfl rfl)
                    by_cases c89 : r86.toInt = 0
                    · have A90 := A85.ifNo (pc' := 111) d2_108 (teq (ieq (x := r86) (y := (0 : Int32)) rfl rfl c89)).2 rfl
                      have A91 := A90.iloadN (v := c) (pc' := 112) d2_111 rfl rfl
                      have A92 := A91.ldc (z := (524288 : Int32)) (pc' := 114) d2_112 (hw _ (List.mem_of_getElem? (i := 38) rfl)) rfl
                      have A93 := A92.ldc (z := (589821 : Int32)) (pc' := 116) d2_114 (hw _ (List.mem_of_getElem? (i := 39) rfl)) rfl
                      obtain ⟨r95, _, ⟨rfl, q96⟩, A94⟩ := W.kI (A93.callS (argsL := [(.int c), (.int (524288 : Int32)), (.int (589821 : Int32))]) (rest := []) (C' := 0) (S' := 0) (pc' := 119) d2_116 (hw _ (List.mem_of_getElem? (i := 17) rfl)) (hw _ (List.mem_of_getElem? (i := 18) rfl)) (hw _ (List.mem_of_getElem? (i := 14) rfl)) (hw _ (List.mem_of_getElem? (i := 19) rfl)) (rm3 l Z a0 hw n0 [] (c) ((524288 : Int32)) ((589821 : Int32))  h0 A93.size ) rfl rfl pd_0 rfl rfl (by decide) (by decide) (Nat.le_of_ble_eq_true rfl) (by decide) (by decide) rfl rfl rfl)
                      by_cases c98 : r95.toInt = 0
                      · have A99 := A94.ifNo (pc' := 122) d2_119 (teq (ieq (x := r95) (y := (0 : Int32)) rfl rfl c98)).2 rfl
                        have A100 := A99.iloadN (v := c) (pc' := 123) d2_122 rfl rfl
                        have A101 := A100.ldc (z := (589824 : Int32)) (pc' := 125) d2_123 (hw _ (List.mem_of_getElem? (i := 40) rfl)) rfl
                        have A102 := A101.ldc (z := (655357 : Int32)) (pc' := 127) d2_125 (hw _ (List.mem_of_getElem? (i := 41) rfl)) rfl
                        obtain ⟨r104, _, ⟨rfl, q105⟩, A103⟩ := W.kI (A102.callS (argsL := [(.int c), (.int (589824 : Int32)), (.int (655357 : Int32))]) (rest := []) (C' := 0) (S' := 0) (pc' := 130) d2_127 (hw _ (List.mem_of_getElem? (i := 17) rfl)) (hw _ (List.mem_of_getElem? (i := 18) rfl)) (hw _ (List.mem_of_getElem? (i := 14) rfl)) (hw _ (List.mem_of_getElem? (i := 19) rfl)) (rm3 l Z a0 hw n0 [] (c) ((589824 : Int32)) ((655357 : Int32))  h0 A102.size ) rfl rfl pd_0 rfl rfl (by decide) (by decide) (Nat.le_of_ble_eq_true rfl) (by decide) (by decide) rfl rfl rfl)
                        by_cases c107 : r104.toInt = 0
                        · have A108 := A103.ifNo (pc' := 133) d2_130 (teq (ieq (x := r104) (y := (0 : Int32)) rfl rfl c107)).2 rfl
                          have A109 := A108.iloadN (v := c) (pc' := 134) d2_133 rfl rfl
                          have A110 := A109.ldc (z := (655360 : Int32)) (pc' := 136) d2_134 (hw _ (List.mem_of_getElem? (i := 42) rfl)) rfl
                          have A111 := A110.ldc (z := (720893 : Int32)) (pc' := 138) d2_136 (hw _ (List.mem_of_getElem? (i := 43) rfl)) rfl
                          obtain ⟨r113, _, ⟨rfl, q114⟩, A112⟩ := W.kI (A111.callS (argsL := [(.int c), (.int (655360 : Int32)), (.int (720893 : Int32))]) (rest := []) (C' := 0) (S' := 0) (pc' := 141) d2_138 (hw _ (List.mem_of_getElem? (i := 17) rfl)) (hw _ (List.mem_of_getElem? (i := 18) rfl)) (hw _ (List.mem_of_getElem? (i := 14) rfl)) (hw _ (List.mem_of_getElem? (i := 19) rfl)) (rm3 l Z a0 hw n0 [] (c) ((655360 : Int32)) ((720893 : Int32))  h0 A111.size ) rfl rfl pd_0 rfl rfl (by decide) (by decide) (Nat.le_of_ble_eq_true rfl) (by decide) (by decide) rfl rfl rfl)
                          by_cases c116 : r113.toInt = 0
                          · have A117 := A112.ifNo (pc' := 144) d2_141 (teq (ieq (x := r113) (y := (0 : Int32)) rfl rfl c116)).2 rfl
                            have A118 := A117.iloadN (v := c) (pc' := 145) d2_144 rfl rfl
                            have A119 := A118.ldc (z := (720896 : Int32)) (pc' := 147) d2_145 (hw _ (List.mem_of_getElem? (i := 44) rfl)) rfl
                            have A120 := A119.ldc (z := (786429 : Int32)) (pc' := 149) d2_147 (hw _ (List.mem_of_getElem? (i := 45) rfl)) rfl
                            obtain ⟨r122, _, ⟨rfl, q123⟩, A121⟩ := W.kI (A120.callS (argsL := [(.int c), (.int (720896 : Int32)), (.int (786429 : Int32))]) (rest := []) (C' := 0) (S' := 0) (pc' := 152) d2_149 (hw _ (List.mem_of_getElem? (i := 17) rfl)) (hw _ (List.mem_of_getElem? (i := 18) rfl)) (hw _ (List.mem_of_getElem? (i := 14) rfl)) (hw _ (List.mem_of_getElem? (i := 19) rfl)) (rm3 l Z a0 hw n0 [] (c) ((720896 : Int32)) ((786429 : Int32))  h0 A120.size ) rfl rfl pd_0 rfl rfl (by decide) (by decide) (Nat.le_of_ble_eq_true rfl) (by decide) (by decide) rfl rfl rfl)
                            by_cases c125 : r122.toInt = 0
                            · have A126 := A121.ifNo (pc' := 155) d2_152 (teq (ieq (x := r122) (y := (0 : Int32)) rfl rfl c125)).2 rfl
                              have A127 := A126.iloadN (v := c) (pc' := 156) d2_155 rfl rfl
                              have A128 := A127.ldc (z := (786432 : Int32)) (pc' := 158) d2_156 (hw _ (List.mem_of_getElem? (i := 46) rfl)) rfl
                              have A129 := A128.ldc (z := (851965 : Int32)) (pc' := 160) d2_158 (hw _ (List.mem_of_getElem? (i := 47) rfl)) rfl
                              obtain ⟨r131, _, ⟨rfl, q132⟩, A130⟩ := W.kI (A129.callS (argsL := [(.int c), (.int (786432 : Int32)), (.int (851965 : Int32))]) (rest := []) (C' := 0) (S' := 0) (pc' := 163) d2_160 (hw _ (List.mem_of_getElem? (i := 17) rfl)) (hw _ (List.mem_of_getElem? (i := 18) rfl)) (hw _ (List.mem_of_getElem? (i := 14) rfl)) (hw _ (List.mem_of_getElem? (i := 19) rfl)) (rm3 l Z a0 hw n0 [] (c) ((786432 : Int32)) ((851965 : Int32))  h0 A129.size ) rfl rfl pd_0 rfl rfl (by decide) (by decide) (Nat.le_of_ble_eq_true rfl) (by decide) (by decide) rfl rfl rfl)
                              by_cases c134 : r131.toInt = 0
                              · have A135 := A130.ifNo (pc' := 166) d2_163 (teq (ieq (x := r131) (y := (0 : Int32)) rfl rfl c134)).2 rfl
                                have A136 := A135.iloadN (v := c) (pc' := 167) d2_166 rfl rfl
                                have A137 := A136.ldc (z := (851968 : Int32)) (pc' := 169) d2_167 (hw _ (List.mem_of_getElem? (i := 48) rfl)) rfl
                                have A138 := A137.ldc (z := (917501 : Int32)) (pc' := 171) d2_169 (hw _ (List.mem_of_getElem? (i := 49) rfl)) rfl
                                obtain ⟨r140, _, ⟨rfl, q141⟩, A139⟩ := W.kI (A138.callS (argsL := [(.int c), (.int (851968 : Int32)), (.int (917501 : Int32))]) (rest := []) (C' := 0) (S' := 0) (pc' := 174) d2_171 (hw _ (List.mem_of_getElem? (i := 17) rfl)) (hw _ (List.mem_of_getElem? (i := 18) rfl)) (hw _ (List.mem_of_getElem? (i := 14) rfl)) (hw _ (List.mem_of_getElem? (i := 19) rfl)) (rm3 l Z a0 hw n0 [] (c) ((851968 : Int32)) ((917501 : Int32))  h0 A138.size ) rfl rfl pd_0 rfl rfl (by decide) (by decide) (Nat.le_of_ble_eq_true rfl) (by decide) (by decide) rfl rfl rfl)
                                by_cases c143 : r140.toInt = 0
                                · have A144 := A139.ifNo (pc' := 177) d2_174 (teq (ieq (x := r140) (y := (0 : Int32)) rfl rfl c143)).2 rfl
                                  have A145 := A144.iloadN (v := c) (pc' := 178) d2_177 rfl rfl
                                  have A146 := A145.ldc (z := (921600 : Int32)) (pc' := 180) d2_178 (hw _ (List.mem_of_getElem? (i := 50) rfl)) rfl
                                  have A147 := A146.ldc (z := (983037 : Int32)) (pc' := 182) d2_180 (hw _ (List.mem_of_getElem? (i := 51) rfl)) rfl
                                  obtain ⟨r149, _, ⟨rfl, q150⟩, A148⟩ := W.kI (A147.callS (argsL := [(.int c), (.int (921600 : Int32)), (.int (983037 : Int32))]) (rest := []) (C' := 0) (S' := 0) (pc' := 185) d2_182 (hw _ (List.mem_of_getElem? (i := 17) rfl)) (hw _ (List.mem_of_getElem? (i := 18) rfl)) (hw _ (List.mem_of_getElem? (i := 14) rfl)) (hw _ (List.mem_of_getElem? (i := 19) rfl)) (rm3 l Z a0 hw n0 [] (c) ((921600 : Int32)) ((983037 : Int32))  h0 A147.size ) rfl rfl pd_0 rfl rfl (by decide) (by decide) (Nat.le_of_ble_eq_true rfl) (by decide) (by decide) rfl rfl rfl)
                                  by_cases c152 : r149.toInt = 0
                                  · have A153 := A148.ifYes (pc' := 192) d2_185 (teq (ieq (x := r149) (y := (0 : Int32)) rfl rfl c152)).1 (by decide) (by decide)
                                    have A154 := A153.iconst (z := (0 : Int32)) (pc' := 193) d2_192 rfl rfl
                                    refine A154.retN (t := .boolean) (z' := (0 : Int32)) d2_193 (by decide) (by decide) (by simp) rfl ⟨_, rfl, ⟨rfl, ?_⟩⟩
                                    have e1 : (0 : Int32).toInt = 0 := rfl
                                    omega
                                  · have A155 := A148.ifNo (pc' := 188) d2_185 (feq (ine (x := r149) (y := (0 : Int32)) rfl rfl c152)).1 rfl
                                    have A156 := A155.iconst (z := (1 : Int32)) (pc' := 189) d2_188 rfl rfl
                                    have A157 := A156.goto (pc' := 193) d2_189 (by decide) (by decide)
                                    refine A157.retN (t := .boolean) (z' := (1 : Int32)) d2_193 (by decide) (by decide) (by simp) rfl ⟨_, rfl, ⟨rfl, ?_⟩⟩
                                    have e1 : (1 : Int32).toInt = 1 := rfl
                                    omega
                                · have A158 := A139.ifYes (pc' := 188) d2_174 (feq (ine (x := r140) (y := (0 : Int32)) rfl rfl c143)).2 (by decide) (by decide)
                                  have A159 := A158.iconst (z := (1 : Int32)) (pc' := 189) d2_188 rfl rfl
                                  have A160 := A159.goto (pc' := 193) d2_189 (by decide) (by decide)
                                  refine A160.retN (t := .boolean) (z' := (1 : Int32)) d2_193 (by decide) (by decide) (by simp) rfl ⟨_, rfl, ⟨rfl, ?_⟩⟩
                                  have e1 : (1 : Int32).toInt = 1 := rfl
                                  omega
                              · have A161 := A130.ifYes (pc' := 188) d2_163 (feq (ine (x := r131) (y := (0 : Int32)) rfl rfl c134)).2 (by decide) (by decide)
                                have A162 := A161.iconst (z := (1 : Int32)) (pc' := 189) d2_188 rfl rfl
                                have A163 := A162.goto (pc' := 193) d2_189 (by decide) (by decide)
                                refine A163.retN (t := .boolean) (z' := (1 : Int32)) d2_193 (by decide) (by decide) (by simp) rfl ⟨_, rfl, ⟨rfl, ?_⟩⟩
                                have e1 : (1 : Int32).toInt = 1 := rfl
                                omega
                            · have A164 := A121.ifYes (pc' := 188) d2_152 (feq (ine (x := r122) (y := (0 : Int32)) rfl rfl c125)).2 (by decide) (by decide)
                              have A165 := A164.iconst (z := (1 : Int32)) (pc' := 189) d2_188 rfl rfl
                              have A166 := A165.goto (pc' := 193) d2_189 (by decide) (by decide)
                              refine A166.retN (t := .boolean) (z' := (1 : Int32)) d2_193 (by decide) (by decide) (by simp) rfl ⟨_, rfl, ⟨rfl, ?_⟩⟩
                              have e1 : (1 : Int32).toInt = 1 := rfl
                              omega
                          · have A167 := A112.ifYes (pc' := 188) d2_141 (feq (ine (x := r113) (y := (0 : Int32)) rfl rfl c116)).2 (by decide) (by decide)
                            have A168 := A167.iconst (z := (1 : Int32)) (pc' := 189) d2_188 rfl rfl
                            have A169 := A168.goto (pc' := 193) d2_189 (by decide) (by decide)
                            refine A169.retN (t := .boolean) (z' := (1 : Int32)) d2_193 (by decide) (by decide) (by simp) rfl ⟨_, rfl, ⟨rfl, ?_⟩⟩
                            have e1 : (1 : Int32).toInt = 1 := rfl
                            omega
                        · have A170 := A103.ifYes (pc' := 188) d2_130 (feq (ine (x := r104) (y := (0 : Int32)) rfl rfl c107)).2 (by decide) (by decide)
                          have A171 := A170.iconst (z := (1 : Int32)) (pc' := 189) d2_188 rfl rfl
                          have A172 := A171.goto (pc' := 193) d2_189 (by decide) (by decide)
                          refine A172.retN (t := .boolean) (z' := (1 : Int32)) d2_193 (by decide) (by decide) (by simp) rfl ⟨_, rfl, ⟨rfl, ?_⟩⟩
                          have e1 : (1 : Int32).toInt = 1 := rfl
                          omega
                      · have A173 := A94.ifYes (pc' := 188) d2_119 (feq (ine (x := r95) (y := (0 : Int32)) rfl rfl c98)).2 (by decide) (by decide)
                        have A174 := A173.iconst (z := (1 : Int32)) (pc' := 189) d2_188 rfl rfl
                        have A175 := A174.goto (pc' := 193) d2_189 (by decide) (by decide)
                        refine A175.retN (t := .boolean) (z' := (1 : Int32)) d2_193 (by decide) (by decide) (by simp) rfl ⟨_, rfl, ⟨rfl, ?_⟩⟩
                        have e1 : (1 : Int32).toInt = 1 := rfl
                        omega
                    · have A176 := A85.ifYes (pc' := 188) d2_108 (feq (ine (x := r86) (y := (0 : Int32)) rfl rfl c89)).2 (by decide) (by decide)
                      have A177 := A176.iconst (z := (1 : Int32)) (pc' := 189) d2_188 rfl rfl
                      have A178 := A177.goto (pc' := 193) d2_189 (by decide) (by decide)
                      refine A178.retN (t := .boolean) (z' := (1 : Int32)) d2_193 (by decide) (by decide) (by simp) rfl ⟨_, rfl, ⟨rfl, ?_⟩⟩
                      have e1 : (1 : Int32).toInt = 1 := rfl
                      omega
                  · have A179 := A76.ifYes (pc' := 188) d2_97 (feq (ine (x := r77) (y := (0 : Int32)) rfl rfl c80)).2 (by decide) (by decide)
                    have A180 := A179.iconst (z := (1 : Int32)) (pc' := 189) d2_188 rfl rfl
                    have A181 := A180.goto (pc' := 193) d2_189 (by decide) (by decide)
                    refine A181.retN (t := .boolean) (z' := (1 : Int32)) d2_193 (by decide) (by decide) (by simp) rfl ⟨_, rfl, ⟨rfl, ?_⟩⟩
                    have e1 : (1 : Int32).toInt = 1 := rfl
                    omega
                · have A182 := A67.ifYes (pc' := 188) d2_86 (feq (ine (x := r68) (y := (0 : Int32)) rfl rfl c71)).2 (by decide) (by decide)
                  have A183 := A182.iconst (z := (1 : Int32)) (pc' := 189) d2_188 rfl rfl
                  have A184 := A183.goto (pc' := 193) d2_189 (by decide) (by decide)
                  refine A184.retN (t := .boolean) (z' := (1 : Int32)) d2_193 (by decide) (by decide) (by simp) rfl ⟨_, rfl, ⟨rfl, ?_⟩⟩
                  have e1 : (1 : Int32).toInt = 1 := rfl
                  omega
              · have A185 := A58.ifYes (pc' := 188) d2_75 (feq (ine (x := r59) (y := (0 : Int32)) rfl rfl c62)).2 (by decide) (by decide)
                have A186 := A185.iconst (z := (1 : Int32)) (pc' := 189) d2_188 rfl rfl
                have A187 := A186.goto (pc' := 193) d2_189 (by decide) (by decide)
                refine A187.retN (t := .boolean) (z' := (1 : Int32)) d2_193 (by decide) (by decide) (by simp) rfl ⟨_, rfl, ⟨rfl, ?_⟩⟩
                have e1 : (1 : Int32).toInt = 1 := rfl
                omega
            · have A188 := A49.ifYes (pc' := 188) d2_64 (feq (ine (x := r50) (y := (0 : Int32)) rfl rfl c53)).2 (by decide) (by decide)
              have A189 := A188.iconst (z := (1 : Int32)) (pc' := 189) d2_188 rfl rfl
              have A190 := A189.goto (pc' := 193) d2_189 (by decide) (by decide)
              refine A190.retN (t := .boolean) (z' := (1 : Int32)) d2_193 (by decide) (by decide) (by simp) rfl ⟨_, rfl, ⟨rfl, ?_⟩⟩
              have e1 : (1 : Int32).toInt = 1 := rfl
              omega
          · have A191 := A40.ifYes (pc' := 188) d2_53 (feq (ine (x := r41) (y := (0 : Int32)) rfl rfl c44)).2 (by decide) (by decide)
            have A192 := A191.iconst (z := (1 : Int32)) (pc' := 189) d2_188 rfl rfl
            have A193 := A192.goto (pc' := 193) d2_189 (by decide) (by decide)
            refine A193.retN (t := .boolean) (z' := (1 : Int32)) d2_193 (by decide) (by decide) (by simp) rfl ⟨_, rfl, ⟨rfl, ?_⟩⟩
            have e1 : (1 : Int32).toInt = 1 := rfl
            omega
        · have A194 := A31.ifYes (pc' := 188) d2_42 (feq (ine (x := r32) (y := (0 : Int32)) rfl rfl c35)).2 (by decide) (by decide)
          have A195 := A194.iconst (z := (1 : Int32)) (pc' := 189) d2_188 rfl rfl
          have A196 := A195.goto (pc' := 193) d2_189 (by decide) (by decide)
          refine A196.retN (t := .boolean) (z' := (1 : Int32)) d2_193 (by decide) (by decide) (by simp) rfl ⟨_, rfl, ⟨rfl, ?_⟩⟩
          have e1 : (1 : Int32).toInt = 1 := rfl
          omega
      · have A197 := A22.ifYes (pc' := 188) d2_31 (feq (ine (x := r23) (y := (0 : Int32)) rfl rfl c26)).2 (by decide) (by decide)
        have A198 := A197.iconst (z := (1 : Int32)) (pc' := 189) d2_188 rfl rfl
        have A199 := A198.goto (pc' := 193) d2_189 (by decide) (by decide)
        refine A199.retN (t := .boolean) (z' := (1 : Int32)) d2_193 (by decide) (by decide) (by simp) rfl ⟨_, rfl, ⟨rfl, ?_⟩⟩
        have e1 : (1 : Int32).toInt = 1 := rfl
        omega
    · have A200 := A13.ifYes (pc' := 188) d2_20 (feq (ine (x := r14) (y := (0 : Int32)) rfl rfl c17)).2 (by decide) (by decide)
      have A201 := A200.iconst (z := (1 : Int32)) (pc' := 189) d2_188 rfl rfl
      have A202 := A201.goto (pc' := 193) d2_189 (by decide) (by decide)
      refine A202.retN (t := .boolean) (z' := (1 : Int32)) d2_193 (by decide) (by decide) (by simp) rfl ⟨_, rfl, ⟨rfl, ?_⟩⟩
      have e1 : (1 : Int32).toInt = 1 := rfl
      omega
  · have A203 := A4.ifYes (pc' := 188) d2_9 (feq (ine (x := r5) (y := (0 : Int32)) rfl rfl c8)).2 (by decide) (by decide)
    have A204 := A203.iconst (z := (1 : Int32)) (pc' := 189) d2_188 rfl rfl
    have A205 := A204.goto (pc' := 193) d2_189 (by decide) (by decide)
    refine A205.retN (t := .boolean) (z' := (1 : Int32)) d2_193 (by decide) (by decide) (by simp) rfl ⟨_, rfl, ⟨rfl, ?_⟩⟩
    have e1 : (1 : Int32).toInt = 1 := rfl
    omega
theorem pn0 : plainFor x = true := plainFor_of_name (by first | (simp [plainName, overriddenIn, x]; done) | decide +kernel)
abbrev y0 : MethodName := x
abbrev R0 : Room := room_1
theorem ef0 (xa : Int32) (ya : Int32) (sel : Int32) (m : MethodId) : entryFrame m #[(.int xa), (.int ya), (.int sel)] maxLocals = mkF m 0 #[.val (.int xa), .val (.int ya), .val (.int sel), .unset, .unset, .unset, .unset] [] := by first | rfl | (simp [entryFrame, mkF, argsToLocals, Value.category, maxLocals]; done)
set_option maxRecDepth 65536 in
set_option maxHeartbeats 40000000 in
theorem rm0 (l : Launch) (Z : State) (a0 : Array Value) (hw : ∀ d ∈ tables_1, d.before a0 Z = true) (n0 : Nat) (ws : List Jvm.Cond) (xa : Int32) (ya : Int32) (sel : Int32)  (h0 : Heap) (hn0 : n0 ≤ h0.size)  :
    Ctr l Z n0 y0 code maxLocals ret ws R0 #[(.int xa), (.int ya), (.int sel)] h0 (QI fun r h => (True) ∧ (r = 1)) := by
  refine ctr_of pn0 hn0 (ef0 xa ya sel) fun G A0 => ?_
  have A1 := A0.iloadN (v := ya) (pc' := 1) at_0 rfl rfl
  have A2 := A1.bipush (z := (16 : Int32)) (pc' := 3) at_1 rfl rfl
  have A3 := A2.iushr (pc' := 4) at_3 rfl
  have A4 := A3.bipush (z := (17 : Int32)) (pc' := 6) at_4 rfl rfl
  have A5 := A4.irem (pc' := 7) at_6 (by decide) rfl
  have A6 := A5.istoreN (Ls' := #[.val (.int xa), .val (.int ya), .val (.int sel), .val (.int (((ya.toUInt32 >>> ((16 : Int32) &&& 31).toUInt32).toInt32) % (17 : Int32))), .unset, .unset, .unset]) (pc' := 8) at_7 rfl rfl
  have A7 := A6.iloadN (v := ya) (pc' := 9) at_8 rfl rfl
  have A8 := A7.ldc (z := (65535 : Int32)) (pc' := 11) at_9 (hw _ (List.mem_of_getElem? (i := 0) rfl)) rfl
  have A9 := A8.iand (pc' := 12) at_11 rfl
  have A10 := A9.istore (Ls' := #[.val (.int xa), .val (.int ya), .val (.int sel), .val (.int (((ya.toUInt32 >>> ((16 : Int32) &&& 31).toUInt32).toInt32) % (17 : Int32))), .val (.int (ya &&& (65535 : Int32))), .unset, .unset]) (pc' := 14) at_12 rfl rfl
  have A11 := A10.iloadN (v := sel) (pc' := 15) at_14 rfl rfl
  have A12 := A11.iconst (z := (3 : Int32)) (pc' := 16) at_15 rfl rfl
  have A13 := A12.iand (pc' := 17) at_16 rfl
  have A14 := A13.istore (Ls' := #[.val (.int xa), .val (.int ya), .val (.int sel), .val (.int (((ya.toUInt32 >>> ((16 : Int32) &&& 31).toUInt32).toInt32) % (17 : Int32))), .val (.int (ya &&& (65535 : Int32))), .val (.int (sel &&& (3 : Int32))), .unset]) (pc' := 19) at_17 rfl rfl
  have A15 := A14.iload (v := (sel &&& (3 : Int32))) (pc' := 21) at_19 rfl rfl
  have join17 : ∀ (v60 : Int32) (q61 : (((sel &&& (3 : Int32)).toInt = 0) ∧ v60.toInt = xa.toInt) ∨ ((¬ ((sel &&& (3 : Int32)).toInt = 0)) ∧ ((sel &&& (3 : Int32)).toInt = 1) ∧ v60.toInt = (((((ya.toUInt32 >>> ((16 : Int32) &&& 31).toUInt32).toInt32) % (17 : Int32)) <<< ((16 : Int32) &&& 31)) ||| (ya &&& (65535 : Int32))).toInt) ∨ ((¬ ((sel &&& (3 : Int32)).toInt = 0)) ∧ (¬ ((sel &&& (3 : Int32)).toInt = 1)) ∧ ((sel &&& (3 : Int32)).toInt = 2) ∧ v60.toInt = (((((ya.toUInt32 >>> ((16 : Int32) &&& 31).toUInt32).toInt32) % (17 : Int32)) <<< ((16 : Int32) &&& 31)) ||| ((65520 : Int32) ||| ((ya &&& (65535 : Int32)) &&& (15 : Int32)))).toInt) ∨ ((¬ ((sel &&& (3 : Int32)).toInt = 0)) ∧ (¬ ((sel &&& (3 : Int32)).toInt = 1)) ∧ (¬ ((sel &&& (3 : Int32)).toInt = 2)) ∧ v60.toInt = (((((ya.toUInt32 >>> ((16 : Int32) &&& 31).toUInt32).toInt32) % (17 : Int32)) <<< ((16 : Int32) &&& 31)) ||| ((ya &&& (65535 : Int32)) &&& (8191 : Int32))).toInt)), W l Z n0 y0 code maxLocals ret R0 G h0 85 #[.val (.int xa), .val (.int ya), .val (.int sel), .val (.int (((ya.toUInt32 >>> ((16 : Int32) &&& 31).toUInt32).toInt32) % (17 : Int32))), .val (.int (ya &&& (65535 : Int32))), .val (.int (sel &&& (3 : Int32))), .val (.int v60)] [] 0 0 → Gl R0 n0 G (QI fun r h => (True) ∧ (r = 1)) := by
    intro v60   q61  A59
    have A62 := A59.iload (v := v60) (pc' := 87) at_85 rfl rfl
    obtain ⟨r64, _, ⟨rfl, q65⟩, A63⟩ := W.kI (A62.callS (argsL := [(.int v60)]) (rest := []) (C' := 0) (S' := 0) (pc' := 90) at_87 (hw _ (List.mem_of_getElem? (i := 2) rfl)) (hw _ (List.mem_of_getElem? (i := 3) rfl)) (hw _ (List.mem_of_getElem? (i := 4) rfl)) (hw _ (List.mem_of_getElem? (i := 5) rfl)) (rm1 l Z a0 hw n0 [] (v60)  h0 A62.size ) rfl rfl pd_1 rfl rfl (by decide) (by decide) (Nat.le_of_ble_eq_true rfl) (by decide) (by decide) rfl rfl rfl)
    have A67 := A63.iload (v := v60) (pc' := 92) at_90 rfl rfl
    obtain ⟨r69, _, ⟨rfl, q70⟩, A68⟩ := W.kI (A67.callS (argsL := [(.int v60)]) (rest := [(.int r64)]) (C' := 0) (S' := 0) (pc' := 95) at_92 (hw _ (List.mem_of_getElem? (i := 12) rfl)) (hw _ (List.mem_of_getElem? (i := 13) rfl)) (hw _ (List.mem_of_getElem? (i := 14) rfl)) (hw _ (List.mem_of_getElem? (i := 15) rfl)) (rm2 l Z a0 hw n0 [] (v60)  h0 A67.size ) rfl rfl pd_1 rfl rfl (by decide) (by decide) (Nat.le_of_ble_eq_true rfl) (by decide) (by decide) rfl rfl rfl)
    by_cases c72 : r64.toInt = r69.toInt
    · have A73 := A68.icmpNo (pc' := 98) at_95 (teq (ieq (x := r64) (y := r69) rfl rfl c72)).2 rfl
      have A74 := A73.iconst (z := (1 : Int32)) (pc' := 99) at_98 rfl rfl
      have A75 := A74.goto (pc' := 103) at_99 (by decide) (by decide)
      refine A75.retN (t := .boolean) (z' := (1 : Int32)) at_103 (by decide) (by decide) (by simp) rfl ⟨_, rfl, ⟨trivial, ?_⟩⟩
      have e1 : (1 : Int32).toInt = 1 := rfl
      rfl
    · have A76 := A68.icmpYes (pc' := 102) at_95 (feq (ine (x := r64) (y := r69) rfl rfl c72)).2 (by decide) (by decide)
      have A77 := A76.iconst (z := (0 : Int32)) (pc' := 103) at_102 rfl rfl
      refine A77.retN (t := .boolean) (z' := (0 : Int32)) at_103 (by decide) (by decide) (by simp) rfl ⟨_, rfl, ⟨trivial, ?_⟩⟩
      have e1 : (0 : Int32).toInt = 0 := rfl
      exfalso
      omega
  by_cases c16 : (sel &&& (3 : Int32)).toInt = 0
  · have A18 := A15.ifNo (pc' := 24) at_21 (teq (ieq (x := (sel &&& (3 : Int32))) (y := (0 : Int32)) rfl rfl c16)).2 rfl
    have A19 := A18.iloadN (v := xa) (pc' := 25) at_24 rfl rfl
    have A20 := A19.istore (Ls' := #[.val (.int xa), .val (.int ya), .val (.int sel), .val (.int (((ya.toUInt32 >>> ((16 : Int32) &&& 31).toUInt32).toInt32) % (17 : Int32))), .val (.int (ya &&& (65535 : Int32))), .val (.int (sel &&& (3 : Int32))), .val (.int xa)]) (pc' := 27) at_25 rfl rfl
    have A21 := A20.goto (pc' := 85) at_27 (by decide) (by decide)
    exact join17 (xa)   (Or.inl ⟨c16, rfl⟩)  A21
  · have A22 := A15.ifYes (pc' := 30) at_21 (feq (ine (x := (sel &&& (3 : Int32))) (y := (0 : Int32)) rfl rfl c16)).2 (by decide) (by decide)
    have A23 := A22.iload (v := (sel &&& (3 : Int32))) (pc' := 32) at_30 rfl rfl
    have A24 := A23.iconst (z := (1 : Int32)) (pc' := 33) at_32 rfl rfl
    by_cases c25 : (sel &&& (3 : Int32)).toInt = 1
    · have A26 := A24.icmpNo (pc' := 36) at_33 (teq (ieq (x := (sel &&& (3 : Int32))) (y := (1 : Int32)) rfl rfl c25)).2 rfl
      have A27 := A26.iloadN (v := (((ya.toUInt32 >>> ((16 : Int32) &&& 31).toUInt32).toInt32) % (17 : Int32))) (pc' := 37) at_36 rfl rfl
      have A28 := A27.bipush (z := (16 : Int32)) (pc' := 39) at_37 rfl rfl
      have A29 := A28.ishl (pc' := 40) at_39 rfl
      have A30 := A29.iload (v := (ya &&& (65535 : Int32))) (pc' := 42) at_40 rfl rfl
      have A31 := A30.ior (pc' := 43) at_42 rfl
      have A32 := A31.istore (Ls' := #[.val (.int xa), .val (.int ya), .val (.int sel), .val (.int (((ya.toUInt32 >>> ((16 : Int32) &&& 31).toUInt32).toInt32) % (17 : Int32))), .val (.int (ya &&& (65535 : Int32))), .val (.int (sel &&& (3 : Int32))), .val (.int (((((ya.toUInt32 >>> ((16 : Int32) &&& 31).toUInt32).toInt32) % (17 : Int32)) <<< ((16 : Int32) &&& 31)) ||| (ya &&& (65535 : Int32))))]) (pc' := 45) at_43 rfl rfl
      have A33 := A32.goto (pc' := 85) at_45 (by decide) (by decide)
      exact join17 ((((((ya.toUInt32 >>> ((16 : Int32) &&& 31).toUInt32).toInt32) % (17 : Int32)) <<< ((16 : Int32) &&& 31)) ||| (ya &&& (65535 : Int32))))   (Or.inr (Or.inl ⟨c16, c25, rfl⟩))  A33
    · have A34 := A24.icmpYes (pc' := 48) at_33 (feq (ine (x := (sel &&& (3 : Int32))) (y := (1 : Int32)) rfl rfl c25)).2 (by decide) (by decide)
      have A35 := A34.iload (v := (sel &&& (3 : Int32))) (pc' := 50) at_48 rfl rfl
      have A36 := A35.iconst (z := (2 : Int32)) (pc' := 51) at_50 rfl rfl
      by_cases c37 : (sel &&& (3 : Int32)).toInt = 2
      · have A38 := A36.icmpNo (pc' := 54) at_51 (teq (ieq (x := (sel &&& (3 : Int32))) (y := (2 : Int32)) rfl rfl c37)).2 rfl
        have A39 := A38.iloadN (v := (((ya.toUInt32 >>> ((16 : Int32) &&& 31).toUInt32).toInt32) % (17 : Int32))) (pc' := 55) at_54 rfl rfl
        have A40 := A39.bipush (z := (16 : Int32)) (pc' := 57) at_55 rfl rfl
        have A41 := A40.ishl (pc' := 58) at_57 rfl
        have A42 := A41.ldc (z := (65520 : Int32)) (pc' := 60) at_58 (hw _ (List.mem_of_getElem? (i := 1) rfl)) rfl
        have A43 := A42.iload (v := (ya &&& (65535 : Int32))) (pc' := 62) at_60 rfl rfl
        have A44 := A43.bipush (z := (15 : Int32)) (pc' := 64) at_62 rfl rfl
        have A45 := A44.iand (pc' := 65) at_64 rfl
        have A46 := A45.ior (pc' := 66) at_65 rfl
        have A47 := A46.ior (pc' := 67) at_66 rfl
        have A48 := A47.istore (Ls' := #[.val (.int xa), .val (.int ya), .val (.int sel), .val (.int (((ya.toUInt32 >>> ((16 : Int32) &&& 31).toUInt32).toInt32) % (17 : Int32))), .val (.int (ya &&& (65535 : Int32))), .val (.int (sel &&& (3 : Int32))), .val (.int (((((ya.toUInt32 >>> ((16 : Int32) &&& 31).toUInt32).toInt32) % (17 : Int32)) <<< ((16 : Int32) &&& 31)) ||| ((65520 : Int32) ||| ((ya &&& (65535 : Int32)) &&& (15 : Int32)))))]) (pc' := 69) at_67 rfl rfl
        have A49 := A48.goto (pc' := 85) at_69 (by decide) (by decide)
        exact join17 ((((((ya.toUInt32 >>> ((16 : Int32) &&& 31).toUInt32).toInt32) % (17 : Int32)) <<< ((16 : Int32) &&& 31)) ||| ((65520 : Int32) ||| ((ya &&& (65535 : Int32)) &&& (15 : Int32)))))   (Or.inr (Or.inr (Or.inl ⟨c16, c25, c37, rfl⟩)))  A49
      · have A50 := A36.icmpYes (pc' := 72) at_51 (feq (ine (x := (sel &&& (3 : Int32))) (y := (2 : Int32)) rfl rfl c37)).2 (by decide) (by decide)
        have A51 := A50.iloadN (v := (((ya.toUInt32 >>> ((16 : Int32) &&& 31).toUInt32).toInt32) % (17 : Int32))) (pc' := 73) at_72 rfl rfl
        have A52 := A51.bipush (z := (16 : Int32)) (pc' := 75) at_73 rfl rfl
        have A53 := A52.ishl (pc' := 76) at_75 rfl
        have A54 := A53.iload (v := (ya &&& (65535 : Int32))) (pc' := 78) at_76 rfl rfl
        have A55 := A54.sipush (z := (8191 : Int32)) (pc' := 81) at_78 rfl rfl
        have A56 := A55.iand (pc' := 82) at_81 rfl
        have A57 := A56.ior (pc' := 83) at_82 rfl
        have A58 := A57.istore (Ls' := #[.val (.int xa), .val (.int ya), .val (.int sel), .val (.int (((ya.toUInt32 >>> ((16 : Int32) &&& 31).toUInt32).toInt32) % (17 : Int32))), .val (.int (ya &&& (65535 : Int32))), .val (.int (sel &&& (3 : Int32))), .val (.int (((((ya.toUInt32 >>> ((16 : Int32) &&& 31).toUInt32).toInt32) % (17 : Int32)) <<< ((16 : Int32) &&& 31)) ||| ((ya &&& (65535 : Int32)) &&& (8191 : Int32))))]) (pc' := 85) at_83 rfl rfl
        exact join17 ((((((ya.toUInt32 >>> ((16 : Int32) &&& 31).toUInt32).toInt32) % (17 : Int32)) <<< ((16 : Int32) &&& 31)) ||| ((ya &&& (65535 : Int32)) &&& (8191 : Int32))))   (Or.inr (Or.inr (Or.inr ⟨c16, c25, c37, rfl⟩)))  A58
set_option maxRecDepth 65536 in
set_option maxHeartbeats 40000000 in
theorem comes_1 {Post : Tables → Env → Array Value → State → Outcome → State → Prop} (hpost : ∀ tb e args s v u, (limb_1_1.after args s (.returned v) u = true ∧ limb_1_2.after args s (.returned v) u = true ∧ True) → FrameEnd s (.returned v) u (Jvm.fieldLocs frame_1_writes args s ++ Jvm.arrayLocs frame_1_arrays args s ++ Jvm.staticLocs frame_1_statics s) 0 0 → Post tb e args s (.returned v) u) :
    ArmFor flags0 classFile x code maxLocals ret World_1 tables_1 room_1 Calls_1 rest_1 Pre_1 Post := by
  intro l hfl _ _ p e ha hc hk s m args below hf hA hF happ hP
  obtain ⟨hcalls, hrest, hpre⟩ := hP
  obtain ⟨-, -, -, hnamed, -, -, -, hat⟩ := (Spec.applies_iff hf).mp happ
  obtain ⟨hg, hn⟩ := and_e (Cond.before_iff.mp (show (Jvm.Cond.and given_1 narrow_1).before args s = true from hpre))
  obtain ⟨g1a, g1b⟩ := and_e hg
  obtain ⟨g2a, g2b⟩ := and_e g1b
  obtain ⟨g3a, g3b⟩ := and_e g2b
  obtain ⟨w0, w1, w2, rfl⟩ : ∃ w0 w1 w2 : Value, args = #[w0, w1, w2] := by
    have hs : args.size = 3 := by simpa [Cond.value, given_1] using g1a
    obtain ⟨L⟩ := args
    match L, hs with
    | [w0, w1, w2], _ => exact ⟨w0, w1, w2, rfl⟩
  have hw := fun d (hd : d ∈ tables_1) => atoms_spec (ws := Jvm.Cond.code x code maxLocals ret :: tables_1) hat d (List.mem_cons_of_mem _ hd)
  obtain ⟨i0, ei0⟩ := is_v g2a
  obtain rfl : w0 = (.int i0) := Option.some.inj ei0
  obtain ⟨i1, ei1⟩ := is_v g3a
  obtain rfl : w1 = (.int i1) := Option.some.inj ei1
  obtain ⟨i2, ei2⟩ := is_v g3b
  obtain rfl : w2 = (.int i2) := Option.some.inj ei2
  obtain ⟨n, o, h1, h2, h3, _, L, rfl, ⟨N, ⟨r, rfl, hr⟩⟩, hq⟩ := rm0 l s _ hw s.heap.size tables_1 i0 i1 i2  s.heap (Nat.le_refl _)  p e ha hc hk s m _ below hf ((Spec.applies_iff_loose hf).mp happ).1 ⟨rfl, State.Warmed39.refl s, rfl⟩ trivial
  have hr1 : r = 1 := hr.2
  subst hr1
  refine ⟨n, _, h1, h2, h3, hpost _ _ _ _ _ _ ⟨Cond.after_iff.mpr rfl, Cond.after_iff.mpr (eq_i res_at (Term.int_eval (1)) rfl), trivial⟩ ⟨hq.1, hq.2.1, (hq.2.2.sift fun y hy => Or.inr (N y hy)).mono (by decide) (by decide)⟩⟩
theorem main_1_1 : Claimed_1_1 := comes_1 fun _ _ _ _ _ _ h hF => ⟨h.1, hF⟩
theorem main_1_2 : Claimed_1_2 := comes_1 fun _ _ _ _ _ _ h hF => ⟨h.2.1, hF⟩
end Jvm.Pilot.@@N@@
namespace Jvm.Pilot.@@N@@
open Jvm Jvm.ClassFile Sem Op Lib Jvm.Free Jvm.Stand Jvm.Pilot.@@N@@.Jvm.D
/-! MADE BY PROGRAM (witnessworld.py) out of the Statement's table words and the real class files: 9 classes; the members and pool entries that the words name. The judged class is class 1, her method 3. -/
namespace start1
open Jvm.ClassFile
def u (s : String) : CpInfo := .utf8 (stringToUtf16 s)
/-- a pool by its gaps: so many unusable entries, then the entry; so many at the end -/
def gap : Nat → List CpInfo → List CpInfo
  | 0, r => r
  | n + 1, r => .unusable :: gap n r
def poolList (es : List (Nat × CpInfo)) (last : Nat) : List CpInfo := es.foldr (fun e r => gap e.1 (e.2 :: r)) (gap last [])
def pool (es : List (Nat × CpInfo)) (last : Nat) : Array CpInfo := ⟨poolList es last⟩
def fileOf (pool : Array CpInfo) (this : Nat) (attrs : Array Attribute := #[]) (ms : Array MethodInfo := #[]) (fl : Nat := 33) (sup : Nat := 0) (ifs : Array Nat := #[]) (fds : Array FieldInfo := #[]) : ClassFile where
  minorVersion := 0
  majorVersion := 65
  constantPool := pool
  accessFlags := fl
  thisClass := this
  superClass := sup
  interfaces := ifs
  fields := fds
  methods := ms
  attributes := attrs
def plain (name : String) (sup : Option ClassId) : Class where
  name := name
  kind := .ordinary
  loader := none
  accessFlags := 33
  super := sup
  interfaces := #[]
  cf := none
  fields := #[]
  methods := #[]
  instanceTypes := #[]
  staticTypes := #[]
  resolved := #[]
  callSites := []
  init := .initialized
  statics := none
  mirror := none

def pool0 : Array CpInfo := pool [(5, u "<init>"), (0, u "()V"), (1, .class_ 10), (1, u "java/lang/Object")] 113

def k0m0 : Method := { name := "<init>", desc := "()V", sig := { parameters := [], returnType := none }, accessFlags := 1, code := none }
/-- java/lang/Object -/
def k0 : Class := { plain "java/lang/Object" none with
  accessFlags := 33
  interfaces := #[]
  cf := some (fileOf pool0 8 #[] #[{ accessFlags := 1, nameIndex := 5, descriptorIndex := 6, attributes := #[] }] 33 0 #[] #[])
  fields := #[]
  methods := #[k0m0]
  instanceTypes := #[]
  staticTypes := #[]
  resolved := Array.replicate 124 none
  statics := none }

def pool1 : Array CpInfo := pool [(2, .class_ 4), (1, u "java/lang/Object"), (0, u "<init>"), (0, u "()V"), (0, .integer 55295), (0, .methodref 9 10), (0, .class_ 11), (0, .nameAndType 12 13), (0, u "com/example/dialekt/dialekt/uri/UriSyntaxIsUcscharPinLaw"), (0, u "in"), (0, u "(III)Z"), (0, .integer 63744), (0, .integer 64975), (0, .integer 65008), (0, .integer 65519), (0, .integer 65536), (0, .integer 131069), (0, .integer 131072), (0, .integer 196605), (0, .integer 196608), (0, .integer 262141), (0, .integer 262144), (0, .integer 327677), (0, .integer 327680), (0, .integer 393213), (0, .integer 393216), (0, .integer 458749), (0, .integer 458752), (0, .integer 524285), (0, .integer 524288), (0, .integer 589821), (0, .integer 589824), (0, .integer 655357), (0, .integer 655360), (0, .integer 720893), (0, .integer 720896), (0, .integer 786429), (0, .integer 786432), (0, .integer 851965), (0, .integer 851968), (0, .integer 917501), (0, .integer 921600), (0, .integer 983037), (0, .integer 65535), (0, .integer 65520), (0, .methodref 49 50), (0, .class_ 51), (0, .nameAndType 52 53), (0, u "com/example/dialekt/dialekt/uri/UriSyntax"), (0, u "isUcschar"), (0, u "(I)Z"), (0, .methodref 9 55), (0, .nameAndType 56 53), (0, u "reference"), (3, u "law")] 2

def k1m0 : Method := { name := "<init>", desc := "()V", sig := { parameters := [], returnType := none }, accessFlags := 2, code := none }
def k1c1 : Code := { maxStack := 2, maxLocals := 3, code := method_2_code, exceptionTable := #[], attributes := #[] }
def k1m1 : Method := { name := "in", desc := "(III)Z", sig := { parameters := [.int, .int, .int], returnType := some .boolean }, accessFlags := 10, code := some k1c1 }
def k1c2 : Code := { maxStack := 3, maxLocals := 1, code := method_3_code, exceptionTable := #[], attributes := #[] }
def k1m2 : Method := { name := "reference", desc := "(I)Z", sig := { parameters := [.int], returnType := some .boolean }, accessFlags := 10, code := some k1c2 }
def k1c3 : Code := { maxStack := 4, maxLocals := 7, code := code, exceptionTable := #[], attributes := #[] }
def k1m3 : Method := { name := "law", desc := "(III)Z", sig := { parameters := [.int, .int, .int], returnType := some .boolean }, accessFlags := 9, code := some k1c3 }
/-- com/example/dialekt/dialekt/uri/UriSyntaxIsUcscharPinLaw -/
def k1 : Class := { plain "com/example/dialekt/dialekt/uri/UriSyntaxIsUcscharPinLaw" (some 0) with
  accessFlags := 49
  interfaces := #[]
  cf := some (fileOf pool1 9 #[] #[{ accessFlags := 2, nameIndex := 5, descriptorIndex := 6, attributes := #[] }, { accessFlags := 10, nameIndex := 12, descriptorIndex := 13, attributes := #[] }, { accessFlags := 10, nameIndex := 56, descriptorIndex := 53, attributes := #[] }, { accessFlags := 9, nameIndex := 60, descriptorIndex := 13, attributes := #[] }] 49 2 #[] #[])
  fields := #[]
  methods := #[k1m0, k1m1, k1m2, k1m3]
  instanceTypes := #[]
  staticTypes := #[]
  resolved := Array.replicate 63 none
  statics := none }

def pool2 : Array CpInfo := pool [(2, .class_ 4), (1, u "java/lang/Object"), (0, u "<init>"), (0, u "()V"), (11, .class_ 20), (1, u "com/example/dialekt/dialekt/uri/UriSyntax"), (67, .integer 65536), (0, .integer 55295), (0, .integer 63744), (0, .integer 64975), (0, .integer 65008), (0, .integer 65519), (0, .integer 983040), (0, .integer 65535), (0, .integer 65533), (0, .integer 917504), (0, .integer 921600), (9, u "NONE_BEYOND_ASCII"), (0, u "Ljava/util/function/IntPredicate;"), (27, u "QUERY_BEYOND_ASCII"), (39, u "(I)Z"), (7, u "isUcschar"), (5, u "UNRESERVED_MARKS"), (0, u "Ljava/lang/String;"), (1, u "SUB_DELIMS"), (0, u "IPV6_GROUPS"), (0, u "I")] 45

def k2m0 : Method := { name := "<init>", desc := "()V", sig := { parameters := [], returnType := none }, accessFlags := 2, code := none }
def k2c1 : Code := { maxStack := 2, maxLocals := 2, code := prog_59_method_9_code, exceptionTable := #[], attributes := #[] }
def k2m1 : Method := { name := "isUcschar", desc := "(I)Z", sig := { parameters := [.int], returnType := some .boolean }, accessFlags := 9, code := some k2c1 }
/-- com/example/dialekt/dialekt/uri/UriSyntax -/
def k2 : Class := { plain "com/example/dialekt/dialekt/uri/UriSyntax" (some 0) with
  accessFlags := 49
  interfaces := #[]
  cf := some (fileOf pool2 18 #[] #[{ accessFlags := 2, nameIndex := 5, descriptorIndex := 6, attributes := #[] }, { accessFlags := 9, nameIndex := 185, descriptorIndex := 177, attributes := #[] }] 49 2 #[] #[{ accessFlags := 26, nameIndex := 191, descriptorIndex := 192, attributes := #[] }, { accessFlags := 26, nameIndex := 194, descriptorIndex := 192, attributes := #[] }, { accessFlags := 26, nameIndex := 195, descriptorIndex := 196, attributes := #[] }, { accessFlags := 26, nameIndex := 108, descriptorIndex := 109, attributes := #[] }, { accessFlags := 26, nameIndex := 137, descriptorIndex := 109, attributes := #[] }])
  fields := #[{ name := "UNRESERVED_MARKS", type := (.object "java/lang/String"), accessFlags := 26, slot := 0, constantValue := 0 }, { name := "SUB_DELIMS", type := (.object "java/lang/String"), accessFlags := 26, slot := 1, constantValue := 0 }, { name := "IPV6_GROUPS", type := .int, accessFlags := 26, slot := 2, constantValue := 0 }, { name := "NONE_BEYOND_ASCII", type := (.object "java/util/function/IntPredicate"), accessFlags := 26, slot := 3, constantValue := 0 }, { name := "QUERY_BEYOND_ASCII", type := (.object "java/util/function/IntPredicate"), accessFlags := 26, slot := 4, constantValue := 0 }]
  methods := #[k2m0, k2m1]
  instanceTypes := #[]
  staticTypes := #[(.object "java/lang/String"), (.object "java/lang/String"), .int, (.object "java/util/function/IntPredicate"), (.object "java/util/function/IntPredicate")]
  resolved := Array.replicate 242 none
  statics := none }

def pool3 : Array CpInfo := pool [(1, u "java/lang/Cloneable"), (0, .class_ 1), (0, u "java/lang/Object"), (0, .class_ 3)] 3

/-- java/lang/Cloneable -/
def k3 : Class := { plain "java/lang/Cloneable" (some 0) with
  accessFlags := 1537
  interfaces := #[]
  cf := some (fileOf pool3 2 #[] #[] 1537 4 #[] #[])
  fields := #[]
  methods := #[]
  instanceTypes := #[]
  staticTypes := #[]
  resolved := Array.replicate 8 none
  statics := none }

def pool4 : Array CpInfo := pool [(1, u "java/io/Serializable"), (0, .class_ 1), (0, u "java/lang/Object"), (0, .class_ 3)] 3

/-- java/io/Serializable -/
def k4 : Class := { plain "java/io/Serializable" (some 0) with
  accessFlags := 1537
  interfaces := #[]
  cf := some (fileOf pool4 2 #[] #[] 1537 4 #[] #[])
  fields := #[]
  methods := #[]
  instanceTypes := #[]
  staticTypes := #[]
  resolved := Array.replicate 8 none
  statics := none }

/-- the primitive byte -/
def k5 : Class := { plain "byte" none with kind := .primitive 'B', accessFlags := 0x411 }
/-- [B -/
def k6 : Class := { plain "[B" (some 0) with kind := .array 5 .byte, interfaces := #[3, 4], accessFlags := 1041 }

/-- the primitive int -/
def k7 : Class := { plain "int" none with kind := .primitive 'I', accessFlags := 0x411 }
/-- [I -/
def k8 : Class := { plain "[I" (some 0) with kind := .array 7 .int, interfaces := #[3, 4], accessFlags := 1041 }

def heap : Heap := #[]
def classes : Array Class := #[k0, k1, k2, k3, k4, k5, k6, k7, k8]
def interned : List (Array UInt16 × Addr) := []
def slotsUsed : Nat := 0
def theMethod : MethodId := ⟨1, 3⟩
def args0 : Array Value := #[.int 5, .int 5, .int 5]
def aboutOver (below : List Frame) : State where
  vm := { classes := classes, interned := interned.toArray }
  heap := heap
  slotsUsed := slotsUsed
  threads := #[{ frames := .invoking theMethod args0 :: below }]
def below0 : List Frame := [.native { method := ⟨0, 0⟩, args := #[] }]
def about1 : State := aboutOver below0
def p0 : Program := .bare "" "" ""
def e0 : Env := launch0.env 0 0 0
theorem w_frames : about1.frames = Frame.invoking theMethod args0 :: below0 := rfl
set_option maxRecDepth 65536 in
theorem w_args : argsFit about1.vm theMethod args0 = true := by decide +kernel
set_option maxRecDepth 65536 in
theorem w_heap : heapFits about1 = true := by decide +kernel
set_option maxRecDepth 65536 in
theorem w_runnable : about1.curStatus? = some .runnable := by decide +kernel
set_option maxRecDepth 65536 in
theorem w_alone : about1.alone = true := by decide +kernel
set_option maxRecDepth 65536 in
theorem w_named : about1.methodNamed? x = some theMethod := by decide +kernel
set_option maxRecDepth 65536 in
theorem w_hears : about1.hears theMethod below0 = true := by decide +kernel
set_option maxRecDepth 65536 in
theorem w_ripe : about1.ripe theMethod args0 below0 = true := by decide +kernel
theorem w_running : about1.status = .running := rfl
set_option maxRecDepth 65536 in
theorem w_room : about1.hasRoom e0.platform room_1 = true :=
  launch0.hasRoom_least _ room_1 (by decide +kernel) (by decide +kernel) (by decide +kernel) (by decide +kernel) (by decide +kernel) (by decide +kernel)
theorem allAtoms_all (ts : List Jvm.Cond) (a : Array Jvm.Value) (st : Jvm.State) : (allAtoms ts).before a st = ts.all (fun c => c.before a st) := by
  induction ts with
  | nil => rfl
  | cons c t ih =>
    show (Jvm.Cond.and c (allAtoms t)).before a st = _
    rw [Jvm.Cond.before_and, ih, List.all_cons]
def words1 : List Jvm.Cond := Jvm.Cond.code x code maxLocals ret :: tables_1
/-- a 'code' word, met by the world's own term for the bytes: nothing is compared byte by byte -/
theorem code_word {y : MethodName} {bytes : ByteArray} {mx : Nat} {rt : Option FieldType} {a : Array Value} {s : State} {m : MethodId} {meth : Method} {c : Code} (h1 : s.methodNamed? y = some m) (h2 : s.vm.method? m = some meth) (h3 : meth.code = some c) (h4 : c.code = bytes)
    (h5 : (c.maxLocals == mx && c.exceptionTable.isEmpty && decide (c.maxStack ≤ mostOperands) && decide (meth.sig.returnType = rt) && !meth.locks && decide (parseMethodDescriptor y.desc = some meth.sig)) = true) : (Jvm.Cond.code y bytes mx rt).before a s = true := by
  simp only [Bool.and_eq_true, beq_iff_eq, Bool.not_eq_true', decide_eq_true_eq] at h5
  obtain ⟨⟨⟨⟨⟨g1, g2⟩, g3⟩, g4⟩, g5⟩, g6⟩ := h5
  simp [Cond.before, Cond.holds, Cond.value, h1, h2, h3, h4, g1, g2, g3, g4, g5, g6]
def isCode : Jvm.Cond → Bool
  | .code _ _ _ _ => true
  | _ => false
theorem all_split {L : List Jvm.Cond} {P : Jvm.Cond → Bool} (h1 : L.all (fun c => isCode c || P c) = true) (h2 : ∀ c ∈ L.filter isCode, P c = true) : L.all P = true := by
  refine List.all_eq_true.mpr fun c hc => ?_
  have h := List.all_eq_true.mp h1 c hc
  rcases Bool.eq_false_or_eq_true (isCode c) with hi | hi
  · exact h2 c (List.mem_filter.mpr ⟨hc, hi⟩)
  · simpa [hi] using h
set_option maxRecDepth 65536 in
theorem w_c0 : (Jvm.Cond.code x code maxLocals ret).before args0 about1 = true := code_word (m := ⟨1, 3⟩) (meth := k1m3) (c := k1c3) (by decide +kernel) rfl rfl rfl (by decide +kernel)
set_option maxRecDepth 65536 in
theorem w_c1 : (Jvm.Cond.code ({ cls := "com/example/dialekt/dialekt/uri/UriSyntax", name := "isUcschar", desc := "(I)Z" } : Jvm.MethodName) prog_59_method_9_code (2 : Nat) (Option.some Jvm.ClassFile.FieldType.boolean)).before args0 about1 = true := code_word (m := ⟨2, 1⟩) (meth := k2m1) (c := k2c1) (by decide +kernel) rfl rfl rfl (by decide +kernel)
set_option maxRecDepth 65536 in
theorem w_c2 : (Jvm.Cond.code ({ cls := "com/example/dialekt/dialekt/uri/UriSyntaxIsUcscharPinLaw", name := "reference", desc := "(I)Z" } : Jvm.MethodName) method_3_code (1 : Nat) (Option.some Jvm.ClassFile.FieldType.boolean)).before args0 about1 = true := code_word (m := ⟨1, 2⟩) (meth := k1m2) (c := k1c2) (by decide +kernel) rfl rfl rfl (by decide +kernel)
set_option maxRecDepth 65536 in
theorem w_c3 : (Jvm.Cond.code ({ cls := "com/example/dialekt/dialekt/uri/UriSyntaxIsUcscharPinLaw", name := "in", desc := "(III)Z" } : Jvm.MethodName) method_2_code (3 : Nat) (Option.some Jvm.ClassFile.FieldType.boolean)).before args0 about1 = true := code_word (m := ⟨1, 1⟩) (meth := k1m1) (c := k1c1) (by decide +kernel) rfl rfl rfl (by decide +kernel)
def codes1 : List Jvm.Cond := [Jvm.Cond.code x code maxLocals ret, Jvm.Cond.code ({ cls := "com/example/dialekt/dialekt/uri/UriSyntax", name := "isUcschar", desc := "(I)Z" } : Jvm.MethodName) prog_59_method_9_code (2 : Nat) (Option.some Jvm.ClassFile.FieldType.boolean), Jvm.Cond.code ({ cls := "com/example/dialekt/dialekt/uri/UriSyntaxIsUcscharPinLaw", name := "reference", desc := "(I)Z" } : Jvm.MethodName) method_3_code (1 : Nat) (Option.some Jvm.ClassFile.FieldType.boolean), Jvm.Cond.code ({ cls := "com/example/dialekt/dialekt/uri/UriSyntaxIsUcscharPinLaw", name := "in", desc := "(III)Z" } : Jvm.MethodName) method_2_code (3 : Nat) (Option.some Jvm.ClassFile.FieldType.boolean)]
set_option maxRecDepth 65536 in
theorem codes_eq : words1.filter isCode = codes1 := rfl
theorem w_codes : ∀ c ∈ words1.filter isCode, c.before args0 about1 = true := by
  rw [codes_eq]
  intro c hc
  simp only [codes1, List.mem_cons, List.not_mem_nil, or_false] at hc
  rcases hc with rfl | rfl | rfl | rfl
  · exact w_c0
  · exact w_c1
  · exact w_c2
  · exact w_c3
set_option maxRecDepth 65536 in
theorem w_t1 : (words1.take 24).all (fun c => isCode c || c.before args0 about1) = true := by decide +kernel
set_option maxRecDepth 65536 in
theorem w_t2 : ((words1.drop 24).take 24).all (fun c => isCode c || c.before args0 about1) = true := by decide +kernel
set_option maxRecDepth 65536 in
theorem w_t3 : ((words1.drop 24).drop 24).all (fun c => isCode c || c.before args0 about1) = true := by decide +kernel
theorem w_tables : (allAtoms (Jvm.Cond.code x code maxLocals ret :: tables_1)).before args0 about1 = true := by
  rw [allAtoms_all]
  show words1.all (fun c => c.before args0 about1) = true
  refine all_split ?_ w_codes
  rw [← List.take_append_drop 24 words1, List.all_append, w_t1, ← List.take_append_drop 24 (words1.drop 24), List.all_append, w_t2, w_t3]
  rfl
set_option maxRecDepth 65536 in
theorem w_case : (Jvm.Cond.and given_1 narrow_1).before args0 about1 = true := by decide +kernel
theorem w_applies : (headSpec (Jvm.Cond.code x code maxLocals ret :: tables_1) room_1).applies x e0.platform about1 = true :=
  (Spec.applies_iff w_frames).mpr ⟨w_running, w_runnable, w_alone, w_named, w_hears, w_ripe, w_room, w_tables⟩
theorem atStart : AtStart classFile x code maxLocals ret World_1 tables_1 room_1 Calls_1 rest_1 Pre_1 launch0 p0 e0 about1 theMethod args0 below0 :=
  ⟨lists_1, trivial, launch0.admits_env _ _ _, launch0.least_env, fairChoices_fair.cas, fairChoices_fair.clock, w_frames, w_args, w_heap, w_applies, trivial, trivial, w_case⟩
end start1
theorem witness_1 : WitnessClaimed_1 := ⟨start1.p0, start1.e0, start1.about1, start1.theMethod, start1.args0, start1.below0, start1.atStart⟩
end Jvm.Pilot.@@N@@
