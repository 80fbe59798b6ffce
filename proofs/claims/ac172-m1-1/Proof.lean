import JvmDerived
import JvmDerived.Pilot.@@N@@Statement
import JvmDerived.Pilot.@@N@@Code
set_option linter.unusedVariables false
set_option linter.unusedSimpArgs false
namespace Jvm.Pilot.@@N@@
open Jvm Jvm.ClassFile Sem Op Lib Jvm.Free Jvm.Stand Jvm.LawKit Jvm.RoadKit Bundle Jvm.Pilot.@@N@@.Jvm.D
/-! A. where a walk stands: W; what a body owes: Gl; a body's contract: Ctr -/
abbrev Cx := Program × Env × State × MethodId × Array Value × List Frame × Method × Code × State
def W (l : Launch) (Z : State) (n0 : Nat) (y : MethodName) (bytes : ByteArray) (maxl : Nat) (ret : Option FieldType) (R : Room) (G : Cx) (h : Heap) (pc : Nat) (Ls : Array Slot) (St : List Value) (cells slots : Nat) : Prop :=
  match G with
  | (p, e, s, m, args, below, meth, c, st) =>
    p.tables.exec = Jvm.exec ∧ Z.Warmed39 s.vm ∧ c.code = bytes ∧ c.maxLocals = maxl ∧ s.vm.findClass y.cls = some m.cls ∧ meth.name = y.name ∧ meth.sig.returnType = ret ∧ meth.locks = false ∧ n0 ≤ s.heap.size ∧
    ∃ (T : State) (locs : List Loc), Stand p l e R s m args below meth c T locs cells slots ∧ Fr n0 locs ∧ T.heap = h ∧ ∀ t, Steps p.tables e below (T.setTop (mkF m pc Ls St)) t → Steps p.tables e below st t
def Gl (R : Room) (n0 : Nat) (G : Cx) (Q : Option Value → Heap → Prop) : Prop :=
  match G with
  | (p, e, s, m, args, below, meth, c, st) => ∃ s₂ o, Steps p.tables e below st s₂ ∧ s₂.status = .running ∧ Ended s₂ below o ∧ ∃ v L, o = .returned v ∧ (Fr n0 L ∧ Q v s₂.heap) ∧ FrameEnd s o s₂ L R.cells R.slots
def Ctr (l : Launch) (Z : State) (n0 : Nat) (y : MethodName) (bytes : ByteArray) (maxl : Nat) (ret : Option FieldType) (ws : List Jvm.Cond) (R : Room) (as : Array Value) (h0 : Heap) (Q : Option Value → Heap → Prop) : Prop :=
  MetFree l y (head1 (Jvm.Cond.code y bytes maxl ret :: ws) R) (fun a U => a = as ∧ Z.Warmed39 U.vm ∧ U.heap = h0) (fun _ _ _ _ _ => True) (fun _ U o U' => ∃ v L, o = .returned v ∧ (Fr n0 L ∧ Q v U'.heap) ∧ FrameEnd U o U' L R.cells R.slots)
def QI (P : Int32 → Heap → Prop) (v : Option Value) (h : Heap) : Prop := ∃ r, v = some (.int r) ∧ P r h
def QJ (P : Int64 → Heap → Prop) (v : Option Value) (h : Heap) : Prop := ∃ r, v = some (.long r) ∧ P r h
def QA (P : Addr → Heap → Prop) (v : Option Value) (h : Heap) : Prop := ∃ r, v = some (.ref r) ∧ P r h
def QV (P : Heap → Prop) (v : Option Value) (h : Heap) : Prop := v = none ∧ P h
theorem ilt {x y : Int32} {a b : Int} (ha : x.toInt = a) (hb : y.toInt = b) (h : a < b) : x < y := by subst ha hb; exact Int32.lt_iff_toInt_lt.mpr h
theorem inlt {x y : Int32} {a b : Int} (ha : x.toInt = a) (hb : y.toInt = b) (h : ¬ a < b) : ¬ x < y := by subst ha hb; exact fun q => h (Int32.lt_iff_toInt_lt.mp q)
theorem igt {x y : Int32} {a b : Int} (ha : x.toInt = a) (hb : y.toInt = b) (h : b < a) : y < x := ilt hb ha h
theorem ingt {x y : Int32} {a b : Int} (ha : x.toInt = a) (hb : y.toInt = b) (h : ¬ b < a) : ¬ y < x := inlt hb ha h
theorem ieq {x y : Int32} {a b : Int} (ha : x.toInt = a) (hb : y.toInt = b) (h : a = b) : x = y := by subst ha hb; exact Int32.toInt_inj.mp h
theorem ine {x y : Int32} {a b : Int} (ha : x.toInt = a) (hb : y.toInt = b) (h : ¬ a = b) : ¬ x = y := by subst ha hb; exact fun q => h (Int32.toInt_inj.mpr q)
theorem llt {x y : Int64} {a b : Int} (ha : x.toInt = a) (hb : y.toInt = b) (h : a < b) : lcmpW x y < 0 := by subst ha hb; exact (lw_lt _ _).mpr (Int64.lt_iff_toInt_lt.mpr h)
theorem lnlt {x y : Int64} {a b : Int} (ha : x.toInt = a) (hb : y.toInt = b) (h : ¬ a < b) : ¬ lcmpW x y < 0 := by subst ha hb; exact fun q => h (Int64.lt_iff_toInt_lt.mp ((lw_lt _ _).mp q))
theorem lgt {x y : Int64} {a b : Int} (ha : x.toInt = a) (hb : y.toInt = b) (h : b < a) : 0 < lcmpW x y := by subst ha hb; exact (lw_gt _ _).mpr (Int64.lt_iff_toInt_lt.mpr h)
theorem lngt {x y : Int64} {a b : Int} (ha : x.toInt = a) (hb : y.toInt = b) (h : ¬ b < a) : ¬ 0 < lcmpW x y := by subst ha hb; exact fun q => h (Int64.lt_iff_toInt_lt.mp ((lw_gt _ _).mp q))
theorem leq {x y : Int64} {a b : Int} (ha : x.toInt = a) (hb : y.toInt = b) (h : a = b) : lcmpW x y = 0 := by subst ha hb; exact (lw_eq _ _).mpr (Int64.toInt_inj.mp h)
theorem lne {x y : Int64} {a b : Int} (ha : x.toInt = a) (hb : y.toInt = b) (h : ¬ a = b) : ¬ lcmpW x y = 0 := by subst ha hb; exact fun q => h (Int64.toInt_inj.mpr ((lw_eq _ _).mp q))
def Two (s t : Slot) : Prop := (s = .unset ∧ t = .unset) ∨ ∃ q : Int64, s = .val (.long q) ∧ t = .second
section Walk
variable {l : Launch} {Z : State} {n0 : Nat} {y : MethodName} {bytes : ByteArray} {maxl : Nat} {ret : Option FieldType} {R : Room} {G : Cx} {h : Heap} {pc pc' : Nat} {Ls : Array Slot} {St : List Value} {C S C' S' : Nat} {Q : Option Value → Heap → Prop} {a0 : Array Value}
theorem W.mk {p : Program} {e : Env} {s : State} {m : MethodId} {args : Array Value} {below : List Frame} {meth : Method} {c : Code} {st : State} {T : State} {locs : List Loc} (hx : p.tables.exec = Jvm.exec) (hZ : Z.Warmed39 s.vm) (hby : c.code = bytes) (hml : c.maxLocals = maxl) (hown : s.vm.findClass y.cls = some m.cls) (hnm : meth.name = y.name) (hrt : meth.sig.returnType = ret) (hlk : meth.locks = false) (hn0 : n0 ≤ s.heap.size)
    (X : Stand p l e R s m args below meth c T locs C S) (N : Fr n0 locs) (eT : T.heap = h) (k : ∀ t, Steps p.tables e below (T.setTop (mkF m pc Ls St)) t → Steps p.tables e below st t) : W l Z n0 y bytes maxl ret R (p, e, s, m, args, below, meth, c, st) h pc Ls St C S :=
  show _ ∧ _ from ⟨hx, hZ, hby, hml, hown, hnm, hrt, hlk, hn0, T, locs, X, N, eT, k⟩
theorem ctr_of {ws : List Jvm.Cond} {as : Array Value} (hpn : plainFor y = true) (hn0 : n0 ≤ h.size) (hef : ∀ m, entryFrame m as maxl = mkF m 0 Ls []) (body : ∀ G, W l Z n0 y bytes maxl ret R G h 0 Ls [] 0 0 → Gl R n0 G Q) : Ctr l Z n0 y bytes maxl ret ws R as h Q := by
  refine MetFree.of_bodySF hpn hisR ?_
  intro p e s m args below meth c s₁ Bd hml0 hP hK
  obtain ⟨rfl, hZ, hh⟩ := hP
  have e0 : s₁.heap = h := by rw [← hh, Bd.state]; rfl
  exact body (p, e, s, m, args, below, meth, c, s₁.setTop (entryFrame m args maxl)) (W.mk Bd.exec hZ Bd.bytes hml0 (findClass_of_methodNamed Bd.named) (name_of_methodNamed Bd.named Bd.method).1 Bd.returns (BodyLoose.notSynchronized Bd) (hh ▸ hn0) (Stand.of_body Bd) (Fr.nil n0) e0 (fun t k => castTop (hef m) k))
theorem W.size (A : W l Z n0 y bytes maxl ret R G h pc Ls St C S) : n0 ≤ h.size := by
  obtain ⟨p, e, s, m, args, below, meth, c, st⟩ := G
  obtain ⟨hx, hZ, hby, hml, hown, hnm, hrt, hlk, hn0, T, locs, X, N, eT, k⟩ := A
  exact Nat.le_trans hn0 (by rw [← eT]; exact X.same.2.1)
theorem W.more (A : W l Z n0 y bytes maxl ret R G h pc Ls St C S) (hC : C ≤ C') (hS : S ≤ S') : W l Z n0 y bytes maxl ret R G h pc Ls St C' S' := by
  obtain ⟨p, e, s, m, args, below, meth, c, st⟩ := G
  obtain ⟨hx, hZ, hby, hml, hown, hnm, hrt, hlk, hn0, T, locs, X, N, eT, k⟩ := A
  exact W.mk hx hZ hby hml hown hnm hrt hlk hn0 (X.more hC hS) N eT k
theorem W.cast {Ls' : Array Slot} {St' : List Value} (A : W l Z n0 y bytes maxl ret R G h pc Ls St C S) (hp : pc = pc') (hL : Ls = Ls') (hSt : St = St') : W l Z n0 y bytes maxl ret R G h pc' Ls' St' C S := by subst hp hL hSt; exact A
theorem W.topI {x z : Int32} (A : W l Z n0 y bytes maxl ret R G h pc Ls (.int x :: St) C S) (q : x = z) : W l Z n0 y bytes maxl ret R G h pc Ls (.int z :: St) C S := q ▸ A
theorem W.topJ {x z : Int64} (A : W l Z n0 y bytes maxl ret R G h pc Ls (.long x :: St) C S) (q : x = z) : W l Z n0 y bytes maxl ret R G h pc Ls (.long z :: St) C S := q ▸ A
/-- a plain step -/
theorem W.step (A : W l Z n0 y bytes maxl ret R G h pc Ls St C S) {Ls' : Array Slot} {St' : List Value}
    (f : ∀ {p : Program} {e : Env} {s : State} {m : MethodId} {args : Array Value} {below : List Frame} {meth : Method} {c : Code} {T t : State} {locs : List Loc}, Stand p l e R s m args below meth c T locs C S → p.tables.exec = Jvm.exec → Z.Warmed39 s.vm → s.vm.findClass y.cls = some m.cls → c.code = bytes → T.heap = h → Steps p.tables e below (T.setTop (mkF m pc' Ls' St')) t → Steps p.tables e below (T.setTop (mkF m pc Ls St)) t) : W l Z n0 y bytes maxl ret R G h pc' Ls' St' C S := by
  obtain ⟨p, e, s, m, args, below, meth, c, st⟩ := G
  obtain ⟨hx, hZ, hby, hml, hown, hnm, hrt, hlk, hn0, T, locs, X, N, eT, k⟩ := A
  exact W.mk hx hZ hby hml hown hnm hrt hlk hn0 X N eT (fun t q => k t (f X hx hZ hown hby eT q))
/-! B. plain instructions -/
theorem W.iloadN (A : W l Z n0 y bytes maxl ret R G h pc Ls St C S) {k : Fin 4} {v : Int32} (hd : decode bytes pc = .ok (.iload_n k, 1)) (hl : Ls[k.val]? = some (.val (.int v))) (hp : pc + 1 = pc') : W l Z n0 y bytes maxl ret R G h pc' Ls (.int v :: St) C S := by
  subst hp; exact A.step fun X hx _ _ q _ r => XS.iloadN X.here hx rfl (hb q hd) hl r
theorem W.iload (A : W l Z n0 y bytes maxl ret R G h pc Ls St C S) {k : Nat} {v : Int32} (hd : decode bytes pc = .ok (.iload k, 2)) (hl : Ls[k]? = some (.val (.int v))) (hp : pc + 2 = pc') : W l Z n0 y bytes maxl ret R G h pc' Ls (.int v :: St) C S := by
  subst hp; exact A.step fun X hx _ _ q _ r => XS.iload X.here hx rfl (hb q hd) hl r
theorem W.lloadN (A : W l Z n0 y bytes maxl ret R G h pc Ls St C S) {k : Fin 4} {v : Int64} (hd : decode bytes pc = .ok (.lload_n k, 1)) (hl : Ls[k.val]? = some (.val (.long v))) (hp : pc + 1 = pc') : W l Z n0 y bytes maxl ret R G h pc' Ls (.long v :: St) C S := by
  subst hp; exact A.step fun X hx _ _ q _ r => XS.lloadN X.here hx rfl (hb q hd) hl r
theorem W.lload (A : W l Z n0 y bytes maxl ret R G h pc Ls St C S) {k : Nat} {v : Int64} (hd : decode bytes pc = .ok (.lload k, 2)) (hl : Ls[k]? = some (.val (.long v))) (hp : pc + 2 = pc') : W l Z n0 y bytes maxl ret R G h pc' Ls (.long v :: St) C S := by
  subst hp; exact A.step fun X hx _ _ q _ r => XS.lload X.here hx rfl (hb q hd) hl r
theorem W.aloadN (A : W l Z n0 y bytes maxl ret R G h pc Ls St C S) {k : Fin 4} {v : Value} (hd : decode bytes pc = .ok (.aload_n k, 1)) (hl : Ls[k.val]? = some (.val v)) (hv : v.isRef = true) (hp : pc + 1 = pc') : W l Z n0 y bytes maxl ret R G h pc' Ls (v :: St) C S := by
  subst hp; exact A.step fun X hx _ _ q _ r => XS.aloadN X.here hx rfl (hb q hd) hl hv r
theorem W.aload (A : W l Z n0 y bytes maxl ret R G h pc Ls St C S) {k : Nat} {v : Value} (hd : decode bytes pc = .ok (.aload k, 2)) (hl : Ls[k]? = some (.val v)) (hv : v.isRef = true) (hp : pc + 2 = pc') : W l Z n0 y bytes maxl ret R G h pc' Ls (v :: St) C S := by
  subst hp; exact A.step fun X hx _ _ q _ r => XS.aload X.here hx rfl (hb q hd) hl hv r
theorem W.istoreN {v : Int32} (A : W l Z n0 y bytes maxl ret R G h pc Ls (.int v :: St) C S) {k : Fin 4} {Ls' : Array Slot} (hd : decode bytes pc = .ok (.istore_n k, 1)) (hl : storeLocals Ls k.val (.int v) = some Ls') (hp : pc + 1 = pc') : W l Z n0 y bytes maxl ret R G h pc' Ls' St C S := by
  subst hp; exact A.step fun X hx _ _ q _ r => XS.istoreN X.here hx rfl (hb q hd) rfl hl r
theorem W.istore {v : Int32} (A : W l Z n0 y bytes maxl ret R G h pc Ls (.int v :: St) C S) {k : Nat} {Ls' : Array Slot} (hd : decode bytes pc = .ok (.istore k, 2)) (hl : storeLocals Ls k (.int v) = some Ls') (hp : pc + 2 = pc') : W l Z n0 y bytes maxl ret R G h pc' Ls' St C S := by
  subst hp; exact A.step fun X hx _ _ q _ r => XS.istore X.here hx rfl (hb q hd) rfl hl r
theorem W.lstoreN {v : Int64} (A : W l Z n0 y bytes maxl ret R G h pc Ls (.long v :: St) C S) {k : Fin 4} {Ls' : Array Slot} (hd : decode bytes pc = .ok (.lstore_n k, 1)) (hl : storeLocals Ls k.val (.long v) = some Ls') (hp : pc + 1 = pc') : W l Z n0 y bytes maxl ret R G h pc' Ls' St C S := by
  subst hp; exact A.step fun X hx _ _ q _ r => XS.lstoreN X.here hx rfl (hb q hd) rfl hl r
theorem W.lstore {v : Int64} (A : W l Z n0 y bytes maxl ret R G h pc Ls (.long v :: St) C S) {k : Nat} {Ls' : Array Slot} (hd : decode bytes pc = .ok (.lstore k, 2)) (hl : storeLocals Ls k (.long v) = some Ls') (hp : pc + 2 = pc') : W l Z n0 y bytes maxl ret R G h pc' Ls' St C S := by
  subst hp; exact A.step fun X hx _ _ q _ r => XS.lstore X.here hx rfl (hb q hd) rfl hl r
theorem W.astoreN {v : Value} (A : W l Z n0 y bytes maxl ret R G h pc Ls (v :: St) C S) {k : Fin 4} {Ls' : Array Slot} (hd : decode bytes pc = .ok (.astore_n k, 1)) (hv : v.isRef = true) (hl : storeLocals Ls k.val v = some Ls') (hp : pc + 1 = pc') : W l Z n0 y bytes maxl ret R G h pc' Ls' St C S := by
  subst hp; exact A.step fun X hx _ _ q _ r => XS.astoreN X.here hx rfl (hb q hd) rfl hv hl r
theorem W.astore {v : Value} (A : W l Z n0 y bytes maxl ret R G h pc Ls (v :: St) C S) {k : Nat} {Ls' : Array Slot} (hd : decode bytes pc = .ok (.astore k, 2)) (hv : v.isRef = true) (hl : storeLocals Ls k v = some Ls') (hp : pc + 2 = pc') : W l Z n0 y bytes maxl ret R G h pc' Ls' St C S := by
  subst hp; exact A.step fun X hx _ _ q _ r => XS.astore X.here hx rfl (hb q hd) rfl hv hl r
theorem W.iconst (A : W l Z n0 y bytes maxl ret R G h pc Ls St C S) {i : Int} {z : Int32} (hd : decode bytes pc = .ok (.iconst i, 1)) (hz : Int32.ofInt i = z) (hp : pc + 1 = pc') : W l Z n0 y bytes maxl ret R G h pc' Ls (.int z :: St) C S := by
  subst hp hz; exact A.step fun X hx _ _ q _ r => XS.iconst X.here hx rfl (hb q hd) r
theorem W.bipush (A : W l Z n0 y bytes maxl ret R G h pc Ls St C S) {i : Int} {z : Int32} (hd : decode bytes pc = .ok (.bipush i, 2)) (hz : (Int8.ofInt i).toInt32 = z) (hp : pc + 2 = pc') : W l Z n0 y bytes maxl ret R G h pc' Ls (.int z :: St) C S := by
  subst hp hz; exact A.step fun X hx _ _ q _ r => XS.bipush X.here hx rfl (hb q hd) r
theorem W.sipush (A : W l Z n0 y bytes maxl ret R G h pc Ls St C S) {i : Int} {z : Int32} (hd : decode bytes pc = .ok (.sipush i, 3)) (hz : (Int16.ofInt i).toInt32 = z) (hp : pc + 3 = pc') : W l Z n0 y bytes maxl ret R G h pc' Ls (.int z :: St) C S := by
  subst hp hz; exact A.step fun X hx _ _ q _ r => XS.sipush X.here hx rfl (hb q hd) r
theorem W.lconst (A : W l Z n0 y bytes maxl ret R G h pc Ls St C S) {k : Fin 2} {z : Int64} (hd : decode bytes pc = .ok (.lconst k, 1)) (hz : Int64.ofNat k.val = z) (hp : pc + 1 = pc') : W l Z n0 y bytes maxl ret R G h pc' Ls (.long z :: St) C S := by
  subst hp hz; exact A.step fun X hx _ _ q _ r => XS.lconst X.here hx rfl (hb q hd) r
theorem W.aconstNull (A : W l Z n0 y bytes maxl ret R G h pc Ls St C S) (hd : decode bytes pc = .ok (.aconst_null, 1)) (hp : pc + 1 = pc') : W l Z n0 y bytes maxl ret R G h pc' Ls (.null :: St) C S := by
  subst hp; exact A.step fun X hx _ _ q _ r => XS.aconstNull X.here hx rfl (hb q hd) r
theorem W.ldc (A : W l Z n0 y bytes maxl ret R G h pc Ls St C S) {i : Nat} {z : Int32} (hd : decode bytes pc = .ok (.ldc i, 2)) (w : (Jvm.Cond.constant y.cls i z).before a0 Z = true) (hp : pc + 2 = pc') : W l Z n0 y bytes maxl ret R G h pc' Ls (.int z :: St) C S := by
  subst hp; exact A.step fun X hx hZ hown q _ r => X.ldcInt hx hown (mvT hZ w) (g := mkF _ pc Ls St) rfl (hb q hd) _ r
theorem W.ldcW (A : W l Z n0 y bytes maxl ret R G h pc Ls St C S) {i : Nat} {z : Int32} (hd : decode bytes pc = .ok (.ldc_w i, 3)) (w : (Jvm.Cond.constant y.cls i z).before a0 Z = true) (hp : pc + 3 = pc') : W l Z n0 y bytes maxl ret R G h pc' Ls (.int z :: St) C S := by
  subst hp; exact A.step fun X hx hZ hown q _ r => X.ldcwInt hx hown (mvT hZ w) (g := mkF _ pc Ls St) rfl (hb q hd) _ r
theorem W.ldc2 (A : W l Z n0 y bytes maxl ret R G h pc Ls St C S) {i : Nat} {z : Int64} (hd : decode bytes pc = .ok (.ldc2_w i, 3)) (w : (Jvm.Cond.constantLong y.cls i z).before a0 Z = true) (hp : pc + 3 = pc') : W l Z n0 y bytes maxl ret R G h pc' Ls (.long z :: St) C S := by
  subst hp; exact A.step fun X hx hZ hown q _ r => X.ldc2Long hx hown (mvT hZ w) (g := mkF _ pc Ls St) rfl (hb q hd) _ r
theorem W.iinc (A : W l Z n0 y bytes maxl ret R G h pc Ls St C S) {k : Nat} {i : Int} {v z : Int32} {Ls' : Array Slot} (hd : decode bytes pc = .ok (.iinc k i, 3)) (hl : Ls[k]? = some (.val (.int v))) (hz : v + Int32.ofInt i = z) (hl' : storeLocals Ls k (.int z) = some Ls') (hp : pc + 3 = pc') : W l Z n0 y bytes maxl ret R G h pc' Ls' St C S := by
  subst hp hz; exact A.step fun X hx _ _ q _ r => XS.iinc X.here hx rfl (hb q hd) hl hl' r
theorem W.iadd {x z : Int32} (A : W l Z n0 y bytes maxl ret R G h pc Ls (.int z :: .int x :: St) C S) (hd : decode bytes pc = .ok (.iadd, 1)) (hp : pc + 1 = pc') : W l Z n0 y bytes maxl ret R G h pc' Ls (.int (x + z) :: St) C S := by
  subst hp; exact A.step fun X hx _ _ q _ r => XS.iadd X.here hx rfl (hb q hd) rfl r
theorem W.ladd {x z : Int64} (A : W l Z n0 y bytes maxl ret R G h pc Ls (.long z :: .long x :: St) C S) (hd : decode bytes pc = .ok (.ladd, 1)) (hp : pc + 1 = pc') : W l Z n0 y bytes maxl ret R G h pc' Ls (.long (x + z) :: St) C S := by
  subst hp; exact A.step fun X hx _ _ q _ r => XS.ladd X.here hx rfl (hb q hd) rfl r
theorem W.isub {x z : Int32} (A : W l Z n0 y bytes maxl ret R G h pc Ls (.int z :: .int x :: St) C S) (hd : decode bytes pc = .ok (.isub, 1)) (hp : pc + 1 = pc') : W l Z n0 y bytes maxl ret R G h pc' Ls (.int (x - z) :: St) C S := by
  subst hp; exact A.step fun X hx _ _ q _ r => XS.isub X.here hx rfl (hb q hd) rfl r
theorem W.lsub {x z : Int64} (A : W l Z n0 y bytes maxl ret R G h pc Ls (.long z :: .long x :: St) C S) (hd : decode bytes pc = .ok (.lsub, 1)) (hp : pc + 1 = pc') : W l Z n0 y bytes maxl ret R G h pc' Ls (.long (x - z) :: St) C S := by
  subst hp; exact A.step fun X hx _ _ q _ r => XS.lsub X.here hx rfl (hb q hd) rfl r
theorem W.imul {x z : Int32} (A : W l Z n0 y bytes maxl ret R G h pc Ls (.int z :: .int x :: St) C S) (hd : decode bytes pc = .ok (.imul, 1)) (hp : pc + 1 = pc') : W l Z n0 y bytes maxl ret R G h pc' Ls (.int (x * z) :: St) C S := by
  subst hp; exact A.step fun X hx _ _ q _ r => XS.imul X.here hx rfl (hb q hd) rfl r
theorem W.lmul {x z : Int64} (A : W l Z n0 y bytes maxl ret R G h pc Ls (.long z :: .long x :: St) C S) (hd : decode bytes pc = .ok (.lmul, 1)) (hp : pc + 1 = pc') : W l Z n0 y bytes maxl ret R G h pc' Ls (.long (x * z) :: St) C S := by
  subst hp; exact A.step fun X hx _ _ q _ r => XS.lmul X.here hx rfl (hb q hd) rfl r
theorem W.iand {x z : Int32} (A : W l Z n0 y bytes maxl ret R G h pc Ls (.int z :: .int x :: St) C S) (hd : decode bytes pc = .ok (.iand, 1)) (hp : pc + 1 = pc') : W l Z n0 y bytes maxl ret R G h pc' Ls (.int (x &&& z) :: St) C S := by
  subst hp; exact A.step fun X hx _ _ q _ r => XS.iand X.here hx rfl (hb q hd) rfl r
theorem W.land {x z : Int64} (A : W l Z n0 y bytes maxl ret R G h pc Ls (.long z :: .long x :: St) C S) (hd : decode bytes pc = .ok (.land, 1)) (hp : pc + 1 = pc') : W l Z n0 y bytes maxl ret R G h pc' Ls (.long (x &&& z) :: St) C S := by
  subst hp; exact A.step fun X hx _ _ q _ r => XS.land X.here hx rfl (hb q hd) rfl r
theorem W.ior {x z : Int32} (A : W l Z n0 y bytes maxl ret R G h pc Ls (.int z :: .int x :: St) C S) (hd : decode bytes pc = .ok (.ior, 1)) (hp : pc + 1 = pc') : W l Z n0 y bytes maxl ret R G h pc' Ls (.int (x ||| z) :: St) C S := by
  subst hp; exact A.step fun X hx _ _ q _ r => XS.ior X.here hx rfl (hb q hd) rfl r
theorem W.lor {x z : Int64} (A : W l Z n0 y bytes maxl ret R G h pc Ls (.long z :: .long x :: St) C S) (hd : decode bytes pc = .ok (.lor, 1)) (hp : pc + 1 = pc') : W l Z n0 y bytes maxl ret R G h pc' Ls (.long (x ||| z) :: St) C S := by
  subst hp; exact A.step fun X hx _ _ q _ r => XS.lor X.here hx rfl (hb q hd) rfl r
theorem W.ixor {x z : Int32} (A : W l Z n0 y bytes maxl ret R G h pc Ls (.int z :: .int x :: St) C S) (hd : decode bytes pc = .ok (.ixor, 1)) (hp : pc + 1 = pc') : W l Z n0 y bytes maxl ret R G h pc' Ls (.int (x ^^^ z) :: St) C S := by
  subst hp; exact A.step fun X hx _ _ q _ r => XS.ixor X.here hx rfl (hb q hd) rfl r
theorem W.lxor {x z : Int64} (A : W l Z n0 y bytes maxl ret R G h pc Ls (.long z :: .long x :: St) C S) (hd : decode bytes pc = .ok (.lxor, 1)) (hp : pc + 1 = pc') : W l Z n0 y bytes maxl ret R G h pc' Ls (.long (x ^^^ z) :: St) C S := by
  subst hp; exact A.step fun X hx _ _ q _ r => XS.lxor X.here hx rfl (hb q hd) rfl r
theorem W.ineg {x : Int32} (A : W l Z n0 y bytes maxl ret R G h pc Ls (.int x :: St) C S) (hd : decode bytes pc = .ok (.ineg, 1)) (hp : pc + 1 = pc') : W l Z n0 y bytes maxl ret R G h pc' Ls (.int (-x) :: St) C S := by
  subst hp; exact A.step fun X hx _ _ q _ r => XS.ineg X.here hx rfl (hb q hd) rfl r
theorem W.lneg {x : Int64} (A : W l Z n0 y bytes maxl ret R G h pc Ls (.long x :: St) C S) (hd : decode bytes pc = .ok (.lneg, 1)) (hp : pc + 1 = pc') : W l Z n0 y bytes maxl ret R G h pc' Ls (.long (-x) :: St) C S := by
  subst hp; exact A.step fun X hx _ _ q _ r => XS.lneg X.here hx rfl (hb q hd) rfl r
theorem W.ishl {x z : Int32} (A : W l Z n0 y bytes maxl ret R G h pc Ls (.int z :: .int x :: St) C S) (hd : decode bytes pc = .ok (.ishl, 1)) (hp : pc + 1 = pc') : W l Z n0 y bytes maxl ret R G h pc' Ls (.int (x <<< (z &&& 31)) :: St) C S := by
  subst hp; exact A.step fun X hx _ _ q _ r => XS.ishl X.here hx rfl (hb q hd) rfl r
theorem W.ishr {x z : Int32} (A : W l Z n0 y bytes maxl ret R G h pc Ls (.int z :: .int x :: St) C S) (hd : decode bytes pc = .ok (.ishr, 1)) (hp : pc + 1 = pc') : W l Z n0 y bytes maxl ret R G h pc' Ls (.int (x >>> (z &&& 31)) :: St) C S := by
  subst hp; exact A.step fun X hx _ _ q _ r => XS.ishr X.here hx rfl (hb q hd) rfl r
theorem W.iushr {x z : Int32} (A : W l Z n0 y bytes maxl ret R G h pc Ls (.int z :: .int x :: St) C S) (hd : decode bytes pc = .ok (.iushr, 1)) (hp : pc + 1 = pc') : W l Z n0 y bytes maxl ret R G h pc' Ls (.int ((x.toUInt32 >>> (z &&& 31).toUInt32).toInt32) :: St) C S := by
  subst hp; exact A.step fun X hx _ _ q _ r => XS.iushr X.here hx rfl (hb q hd) rfl r
theorem W.lshl {x : Int64} {z : Int32} (A : W l Z n0 y bytes maxl ret R G h pc Ls (.int z :: .long x :: St) C S) (hd : decode bytes pc = .ok (.lshl, 1)) (hp : pc + 1 = pc') : W l Z n0 y bytes maxl ret R G h pc' Ls (.long (x <<< (z &&& 0x3f).toInt64) :: St) C S := by
  subst hp; exact A.step fun X hx _ _ q _ r => XS.lshl X.here hx rfl (hb q hd) rfl r
theorem W.lshr {x : Int64} {z : Int32} (A : W l Z n0 y bytes maxl ret R G h pc Ls (.int z :: .long x :: St) C S) (hd : decode bytes pc = .ok (.lshr, 1)) (hp : pc + 1 = pc') : W l Z n0 y bytes maxl ret R G h pc' Ls (.long (x >>> (z &&& 0x3f).toInt64) :: St) C S := by
  subst hp; exact A.step fun X hx _ _ q _ r => XS.lshr X.here hx rfl (hb q hd) rfl r
theorem W.lushr {x : Int64} {z : Int32} (A : W l Z n0 y bytes maxl ret R G h pc Ls (.int z :: .long x :: St) C S) (hd : decode bytes pc = .ok (.lushr, 1)) (hp : pc + 1 = pc') : W l Z n0 y bytes maxl ret R G h pc' Ls (.long ((x.toUInt64 >>> (z &&& 0x3f).toInt64.toUInt64).toInt64) :: St) C S := by
  subst hp; exact A.step fun X hx _ _ q _ r => XS.lushr X.here hx rfl (hb q hd) rfl r
theorem W.i2l {x : Int32} (A : W l Z n0 y bytes maxl ret R G h pc Ls (.int x :: St) C S) (hd : decode bytes pc = .ok (.i2l, 1)) (hp : pc + 1 = pc') : W l Z n0 y bytes maxl ret R G h pc' Ls (.long x.toInt64 :: St) C S := by
  subst hp; exact A.step fun X hx _ _ q _ r => XS.i2l X.here hx rfl (hb q hd) rfl r
theorem W.l2i {x : Int64} (A : W l Z n0 y bytes maxl ret R G h pc Ls (.long x :: St) C S) (hd : decode bytes pc = .ok (.l2i, 1)) (hp : pc + 1 = pc') : W l Z n0 y bytes maxl ret R G h pc' Ls (.int x.toInt32 :: St) C S := by
  subst hp; exact A.step fun X hx _ _ q _ r => XS.l2i X.here hx rfl (hb q hd) rfl r
theorem W.i2b {x : Int32} (A : W l Z n0 y bytes maxl ret R G h pc Ls (.int x :: St) C S) (hd : decode bytes pc = .ok (.i2b, 1)) (hp : pc + 1 = pc') : W l Z n0 y bytes maxl ret R G h pc' Ls (.int x.toInt8.toInt32 :: St) C S := by
  subst hp; exact A.step fun X hx _ _ q _ r => XS.i2b X.here hx rfl (hb q hd) rfl r
theorem W.i2s {x : Int32} (A : W l Z n0 y bytes maxl ret R G h pc Ls (.int x :: St) C S) (hd : decode bytes pc = .ok (.i2s, 1)) (hp : pc + 1 = pc') : W l Z n0 y bytes maxl ret R G h pc' Ls (.int x.toInt16.toInt32 :: St) C S := by
  subst hp; exact A.step fun X hx _ _ q _ r => XS.i2s X.here hx rfl (hb q hd) rfl r
theorem W.i2c {x : Int32} (A : W l Z n0 y bytes maxl ret R G h pc Ls (.int x :: St) C S) (hd : decode bytes pc = .ok (.i2c, 1)) (hp : pc + 1 = pc') : W l Z n0 y bytes maxl ret R G h pc' Ls (.int x.toUInt32.toUInt16.toUInt32.toInt32 :: St) C S := by
  subst hp; exact A.step fun X hx _ _ q _ r => XS.i2c X.here hx rfl (hb q hd) rfl r
theorem W.lcmp {x z : Int64} (A : W l Z n0 y bytes maxl ret R G h pc Ls (.long z :: .long x :: St) C S) (hd : decode bytes pc = .ok (.lcmp, 1)) (hp : pc + 1 = pc') : W l Z n0 y bytes maxl ret R G h pc' Ls (.int (lcmpW x z) :: St) C S := by
  subst hp; exact A.step fun X hx _ _ q _ r => XS.lcmp X.here hx rfl (hb q hd) rfl r
theorem W.idiv {x z : Int32} (A : W l Z n0 y bytes maxl ret R G h pc Ls (.int z :: .int x :: St) C S) (hd : decode bytes pc = .ok (.idiv, 1)) (hz : z ≠ 0) (hp : pc + 1 = pc') : W l Z n0 y bytes maxl ret R G h pc' Ls (.int (x / z) :: St) C S := by
  subst hp; exact A.step fun X hx _ _ q _ r => XS.idiv X.here hx rfl (hb q hd) rfl hz r
theorem W.irem {x z : Int32} (A : W l Z n0 y bytes maxl ret R G h pc Ls (.int z :: .int x :: St) C S) (hd : decode bytes pc = .ok (.irem, 1)) (hz : z ≠ 0) (hp : pc + 1 = pc') : W l Z n0 y bytes maxl ret R G h pc' Ls (.int (x % z) :: St) C S := by
  subst hp; exact A.step fun X hx _ _ q _ r => iremM (g := mkF _ _ _ _) X hx rfl (hb q hd) rfl hz r
theorem W.ldiv {x z : Int64} (A : W l Z n0 y bytes maxl ret R G h pc Ls (.long z :: .long x :: St) C S) (hd : decode bytes pc = .ok (.ldiv, 1)) (hz : z ≠ 0) (hp : pc + 1 = pc') : W l Z n0 y bytes maxl ret R G h pc' Ls (.long (x / z) :: St) C S := by
  subst hp; exact A.step fun X hx _ _ q _ r => XS.ldiv X.here hx rfl (hb q hd) rfl hz r
theorem W.lrem {x z : Int64} (A : W l Z n0 y bytes maxl ret R G h pc Ls (.long z :: .long x :: St) C S) (hd : decode bytes pc = .ok (.lrem, 1)) (hz : z ≠ 0) (hp : pc + 1 = pc') : W l Z n0 y bytes maxl ret R G h pc' Ls (.long (x % z) :: St) C S := by
  subst hp; exact A.step fun X hx _ _ q _ r => XS.lrem X.here hx rfl (hb q hd) rfl hz (by rw [lrem_mod]; exact r)
theorem W.dup {v : Value} (A : W l Z n0 y bytes maxl ret R G h pc Ls (v :: St) C S) (hd : decode bytes pc = .ok (.dup, 1)) (hc : v.category = 1) (hp : pc + 1 = pc') : W l Z n0 y bytes maxl ret R G h pc' Ls (v :: v :: St) C S := by
  subst hp; exact A.step fun X hx _ _ q _ r => XS.dup X.here hx rfl (hb q hd) rfl hc r
theorem W.pop {v : Value} (A : W l Z n0 y bytes maxl ret R G h pc Ls (v :: St) C S) (hd : decode bytes pc = .ok (.pop, 1)) (hc : v.category = 1) (hp : pc + 1 = pc') : W l Z n0 y bytes maxl ret R G h pc' Ls St C S := by
  subst hp; exact A.step fun X hx _ _ q _ r => XS.pop X.here hx rfl (hb q hd) rfl hc r
theorem W.dupX1 {v w : Value} (A : W l Z n0 y bytes maxl ret R G h pc Ls (v :: w :: St) C S) (hd : decode bytes pc = .ok (.dup_x1, 1)) (hc : v.category = 1) (hc' : w.category = 1) (hp : pc + 1 = pc') : W l Z n0 y bytes maxl ret R G h pc' Ls (v :: w :: v :: St) C S := by
  subst hp; exact A.step fun X hx _ _ q _ r => XS.dupX1 X.here hx rfl (hb q hd) rfl hc hc' r
theorem W.dup2 {v w : Value} (A : W l Z n0 y bytes maxl ret R G h pc Ls (v :: w :: St) C S) (hd : decode bytes pc = .ok (.dup2, 1)) (hc : v.category = 1) (hc' : w.category = 1) (hp : pc + 1 = pc') : W l Z n0 y bytes maxl ret R G h pc' Ls (v :: w :: v :: w :: St) C S := by
  subst hp; exact A.step fun X hx _ _ q _ r => XT.dup2 X.here hx rfl (hb q hd) rfl hc hc' r
theorem W.dup2L {x : Int64} (A : W l Z n0 y bytes maxl ret R G h pc Ls (.long x :: St) C S) (hd : decode bytes pc = .ok (.dup2, 1)) (hp : pc + 1 = pc') : W l Z n0 y bytes maxl ret R G h pc' Ls (.long x :: .long x :: St) C S := by
  subst hp; exact A.step fun X hx _ _ q _ r => XT.dup2L X.here hx rfl (hb q hd) rfl r
theorem W.goto (A : W l Z n0 y bytes maxl ret R G h pc Ls St C S) {o : Int} (hd : decode bytes pc = .ok (.goto o, 3)) (ho : 0 ≤ (pc : Int) + o) (hp : ((pc : Int) + o).toNat = pc') : W l Z n0 y bytes maxl ret R G h pc' Ls St C S :=
  A.step fun X hx _ _ q _ r => XS.goto X.here hx rfl rfl (hb q hd) ho hp r
theorem W.ifYes {x : Int32} (A : W l Z n0 y bytes maxl ret R G h pc Ls (.int x :: St) C S) {cd : ClassFile.Cond} {o : Int} (hd : decode bytes pc = .ok (.ifCond cd o, 3)) (hc : if_icmp.holds cd x 0 = true) (ho : 0 ≤ (pc : Int) + o) (hp : ((pc : Int) + o).toNat = pc') : W l Z n0 y bytes maxl ret R G h pc' Ls St C S :=
  A.step fun X hx _ _ q _ r => XS.ifYes X.here hx rfl rfl (hb q hd) rfl ((if0 _ _).trans hc) ho hp r
theorem W.ifNo {x : Int32} (A : W l Z n0 y bytes maxl ret R G h pc Ls (.int x :: St) C S) {cd : ClassFile.Cond} {o : Int} (hd : decode bytes pc = .ok (.ifCond cd o, 3)) (hc : if_icmp.holds cd x 0 = false) (hp : pc + 3 = pc') : W l Z n0 y bytes maxl ret R G h pc' Ls St C S := by
  subst hp; exact A.step fun X hx _ _ q _ r => XS.ifNo X.here hx rfl (hb q hd) rfl ((if0 _ _).trans hc) r
theorem W.icmpYes {x z : Int32} (A : W l Z n0 y bytes maxl ret R G h pc Ls (.int z :: .int x :: St) C S) {cd : ClassFile.Cond} {o : Int} (hd : decode bytes pc = .ok (.if_icmp cd o, 3)) (hc : if_icmp.holds cd x z = true) (ho : 0 ≤ (pc : Int) + o) (hp : ((pc : Int) + o).toNat = pc') : W l Z n0 y bytes maxl ret R G h pc' Ls St C S :=
  A.step fun X hx _ _ q _ r => XS.icmpYes X.here hx rfl rfl (hb q hd) rfl hc ho hp r
theorem W.icmpNo {x z : Int32} (A : W l Z n0 y bytes maxl ret R G h pc Ls (.int z :: .int x :: St) C S) {cd : ClassFile.Cond} {o : Int} (hd : decode bytes pc = .ok (.if_icmp cd o, 3)) (hc : if_icmp.holds cd x z = false) (hp : pc + 3 = pc') : W l Z n0 y bytes maxl ret R G h pc' Ls St C S := by
  subst hp; exact A.step fun X hx _ _ q _ r => XS.icmpNo X.here hx rfl (hb q hd) rfl hc r
theorem W.ifnullYes (A : W l Z n0 y bytes maxl ret R G h pc Ls (.null :: St) C S) {o : Int} (hd : decode bytes pc = .ok (.ifnull o, 3)) (ho : 0 ≤ (pc : Int) + o) (hp : ((pc : Int) + o).toNat = pc') : W l Z n0 y bytes maxl ret R G h pc' Ls St C S :=
  A.step fun X hx _ _ q _ r => XS.ifnullYes X.here hx rfl rfl (hb q hd) rfl ho hp r
theorem W.ifnullNo {a : Addr} (A : W l Z n0 y bytes maxl ret R G h pc Ls (.ref a :: St) C S) {o : Int} (hd : decode bytes pc = .ok (.ifnull o, 3)) (hp : pc + 3 = pc') : W l Z n0 y bytes maxl ret R G h pc' Ls St C S := by
  subst hp; exact A.step fun X hx _ _ q _ r => XS.ifnullNo X.here hx rfl (hb q hd) rfl r
theorem W.ifnonnullNo (A : W l Z n0 y bytes maxl ret R G h pc Ls (.null :: St) C S) {o : Int} (hd : decode bytes pc = .ok (.ifnonnull o, 3)) (hp : pc + 3 = pc') : W l Z n0 y bytes maxl ret R G h pc' Ls St C S := by
  subst hp; exact A.step fun X hx _ _ q _ r => XS.ifnonnullNo X.here hx rfl (hb q hd) rfl r
theorem W.ifnonnullYes {a : Addr} (A : W l Z n0 y bytes maxl ret R G h pc Ls (.ref a :: St) C S) {o : Int} (hd : decode bytes pc = .ok (.ifnonnull o, 3)) (ho : 0 ≤ (pc : Int) + o) (hp : ((pc : Int) + o).toNat = pc') : W l Z n0 y bytes maxl ret R G h pc' Ls St C S :=
  A.step fun X hx _ _ q _ r => XS.ifnonnullYes X.here hx rfl rfl (hb q hd) rfl ho hp r
/-! C. the returns -/
theorem W.fin {v : Option Value} (A : W l Z n0 y bytes maxl ret R G h pc Ls St C S) (hC : C ≤ R.cells) (hS : S ≤ R.slots) (hv : ret = none → v = none) (hQ : Q v h)
    (f : ∀ {p : Program} {e : Env} {s : State} {m : MethodId} {args : Array Value} {below : List Frame} {meth : Method} {c : Code} {T : State} {locs : List Loc} {fs : List Frame}, Stand p l e R s m args below meth c T locs C S → p.tables.exec = Jvm.exec → c.code = bytes → meth.sig.returnType = ret → (∀ (f : JFrame) (acts : List Action), f.method = m → f.locked = none → f.entered = [] → (doReturn e (T.setTop f) acts v).1 = T.setFrames fs) → Steps p.tables e below (T.setTop (mkF m pc Ls St)) (T.setFrames fs)) : Gl R n0 G Q := by
  obtain ⟨p, e, s, m, args, below, meth, c, st⟩ := G
  obtain ⟨hx, hZ, hby, hml, hown, hnm, hrt, hlk, hn0, T, locs, X, N, eT, k⟩ := A
  obtain ⟨fs, hr, hrun, hended, hW, hsame⟩ := X.leave (v := v) (fun q => hv (hrt.symm.trans q)) hlk
  show ∃ s₂ o, _
  refine ⟨_, _, k _ (f X hx hby hrt hr), hrun, hended, v, locs, rfl, ⟨N, ?_⟩, ⟨_, rfl⟩, hW, hsame.mono hC hS⟩
  show Q v T.heap
  rw [eT]; exact hQ
theorem W.retI {z : Int32} (A : W l Z n0 y bytes maxl (some .int) R G h pc Ls (.int z :: St) C S) (hd : decode bytes pc = .ok (.ireturn, 1)) (hC : C ≤ R.cells) (hS : S ≤ R.slots) (hQ : Q (some (.int z)) h) : Gl R n0 G Q :=
  A.fin hC hS (fun q => nomatch q) hQ fun X hx q hret hr => retOut X hx hret (t := .int) rfl (Or.inl ⟨rfl, Or.inl rfl, z, rfl⟩) (hb q hd) hr
theorem W.retN {z z' : Int32} {t : FieldType} (A : W l Z n0 y bytes maxl (some t) R G h pc Ls (.int z :: St) C S) (hd : decode bytes pc = .ok (.ireturn, 1)) (hC : C ≤ R.cells) (hS : S ≤ R.slots) (ht : t = .boolean ∨ t = .byte ∨ t = .char ∨ t = .short) (hz : nar t z = z') (hQ : Q (some (.int z')) h) : Gl R n0 G Q := by
  subst hz; exact A.fin hC hS (fun q => nomatch q) hQ fun X hx q hret hr => RoadKit.retN X hx hret ht (hb q hd) hr
theorem W.retJ {z : Int64} (A : W l Z n0 y bytes maxl (some .long) R G h pc Ls (.long z :: St) C S) (hd : decode bytes pc = .ok (.lreturn, 1)) (hC : C ≤ R.cells) (hS : S ≤ R.slots) (hQ : Q (some (.long z)) h) : Gl R n0 G Q :=
  A.fin hC hS (fun q => nomatch q) hQ fun X hx q hret hr => retOut X hx hret (t := .long) rfl (Or.inr (Or.inl ⟨rfl, rfl, z, rfl⟩)) (hb q hd) hr
theorem W.retA {v : Value} {t : FieldType} (A : W l Z n0 y bytes maxl (some t) R G h pc Ls (v :: St) C S) (hd : decode bytes pc = .ok (.areturn, 1)) (hC : C ≤ R.cells) (hS : S ≤ R.slots) (ht : t.isReference = true) (hv : v.isRef = true) (hn : narrow t v = v) (hQ : Q (some v) h) : Gl R n0 G Q :=
  A.fin hC hS (fun q => nomatch q) hQ fun X hx q hret hr => retOut X hx hret (t := t) hn (Or.inr (Or.inr (Or.inr (Or.inr ⟨rfl, ht, hv⟩)))) (hb q hd) hr
theorem W.retV (A : W l Z n0 y bytes maxl none R G h pc Ls [] C S) (hd : decode bytes pc = .ok (.return_, 1)) (hC : C ≤ R.cells) (hS : S ≤ R.slots) (hQ : Q none h) : Gl R n0 G Q :=
  A.fin hC hS (fun _ => rfl) hQ fun X hx q hret hr => X.returnOut hx hret (hb q hd) hr
/-! D. calls -/
theorem W.callS (A : W l Z n0 y bytes maxl ret R G h pc Ls St C S) {y' : MethodName} {bytes' : ByteArray} {maxl' : Nat} {ret' : Option FieldType} {R' : Room} {as : Array Value} {idx : Nat} {argsL rest : List Value} {ps : List FieldType} {rr : Option FieldType} (hd : decode bytes pc = .ok (.invokestatic idx, 3))
    (w1 : (Jvm.Cond.methodLink y.cls idx y').before a0 Z = true) (w2 : (Jvm.Cond.static y').before a0 Z = true) (w3 : (Jvm.Cond.initialized y'.cls).before a0 Z = true) (w4 : (Jvm.Cond.code y' bytes' maxl' ret').before a0 Z = true) (hM : Ctr l Z n0 y' bytes' maxl' ret' [] R' as h Q) (has : argsL.toArray = as) (hs : St = argsL.reverse ++ rest)
    (hpd : parseMethodDescriptor y'.desc = some ⟨ps, rr⟩) (hlen : argsL.length = ps.length) (hsz : Ls.size = maxl) (hy : y'.cls ≠ "java/lang/invoke/MethodHandle" ∧ y'.cls ≠ "java/lang/invoke/VarHandle") (hf : R'.frames + 1 ≤ R.frames) (hlo : (rest.map fun v => v.category).sum + (maxl' + 11) + R'.locals ≤ R.locals) (hC : C + R'.cells ≤ R.cells) (hS : S + R'.slots ≤ R.slots) (hC' : C + R'.cells = C') (hS' : S + R'.slots = S') (hp : pc + 3 = pc') :
    ∃ v h', Q v h' ∧ W l Z n0 y bytes maxl ret R G h' pc' Ls (v.toList ++ rest) C' S' := by
  subst hp hC' hS' has
  obtain ⟨p, e, s, m, args, below, meth, c, st⟩ := G
  obtain ⟨hx, hZ, hby, hml, hown, hnm, hrt, hlk, hn0, T, locs, X, N, eT, k⟩ := A
  obtain ⟨v, _, ⟨T', L', k', n'⟩, -, X', ⟨Lc, hQ, l1, y1, z1⟩, st'⟩ := Jvm.LawKit.callS X hx (y := y') hown (mvT hZ w1) (mvT hZ w2) (mvT hZ w3) (mvT hZ w4) hy (backOf (Q := fun v h L => Fr n0 L ∧ Q v h) (W := (rest.map fun v => v.category).sum) hM hZ w4 w3 hf hlo) (g := mkF m pc Ls St) rfl (by rw [hml]; exact hsz) (argsL := argsL) (rest := rest) (lenOf hpd hlen) hs (by show 2 * 0 + _ ≤ _; omega) (hb hby hd) (fun _ _ => ⟨rfl, eT, hC, hS⟩)
  dsimp only [Pt.U, Pt.locs, Pt.cells, Pt.slots] at X' l1 y1 z1 st' hQ
  subst l1 y1 z1
  exact ⟨v, T'.heap, hQ.2, W.mk hx hZ hby hml hown hnm hrt hlk hn0 X' (N.app hQ.1) rfl (fun t q => k t (st' t q))⟩
theorem W.callI (A : W l Z n0 y bytes maxl ret R G h pc Ls St C S) {a : Addr} {y' : MethodName} {bytes' : ByteArray} {maxl' : Nat} {R' : Room} {as : Array Value} {idx : Nat} {argsL rest : List Value} {ps : List FieldType} {rr : Option FieldType} (hd : decode bytes pc = .ok (.invokespecial idx, 3)) (hy1 : y'.name = "<init>")
    (w1 : (Jvm.Cond.methodLink y.cls idx y').before a0 Z = true) (w2 : (Jvm.Cond.instanceMethod y').before a0 Z = true) (w3 : (Jvm.Cond.initialized y'.cls).before a0 Z = true) (w4 : (Jvm.Cond.code y' bytes' maxl' none).before a0 Z = true) (hM : Ctr l Z n0 y' bytes' maxl' none [] R' as h Q) (has : (.ref a :: argsL).toArray = as) (hs : St = argsL.reverse ++ .ref a :: rest)
    (hpd : parseMethodDescriptor y'.desc = some ⟨ps, rr⟩) (hlen : argsL.length = ps.length) (hsz : Ls.size = maxl) (hy : y'.cls ≠ "java/lang/invoke/MethodHandle" ∧ y'.cls ≠ "java/lang/invoke/VarHandle") (hf : R'.frames + 1 ≤ R.frames) (hlo : (rest.map fun v => v.category).sum + (maxl' + 11) + R'.locals ≤ R.locals) (hC : C + R'.cells ≤ R.cells) (hS : S + R'.slots ≤ R.slots) (hC' : C + R'.cells = C') (hS' : S + R'.slots = S') (hp : pc + 3 = pc') :
    ∃ v h', Q v h' ∧ W l Z n0 y bytes maxl ret R G h' pc' Ls (v.toList ++ rest) C' S' := by
  subst hp hC' hS' has
  obtain ⟨p, e, s, m, args, below, meth, c, st⟩ := G
  obtain ⟨hx, hZ, hby, hml, hown, hnm, hrt, hlk, hn0, T, locs, X, N, eT, k⟩ := A
  obtain ⟨v, _, ⟨T', L', k', n'⟩, -, X', ⟨Lc, hQ, l1, y1, z1⟩, st'⟩ := X.specialBack hx (y := y') hy1 hown (mvT hZ w1) (mvT hZ w2) (mvT hZ w4) hy (backOf (Q := fun v h L => Fr n0 L ∧ Q v h) (W := (rest.map fun v => v.category).sum) hM hZ w4 w3 hf hlo) (g := mkF m pc Ls St) rfl (by rw [hml]; exact hsz) (Steps.refl _) (a := a) (argsL := argsL) (rest := rest) (lenOf hpd hlen) hs (by show 2 * 0 + _ ≤ _; omega) (hb hby hd) (fun _ _ => ⟨rfl, eT, hC, hS⟩)
  dsimp only [Pt.U, Pt.locs, Pt.cells, Pt.slots] at X' l1 y1 z1 st' hQ
  subst l1 y1 z1
  exact ⟨v, T'.heap, hQ.2, W.mk hx hZ hby hml hown hnm hrt hlk hn0 X' (N.app hQ.1) rfl (fun t q => k t (st'.trans q))⟩
theorem W.callV (A : W l Z n0 y bytes maxl ret R G h pc Ls St C S) {a : Addr} {K : String} {y' z' : MethodName} {bytes' : ByteArray} {maxl' : Nat} {ret' : Option FieldType} {R' : Room} {as : Array Value} {idx : Nat} {argsL rest : List Value} {ps : List FieldType} {rr : Option FieldType} (hd : decode bytes pc = .ok (.invokevirtual idx, 3)) (E : Exa Z h a K)
    (w1 : (Jvm.Cond.methodLink y.cls idx y').before a0 Z = true) (wd : (Jvm.Cond.declares y').before a0 Z = true) (hnf : ∀ {s : State}, Z.Warmed39 s.vm → NotFace s y') (ws : (Jvm.Cond.selects K y' z').before a0 Z = true) (w2 : (Jvm.Cond.instanceMethod z').before a0 Z = true) (w3 : (Jvm.Cond.initialized z'.cls).before a0 Z = true) (w4 : (Jvm.Cond.code z' bytes' maxl' ret').before a0 Z = true) (hM : Ctr l Z n0 z' bytes' maxl' ret' [] R' as h Q) (has : (.ref a :: argsL).toArray = as) (hs : St = argsL.reverse ++ .ref a :: rest)
    (hpd : parseMethodDescriptor y'.desc = some ⟨ps, rr⟩) (hlen : argsL.length = ps.length) (hsz : Ls.size = maxl) (hy : y'.cls ≠ "java/lang/invoke/MethodHandle" ∧ y'.cls ≠ "java/lang/invoke/VarHandle") (hf : R'.frames + 1 ≤ R.frames) (hlo : (rest.map fun v => v.category).sum + (maxl' + 11) + R'.locals ≤ R.locals) (hC : C + R'.cells ≤ R.cells) (hS : S + R'.slots ≤ R.slots) (hC' : C + R'.cells = C') (hS' : S + R'.slots = S') (hp : pc + 3 = pc') :
    ∃ v h', Q v h' ∧ W l Z n0 y bytes maxl ret R G h' pc' Ls (v.toList ++ rest) C' S' := by
  subst hp hC' hS' has
  obtain ⟨p, e, s, m, args, below, meth, c, st⟩ := G
  obtain ⟨hx, hZ, hby, hml, hown, hnm, hrt, hlk, hn0, T, locs, X, N, eT, k⟩ := A
  obtain ⟨cq, kq, qa, qb, qc⟩ := isOf hZ eT E
  obtain ⟨v, _, ⟨T', L', k', n'⟩, -, X', ⟨Lc, hQ, l1, y1, z1⟩, st'⟩ := X.virtualBack hx (y := y') (z := z') hown (mvT hZ w1) (mvT hZ wd) (hnf hZ) (mvT hZ ws) (mvT hZ w2) hy (backOf (Q := fun v h L => Fr n0 L ∧ Q v h) (W := (rest.map fun v => v.category).sum) hM hZ w4 w3 hf hlo) qa qc (g := mkF m pc Ls St) rfl (by rw [hml]; exact hsz) (Steps.refl _) (argsL := argsL) (rest := rest) (lenOf hpd hlen) hs (by show 2 * 0 + _ ≤ _; omega) (hb hby hd) (fun _ _ => ⟨rfl, eT, hC, hS⟩)
  dsimp only [Pt.U, Pt.locs, Pt.cells, Pt.slots] at X' l1 y1 z1 st' hQ
  subst l1 y1 z1
  exact ⟨v, T'.heap, hQ.2, W.mk hx hZ hby hml hown hnm hrt hlk hn0 X' (N.app hQ.1) rfl (fun t q => k t (st'.trans q))⟩
theorem W.callP (A : W l Z n0 y bytes maxl ret R G h pc Ls St C S) {a : Addr} {K : String} {kk : Nat} {y' : MethodName} {bytes' : ByteArray} {maxl' : Nat} {ret' : Option FieldType} {R' : Room} {as : Array Value} {idx : Nat} {argsL rest : List Value} {ps : List FieldType} {rr : Option FieldType} (hd : decode bytes pc = .ok (.invokevirtual idx, 3)) (E : Exa Z h a K)
    (w1 : (Jvm.Cond.methodLink y.cls idx y').before a0 Z = true) (w2 : (Jvm.Cond.instanceMethod y').before a0 Z = true) (wp : (Jvm.Cond.privateMethod y').before a0 Z = true) (wi : (Jvm.Cond.instantiable y'.cls kk).before a0 Z = true) (w3 : (Jvm.Cond.initialized y'.cls).before a0 Z = true) (w4 : (Jvm.Cond.code y' bytes' maxl' ret').before a0 Z = true) (hM : Ctr l Z n0 y' bytes' maxl' ret' [] R' as h Q) (has : (.ref a :: argsL).toArray = as) (hs : St = argsL.reverse ++ .ref a :: rest)
    (hpd : parseMethodDescriptor y'.desc = some ⟨ps, rr⟩) (hlen : argsL.length = ps.length) (hsz : Ls.size = maxl) (hy : y'.cls ≠ "java/lang/invoke/MethodHandle" ∧ y'.cls ≠ "java/lang/invoke/VarHandle") (hf : R'.frames + 1 ≤ R.frames) (hlo : (rest.map fun v => v.category).sum + (maxl' + 11) + R'.locals ≤ R.locals) (hC : C + R'.cells ≤ R.cells) (hS : S + R'.slots ≤ R.slots) (hC' : C + R'.cells = C') (hS' : S + R'.slots = S') (hp : pc + 3 = pc') :
    ∃ v h', Q v h' ∧ W l Z n0 y bytes maxl ret R G h' pc' Ls (v.toList ++ rest) C' S' := by
  subst hp hC' hS' has
  obtain ⟨p, e, s, m, args, below, meth, c, st⟩ := G
  obtain ⟨hx, hZ, hby, hml, hown, hnm, hrt, hlk, hn0, T, locs, X, N, eT, k⟩ := A
  obtain ⟨cq, q1, q2⟩ := E.cell
  have hpv := Cond.privateMethod_at (mvP (args := args) hZ wp)
  obtain ⟨ci, ki, i1, i2, -, i3, -, -⟩ := Cond.instantiable_spec (mvT (args := args) hZ wi)
  have hsel := selects_self_of_private (args := args) i1 i2 (Bool.or_eq_false_iff.mp i3).1 hpv (mvT hZ w2) hy
  obtain ⟨v, _, ⟨T', L', k', n'⟩, -, X', ⟨Lc, hQ, l1, y1, z1⟩, st'⟩ := X.privateBack hx (y := y') hown (mvT hZ w1) (mvT hZ w2) hsel hpv (mvT hZ w4) hy (backOf (Q := fun v h L => Fr n0 L ∧ Q v h) (W := (rest.map fun v => v.category).sum) hM hZ w4 w3 hf hlo) (g := mkF m pc Ls St) rfl (by rw [hml]; exact hsz) (Steps.refl _) (a := a) (by rw [eT]; exact q1) q2 (argsL := argsL) (rest := rest) (lenOf hpd hlen) hs (by show 2 * 0 + _ ≤ _; omega) (hb hby hd) (fun _ _ => ⟨rfl, eT, hC, hS⟩)
  dsimp only [Pt.U, Pt.locs, Pt.cells, Pt.slots] at X' l1 y1 z1 st' hQ
  subst l1 y1 z1
  exact ⟨v, T'.heap, hQ.2, W.mk hx hZ hby hml hown hnm hrt hlk hn0 X' (N.app hQ.1) rfl (fun t q => k t (st'.trans q))⟩
theorem W.kI {P : Int32 → Heap → Prop} {rest : List Value} (q : ∃ v h', QI P v h' ∧ W l Z n0 y bytes maxl ret R G h' pc Ls (v.toList ++ rest) C S) : ∃ r h', P r h' ∧ W l Z n0 y bytes maxl ret R G h' pc Ls (.int r :: rest) C S := by
  obtain ⟨v, h', ⟨r, rfl, hP⟩, A⟩ := q; exact ⟨r, h', hP, A⟩
theorem W.kJ {P : Int64 → Heap → Prop} {rest : List Value} (q : ∃ v h', QJ P v h' ∧ W l Z n0 y bytes maxl ret R G h' pc Ls (v.toList ++ rest) C S) : ∃ r h', P r h' ∧ W l Z n0 y bytes maxl ret R G h' pc Ls (.long r :: rest) C S := by
  obtain ⟨v, h', ⟨r, rfl, hP⟩, A⟩ := q; exact ⟨r, h', hP, A⟩
theorem W.kA {P : Addr → Heap → Prop} {rest : List Value} (q : ∃ v h', QA P v h' ∧ W l Z n0 y bytes maxl ret R G h' pc Ls (v.toList ++ rest) C S) : ∃ r h', P r h' ∧ W l Z n0 y bytes maxl ret R G h' pc Ls (.ref r :: rest) C S := by
  obtain ⟨v, h', ⟨r, rfl, hP⟩, A⟩ := q; exact ⟨r, h', hP, A⟩
theorem W.kV {P : Heap → Prop} {rest : List Value} (q : ∃ v h', QV P v h' ∧ W l Z n0 y bytes maxl ret R G h' pc Ls (v.toList ++ rest) C S) : ∃ h', P h' ∧ W l Z n0 y bytes maxl ret R G h' pc Ls rest C S := by
  obtain ⟨v, h', ⟨rfl, hP⟩, A⟩ := q; exact ⟨h', hP, A⟩
end Walk
end Jvm.Pilot.@@N@@
namespace Jvm.Pilot.@@N@@
open Jvm Jvm.ClassFile Sem Op Lib Jvm.Free Jvm.Stand Jvm.LawKit Jvm.RoadKit Bundle
/-! numbers -/
theorem rng32 (x : Int32) : -2147483648 ≤ x.toInt ∧ x.toInt < 2147483648 := ⟨x.le_toInt, x.toInt_lt⟩
theorem rng64 (x : Int64) : -9223372036854775808 ≤ x.toInt ∧ x.toInt < 9223372036854775808 := ⟨x.le_toInt, x.toInt_lt⟩
theorem add32 (x y : Int32) (h1 : -2147483648 ≤ x.toInt + y.toInt) (h2 : x.toInt + y.toInt < 2147483648) : (x + y).toInt = x.toInt + y.toInt := by
  have e := c_iadd x y; have r := rng32 (x + y); omega
theorem sub32 (x y : Int32) (h1 : -2147483648 ≤ x.toInt - y.toInt) (h2 : x.toInt - y.toInt < 2147483648) : (x - y).toInt = x.toInt - y.toInt := by
  have e := c_isub x y; have r := rng32 (x - y); omega
theorem mul32 (x y : Int32) (h1 : -2147483648 ≤ x.toInt * y.toInt) (h2 : x.toInt * y.toInt < 2147483648) : (x * y).toInt = x.toInt * y.toInt := by
  have e := c_imul x y; have r := rng32 (x * y); generalize x.toInt * y.toInt = z at *; omega
theorem add64 (x y : Int64) (h1 : -9223372036854775808 ≤ x.toInt + y.toInt) (h2 : x.toInt + y.toInt < 9223372036854775808) : (x + y).toInt = x.toInt + y.toInt := by
  have e := c_ladd x y; have r := rng64 (x + y); omega
theorem sub64 (x y : Int64) (h1 : -9223372036854775808 ≤ x.toInt - y.toInt) (h2 : x.toInt - y.toInt < 9223372036854775808) : (x - y).toInt = x.toInt - y.toInt := by
  have e := c_lsub x y; have r := rng64 (x - y); omega
theorem mul64 (x y : Int64) (h1 : -9223372036854775808 ≤ x.toInt * y.toInt) (h2 : x.toInt * y.toInt < 9223372036854775808) : (x * y).toInt = x.toInt * y.toInt := by
  have e := c_lmul x y; have r := rng64 (x * y); generalize x.toInt * y.toInt = z at *; omega
theorem mulc32 (x c : Int32) (k : Int) (hc : c.toInt = k) (h1 : -2147483648 ≤ x.toInt * k) (h2 : x.toInt * k < 2147483648) : (x * c).toInt = x.toInt * k := by
  subst hc; exact mul32 x c h1 h2
theorem mulc64 (x c : Int64) (k : Int) (hc : c.toInt = k) (h1 : -9223372036854775808 ≤ x.toInt * k) (h2 : x.toInt * k < 9223372036854775808) : (x * c).toInt = x.toInt * k := by
  subst hc; exact mul64 x c h1 h2
theorem addc32 (x c : Int32) (k : Int) (hc : c.toInt = k) (h1 : -2147483648 ≤ x.toInt + k) (h2 : x.toInt + k < 2147483648) : (x + c).toInt = x.toInt + k := by
  subst hc; exact add32 x c h1 h2
theorem subc32 (x c : Int32) (k : Int) (hc : c.toInt = k) (h1 : -2147483648 ≤ x.toInt - k) (h2 : x.toInt - k < 2147483648) : (x - c).toInt = x.toInt - k := by
  subst hc; exact sub32 x c h1 h2
theorem sta_int {args : Array Value} {s : State} {C n d : String} {v : Int32} (h : (Jvm.Cond.eq (Jvm.Term.static C n d) (Jvm.Term.int v)).value args s none s [] = some true) : (Jvm.Term.static C n d).eval args s none [] s = some (.int v) := by
  obtain ⟨a, b, h1, h2, -, -⟩ := cmp_v (Or.inl h)
  cases Option.some.inj (h2.symm.trans (rfl : (Jvm.Term.int v).eval args s none [] s = some (.int v)))
  rw [h1]; cases a <;> simp [Cond.value, h1, h2] at h ⊢; exact h
theorem sta_long {args : Array Value} {s : State} {C n d : String} {v : Int64} (h : (Jvm.Cond.eq (Jvm.Term.static C n d) (Jvm.Term.long v)).value args s none s [] = some true) : (Jvm.Term.static C n d).eval args s none [] s = some (.long v) := by
  obtain ⟨a, b, h1, h2, -, -⟩ := cmp_v (Or.inl h)
  cases Option.some.inj (h2.symm.trans (rfl : (Jvm.Term.long v).eval args s none [] s = some (.long v)))
  rw [h1]; cases a <;> simp [Cond.value, h1, h2] at h ⊢; exact h
/-- (y & 0x7fffffff) % m -/
theorem pmod32 (x m : Int32) (M : Int) (hm : m.toInt = M) (hM : 0 < M) : ((x &&& (2147483647 : Int32)) % m).toInt = (x.toInt % 2147483648) % M ∧ 0 ≤ ((x &&& (2147483647 : Int32)) % m).toInt ∧ ((x &&& (2147483647 : Int32)) % m).toInt < M := by
  have e : (x &&& (2147483647 : Int32)).toInt = x.toInt % 2147483648 := c_mask x 2147483647 31 (by decide) (by decide)
  have q := (c_irem (x &&& (2147483647 : Int32)) m M hm).1 (by omega)
  have := Int.emod_nonneg (x.toInt % 2147483648) (show M ≠ 0 by omega)
  have := Int.emod_lt_of_pos (x.toInt % 2147483648) hM
  rw [q, e]; omega
/-- (x & Long.MAX_VALUE) % m -/
theorem pmod64 (x m : Int64) (M : Int) (hm : m.toInt = M) (hM : 0 < M) : 0 ≤ ((x &&& (9223372036854775807 : Int64)) % m).toInt ∧ ((x &&& (9223372036854775807 : Int64)) % m).toInt < M := by
  have e : (x &&& (9223372036854775807 : Int64)).toInt = x.toInt % 9223372036854775808 := c_maskL x 9223372036854775807 63 (by decide) (by decide)
  have q := (c_lrem (x &&& (9223372036854775807 : Int64)) m M hm).1 (by omega)
  rw [lrem_mod] at q
  have := Int.emod_nonneg (x.toInt % 9223372036854775808) (show M ≠ 0 by omega)
  have := Int.emod_lt_of_pos (x.toInt % 9223372036854775808) hM
  rw [q, e]; omega
end Jvm.Pilot.@@N@@
namespace Jvm.Pilot.@@N@@
open Jvm Jvm.ClassFile Sem Op Lib Jvm.Free Jvm.Stand Jvm.LawKit Jvm.RoadKit Bundle Jvm.Pilot.@@N@@.Jvm.D
section Heaps
variable {l : Launch} {Z : State} {n0 : Nat} {y : MethodName} {bytes : ByteArray} {maxl : Nat} {ret : Option FieldType} {R : Room} {G : Cx} {h h' : Heap} {pc pc' : Nat} {Ls : Array Slot} {St : List Value} {C S C' S' : Nat} {Q : Option Value → Heap → Prop} {a0 : Array Value} {a b : Addr}
/-- a step that moves the state and keeps the heap -/
theorem W.stepT (A : W l Z n0 y bytes maxl ret R G h pc Ls St C S) {Ls' : Array Slot} {St' : List Value}
    (f : ∀ {p : Program} {e : Env} {s : State} {m : MethodId} {args : Array Value} {below : List Frame} {meth : Method} {c : Code} {T : State} {locs : List Loc}, Stand p l e R s m args below meth c T locs C S → p.tables.exec = Jvm.exec → Z.Warmed39 s.vm → s.vm.findClass y.cls = some m.cls → c.code = bytes → c.maxLocals = maxl → T.heap = h →
      ∃ T', Stand p l e R s m args below meth c T' locs C S ∧ T'.heap = h ∧ ∀ t, Steps p.tables e below (T'.setTop (mkF m pc' Ls' St')) t → Steps p.tables e below (T.setTop (mkF m pc Ls St)) t) : W l Z n0 y bytes maxl ret R G h pc' Ls' St' C S := by
  obtain ⟨p, e, s, m, args, below, meth, c, st⟩ := G
  obtain ⟨hx, hZ, hby, hml, hown, hnm, hrt, hlk, hn0, T, locs, X, N, eT, k⟩ := A
  obtain ⟨T', X', e', st'⟩ := f X hx hZ hown hby hml eT
  exact W.mk hx hZ hby hml hown hnm hrt hlk hn0 X' N e' (fun t q => k t (st' t q))
theorem W.getF (A : W l Z n0 y bytes maxl ret R G h pc Ls (.ref a :: St) C S) {index : Nat} {R0 O n d host : String} {v : Value} (hd : decode bytes pc = .ok (.getfield index, 3)) (w : (Jvm.Cond.fieldLink y.cls index R0 n d).before a0 Z = true ∨ (Jvm.Cond.fieldLinkNest y.cls index R0 n d host).before a0 Z = true) (via : Via Z R0 O n d) (F : Fld Z h a O n d v) (hp : pc + 3 = pc') : W l Z n0 y bytes maxl ret R G h pc' Ls (v :: St) C S := by
  subst hp; exact A.stepT fun X hx hZ hown q _ eT => RoadKit.getF X hx hZ hown w via eT F (g := mkF _ _ _ _) rfl rfl (hb q hd)
theorem W.getS (A : W l Z n0 y bytes maxl ret R G h pc Ls St C S) {index : Nat} {R0 O n d host : String} {v : Value} (hd : decode bytes pc = .ok (.getstatic index, 3)) (w : (Jvm.Cond.fieldLink y.cls index R0 n d).before a0 Z = true ∨ (Jvm.Cond.fieldLinkNest y.cls index R0 n d host).before a0 Z = true) (via : Via Z R0 O n d) (F : Sta Z h O n d v) (hp : pc + 3 = pc') : W l Z n0 y bytes maxl ret R G h pc' Ls (v :: St) C S := by
  subst hp; exact A.stepT fun X hx hZ hown q _ eT => getS2 X hx hZ hown w via eT F (g := mkF _ _ _ _) rfl (hb q hd)
theorem W.initO (A : W l Z n0 y bytes maxl ret R G h pc Ls (.ref a :: St) C S) {idx : Nat} (hd : decode bytes pc = .ok (.invokespecial idx, 3)) (w1 : (Jvm.Cond.methodLink y.cls idx Lib.objectInit).before a0 Z = true) (w2 : (Jvm.Cond.instanceMethod Lib.objectInit).before a0 Z = true) (w3 : (Jvm.Cond.code Lib.objectInit ⟨#[0xb1]⟩ 1 none).before a0 Z = true) (hsz : Ls.size = maxl) (hf : 1 ≤ R.frames) (hlo : (St.map fun v => v.category).sum + 12 ≤ R.locals) (hp : pc + 3 = pc') : W l Z n0 y bytes maxl ret R G h pc' Ls St C S := by
  subst hp; exact A.stepT fun X hx hZ hown q hml eT => RoadKit.initO X hx hZ hown w1 w2 w3 eT (g := mkF _ _ _ _) rfl (by rw [hml]; exact hsz) rfl (hb q hd) hf (W := (St.map fun v => v.category).sum) (by show 2 * 0 + _ ≤ _; omega) hlo
theorem W.cast0 (A : W l Z n0 y bytes maxl ret R G h pc Ls (.ref a :: St) C S) {index : Nat} {K : String} (hd : decode bytes pc = .ok (.checkcast index, 3)) (w : (Jvm.Cond.classLink y.cls index K).before a0 Z = true) (F : Ins Z h a K true) (hp : pc + 3 = pc') : W l Z n0 y bytes maxl ret R G h pc' Ls (.ref a :: St) C S := by
  subst hp; exact A.stepT fun X hx hZ hown q _ eT => castY X hx hZ hown w eT F (g := mkF _ _ _ _) rfl rfl (hb q hd)
theorem W.inst1 (A : W l Z n0 y bytes maxl ret R G h pc Ls (.ref a :: St) C S) {index : Nat} {K : String} (hd : decode bytes pc = .ok (.instanceof index, 3)) (w : (Jvm.Cond.classLink y.cls index K).before a0 Z = true) (F : Ins Z h a K true) (hp : pc + 3 = pc') : W l Z n0 y bytes maxl ret R G h pc' Ls (.int 1 :: St) C S := by
  subst hp; exact A.stepT fun X hx hZ hown q _ eT => instY X hx hZ hown w eT F (g := mkF _ _ _ _) rfl rfl (hb q hd)
theorem W.putF {v : Value} (A : W l Z n0 y bytes maxl ret R G h pc Ls (v :: .ref a :: St) C S) {index kk : Nat} {R0 O n d host K : String} {ty : FieldType} {old : Value} (hd : decode bytes pc = .ok (.putfield index, 3)) (w : (Jvm.Cond.fieldLink y.cls index R0 n d).before a0 Z = true ∨ (Jvm.Cond.fieldLinkNest y.cls index R0 n d host).before a0 Z = true) (via : Via Z R0 O n d)
    (F : Fld Z h a O n d old) (E : Exa Z h a K) (Lw : (Jvm.Cond.lays K O n d).before a0 Z = true ∨ ((Jvm.Cond.laysFinal K O n d).before a0 Z = true ∧ y.cls = O ∧ y.name = "<init>")) (wi : (Jvm.Cond.instantiable K kk).before a0 Z = true) (hty : parseFieldDescriptor d = some ty) (hn : narrow ty v = v) (hf : fits ty v = true) (ga : n0 ≤ a) (hp : pc + 3 = pc') :
    ∃ h', Wr h h' a (Jvm.RoadKit.slotOf Z O n d) v ∧ W l Z n0 y bytes maxl ret R G h' pc' Ls St C S := by
  subst hp
  obtain ⟨p, e, s, m, args, below, meth, c, st⟩ := G
  obtain ⟨hx, hZ, hby, hml, hown, hnm, hrt, hlk, hn0, T, locs, X, N, eT, k⟩ := A
  obtain ⟨T', h', X', e', W', st'⟩ := RoadKit.putF X hx hZ hown w via eT F E (Lw.imp id fun q => ⟨q.1, q.2.1, hnm.trans q.2.2⟩) wi hty hn hf (g := mkF m pc Ls _) rfl rfl (hb hby hd)
  exact ⟨h', W', W.mk hx hZ hby hml hown hnm hrt hlk hn0 X' (Fr.snoc X' N ga) e' (fun t q => k t (st' t q))⟩
theorem W.putFN {v v' : Value} (A : W l Z n0 y bytes maxl ret R G h pc Ls (v :: .ref a :: St) C S) {index kk : Nat} {R0 O n d K : String} {ty : FieldType} {old : Value} (hd : decode bytes pc = .ok (.putfield index, 3)) (w : (Jvm.Cond.fieldLink y.cls index R0 n d).before a0 Z = true) (via : Via Z R0 O n d)
    (F : Fld Z h a O n d old) (E : Exa Z h a K) (Lw : (Jvm.Cond.lays K O n d).before a0 Z = true ∨ ((Jvm.Cond.laysFinal K O n d).before a0 Z = true ∧ y.cls = O ∧ y.name = "<init>")) (wi : (Jvm.Cond.instantiable K kk).before a0 Z = true) (hty : parseFieldDescriptor d = some ty) (hn : narrow ty v = v') (hf : fits ty v' = true) (ga : n0 ≤ a) (hp : pc + 3 = pc') :
    ∃ h', Wr h h' a (Jvm.RoadKit.slotOf Z O n d) v' ∧ W l Z n0 y bytes maxl ret R G h' pc' Ls St C S := by
  subst hp
  obtain ⟨p, e, s, m, args, below, meth, c, st⟩ := G
  obtain ⟨hx, hZ, hby, hml, hown, hnm, hrt, hlk, hn0, T, locs, X, N, eT, k⟩ := A
  obtain ⟨T', h', X', e', W', st'⟩ := RoadKit.putFN X hx hZ hown w via eT F E (Lw.imp id fun q => ⟨q.1, q.2.1, hnm.trans q.2.2⟩) wi hty hn hf (g := mkF m pc Ls _) rfl rfl (hb hby hd)
  exact ⟨h', W', W.mk hx hZ hby hml hown hnm hrt hlk hn0 X' (Fr.snoc X' N ga) e' (fun t q => k t (st' t q))⟩
theorem W.newO (A : W l Z n0 y bytes maxl ret R G h pc Ls St C S) {index n : Nat} {K : String} (hd : decode bytes pc = .ok (.new index, 3)) (w : (Jvm.Cond.classLink y.cls index K).before a0 Z = true) (wi : (Jvm.Cond.instantiable K n).before a0 Z = true) (wz : (Jvm.Cond.initialized K).before a0 Z = true) (hC : C + 1 ≤ R.cells) (hS : S + n ≤ R.slots) (hC' : C + 1 = C') (hS' : S + n = S') (hp : pc + 3 = pc') :
    ∃ h' b, b = h.size ∧ n0 ≤ b ∧ Ext h h' ∧ Exa Z h' b K ∧ (∀ {O nm d : String} {ty : FieldType}, Laid Z a0 K O nm d → parseFieldDescriptor d = some ty → Fld Z h' b O nm d (defaultValue ty)) ∧ W l Z n0 y bytes maxl ret R G h' pc' Ls (.ref b :: St) C' S' := by
  subst hp hC' hS'
  have hsz := A.size
  obtain ⟨p, e, s, m, args, below, meth, c, st⟩ := G
  obtain ⟨hx, hZ, hby, hml, hown, hnm, hrt, hlk, hn0, T, locs, X, N, eT, k⟩ := A
  obtain ⟨T', h', X', e', E', A', D', -, st'⟩ := RoadKit.newO X hx hZ hown w wi wz eT (g := mkF m pc Ls St) rfl (hb hby hd) hC hS
  exact ⟨h', h.size, rfl, hsz, E', A', D', W.mk hx hZ hby hml hown hnm hrt hlk hn0 X' N e' (fun t q => k t (st' t q))⟩
/-! arrays: what each place holds, by a function of the place -/
def Ars (Z : State) (h : Heap) (a : Addr) (ty : FieldType) (N : Nat) (f : Nat → Value) : Prop := ∃ c : Cell, Arr Z h a c ty ∧ c.slots.size = N ∧ N < 2 ^ 31 ∧ ∀ j, j < N → c.slots[j]? = some (f j) ∧ fits ty (f j) = true
def upd (f : Nat → Value) (i : Nat) (v : Value) : Nat → Value := fun j => if j = i then v else f j
theorem upd_same (f : Nat → Value) (i : Nat) (v : Value) : upd f i v i = v := by simp [upd]
theorem upd_ne (f : Nat → Value) {i j : Nat} (v : Value) (q : j ≠ i) : upd f i v j = f j := by simp [upd, q]
variable {ty : FieldType} {N : Nat} {f : Nat → Value} {ws : List Addr} {sl : Nat} {v : Value}
theorem Ars.lt (F : Ars Z h a ty N f) : a < h.size := by obtain ⟨c, A, -⟩ := F; exact A.lt
theorem Ars.ext (F : Ars Z h a ty N f) (E : Ext h h') : Ars Z h' a ty N f := by obtain ⟨c, A, r⟩ := F; exact ⟨c, A.ext E, r⟩
theorem Ars.other (F : Ars Z h b ty N f) (V : Wr h h' a sl v) (q : b ≠ a) : Ars Z h' b ty N f := by obtain ⟨c, A, r⟩ := F; exact ⟨c, A.other V q, r⟩
theorem Ars.keep (F : Ars Z h a ty N f) (K : Keep h h' ws) (q : a ∉ ws) : Ars Z h' a ty N f := by obtain ⟨c, A, r⟩ := F; exact ⟨c, ⟨K.2.1 a c A.1 q, A.2⟩, r⟩
theorem Ars.same {i : Nat} (F : Ars Z h a ty N f) (V : Wr h h' a i v) (hi : i < N) (hf : fits ty v = true) : Ars Z h' a ty N (upd f i v) := by
  obtain ⟨c, A, hs, hN, hv⟩ := F
  refine ⟨_, A.same V, by rw [sz_set]; exact hs, hN, fun j hj => ?_⟩
  by_cases q : j = i
  · subst q; exact ⟨by simp [Cell.setSlot, upd, hs, hj], by simp only [upd, if_pos]; exact hf⟩
  · simp only [Cell.setSlot, upd, if_neg q]; rw [Array.getElem?_setIfInBounds_ne (Ne.symm q)]; exact hv j hj
theorem Ars.fn {g : Nat → Value} (F : Ars Z h a ty N f) (q : ∀ j, j < N → f j = g j) : Ars Z h a ty N g := by
  obtain ⟨c, A, hs, hN, hv⟩ := F; exact ⟨c, A, hs, hN, fun j hj => by rw [← q j hj]; exact hv j hj⟩
theorem Ars.size (F : Ars Z h a ty N f) : N < 2 ^ 31 := by obtain ⟨c, A, hs, hN, hv⟩ := F; exact hN
theorem inb {j : Int32} {i N : Nat} {c : Cell} (hs : c.slots.size = N) (hj : j.toInt = i) (hi : i < N) : ¬ (j < 0 ∨ c.slots.size ≤ j.toNatClampNeg) ∧ j.toNatClampNeg = i := by
  have e0 : (0 : Int32).toInt = 0 := rfl
  rw [hs, Int32.lt_iff_toInt_lt]; simp only [Int32.toNatClampNeg]; omega
theorem W.newP (A : W l Z n0 y bytes maxl ret R G h pc Ls (.int z :: St) C S) {aty : ArrayType} {N cap : Nat} (hd : decode bytes pc = .ok (.newarray aty, 2)) (w : (Jvm.Cond.arrayClass (newarray.typeOf aty)).before a0 Z = true) (hz : z.toInt = N) (hcap : N ≤ cap) (hcb : cap * 8 ≤ 536870912) (hC : C + 1 ≤ R.cells) (hS : S + cap ≤ R.slots) (hC' : C + 1 = C') (hS' : S + cap = S') (hp : pc + 2 = pc') {ad : String} (had : "[" ++ (newarray.typeOf aty).toString = ad) :
    ∃ h' b, b = h.size ∧ n0 ≤ b ∧ Ext h h' ∧ Ars Z h' b (newarray.typeOf aty) N (fun _ => defaultValue (newarray.typeOf aty)) ∧ Exa Z h' b ad ∧ W l Z n0 y bytes maxl ret R G h' pc' Ls (.ref b :: St) C' S' := by
  subst hp hC' hS'
  have hsz := A.size
  have e0 : (0 : Int32).toInt = 0 := rfl
  have hneg : ¬ z < 0 := by rw [Int32.lt_iff_toInt_lt]; omega
  have hcl : z.toNatClampNeg = N := by simp only [Int32.toNatClampNeg]; omega
  obtain ⟨p, e, s, m, args, below, meth, c, st⟩ := G
  obtain ⟨hx, hZ, hby, hml, hown, hnm, hrt, hlk, hn0, T, locs, X, Nf, eT, k⟩ := A
  obtain ⟨T', h', kA, X', e', E', A', Ex', st'⟩ := newPE X hx hZ w eT (g := mkF m pc Ls _) rfl (hb hby hd) rfl hneg (cap := cap) (by omega) hcb hC hS had
  refine ⟨h', h.size, rfl, hsz, E', ⟨_, A', by rw [sz_new, hcl], by omega, fun j hj => ?_⟩, Ex', W.mk hx hZ hby hml hown hnm hrt hlk hn0 X' Nf e' (fun t q => k t (st' t q))⟩
  exact ⟨by simp [newA, hcl, hj], by cases aty <;> rfl⟩
theorem W.alen (A : W l Z n0 y bytes maxl ret R G h pc Ls (.ref a :: St) C S) (hd : decode bytes pc = .ok (.arraylength, 1)) (F : Ars Z h a ty N f) {z : Int32} (hz : z.toInt = N) (hp : pc + 1 = pc') : W l Z n0 y bytes maxl ret R G h pc' Ls (.int z :: St) C S := by
  subst hp
  obtain ⟨cl, Ar, hs, hN, hv⟩ := F
  have e0 : (0 : Int32).toInt = 0 := rfl
  have hneg : ¬ z < 0 := by rw [Int32.lt_iff_toInt_lt]; omega
  have hcl : cl.slots.size = z.toNatClampNeg := by simp only [Int32.toNatClampNeg]; omega
  exact A.step fun X hx hZ hown q eT r => X.arraylength hx (by rw [eT]; exact Ar.1) (State.isArrayOf_alike hZ.alike Ar.2.1) (g := mkF _ _ _ _) rfl rfl (hb q hd) _ (by rw [len_of hcl hneg]; exact r)
theorem W.iaload {j : Int32} (A : W l Z n0 y bytes maxl ret R G h pc Ls (.int j :: .ref a :: St) C S) (hd : decode bytes pc = .ok (.iaload, 1)) (F : Ars Z h a .int N f) {i : Nat} (hj : j.toInt = i) (hi : i < N) {v : Value} (hv : f i = v) (hp : pc + 1 = pc') : W l Z n0 y bytes maxl ret R G h pc' Ls (v :: St) C S := by
  subst hp
  obtain ⟨cl, Ar, hs, hN, hf⟩ := F
  obtain ⟨q1, q2⟩ := inb hs hj hi
  exact A.step fun X hx hZ hown q eT r => X.iaload hx (by rw [eT]; exact Ar.1) (State.isArrayOf_alike hZ.alike Ar.2.1) Ar.2.2 q1 (by rw [q2, (hf i hi).1, hv]) (g := mkF _ _ _ _) rfl rfl (hb q hd) _ r
theorem W.laload {j : Int32} (A : W l Z n0 y bytes maxl ret R G h pc Ls (.int j :: .ref a :: St) C S) (hd : decode bytes pc = .ok (.laload, 1)) (F : Ars Z h a .long N f) {i : Nat} (hj : j.toInt = i) (hi : i < N) {v : Value} (hv : f i = v) (hp : pc + 1 = pc') : W l Z n0 y bytes maxl ret R G h pc' Ls (v :: St) C S := by
  subst hp
  obtain ⟨cl, Ar, hs, hN, hf⟩ := F
  obtain ⟨q1, q2⟩ := inb hs hj hi
  exact A.step fun X hx hZ hown q eT r => X.laload hx (by rw [eT]; exact Ar.1) (State.isArrayOf_alike hZ.alike Ar.2.1) Ar.2.2 q1 (by rw [q2, (hf i hi).1, hv]) (g := mkF _ _ _ _) rfl rfl (hb q hd) _ r
theorem W.baload {j : Int32} (A : W l Z n0 y bytes maxl ret R G h pc Ls (.int j :: .ref a :: St) C S) (hd : decode bytes pc = .ok (.baload, 1)) (F : Ars Z h a .byte N f) {i : Nat} (hj : j.toInt = i) (hi : i < N) {v : Value} (hv : f i = v) (hp : pc + 1 = pc') : W l Z n0 y bytes maxl ret R G h pc' Ls (v :: St) C S := by
  subst hp
  obtain ⟨cl, Ar, hs, hN, hf⟩ := F
  obtain ⟨q1, q2⟩ := inb hs hj hi
  exact A.step fun X hx hZ hown q eT r => X.baloadBytes hx (by rw [eT]; exact Ar.1) (State.isArrayOf_alike hZ.alike Ar.2.1) Ar.2.2 q1 (by rw [q2, (hf i hi).1, hv]) (g := mkF _ _ _ _) rfl rfl (hb q hd) _ r
theorem W.caload {j : Int32} (A : W l Z n0 y bytes maxl ret R G h pc Ls (.int j :: .ref a :: St) C S) (hd : decode bytes pc = .ok (.caload, 1)) (F : Ars Z h a .char N f) {i : Nat} (hj : j.toInt = i) (hi : i < N) {v : Value} (hv : f i = v) (hp : pc + 1 = pc') : W l Z n0 y bytes maxl ret R G h pc' Ls (v :: St) C S := by
  subst hp
  obtain ⟨cl, Ar, hs, hN, hf⟩ := F
  obtain ⟨q1, q2⟩ := inb hs hj hi
  exact A.step fun X hx hZ hown q eT r => X.caload hx (by rw [eT]; exact Ar.1) (State.isArrayOf_alike hZ.alike Ar.2.1) Ar.2.2 q1 (by rw [q2, (hf i hi).1, hv]) (g := mkF _ _ _ _) rfl rfl (hb q hd) _ r
theorem W.iastore {j x : Int32} (A : W l Z n0 y bytes maxl ret R G h pc Ls (.int x :: .int j :: .ref a :: St) C S) (hd : decode bytes pc = .ok (.iastore, 1)) (F : Ars Z h a .int N f) {i : Nat} (hj : j.toInt = i) (hi : i < N) (ga : n0 ≤ a) (hp : pc + 1 = pc') : ∃ h', Wr h h' a i (.int x) ∧ Ars Z h' a .int N (upd f i (.int x)) ∧ W l Z n0 y bytes maxl ret R G h' pc' Ls St C S := by
  subst hp
  have F0 := F
  obtain ⟨cl, Ar, hs, hN, hf⟩ := F
  obtain ⟨q1, q2⟩ := inb hs hj hi
  obtain ⟨p, e, s, m, args, below, meth, c, st⟩ := G
  obtain ⟨hx, hZ, hby, hml, hown, hnm, hrt, hlk, hn0, T, locs, X, Nf, eT, k⟩ := A
  have hfit : fits .int (.int x) = true := rfl
  obtain ⟨T', h', X', e', W', st'⟩ := stI X hx hZ eT Ar q1 (g := mkF m pc Ls _) rfl rfl (hb hby hd)
  rw [q2] at W'
  exact ⟨h', W', F0.same W' hi hfit, W.mk hx hZ hby hml hown hnm hrt hlk hn0 X' (Fr.snoc X' Nf ga) e' (fun t q => k t (st' t q))⟩
theorem W.lastore {j : Int32} {x : Int64} (A : W l Z n0 y bytes maxl ret R G h pc Ls (.long x :: .int j :: .ref a :: St) C S) (hd : decode bytes pc = .ok (.lastore, 1)) (F : Ars Z h a .long N f) {i : Nat} (hj : j.toInt = i) (hi : i < N) (ga : n0 ≤ a) (hp : pc + 1 = pc') : ∃ h', Wr h h' a i (.long x) ∧ Ars Z h' a .long N (upd f i (.long x)) ∧ W l Z n0 y bytes maxl ret R G h' pc' Ls St C S := by
  subst hp
  have F0 := F
  obtain ⟨cl, Ar, hs, hN, hf⟩ := F
  obtain ⟨q1, q2⟩ := inb hs hj hi
  obtain ⟨p, e, s, m, args, below, meth, c, st⟩ := G
  obtain ⟨hx, hZ, hby, hml, hown, hnm, hrt, hlk, hn0, T, locs, X, Nf, eT, k⟩ := A
  have hfit : fits .long (.long x) = true := rfl
  obtain ⟨T', h', X', e', W', st'⟩ := stJ X hx hZ eT Ar q1 (g := mkF m pc Ls _) rfl rfl (hb hby hd)
  rw [q2] at W'
  exact ⟨h', W', F0.same W' hi hfit, W.mk hx hZ hby hml hown hnm hrt hlk hn0 X' (Fr.snoc X' Nf ga) e' (fun t q => k t (st' t q))⟩
theorem W.bastore {j x : Int32} (A : W l Z n0 y bytes maxl ret R G h pc Ls (.int x :: .int j :: .ref a :: St) C S) (hd : decode bytes pc = .ok (.bastore, 1)) (F : Ars Z h a .byte N f) {i : Nat} (hj : j.toInt = i) (hi : i < N) (ga : n0 ≤ a) (hp : pc + 1 = pc') : ∃ h', Wr h h' a i (.int x.toInt8.toInt32) ∧ Ars Z h' a .byte N (upd f i (.int x.toInt8.toInt32)) ∧ W l Z n0 y bytes maxl ret R G h' pc' Ls St C S := by
  subst hp
  have F0 := F
  obtain ⟨cl, Ar, hs, hN, hf⟩ := F
  obtain ⟨q1, q2⟩ := inb hs hj hi
  obtain ⟨p, e, s, m, args, below, meth, c, st⟩ := G
  obtain ⟨hx, hZ, hby, hml, hown, hnm, hrt, hlk, hn0, T, locs, X, Nf, eT, k⟩ := A
  have hfit : fits .byte (.int x.toInt8.toInt32) = true := fits_nar_byte x
  obtain ⟨T', h', X', e', W', st'⟩ := stB X hx hZ eT Ar q1 (g := mkF m pc Ls _) rfl rfl (hb hby hd)
  rw [q2] at W'
  exact ⟨h', W', F0.same W' hi hfit, W.mk hx hZ hby hml hown hnm hrt hlk hn0 X' (Fr.snoc X' Nf ga) e' (fun t q => k t (st' t q))⟩
theorem W.castore {j x : Int32} (A : W l Z n0 y bytes maxl ret R G h pc Ls (.int x :: .int j :: .ref a :: St) C S) (hd : decode bytes pc = .ok (.castore, 1)) (F : Ars Z h a .char N f) {i : Nat} (hj : j.toInt = i) (hi : i < N) (ga : n0 ≤ a) (hp : pc + 1 = pc') : ∃ h', Wr h h' a i (.int (nar .char x)) ∧ Ars Z h' a .char N (upd f i (.int (nar .char x))) ∧ W l Z n0 y bytes maxl ret R G h' pc' Ls St C S := by
  subst hp
  have F0 := F
  obtain ⟨cl, Ar, hs, hN, hf⟩ := F
  obtain ⟨q1, q2⟩ := inb hs hj hi
  obtain ⟨p, e, s, m, args, below, meth, c, st⟩ := G
  obtain ⟨hx, hZ, hby, hml, hown, hnm, hrt, hlk, hn0, T, locs, X, Nf, eT, k⟩ := A
  have hfit : fits .char (.int (nar .char x)) = true := fits_nar_char x
  obtain ⟨T', h', X', e', W', st'⟩ := stC X hx hZ eT Ar q1 (g := mkF m pc Ls _) rfl rfl (hb hby hd)
  rw [q2] at W'
  exact ⟨h', W', F0.same W' hi hfit, W.mk hx hZ hby hml hown hnm hrt hlk hn0 X' (Fr.snoc X' Nf ga) e' (fun t q => k t (st' t q))⟩
theorem W.clone (A : W l Z n0 y bytes maxl ret R G h pc Ls (.ref a :: St) C S) {index cap : Nat} {ad : String} (hd : decode bytes pc = .ok (.invokevirtual index, 3)) (w1 : (Jvm.Cond.methodLink y.cls index ⟨ad, "clone", "()Ljava/lang/Object;"⟩).before a0 Z = true) (w2 : (Jvm.Cond.sameMethod ad "java/lang/Object" "clone" "()Ljava/lang/Object;").before a0 Z = true) (w3 : (Jvm.Cond.native ⟨"java/lang/Object", "clone", "()Ljava/lang/Object;"⟩).before a0 Z = true)
    (w4 : (Jvm.Cond.instanceMethod ⟨"java/lang/Object", "clone", "()Ljava/lang/Object;"⟩).before a0 Z = true) (w5 : (Jvm.Cond.selects ad ⟨ad, "clone", "()Ljava/lang/Object;"⟩ ⟨"java/lang/Object", "clone", "()Ljava/lang/Object;"⟩).before a0 Z = true) (w6 : (Jvm.Cond.castable ad "java/lang/Cloneable").before a0 Z = true) (F : Ars Z h a ty N f) (E : Exa Z h a ad) (hcap : N ≤ cap) (hsz : Ls.size = maxl) (hf : 1 ≤ R.frames) (hlo : (St.map fun v => v.category).sum + 14 ≤ R.locals) (hC : C + 1 ≤ R.cells) (hS : S + cap ≤ R.slots) (hC' : C + 1 = C') (hS' : S + cap = S') (hp : pc + 3 = pc') :
    ∃ h' b, b = h.size ∧ n0 ≤ b ∧ Ext h h' ∧ Ars Z h' b ty N f ∧ Exa Z h' b ad ∧ W l Z n0 y bytes maxl ret R G h' pc' Ls (.ref b :: St) C' S' := by
  subst hp hC' hS'
  have hs0 := A.size
  obtain ⟨cl, Ar, hs, hN, hv⟩ := F
  have FC : FitC Z cl := fitC_of Ar fun i hi v q => by rw [hs] at hi; rw [(hv i hi).1] at q; cases q; exact (hv i hi).2
  obtain ⟨p, e, s, m, args, below, meth, c, st⟩ := G
  obtain ⟨hx, hZ, hby, hml, hown, hnm, hrt, hlk, hn0, T, locs, X, Nf, eT, k⟩ := A
  obtain ⟨T', h', X', e', E', A', Ex', st'⟩ := cloneA X hx hZ hown w1 w2 w3 w4 w5 w6 eT Ar E FC (g := mkF m pc Ls (.ref a :: St)) rfl (by rw [hml]; exact hsz) rfl (hb hby hd) hf (W := (St.map fun v => v.category).sum) (by show 2 * 0 + _ ≤ _; omega) hlo (by rw [hs]; exact hcap) hC hS
  exact ⟨h', h.size, rfl, hs0, E', ⟨_, A', hs, hN, hv⟩, Ex', W.mk hx hZ hby hml hown hnm hrt hlk hn0 X' Nf e' (fun t q => k t (st' t q))⟩
/-! System.arraycopy -/
def cpy (f : Nat → Value) (i : Nat) (g : Nat → Value) (j k : Nat) : Nat → Value := fun x => if j ≤ x ∧ x < j + k then f (i + (x - j)) else g x
theorem Ars.toArv (F : Ars Z h a ty N f) : ∃ k, Arv Z h a k ty (Int32.ofNat N) ((List.range N).map f) (.int 0) := by
  obtain ⟨c, A, hs, hN, hv⟩ := F
  have e : (Int32.ofNat N).toInt = N := Int32.toInt_ofNat_of_lt hN
  have e0 : (0 : Int32).toInt = 0 := rfl
  have q : (Int32.ofNat N).toNatClampNeg = N := by simp only [Int32.toNatClampNeg]; omega
  have hd : ∀ i, i < N → ((List.range N).map f).getD i (.int 0) = f i := fun i hi => by simp [List.getD_eq_getElem?_getD, hi]
  refine ⟨c.cls, c, A, rfl, by rw [q]; exact hs, by rw [Int32.lt_iff_toInt_lt]; omega, fun i hi => ?_, fun i hi => ?_⟩
  · rw [hs] at hi; rw [hd i hi]; exact (hv i hi).1
  · rw [hs] at hi; rw [hd i hi]; exact (hv i hi).2
theorem W.acopy {b : Addr} {sp dp nn : Int32} (A : W l Z n0 y bytes maxl ret R G h pc Ls (.int nn :: .int dp :: .ref b :: .int sp :: .ref a :: St) C S) {idx i j k N' : Nat} {g : Nat → Value} (hd : decode bytes pc = .ok (.invokestatic idx, 3)) (w1 : (Jvm.Cond.methodLink y.cls idx Jvm.Stand.acN).before a0 Z = true) (w2 : (Jvm.Cond.native Jvm.Stand.acN).before a0 Z = true) (w3 : (Jvm.Cond.static Jvm.Stand.acN).before a0 Z = true) (w4 : (Jvm.Cond.initialized "java/lang/System").before a0 Z = true)
    (F : Ars Z h a ty N f) (D : Ars Z h b ty N' g) (hty : refKind ty = false) (hsp : sp.toInt = i) (hdp : dp.toInt = j) (hnn : nn.toInt = k) (h4 : i + k ≤ N) (h5 : j + k ≤ N') (gb : n0 ≤ b) (hsz : Ls.size = maxl) (hf : 1 ≤ R.frames) (hlo : (St.map fun v => v.category).sum + (nativeFrameWords "java/lang/System" "arraycopy" 5 + 11) ≤ R.locals) (hp : pc + 3 = pc') :
    ∃ h', Keep h h' [b] ∧ Ars Z h' b ty N' (cpy f i g j k) ∧ W l Z n0 y bytes maxl ret R G h' pc' Ls St C S := by
  subst hp
  have FN := F.size
  have DN := D.size
  obtain ⟨kF, VF⟩ := F.toArv
  obtain ⟨kD, VD⟩ := D.toArv
  have e0 : (0 : Int32).toInt = 0 := rfl
  have c1 : sp.toNatClampNeg = i := by simp only [Int32.toNatClampNeg]; omega
  have c2 : dp.toNatClampNeg = j := by simp only [Int32.toNatClampNeg]; omega
  have c3 : nn.toNatClampNeg = k := by simp only [Int32.toNatClampNeg]; omega
  have eN : (Int32.ofNat N).toNatClampNeg = N := by have := Int32.toInt_ofNat_of_lt FN; simp only [Int32.toNatClampNeg]; omega
  have eN' : (Int32.ofNat N').toNatClampNeg = N' := by have := Int32.toInt_ofNat_of_lt DN; simp only [Int32.toNatClampNeg]; omega
  have p1 : ¬ sp < 0 := by rw [Int32.lt_iff_toInt_lt]; omega
  have p2 : ¬ dp < 0 := by rw [Int32.lt_iff_toInt_lt]; omega
  have p3 : ¬ nn < 0 := by rw [Int32.lt_iff_toInt_lt]; omega
  obtain ⟨p, e, s, m, args, below, meth, c, st⟩ := G
  obtain ⟨hx, hZ, hby, hml, hown, hnm, hrt, hlk, hn0, T, locs, X, Nf, eT, kk⟩ := A
  obtain ⟨T', h', L', X', e', N2, K2, V2, st'⟩ := cpA X hx hZ hown w1 w2 w3 w4 eT VF VD (Or.inl ⟨rfl, hty⟩) (sp := sp) (dp := dp) (nn := nn) p1 p2 p3 (by rw [c1, c3, eN]; exact h4) (by rw [c2, c3, eN']; exact h5) rfl (by rw [c2, c3]; simpa using h5) Nf gb (g := mkF m pc Ls (.int nn :: .int dp :: .ref b :: .int sp :: .ref a :: St)) rfl (by rw [hml]; exact hsz) rfl (hb hby hd) hf (W := (St.map fun v => v.category).sum) (by show 2 * 0 + _ ≤ _; omega) hlo
  refine ⟨h', K2, ?_, W.mk hx hZ hby hml hown hnm hrt hlk hn0 X' N2 e' (fun t q => kk t (st' t q))⟩
  obtain ⟨cd, Ad, -, Sd, -, Hd, Gd⟩ := V2
  rw [eN'] at Sd
  rw [c1, c2, c3] at Hd Gd
  have key : ∀ x, x < N' → (List.take j ((List.range N').map g) ++ (List.map (fun i_1 => ((List.range N).map f).getD (i + i_1) (.int 0)) (List.range k)) ++ List.drop (j + k) ((List.range N').map g)).getD x (.int 0) = cpy f i g j k x := fun x hx' => by
    simp only [List.getD_eq_getElem?_getD, cpy]
    by_cases q1 : x < j
    · rw [List.getElem?_append_left (by simp; omega), List.getElem?_append_left (by simp; omega), if_neg (by omega)]
      simp [List.getElem?_take, q1, hx']
    · by_cases q2 : x < j + k
      · rw [List.getElem?_append_left (by simp; omega), List.getElem?_append_right (by simp; omega), if_pos (by omega)]
        have l1 : (List.take j ((List.range N').map g)).length = j := by simp; omega
        rw [l1]
        have q3 : x - j < k := by omega
        have q4 : i + (x - j) < N := by omega
        simp [List.getElem?_map, List.getElem?_range, q3, q4]
      · rw [List.getElem?_append_right (by simp; omega), if_neg (by omega)]
        have l1 : (List.take j ((List.range N').map g) ++ (List.map (fun i_1 => (((List.range N).map f)[i + i_1]?).getD (.int 0)) (List.range k))).length = j + k := by simp; omega
        rw [l1, List.getElem?_drop]
        have q3 : j + k + (x - (j + k)) = x := by omega
        rw [q3]; simp [hx']
  refine ⟨cd, Ad, Sd, DN, fun x hx' => ?_⟩
  have a1 := Hd x (by omega)
  have a2 := Gd x (by omega)
  rw [key x hx'] at a1 a2
  exact ⟨a1, a2⟩
end Heaps
end Jvm.Pilot.@@N@@
namespace Jvm.Pilot.@@N@@
open Jvm Jvm.ClassFile Sem Op Lib Jvm.Free Jvm.Stand Jvm.LawKit Jvm.RoadKit Bundle Jvm.Pilot.@@N@@.Jvm.D
/-! V: as W, where String constants may have been loaded since the start (its tables re-based) -/
def V (l : Launch) (Z : State) (n0 : Nat) (y : MethodName) (bytes : ByteArray) (maxl : Nat) (ret : Option FieldType) (R : Room) (G : Cx) (h : Heap) (pc : Nat) (Ls : Array Slot) (St : List Value) (cells slots : Nat) : Prop :=
  match G with
  | (p, e, s, m, args, below, meth, c, st) =>
    p.tables.exec = Jvm.exec ∧ c.code = bytes ∧ c.maxLocals = maxl ∧ meth.name = y.name ∧ meth.sig.returnType = ret ∧ meth.locks = false ∧ n0 ≤ s.heap.size ∧
    ∃ (vm0 : Vm) (k0 : Nat), s.Since vm0 k0 ∧ k0 ≤ h.size ∧ Z.Warmed39 (s.setVm vm0).vm ∧ (s.setVm vm0).vm.findClass y.cls = some m.cls ∧
    ∃ (T : State) (locs : List Loc), Stand p l e R (s.setVm vm0) m args below meth c T locs cells slots ∧ Fr n0 locs ∧ T.heap = h ∧ ∀ t, Steps p.tables e below (T.setTop (mkF m pc Ls St)) t → Steps p.tables e below st t
def GlV (R : Room) (n0 : Nat) (G : Cx) (Q : Option Value → Heap → Prop) : Prop :=
  match G with
  | (p, e, s, m, args, below, meth, c, st) => ∃ s₂ o, Steps p.tables e below st s₂ ∧ s₂.status = .running ∧ Ended s₂ below o ∧ ∃ v L, o = .returned v ∧ (Fr n0 L ∧ Q v s₂.heap) ∧ ReturnedEndW s o s₂ L R.cells R.slots
def CtrV (l : Launch) (Z : State) (n0 : Nat) (y : MethodName) (bytes : ByteArray) (maxl : Nat) (ret : Option FieldType) (ws : List Jvm.Cond) (R : Room) (as : Array Value) (h0 : Heap) (Q : Option Value → Heap → Prop) : Prop :=
  MetFree l y (head1 (Jvm.Cond.code y bytes maxl ret :: ws) R) (fun a U => a = as ∧ Z.Warmed39 U.vm ∧ U.heap = h0) (fun _ _ _ _ _ => True) (fun _ U o U' => ∃ v L, o = .returned v ∧ (Fr n0 L ∧ Q v U'.heap) ∧ ReturnedEndW U o U' L R.cells R.slots)
section WalkV
variable {l : Launch} {Z : State} {n0 : Nat} {y : MethodName} {bytes : ByteArray} {maxl : Nat} {ret : Option FieldType} {R : Room} {G : Cx} {h h' : Heap} {pc pc' : Nat} {Ls : Array Slot} {St : List Value} {C S C' S' : Nat} {Q : Option Value → Heap → Prop} {a0 : Array Value} {a b : Addr} {ty : FieldType} {N : Nat} {f : Nat → Value} {ws : List Addr} {sl : Nat} {v : Value}
theorem Ctr.wide {wc : List Jvm.Cond} {as : Array Value} (hM : Ctr l Z n0 y bytes maxl ret wc R as h Q) : CtrV l Z n0 y bytes maxl ret wc R as h Q := fun p e ha hc hk s m args below hf happ hP hK => by
  obtain ⟨n, o, h1, h2, h3, v, L, ho, hq, hF⟩ := hM p e ha hc hk s m args below hf happ hP hK
  exact ⟨n, o, h1, h2, h3, v, L, ho, hq, ReturnedEndW.of_narrow hF.1 hF.2.1 hF.2.2⟩
theorem V.mk {p : Program} {e : Env} {s : State} {m : MethodId} {args : Array Value} {below : List Frame} {meth : Method} {c : Code} {st : State} {T : State} {locs : List Loc} {vm0 : Vm} {k0 : Nat} (hx : p.tables.exec = Jvm.exec) (hZ : Z.Warmed39 (s.setVm vm0).vm) (hby : c.code = bytes) (hml : c.maxLocals = maxl) (hown : (s.setVm vm0).vm.findClass y.cls = some m.cls) (hnm : meth.name = y.name) (hrt : meth.sig.returnType = ret) (hlk : meth.locks = false) (hn0 : n0 ≤ s.heap.size) (hS : s.Since vm0 k0) (hk : k0 ≤ h.size)
    (X : Stand p l e R (s.setVm vm0) m args below meth c T locs C S) (N : Fr n0 locs) (eT : T.heap = h) (k : ∀ t, Steps p.tables e below (T.setTop (mkF m pc Ls St)) t → Steps p.tables e below st t) : V l Z n0 y bytes maxl ret R (p, e, s, m, args, below, meth, c, st) h pc Ls St C S :=
  show _ ∧ _ from ⟨hx, hby, hml, hnm, hrt, hlk, hn0, vm0, k0, hS, hk, hZ, hown, T, locs, X, N, eT, k⟩
theorem ctrV_of {wc : List Jvm.Cond} {as : Array Value} (hpn : plainFor y = true) (hn0 : n0 ≤ h.size) (hef : ∀ m, entryFrame m as maxl = mkF m 0 Ls []) (body : ∀ G, V l Z n0 y bytes maxl ret R G h 0 Ls [] 0 0 → GlV R n0 G Q) : CtrV l Z n0 y bytes maxl ret wc R as h Q := by
  refine MetFree.of_bodySF hpn hisR ?_
  intro p e s m args below meth c s₁ Bd hml0 hP hK
  obtain ⟨rfl, hZ, hh⟩ := hP
  have e0 : s₁.heap = h := by rw [← hh, Bd.state]; rfl
  have X0 : Stand p l e R (s.setVm s.vm) m args below meth c s₁ [] 0 0 := Stand.of_body Bd
  have hS : s.Since s.vm 0 := ⟨State.Warmed39.refl s, fun j q hj hp => by rw [Array.getElem?_eq_none hj] at hp; cases hp⟩
  exact body (p, e, s, m, args, below, meth, c, s₁.setTop (entryFrame m args maxl)) (V.mk Bd.exec hZ Bd.bytes hml0 (findClass_of_methodNamed Bd.named) (name_of_methodNamed Bd.named Bd.method).1 Bd.returns (BodyLoose.notSynchronized Bd) (hh ▸ hn0) hS (Nat.zero_le _) X0 (Fr.nil n0) e0 (fun t k => castTop (hef m) k))
theorem V.size (A : V l Z n0 y bytes maxl ret R G h pc Ls St C S) : n0 ≤ h.size := by
  obtain ⟨p, e, s, m, args, below, meth, c, st⟩ := G
  obtain ⟨hx, hby, hml, hnm, hrt, hlk, hn0, vm0, k0, hS, hk, hZ, hown, T, locs, X, N, eT, k⟩ := A
  exact Nat.le_trans hn0 (by rw [← eT]; exact X.same.2.1)
theorem V.more (A : V l Z n0 y bytes maxl ret R G h pc Ls St C S) (hC : C ≤ C') (hSl : S ≤ S') : V l Z n0 y bytes maxl ret R G h pc Ls St C' S' := by
  obtain ⟨p, e, s, m, args, below, meth, c, st⟩ := G
  obtain ⟨hx, hby, hml, hnm, hrt, hlk, hn0, vm0, k0, hS, hk, hZ, hown, T, locs, X, N, eT, k⟩ := A
  exact V.mk hx hZ hby hml hown hnm hrt hlk hn0 hS hk (X.more hC hSl) N eT k
theorem V.cast {Ls' : Array Slot} {St' : List Value} (A : V l Z n0 y bytes maxl ret R G h pc Ls St C S) (hp : pc = pc') (hL : Ls = Ls') (hSt : St = St') : V l Z n0 y bytes maxl ret R G h pc' Ls' St' C S := by subst hp hL hSt; exact A
theorem V.topI {x z : Int32} (A : V l Z n0 y bytes maxl ret R G h pc Ls (.int x :: St) C S) (q : x = z) : V l Z n0 y bytes maxl ret R G h pc Ls (.int z :: St) C S := q ▸ A
theorem V.topJ {x z : Int64} (A : V l Z n0 y bytes maxl ret R G h pc Ls (.long x :: St) C S) (q : x = z) : V l Z n0 y bytes maxl ret R G h pc Ls (.long z :: St) C S := q ▸ A
theorem V.step (A : V l Z n0 y bytes maxl ret R G h pc Ls St C S) {Ls' : Array Slot} {St' : List Value}
    (f : ∀ {p : Program} {e : Env} {s : State} {m : MethodId} {args : Array Value} {below : List Frame} {meth : Method} {c : Code} {T t : State} {locs : List Loc}, Stand p l e R s m args below meth c T locs C S → p.tables.exec = Jvm.exec → Z.Warmed39 s.vm → s.vm.findClass y.cls = some m.cls → c.code = bytes → T.heap = h → Steps p.tables e below (T.setTop (mkF m pc' Ls' St')) t → Steps p.tables e below (T.setTop (mkF m pc Ls St)) t) : V l Z n0 y bytes maxl ret R G h pc' Ls' St' C S := by
  obtain ⟨p, e, s, m, args, below, meth, c, st⟩ := G
  obtain ⟨hx, hby, hml, hnm, hrt, hlk, hn0, vm0, k0, hS, hk, hZ, hown, T, locs, X, N, eT, k⟩ := A
  exact V.mk hx hZ hby hml hown hnm hrt hlk hn0 hS hk X N eT (fun t q => k t (f X hx hZ hown hby eT q))
theorem V.stepT (A : V l Z n0 y bytes maxl ret R G h pc Ls St C S) {Ls' : Array Slot} {St' : List Value}
    (f : ∀ {p : Program} {e : Env} {s : State} {m : MethodId} {args : Array Value} {below : List Frame} {meth : Method} {c : Code} {T : State} {locs : List Loc}, Stand p l e R s m args below meth c T locs C S → p.tables.exec = Jvm.exec → Z.Warmed39 s.vm → s.vm.findClass y.cls = some m.cls → c.code = bytes → c.maxLocals = maxl → T.heap = h →
      ∃ T', Stand p l e R s m args below meth c T' locs C S ∧ T'.heap = h ∧ ∀ t, Steps p.tables e below (T'.setTop (mkF m pc' Ls' St')) t → Steps p.tables e below (T.setTop (mkF m pc Ls St)) t) : V l Z n0 y bytes maxl ret R G h pc' Ls' St' C S := by
  obtain ⟨p, e, s, m, args, below, meth, c, st⟩ := G
  obtain ⟨hx, hby, hml, hnm, hrt, hlk, hn0, vm0, k0, hS, hk, hZ, hown, T, locs, X, N, eT, k⟩ := A
  obtain ⟨T', X', e', st'⟩ := f X hx hZ hown hby hml eT
  exact V.mk hx hZ hby hml hown hnm hrt hlk hn0 hS hk X' N e' (fun t q => k t (st' t q))
theorem V.iloadN (A : V l Z n0 y bytes maxl ret R G h pc Ls St C S) {k : Fin 4} {v : Int32} (hd : decode bytes pc = .ok (.iload_n k, 1)) (hl : Ls[k.val]? = some (.val (.int v))) (hp : pc + 1 = pc') : V l Z n0 y bytes maxl ret R G h pc' Ls (.int v :: St) C S := by
  subst hp; exact A.step fun X hx _ _ q _ r => XS.iloadN X.here hx rfl (hb q hd) hl r
theorem V.iload (A : V l Z n0 y bytes maxl ret R G h pc Ls St C S) {k : Nat} {v : Int32} (hd : decode bytes pc = .ok (.iload k, 2)) (hl : Ls[k]? = some (.val (.int v))) (hp : pc + 2 = pc') : V l Z n0 y bytes maxl ret R G h pc' Ls (.int v :: St) C S := by
  subst hp; exact A.step fun X hx _ _ q _ r => XS.iload X.here hx rfl (hb q hd) hl r
theorem V.lloadN (A : V l Z n0 y bytes maxl ret R G h pc Ls St C S) {k : Fin 4} {v : Int64} (hd : decode bytes pc = .ok (.lload_n k, 1)) (hl : Ls[k.val]? = some (.val (.long v))) (hp : pc + 1 = pc') : V l Z n0 y bytes maxl ret R G h pc' Ls (.long v :: St) C S := by
  subst hp; exact A.step fun X hx _ _ q _ r => XS.lloadN X.here hx rfl (hb q hd) hl r
theorem V.lload (A : V l Z n0 y bytes maxl ret R G h pc Ls St C S) {k : Nat} {v : Int64} (hd : decode bytes pc = .ok (.lload k, 2)) (hl : Ls[k]? = some (.val (.long v))) (hp : pc + 2 = pc') : V l Z n0 y bytes maxl ret R G h pc' Ls (.long v :: St) C S := by
  subst hp; exact A.step fun X hx _ _ q _ r => XS.lload X.here hx rfl (hb q hd) hl r
theorem V.aloadN (A : V l Z n0 y bytes maxl ret R G h pc Ls St C S) {k : Fin 4} {v : Value} (hd : decode bytes pc = .ok (.aload_n k, 1)) (hl : Ls[k.val]? = some (.val v)) (hv : v.isRef = true) (hp : pc + 1 = pc') : V l Z n0 y bytes maxl ret R G h pc' Ls (v :: St) C S := by
  subst hp; exact A.step fun X hx _ _ q _ r => XS.aloadN X.here hx rfl (hb q hd) hl hv r
theorem V.aload (A : V l Z n0 y bytes maxl ret R G h pc Ls St C S) {k : Nat} {v : Value} (hd : decode bytes pc = .ok (.aload k, 2)) (hl : Ls[k]? = some (.val v)) (hv : v.isRef = true) (hp : pc + 2 = pc') : V l Z n0 y bytes maxl ret R G h pc' Ls (v :: St) C S := by
  subst hp; exact A.step fun X hx _ _ q _ r => XS.aload X.here hx rfl (hb q hd) hl hv r
theorem V.istoreN {v : Int32} (A : V l Z n0 y bytes maxl ret R G h pc Ls (.int v :: St) C S) {k : Fin 4} {Ls' : Array Slot} (hd : decode bytes pc = .ok (.istore_n k, 1)) (hl : storeLocals Ls k.val (.int v) = some Ls') (hp : pc + 1 = pc') : V l Z n0 y bytes maxl ret R G h pc' Ls' St C S := by
  subst hp; exact A.step fun X hx _ _ q _ r => XS.istoreN X.here hx rfl (hb q hd) rfl hl r
theorem V.istore {v : Int32} (A : V l Z n0 y bytes maxl ret R G h pc Ls (.int v :: St) C S) {k : Nat} {Ls' : Array Slot} (hd : decode bytes pc = .ok (.istore k, 2)) (hl : storeLocals Ls k (.int v) = some Ls') (hp : pc + 2 = pc') : V l Z n0 y bytes maxl ret R G h pc' Ls' St C S := by
  subst hp; exact A.step fun X hx _ _ q _ r => XS.istore X.here hx rfl (hb q hd) rfl hl r
theorem V.lstoreN {v : Int64} (A : V l Z n0 y bytes maxl ret R G h pc Ls (.long v :: St) C S) {k : Fin 4} {Ls' : Array Slot} (hd : decode bytes pc = .ok (.lstore_n k, 1)) (hl : storeLocals Ls k.val (.long v) = some Ls') (hp : pc + 1 = pc') : V l Z n0 y bytes maxl ret R G h pc' Ls' St C S := by
  subst hp; exact A.step fun X hx _ _ q _ r => XS.lstoreN X.here hx rfl (hb q hd) rfl hl r
theorem V.lstore {v : Int64} (A : V l Z n0 y bytes maxl ret R G h pc Ls (.long v :: St) C S) {k : Nat} {Ls' : Array Slot} (hd : decode bytes pc = .ok (.lstore k, 2)) (hl : storeLocals Ls k (.long v) = some Ls') (hp : pc + 2 = pc') : V l Z n0 y bytes maxl ret R G h pc' Ls' St C S := by
  subst hp; exact A.step fun X hx _ _ q _ r => XS.lstore X.here hx rfl (hb q hd) rfl hl r
theorem V.astoreN {v : Value} (A : V l Z n0 y bytes maxl ret R G h pc Ls (v :: St) C S) {k : Fin 4} {Ls' : Array Slot} (hd : decode bytes pc = .ok (.astore_n k, 1)) (hv : v.isRef = true) (hl : storeLocals Ls k.val v = some Ls') (hp : pc + 1 = pc') : V l Z n0 y bytes maxl ret R G h pc' Ls' St C S := by
  subst hp; exact A.step fun X hx _ _ q _ r => XS.astoreN X.here hx rfl (hb q hd) rfl hv hl r
theorem V.astore {v : Value} (A : V l Z n0 y bytes maxl ret R G h pc Ls (v :: St) C S) {k : Nat} {Ls' : Array Slot} (hd : decode bytes pc = .ok (.astore k, 2)) (hv : v.isRef = true) (hl : storeLocals Ls k v = some Ls') (hp : pc + 2 = pc') : V l Z n0 y bytes maxl ret R G h pc' Ls' St C S := by
  subst hp; exact A.step fun X hx _ _ q _ r => XS.astore X.here hx rfl (hb q hd) rfl hv hl r
theorem V.iconst (A : V l Z n0 y bytes maxl ret R G h pc Ls St C S) {i : Int} {z : Int32} (hd : decode bytes pc = .ok (.iconst i, 1)) (hz : Int32.ofInt i = z) (hp : pc + 1 = pc') : V l Z n0 y bytes maxl ret R G h pc' Ls (.int z :: St) C S := by
  subst hp hz; exact A.step fun X hx _ _ q _ r => XS.iconst X.here hx rfl (hb q hd) r
theorem V.bipush (A : V l Z n0 y bytes maxl ret R G h pc Ls St C S) {i : Int} {z : Int32} (hd : decode bytes pc = .ok (.bipush i, 2)) (hz : (Int8.ofInt i).toInt32 = z) (hp : pc + 2 = pc') : V l Z n0 y bytes maxl ret R G h pc' Ls (.int z :: St) C S := by
  subst hp hz; exact A.step fun X hx _ _ q _ r => XS.bipush X.here hx rfl (hb q hd) r
theorem V.sipush (A : V l Z n0 y bytes maxl ret R G h pc Ls St C S) {i : Int} {z : Int32} (hd : decode bytes pc = .ok (.sipush i, 3)) (hz : (Int16.ofInt i).toInt32 = z) (hp : pc + 3 = pc') : V l Z n0 y bytes maxl ret R G h pc' Ls (.int z :: St) C S := by
  subst hp hz; exact A.step fun X hx _ _ q _ r => XS.sipush X.here hx rfl (hb q hd) r
theorem V.lconst (A : V l Z n0 y bytes maxl ret R G h pc Ls St C S) {k : Fin 2} {z : Int64} (hd : decode bytes pc = .ok (.lconst k, 1)) (hz : Int64.ofNat k.val = z) (hp : pc + 1 = pc') : V l Z n0 y bytes maxl ret R G h pc' Ls (.long z :: St) C S := by
  subst hp hz; exact A.step fun X hx _ _ q _ r => XS.lconst X.here hx rfl (hb q hd) r
theorem V.aconstNull (A : V l Z n0 y bytes maxl ret R G h pc Ls St C S) (hd : decode bytes pc = .ok (.aconst_null, 1)) (hp : pc + 1 = pc') : V l Z n0 y bytes maxl ret R G h pc' Ls (.null :: St) C S := by
  subst hp; exact A.step fun X hx _ _ q _ r => XS.aconstNull X.here hx rfl (hb q hd) r
theorem V.ldc (A : V l Z n0 y bytes maxl ret R G h pc Ls St C S) {i : Nat} {z : Int32} (hd : decode bytes pc = .ok (.ldc i, 2)) (w : (Jvm.Cond.constant y.cls i z).before a0 Z = true) (hp : pc + 2 = pc') : V l Z n0 y bytes maxl ret R G h pc' Ls (.int z :: St) C S := by
  subst hp; exact A.step fun X hx hZ hown q _ r => X.ldcInt hx hown (mvT hZ w) (g := mkF _ pc Ls St) rfl (hb q hd) _ r
theorem V.ldcW (A : V l Z n0 y bytes maxl ret R G h pc Ls St C S) {i : Nat} {z : Int32} (hd : decode bytes pc = .ok (.ldc_w i, 3)) (w : (Jvm.Cond.constant y.cls i z).before a0 Z = true) (hp : pc + 3 = pc') : V l Z n0 y bytes maxl ret R G h pc' Ls (.int z :: St) C S := by
  subst hp; exact A.step fun X hx hZ hown q _ r => X.ldcwInt hx hown (mvT hZ w) (g := mkF _ pc Ls St) rfl (hb q hd) _ r
theorem V.ldc2 (A : V l Z n0 y bytes maxl ret R G h pc Ls St C S) {i : Nat} {z : Int64} (hd : decode bytes pc = .ok (.ldc2_w i, 3)) (w : (Jvm.Cond.constantLong y.cls i z).before a0 Z = true) (hp : pc + 3 = pc') : V l Z n0 y bytes maxl ret R G h pc' Ls (.long z :: St) C S := by
  subst hp; exact A.step fun X hx hZ hown q _ r => X.ldc2Long hx hown (mvT hZ w) (g := mkF _ pc Ls St) rfl (hb q hd) _ r
theorem V.iinc (A : V l Z n0 y bytes maxl ret R G h pc Ls St C S) {k : Nat} {i : Int} {v z : Int32} {Ls' : Array Slot} (hd : decode bytes pc = .ok (.iinc k i, 3)) (hl : Ls[k]? = some (.val (.int v))) (hz : v + Int32.ofInt i = z) (hl' : storeLocals Ls k (.int z) = some Ls') (hp : pc + 3 = pc') : V l Z n0 y bytes maxl ret R G h pc' Ls' St C S := by
  subst hp hz; exact A.step fun X hx _ _ q _ r => XS.iinc X.here hx rfl (hb q hd) hl hl' r
theorem V.iadd {x z : Int32} (A : V l Z n0 y bytes maxl ret R G h pc Ls (.int z :: .int x :: St) C S) (hd : decode bytes pc = .ok (.iadd, 1)) (hp : pc + 1 = pc') : V l Z n0 y bytes maxl ret R G h pc' Ls (.int (x + z) :: St) C S := by
  subst hp; exact A.step fun X hx _ _ q _ r => XS.iadd X.here hx rfl (hb q hd) rfl r
theorem V.ladd {x z : Int64} (A : V l Z n0 y bytes maxl ret R G h pc Ls (.long z :: .long x :: St) C S) (hd : decode bytes pc = .ok (.ladd, 1)) (hp : pc + 1 = pc') : V l Z n0 y bytes maxl ret R G h pc' Ls (.long (x + z) :: St) C S := by
  subst hp; exact A.step fun X hx _ _ q _ r => XS.ladd X.here hx rfl (hb q hd) rfl r
theorem V.isub {x z : Int32} (A : V l Z n0 y bytes maxl ret R G h pc Ls (.int z :: .int x :: St) C S) (hd : decode bytes pc = .ok (.isub, 1)) (hp : pc + 1 = pc') : V l Z n0 y bytes maxl ret R G h pc' Ls (.int (x - z) :: St) C S := by
  subst hp; exact A.step fun X hx _ _ q _ r => XS.isub X.here hx rfl (hb q hd) rfl r
theorem V.lsub {x z : Int64} (A : V l Z n0 y bytes maxl ret R G h pc Ls (.long z :: .long x :: St) C S) (hd : decode bytes pc = .ok (.lsub, 1)) (hp : pc + 1 = pc') : V l Z n0 y bytes maxl ret R G h pc' Ls (.long (x - z) :: St) C S := by
  subst hp; exact A.step fun X hx _ _ q _ r => XS.lsub X.here hx rfl (hb q hd) rfl r
theorem V.imul {x z : Int32} (A : V l Z n0 y bytes maxl ret R G h pc Ls (.int z :: .int x :: St) C S) (hd : decode bytes pc = .ok (.imul, 1)) (hp : pc + 1 = pc') : V l Z n0 y bytes maxl ret R G h pc' Ls (.int (x * z) :: St) C S := by
  subst hp; exact A.step fun X hx _ _ q _ r => XS.imul X.here hx rfl (hb q hd) rfl r
theorem V.lmul {x z : Int64} (A : V l Z n0 y bytes maxl ret R G h pc Ls (.long z :: .long x :: St) C S) (hd : decode bytes pc = .ok (.lmul, 1)) (hp : pc + 1 = pc') : V l Z n0 y bytes maxl ret R G h pc' Ls (.long (x * z) :: St) C S := by
  subst hp; exact A.step fun X hx _ _ q _ r => XS.lmul X.here hx rfl (hb q hd) rfl r
theorem V.iand {x z : Int32} (A : V l Z n0 y bytes maxl ret R G h pc Ls (.int z :: .int x :: St) C S) (hd : decode bytes pc = .ok (.iand, 1)) (hp : pc + 1 = pc') : V l Z n0 y bytes maxl ret R G h pc' Ls (.int (x &&& z) :: St) C S := by
  subst hp; exact A.step fun X hx _ _ q _ r => XS.iand X.here hx rfl (hb q hd) rfl r
theorem V.land {x z : Int64} (A : V l Z n0 y bytes maxl ret R G h pc Ls (.long z :: .long x :: St) C S) (hd : decode bytes pc = .ok (.land, 1)) (hp : pc + 1 = pc') : V l Z n0 y bytes maxl ret R G h pc' Ls (.long (x &&& z) :: St) C S := by
  subst hp; exact A.step fun X hx _ _ q _ r => XS.land X.here hx rfl (hb q hd) rfl r
theorem V.ior {x z : Int32} (A : V l Z n0 y bytes maxl ret R G h pc Ls (.int z :: .int x :: St) C S) (hd : decode bytes pc = .ok (.ior, 1)) (hp : pc + 1 = pc') : V l Z n0 y bytes maxl ret R G h pc' Ls (.int (x ||| z) :: St) C S := by
  subst hp; exact A.step fun X hx _ _ q _ r => XS.ior X.here hx rfl (hb q hd) rfl r
theorem V.lor {x z : Int64} (A : V l Z n0 y bytes maxl ret R G h pc Ls (.long z :: .long x :: St) C S) (hd : decode bytes pc = .ok (.lor, 1)) (hp : pc + 1 = pc') : V l Z n0 y bytes maxl ret R G h pc' Ls (.long (x ||| z) :: St) C S := by
  subst hp; exact A.step fun X hx _ _ q _ r => XS.lor X.here hx rfl (hb q hd) rfl r
theorem V.ixor {x z : Int32} (A : V l Z n0 y bytes maxl ret R G h pc Ls (.int z :: .int x :: St) C S) (hd : decode bytes pc = .ok (.ixor, 1)) (hp : pc + 1 = pc') : V l Z n0 y bytes maxl ret R G h pc' Ls (.int (x ^^^ z) :: St) C S := by
  subst hp; exact A.step fun X hx _ _ q _ r => XS.ixor X.here hx rfl (hb q hd) rfl r
theorem V.lxor {x z : Int64} (A : V l Z n0 y bytes maxl ret R G h pc Ls (.long z :: .long x :: St) C S) (hd : decode bytes pc = .ok (.lxor, 1)) (hp : pc + 1 = pc') : V l Z n0 y bytes maxl ret R G h pc' Ls (.long (x ^^^ z) :: St) C S := by
  subst hp; exact A.step fun X hx _ _ q _ r => XS.lxor X.here hx rfl (hb q hd) rfl r
theorem V.ineg {x : Int32} (A : V l Z n0 y bytes maxl ret R G h pc Ls (.int x :: St) C S) (hd : decode bytes pc = .ok (.ineg, 1)) (hp : pc + 1 = pc') : V l Z n0 y bytes maxl ret R G h pc' Ls (.int (-x) :: St) C S := by
  subst hp; exact A.step fun X hx _ _ q _ r => XS.ineg X.here hx rfl (hb q hd) rfl r
theorem V.lneg {x : Int64} (A : V l Z n0 y bytes maxl ret R G h pc Ls (.long x :: St) C S) (hd : decode bytes pc = .ok (.lneg, 1)) (hp : pc + 1 = pc') : V l Z n0 y bytes maxl ret R G h pc' Ls (.long (-x) :: St) C S := by
  subst hp; exact A.step fun X hx _ _ q _ r => XS.lneg X.here hx rfl (hb q hd) rfl r
theorem V.ishl {x z : Int32} (A : V l Z n0 y bytes maxl ret R G h pc Ls (.int z :: .int x :: St) C S) (hd : decode bytes pc = .ok (.ishl, 1)) (hp : pc + 1 = pc') : V l Z n0 y bytes maxl ret R G h pc' Ls (.int (x <<< (z &&& 31)) :: St) C S := by
  subst hp; exact A.step fun X hx _ _ q _ r => XS.ishl X.here hx rfl (hb q hd) rfl r
theorem V.ishr {x z : Int32} (A : V l Z n0 y bytes maxl ret R G h pc Ls (.int z :: .int x :: St) C S) (hd : decode bytes pc = .ok (.ishr, 1)) (hp : pc + 1 = pc') : V l Z n0 y bytes maxl ret R G h pc' Ls (.int (x >>> (z &&& 31)) :: St) C S := by
  subst hp; exact A.step fun X hx _ _ q _ r => XS.ishr X.here hx rfl (hb q hd) rfl r
theorem V.iushr {x z : Int32} (A : V l Z n0 y bytes maxl ret R G h pc Ls (.int z :: .int x :: St) C S) (hd : decode bytes pc = .ok (.iushr, 1)) (hp : pc + 1 = pc') : V l Z n0 y bytes maxl ret R G h pc' Ls (.int ((x.toUInt32 >>> (z &&& 31).toUInt32).toInt32) :: St) C S := by
  subst hp; exact A.step fun X hx _ _ q _ r => XS.iushr X.here hx rfl (hb q hd) rfl r
theorem V.lshl {x : Int64} {z : Int32} (A : V l Z n0 y bytes maxl ret R G h pc Ls (.int z :: .long x :: St) C S) (hd : decode bytes pc = .ok (.lshl, 1)) (hp : pc + 1 = pc') : V l Z n0 y bytes maxl ret R G h pc' Ls (.long (x <<< (z &&& 0x3f).toInt64) :: St) C S := by
  subst hp; exact A.step fun X hx _ _ q _ r => XS.lshl X.here hx rfl (hb q hd) rfl r
theorem V.lshr {x : Int64} {z : Int32} (A : V l Z n0 y bytes maxl ret R G h pc Ls (.int z :: .long x :: St) C S) (hd : decode bytes pc = .ok (.lshr, 1)) (hp : pc + 1 = pc') : V l Z n0 y bytes maxl ret R G h pc' Ls (.long (x >>> (z &&& 0x3f).toInt64) :: St) C S := by
  subst hp; exact A.step fun X hx _ _ q _ r => XS.lshr X.here hx rfl (hb q hd) rfl r
theorem V.lushr {x : Int64} {z : Int32} (A : V l Z n0 y bytes maxl ret R G h pc Ls (.int z :: .long x :: St) C S) (hd : decode bytes pc = .ok (.lushr, 1)) (hp : pc + 1 = pc') : V l Z n0 y bytes maxl ret R G h pc' Ls (.long ((x.toUInt64 >>> (z &&& 0x3f).toInt64.toUInt64).toInt64) :: St) C S := by
  subst hp; exact A.step fun X hx _ _ q _ r => XS.lushr X.here hx rfl (hb q hd) rfl r
theorem V.i2l {x : Int32} (A : V l Z n0 y bytes maxl ret R G h pc Ls (.int x :: St) C S) (hd : decode bytes pc = .ok (.i2l, 1)) (hp : pc + 1 = pc') : V l Z n0 y bytes maxl ret R G h pc' Ls (.long x.toInt64 :: St) C S := by
  subst hp; exact A.step fun X hx _ _ q _ r => XS.i2l X.here hx rfl (hb q hd) rfl r
theorem V.l2i {x : Int64} (A : V l Z n0 y bytes maxl ret R G h pc Ls (.long x :: St) C S) (hd : decode bytes pc = .ok (.l2i, 1)) (hp : pc + 1 = pc') : V l Z n0 y bytes maxl ret R G h pc' Ls (.int x.toInt32 :: St) C S := by
  subst hp; exact A.step fun X hx _ _ q _ r => XS.l2i X.here hx rfl (hb q hd) rfl r
theorem V.i2b {x : Int32} (A : V l Z n0 y bytes maxl ret R G h pc Ls (.int x :: St) C S) (hd : decode bytes pc = .ok (.i2b, 1)) (hp : pc + 1 = pc') : V l Z n0 y bytes maxl ret R G h pc' Ls (.int x.toInt8.toInt32 :: St) C S := by
  subst hp; exact A.step fun X hx _ _ q _ r => XS.i2b X.here hx rfl (hb q hd) rfl r
theorem V.i2s {x : Int32} (A : V l Z n0 y bytes maxl ret R G h pc Ls (.int x :: St) C S) (hd : decode bytes pc = .ok (.i2s, 1)) (hp : pc + 1 = pc') : V l Z n0 y bytes maxl ret R G h pc' Ls (.int x.toInt16.toInt32 :: St) C S := by
  subst hp; exact A.step fun X hx _ _ q _ r => XS.i2s X.here hx rfl (hb q hd) rfl r
theorem V.i2c {x : Int32} (A : V l Z n0 y bytes maxl ret R G h pc Ls (.int x :: St) C S) (hd : decode bytes pc = .ok (.i2c, 1)) (hp : pc + 1 = pc') : V l Z n0 y bytes maxl ret R G h pc' Ls (.int x.toUInt32.toUInt16.toUInt32.toInt32 :: St) C S := by
  subst hp; exact A.step fun X hx _ _ q _ r => XS.i2c X.here hx rfl (hb q hd) rfl r
theorem V.lcmp {x z : Int64} (A : V l Z n0 y bytes maxl ret R G h pc Ls (.long z :: .long x :: St) C S) (hd : decode bytes pc = .ok (.lcmp, 1)) (hp : pc + 1 = pc') : V l Z n0 y bytes maxl ret R G h pc' Ls (.int (lcmpW x z) :: St) C S := by
  subst hp; exact A.step fun X hx _ _ q _ r => XS.lcmp X.here hx rfl (hb q hd) rfl r
theorem V.idiv {x z : Int32} (A : V l Z n0 y bytes maxl ret R G h pc Ls (.int z :: .int x :: St) C S) (hd : decode bytes pc = .ok (.idiv, 1)) (hz : z ≠ 0) (hp : pc + 1 = pc') : V l Z n0 y bytes maxl ret R G h pc' Ls (.int (x / z) :: St) C S := by
  subst hp; exact A.step fun X hx _ _ q _ r => XS.idiv X.here hx rfl (hb q hd) rfl hz r
theorem V.irem {x z : Int32} (A : V l Z n0 y bytes maxl ret R G h pc Ls (.int z :: .int x :: St) C S) (hd : decode bytes pc = .ok (.irem, 1)) (hz : z ≠ 0) (hp : pc + 1 = pc') : V l Z n0 y bytes maxl ret R G h pc' Ls (.int (x % z) :: St) C S := by
  subst hp; exact A.step fun X hx _ _ q _ r => iremM (g := mkF _ _ _ _) X hx rfl (hb q hd) rfl hz r
theorem V.ldiv {x z : Int64} (A : V l Z n0 y bytes maxl ret R G h pc Ls (.long z :: .long x :: St) C S) (hd : decode bytes pc = .ok (.ldiv, 1)) (hz : z ≠ 0) (hp : pc + 1 = pc') : V l Z n0 y bytes maxl ret R G h pc' Ls (.long (x / z) :: St) C S := by
  subst hp; exact A.step fun X hx _ _ q _ r => XS.ldiv X.here hx rfl (hb q hd) rfl hz r
theorem V.lrem {x z : Int64} (A : V l Z n0 y bytes maxl ret R G h pc Ls (.long z :: .long x :: St) C S) (hd : decode bytes pc = .ok (.lrem, 1)) (hz : z ≠ 0) (hp : pc + 1 = pc') : V l Z n0 y bytes maxl ret R G h pc' Ls (.long (x % z) :: St) C S := by
  subst hp; exact A.step fun X hx _ _ q _ r => XS.lrem X.here hx rfl (hb q hd) rfl hz (by rw [lrem_mod]; exact r)
theorem V.dup {v : Value} (A : V l Z n0 y bytes maxl ret R G h pc Ls (v :: St) C S) (hd : decode bytes pc = .ok (.dup, 1)) (hc : v.category = 1) (hp : pc + 1 = pc') : V l Z n0 y bytes maxl ret R G h pc' Ls (v :: v :: St) C S := by
  subst hp; exact A.step fun X hx _ _ q _ r => XS.dup X.here hx rfl (hb q hd) rfl hc r
theorem V.pop {v : Value} (A : V l Z n0 y bytes maxl ret R G h pc Ls (v :: St) C S) (hd : decode bytes pc = .ok (.pop, 1)) (hc : v.category = 1) (hp : pc + 1 = pc') : V l Z n0 y bytes maxl ret R G h pc' Ls St C S := by
  subst hp; exact A.step fun X hx _ _ q _ r => XS.pop X.here hx rfl (hb q hd) rfl hc r
theorem V.dupX1 {v w : Value} (A : V l Z n0 y bytes maxl ret R G h pc Ls (v :: w :: St) C S) (hd : decode bytes pc = .ok (.dup_x1, 1)) (hc : v.category = 1) (hc' : w.category = 1) (hp : pc + 1 = pc') : V l Z n0 y bytes maxl ret R G h pc' Ls (v :: w :: v :: St) C S := by
  subst hp; exact A.step fun X hx _ _ q _ r => XS.dupX1 X.here hx rfl (hb q hd) rfl hc hc' r
theorem V.dup2 {v w : Value} (A : V l Z n0 y bytes maxl ret R G h pc Ls (v :: w :: St) C S) (hd : decode bytes pc = .ok (.dup2, 1)) (hc : v.category = 1) (hc' : w.category = 1) (hp : pc + 1 = pc') : V l Z n0 y bytes maxl ret R G h pc' Ls (v :: w :: v :: w :: St) C S := by
  subst hp; exact A.step fun X hx _ _ q _ r => XT.dup2 X.here hx rfl (hb q hd) rfl hc hc' r
theorem V.dup2L {x : Int64} (A : V l Z n0 y bytes maxl ret R G h pc Ls (.long x :: St) C S) (hd : decode bytes pc = .ok (.dup2, 1)) (hp : pc + 1 = pc') : V l Z n0 y bytes maxl ret R G h pc' Ls (.long x :: .long x :: St) C S := by
  subst hp; exact A.step fun X hx _ _ q _ r => XT.dup2L X.here hx rfl (hb q hd) rfl r
theorem V.goto (A : V l Z n0 y bytes maxl ret R G h pc Ls St C S) {o : Int} (hd : decode bytes pc = .ok (.goto o, 3)) (ho : 0 ≤ (pc : Int) + o) (hp : ((pc : Int) + o).toNat = pc') : V l Z n0 y bytes maxl ret R G h pc' Ls St C S :=
  A.step fun X hx _ _ q _ r => XS.goto X.here hx rfl rfl (hb q hd) ho hp r
theorem V.ifYes {x : Int32} (A : V l Z n0 y bytes maxl ret R G h pc Ls (.int x :: St) C S) {cd : ClassFile.Cond} {o : Int} (hd : decode bytes pc = .ok (.ifCond cd o, 3)) (hc : if_icmp.holds cd x 0 = true) (ho : 0 ≤ (pc : Int) + o) (hp : ((pc : Int) + o).toNat = pc') : V l Z n0 y bytes maxl ret R G h pc' Ls St C S :=
  A.step fun X hx _ _ q _ r => XS.ifYes X.here hx rfl rfl (hb q hd) rfl ((if0 _ _).trans hc) ho hp r
theorem V.ifNo {x : Int32} (A : V l Z n0 y bytes maxl ret R G h pc Ls (.int x :: St) C S) {cd : ClassFile.Cond} {o : Int} (hd : decode bytes pc = .ok (.ifCond cd o, 3)) (hc : if_icmp.holds cd x 0 = false) (hp : pc + 3 = pc') : V l Z n0 y bytes maxl ret R G h pc' Ls St C S := by
  subst hp; exact A.step fun X hx _ _ q _ r => XS.ifNo X.here hx rfl (hb q hd) rfl ((if0 _ _).trans hc) r
theorem V.icmpYes {x z : Int32} (A : V l Z n0 y bytes maxl ret R G h pc Ls (.int z :: .int x :: St) C S) {cd : ClassFile.Cond} {o : Int} (hd : decode bytes pc = .ok (.if_icmp cd o, 3)) (hc : if_icmp.holds cd x z = true) (ho : 0 ≤ (pc : Int) + o) (hp : ((pc : Int) + o).toNat = pc') : V l Z n0 y bytes maxl ret R G h pc' Ls St C S :=
  A.step fun X hx _ _ q _ r => XS.icmpYes X.here hx rfl rfl (hb q hd) rfl hc ho hp r
theorem V.icmpNo {x z : Int32} (A : V l Z n0 y bytes maxl ret R G h pc Ls (.int z :: .int x :: St) C S) {cd : ClassFile.Cond} {o : Int} (hd : decode bytes pc = .ok (.if_icmp cd o, 3)) (hc : if_icmp.holds cd x z = false) (hp : pc + 3 = pc') : V l Z n0 y bytes maxl ret R G h pc' Ls St C S := by
  subst hp; exact A.step fun X hx _ _ q _ r => XS.icmpNo X.here hx rfl (hb q hd) rfl hc r
theorem V.ifnullYes (A : V l Z n0 y bytes maxl ret R G h pc Ls (.null :: St) C S) {o : Int} (hd : decode bytes pc = .ok (.ifnull o, 3)) (ho : 0 ≤ (pc : Int) + o) (hp : ((pc : Int) + o).toNat = pc') : V l Z n0 y bytes maxl ret R G h pc' Ls St C S :=
  A.step fun X hx _ _ q _ r => XS.ifnullYes X.here hx rfl rfl (hb q hd) rfl ho hp r
theorem V.ifnullNo {a : Addr} (A : V l Z n0 y bytes maxl ret R G h pc Ls (.ref a :: St) C S) {o : Int} (hd : decode bytes pc = .ok (.ifnull o, 3)) (hp : pc + 3 = pc') : V l Z n0 y bytes maxl ret R G h pc' Ls St C S := by
  subst hp; exact A.step fun X hx _ _ q _ r => XS.ifnullNo X.here hx rfl (hb q hd) rfl r
theorem V.ifnonnullNo (A : V l Z n0 y bytes maxl ret R G h pc Ls (.null :: St) C S) {o : Int} (hd : decode bytes pc = .ok (.ifnonnull o, 3)) (hp : pc + 3 = pc') : V l Z n0 y bytes maxl ret R G h pc' Ls St C S := by
  subst hp; exact A.step fun X hx _ _ q _ r => XS.ifnonnullNo X.here hx rfl (hb q hd) rfl r
theorem V.ifnonnullYes {a : Addr} (A : V l Z n0 y bytes maxl ret R G h pc Ls (.ref a :: St) C S) {o : Int} (hd : decode bytes pc = .ok (.ifnonnull o, 3)) (ho : 0 ≤ (pc : Int) + o) (hp : ((pc : Int) + o).toNat = pc') : V l Z n0 y bytes maxl ret R G h pc' Ls St C S :=
  A.step fun X hx _ _ q _ r => XS.ifnonnullYes X.here hx rfl rfl (hb q hd) rfl ho hp r
theorem V.getF (A : V l Z n0 y bytes maxl ret R G h pc Ls (.ref a :: St) C S) {index : Nat} {R0 O n d host : String} {v : Value} (hd : decode bytes pc = .ok (.getfield index, 3)) (w : (Jvm.Cond.fieldLink y.cls index R0 n d).before a0 Z = true ∨ (Jvm.Cond.fieldLinkNest y.cls index R0 n d host).before a0 Z = true) (via : Via Z R0 O n d) (F : Fld Z h a O n d v) (hp : pc + 3 = pc') : V l Z n0 y bytes maxl ret R G h pc' Ls (v :: St) C S := by
  subst hp; exact A.stepT fun X hx hZ hown q _ eT => RoadKit.getF X hx hZ hown w via eT F (g := mkF _ _ _ _) rfl rfl (hb q hd)
theorem V.getS (A : V l Z n0 y bytes maxl ret R G h pc Ls St C S) {index : Nat} {R0 O n d host : String} {v : Value} (hd : decode bytes pc = .ok (.getstatic index, 3)) (w : (Jvm.Cond.fieldLink y.cls index R0 n d).before a0 Z = true ∨ (Jvm.Cond.fieldLinkNest y.cls index R0 n d host).before a0 Z = true) (via : Via Z R0 O n d) (F : Sta Z h O n d v) (hp : pc + 3 = pc') : V l Z n0 y bytes maxl ret R G h pc' Ls (v :: St) C S := by
  subst hp; exact A.stepT fun X hx hZ hown q _ eT => getS2 X hx hZ hown w via eT F (g := mkF _ _ _ _) rfl (hb q hd)
theorem V.initO (A : V l Z n0 y bytes maxl ret R G h pc Ls (.ref a :: St) C S) {idx : Nat} (hd : decode bytes pc = .ok (.invokespecial idx, 3)) (w1 : (Jvm.Cond.methodLink y.cls idx Lib.objectInit).before a0 Z = true) (w2 : (Jvm.Cond.instanceMethod Lib.objectInit).before a0 Z = true) (w3 : (Jvm.Cond.code Lib.objectInit ⟨#[0xb1]⟩ 1 none).before a0 Z = true) (hsz : Ls.size = maxl) (hf : 1 ≤ R.frames) (hlo : (St.map fun v => v.category).sum + 12 ≤ R.locals) (hp : pc + 3 = pc') : V l Z n0 y bytes maxl ret R G h pc' Ls St C S := by
  subst hp; exact A.stepT fun X hx hZ hown q hml eT => RoadKit.initO X hx hZ hown w1 w2 w3 eT (g := mkF _ _ _ _) rfl (by rw [hml]; exact hsz) rfl (hb q hd) hf (W := (St.map fun v => v.category).sum) (by show 2 * 0 + _ ≤ _; omega) hlo
theorem V.cast0 (A : V l Z n0 y bytes maxl ret R G h pc Ls (.ref a :: St) C S) {index : Nat} {K : String} (hd : decode bytes pc = .ok (.checkcast index, 3)) (w : (Jvm.Cond.classLink y.cls index K).before a0 Z = true) (F : Ins Z h a K true) (hp : pc + 3 = pc') : V l Z n0 y bytes maxl ret R G h pc' Ls (.ref a :: St) C S := by
  subst hp; exact A.stepT fun X hx hZ hown q _ eT => castY X hx hZ hown w eT F (g := mkF _ _ _ _) rfl rfl (hb q hd)
theorem V.inst1 (A : V l Z n0 y bytes maxl ret R G h pc Ls (.ref a :: St) C S) {index : Nat} {K : String} (hd : decode bytes pc = .ok (.instanceof index, 3)) (w : (Jvm.Cond.classLink y.cls index K).before a0 Z = true) (F : Ins Z h a K true) (hp : pc + 3 = pc') : V l Z n0 y bytes maxl ret R G h pc' Ls (.int 1 :: St) C S := by
  subst hp; exact A.stepT fun X hx hZ hown q _ eT => instY X hx hZ hown w eT F (g := mkF _ _ _ _) rfl rfl (hb q hd)
theorem V.putF {v : Value} (A : V l Z n0 y bytes maxl ret R G h pc Ls (v :: .ref a :: St) C S) {index kk : Nat} {R0 O n d host K : String} {ty : FieldType} {old : Value} (hd : decode bytes pc = .ok (.putfield index, 3)) (w : (Jvm.Cond.fieldLink y.cls index R0 n d).before a0 Z = true ∨ (Jvm.Cond.fieldLinkNest y.cls index R0 n d host).before a0 Z = true) (via : Via Z R0 O n d)
    (F : Fld Z h a O n d old) (E : Exa Z h a K) (Lw : (Jvm.Cond.lays K O n d).before a0 Z = true ∨ ((Jvm.Cond.laysFinal K O n d).before a0 Z = true ∧ y.cls = O ∧ y.name = "<init>")) (wi : (Jvm.Cond.instantiable K kk).before a0 Z = true) (hty : parseFieldDescriptor d = some ty) (hn : narrow ty v = v) (hf : fits ty v = true) (ga : n0 ≤ a) (hp : pc + 3 = pc') :
    ∃ h', Wr h h' a (Jvm.RoadKit.slotOf Z O n d) v ∧ V l Z n0 y bytes maxl ret R G h' pc' Ls St C S := by
  subst hp
  obtain ⟨p, e, s, m, args, below, meth, c, st⟩ := G
  obtain ⟨hx, hby, hml, hnm, hrt, hlk, hn0, vm0, k0, hS, hk, hZ, hown, T, locs, X, N, eT, k⟩ := A
  obtain ⟨T', h', X', e', W', st'⟩ := RoadKit.putF X hx hZ hown w via eT F E (Lw.imp id fun q => ⟨q.1, q.2.1, hnm.trans q.2.2⟩) wi hty hn hf (g := mkF m pc Ls _) rfl rfl (hb hby hd)
  exact ⟨h', W', V.mk hx hZ hby hml hown hnm hrt hlk hn0 hS (by rw [W'.size]; exact hk) X' (Fr.snoc X' N ga) e' (fun t q => k t (st' t q))⟩
theorem V.putFN {v v' : Value} (A : V l Z n0 y bytes maxl ret R G h pc Ls (v :: .ref a :: St) C S) {index kk : Nat} {R0 O n d K : String} {ty : FieldType} {old : Value} (hd : decode bytes pc = .ok (.putfield index, 3)) (w : (Jvm.Cond.fieldLink y.cls index R0 n d).before a0 Z = true) (via : Via Z R0 O n d)
    (F : Fld Z h a O n d old) (E : Exa Z h a K) (Lw : (Jvm.Cond.lays K O n d).before a0 Z = true ∨ ((Jvm.Cond.laysFinal K O n d).before a0 Z = true ∧ y.cls = O ∧ y.name = "<init>")) (wi : (Jvm.Cond.instantiable K kk).before a0 Z = true) (hty : parseFieldDescriptor d = some ty) (hn : narrow ty v = v') (hf : fits ty v' = true) (ga : n0 ≤ a) (hp : pc + 3 = pc') :
    ∃ h', Wr h h' a (Jvm.RoadKit.slotOf Z O n d) v' ∧ V l Z n0 y bytes maxl ret R G h' pc' Ls St C S := by
  subst hp
  obtain ⟨p, e, s, m, args, below, meth, c, st⟩ := G
  obtain ⟨hx, hby, hml, hnm, hrt, hlk, hn0, vm0, k0, hS, hk, hZ, hown, T, locs, X, N, eT, k⟩ := A
  obtain ⟨T', h', X', e', W', st'⟩ := RoadKit.putFN X hx hZ hown w via eT F E (Lw.imp id fun q => ⟨q.1, q.2.1, hnm.trans q.2.2⟩) wi hty hn hf (g := mkF m pc Ls _) rfl rfl (hb hby hd)
  exact ⟨h', W', V.mk hx hZ hby hml hown hnm hrt hlk hn0 hS (by rw [W'.size]; exact hk) X' (Fr.snoc X' N ga) e' (fun t q => k t (st' t q))⟩
theorem V.newO (A : V l Z n0 y bytes maxl ret R G h pc Ls St C S) {index n : Nat} {K : String} (hd : decode bytes pc = .ok (.new index, 3)) (w : (Jvm.Cond.classLink y.cls index K).before a0 Z = true) (wi : (Jvm.Cond.instantiable K n).before a0 Z = true) (wz : (Jvm.Cond.initialized K).before a0 Z = true) (hC : C + 1 ≤ R.cells) (hSl : S + n ≤ R.slots) (hC' : C + 1 = C') (hS' : S + n = S') (hp : pc + 3 = pc') :
    ∃ h' b, b = h.size ∧ n0 ≤ b ∧ Ext h h' ∧ Exa Z h' b K ∧ (∀ {O nm d : String} {ty : FieldType}, Laid Z a0 K O nm d → parseFieldDescriptor d = some ty → Fld Z h' b O nm d (defaultValue ty)) ∧ V l Z n0 y bytes maxl ret R G h' pc' Ls (.ref b :: St) C' S' := by
  subst hp hC' hS'
  have hsz := A.size
  obtain ⟨p, e, s, m, args, below, meth, c, st⟩ := G
  obtain ⟨hx, hby, hml, hnm, hrt, hlk, hn0, vm0, k0, hS, hk, hZ, hown, T, locs, X, N, eT, k⟩ := A
  obtain ⟨T', h', X', e', E', A', D', -, st'⟩ := RoadKit.newO X hx hZ hown w wi wz eT (g := mkF m pc Ls St) rfl (hb hby hd) hC hSl
  exact ⟨h', h.size, rfl, hsz, E', A', D', V.mk hx hZ hby hml hown hnm hrt hlk hn0 hS (Nat.le_trans hk E'.1) X' N e' (fun t q => k t (st' t q))⟩
theorem V.newP (A : V l Z n0 y bytes maxl ret R G h pc Ls (.int z :: St) C S) {aty : ArrayType} {N cap : Nat} (hd : decode bytes pc = .ok (.newarray aty, 2)) (w : (Jvm.Cond.arrayClass (newarray.typeOf aty)).before a0 Z = true) (hz : z.toInt = N) (hcap : N ≤ cap) (hcb : cap * 8 ≤ 536870912) (hC : C + 1 ≤ R.cells) (hSl : S + cap ≤ R.slots) (hC' : C + 1 = C') (hS' : S + cap = S') (hp : pc + 2 = pc') {ad : String} (had : "[" ++ (newarray.typeOf aty).toString = ad) :
    ∃ h' b, b = h.size ∧ n0 ≤ b ∧ Ext h h' ∧ Ars Z h' b (newarray.typeOf aty) N (fun _ => defaultValue (newarray.typeOf aty)) ∧ Exa Z h' b ad ∧ V l Z n0 y bytes maxl ret R G h' pc' Ls (.ref b :: St) C' S' := by
  subst hp hC' hS'
  have hsz := A.size
  have e0 : (0 : Int32).toInt = 0 := rfl
  have hneg : ¬ z < 0 := by rw [Int32.lt_iff_toInt_lt]; omega
  have hcl : z.toNatClampNeg = N := by simp only [Int32.toNatClampNeg]; omega
  obtain ⟨p, e, s, m, args, below, meth, c, st⟩ := G
  obtain ⟨hx, hby, hml, hnm, hrt, hlk, hn0, vm0, k0, hS, hk, hZ, hown, T, locs, X, Nf, eT, k⟩ := A
  obtain ⟨T', h', kA, X', e', E', A', Ex', st'⟩ := newPE X hx hZ w eT (g := mkF m pc Ls _) rfl (hb hby hd) rfl hneg (cap := cap) (by omega) hcb hC hSl had
  refine ⟨h', h.size, rfl, hsz, E', ⟨_, A', by rw [sz_new, hcl], by omega, fun j hj => ?_⟩, Ex', V.mk hx hZ hby hml hown hnm hrt hlk hn0 hS (Nat.le_trans hk E'.1) X' Nf e' (fun t q => k t (st' t q))⟩
  exact ⟨by simp [newA, hcl, hj], by cases aty <;> rfl⟩
theorem V.alen (A : V l Z n0 y bytes maxl ret R G h pc Ls (.ref a :: St) C S) (hd : decode bytes pc = .ok (.arraylength, 1)) (F : Ars Z h a ty N f) {z : Int32} (hz : z.toInt = N) (hp : pc + 1 = pc') : V l Z n0 y bytes maxl ret R G h pc' Ls (.int z :: St) C S := by
  subst hp
  obtain ⟨cl, Ar, hs, hN, hv⟩ := F
  have e0 : (0 : Int32).toInt = 0 := rfl
  have hneg : ¬ z < 0 := by rw [Int32.lt_iff_toInt_lt]; omega
  have hcl : cl.slots.size = z.toNatClampNeg := by simp only [Int32.toNatClampNeg]; omega
  exact A.step fun X hx hZ hown q eT r => X.arraylength hx (by rw [eT]; exact Ar.1) (State.isArrayOf_alike hZ.alike Ar.2.1) (g := mkF _ _ _ _) rfl rfl (hb q hd) _ (by rw [len_of hcl hneg]; exact r)
theorem V.iaload {j : Int32} (A : V l Z n0 y bytes maxl ret R G h pc Ls (.int j :: .ref a :: St) C S) (hd : decode bytes pc = .ok (.iaload, 1)) (F : Ars Z h a .int N f) {i : Nat} (hj : j.toInt = i) (hi : i < N) {v : Value} (hv : f i = v) (hp : pc + 1 = pc') : V l Z n0 y bytes maxl ret R G h pc' Ls (v :: St) C S := by
  subst hp
  obtain ⟨cl, Ar, hs, hN, hf⟩ := F
  obtain ⟨q1, q2⟩ := inb hs hj hi
  exact A.step fun X hx hZ hown q eT r => X.iaload hx (by rw [eT]; exact Ar.1) (State.isArrayOf_alike hZ.alike Ar.2.1) Ar.2.2 q1 (by rw [q2, (hf i hi).1, hv]) (g := mkF _ _ _ _) rfl rfl (hb q hd) _ r
theorem V.laload {j : Int32} (A : V l Z n0 y bytes maxl ret R G h pc Ls (.int j :: .ref a :: St) C S) (hd : decode bytes pc = .ok (.laload, 1)) (F : Ars Z h a .long N f) {i : Nat} (hj : j.toInt = i) (hi : i < N) {v : Value} (hv : f i = v) (hp : pc + 1 = pc') : V l Z n0 y bytes maxl ret R G h pc' Ls (v :: St) C S := by
  subst hp
  obtain ⟨cl, Ar, hs, hN, hf⟩ := F
  obtain ⟨q1, q2⟩ := inb hs hj hi
  exact A.step fun X hx hZ hown q eT r => X.laload hx (by rw [eT]; exact Ar.1) (State.isArrayOf_alike hZ.alike Ar.2.1) Ar.2.2 q1 (by rw [q2, (hf i hi).1, hv]) (g := mkF _ _ _ _) rfl rfl (hb q hd) _ r
theorem V.baload {j : Int32} (A : V l Z n0 y bytes maxl ret R G h pc Ls (.int j :: .ref a :: St) C S) (hd : decode bytes pc = .ok (.baload, 1)) (F : Ars Z h a .byte N f) {i : Nat} (hj : j.toInt = i) (hi : i < N) {v : Value} (hv : f i = v) (hp : pc + 1 = pc') : V l Z n0 y bytes maxl ret R G h pc' Ls (v :: St) C S := by
  subst hp
  obtain ⟨cl, Ar, hs, hN, hf⟩ := F
  obtain ⟨q1, q2⟩ := inb hs hj hi
  exact A.step fun X hx hZ hown q eT r => X.baloadBytes hx (by rw [eT]; exact Ar.1) (State.isArrayOf_alike hZ.alike Ar.2.1) Ar.2.2 q1 (by rw [q2, (hf i hi).1, hv]) (g := mkF _ _ _ _) rfl rfl (hb q hd) _ r
theorem V.caload {j : Int32} (A : V l Z n0 y bytes maxl ret R G h pc Ls (.int j :: .ref a :: St) C S) (hd : decode bytes pc = .ok (.caload, 1)) (F : Ars Z h a .char N f) {i : Nat} (hj : j.toInt = i) (hi : i < N) {v : Value} (hv : f i = v) (hp : pc + 1 = pc') : V l Z n0 y bytes maxl ret R G h pc' Ls (v :: St) C S := by
  subst hp
  obtain ⟨cl, Ar, hs, hN, hf⟩ := F
  obtain ⟨q1, q2⟩ := inb hs hj hi
  exact A.step fun X hx hZ hown q eT r => X.caload hx (by rw [eT]; exact Ar.1) (State.isArrayOf_alike hZ.alike Ar.2.1) Ar.2.2 q1 (by rw [q2, (hf i hi).1, hv]) (g := mkF _ _ _ _) rfl rfl (hb q hd) _ r
theorem V.iastore {j x : Int32} (A : V l Z n0 y bytes maxl ret R G h pc Ls (.int x :: .int j :: .ref a :: St) C S) (hd : decode bytes pc = .ok (.iastore, 1)) (F : Ars Z h a .int N f) {i : Nat} (hj : j.toInt = i) (hi : i < N) (ga : n0 ≤ a) (hp : pc + 1 = pc') : ∃ h', Wr h h' a i (.int x) ∧ Ars Z h' a .int N (upd f i (.int x)) ∧ V l Z n0 y bytes maxl ret R G h' pc' Ls St C S := by
  subst hp
  have F0 := F
  obtain ⟨cl, Ar, hs, hN, hf⟩ := F
  obtain ⟨q1, q2⟩ := inb hs hj hi
  obtain ⟨p, e, s, m, args, below, meth, c, st⟩ := G
  obtain ⟨hx, hby, hml, hnm, hrt, hlk, hn0, vm0, k0, hS, hk, hZ, hown, T, locs, X, Nf, eT, k⟩ := A
  have hfit : fits .int (.int x) = true := rfl
  obtain ⟨T', h', X', e', W', st'⟩ := stI X hx hZ eT Ar q1 (g := mkF m pc Ls _) rfl rfl (hb hby hd)
  rw [q2] at W'
  exact ⟨h', W', F0.same W' hi hfit, V.mk hx hZ hby hml hown hnm hrt hlk hn0 hS (by rw [W'.size]; exact hk) X' (Fr.snoc X' Nf ga) e' (fun t q => k t (st' t q))⟩
theorem V.lastore {j : Int32} {x : Int64} (A : V l Z n0 y bytes maxl ret R G h pc Ls (.long x :: .int j :: .ref a :: St) C S) (hd : decode bytes pc = .ok (.lastore, 1)) (F : Ars Z h a .long N f) {i : Nat} (hj : j.toInt = i) (hi : i < N) (ga : n0 ≤ a) (hp : pc + 1 = pc') : ∃ h', Wr h h' a i (.long x) ∧ Ars Z h' a .long N (upd f i (.long x)) ∧ V l Z n0 y bytes maxl ret R G h' pc' Ls St C S := by
  subst hp
  have F0 := F
  obtain ⟨cl, Ar, hs, hN, hf⟩ := F
  obtain ⟨q1, q2⟩ := inb hs hj hi
  obtain ⟨p, e, s, m, args, below, meth, c, st⟩ := G
  obtain ⟨hx, hby, hml, hnm, hrt, hlk, hn0, vm0, k0, hS, hk, hZ, hown, T, locs, X, Nf, eT, k⟩ := A
  have hfit : fits .long (.long x) = true := rfl
  obtain ⟨T', h', X', e', W', st'⟩ := stJ X hx hZ eT Ar q1 (g := mkF m pc Ls _) rfl rfl (hb hby hd)
  rw [q2] at W'
  exact ⟨h', W', F0.same W' hi hfit, V.mk hx hZ hby hml hown hnm hrt hlk hn0 hS (by rw [W'.size]; exact hk) X' (Fr.snoc X' Nf ga) e' (fun t q => k t (st' t q))⟩
theorem V.bastore {j x : Int32} (A : V l Z n0 y bytes maxl ret R G h pc Ls (.int x :: .int j :: .ref a :: St) C S) (hd : decode bytes pc = .ok (.bastore, 1)) (F : Ars Z h a .byte N f) {i : Nat} (hj : j.toInt = i) (hi : i < N) (ga : n0 ≤ a) (hp : pc + 1 = pc') : ∃ h', Wr h h' a i (.int x.toInt8.toInt32) ∧ Ars Z h' a .byte N (upd f i (.int x.toInt8.toInt32)) ∧ V l Z n0 y bytes maxl ret R G h' pc' Ls St C S := by
  subst hp
  have F0 := F
  obtain ⟨cl, Ar, hs, hN, hf⟩ := F
  obtain ⟨q1, q2⟩ := inb hs hj hi
  obtain ⟨p, e, s, m, args, below, meth, c, st⟩ := G
  obtain ⟨hx, hby, hml, hnm, hrt, hlk, hn0, vm0, k0, hS, hk, hZ, hown, T, locs, X, Nf, eT, k⟩ := A
  have hfit : fits .byte (.int x.toInt8.toInt32) = true := fits_nar_byte x
  obtain ⟨T', h', X', e', W', st'⟩ := stB X hx hZ eT Ar q1 (g := mkF m pc Ls _) rfl rfl (hb hby hd)
  rw [q2] at W'
  exact ⟨h', W', F0.same W' hi hfit, V.mk hx hZ hby hml hown hnm hrt hlk hn0 hS (by rw [W'.size]; exact hk) X' (Fr.snoc X' Nf ga) e' (fun t q => k t (st' t q))⟩
theorem V.castore {j x : Int32} (A : V l Z n0 y bytes maxl ret R G h pc Ls (.int x :: .int j :: .ref a :: St) C S) (hd : decode bytes pc = .ok (.castore, 1)) (F : Ars Z h a .char N f) {i : Nat} (hj : j.toInt = i) (hi : i < N) (ga : n0 ≤ a) (hp : pc + 1 = pc') : ∃ h', Wr h h' a i (.int (nar .char x)) ∧ Ars Z h' a .char N (upd f i (.int (nar .char x))) ∧ V l Z n0 y bytes maxl ret R G h' pc' Ls St C S := by
  subst hp
  have F0 := F
  obtain ⟨cl, Ar, hs, hN, hf⟩ := F
  obtain ⟨q1, q2⟩ := inb hs hj hi
  obtain ⟨p, e, s, m, args, below, meth, c, st⟩ := G
  obtain ⟨hx, hby, hml, hnm, hrt, hlk, hn0, vm0, k0, hS, hk, hZ, hown, T, locs, X, Nf, eT, k⟩ := A
  have hfit : fits .char (.int (nar .char x)) = true := fits_nar_char x
  obtain ⟨T', h', X', e', W', st'⟩ := stC X hx hZ eT Ar q1 (g := mkF m pc Ls _) rfl rfl (hb hby hd)
  rw [q2] at W'
  exact ⟨h', W', F0.same W' hi hfit, V.mk hx hZ hby hml hown hnm hrt hlk hn0 hS (by rw [W'.size]; exact hk) X' (Fr.snoc X' Nf ga) e' (fun t q => k t (st' t q))⟩
theorem V.clone (A : V l Z n0 y bytes maxl ret R G h pc Ls (.ref a :: St) C S) {index cap : Nat} {ad : String} (hd : decode bytes pc = .ok (.invokevirtual index, 3)) (w1 : (Jvm.Cond.methodLink y.cls index ⟨ad, "clone", "()Ljava/lang/Object;"⟩).before a0 Z = true) (w2 : (Jvm.Cond.sameMethod ad "java/lang/Object" "clone" "()Ljava/lang/Object;").before a0 Z = true) (w3 : (Jvm.Cond.native ⟨"java/lang/Object", "clone", "()Ljava/lang/Object;"⟩).before a0 Z = true)
    (w4 : (Jvm.Cond.instanceMethod ⟨"java/lang/Object", "clone", "()Ljava/lang/Object;"⟩).before a0 Z = true) (w5 : (Jvm.Cond.selects ad ⟨ad, "clone", "()Ljava/lang/Object;"⟩ ⟨"java/lang/Object", "clone", "()Ljava/lang/Object;"⟩).before a0 Z = true) (w6 : (Jvm.Cond.castable ad "java/lang/Cloneable").before a0 Z = true) (F : Ars Z h a ty N f) (E : Exa Z h a ad) (hcap : N ≤ cap) (hsz : Ls.size = maxl) (hf : 1 ≤ R.frames) (hlo : (St.map fun v => v.category).sum + 14 ≤ R.locals) (hC : C + 1 ≤ R.cells) (hSl : S + cap ≤ R.slots) (hC' : C + 1 = C') (hS' : S + cap = S') (hp : pc + 3 = pc') :
    ∃ h' b, b = h.size ∧ n0 ≤ b ∧ Ext h h' ∧ Ars Z h' b ty N f ∧ Exa Z h' b ad ∧ V l Z n0 y bytes maxl ret R G h' pc' Ls (.ref b :: St) C' S' := by
  subst hp hC' hS'
  have hs0 := A.size
  obtain ⟨cl, Ar, hs, hN, hv⟩ := F
  have FC : FitC Z cl := fitC_of Ar fun i hi v q => by rw [hs] at hi; rw [(hv i hi).1] at q; cases q; exact (hv i hi).2
  obtain ⟨p, e, s, m, args, below, meth, c, st⟩ := G
  obtain ⟨hx, hby, hml, hnm, hrt, hlk, hn0, vm0, k0, hS, hk, hZ, hown, T, locs, X, Nf, eT, k⟩ := A
  obtain ⟨T', h', X', e', E', A', Ex', st'⟩ := cloneA X hx hZ hown w1 w2 w3 w4 w5 w6 eT Ar E FC (g := mkF m pc Ls (.ref a :: St)) rfl (by rw [hml]; exact hsz) rfl (hb hby hd) hf (W := (St.map fun v => v.category).sum) (by show 2 * 0 + _ ≤ _; omega) hlo (by rw [hs]; exact hcap) hC hSl
  exact ⟨h', h.size, rfl, hs0, E', ⟨_, A', hs, hN, hv⟩, Ex', V.mk hx hZ hby hml hown hnm hrt hlk hn0 hS (Nat.le_trans hk E'.1) X' Nf e' (fun t q => k t (st' t q))⟩
theorem V.acopy {b : Addr} {sp dp nn : Int32} (A : V l Z n0 y bytes maxl ret R G h pc Ls (.int nn :: .int dp :: .ref b :: .int sp :: .ref a :: St) C S) {idx i j k N' : Nat} {g : Nat → Value} (hd : decode bytes pc = .ok (.invokestatic idx, 3)) (w1 : (Jvm.Cond.methodLink y.cls idx Jvm.Stand.acN).before a0 Z = true) (w2 : (Jvm.Cond.native Jvm.Stand.acN).before a0 Z = true) (w3 : (Jvm.Cond.static Jvm.Stand.acN).before a0 Z = true) (w4 : (Jvm.Cond.initialized "java/lang/System").before a0 Z = true)
    (F : Ars Z h a ty N f) (D : Ars Z h b ty N' g) (hty : refKind ty = false) (hsp : sp.toInt = i) (hdp : dp.toInt = j) (hnn : nn.toInt = k) (h4 : i + k ≤ N) (h5 : j + k ≤ N') (gb : n0 ≤ b) (hsz : Ls.size = maxl) (hf : 1 ≤ R.frames) (hlo : (St.map fun v => v.category).sum + (nativeFrameWords "java/lang/System" "arraycopy" 5 + 11) ≤ R.locals) (hp : pc + 3 = pc') :
    ∃ h', Keep h h' [b] ∧ Ars Z h' b ty N' (cpy f i g j k) ∧ V l Z n0 y bytes maxl ret R G h' pc' Ls St C S := by
  subst hp
  have FN := F.size
  have DN := D.size
  obtain ⟨kF, VF⟩ := F.toArv
  obtain ⟨kD, VD⟩ := D.toArv
  have e0 : (0 : Int32).toInt = 0 := rfl
  have c1 : sp.toNatClampNeg = i := by simp only [Int32.toNatClampNeg]; omega
  have c2 : dp.toNatClampNeg = j := by simp only [Int32.toNatClampNeg]; omega
  have c3 : nn.toNatClampNeg = k := by simp only [Int32.toNatClampNeg]; omega
  have eN : (Int32.ofNat N).toNatClampNeg = N := by have := Int32.toInt_ofNat_of_lt FN; simp only [Int32.toNatClampNeg]; omega
  have eN' : (Int32.ofNat N').toNatClampNeg = N' := by have := Int32.toInt_ofNat_of_lt DN; simp only [Int32.toNatClampNeg]; omega
  have p1 : ¬ sp < 0 := by rw [Int32.lt_iff_toInt_lt]; omega
  have p2 : ¬ dp < 0 := by rw [Int32.lt_iff_toInt_lt]; omega
  have p3 : ¬ nn < 0 := by rw [Int32.lt_iff_toInt_lt]; omega
  obtain ⟨p, e, s, m, args, below, meth, c, st⟩ := G
  obtain ⟨hx, hby, hml, hnm, hrt, hlk, hn0, vm0, k0, hS, hk, hZ, hown, T, locs, X, Nf, eT, kk⟩ := A
  obtain ⟨T', h', L', X', e', N2, K2, V2, st'⟩ := cpA X hx hZ hown w1 w2 w3 w4 eT VF VD (Or.inl ⟨rfl, hty⟩) (sp := sp) (dp := dp) (nn := nn) p1 p2 p3 (by rw [c1, c3, eN]; exact h4) (by rw [c2, c3, eN']; exact h5) rfl (by rw [c2, c3]; simpa using h5) Nf gb (g := mkF m pc Ls (.int nn :: .int dp :: .ref b :: .int sp :: .ref a :: St)) rfl (by rw [hml]; exact hsz) rfl (hb hby hd) hf (W := (St.map fun v => v.category).sum) (by show 2 * 0 + _ ≤ _; omega) hlo
  refine ⟨h', K2, ?_, V.mk hx hZ hby hml hown hnm hrt hlk hn0 hS (Nat.le_trans hk K2.1) X' N2 e' (fun t q => kk t (st' t q))⟩
  obtain ⟨cd, Ad, -, Sd, -, Hd, Gd⟩ := V2
  rw [eN'] at Sd
  rw [c1, c2, c3] at Hd Gd
  have key : ∀ x, x < N' → (List.take j ((List.range N').map g) ++ (List.map (fun i_1 => ((List.range N).map f).getD (i + i_1) (.int 0)) (List.range k)) ++ List.drop (j + k) ((List.range N').map g)).getD x (.int 0) = cpy f i g j k x := fun x hx' => by
    simp only [List.getD_eq_getElem?_getD, cpy]
    by_cases q1 : x < j
    · rw [List.getElem?_append_left (by simp; omega), List.getElem?_append_left (by simp; omega), if_neg (by omega)]
      simp [List.getElem?_take, q1, hx']
    · by_cases q2 : x < j + k
      · rw [List.getElem?_append_left (by simp; omega), List.getElem?_append_right (by simp; omega), if_pos (by omega)]
        have l1 : (List.take j ((List.range N').map g)).length = j := by simp; omega
        rw [l1]
        have q3 : x - j < k := by omega
        have q4 : i + (x - j) < N := by omega
        simp [List.getElem?_map, List.getElem?_range, q3, q4]
      · rw [List.getElem?_append_right (by simp; omega), if_neg (by omega)]
        have l1 : (List.take j ((List.range N').map g) ++ (List.map (fun i_1 => (((List.range N).map f)[i + i_1]?).getD (.int 0)) (List.range k))).length = j + k := by simp; omega
        rw [l1, List.getElem?_drop]
        have q3 : j + k + (x - (j + k)) = x := by omega
        rw [q3]; simp [hx']
  refine ⟨cd, Ad, Sd, DN, fun x hx' => ?_⟩
  have a1 := Hd x (by omega)
  have a2 := Gd x (by omega)
  rw [key x hx'] at a1 a2
  exact ⟨a1, a2⟩
theorem V.fin {v : Option Value} (A : V l Z n0 y bytes maxl ret R G h pc Ls St C S) (hC : C ≤ R.cells) (hSl : S ≤ R.slots) (hv : ret = none → v = none) (hQ : Q v h)
    (f : ∀ {p : Program} {e : Env} {s : State} {m : MethodId} {args : Array Value} {below : List Frame} {meth : Method} {c : Code} {T : State} {locs : List Loc} {fs : List Frame}, Stand p l e R s m args below meth c T locs C S → p.tables.exec = Jvm.exec → c.code = bytes → meth.sig.returnType = ret → (∀ (f : JFrame) (acts : List Action), f.method = m → f.locked = none → f.entered = [] → (doReturn e (T.setTop f) acts v).1 = T.setFrames fs) → Steps p.tables e below (T.setTop (mkF m pc Ls St)) (T.setFrames fs)) : GlV R n0 G Q := by
  obtain ⟨p, e, s, m, args, below, meth, c, st⟩ := G
  obtain ⟨hx, hby, hml, hnm, hrt, hlk, hn0, vm0, k0, hS, hk, hZ, hown, T, locs, X, N, eT, k⟩ := A
  obtain ⟨fs, hr, hrun, hended, hE⟩ := X.leaveW hS (by rw [eT]; exact hk) (v := v) (fun q => hv (hrt.symm.trans q)) hlk
  show ∃ s₂ o, _
  refine ⟨_, _, k _ (f X hx hby hrt hr), hrun, hended, v, locs, rfl, ⟨N, ?_⟩, hE.1, hE.2.1, hE.2.2.1, hE.2.2.2.mono hC hSl⟩
  show Q v T.heap
  rw [eT]; exact hQ
theorem V.callS (A : V l Z n0 y bytes maxl ret R G h pc Ls St C S) {y' : MethodName} {bytes' : ByteArray} {maxl' : Nat} {ret' : Option FieldType} {R' : Room} {as : Array Value} {idx : Nat} {argsL rest : List Value} {ps : List FieldType} {rr : Option FieldType} (hd : decode bytes pc = .ok (.invokestatic idx, 3))
    (w1 : (Jvm.Cond.methodLink y.cls idx y').before a0 Z = true) (w2 : (Jvm.Cond.static y').before a0 Z = true) (w3 : (Jvm.Cond.initialized y'.cls).before a0 Z = true) (w4 : (Jvm.Cond.code y' bytes' maxl' ret').before a0 Z = true) (hM : CtrV l Z n0 y' bytes' maxl' ret' [] R' as h Q) (has : argsL.toArray = as) (hs : St = argsL.reverse ++ rest)
    (hpd : parseMethodDescriptor y'.desc = some ⟨ps, rr⟩) (hlen : argsL.length = ps.length) (hsz : Ls.size = maxl) (hy : y'.cls ≠ "java/lang/invoke/MethodHandle" ∧ y'.cls ≠ "java/lang/invoke/VarHandle") (hf : R'.frames + 1 ≤ R.frames) (hlo : (rest.map fun v => v.category).sum + (maxl' + 11) + R'.locals ≤ R.locals) (hC : C + R'.cells ≤ R.cells) (hSl : S + R'.slots ≤ R.slots) (hC' : C + R'.cells = C') (hS' : S + R'.slots = S') (hp : pc + 3 = pc') :
    ∃ v h', Q v h' ∧ V l Z n0 y bytes maxl ret R G h' pc' Ls (v.toList ++ rest) C' S' := by
  subst hp hC' hS' has
  obtain ⟨p, e, s, m, args, below, meth, c, st⟩ := G
  obtain ⟨hx, hby, hml, hnm, hrt, hlk, hn0, vm0, k0, hS, hk, hZ, hown, T, locs, X, N, eT, k⟩ := A
  obtain ⟨v, _, ⟨T', L', k', n'⟩, -, X', hS', hg', ⟨Lc, hQ, l1, y1, z1⟩, st'⟩ := callSS X hx (y := y') hown (mvT hZ w1) (mvT hZ w2) (mvT hZ w3) (mvT hZ w4) hy (backOfS (Q := fun v h L => Fr n0 L ∧ Q v h) (W := (rest.map fun v => v.category).sum) hM hZ w4 w3 hf hlo) (g := mkF m pc Ls St) rfl (by rw [hml]; exact hsz) (argsL := argsL) (rest := rest) (lenOf hpd hlen) hs (by show 2 * 0 + _ ≤ _; omega) (hb hby hd) (fun _ _ => ⟨rfl, eT, hC, hSl⟩)
  dsimp only [Pt.U, Pt.locs, Pt.cells, Pt.slots] at X' hS' hg' l1 y1 z1 st' hQ
  subst l1 y1 z1
  exact ⟨v, T'.heap, hQ.2, by
    obtain ⟨X2, hS2, hZ2, hown2⟩ := rebS hS (by rw [eT]; exact hk) X' hS' hg' hZ hown
    exact V.mk hx hZ2 hby hml hown2 hnm hrt hlk hn0 hS2 (Nat.le_refl _) X2 (N.app hQ.1) rfl (fun t q => k t (st'.trans q))⟩
theorem V.callI (A : V l Z n0 y bytes maxl ret R G h pc Ls St C S) {a : Addr} {y' : MethodName} {bytes' : ByteArray} {maxl' : Nat} {R' : Room} {as : Array Value} {idx : Nat} {argsL rest : List Value} {ps : List FieldType} {rr : Option FieldType} (hd : decode bytes pc = .ok (.invokespecial idx, 3)) (hy1 : y'.name = "<init>")
    (w1 : (Jvm.Cond.methodLink y.cls idx y').before a0 Z = true) (w2 : (Jvm.Cond.instanceMethod y').before a0 Z = true) (w3 : (Jvm.Cond.initialized y'.cls).before a0 Z = true) (w4 : (Jvm.Cond.code y' bytes' maxl' none).before a0 Z = true) (hM : CtrV l Z n0 y' bytes' maxl' none [] R' as h Q) (has : (.ref a :: argsL).toArray = as) (hs : St = argsL.reverse ++ .ref a :: rest)
    (hpd : parseMethodDescriptor y'.desc = some ⟨ps, rr⟩) (hlen : argsL.length = ps.length) (hsz : Ls.size = maxl) (hy : y'.cls ≠ "java/lang/invoke/MethodHandle" ∧ y'.cls ≠ "java/lang/invoke/VarHandle") (hf : R'.frames + 1 ≤ R.frames) (hlo : (rest.map fun v => v.category).sum + (maxl' + 11) + R'.locals ≤ R.locals) (hC : C + R'.cells ≤ R.cells) (hSl : S + R'.slots ≤ R.slots) (hC' : C + R'.cells = C') (hS' : S + R'.slots = S') (hp : pc + 3 = pc') :
    ∃ v h', Q v h' ∧ V l Z n0 y bytes maxl ret R G h' pc' Ls (v.toList ++ rest) C' S' := by
  subst hp hC' hS' has
  obtain ⟨p, e, s, m, args, below, meth, c, st⟩ := G
  obtain ⟨hx, hby, hml, hnm, hrt, hlk, hn0, vm0, k0, hS, hk, hZ, hown, T, locs, X, N, eT, k⟩ := A
  obtain ⟨v, _, ⟨T', L', k', n'⟩, -, X', hS', hg', ⟨Lc, hQ, l1, y1, z1⟩, st'⟩ := X.specialBackS hx (y := y') hy1 hown (mvT hZ w1) (mvT hZ w2) (mvT hZ w4) hy (backOfS (Q := fun v h L => Fr n0 L ∧ Q v h) (W := (rest.map fun v => v.category).sum) hM hZ w4 w3 hf hlo) (g := mkF m pc Ls St) rfl (by rw [hml]; exact hsz) (Steps.refl _) (a := a) (argsL := argsL) (rest := rest) (lenOf hpd hlen) hs (by show 2 * 0 + _ ≤ _; omega) (hb hby hd) (fun _ _ => ⟨rfl, eT, hC, hSl⟩)
  dsimp only [Pt.U, Pt.locs, Pt.cells, Pt.slots] at X' hS' hg' l1 y1 z1 st' hQ
  subst l1 y1 z1
  exact ⟨v, T'.heap, hQ.2, by
    obtain ⟨X2, hS2, hZ2, hown2⟩ := rebS hS (by rw [eT]; exact hk) X' hS' hg' hZ hown
    exact V.mk hx hZ2 hby hml hown2 hnm hrt hlk hn0 hS2 (Nat.le_refl _) X2 (N.app hQ.1) rfl (fun t q => k t (st'.trans q))⟩
theorem V.callV (A : V l Z n0 y bytes maxl ret R G h pc Ls St C S) {a : Addr} {K : String} {y' z' : MethodName} {bytes' : ByteArray} {maxl' : Nat} {ret' : Option FieldType} {R' : Room} {as : Array Value} {idx : Nat} {argsL rest : List Value} {ps : List FieldType} {rr : Option FieldType} (hd : decode bytes pc = .ok (.invokevirtual idx, 3)) (E : Exa Z h a K)
    (w1 : (Jvm.Cond.methodLink y.cls idx y').before a0 Z = true) (wd : (Jvm.Cond.declares y').before a0 Z = true) (hnf : ∀ {s : State}, Z.Warmed39 s.vm → NotFace s y') (ws : (Jvm.Cond.selects K y' z').before a0 Z = true) (w2 : (Jvm.Cond.instanceMethod z').before a0 Z = true) (w3 : (Jvm.Cond.initialized z'.cls).before a0 Z = true) (w4 : (Jvm.Cond.code z' bytes' maxl' ret').before a0 Z = true) (hM : CtrV l Z n0 z' bytes' maxl' ret' [] R' as h Q) (has : (.ref a :: argsL).toArray = as) (hs : St = argsL.reverse ++ .ref a :: rest)
    (hpd : parseMethodDescriptor y'.desc = some ⟨ps, rr⟩) (hlen : argsL.length = ps.length) (hsz : Ls.size = maxl) (hy : y'.cls ≠ "java/lang/invoke/MethodHandle" ∧ y'.cls ≠ "java/lang/invoke/VarHandle") (hf : R'.frames + 1 ≤ R.frames) (hlo : (rest.map fun v => v.category).sum + (maxl' + 11) + R'.locals ≤ R.locals) (hC : C + R'.cells ≤ R.cells) (hSl : S + R'.slots ≤ R.slots) (hC' : C + R'.cells = C') (hS' : S + R'.slots = S') (hp : pc + 3 = pc') :
    ∃ v h', Q v h' ∧ V l Z n0 y bytes maxl ret R G h' pc' Ls (v.toList ++ rest) C' S' := by
  subst hp hC' hS' has
  obtain ⟨p, e, s, m, args, below, meth, c, st⟩ := G
  obtain ⟨hx, hby, hml, hnm, hrt, hlk, hn0, vm0, k0, hS, hk, hZ, hown, T, locs, X, N, eT, k⟩ := A
  obtain ⟨cq, kq, qa, qb, qc⟩ := isOf hZ eT E
  obtain ⟨v, _, ⟨T', L', k', n'⟩, -, X', hS', hg', ⟨Lc, hQ, l1, y1, z1⟩, st'⟩ := X.virtualBackS hx (y := y') (z := z') hown (mvT hZ w1) (mvT hZ wd) (hnf hZ) (mvT hZ ws) (mvT hZ w2) hy (backOfS (Q := fun v h L => Fr n0 L ∧ Q v h) (W := (rest.map fun v => v.category).sum) hM hZ w4 w3 hf hlo) qa qc (g := mkF m pc Ls St) rfl (by rw [hml]; exact hsz) (Steps.refl _) (argsL := argsL) (rest := rest) (lenOf hpd hlen) hs (by show 2 * 0 + _ ≤ _; omega) (hb hby hd) (fun _ _ => ⟨rfl, eT, hC, hSl⟩)
  dsimp only [Pt.U, Pt.locs, Pt.cells, Pt.slots] at X' hS' hg' l1 y1 z1 st' hQ
  subst l1 y1 z1
  exact ⟨v, T'.heap, hQ.2, by
    obtain ⟨X2, hS2, hZ2, hown2⟩ := rebS hS (by rw [eT]; exact hk) X' hS' hg' hZ hown
    exact V.mk hx hZ2 hby hml hown2 hnm hrt hlk hn0 hS2 (Nat.le_refl _) X2 (N.app hQ.1) rfl (fun t q => k t (st'.trans q))⟩
theorem V.callP (A : V l Z n0 y bytes maxl ret R G h pc Ls St C S) {a : Addr} {K : String} {kk : Nat} {y' : MethodName} {bytes' : ByteArray} {maxl' : Nat} {ret' : Option FieldType} {R' : Room} {as : Array Value} {idx : Nat} {argsL rest : List Value} {ps : List FieldType} {rr : Option FieldType} (hd : decode bytes pc = .ok (.invokevirtual idx, 3)) (E : Exa Z h a K)
    (w1 : (Jvm.Cond.methodLink y.cls idx y').before a0 Z = true) (w2 : (Jvm.Cond.instanceMethod y').before a0 Z = true) (wp : (Jvm.Cond.privateMethod y').before a0 Z = true) (wi : (Jvm.Cond.instantiable y'.cls kk).before a0 Z = true) (w3 : (Jvm.Cond.initialized y'.cls).before a0 Z = true) (w4 : (Jvm.Cond.code y' bytes' maxl' ret').before a0 Z = true) (hM : CtrV l Z n0 y' bytes' maxl' ret' [] R' as h Q) (has : (.ref a :: argsL).toArray = as) (hs : St = argsL.reverse ++ .ref a :: rest)
    (hpd : parseMethodDescriptor y'.desc = some ⟨ps, rr⟩) (hlen : argsL.length = ps.length) (hsz : Ls.size = maxl) (hy : y'.cls ≠ "java/lang/invoke/MethodHandle" ∧ y'.cls ≠ "java/lang/invoke/VarHandle") (hf : R'.frames + 1 ≤ R.frames) (hlo : (rest.map fun v => v.category).sum + (maxl' + 11) + R'.locals ≤ R.locals) (hC : C + R'.cells ≤ R.cells) (hSl : S + R'.slots ≤ R.slots) (hC' : C + R'.cells = C') (hS' : S + R'.slots = S') (hp : pc + 3 = pc') :
    ∃ v h', Q v h' ∧ V l Z n0 y bytes maxl ret R G h' pc' Ls (v.toList ++ rest) C' S' := by
  subst hp hC' hS' has
  obtain ⟨p, e, s, m, args, below, meth, c, st⟩ := G
  obtain ⟨hx, hby, hml, hnm, hrt, hlk, hn0, vm0, k0, hS, hk, hZ, hown, T, locs, X, N, eT, k⟩ := A
  obtain ⟨cq, q1, q2⟩ := E.cell
  have hpv := Cond.privateMethod_at (mvP (args := args) hZ wp)
  obtain ⟨ci, ki, i1, i2, -, i3, -, -⟩ := Cond.instantiable_spec (mvT (args := args) hZ wi)
  have hsel := selects_self_of_private (args := args) i1 i2 (Bool.or_eq_false_iff.mp i3).1 hpv (mvT hZ w2) hy
  obtain ⟨v, _, ⟨T', L', k', n'⟩, -, X', hS', hg', ⟨Lc, hQ, l1, y1, z1⟩, st'⟩ := privateBackS X hx (y := y') hown (mvT hZ w1) (mvT hZ w2) hsel hpv (mvT hZ w4) hy (backOfS (Q := fun v h L => Fr n0 L ∧ Q v h) (W := (rest.map fun v => v.category).sum) hM hZ w4 w3 hf hlo) (g := mkF m pc Ls St) rfl (by rw [hml]; exact hsz) (Steps.refl _) (a := a) (by rw [eT]; exact q1) q2 (argsL := argsL) (rest := rest) (lenOf hpd hlen) hs (by show 2 * 0 + _ ≤ _; omega) (hb hby hd) (fun _ _ => ⟨rfl, eT, hC, hSl⟩)
  dsimp only [Pt.U, Pt.locs, Pt.cells, Pt.slots] at X' hS' hg' l1 y1 z1 st' hQ
  subst l1 y1 z1
  exact ⟨v, T'.heap, hQ.2, by
    obtain ⟨X2, hS2, hZ2, hown2⟩ := rebS hS (by rw [eT]; exact hk) X' hS' hg' hZ hown
    exact V.mk hx hZ2 hby hml hown2 hnm hrt hlk hn0 hS2 (Nat.le_refl _) X2 (N.app hQ.1) rfl (fun t q => k t (st'.trans q))⟩
theorem V.retI {z : Int32} (A : V l Z n0 y bytes maxl (some .int) R G h pc Ls (.int z :: St) C S) (hd : decode bytes pc = .ok (.ireturn, 1)) (hC : C ≤ R.cells) (hSl : S ≤ R.slots) (hQ : Q (some (.int z)) h) : GlV R n0 G Q :=
  A.fin hC hSl (fun q => nomatch q) hQ fun X hx q hret hr => retOut X hx hret (t := .int) rfl (Or.inl ⟨rfl, Or.inl rfl, z, rfl⟩) (hb q hd) hr
theorem V.retN {z z' : Int32} {t : FieldType} (A : V l Z n0 y bytes maxl (some t) R G h pc Ls (.int z :: St) C S) (hd : decode bytes pc = .ok (.ireturn, 1)) (hC : C ≤ R.cells) (hSl : S ≤ R.slots) (ht : t = .boolean ∨ t = .byte ∨ t = .char ∨ t = .short) (hz : nar t z = z') (hQ : Q (some (.int z')) h) : GlV R n0 G Q := by
  subst hz; exact A.fin hC hSl (fun q => nomatch q) hQ fun X hx q hret hr => RoadKit.retN X hx hret ht (hb q hd) hr
theorem V.retJ {z : Int64} (A : V l Z n0 y bytes maxl (some .long) R G h pc Ls (.long z :: St) C S) (hd : decode bytes pc = .ok (.lreturn, 1)) (hC : C ≤ R.cells) (hSl : S ≤ R.slots) (hQ : Q (some (.long z)) h) : GlV R n0 G Q :=
  A.fin hC hSl (fun q => nomatch q) hQ fun X hx q hret hr => retOut X hx hret (t := .long) rfl (Or.inr (Or.inl ⟨rfl, rfl, z, rfl⟩)) (hb q hd) hr
theorem V.retA {v : Value} {t : FieldType} (A : V l Z n0 y bytes maxl (some t) R G h pc Ls (v :: St) C S) (hd : decode bytes pc = .ok (.areturn, 1)) (hC : C ≤ R.cells) (hSl : S ≤ R.slots) (ht : t.isReference = true) (hv : v.isRef = true) (hn : narrow t v = v) (hQ : Q (some v) h) : GlV R n0 G Q :=
  A.fin hC hSl (fun q => nomatch q) hQ fun X hx q hret hr => retOut X hx hret (t := t) hn (Or.inr (Or.inr (Or.inr (Or.inr ⟨rfl, ht, hv⟩)))) (hb q hd) hr
theorem V.retV (A : V l Z n0 y bytes maxl none R G h pc Ls [] C S) (hd : decode bytes pc = .ok (.return_, 1)) (hC : C ≤ R.cells) (hSl : S ≤ R.slots) (hQ : Q none h) : GlV R n0 G Q :=
  A.fin hC hSl (fun _ => rfl) hQ fun X hx q hret hr => X.returnOut hx hret (hb q hd) hr
theorem V.kI {P : Int32 → Heap → Prop} {rest : List Value} (q : ∃ v h', QI P v h' ∧ V l Z n0 y bytes maxl ret R G h' pc Ls (v.toList ++ rest) C S) : ∃ r h', P r h' ∧ V l Z n0 y bytes maxl ret R G h' pc Ls (.int r :: rest) C S := by
  obtain ⟨v, h', ⟨r, rfl, hP⟩, A⟩ := q; exact ⟨r, h', hP, A⟩
theorem V.kJ {P : Int64 → Heap → Prop} {rest : List Value} (q : ∃ v h', QJ P v h' ∧ V l Z n0 y bytes maxl ret R G h' pc Ls (v.toList ++ rest) C S) : ∃ r h', P r h' ∧ V l Z n0 y bytes maxl ret R G h' pc Ls (.long r :: rest) C S := by
  obtain ⟨v, h', ⟨r, rfl, hP⟩, A⟩ := q; exact ⟨r, h', hP, A⟩
theorem V.kA {P : Addr → Heap → Prop} {rest : List Value} (q : ∃ v h', QA P v h' ∧ V l Z n0 y bytes maxl ret R G h' pc Ls (v.toList ++ rest) C S) : ∃ r h', P r h' ∧ V l Z n0 y bytes maxl ret R G h' pc Ls (.ref r :: rest) C S := by
  obtain ⟨v, h', ⟨r, rfl, hP⟩, A⟩ := q; exact ⟨r, h', hP, A⟩
theorem V.kV {P : Heap → Prop} {rest : List Value} (q : ∃ v h', QV P v h' ∧ V l Z n0 y bytes maxl ret R G h' pc Ls (v.toList ++ rest) C S) : ∃ h', P h' ∧ V l Z n0 y bytes maxl ret R G h' pc Ls rest C S := by
  obtain ⟨v, h', ⟨rfl, hP⟩, A⟩ := q; exact ⟨h', hP, A⟩
/-- ldc of a String constant -/
theorem V.ldcStr (A : V l Z n0 y bytes maxl ret R G h pc Ls St C S) {i n : Nat} {text : String} (hd : decode bytes pc = .ok (.ldc i, 2)) (w : (Jvm.Cond.stringLink y.cls i text).before a0 Z = true) (wS : ∀ a ∈ Bundle.stringAtoms, a.before a0 Z = true) (hn : 4 * text.toList.length ≤ n) (hbig : n ≤ 536870912) (hC : C + 2 ≤ R.cells) (hSl : S + (n + 4) ≤ R.slots) (hC' : C + 2 = C') (hS' : S + (n + 4) = S') (hp : pc + 2 = pc') :
    ∃ h' a, Ext h h' ∧ V l Z n0 y bytes maxl ret R G h' pc' Ls (.ref a :: St) C' S' := by
  subst hp hC' hS'
  obtain ⟨p, e, s, m, args, below, meth, c, st⟩ := G
  obtain ⟨hx, hby, hml, hnm, hrt, hlk, hn0, vm0, k0, hS, hk, hZ, hown, T, locs, X, N, eT, k⟩ := A
  obtain ⟨a, T', h', k1, X', e', E', hS2, hk2, hZ2, hown2, st'⟩ := RoadKit.ldcS X hx hZ hown w wS eT hS hk (g := mkF m pc Ls St) rfl (hb hby hd) hn hbig hC hSl
  exact ⟨h', a, E', V.mk hx hZ2 hby hml hown2 hnm hrt hlk hn0 hS2 hk2 X' N e' (fun t q => k t (st' t q))⟩
end WalkV
end Jvm.Pilot.@@N@@
namespace Jvm.Pilot.@@N@@
open Jvm Jvm.ClassFile Sem Op Lib Jvm.Free Jvm.Stand Jvm.LawKit Jvm.RoadKit Bundle Jvm.Pilot.@@N@@.Jvm.D
theorem own_sa {Z : State} {a0 : Array Value} (hw : ∀ d ∈ tables_1, d.before a0 Z = true) : ∀ a ∈ Bundle.stringAtoms, a.before a0 Z = true :=
  show ∀ a ∈ ([Jvm.Cond.initialized "java/lang/String", Jvm.Cond.instantiable "java/lang/String" (4 : Nat), Jvm.Cond.arrayClass Jvm.ClassFile.FieldType.byte, Jvm.Cond.laysFinal "java/lang/String" "java/lang/String" "value" "[B", Jvm.Cond.laysFinal "java/lang/String" "java/lang/String" "coder" "B", Jvm.Cond.soleField "java/lang/String" "value", Jvm.Cond.soleField "java/lang/String" "coder"] : List Jvm.Cond), a.before a0 Z = true from by
    intro a ha
    simp only [List.mem_cons, List.not_mem_nil, or_false] at ha
    rcases ha with rfl | rfl | rfl | rfl | rfl | rfl | rfl
    · exact (hw _ (List.mem_of_getElem? (i := 25) rfl))
    · exact (hw _ (List.mem_of_getElem? (i := 26) rfl))
    · exact (hw _ (List.mem_of_getElem? (i := 3) rfl))
    · exact (hw _ (List.mem_of_getElem? (i := 27) rfl))
    · exact (hw _ (List.mem_of_getElem? (i := 28) rfl))
    · exact (hw _ (List.mem_of_getElem? (i := 29) rfl))
    · exact (hw _ (List.mem_of_getElem? (i := 30) rfl))
theorem own_m8 (x : Int32) : (x &&& (255 : Int32)).toInt = x.toInt % 256 := c_mask x 255 8 (by decide) (by decide)
theorem own_m2 (x : Int32) : 0 ≤ (x &&& (3 : Int32)).toInt ∧ (x &&& (3 : Int32)).toInt ≤ 3 := by
  have e : (x &&& (3 : Int32)).toInt = x.toInt % 4 := c_mask x 3 2 (by decide) (by decide)
  omega
theorem own_v1 (x : Int32) (h : 0 ≤ x.toInt ∧ x.toInt ≤ 3) : x.toInt8.toInt32.toInt8.toInt32.toInt = x.toInt := by
  have a := c_i2b x
  have b := c_i2b x.toInt8.toInt32
  omega
theorem own_ev (x : Int32) : ((((x &&& (254 : Int32)).toInt8.toInt32.toInt8.toInt32) &&& (255 : Int32)) &&& (31 : Int32)).toInt ≠ 31 := by
  have a := c_i2b (x &&& (254 : Int32))
  have b := c_i2b (x &&& (254 : Int32)).toInt8.toInt32
  have c1 := own_m8 ((x &&& (254 : Int32)).toInt8.toInt32.toInt8.toInt32)
  have c2 : ((((x &&& (254 : Int32)).toInt8.toInt32.toInt8.toInt32) &&& (255 : Int32)) &&& (31 : Int32)).toInt = (((x &&& (254 : Int32)).toInt8.toInt32.toInt8.toInt32) &&& (255 : Int32)).toInt % 32 := c_mask _ 31 5 (by decide) (by decide)
  have p : (x &&& (254 : Int32)).toInt % 2 = 0 := by
    rw [par]
    have q : (x &&& (254 : Int32)).toBitVec.toNat % 2 = 0 := by
      rw [Int32.toBitVec_and, BitVec.toNat_and]
      have := @Nat.and_mod_two_pow x.toBitVec.toNat (254 : Int32).toBitVec.toNat 1
      rw [show (2 ^ 1 : Nat) = 2 from rfl, show (254 : Int32).toBitVec.toNat % 2 = 0 from by decide, Nat.and_zero] at this
      exact this
    rw [q]; rfl
  omega
theorem pd_0 : parseMethodDescriptor "()V" = some ⟨[], none⟩ := by decide +kernel
theorem pd_1 : parseMethodDescriptor "([BII)V" = some ⟨[(.array .byte), .int, .int], none⟩ := by decide +kernel
theorem pd_2 : parseMethodDescriptor "(Ljava/lang/String;)I" = some ⟨[(.object "java/lang/String")], some .int⟩ := by decide +kernel
theorem pd_3 : parseMethodDescriptor "()Z" = some ⟨[], some .boolean⟩ := by decide +kernel
theorem pd_4 : parseMethodDescriptor "(IZI[BIII)V" = some ⟨[.int, .boolean, .int, (.array .byte), .int, .int, .int], none⟩ := by decide +kernel
theorem pd_5 : parseMethodDescriptor "([B)V" = some ⟨[(.array .byte)], none⟩ := by decide +kernel
theorem pd_6 : parseMethodDescriptor "(Ljava/lang/String;)Lcom/example/sworn_witness/swornwitness/DerReader$Element;" = some ⟨[(.object "java/lang/String")], some (.object "com/example/sworn_witness/swornwitness/DerReader$Element")⟩ := by decide +kernel
theorem pn9 : plainFor (⟨"java/lang/Record", "<init>", "()V"⟩ : MethodName) = true := by first | exact plainFor_of_name (by first | (simp [plainName, overriddenIn]; done) | decide +kernel) | exact Jvm.Free.JP.mathPlain rfl (by decide +kernel) | decide +kernel
theorem d9_0 : decode jdk_30_method_1_code 0 = .ok (.aload_n 0, 1) := by decide +kernel
theorem d9_1 : decode jdk_30_method_1_code 1 = .ok (.invokespecial 1, 3) := by decide +kernel
theorem d9_4 : decode jdk_30_method_1_code 4 = .ok (.return_, 1) := by decide +kernel
abbrev y9 : MethodName := (⟨"java/lang/Record", "<init>", "()V"⟩ : MethodName)
abbrev R9 : Room := { frames := 1, cells := 0, slots := 0, locals := 12 }
set_option maxRecDepth 65536 in
set_option maxHeartbeats 4000000 in
theorem ef9 (a : Addr) (mid : MethodId) : entryFrame mid #[(.ref a)] 1 = mkF mid 0 #[.val (.ref a)] [] := by first | (simp [entryFrame, mkF, argsToLocals, Value.category]; done) | rfl
set_option maxRecDepth 65536 in
set_option maxHeartbeats 40000000 in
theorem rm9 (l : Launch) (Z : State) (a0 : Array Value) (hw : ∀ d ∈ tables_1, d.before a0 Z = true) (n0 : Nat) (ws : List Jvm.Cond) (a : Addr)  (h0 : Heap) (hn0 : n0 ≤ h0.size)  :
    Ctr l Z n0 y9 jdk_30_method_1_code 1 (none) ws R9 #[(.ref a)] h0 (QV fun h => (h0 = h) ∧ (True)) := by
  refine ctr_of pn9 hn0 (ef9 a) fun G A0 => ?_
  have A1 := A0.aloadN (v := (.ref a)) (pc' := 1) d9_0 rfl rfl rfl
  have A2 := A1.initO (pc' := 4) d9_1 (hw _ (List.mem_of_getElem? (i := 56) rfl)) (hw _ (List.mem_of_getElem? (i := 11) rfl)) (hw _ (List.mem_of_getElem? (i := 12) rfl)) rfl (by decide) (Nat.le_of_ble_eq_true rfl) rfl
  refine A2.retV d9_4 (by decide) (by decide) ⟨rfl, ⟨rfl, ?_⟩⟩
  trivial
theorem pn8 : plainFor (⟨"com/example/sworn_witness/swornwitness/DerReader$Element", "<init>", "(IZI[BIII)V"⟩ : MethodName) = true := by first | exact plainFor_of_name (by first | (simp [plainName, overriddenIn]; done) | decide +kernel) | exact Jvm.Free.JP.mathPlain rfl (by decide +kernel) | decide +kernel
theorem d8_0 : decode prog_11_method_1_code 0 = .ok (.aload_n 0, 1) := by decide +kernel
theorem d8_1 : decode prog_11_method_1_code 1 = .ok (.invokespecial 1, 3) := by decide +kernel
theorem d8_4 : decode prog_11_method_1_code 4 = .ok (.aload_n 0, 1) := by decide +kernel
theorem d8_5 : decode prog_11_method_1_code 5 = .ok (.iload_n 1, 1) := by decide +kernel
theorem d8_6 : decode prog_11_method_1_code 6 = .ok (.putfield 7, 3) := by decide +kernel
theorem d8_9 : decode prog_11_method_1_code 9 = .ok (.aload_n 0, 1) := by decide +kernel
theorem d8_10 : decode prog_11_method_1_code 10 = .ok (.iload_n 2, 1) := by decide +kernel
theorem d8_11 : decode prog_11_method_1_code 11 = .ok (.putfield 13, 3) := by decide +kernel
theorem d8_14 : decode prog_11_method_1_code 14 = .ok (.aload_n 0, 1) := by decide +kernel
theorem d8_15 : decode prog_11_method_1_code 15 = .ok (.iload_n 3, 1) := by decide +kernel
theorem d8_16 : decode prog_11_method_1_code 16 = .ok (.putfield 17, 3) := by decide +kernel
theorem d8_19 : decode prog_11_method_1_code 19 = .ok (.aload_n 0, 1) := by decide +kernel
theorem d8_20 : decode prog_11_method_1_code 20 = .ok (.aload 4, 2) := by decide +kernel
theorem d8_22 : decode prog_11_method_1_code 22 = .ok (.putfield 20, 3) := by decide +kernel
theorem d8_25 : decode prog_11_method_1_code 25 = .ok (.aload_n 0, 1) := by decide +kernel
theorem d8_26 : decode prog_11_method_1_code 26 = .ok (.iload 5, 2) := by decide +kernel
theorem d8_28 : decode prog_11_method_1_code 28 = .ok (.putfield 24, 3) := by decide +kernel
theorem d8_31 : decode prog_11_method_1_code 31 = .ok (.aload_n 0, 1) := by decide +kernel
theorem d8_32 : decode prog_11_method_1_code 32 = .ok (.iload 6, 2) := by decide +kernel
theorem d8_34 : decode prog_11_method_1_code 34 = .ok (.putfield 27, 3) := by decide +kernel
theorem d8_37 : decode prog_11_method_1_code 37 = .ok (.aload_n 0, 1) := by decide +kernel
theorem d8_38 : decode prog_11_method_1_code 38 = .ok (.iload 7, 2) := by decide +kernel
theorem d8_40 : decode prog_11_method_1_code 40 = .ok (.putfield 30, 3) := by decide +kernel
theorem d8_43 : decode prog_11_method_1_code 43 = .ok (.return_, 1) := by decide +kernel
abbrev y8 : MethodName := (⟨"com/example/sworn_witness/swornwitness/DerReader$Element", "<init>", "(IZI[BIII)V"⟩ : MethodName)
abbrev R8 : Room := { frames := 2, cells := 0, slots := 0, locals := 24 }
set_option maxRecDepth 65536 in
set_option maxHeartbeats 4000000 in
theorem ef8 (a : Addr) (tc : Int32) (co : Int32) (nu : Int32) (der : Addr) (off : Int32) (st : Int32) (en : Int32) (mid : MethodId) : entryFrame mid #[(.ref a), (.int tc), (.int co), (.int nu), (.ref der), (.int off), (.int st), (.int en)] 8 = mkF mid 0 #[.val (.ref a), .val (.int tc), .val (.int co), .val (.int nu), .val (.ref der), .val (.int off), .val (.int st), .val (.int en)] [] := by first | (simp [entryFrame, mkF, argsToLocals, Value.category]; done) | rfl
set_option maxRecDepth 65536 in
set_option maxHeartbeats 40000000 in
theorem rm8 (l : Launch) (Z : State) (a0 : Array Value) (hw : ∀ d ∈ tables_1, d.before a0 Z = true) (n0 : Nat) (ws : List Jvm.Cond) (a : Addr) (tc : Int32) (co : Int32) (nu : Int32) (der : Addr) (off : Int32) (st : Int32) (en : Int32)  (h0 : Heap) (hn0 : n0 ≤ h0.size) (e0 : Exa Z h0 a "com/example/sworn_witness/swornwitness/DerReader$Element") (e1 : Fld Z h0 a "com/example/sworn_witness/swornwitness/DerReader$Element" "tagClass" "I" (.int (0 : Int32))) (e2 : Fld Z h0 a "com/example/sworn_witness/swornwitness/DerReader$Element" "constructed" "Z" (.int (0 : Int32))) (e3 : Fld Z h0 a "com/example/sworn_witness/swornwitness/DerReader$Element" "number" "I" (.int (0 : Int32))) (e4 : Fld Z h0 a "com/example/sworn_witness/swornwitness/DerReader$Element" "der" "[B" .null) (e5 : Fld Z h0 a "com/example/sworn_witness/swornwitness/DerReader$Element" "offset" "I" (.int (0 : Int32))) (e6 : Fld Z h0 a "com/example/sworn_witness/swornwitness/DerReader$Element" "start" "I" (.int (0 : Int32))) (e7 : Fld Z h0 a "com/example/sworn_witness/swornwitness/DerReader$Element" "end" "I" (.int (0 : Int32))) (e8 : n0 ≤ a) :
    Ctr l Z n0 y8 prog_11_method_1_code 8 (none) ws R8 #[(.ref a), (.int tc), (.int co), (.int nu), (.ref der), (.int off), (.int st), (.int en)] h0 (QV fun h => (Keep h0 h [a]) ∧ (True)) := by
  refine ctr_of pn8 hn0 (ef8 a tc co nu der off st en) fun G A0 => ?_
  have A1 := A0.aloadN (v := (.ref a)) (pc' := 1) d8_0 rfl rfl rfl
  obtain ⟨_, ⟨rfl, q4⟩, A2⟩ := W.kV (A1.callI (a := a) (argsL := []) (rest := []) (C' := 0) (S' := 0) (pc' := 4) d8_1 rfl (hw _ (List.mem_of_getElem? (i := 51) rfl)) (hw _ (List.mem_of_getElem? (i := 52) rfl)) (hw _ (List.mem_of_getElem? (i := 54) rfl)) (hw _ (List.mem_of_getElem? (i := 55) rfl)) (rm9 l Z a0 hw n0 [] (a)  h0 A1.size ) rfl rfl pd_0 rfl rfl (by decide) (by decide) (Nat.le_of_ble_eq_true rfl) (by decide) (by decide) rfl rfl rfl)
  have A6 := A2.aloadN (v := (.ref a)) (pc' := 5) d8_4 rfl rfl rfl
  have A7 := A6.iloadN (v := tc) (pc' := 6) d8_5 rfl rfl
  obtain ⟨h9, w10, A8⟩ := A7.putF (pc' := 9) (ty := .int) (host := "") d8_6 (Or.inl (hw _ (List.mem_of_getElem? (i := 57) rfl))) Via.refl e1 e0 (Or.inr ⟨(hw _ (List.mem_of_getElem? (i := 58) rfl)), rfl, rfl⟩) (hw _ (List.mem_of_getElem? (i := 46) rfl)) (by decide) rfl rfl e8 rfl
  have f11 := e1.same w10
  have A12 := A8.aloadN (v := (.ref a)) (pc' := 10) d8_9 rfl rfl rfl
  have A13 := A12.iloadN (v := co) (pc' := 11) d8_10 rfl rfl
  have f14 := (e2.other w10 (Or.inr (slot_ne (Or.inr (hw _ (List.mem_of_getElem? (i := 60) rfl))) (Or.inr (hw _ (List.mem_of_getElem? (i := 58) rfl))) (by decide) (t := .boolean) (t' := .int) (by decide) (by decide))))
  have f15 := (e0.wr w10)
  obtain ⟨h17, w18, A16⟩ := A13.putFN (pc' := 14) (ty := .boolean) (v' := (.int (nar .boolean co))) d8_11 (hw _ (List.mem_of_getElem? (i := 59) rfl)) Via.refl f14 f15 (Or.inr ⟨(hw _ (List.mem_of_getElem? (i := 60) rfl)), rfl, rfl⟩) (hw _ (List.mem_of_getElem? (i := 46) rfl)) (by decide) rfl (fits_nar_bool _) e8 rfl
  have f19 := f14.same w18
  have A20 := A16.aloadN (v := (.ref a)) (pc' := 15) d8_14 rfl rfl rfl
  have A21 := A20.iloadN (v := nu) (pc' := 16) d8_15 rfl rfl
  have f22 := ((e3.other w10 (Or.inr (slot_ne (Or.inr (hw _ (List.mem_of_getElem? (i := 62) rfl))) (Or.inr (hw _ (List.mem_of_getElem? (i := 58) rfl))) (by decide) (t := .int) (t' := .int) (by decide) (by decide)))).other w18 (Or.inr (slot_ne (Or.inr (hw _ (List.mem_of_getElem? (i := 62) rfl))) (Or.inr (hw _ (List.mem_of_getElem? (i := 60) rfl))) (by decide) (t := .int) (t' := .boolean) (by decide) (by decide))))
  have f23 := (f15.wr w18)
  obtain ⟨h25, w26, A24⟩ := A21.putF (pc' := 19) (ty := .int) (host := "") d8_16 (Or.inl (hw _ (List.mem_of_getElem? (i := 61) rfl))) Via.refl f22 f23 (Or.inr ⟨(hw _ (List.mem_of_getElem? (i := 62) rfl)), rfl, rfl⟩) (hw _ (List.mem_of_getElem? (i := 46) rfl)) (by decide) rfl rfl e8 rfl
  have f27 := f22.same w26
  have A28 := A24.aloadN (v := (.ref a)) (pc' := 20) d8_19 rfl rfl rfl
  have A29 := A28.aload (v := (.ref der)) (pc' := 22) d8_20 rfl rfl rfl
  have f30 := (((e4.other w10 (Or.inr (slot_ne (Or.inr (hw _ (List.mem_of_getElem? (i := 64) rfl))) (Or.inr (hw _ (List.mem_of_getElem? (i := 58) rfl))) (by decide) (t := (.array .byte)) (t' := .int) (by decide) (by decide)))).other w18 (Or.inr (slot_ne (Or.inr (hw _ (List.mem_of_getElem? (i := 64) rfl))) (Or.inr (hw _ (List.mem_of_getElem? (i := 60) rfl))) (by decide) (t := (.array .byte)) (t' := .boolean) (by decide) (by decide)))).other w26 (Or.inr (slot_ne (Or.inr (hw _ (List.mem_of_getElem? (i := 64) rfl))) (Or.inr (hw _ (List.mem_of_getElem? (i := 62) rfl))) (by decide) (t := (.array .byte)) (t' := .int) (by decide) (by decide))))
  have f31 := (f23.wr w26)
  obtain ⟨h33, w34, A32⟩ := A29.putF (pc' := 25) (ty := (.array .byte)) (host := "") d8_22 (Or.inl (hw _ (List.mem_of_getElem? (i := 63) rfl))) Via.refl f30 f31 (Or.inr ⟨(hw _ (List.mem_of_getElem? (i := 64) rfl)), rfl, rfl⟩) (hw _ (List.mem_of_getElem? (i := 46) rfl)) (by decide) rfl rfl e8 rfl
  have f35 := f30.same w34
  have A36 := A32.aloadN (v := (.ref a)) (pc' := 26) d8_25 rfl rfl rfl
  have A37 := A36.iload (v := off) (pc' := 28) d8_26 rfl rfl
  have f38 := ((((e5.other w10 (Or.inr (slot_ne (Or.inr (hw _ (List.mem_of_getElem? (i := 66) rfl))) (Or.inr (hw _ (List.mem_of_getElem? (i := 58) rfl))) (by decide) (t := .int) (t' := .int) (by decide) (by decide)))).other w18 (Or.inr (slot_ne (Or.inr (hw _ (List.mem_of_getElem? (i := 66) rfl))) (Or.inr (hw _ (List.mem_of_getElem? (i := 60) rfl))) (by decide) (t := .int) (t' := .boolean) (by decide) (by decide)))).other w26 (Or.inr (slot_ne (Or.inr (hw _ (List.mem_of_getElem? (i := 66) rfl))) (Or.inr (hw _ (List.mem_of_getElem? (i := 62) rfl))) (by decide) (t := .int) (t' := .int) (by decide) (by decide)))).other w34 (Or.inr (slot_ne (Or.inr (hw _ (List.mem_of_getElem? (i := 66) rfl))) (Or.inr (hw _ (List.mem_of_getElem? (i := 64) rfl))) (by decide) (t := .int) (t' := (.array .byte)) (by decide) (by decide))))
  have f39 := (f31.wr w34)
  obtain ⟨h41, w42, A40⟩ := A37.putF (pc' := 31) (ty := .int) (host := "") d8_28 (Or.inl (hw _ (List.mem_of_getElem? (i := 65) rfl))) Via.refl f38 f39 (Or.inr ⟨(hw _ (List.mem_of_getElem? (i := 66) rfl)), rfl, rfl⟩) (hw _ (List.mem_of_getElem? (i := 46) rfl)) (by decide) rfl rfl e8 rfl
  have f43 := f38.same w42
  have A44 := A40.aloadN (v := (.ref a)) (pc' := 32) d8_31 rfl rfl rfl
  have A45 := A44.iload (v := st) (pc' := 34) d8_32 rfl rfl
  have f46 := (((((e6.other w10 (Or.inr (slot_ne (Or.inr (hw _ (List.mem_of_getElem? (i := 68) rfl))) (Or.inr (hw _ (List.mem_of_getElem? (i := 58) rfl))) (by decide) (t := .int) (t' := .int) (by decide) (by decide)))).other w18 (Or.inr (slot_ne (Or.inr (hw _ (List.mem_of_getElem? (i := 68) rfl))) (Or.inr (hw _ (List.mem_of_getElem? (i := 60) rfl))) (by decide) (t := .int) (t' := .boolean) (by decide) (by decide)))).other w26 (Or.inr (slot_ne (Or.inr (hw _ (List.mem_of_getElem? (i := 68) rfl))) (Or.inr (hw _ (List.mem_of_getElem? (i := 62) rfl))) (by decide) (t := .int) (t' := .int) (by decide) (by decide)))).other w34 (Or.inr (slot_ne (Or.inr (hw _ (List.mem_of_getElem? (i := 68) rfl))) (Or.inr (hw _ (List.mem_of_getElem? (i := 64) rfl))) (by decide) (t := .int) (t' := (.array .byte)) (by decide) (by decide)))).other w42 (Or.inr (slot_ne (Or.inr (hw _ (List.mem_of_getElem? (i := 68) rfl))) (Or.inr (hw _ (List.mem_of_getElem? (i := 66) rfl))) (by decide) (t := .int) (t' := .int) (by decide) (by decide))))
  have f47 := (f39.wr w42)
  obtain ⟨h49, w50, A48⟩ := A45.putF (pc' := 37) (ty := .int) (host := "") d8_34 (Or.inl (hw _ (List.mem_of_getElem? (i := 67) rfl))) Via.refl f46 f47 (Or.inr ⟨(hw _ (List.mem_of_getElem? (i := 68) rfl)), rfl, rfl⟩) (hw _ (List.mem_of_getElem? (i := 46) rfl)) (by decide) rfl rfl e8 rfl
  have f51 := f46.same w50
  have A52 := A48.aloadN (v := (.ref a)) (pc' := 38) d8_37 rfl rfl rfl
  have A53 := A52.iload (v := en) (pc' := 40) d8_38 rfl rfl
  have f54 := ((((((e7.other w10 (Or.inr (slot_ne (Or.inr (hw _ (List.mem_of_getElem? (i := 70) rfl))) (Or.inr (hw _ (List.mem_of_getElem? (i := 58) rfl))) (by decide) (t := .int) (t' := .int) (by decide) (by decide)))).other w18 (Or.inr (slot_ne (Or.inr (hw _ (List.mem_of_getElem? (i := 70) rfl))) (Or.inr (hw _ (List.mem_of_getElem? (i := 60) rfl))) (by decide) (t := .int) (t' := .boolean) (by decide) (by decide)))).other w26 (Or.inr (slot_ne (Or.inr (hw _ (List.mem_of_getElem? (i := 70) rfl))) (Or.inr (hw _ (List.mem_of_getElem? (i := 62) rfl))) (by decide) (t := .int) (t' := .int) (by decide) (by decide)))).other w34 (Or.inr (slot_ne (Or.inr (hw _ (List.mem_of_getElem? (i := 70) rfl))) (Or.inr (hw _ (List.mem_of_getElem? (i := 64) rfl))) (by decide) (t := .int) (t' := (.array .byte)) (by decide) (by decide)))).other w42 (Or.inr (slot_ne (Or.inr (hw _ (List.mem_of_getElem? (i := 70) rfl))) (Or.inr (hw _ (List.mem_of_getElem? (i := 66) rfl))) (by decide) (t := .int) (t' := .int) (by decide) (by decide)))).other w50 (Or.inr (slot_ne (Or.inr (hw _ (List.mem_of_getElem? (i := 70) rfl))) (Or.inr (hw _ (List.mem_of_getElem? (i := 68) rfl))) (by decide) (t := .int) (t' := .int) (by decide) (by decide))))
  have f55 := (f47.wr w50)
  obtain ⟨h57, w58, A56⟩ := A53.putF (pc' := 43) (ty := .int) (host := "") d8_40 (Or.inl (hw _ (List.mem_of_getElem? (i := 69) rfl))) Via.refl f54 f55 (Or.inr ⟨(hw _ (List.mem_of_getElem? (i := 70) rfl)), rfl, rfl⟩) (hw _ (List.mem_of_getElem? (i := 46) rfl)) (by decide) rfl rfl e8 rfl
  have f59 := f54.same w58
  have K60 : Keep h0 h57 [a] := ((((((((Keep.refl h0 [a]).wr w10 (Or.inl (List.mem_of_getElem? (i := 0) rfl))).wr w18 (Or.inl (List.mem_of_getElem? (i := 0) rfl))).wr w26 (Or.inl (List.mem_of_getElem? (i := 0) rfl))).wr w34 (Or.inl (List.mem_of_getElem? (i := 0) rfl))).wr w42 (Or.inl (List.mem_of_getElem? (i := 0) rfl))).wr w50 (Or.inl (List.mem_of_getElem? (i := 0) rfl))).wr w58 (Or.inl (List.mem_of_getElem? (i := 0) rfl)))
  refine A56.retV d8_43 (by decide) (by decide) ⟨rfl, ⟨K60, ?_⟩⟩
  trivial
theorem pn2 : plainFor (⟨"com/example/sworn_witness/swornwitness/DerReader", "<init>", "([BII)V"⟩ : MethodName) = true := by first | exact plainFor_of_name (by first | (simp [plainName, overriddenIn]; done) | decide +kernel) | exact Jvm.Free.JP.mathPlain rfl (by decide +kernel) | decide +kernel
theorem d2_0 : decode prog_10_method_2_code 0 = .ok (.aload_n 0, 1) := by decide +kernel
theorem d2_1 : decode prog_10_method_2_code 1 = .ok (.invokespecial 7, 3) := by decide +kernel
theorem d2_4 : decode prog_10_method_2_code 4 = .ok (.aload_n 0, 1) := by decide +kernel
theorem d2_5 : decode prog_10_method_2_code 5 = .ok (.aload_n 1, 1) := by decide +kernel
theorem d2_6 : decode prog_10_method_2_code 6 = .ok (.putfield 12, 3) := by decide +kernel
theorem d2_9 : decode prog_10_method_2_code 9 = .ok (.aload_n 0, 1) := by decide +kernel
theorem d2_10 : decode prog_10_method_2_code 10 = .ok (.iload_n 2, 1) := by decide +kernel
theorem d2_11 : decode prog_10_method_2_code 11 = .ok (.putfield 16, 3) := by decide +kernel
theorem d2_14 : decode prog_10_method_2_code 14 = .ok (.aload_n 0, 1) := by decide +kernel
theorem d2_15 : decode prog_10_method_2_code 15 = .ok (.iload_n 3, 1) := by decide +kernel
theorem d2_16 : decode prog_10_method_2_code 16 = .ok (.putfield 20, 3) := by decide +kernel
theorem d2_19 : decode prog_10_method_2_code 19 = .ok (.return_, 1) := by decide +kernel
abbrev y2 : MethodName := (⟨"com/example/sworn_witness/swornwitness/DerReader", "<init>", "([BII)V"⟩ : MethodName)
abbrev R2 : Room := { frames := 1, cells := 0, slots := 0, locals := 12 }
set_option maxRecDepth 65536 in
set_option maxHeartbeats 4000000 in
theorem ef2 (a : Addr) (der : Addr) (st : Int32) (en : Int32) (mid : MethodId) : entryFrame mid #[(.ref a), (.ref der), (.int st), (.int en)] 4 = mkF mid 0 #[.val (.ref a), .val (.ref der), .val (.int st), .val (.int en)] [] := by first | (simp [entryFrame, mkF, argsToLocals, Value.category]; done) | rfl
set_option maxRecDepth 65536 in
set_option maxHeartbeats 40000000 in
theorem rm2 (l : Launch) (Z : State) (a0 : Array Value) (hw : ∀ d ∈ tables_1, d.before a0 Z = true) (n0 : Nat) (ws : List Jvm.Cond) (a : Addr) (der : Addr) (st : Int32) (en : Int32)  (h0 : Heap) (hn0 : n0 ≤ h0.size) (e0 : Exa Z h0 a "com/example/sworn_witness/swornwitness/DerReader") (e1 : Fld Z h0 a "com/example/sworn_witness/swornwitness/DerReader" "der" "[B" .null) (e2 : Fld Z h0 a "com/example/sworn_witness/swornwitness/DerReader" "position" "I" (.int (0 : Int32))) (e3 : Fld Z h0 a "com/example/sworn_witness/swornwitness/DerReader" "end" "I" (.int (0 : Int32))) (e4 : n0 ≤ a) :
    Ctr l Z n0 y2 prog_10_method_2_code 4 (none) ws R2 #[(.ref a), (.ref der), (.int st), (.int en)] h0 (QV fun h => (Keep h0 h [a]) ∧ (Fld Z h a "com/example/sworn_witness/swornwitness/DerReader" "der" "[B" (.ref der)) ∧ (Fld Z h a "com/example/sworn_witness/swornwitness/DerReader" "position" "I" (.int st)) ∧ (Fld Z h a "com/example/sworn_witness/swornwitness/DerReader" "end" "I" (.int en)) ∧ (True)) := by
  refine ctr_of pn2 hn0 (ef2 a der st en) fun G A0 => ?_
  have A1 := A0.aloadN (v := (.ref a)) (pc' := 1) d2_0 rfl rfl rfl
  have A2 := A1.initO (pc' := 4) d2_1 (hw _ (List.mem_of_getElem? (i := 10) rfl)) (hw _ (List.mem_of_getElem? (i := 11) rfl)) (hw _ (List.mem_of_getElem? (i := 12) rfl)) rfl (by decide) (Nat.le_of_ble_eq_true rfl) rfl
  have A3 := A2.aloadN (v := (.ref a)) (pc' := 5) d2_4 rfl rfl rfl
  have A4 := A3.aloadN (v := (.ref der)) (pc' := 6) d2_5 rfl rfl rfl
  obtain ⟨h6, w7, A5⟩ := A4.putF (pc' := 9) (ty := (.array .byte)) (host := "") d2_6 (Or.inl (hw _ (List.mem_of_getElem? (i := 13) rfl))) Via.refl e1 e0 (Or.inr ⟨(hw _ (List.mem_of_getElem? (i := 14) rfl)), rfl, rfl⟩) (hw _ (List.mem_of_getElem? (i := 1) rfl)) (by decide) rfl rfl e4 rfl
  have f8 := e1.same w7
  have A9 := A5.aloadN (v := (.ref a)) (pc' := 10) d2_9 rfl rfl rfl
  have A10 := A9.iloadN (v := st) (pc' := 11) d2_10 rfl rfl
  have f11 := (e2.other w7 (Or.inr (slot_ne (Or.inl (hw _ (List.mem_of_getElem? (i := 16) rfl))) (Or.inr (hw _ (List.mem_of_getElem? (i := 14) rfl))) (by decide) (t := .int) (t' := (.array .byte)) (by decide) (by decide))))
  have f12 := (e0.wr w7)
  obtain ⟨h14, w15, A13⟩ := A10.putF (pc' := 14) (ty := .int) (host := "") d2_11 (Or.inl (hw _ (List.mem_of_getElem? (i := 15) rfl))) Via.refl f11 f12 (Or.inl (hw _ (List.mem_of_getElem? (i := 16) rfl))) (hw _ (List.mem_of_getElem? (i := 1) rfl)) (by decide) rfl rfl e4 rfl
  have f16 := f11.same w15
  have A17 := A13.aloadN (v := (.ref a)) (pc' := 15) d2_14 rfl rfl rfl
  have A18 := A17.iloadN (v := en) (pc' := 16) d2_15 rfl rfl
  have f19 := ((e3.other w7 (Or.inr (slot_ne (Or.inr (hw _ (List.mem_of_getElem? (i := 18) rfl))) (Or.inr (hw _ (List.mem_of_getElem? (i := 14) rfl))) (by decide) (t := .int) (t' := (.array .byte)) (by decide) (by decide)))).other w15 (Or.inr (slot_ne (Or.inr (hw _ (List.mem_of_getElem? (i := 18) rfl))) (Or.inl (hw _ (List.mem_of_getElem? (i := 16) rfl))) (by decide) (t := .int) (t' := .int) (by decide) (by decide))))
  have f20 := (f12.wr w15)
  obtain ⟨h22, w23, A21⟩ := A18.putF (pc' := 19) (ty := .int) (host := "") d2_16 (Or.inl (hw _ (List.mem_of_getElem? (i := 17) rfl))) Via.refl f19 f20 (Or.inr ⟨(hw _ (List.mem_of_getElem? (i := 18) rfl)), rfl, rfl⟩) (hw _ (List.mem_of_getElem? (i := 1) rfl)) (by decide) rfl rfl e4 rfl
  have f24 := f19.same w23
  have K25 : Keep h0 h22 [a] := ((((Keep.refl h0 [a]).wr w7 (Or.inl (List.mem_of_getElem? (i := 0) rfl))).wr w15 (Or.inl (List.mem_of_getElem? (i := 0) rfl))).wr w23 (Or.inl (List.mem_of_getElem? (i := 0) rfl)))
  have f26 := ((f8.other w15 (Or.inr (slot_ne (Or.inr (hw _ (List.mem_of_getElem? (i := 14) rfl))) (Or.inl (hw _ (List.mem_of_getElem? (i := 16) rfl))) (by decide) (t := (.array .byte)) (t' := .int) (by decide) (by decide)))).other w23 (Or.inr (slot_ne (Or.inr (hw _ (List.mem_of_getElem? (i := 14) rfl))) (Or.inr (hw _ (List.mem_of_getElem? (i := 18) rfl))) (by decide) (t := (.array .byte)) (t' := .int) (by decide) (by decide))))
  have f27 := (f16.other w23 (Or.inr (slot_ne (Or.inl (hw _ (List.mem_of_getElem? (i := 16) rfl))) (Or.inr (hw _ (List.mem_of_getElem? (i := 18) rfl))) (by decide) (t := .int) (t' := .int) (by decide) (by decide))))
  refine A21.retV d2_19 (by decide) (by decide) ⟨rfl, ⟨K25, f26, f27, f24, ?_⟩⟩
  trivial
theorem pn1 : plainFor (⟨"com/example/sworn_witness/swornwitness/DerReader", "<init>", "([B)V"⟩ : MethodName) = true := by first | exact plainFor_of_name (by first | (simp [plainName, overriddenIn]; done) | decide +kernel) | exact Jvm.Free.JP.mathPlain rfl (by decide +kernel) | decide +kernel
theorem d1_0 : decode prog_10_method_1_code 0 = .ok (.aload_n 0, 1) := by decide +kernel
theorem d1_1 : decode prog_10_method_1_code 1 = .ok (.aload_n 1, 1) := by decide +kernel
theorem d1_2 : decode prog_10_method_1_code 2 = .ok (.iconst 0, 1) := by decide +kernel
theorem d1_3 : decode prog_10_method_1_code 3 = .ok (.aload_n 1, 1) := by decide +kernel
theorem d1_4 : decode prog_10_method_1_code 4 = .ok (.arraylength, 1) := by decide +kernel
theorem d1_5 : decode prog_10_method_1_code 5 = .ok (.invokespecial 1, 3) := by decide +kernel
theorem d1_8 : decode prog_10_method_1_code 8 = .ok (.return_, 1) := by decide +kernel
abbrev y1 : MethodName := (⟨"com/example/sworn_witness/swornwitness/DerReader", "<init>", "([B)V"⟩ : MethodName)
abbrev R1 : Room := { frames := 2, cells := 0, slots := 0, locals := 27 }
set_option maxRecDepth 65536 in
set_option maxHeartbeats 4000000 in
theorem ef1 (a : Addr) (der : Addr) (mid : MethodId) : entryFrame mid #[(.ref a), (.ref der)] 2 = mkF mid 0 #[.val (.ref a), .val (.ref der)] [] := by first | (simp [entryFrame, mkF, argsToLocals, Value.category]; done) | rfl
set_option maxRecDepth 65536 in
set_option maxHeartbeats 40000000 in
theorem rm1 (l : Launch) (Z : State) (a0 : Array Value) (hw : ∀ d ∈ tables_1, d.before a0 Z = true) (n0 : Nat) (ws : List Jvm.Cond) (a : Addr) (der : Addr) (N : Nat) (f : Nat → Value) (h0 : Heap) (hn0 : n0 ≤ h0.size) (e0 : Exa Z h0 a "com/example/sworn_witness/swornwitness/DerReader") (e1 : Fld Z h0 a "com/example/sworn_witness/swornwitness/DerReader" "der" "[B" .null) (e2 : Fld Z h0 a "com/example/sworn_witness/swornwitness/DerReader" "position" "I" (.int (0 : Int32))) (e3 : Fld Z h0 a "com/example/sworn_witness/swornwitness/DerReader" "end" "I" (.int (0 : Int32))) (e4 : n0 ≤ a) (e5 : Ars Z h0 der .byte N f) :
    Ctr l Z n0 y1 prog_10_method_1_code 2 (none) ws R1 #[(.ref a), (.ref der)] h0 (QV fun h => (Keep h0 h [a]) ∧ (Fld Z h a "com/example/sworn_witness/swornwitness/DerReader" "der" "[B" (.ref der)) ∧ (Fld Z h a "com/example/sworn_witness/swornwitness/DerReader" "position" "I" (.int (0 : Int32))) ∧ (Fld Z h a "com/example/sworn_witness/swornwitness/DerReader" "end" "I" (.int (Int32.ofNat N))) ∧ (True)) := by
  refine ctr_of pn1 hn0 (ef1 a der) fun G A0 => ?_
  have A1 := A0.aloadN (v := (.ref a)) (pc' := 1) d1_0 rfl rfl rfl
  have A2 := A1.aloadN (v := (.ref der)) (pc' := 2) d1_1 rfl rfl rfl
  have A3 := A2.iconst (z := (0 : Int32)) (pc' := 3) d1_2 rfl rfl
  have A4 := A3.aloadN (v := (.ref der)) (pc' := 4) d1_3 rfl rfl rfl
  have A5 := A4.alen (z := (Int32.ofNat N)) (pc' := 5) d1_4 e5 (Int32.toInt_ofNat_small e5.size) rfl
  obtain ⟨h9, ⟨K10, f11, f12, f13, q8⟩, A6⟩ := W.kV (A5.callI (a := a) (argsL := [(.ref der), (.int (0 : Int32)), (.int (Int32.ofNat N))]) (rest := []) (C' := 0) (S' := 0) (pc' := 8) d1_5 rfl (hw _ (List.mem_of_getElem? (i := 7) rfl)) (hw _ (List.mem_of_getElem? (i := 8) rfl)) (hw _ (List.mem_of_getElem? (i := 2) rfl)) (hw _ (List.mem_of_getElem? (i := 9) rfl)) (rm2 l Z a0 hw n0 [] (a) (der) ((0 : Int32)) ((Int32.ofNat N))  h0 A5.size e0 e1 e2 e3 e4) rfl rfl pd_1 rfl rfl (by decide) (by decide) (Nat.le_of_ble_eq_true rfl) (by decide) (by decide) rfl rfl rfl)
  have K14 : Keep h0 h9 [a] := ((Keep.refl h0 [a]).trans K10 (allS (Or.inl (List.mem_of_getElem? (i := 0) rfl)) all0))
  refine A6.retV d1_8 (by decide) (by decide) ⟨rfl, ⟨K14, f11, f12, f13, ?_⟩⟩
  trivial
theorem pn4 : plainFor (⟨"com/example/sworn_witness/swornwitness/DerReader", "hasNext", "()Z"⟩ : MethodName) = true := by first | exact plainFor_of_name (by first | (simp [plainName, overriddenIn]; done) | decide +kernel) | exact Jvm.Free.JP.mathPlain rfl (by decide +kernel) | decide +kernel
theorem d4_0 : decode prog_10_method_3_code 0 = .ok (.aload_n 0, 1) := by decide +kernel
theorem d4_1 : decode prog_10_method_3_code 1 = .ok (.getfield 16, 3) := by decide +kernel
theorem d4_4 : decode prog_10_method_3_code 4 = .ok (.aload_n 0, 1) := by decide +kernel
theorem d4_5 : decode prog_10_method_3_code 5 = .ok (.getfield 20, 3) := by decide +kernel
theorem d4_8 : decode prog_10_method_3_code 8 = .ok (.if_icmp .ge 7, 3) := by decide +kernel
theorem d4_11 : decode prog_10_method_3_code 11 = .ok (.iconst 1, 1) := by decide +kernel
theorem d4_12 : decode prog_10_method_3_code 12 = .ok (.goto 4, 3) := by decide +kernel
theorem d4_15 : decode prog_10_method_3_code 15 = .ok (.iconst 0, 1) := by decide +kernel
theorem d4_16 : decode prog_10_method_3_code 16 = .ok (.ireturn, 1) := by decide +kernel
abbrev y4 : MethodName := (⟨"com/example/sworn_witness/swornwitness/DerReader", "hasNext", "()Z"⟩ : MethodName)
abbrev R4 : Room := { frames := 0, cells := 0, slots := 0, locals := 0 }
set_option maxRecDepth 65536 in
set_option maxHeartbeats 4000000 in
theorem ef4 (a : Addr) (mid : MethodId) : entryFrame mid #[(.ref a)] 1 = mkF mid 0 #[.val (.ref a)] [] := by first | (simp [entryFrame, mkF, argsToLocals, Value.category]; done) | rfl
set_option maxRecDepth 65536 in
set_option maxHeartbeats 40000000 in
theorem rm4 (l : Launch) (Z : State) (a0 : Array Value) (hw : ∀ d ∈ tables_1, d.before a0 Z = true) (n0 : Nat) (ws : List Jvm.Cond) (a : Addr) (p : Int32) (e : Int32) (h0 : Heap) (hn0 : n0 ≤ h0.size) (e0 : Fld Z h0 a "com/example/sworn_witness/swornwitness/DerReader" "position" "I" (.int p)) (e1 : Fld Z h0 a "com/example/sworn_witness/swornwitness/DerReader" "end" "I" (.int e)) :
    Ctr l Z n0 y4 prog_10_method_3_code 1 (some .boolean) ws R4 #[(.ref a)] h0 (QI fun r h => (h0 = h) ∧ ((r.toInt = 1 ∧ p.toInt < e.toInt) ∨ (r.toInt = 0 ∧ ¬ p.toInt < e.toInt))) := by
  refine ctr_of pn4 hn0 (ef4 a) fun G A0 => ?_
  have A1 := A0.aloadN (v := (.ref a)) (pc' := 1) d4_0 rfl rfl rfl
  have A2 := A1.getF (pc' := 4) (host := "") d4_1 (Or.inl (hw _ (List.mem_of_getElem? (i := 15) rfl))) Via.refl e0 rfl
  have A3 := A2.aloadN (v := (.ref a)) (pc' := 5) d4_4 rfl rfl rfl
  have A4 := A3.getF (pc' := 8) (host := "") d4_5 (Or.inl (hw _ (List.mem_of_getElem? (i := 17) rfl))) Via.refl e1 rfl
  by_cases c5 : p.toInt < e.toInt
  · have A6 := A4.icmpNo (pc' := 11) d4_8 (tlt (ilt (x := p) (y := e) rfl rfl c5)).2.1 rfl
    have A7 := A6.iconst (z := (1 : Int32)) (pc' := 12) d4_11 rfl rfl
    have A8 := A7.goto (pc' := 16) d4_12 (by decide) (by decide)
    refine A8.retN (t := .boolean) (z' := (1 : Int32)) d4_16 (by decide) (by decide) (by simp) rfl ⟨_, rfl, ⟨rfl, ?_⟩⟩
    have elit : (1 : Int32).toInt = 1 := rfl
    omega
  · have A9 := A4.icmpYes (pc' := 15) d4_8 (flt (inlt (x := p) (y := e) rfl rfl c5)).2.1 (by decide) (by decide)
    have A10 := A9.iconst (z := (0 : Int32)) (pc' := 16) d4_15 rfl rfl
    refine A10.retN (t := .boolean) (z' := (0 : Int32)) d4_16 (by decide) (by decide) (by simp) rfl ⟨_, rfl, ⟨rfl, ?_⟩⟩
    have elit : (0 : Int32).toInt = 0 := rfl
    omega
theorem pn6 : plainFor (⟨"com/example/sworn_witness/swornwitness/DerReader", "octet", "(Ljava/lang/String;)I"⟩ : MethodName) = true := by first | exact plainFor_of_name (by first | (simp [plainName, overriddenIn]; done) | decide +kernel) | exact Jvm.Free.JP.mathPlain rfl (by decide +kernel) | decide +kernel
theorem d6_0 : decode prog_10_method_17_code 0 = .ok (.aload_n 0, 1) := by decide +kernel
theorem d6_1 : decode prog_10_method_17_code 1 = .ok (.getfield 16, 3) := by decide +kernel
theorem d6_4 : decode prog_10_method_17_code 4 = .ok (.aload_n 0, 1) := by decide +kernel
theorem d6_5 : decode prog_10_method_17_code 5 = .ok (.getfield 20, 3) := by decide +kernel
theorem d6_8 : decode prog_10_method_17_code 8 = .ok (.if_icmp .lt 10, 3) := by decide +kernel
theorem d6_18 : decode prog_10_method_17_code 18 = .ok (.aload_n 0, 1) := by decide +kernel
theorem d6_19 : decode prog_10_method_17_code 19 = .ok (.getfield 12, 3) := by decide +kernel
theorem d6_22 : decode prog_10_method_17_code 22 = .ok (.aload_n 0, 1) := by decide +kernel
theorem d6_23 : decode prog_10_method_17_code 23 = .ok (.dup, 1) := by decide +kernel
theorem d6_24 : decode prog_10_method_17_code 24 = .ok (.getfield 16, 3) := by decide +kernel
theorem d6_27 : decode prog_10_method_17_code 27 = .ok (.dup_x1, 1) := by decide +kernel
theorem d6_28 : decode prog_10_method_17_code 28 = .ok (.iconst 1, 1) := by decide +kernel
theorem d6_29 : decode prog_10_method_17_code 29 = .ok (.iadd, 1) := by decide +kernel
theorem d6_30 : decode prog_10_method_17_code 30 = .ok (.putfield 16, 3) := by decide +kernel
theorem d6_33 : decode prog_10_method_17_code 33 = .ok (.baload, 1) := by decide +kernel
theorem d6_34 : decode prog_10_method_17_code 34 = .ok (.sipush 255, 3) := by decide +kernel
theorem d6_37 : decode prog_10_method_17_code 37 = .ok (.iand, 1) := by decide +kernel
theorem d6_38 : decode prog_10_method_17_code 38 = .ok (.ireturn, 1) := by decide +kernel
abbrev y6 : MethodName := (⟨"com/example/sworn_witness/swornwitness/DerReader", "octet", "(Ljava/lang/String;)I"⟩ : MethodName)
abbrev R6 : Room := { frames := 0, cells := 0, slots := 0, locals := 0 }
set_option maxRecDepth 65536 in
set_option maxHeartbeats 4000000 in
theorem ef6 (a : Addr) (wh : Addr) (mid : MethodId) : entryFrame mid #[(.ref a), (.ref wh)] 2 = mkF mid 0 #[.val (.ref a), .val (.ref wh)] [] := by first | (simp [entryFrame, mkF, argsToLocals, Value.category]; done) | rfl
set_option maxRecDepth 65536 in
set_option maxHeartbeats 40000000 in
theorem rm6 (l : Launch) (Z : State) (a0 : Array Value) (hw : ∀ d ∈ tables_1, d.before a0 Z = true) (n0 : Nat) (ws : List Jvm.Cond) (a : Addr) (wh : Addr) (u : Addr) (N : Nat) (f : Nat → Value) (p : Int32) (e : Int32) (v : Int32) (h0 : Heap) (hn0 : n0 ≤ h0.size) (e0 : Exa Z h0 a "com/example/sworn_witness/swornwitness/DerReader") (e1 : n0 ≤ a) (e2 : Fld Z h0 a "com/example/sworn_witness/swornwitness/DerReader" "der" "[B" (.ref u)) (e3 : Fld Z h0 a "com/example/sworn_witness/swornwitness/DerReader" "position" "I" (.int p)) (e4 : Fld Z h0 a "com/example/sworn_witness/swornwitness/DerReader" "end" "I" (.int e)) (e5 : Ars Z h0 u .byte N f) (e6 : a ≠ u) (e7 : 0 ≤ p.toInt ∧ p.toInt < e.toInt ∧ e.toInt ≤ N ∧ N ≤ 8) (e8 : f p.toInt.toNat = .int v) :
    Ctr l Z n0 y6 prog_10_method_17_code 2 (some .int) ws R6 #[(.ref a), (.ref wh)] h0 (QI fun r h => ∃ p2 : Int32, (Keep h0 h [a]) ∧ (Fld Z h a "com/example/sworn_witness/swornwitness/DerReader" "der" "[B" (.ref u)) ∧ (Fld Z h a "com/example/sworn_witness/swornwitness/DerReader" "position" "I" (.int p2)) ∧ (Fld Z h a "com/example/sworn_witness/swornwitness/DerReader" "end" "I" (.int e)) ∧ (r = v &&& (255 : Int32) ∧ p2.toInt = p.toInt + 1)) := by
  refine ctr_of pn6 hn0 (ef6 a wh) fun G A0 => ?_
  have t1 := addc32 p (1 : Int32) 1 rfl (by omega) (by omega)
  have A1 := A0.aloadN (v := (.ref a)) (pc' := 1) d6_0 rfl rfl rfl
  have A2 := A1.getF (pc' := 4) (host := "") d6_1 (Or.inl (hw _ (List.mem_of_getElem? (i := 15) rfl))) Via.refl e3 rfl
  have A3 := A2.aloadN (v := (.ref a)) (pc' := 5) d6_4 rfl rfl rfl
  have A4 := A3.getF (pc' := 8) (host := "") d6_5 (Or.inl (hw _ (List.mem_of_getElem? (i := 17) rfl))) Via.refl e4 rfl
  by_cases c5 : p.toInt < e.toInt
  · have A7 := A4.icmpYes (pc' := 18) d6_8 (tlt (ilt (x := p) (y := e) rfl rfl c5)).1 (by decide) (by decide)
    have A9 := A7.aloadN (v := (.ref a)) (pc' := 19) d6_18 rfl rfl rfl
    have A10 := A9.getF (pc' := 22) (host := "") d6_19 (Or.inl (hw _ (List.mem_of_getElem? (i := 13) rfl))) Via.refl e2 rfl
    have A11 := A10.aloadN (v := (.ref a)) (pc' := 23) d6_22 rfl rfl rfl
    have A12 := A11.dup (pc' := 24) d6_23 rfl rfl
    have A13 := A12.getF (pc' := 27) (host := "") d6_24 (Or.inl (hw _ (List.mem_of_getElem? (i := 15) rfl))) Via.refl e3 rfl
    have A14 := A13.dupX1 (pc' := 28) d6_27 rfl rfl rfl
    have A15 := A14.iconst (z := (1 : Int32)) (pc' := 29) d6_28 rfl rfl
    have A16 := A15.iadd (pc' := 30) d6_29 rfl
    obtain ⟨h18, w19, A17⟩ := A16.putF (pc' := 33) (ty := .int) (host := "") d6_30 (Or.inl (hw _ (List.mem_of_getElem? (i := 15) rfl))) Via.refl e3 e0 (Or.inl (hw _ (List.mem_of_getElem? (i := 16) rfl))) (hw _ (List.mem_of_getElem? (i := 1) rfl)) (by decide) rfl rfl e1 rfl
    have f20 := e3.same w19
    have f21 := (e5.other w19 (Ne.symm e6))
    have A22 := A17.baload (i := p.toInt.toNat) (v := (.int v)) (pc' := 34) d6_33 f21 (by omega) (by omega) e8 rfl
    have A23 := A22.sipush (z := (255 : Int32)) (pc' := 37) d6_34 rfl rfl
    have A24 := A23.iand (pc' := 38) d6_37 rfl
    have K25 : Keep h0 h18 [a] := ((Keep.refl h0 [a]).wr w19 (Or.inl (List.mem_of_getElem? (i := 0) rfl)))
    have f26 := (e2.other w19 (Or.inr (slot_ne (Or.inr (hw _ (List.mem_of_getElem? (i := 14) rfl))) (Or.inl (hw _ (List.mem_of_getElem? (i := 16) rfl))) (by decide) (t := (.array .byte)) (t' := .int) (by decide) (by decide))))
    have f27 := (e4.other w19 (Or.inr (slot_ne (Or.inr (hw _ (List.mem_of_getElem? (i := 18) rfl))) (Or.inl (hw _ (List.mem_of_getElem? (i := 16) rfl))) (by decide) (t := .int) (t' := .int) (by decide) (by decide))))
    refine A24.retI d6_38 (by decide) (by decide) ⟨_, rfl, ⟨(p + (1 : Int32)), K25, f26, f20, f27, ?_⟩⟩
    exact ⟨rfl, t1⟩
  · exfalso
    omega
theorem pn7 : plainFor (⟨"com/example/sworn_witness/swornwitness/DerReader", "length", "(Ljava/lang/String;)I"⟩ : MethodName) = true := by first | exact plainFor_of_name (by first | (simp [plainName, overriddenIn]; done) | decide +kernel) | exact Jvm.Free.JP.mathPlain rfl (by decide +kernel) | decide +kernel
theorem d7_0 : decode prog_10_method_19_code 0 = .ok (.aload_n 0, 1) := by decide +kernel
theorem d7_1 : decode prog_10_method_19_code 1 = .ok (.aload_n 1, 1) := by decide +kernel
theorem d7_2 : decode prog_10_method_19_code 2 = .ok (.invokevirtual 33, 3) := by decide +kernel
theorem d7_5 : decode prog_10_method_19_code 5 = .ok (.istore_n 2, 1) := by decide +kernel
theorem d7_6 : decode prog_10_method_19_code 6 = .ok (.iload_n 2, 1) := by decide +kernel
theorem d7_7 : decode prog_10_method_19_code 7 = .ok (.istore_n 3, 1) := by decide +kernel
theorem d7_8 : decode prog_10_method_19_code 8 = .ok (.iload_n 2, 1) := by decide +kernel
theorem d7_9 : decode prog_10_method_19_code 9 = .ok (.sipush 128, 3) := by decide +kernel
theorem d7_12 : decode prog_10_method_19_code 12 = .ok (.if_icmp .ne 10, 3) := by decide +kernel
theorem d7_22 : decode prog_10_method_19_code 22 = .ok (.iload_n 2, 1) := by decide +kernel
theorem d7_23 : decode prog_10_method_19_code 23 = .ok (.sipush 128, 3) := by decide +kernel
theorem d7_26 : decode prog_10_method_19_code 26 = .ok (.if_icmp .le 94, 3) := by decide +kernel
theorem d7_120 : decode prog_10_method_19_code 120 = .ok (.iload_n 3, 1) := by decide +kernel
theorem d7_121 : decode prog_10_method_19_code 121 = .ok (.aload_n 0, 1) := by decide +kernel
theorem d7_122 : decode prog_10_method_19_code 122 = .ok (.getfield 20, 3) := by decide +kernel
theorem d7_125 : decode prog_10_method_19_code 125 = .ok (.aload_n 0, 1) := by decide +kernel
theorem d7_126 : decode prog_10_method_19_code 126 = .ok (.getfield 16, 3) := by decide +kernel
theorem d7_129 : decode prog_10_method_19_code 129 = .ok (.isub, 1) := by decide +kernel
theorem d7_130 : decode prog_10_method_19_code 130 = .ok (.if_icmp .le 23, 3) := by decide +kernel
theorem d7_153 : decode prog_10_method_19_code 153 = .ok (.iload_n 3, 1) := by decide +kernel
theorem d7_154 : decode prog_10_method_19_code 154 = .ok (.ireturn, 1) := by decide +kernel
abbrev y7 : MethodName := (⟨"com/example/sworn_witness/swornwitness/DerReader", "length", "(Ljava/lang/String;)I"⟩ : MethodName)
abbrev R7 : Room := { frames := 1, cells := 0, slots := 0, locals := 13 }
set_option maxRecDepth 65536 in
set_option maxHeartbeats 4000000 in
theorem ef7 (a : Addr) (wh : Addr) (mid : MethodId) : entryFrame mid #[(.ref a), (.ref wh)] 6 = mkF mid 0 #[.val (.ref a), .val (.ref wh), .unset, .unset, .unset, .unset] [] := by first | (simp [entryFrame, mkF, argsToLocals, Value.category]; done) | rfl
set_option maxRecDepth 65536 in
set_option maxHeartbeats 40000000 in
theorem rm7 (l : Launch) (Z : State) (a0 : Array Value) (hw : ∀ d ∈ tables_1, d.before a0 Z = true) (n0 : Nat) (ws : List Jvm.Cond) (a : Addr) (wh : Addr) (u : Addr) (N : Nat) (f : Nat → Value) (p : Int32) (e : Int32) (v : Int32) (h0 : Heap) (hn0 : n0 ≤ h0.size) (e0 : Exa Z h0 a "com/example/sworn_witness/swornwitness/DerReader") (e1 : n0 ≤ a) (e2 : Fld Z h0 a "com/example/sworn_witness/swornwitness/DerReader" "der" "[B" (.ref u)) (e3 : Fld Z h0 a "com/example/sworn_witness/swornwitness/DerReader" "position" "I" (.int p)) (e4 : Fld Z h0 a "com/example/sworn_witness/swornwitness/DerReader" "end" "I" (.int e)) (e5 : Ars Z h0 u .byte N f) (e6 : a ≠ u) (e7 : 0 ≤ p.toInt ∧ p.toInt + 1 + v.toInt ≤ e.toInt ∧ e.toInt ≤ N ∧ N ≤ 8 ∧ 0 ≤ v.toInt ∧ v.toInt ≤ 3) (e8 : f p.toInt.toNat = .int v) :
    Ctr l Z n0 y7 prog_10_method_19_code 6 (some .int) ws R7 #[(.ref a), (.ref wh)] h0 (QI fun r h => ∃ p2 : Int32, (Keep h0 h [a]) ∧ (Fld Z h a "com/example/sworn_witness/swornwitness/DerReader" "der" "[B" (.ref u)) ∧ (Fld Z h a "com/example/sworn_witness/swornwitness/DerReader" "position" "I" (.int p2)) ∧ (Fld Z h a "com/example/sworn_witness/swornwitness/DerReader" "end" "I" (.int e)) ∧ (r.toInt = v.toInt ∧ p2.toInt = p.toInt + 1)) := by
  refine ctr_of pn7 hn0 (ef7 a wh) fun G A0 => ?_
  have A1 := A0.aloadN (v := (.ref a)) (pc' := 1) d7_0 rfl rfl rfl
  have A2 := A1.aloadN (v := (.ref wh)) (pc' := 2) d7_1 rfl rfl rfl
  obtain ⟨r4, h6, ⟨u8, K7, f9, f10, f11, q5⟩, A3⟩ := W.kI (A2.callP (a := a) (argsL := [(.ref wh)]) (rest := []) (C' := 0) (S' := 0) (pc' := 5) d7_2 e0 (hw _ (List.mem_of_getElem? (i := 37) rfl)) (hw _ (List.mem_of_getElem? (i := 38) rfl)) (hw _ (List.mem_of_getElem? (i := 39) rfl)) (hw _ (List.mem_of_getElem? (i := 1) rfl)) (hw _ (List.mem_of_getElem? (i := 2) rfl)) (hw _ (List.mem_of_getElem? (i := 40) rfl)) (rm6 l Z a0 hw n0 [] (a) (wh) (u) (N) (f) (p) (e) (v) h0 A2.size e0 e1 e2 e3 e4 e5 e6 (by first | assumption | omega) (by first | assumption | omega)) rfl rfl pd_2 rfl rfl (by decide) (by decide) (Nat.le_of_ble_eq_true rfl) (by decide) (by decide) rfl rfl rfl)
  obtain ⟨ho, hp2⟩ := q5
  have hm : r4.toInt = v.toInt := by rw [ho]; have := own_m8 v; omega
  have t2 := sub32 e u8 (by omega) (by omega)
  have A12 := A3.istoreN (Ls' := #[.val (.ref a), .val (.ref wh), .val (.int r4), .unset, .unset, .unset]) (pc' := 6) d7_5 rfl rfl
  have A13 := A12.iloadN (v := r4) (pc' := 7) d7_6 rfl rfl
  have A14 := A13.istoreN (Ls' := #[.val (.ref a), .val (.ref wh), .val (.int r4), .val (.int r4), .unset, .unset]) (pc' := 8) d7_7 rfl rfl
  have A15 := A14.iloadN (v := r4) (pc' := 9) d7_8 rfl rfl
  have A16 := A15.sipush (z := (128 : Int32)) (pc' := 12) d7_9 rfl rfl
  by_cases c17 : r4.toInt = 128
  · exfalso
    omega
  · have A19 := A16.icmpYes (pc' := 22) d7_12 (feq (ine (x := r4) (y := (128 : Int32)) rfl rfl c17)).2 (by decide) (by decide)
    have A20 := A19.iloadN (v := r4) (pc' := 23) d7_22 rfl rfl
    have A21 := A20.sipush (z := (128 : Int32)) (pc' := 26) d7_23 rfl rfl
    by_cases c22 : 128 < r4.toInt
    · exfalso
      omega
    · have A24 := A21.icmpYes (pc' := 120) d7_26 (flt (ingt (x := r4) (y := (128 : Int32)) rfl rfl c22)).2.2.2 (by decide) (by decide)
      have A25 := A24.iloadN (v := r4) (pc' := 121) d7_120 rfl rfl
      have A26 := A25.aloadN (v := (.ref a)) (pc' := 122) d7_121 rfl rfl rfl
      have A27 := A26.getF (pc' := 125) (host := "") d7_122 (Or.inl (hw _ (List.mem_of_getElem? (i := 17) rfl))) Via.refl f11 rfl
      have A28 := A27.aloadN (v := (.ref a)) (pc' := 126) d7_125 rfl rfl rfl
      have A29 := A28.getF (pc' := 129) (host := "") d7_126 (Or.inl (hw _ (List.mem_of_getElem? (i := 15) rfl))) Via.refl f10 rfl
      have A30 := A29.isub (pc' := 130) d7_129 rfl
      by_cases c31 : (e - u8).toInt < r4.toInt
      · exfalso
        omega
      · have A33 := A30.icmpYes (pc' := 153) d7_130 (flt (ingt (x := r4) (y := (e - u8)) rfl rfl c31)).2.2.2 (by decide) (by decide)
        have A34 := A33.iloadN (v := r4) (pc' := 154) d7_153 rfl rfl
        have K35 : Keep h0 h6 [a] := ((Keep.refl h0 [a]).trans K7 (allS (Or.inl (List.mem_of_getElem? (i := 0) rfl)) all0))
        refine A34.retI d7_154 (by decide) (by decide) ⟨_, rfl, ⟨u8, K35, f9, f10, f11, ?_⟩⟩
        exact ⟨hm, hp2⟩
theorem pn5 : plainFor (⟨"com/example/sworn_witness/swornwitness/DerReader", "next", "(Ljava/lang/String;)Lcom/example/sworn_witness/swornwitness/DerReader$Element;"⟩ : MethodName) = true := by first | exact plainFor_of_name (by first | (simp [plainName, overriddenIn]; done) | decide +kernel) | exact Jvm.Free.JP.mathPlain rfl (by decide +kernel) | decide +kernel
theorem d5_0 : decode prog_10_method_4_code 0 = .ok (.aload_n 0, 1) := by decide +kernel
theorem d5_1 : decode prog_10_method_4_code 1 = .ok (.invokevirtual 23, 3) := by decide +kernel
theorem d5_4 : decode prog_10_method_4_code 4 = .ok (.ifCond .ne 10, 3) := by decide +kernel
theorem d5_14 : decode prog_10_method_4_code 14 = .ok (.aload_n 0, 1) := by decide +kernel
theorem d5_15 : decode prog_10_method_4_code 15 = .ok (.getfield 16, 3) := by decide +kernel
theorem d5_18 : decode prog_10_method_4_code 18 = .ok (.istore_n 2, 1) := by decide +kernel
theorem d5_19 : decode prog_10_method_4_code 19 = .ok (.aload_n 0, 1) := by decide +kernel
theorem d5_20 : decode prog_10_method_4_code 20 = .ok (.aload_n 1, 1) := by decide +kernel
theorem d5_21 : decode prog_10_method_4_code 21 = .ok (.invokevirtual 33, 3) := by decide +kernel
theorem d5_24 : decode prog_10_method_4_code 24 = .ok (.istore_n 3, 1) := by decide +kernel
theorem d5_25 : decode prog_10_method_4_code 25 = .ok (.iload_n 3, 1) := by decide +kernel
theorem d5_26 : decode prog_10_method_4_code 26 = .ok (.bipush 31, 2) := by decide +kernel
theorem d5_28 : decode prog_10_method_4_code 28 = .ok (.iand, 1) := by decide +kernel
theorem d5_29 : decode prog_10_method_4_code 29 = .ok (.istore 4, 2) := by decide +kernel
theorem d5_31 : decode prog_10_method_4_code 31 = .ok (.iload 4, 2) := by decide +kernel
theorem d5_33 : decode prog_10_method_4_code 33 = .ok (.bipush 31, 2) := by decide +kernel
theorem d5_35 : decode prog_10_method_4_code 35 = .ok (.if_icmp .ne 10, 3) := by decide +kernel
theorem d5_45 : decode prog_10_method_4_code 45 = .ok (.aload_n 0, 1) := by decide +kernel
theorem d5_46 : decode prog_10_method_4_code 46 = .ok (.aload_n 1, 1) := by decide +kernel
theorem d5_47 : decode prog_10_method_4_code 47 = .ok (.invokevirtual 40, 3) := by decide +kernel
theorem d5_50 : decode prog_10_method_4_code 50 = .ok (.istore 5, 2) := by decide +kernel
theorem d5_52 : decode prog_10_method_4_code 52 = .ok (.new 43, 3) := by decide +kernel
theorem d5_55 : decode prog_10_method_4_code 55 = .ok (.dup, 1) := by decide +kernel
theorem d5_56 : decode prog_10_method_4_code 56 = .ok (.iload_n 3, 1) := by decide +kernel
theorem d5_57 : decode prog_10_method_4_code 57 = .ok (.bipush 6, 2) := by decide +kernel
theorem d5_59 : decode prog_10_method_4_code 59 = .ok (.iushr, 1) := by decide +kernel
theorem d5_60 : decode prog_10_method_4_code 60 = .ok (.iload_n 3, 1) := by decide +kernel
theorem d5_61 : decode prog_10_method_4_code 61 = .ok (.bipush 32, 2) := by decide +kernel
theorem d5_63 : decode prog_10_method_4_code 63 = .ok (.iand, 1) := by decide +kernel
theorem d5_64 : decode prog_10_method_4_code 64 = .ok (.ifCond .eq 7, 3) := by decide +kernel
theorem d5_67 : decode prog_10_method_4_code 67 = .ok (.iconst 1, 1) := by decide +kernel
theorem d5_68 : decode prog_10_method_4_code 68 = .ok (.goto 4, 3) := by decide +kernel
theorem d5_71 : decode prog_10_method_4_code 71 = .ok (.iconst 0, 1) := by decide +kernel
theorem d5_72 : decode prog_10_method_4_code 72 = .ok (.iload 4, 2) := by decide +kernel
theorem d5_74 : decode prog_10_method_4_code 74 = .ok (.aload_n 0, 1) := by decide +kernel
theorem d5_75 : decode prog_10_method_4_code 75 = .ok (.getfield 12, 3) := by decide +kernel
theorem d5_78 : decode prog_10_method_4_code 78 = .ok (.iload_n 2, 1) := by decide +kernel
theorem d5_79 : decode prog_10_method_4_code 79 = .ok (.aload_n 0, 1) := by decide +kernel
theorem d5_80 : decode prog_10_method_4_code 80 = .ok (.getfield 16, 3) := by decide +kernel
theorem d5_83 : decode prog_10_method_4_code 83 = .ok (.aload_n 0, 1) := by decide +kernel
theorem d5_84 : decode prog_10_method_4_code 84 = .ok (.getfield 16, 3) := by decide +kernel
theorem d5_87 : decode prog_10_method_4_code 87 = .ok (.iload 5, 2) := by decide +kernel
theorem d5_89 : decode prog_10_method_4_code 89 = .ok (.iadd, 1) := by decide +kernel
theorem d5_90 : decode prog_10_method_4_code 90 = .ok (.invokespecial 45, 3) := by decide +kernel
theorem d5_93 : decode prog_10_method_4_code 93 = .ok (.astore 6, 2) := by decide +kernel
theorem d5_95 : decode prog_10_method_4_code 95 = .ok (.aload_n 0, 1) := by decide +kernel
theorem d5_96 : decode prog_10_method_4_code 96 = .ok (.dup, 1) := by decide +kernel
theorem d5_97 : decode prog_10_method_4_code 97 = .ok (.getfield 16, 3) := by decide +kernel
theorem d5_100 : decode prog_10_method_4_code 100 = .ok (.iload 5, 2) := by decide +kernel
theorem d5_102 : decode prog_10_method_4_code 102 = .ok (.iadd, 1) := by decide +kernel
theorem d5_103 : decode prog_10_method_4_code 103 = .ok (.putfield 16, 3) := by decide +kernel
theorem d5_106 : decode prog_10_method_4_code 106 = .ok (.aload 6, 2) := by decide +kernel
theorem d5_108 : decode prog_10_method_4_code 108 = .ok (.areturn, 1) := by decide +kernel
abbrev y5 : MethodName := (⟨"com/example/sworn_witness/swornwitness/DerReader", "next", "(Ljava/lang/String;)Lcom/example/sworn_witness/swornwitness/DerReader$Element;"⟩ : MethodName)
abbrev R5 : Room := { frames := 3, cells := 1, slots := 7, locals := 44 }
set_option maxRecDepth 65536 in
set_option maxHeartbeats 4000000 in
theorem ef5 (a : Addr) (wh : Addr) (mid : MethodId) : entryFrame mid #[(.ref a), (.ref wh)] 7 = mkF mid 0 #[.val (.ref a), .val (.ref wh), .unset, .unset, .unset, .unset, .unset] [] := by first | (simp [entryFrame, mkF, argsToLocals, Value.category]; done) | rfl
set_option maxRecDepth 65536 in
set_option maxHeartbeats 40000000 in
theorem rm5 (l : Launch) (Z : State) (a0 : Array Value) (hw : ∀ d ∈ tables_1, d.before a0 Z = true) (n0 : Nat) (ws : List Jvm.Cond) (a : Addr) (wh : Addr) (u : Addr) (N : Nat) (f : Nat → Value) (p : Int32) (e : Int32) (v0 : Int32) (v1 : Int32) (h0 : Heap) (hn0 : n0 ≤ h0.size) (e0 : Exa Z h0 a "com/example/sworn_witness/swornwitness/DerReader") (e1 : n0 ≤ a) (e2 : Fld Z h0 a "com/example/sworn_witness/swornwitness/DerReader" "der" "[B" (.ref u)) (e3 : Fld Z h0 a "com/example/sworn_witness/swornwitness/DerReader" "position" "I" (.int p)) (e4 : Fld Z h0 a "com/example/sworn_witness/swornwitness/DerReader" "end" "I" (.int e)) (e5 : Ars Z h0 u .byte N f) (e6 : a ≠ u) (e7 : 0 ≤ p.toInt ∧ p.toInt + 2 + v1.toInt ≤ e.toInt ∧ e.toInt ≤ N ∧ N ≤ 8 ∧ 0 ≤ v1.toInt ∧ v1.toInt ≤ 3 ∧ ((v0 &&& (255 : Int32)) &&& (31 : Int32)).toInt ≠ 31) (e8 : f p.toInt.toNat = .int v0) (e9 : f (p.toInt + 1).toNat = .int v1) :
    Ctr l Z n0 y5 prog_10_method_4_code 7 (some (.object "com/example/sworn_witness/swornwitness/DerReader$Element")) ws R5 #[(.ref a), (.ref wh)] h0 (QA fun r h => ∃ p2 : Int32, (Keep h0 h [a]) ∧ (Fld Z h a "com/example/sworn_witness/swornwitness/DerReader" "der" "[B" (.ref u)) ∧ (Fld Z h a "com/example/sworn_witness/swornwitness/DerReader" "position" "I" (.int p2)) ∧ (Fld Z h a "com/example/sworn_witness/swornwitness/DerReader" "end" "I" (.int e)) ∧ (p2.toInt = p.toInt + 2 + v1.toInt)) := by
  refine ctr_of pn5 hn0 (ef5 a wh) fun G A0 => ?_
  have A1 := A0.aloadN (v := (.ref a)) (pc' := 1) d5_0 rfl rfl rfl
  obtain ⟨r3, _, ⟨rfl, q4⟩, A2⟩ := W.kI (A1.callV (a := a) (argsL := []) (rest := []) (C' := 0) (S' := 0) (pc' := 4) d5_1 e0 (hw _ (List.mem_of_getElem? (i := 36) rfl)) (hw _ (List.mem_of_getElem? (i := 20) rfl)) (fun hZ => notFace_of_selects (args := #[]) (mvT hZ (hw _ (List.mem_of_getElem? (i := 22) rfl)))) (hw _ (List.mem_of_getElem? (i := 22) rfl)) (hw _ (List.mem_of_getElem? (i := 21) rfl)) (hw _ (List.mem_of_getElem? (i := 2) rfl)) (hw _ (List.mem_of_getElem? (i := 23) rfl)) (rm4 l Z a0 hw n0 [] (a) (p) (e) h0 A1.size e3 e4) rfl rfl pd_3 rfl rfl (by decide) (by decide) (Nat.le_of_ble_eq_true rfl) (by decide) (by decide) rfl rfl rfl)
  by_cases c6 : r3.toInt = 0
  · exfalso
    omega
  · have A9 := A2.ifYes (pc' := 14) d5_4 (feq (ine (x := r3) (y := (0 : Int32)) rfl rfl c6)).2 (by decide) (by decide)
    have A10 := A9.aloadN (v := (.ref a)) (pc' := 15) d5_14 rfl rfl rfl
    have A11 := A10.getF (pc' := 18) (host := "") d5_15 (Or.inl (hw _ (List.mem_of_getElem? (i := 15) rfl))) Via.refl e3 rfl
    have A12 := A11.istoreN (Ls' := #[.val (.ref a), .val (.ref wh), .val (.int p), .unset, .unset, .unset, .unset]) (pc' := 19) d5_18 rfl rfl
    have A13 := A12.aloadN (v := (.ref a)) (pc' := 20) d5_19 rfl rfl rfl
    have A14 := A13.aloadN (v := (.ref wh)) (pc' := 21) d5_20 rfl rfl rfl
    obtain ⟨r16, h18, ⟨u20, K19, f21, f22, f23, q17⟩, A15⟩ := W.kI (A14.callP (a := a) (argsL := [(.ref wh)]) (rest := []) (C' := 0) (S' := 0) (pc' := 24) d5_21 e0 (hw _ (List.mem_of_getElem? (i := 37) rfl)) (hw _ (List.mem_of_getElem? (i := 38) rfl)) (hw _ (List.mem_of_getElem? (i := 39) rfl)) (hw _ (List.mem_of_getElem? (i := 1) rfl)) (hw _ (List.mem_of_getElem? (i := 2) rfl)) (hw _ (List.mem_of_getElem? (i := 40) rfl)) (rm6 l Z a0 hw n0 [] (a) (wh) (u) (N) (f) (p) (e) (v0) h0 A14.size e0 e1 e2 e3 e4 e5 e6 (by first | assumption | omega) (by first | assumption | omega)) rfl rfl pd_2 rfl rfl (by decide) (by decide) (Nat.le_of_ble_eq_true rfl) (by decide) (by decide) rfl rfl rfl)
    obtain ⟨ho, hp2⟩ := q17
    have e2n : u20.toInt.toNat = (p.toInt + 1).toNat := by omega
    subst ho
    have A24 := A15.istoreN (Ls' := #[.val (.ref a), .val (.ref wh), .val (.int p), .val (.int (v0 &&& (255 : Int32))), .unset, .unset, .unset]) (pc' := 25) d5_24 rfl rfl
    have A25 := A24.iloadN (v := (v0 &&& (255 : Int32))) (pc' := 26) d5_25 rfl rfl
    have A26 := A25.bipush (z := (31 : Int32)) (pc' := 28) d5_26 rfl rfl
    have A27 := A26.iand (pc' := 29) d5_28 rfl
    have A28 := A27.istore (Ls' := #[.val (.ref a), .val (.ref wh), .val (.int p), .val (.int (v0 &&& (255 : Int32))), .val (.int ((v0 &&& (255 : Int32)) &&& (31 : Int32))), .unset, .unset]) (pc' := 31) d5_29 rfl rfl
    have A29 := A28.iload (v := ((v0 &&& (255 : Int32)) &&& (31 : Int32))) (pc' := 33) d5_31 rfl rfl
    have A30 := A29.bipush (z := (31 : Int32)) (pc' := 35) d5_33 rfl rfl
    by_cases c31 : ((v0 &&& (255 : Int32)) &&& (31 : Int32)).toInt = 31
    · exfalso
      omega
    · have A34 := A30.icmpYes (pc' := 45) d5_35 (feq (ine (x := ((v0 &&& (255 : Int32)) &&& (31 : Int32))) (y := (31 : Int32)) rfl rfl c31)).2 (by decide) (by decide)
      have A35 := A34.aloadN (v := (.ref a)) (pc' := 46) d5_45 rfl rfl rfl
      have A36 := A35.aloadN (v := (.ref wh)) (pc' := 47) d5_46 rfl rfl rfl
      have f37 := (e0.keep K19)
      have f38 := (e5.keep K19 (ninS (Ne.symm e6) nin0))
      obtain ⟨r40, h42, ⟨u44, K43, f45, f46, f47, q41⟩, A39⟩ := W.kI (A36.callP (a := a) (argsL := [(.ref wh)]) (rest := []) (C' := 0) (S' := 0) (pc' := 50) d5_47 f37 (hw _ (List.mem_of_getElem? (i := 41) rfl)) (hw _ (List.mem_of_getElem? (i := 42) rfl)) (hw _ (List.mem_of_getElem? (i := 43) rfl)) (hw _ (List.mem_of_getElem? (i := 1) rfl)) (hw _ (List.mem_of_getElem? (i := 2) rfl)) (hw _ (List.mem_of_getElem? (i := 44) rfl)) (rm7 l Z a0 hw n0 [] (a) (wh) (u) (N) (f) (u20) (e) (v1) h18 A36.size f37 e1 f21 f22 f23 f38 e6 (by first | omega | (rw [e2n]; assumption)) (by first | omega | (rw [e2n]; assumption))) rfl rfl pd_2 rfl rfl (by decide) (by decide) (Nat.le_of_ble_eq_true rfl) (by decide) (by decide) rfl rfl rfl)
      obtain ⟨hl, hp3⟩ := q41
      have t4 := add32 u44 r40 (by omega) (by omega)
      have A48 := A39.istore (Ls' := #[.val (.ref a), .val (.ref wh), .val (.int p), .val (.int (v0 &&& (255 : Int32))), .val (.int ((v0 &&& (255 : Int32)) &&& (31 : Int32))), .val (.int r40), .unset]) (pc' := 52) d5_50 rfl rfl
      obtain ⟨h49, b50, eb51, g52, E53, X54, D55, A56⟩ := A48.newO (C' := 1) (S' := 7) (pc' := 55) d5_52 (hw _ (List.mem_of_getElem? (i := 45) rfl)) (hw _ (List.mem_of_getElem? (i := 46) rfl)) (hw _ (List.mem_of_getElem? (i := 47) rfl)) (by decide) (by decide) rfl rfl rfl
      have f57 := (f37.keep K43)
      have ne58 : a ≠ b50 := Nat.ne_of_lt (Nat.lt_of_lt_of_le f57.lt (Nat.le_of_eq eb51.symm))
      have f59 := (f38.keep K43 (ninS (Ne.symm e6) nin0))
      have ne60 : u ≠ b50 := Nat.ne_of_lt (Nat.lt_of_lt_of_le f59.lt (Nat.le_of_eq eb51.symm))
      have f61 : Fld Z h49 b50 "com/example/sworn_witness/swornwitness/DerReader$Element" "tagClass" "I" (.int (0 : Int32)) := D55 (Or.inr (hw _ (List.mem_of_getElem? (i := 58) rfl))) (ty := .int) (by decide)
      have f62 : Fld Z h49 b50 "com/example/sworn_witness/swornwitness/DerReader$Element" "constructed" "Z" (.int (0 : Int32)) := D55 (Or.inr (hw _ (List.mem_of_getElem? (i := 60) rfl))) (ty := .boolean) (by decide)
      have f63 : Fld Z h49 b50 "com/example/sworn_witness/swornwitness/DerReader$Element" "number" "I" (.int (0 : Int32)) := D55 (Or.inr (hw _ (List.mem_of_getElem? (i := 62) rfl))) (ty := .int) (by decide)
      have f64 : Fld Z h49 b50 "com/example/sworn_witness/swornwitness/DerReader$Element" "der" "[B" .null := D55 (Or.inr (hw _ (List.mem_of_getElem? (i := 64) rfl))) (ty := (.array .byte)) (by decide)
      have f65 : Fld Z h49 b50 "com/example/sworn_witness/swornwitness/DerReader$Element" "offset" "I" (.int (0 : Int32)) := D55 (Or.inr (hw _ (List.mem_of_getElem? (i := 66) rfl))) (ty := .int) (by decide)
      have f66 : Fld Z h49 b50 "com/example/sworn_witness/swornwitness/DerReader$Element" "start" "I" (.int (0 : Int32)) := D55 (Or.inr (hw _ (List.mem_of_getElem? (i := 68) rfl))) (ty := .int) (by decide)
      have f67 : Fld Z h49 b50 "com/example/sworn_witness/swornwitness/DerReader$Element" "end" "I" (.int (0 : Int32)) := D55 (Or.inr (hw _ (List.mem_of_getElem? (i := 70) rfl))) (ty := .int) (by decide)
      have A68 := A56.dup (pc' := 56) d5_55 rfl rfl
      have A69 := A68.iloadN (v := (v0 &&& (255 : Int32))) (pc' := 57) d5_56 rfl rfl
      have A70 := A69.bipush (z := (6 : Int32)) (pc' := 59) d5_57 rfl rfl
      have A71 := A70.iushr (pc' := 60) d5_59 rfl
      have A72 := A71.iloadN (v := (v0 &&& (255 : Int32))) (pc' := 61) d5_60 rfl rfl
      have A73 := A72.bipush (z := (32 : Int32)) (pc' := 63) d5_61 rfl rfl
      have A74 := A73.iand (pc' := 64) d5_63 rfl
      have join76 : ∀ (v83 : Int32) (q84 : True), W l Z n0 y5 prog_10_method_4_code 7 (some (.object "com/example/sworn_witness/swornwitness/DerReader$Element")) R5 G h49 72 #[.val (.ref a), .val (.ref wh), .val (.int p), .val (.int (v0 &&& (255 : Int32))), .val (.int ((v0 &&& (255 : Int32)) &&& (31 : Int32))), .val (.int r40), .unset] [(.int v83), (.int (((v0 &&& (255 : Int32)).toUInt32 >>> ((6 : Int32) &&& 31).toUInt32).toInt32)), (.ref b50), (.ref b50)] 1 7 → Gl R5 n0 G (QA fun r h => ∃ p2 : Int32, (Keep h0 h [a]) ∧ (Fld Z h a "com/example/sworn_witness/swornwitness/DerReader" "der" "[B" (.ref u)) ∧ (Fld Z h a "com/example/sworn_witness/swornwitness/DerReader" "position" "I" (.int p2)) ∧ (Fld Z h a "com/example/sworn_witness/swornwitness/DerReader" "end" "I" (.int e)) ∧ (p2.toInt = p.toInt + 2 + v1.toInt)) := by
        intro v83   q84  A82
        have A85 := A82.iload (v := ((v0 &&& (255 : Int32)) &&& (31 : Int32))) (pc' := 74) d5_72 rfl rfl
        have A86 := A85.aloadN (v := (.ref a)) (pc' := 75) d5_74 rfl rfl rfl
        have f88 := (f45.ext E53)
        have A87 := A86.getF (pc' := 78) (host := "") d5_75 (Or.inl (hw _ (List.mem_of_getElem? (i := 13) rfl))) Via.refl f88 rfl
        have A89 := A87.iloadN (v := p) (pc' := 79) d5_78 rfl rfl
        have A90 := A89.aloadN (v := (.ref a)) (pc' := 80) d5_79 rfl rfl rfl
        have f92 := (f46.ext E53)
        have A91 := A90.getF (pc' := 83) (host := "") d5_80 (Or.inl (hw _ (List.mem_of_getElem? (i := 15) rfl))) Via.refl f92 rfl
        have A93 := A91.aloadN (v := (.ref a)) (pc' := 84) d5_83 rfl rfl rfl
        have A94 := A93.getF (pc' := 87) (host := "") d5_84 (Or.inl (hw _ (List.mem_of_getElem? (i := 15) rfl))) Via.refl f92 rfl
        have A95 := A94.iload (v := r40) (pc' := 89) d5_87 rfl rfl
        have A96 := A95.iadd (pc' := 90) d5_89 rfl
        obtain ⟨h100, ⟨K101, q99⟩, A97⟩ := W.kV (A96.callI (a := b50) (argsL := [(.int (((v0 &&& (255 : Int32)).toUInt32 >>> ((6 : Int32) &&& 31).toUInt32).toInt32)), (.int v83), (.int ((v0 &&& (255 : Int32)) &&& (31 : Int32))), (.ref u), (.int p), (.int u44), (.int (u44 + r40))]) (rest := [(.ref b50)]) (C' := 1) (S' := 7) (pc' := 93) d5_90 rfl (hw _ (List.mem_of_getElem? (i := 48) rfl)) (hw _ (List.mem_of_getElem? (i := 49) rfl)) (hw _ (List.mem_of_getElem? (i := 47) rfl)) (hw _ (List.mem_of_getElem? (i := 50) rfl)) (rm8 l Z a0 hw n0 [] (b50) ((((v0 &&& (255 : Int32)).toUInt32 >>> ((6 : Int32) &&& 31).toUInt32).toInt32)) (v83) (((v0 &&& (255 : Int32)) &&& (31 : Int32))) (u) (p) (u44) ((u44 + r40))  h49 A96.size X54 f61 f62 f63 f64 f65 f66 f67 g52) rfl rfl pd_4 rfl rfl (by decide) (by decide) (Nat.le_of_ble_eq_true rfl) (by decide) (by decide) rfl rfl rfl)
        have A102 := A97.astore (Ls' := #[.val (.ref a), .val (.ref wh), .val (.int p), .val (.int (v0 &&& (255 : Int32))), .val (.int ((v0 &&& (255 : Int32)) &&& (31 : Int32))), .val (.int r40), .val (.ref b50)]) (pc' := 95) d5_93 rfl rfl rfl
        have A103 := A102.aloadN (v := (.ref a)) (pc' := 96) d5_95 rfl rfl rfl
        have A104 := A103.dup (pc' := 97) d5_96 rfl rfl
        have f106 := (f92.keep K101 (ninS ne58 nin0))
        have A105 := A104.getF (pc' := 100) (host := "") d5_97 (Or.inl (hw _ (List.mem_of_getElem? (i := 15) rfl))) Via.refl f106 rfl
        have A107 := A105.iload (v := r40) (pc' := 102) d5_100 rfl rfl
        have A108 := A107.iadd (pc' := 103) d5_102 rfl
        have f109 := ((f57.ext E53).keep K101)
        obtain ⟨h111, w112, A110⟩ := A108.putF (pc' := 106) (ty := .int) (host := "") d5_103 (Or.inl (hw _ (List.mem_of_getElem? (i := 15) rfl))) Via.refl f106 f109 (Or.inl (hw _ (List.mem_of_getElem? (i := 16) rfl))) (hw _ (List.mem_of_getElem? (i := 1) rfl)) (by decide) rfl rfl e1 rfl
        have f113 := f106.same w112
        have A114 := A110.aload (v := (.ref b50)) (pc' := 108) d5_106 rfl rfl rfl
        have z115 : h0.size ≤ b50 := Nat.le_trans (Nat.le_trans (Nat.le_trans (Nat.le_refl _) K19.1) K43.1) (Nat.le_of_eq eb51.symm)
        have K116 : Keep h0 h111 [a] := ((((((Keep.refl h0 [a]).trans K19 (allS (Or.inl (List.mem_of_getElem? (i := 0) rfl)) all0)).trans K43 (allS (Or.inl (List.mem_of_getElem? (i := 0) rfl)) all0)).ext E53).trans K101 (allS (Or.inr z115) all0)).wr w112 (Or.inl (List.mem_of_getElem? (i := 0) rfl)))
        have f117 := ((f88.keep K101 (ninS ne58 nin0)).other w112 (Or.inr (slot_ne (Or.inr (hw _ (List.mem_of_getElem? (i := 14) rfl))) (Or.inl (hw _ (List.mem_of_getElem? (i := 16) rfl))) (by decide) (t := (.array .byte)) (t' := .int) (by decide) (by decide))))
        have f118 := (((f47.ext E53).keep K101 (ninS ne58 nin0)).other w112 (Or.inr (slot_ne (Or.inr (hw _ (List.mem_of_getElem? (i := 18) rfl))) (Or.inl (hw _ (List.mem_of_getElem? (i := 16) rfl))) (by decide) (t := .int) (t' := .int) (by decide) (by decide))))
        refine A114.retA d5_108 (by decide) (by decide) rfl rfl rfl ⟨_, rfl, ⟨(u44 + r40), K116, f117, f113, f118, ?_⟩⟩
        omega
      by_cases c75 : ((v0 &&& (255 : Int32)) &&& (32 : Int32)).toInt = 0
      · have A77 := A74.ifYes (pc' := 71) d5_64 (teq (ieq (x := ((v0 &&& (255 : Int32)) &&& (32 : Int32))) (y := (0 : Int32)) rfl rfl c75)).1 (by decide) (by decide)
        have A78 := A77.iconst (z := (0 : Int32)) (pc' := 72) d5_71 rfl rfl
        exact join76 ((0 : Int32))   (by trivial)  A78
      · have A79 := A74.ifNo (pc' := 67) d5_64 (feq (ine (x := ((v0 &&& (255 : Int32)) &&& (32 : Int32))) (y := (0 : Int32)) rfl rfl c75)).1 rfl
        have A80 := A79.iconst (z := (1 : Int32)) (pc' := 68) d5_67 rfl rfl
        have A81 := A80.goto (pc' := 72) d5_68 (by decide) (by decide)
        exact join76 ((1 : Int32))   (by trivial)  A81
theorem pn0 : plainFor x = true := plainFor_of_name (by first | (simp [plainName, overriddenIn, x]; done) | decide +kernel)
abbrev y0 : MethodName := x
abbrev R0 : Room := room_1
set_option maxRecDepth 65536 in
set_option maxHeartbeats 4000000 in
theorem ef0 (xi : Int32) (xl : Int32) (xt : Int32) (xf : Int32) (mid : MethodId) : entryFrame mid #[(.int xi), (.int xl), (.int xt), (.int xf)] maxLocals = mkF mid 0 #[.val (.int xi), .val (.int xl), .val (.int xt), .val (.int xf), .unset, .unset, .unset, .unset, .unset, .unset, .unset, .unset, .unset, .unset] [] := by first | (simp [entryFrame, mkF, argsToLocals, Value.category, maxLocals]; done) | rfl
set_option maxRecDepth 65536 in
set_option maxHeartbeats 40000000 in
theorem rm0 (l : Launch) (Z : State) (a0 : Array Value) (hw : ∀ d ∈ tables_1, d.before a0 Z = true) (n0 : Nat) (ws : List Jvm.Cond) (xi : Int32) (xl : Int32) (xt : Int32) (xf : Int32)  (h0 : Heap) (hn0 : n0 ≤ h0.size)  :
    CtrV l Z n0 y0 code maxLocals ret ws R0 #[(.int xi), (.int xl), (.int xt), (.int xf)] h0 (QI fun r h => (True) ∧ (r = 1)) := by
  refine ctrV_of pn0 hn0 (ef0 xi xl xt xf) fun G A0 => ?_
  obtain ⟨h1, b2, eb3, g4, E5, X6, D7, A8⟩ := A0.newO (C' := 1) (S' := 3) (pc' := 3) at_0 (hw _ (List.mem_of_getElem? (i := 0) rfl)) (hw _ (List.mem_of_getElem? (i := 1) rfl)) (hw _ (List.mem_of_getElem? (i := 2) rfl)) (by decide) (by decide) rfl rfl rfl
  have f9 : Fld Z h1 b2 "com/example/sworn_witness/swornwitness/DerReader" "der" "[B" .null := D7 (Or.inr (hw _ (List.mem_of_getElem? (i := 14) rfl))) (ty := (.array .byte)) (by decide)
  have f10 : Fld Z h1 b2 "com/example/sworn_witness/swornwitness/DerReader" "position" "I" (.int (0 : Int32)) := D7 (Or.inl (hw _ (List.mem_of_getElem? (i := 16) rfl))) (ty := .int) (by decide)
  have f11 : Fld Z h1 b2 "com/example/sworn_witness/swornwitness/DerReader" "end" "I" (.int (0 : Int32)) := D7 (Or.inr (hw _ (List.mem_of_getElem? (i := 18) rfl))) (ty := .int) (by decide)
  have A12 := A8.dup (pc' := 4) at_3 rfl rfl
  have A13 := A12.iconst (z := (0 : Int32)) (pc' := 5) at_4 rfl rfl
  obtain ⟨h14, b15, eb16, g17, E18, X19, XE21, A20⟩ := A13.newP (z := (0 : Int32)) (N := 0) (cap := 0) (C' := 2) (S' := 3) (pc' := 7) at_5 (hw _ (List.mem_of_getElem? (i := 3) rfl)) rfl (by decide) (by decide) (by decide) (by decide) rfl rfl rfl rfl
  have ne22 : b2 ≠ b15 := Nat.ne_of_lt (Nat.lt_of_lt_of_le X6.lt (Nat.le_of_eq eb16.symm))
  change Exa Z h14 b15 "[B" at XE21
  change Ars Z h14 b15 .byte 0 (fun _ => (.int (0 : Int32))) at X19
  have f23 := (X6.ext E18)
  have f24 := (f9.ext E18)
  have f25 := (f10.ext E18)
  have f26 := (f11.ext E18)
  obtain ⟨h30, ⟨K31, f32, f33, f34, q29⟩, A27⟩ := V.kV (A20.callI (a := b2) (argsL := [(.ref b15)]) (rest := [(.ref b2)]) (C' := 2) (S' := 3) (pc' := 10) at_7 rfl (hw _ (List.mem_of_getElem? (i := 4) rfl)) (hw _ (List.mem_of_getElem? (i := 5) rfl)) (hw _ (List.mem_of_getElem? (i := 2) rfl)) (hw _ (List.mem_of_getElem? (i := 6) rfl)) (rm1 l Z a0 hw n0 [] (b2) (b15) (0) ((fun _ => (.int (0 : Int32)))) h14 A20.size f23 f24 f25 f26 g4 X19).wide rfl rfl pd_5 rfl rfl (by decide) (by decide) (Nat.le_of_ble_eq_true rfl) (by decide) (by decide) rfl rfl rfl)
  have A35 := A27.astore (Ls' := #[.val (.int xi), .val (.int xl), .val (.int xt), .val (.int xf), .val (.ref b2), .unset, .unset, .unset, .unset, .unset, .unset, .unset, .unset, .unset]) (pc' := 12) at_10 rfl rfl rfl
  have A36 := A35.aload (v := (.ref b2)) (pc' := 14) at_12 rfl rfl rfl
  have f39 := (f23.keep K31)
  obtain ⟨r38, _, ⟨rfl, q40⟩, A37⟩ := V.kI (A36.callV (a := b2) (argsL := []) (rest := []) (C' := 2) (S' := 3) (pc' := 17) at_14 f39 (hw _ (List.mem_of_getElem? (i := 19) rfl)) (hw _ (List.mem_of_getElem? (i := 20) rfl)) (fun hZ => notFace_of_selects (args := #[]) (mvT hZ (hw _ (List.mem_of_getElem? (i := 22) rfl)))) (hw _ (List.mem_of_getElem? (i := 22) rfl)) (hw _ (List.mem_of_getElem? (i := 21) rfl)) (hw _ (List.mem_of_getElem? (i := 2) rfl)) (hw _ (List.mem_of_getElem? (i := 23) rfl)) (rm4 l Z a0 hw n0 [] (b2) ((0 : Int32)) ((Int32.ofNat 0)) h30 A36.size f33 f34).wide rfl rfl pd_3 rfl rfl (by decide) (by decide) (Nat.le_of_ble_eq_true rfl) (by decide) (by decide) rfl rfl rfl)
  have join43 : ∀ (v50 : Int32) (q51 : v50.toInt = 1), V l Z n0 y0 code maxLocals ret R0 G h30 25 #[.val (.int xi), .val (.int xl), .val (.int xt), .val (.int xf), .val (.ref b2), .unset, .unset, .unset, .unset, .unset, .unset, .unset, .unset, .unset] [(.int v50)] 2 3 → GlV R0 n0 G (QI fun r h => (True) ∧ (r = 1)) := by
    intro v50   q51  A49
    have A52 := A49.istore (Ls' := #[.val (.int xi), .val (.int xl), .val (.int xt), .val (.int xf), .val (.ref b2), .val (.int v50), .unset, .unset, .unset, .unset, .unset, .unset, .unset, .unset]) (pc' := 27) at_25 rfl rfl
    have A53 := A52.iloadN (v := xl) (pc' := 28) at_27 rfl rfl
    have A54 := A53.iconst (z := (3 : Int32)) (pc' := 29) at_28 rfl rfl
    have A55 := A54.iand (pc' := 30) at_29 rfl
    have A56 := A55.istore (Ls' := #[.val (.int xi), .val (.int xl), .val (.int xt), .val (.int xf), .val (.ref b2), .val (.int v50), .val (.int (xl &&& (3 : Int32))), .unset, .unset, .unset, .unset, .unset, .unset, .unset]) (pc' := 32) at_30 rfl rfl
    obtain ⟨ll, e_ll⟩ : ∃ z : Int32, z = (xl &&& (3 : Int32)) := ⟨_, rfl⟩
    have A57 := A56.cast (Ls' := #[.val (.int xi), .val (.int xl), .val (.int xt), .val (.int xf), .val (.ref b2), .val (.int v50), .val (.int ll), .unset, .unset, .unset, .unset, .unset, .unset, .unset]) rfl (by rw [e_ll]) rfl
    have kl : 0 ≤ ll.toInt ∧ ll.toInt ≤ 3 := by rw [e_ll]; exact own_m2 _
    have A58 := A57.iloadN (v := xt) (pc' := 33) at_32 rfl rfl
    have A59 := A58.iconst (z := (3 : Int32)) (pc' := 34) at_33 rfl rfl
    have A60 := A59.iand (pc' := 35) at_34 rfl
    have A61 := A60.istore (Ls' := #[.val (.int xi), .val (.int xl), .val (.int xt), .val (.int xf), .val (.ref b2), .val (.int v50), .val (.int ll), .val (.int (xt &&& (3 : Int32))), .unset, .unset, .unset, .unset, .unset, .unset]) (pc' := 37) at_35 rfl rfl
    obtain ⟨tt, e_tt⟩ : ∃ z : Int32, z = (xt &&& (3 : Int32)) := ⟨_, rfl⟩
    have A62 := A61.cast (Ls' := #[.val (.int xi), .val (.int xl), .val (.int xt), .val (.int xf), .val (.ref b2), .val (.int v50), .val (.int ll), .val (.int tt), .unset, .unset, .unset, .unset, .unset, .unset]) rfl (by rw [e_tt]) rfl
    have kt : 0 ≤ tt.toInt ∧ tt.toInt ≤ 3 := by rw [e_tt]; exact own_m2 _
    have l2 : (2 : Int32).toInt = 2 := rfl
    have l0 : (0 : Int32).toInt = 0 := rfl
    have k1 := add32 (2 : Int32) ll (by omega) (by omega)
    have k2 := add32 ((2 : Int32) + ll) tt (by omega) (by omega)
    have k3 := add32 ll tt (by omega) (by omega)
    have k4 := subc32 (((2 : Int32) + ll) + tt) (1 : Int32) 1 rfl (by omega) (by omega)
    have k5 : (Int32.ofNat (2 + ll.toInt + tt.toInt).toNat).toInt = (2 + ll.toInt + tt.toInt).toNat := Int32.toInt_ofNat_of_lt (by omega)
    have k6 := own_v1 ll (by omega)
    have k7 := own_ev xi
    have A63 := A62.iconst (z := (2 : Int32)) (pc' := 38) at_37 rfl rfl
    have A64 := A63.iload (v := ll) (pc' := 40) at_38 rfl rfl
    have A65 := A64.iadd (pc' := 41) at_40 rfl
    have A66 := A65.iload (v := tt) (pc' := 43) at_41 rfl rfl
    have A67 := A66.iadd (pc' := 44) at_43 rfl
    obtain ⟨h68, b69, eb70, g71, E72, X73, XE75, A74⟩ := A67.newP (z := (((2 : Int32) + ll) + tt)) (N := (2 + ll.toInt + tt.toInt).toNat) (cap := 8) (C' := 3) (S' := 11) (pc' := 46) at_44 (hw _ (List.mem_of_getElem? (i := 3) rfl)) (by omega) (by omega) (by decide) (by decide) (by decide) rfl rfl rfl rfl
    have ne76 : b2 ≠ b69 := Nat.ne_of_lt (Nat.lt_of_lt_of_le f39.lt (Nat.le_of_eq eb70.symm))
    have f77 := (X19.keep K31 (ninS (Ne.symm ne22) nin0))
    have ne78 : b15 ≠ b69 := Nat.ne_of_lt (Nat.lt_of_lt_of_le f77.lt (Nat.le_of_eq eb70.symm))
    change Exa Z h68 b69 "[B" at XE75
    change Ars Z h68 b69 .byte (2 + ll.toInt + tt.toInt).toNat (fun _ => (.int (0 : Int32))) at X73
    have A79 := A74.astore (Ls' := #[.val (.int xi), .val (.int xl), .val (.int xt), .val (.int xf), .val (.ref b2), .val (.int v50), .val (.int ll), .val (.int tt), .val (.ref b69), .unset, .unset, .unset, .unset, .unset]) (pc' := 48) at_46 rfl rfl rfl
    have A80 := A79.aload (v := (.ref b69)) (pc' := 50) at_48 rfl rfl rfl
    have A81 := A80.iconst (z := (0 : Int32)) (pc' := 51) at_50 rfl rfl
    have A82 := A81.iloadN (v := xi) (pc' := 52) at_51 rfl rfl
    have A83 := A82.sipush (z := (254 : Int32)) (pc' := 55) at_52 rfl rfl
    have A84 := A83.iand (pc' := 56) at_55 rfl
    have A85 := A84.i2b (pc' := 57) at_56 rfl
    obtain ⟨h86, w87, X88, A89⟩ := A85.bastore (i := 0) (pc' := 58) at_57 X73 rfl (by omega) g71 rfl
    have A90 := A89.aload (v := (.ref b69)) (pc' := 60) at_58 rfl rfl rfl
    have A91 := A90.iconst (z := (1 : Int32)) (pc' := 61) at_60 rfl rfl
    have A92 := A91.iload (v := ll) (pc' := 63) at_61 rfl rfl
    have A93 := A92.i2b (pc' := 64) at_63 rfl
    obtain ⟨h94, w95, X96, A97⟩ := A93.bastore (i := 1) (pc' := 65) at_64 X88 rfl (by omega) g71 rfl
    have A98 := A97.iload (v := ll) (pc' := 67) at_65 rfl rfl
    have A99 := A98.iload (v := tt) (pc' := 69) at_67 rfl rfl
    have A100 := A99.iadd (pc' := 70) at_69 rfl
    by_cases c101 : 0 < (ll + tt).toInt
    · have A102 := A100.ifNo (pc' := 73) at_70 (tlt (igt (x := (ll + tt)) (y := (0 : Int32)) rfl rfl c101)).2.2.2 rfl
      have A103 := A102.aload (v := (.ref b69)) (pc' := 75) at_73 rfl rfl rfl
      have A104 := A103.aload (v := (.ref b69)) (pc' := 77) at_75 rfl rfl rfl
      have A105 := A104.alen (z := (((2 : Int32) + ll) + tt)) (pc' := 78) at_77 X96 (by omega) rfl
      have A106 := A105.iconst (z := (1 : Int32)) (pc' := 79) at_78 rfl rfl
      have A107 := A106.isub (pc' := 80) at_79 rfl
      have A108 := A107.iloadN (v := xf) (pc' := 81) at_80 rfl rfl
      have A109 := A108.i2b (pc' := 82) at_81 rfl
      obtain ⟨h110, w111, X112, A113⟩ := A109.bastore (i := (1 + ll.toInt + tt.toInt).toNat) (pc' := 83) at_82 X96 (by omega) (by omega) g71 rfl
      have A114 := A113.iload (v := ll) (pc' := 85) at_83 rfl rfl
      have A115 := A114.iload (v := tt) (pc' := 87) at_85 rfl rfl
      have A116 := A115.iadd (pc' := 88) at_87 rfl
      have A117 := A116.iconst (z := (1 : Int32)) (pc' := 89) at_88 rfl rfl
      by_cases c118 : 1 < (ll + tt).toInt
      · have A119 := A117.icmpNo (pc' := 92) at_89 (tlt (igt (x := (ll + tt)) (y := (1 : Int32)) rfl rfl c118)).2.2.2 rfl
        have A120 := A119.aload (v := (.ref b69)) (pc' := 94) at_92 rfl rfl rfl
        have A121 := A120.iconst (z := (2 : Int32)) (pc' := 95) at_94 rfl rfl
        have A122 := A121.iloadN (v := xf) (pc' := 96) at_95 rfl rfl
        have A123 := A122.bipush (z := (8 : Int32)) (pc' := 98) at_96 rfl rfl
        have A124 := A123.ishr (pc' := 99) at_98 rfl
        have A125 := A124.i2b (pc' := 100) at_99 rfl
        obtain ⟨h126, w127, X128, A129⟩ := A125.bastore (i := 2) (pc' := 101) at_100 X112 rfl (by omega) g71 rfl
        obtain ⟨h130, b131, eb132, g133, E134, X135, D136, A137⟩ := A129.newO (C' := 4) (S' := 14) (pc' := 104) at_101 (hw _ (List.mem_of_getElem? (i := 0) rfl)) (hw _ (List.mem_of_getElem? (i := 1) rfl)) (hw _ (List.mem_of_getElem? (i := 2) rfl)) (by decide) (by decide) rfl rfl rfl
        have f138 := (((((f39.ext E72).wr w87).wr w95).wr w111).wr w127)
        have ne139 : b2 ≠ b131 := Nat.ne_of_lt (Nat.lt_of_lt_of_le f138.lt (Nat.le_of_eq eb132.symm))
        have f140 := (((((f77.ext E72).other w87 ne78).other w95 ne78).other w111 ne78).other w127 ne78)
        have ne141 : b15 ≠ b131 := Nat.ne_of_lt (Nat.lt_of_lt_of_le f140.lt (Nat.le_of_eq eb132.symm))
        have ne142 : b69 ≠ b131 := Nat.ne_of_lt (Nat.lt_of_lt_of_le X128.lt (Nat.le_of_eq eb132.symm))
        have f143 : Fld Z h130 b131 "com/example/sworn_witness/swornwitness/DerReader" "der" "[B" .null := D136 (Or.inr (hw _ (List.mem_of_getElem? (i := 14) rfl))) (ty := (.array .byte)) (by decide)
        have f144 : Fld Z h130 b131 "com/example/sworn_witness/swornwitness/DerReader" "position" "I" (.int (0 : Int32)) := D136 (Or.inl (hw _ (List.mem_of_getElem? (i := 16) rfl))) (ty := .int) (by decide)
        have f145 : Fld Z h130 b131 "com/example/sworn_witness/swornwitness/DerReader" "end" "I" (.int (0 : Int32)) := D136 (Or.inr (hw _ (List.mem_of_getElem? (i := 18) rfl))) (ty := .int) (by decide)
        have A146 := A137.dup (pc' := 105) at_104 rfl rfl
        have A147 := A146.aload (v := (.ref b69)) (pc' := 107) at_105 rfl rfl rfl
        have f148 := (X128.ext E134)
        obtain ⟨h152, ⟨K153, f154, f155, f156, q151⟩, A149⟩ := V.kV (A147.callI (a := b131) (argsL := [(.ref b69)]) (rest := [(.ref b131)]) (C' := 4) (S' := 14) (pc' := 110) at_107 rfl (hw _ (List.mem_of_getElem? (i := 4) rfl)) (hw _ (List.mem_of_getElem? (i := 5) rfl)) (hw _ (List.mem_of_getElem? (i := 2) rfl)) (hw _ (List.mem_of_getElem? (i := 6) rfl)) (rm1 l Z a0 hw n0 [] (b131) (b69) ((2 + ll.toInt + tt.toInt).toNat) ((upd (upd (upd (upd (fun _ => (.int (0 : Int32))) 0 (.int ((xi &&& (254 : Int32)).toInt8.toInt32).toInt8.toInt32)) 1 (.int ll.toInt8.toInt32.toInt8.toInt32)) ((1 + ll.toInt + tt.toInt).toNat) (.int xf.toInt8.toInt32.toInt8.toInt32)) 2 (.int ((xf >>> ((8 : Int32) &&& 31)).toInt8.toInt32).toInt8.toInt32))) h130 A147.size X135 f143 f144 f145 g133 f148).wide rfl rfl pd_5 rfl rfl (by decide) (by decide) (Nat.le_of_ble_eq_true rfl) (by decide) (by decide) rfl rfl rfl)
        have A157 := A149.astore (Ls' := #[.val (.int xi), .val (.int xl), .val (.int xt), .val (.int xf), .val (.ref b2), .val (.int v50), .val (.int ll), .val (.int tt), .val (.ref b69), .val (.ref b131), .unset, .unset, .unset, .unset]) (pc' := 112) at_110 rfl rfl rfl
        have A158 := A157.aload (v := (.ref b131)) (pc' := 114) at_112 rfl rfl rfl
        have f161 := (X135.keep K153)
        obtain ⟨r160, _, ⟨rfl, q162⟩, A159⟩ := V.kI (A158.callV (a := b131) (argsL := []) (rest := []) (C' := 4) (S' := 14) (pc' := 117) at_114 f161 (hw _ (List.mem_of_getElem? (i := 19) rfl)) (hw _ (List.mem_of_getElem? (i := 20) rfl)) (fun hZ => notFace_of_selects (args := #[]) (mvT hZ (hw _ (List.mem_of_getElem? (i := 22) rfl)))) (hw _ (List.mem_of_getElem? (i := 22) rfl)) (hw _ (List.mem_of_getElem? (i := 21) rfl)) (hw _ (List.mem_of_getElem? (i := 2) rfl)) (hw _ (List.mem_of_getElem? (i := 23) rfl)) (rm4 l Z a0 hw n0 [] (b131) ((0 : Int32)) ((Int32.ofNat ((2 + ll.toInt + tt.toInt).toNat))) h152 A158.size f155 f156).wide rfl rfl pd_3 rfl rfl (by decide) (by decide) (Nat.le_of_ble_eq_true rfl) (by decide) (by decide) rfl rfl rfl)
        have A164 := A159.istore (Ls' := #[.val (.int xi), .val (.int xl), .val (.int xt), .val (.int xf), .val (.ref b2), .val (.int v50), .val (.int ll), .val (.int tt), .val (.ref b69), .val (.ref b131), .val (.int r160), .unset, .unset, .unset]) (pc' := 119) at_117 rfl rfl
        have A165 := A164.aload (v := (.ref b131)) (pc' := 121) at_119 rfl rfl rfl
        obtain ⟨r167, _, ⟨rfl, q168⟩, A166⟩ := V.kI (A165.callV (a := b131) (argsL := []) (rest := []) (C' := 4) (S' := 14) (pc' := 124) at_121 f161 (hw _ (List.mem_of_getElem? (i := 19) rfl)) (hw _ (List.mem_of_getElem? (i := 20) rfl)) (fun hZ => notFace_of_selects (args := #[]) (mvT hZ (hw _ (List.mem_of_getElem? (i := 22) rfl)))) (hw _ (List.mem_of_getElem? (i := 22) rfl)) (hw _ (List.mem_of_getElem? (i := 21) rfl)) (hw _ (List.mem_of_getElem? (i := 2) rfl)) (hw _ (List.mem_of_getElem? (i := 23) rfl)) (rm4 l Z a0 hw n0 [] (b131) ((0 : Int32)) ((Int32.ofNat ((2 + ll.toInt + tt.toInt).toNat))) h152 A165.size f155 f156).wide rfl rfl pd_3 rfl rfl (by decide) (by decide) (Nat.le_of_ble_eq_true rfl) (by decide) (by decide) rfl rfl rfl)
        have A170 := A166.istore (Ls' := #[.val (.int xi), .val (.int xl), .val (.int xt), .val (.int xf), .val (.ref b2), .val (.int v50), .val (.int ll), .val (.int tt), .val (.ref b69), .val (.ref b131), .val (.int r160), .val (.int r167), .unset, .unset]) (pc' := 126) at_124 rfl rfl
        have A171 := A170.aload (v := (.ref b131)) (pc' := 128) at_126 rfl rfl rfl
        obtain ⟨h172, sr173, E174, A175⟩ := A171.ldcStr (n := 4) (C' := 6) (S' := 22) (pc' := 130) at_128 (hw _ (List.mem_of_getElem? (i := 24) rfl)) (own_sa hw) (by decide) (by decide) (by decide) (by decide) rfl rfl rfl
        have f176 := (f161.ext E174)
        have f177 := (f154.ext E174)
        have f178 := (f155.ext E174)
        have f179 := (f156.ext E174)
        have f180 := ((f148.keep K153 (ninS ne142 nin0)).ext E174)
        obtain ⟨r182, h184, ⟨u186, K185, f187, f188, f189, q183⟩, A181⟩ := V.kA (A175.callV (a := b131) (argsL := [(.ref sr173)]) (rest := []) (C' := 7) (S' := 29) (pc' := 133) at_130 f176 (hw _ (List.mem_of_getElem? (i := 31) rfl)) (hw _ (List.mem_of_getElem? (i := 32) rfl)) (fun hZ => notFace_of_selects (args := #[]) (mvT hZ (hw _ (List.mem_of_getElem? (i := 34) rfl)))) (hw _ (List.mem_of_getElem? (i := 34) rfl)) (hw _ (List.mem_of_getElem? (i := 33) rfl)) (hw _ (List.mem_of_getElem? (i := 2) rfl)) (hw _ (List.mem_of_getElem? (i := 35) rfl)) (rm5 l Z a0 hw n0 [] (b131) (sr173) (b69) ((2 + ll.toInt + tt.toInt).toNat) ((upd (upd (upd (upd (fun _ => (.int (0 : Int32))) 0 (.int ((xi &&& (254 : Int32)).toInt8.toInt32).toInt8.toInt32)) 1 (.int ll.toInt8.toInt32.toInt8.toInt32)) ((1 + ll.toInt + tt.toInt).toNat) (.int xf.toInt8.toInt32.toInt8.toInt32)) 2 (.int ((xf >>> ((8 : Int32) &&& 31)).toInt8.toInt32).toInt8.toInt32))) ((0 : Int32)) ((Int32.ofNat ((2 + ll.toInt + tt.toInt).toNat))) ((xi &&& (254 : Int32)).toInt8.toInt32.toInt8.toInt32) (ll.toInt8.toInt32.toInt8.toInt32) h172 A175.size f176 g133 f177 f178 f179 f180 (Ne.symm ne142) (by refine ⟨by decide, ?_, ?_, ?_, ?_, ?_, k7⟩ <;> omega) (by first | rfl | (rw [upd_ne _ _ (by omega)]; rfl) | (rw [upd_ne _ _ (by omega), upd_ne _ _ (by omega)]; rfl)) (by first | rfl | (rw [upd_ne _ _ (by omega)]; rfl) | (rw [upd_ne _ _ (by omega), upd_ne _ _ (by omega)]; rfl))).wide rfl rfl pd_6 rfl rfl (by decide) (by decide) (Nat.le_of_ble_eq_true rfl) (by decide) (by decide) rfl rfl rfl)
        have A190 := A181.pop (pc' := 134) at_133 rfl rfl
        have A191 := A190.aload (v := (.ref b131)) (pc' := 136) at_134 rfl rfl rfl
        have f194 := (f176.keep K185)
        obtain ⟨r193, _, ⟨rfl, q195⟩, A192⟩ := V.kI (A191.callV (a := b131) (argsL := []) (rest := []) (C' := 7) (S' := 29) (pc' := 139) at_136 f194 (hw _ (List.mem_of_getElem? (i := 19) rfl)) (hw _ (List.mem_of_getElem? (i := 20) rfl)) (fun hZ => notFace_of_selects (args := #[]) (mvT hZ (hw _ (List.mem_of_getElem? (i := 22) rfl)))) (hw _ (List.mem_of_getElem? (i := 22) rfl)) (hw _ (List.mem_of_getElem? (i := 21) rfl)) (hw _ (List.mem_of_getElem? (i := 2) rfl)) (hw _ (List.mem_of_getElem? (i := 23) rfl)) (rm4 l Z a0 hw n0 [] (b131) (u186) ((Int32.ofNat ((2 + ll.toInt + tt.toInt).toNat))) h184 A191.size f188 f189).wide rfl rfl pd_3 rfl rfl (by decide) (by decide) (Nat.le_of_ble_eq_true rfl) (by decide) (by decide) rfl rfl rfl)
        have A197 := A192.istore (Ls' := #[.val (.int xi), .val (.int xl), .val (.int xt), .val (.int xf), .val (.ref b2), .val (.int v50), .val (.int ll), .val (.int tt), .val (.ref b69), .val (.ref b131), .val (.int r160), .val (.int r167), .val (.int r193), .unset]) (pc' := 141) at_139 rfl rfl
        have A198 := A197.aload (v := (.ref b131)) (pc' := 143) at_141 rfl rfl rfl
        obtain ⟨r200, _, ⟨rfl, q201⟩, A199⟩ := V.kI (A198.callV (a := b131) (argsL := []) (rest := []) (C' := 7) (S' := 29) (pc' := 146) at_143 f194 (hw _ (List.mem_of_getElem? (i := 19) rfl)) (hw _ (List.mem_of_getElem? (i := 20) rfl)) (fun hZ => notFace_of_selects (args := #[]) (mvT hZ (hw _ (List.mem_of_getElem? (i := 22) rfl)))) (hw _ (List.mem_of_getElem? (i := 22) rfl)) (hw _ (List.mem_of_getElem? (i := 21) rfl)) (hw _ (List.mem_of_getElem? (i := 2) rfl)) (hw _ (List.mem_of_getElem? (i := 23) rfl)) (rm4 l Z a0 hw n0 [] (b131) (u186) ((Int32.ofNat ((2 + ll.toInt + tt.toInt).toNat))) h184 A198.size f188 f189).wide rfl rfl pd_3 rfl rfl (by decide) (by decide) (Nat.le_of_ble_eq_true rfl) (by decide) (by decide) rfl rfl rfl)
        have A203 := A199.istore (Ls' := #[.val (.int xi), .val (.int xl), .val (.int xt), .val (.int xf), .val (.ref b2), .val (.int v50), .val (.int ll), .val (.int tt), .val (.ref b69), .val (.ref b131), .val (.int r160), .val (.int r167), .val (.int r193), .val (.int r200)]) (pc' := 148) at_146 rfl rfl
        have A204 := A203.iload (v := v50) (pc' := 150) at_148 rfl rfl
        by_cases c205 : v50.toInt = 0
        · have A206 := A204.ifYes (pc' := 189) at_150 (teq (ieq (x := v50) (y := (0 : Int32)) rfl rfl c205)).1 (by decide) (by decide)
          have A207 := A206.iconst (z := (0 : Int32)) (pc' := 190) at_189 rfl rfl
          refine A207.retN (t := .boolean) (z' := (0 : Int32)) at_190 (by decide) (by decide) (by simp) rfl ⟨_, rfl, ⟨trivial, ?_⟩⟩
          have elit : (0 : Int32).toInt = 0 := rfl
          exfalso
          omega
        · have A208 := A204.ifNo (pc' := 153) at_150 (feq (ine (x := v50) (y := (0 : Int32)) rfl rfl c205)).1 rfl
          have A209 := A208.iload (v := r160) (pc' := 155) at_153 rfl rfl
          by_cases c210 : r160.toInt = 0
          · have A211 := A209.ifYes (pc' := 189) at_155 (teq (ieq (x := r160) (y := (0 : Int32)) rfl rfl c210)).1 (by decide) (by decide)
            have A212 := A211.iconst (z := (0 : Int32)) (pc' := 190) at_189 rfl rfl
            refine A212.retN (t := .boolean) (z' := (0 : Int32)) at_190 (by decide) (by decide) (by simp) rfl ⟨_, rfl, ⟨trivial, ?_⟩⟩
            have elit : (0 : Int32).toInt = 0 := rfl
            exfalso
            omega
          · have A213 := A209.ifNo (pc' := 158) at_155 (feq (ine (x := r160) (y := (0 : Int32)) rfl rfl c210)).1 rfl
            have A214 := A213.iload (v := r167) (pc' := 160) at_158 rfl rfl
            by_cases c215 : r167.toInt = 0
            · have A216 := A214.ifYes (pc' := 189) at_160 (teq (ieq (x := r167) (y := (0 : Int32)) rfl rfl c215)).1 (by decide) (by decide)
              have A217 := A216.iconst (z := (0 : Int32)) (pc' := 190) at_189 rfl rfl
              refine A217.retN (t := .boolean) (z' := (0 : Int32)) at_190 (by decide) (by decide) (by simp) rfl ⟨_, rfl, ⟨trivial, ?_⟩⟩
              have elit : (0 : Int32).toInt = 0 := rfl
              exfalso
              omega
            · have A218 := A214.ifNo (pc' := 163) at_160 (feq (ine (x := r167) (y := (0 : Int32)) rfl rfl c215)).1 rfl
              have A219 := A218.iload (v := r193) (pc' := 165) at_163 rfl rfl
              have A220 := A219.iload (v := tt) (pc' := 167) at_165 rfl rfl
              by_cases c221 : 0 < tt.toInt
              · have A222 := A220.ifNo (pc' := 170) at_167 (tlt (igt (x := tt) (y := (0 : Int32)) rfl rfl c221)).2.2.2 rfl
                have A223 := A222.iconst (z := (1 : Int32)) (pc' := 171) at_170 rfl rfl
                have A224 := A223.goto (pc' := 175) at_171 (by decide) (by decide)
                by_cases c225 : r193.toInt = 1
                · have A226 := A224.icmpNo (pc' := 178) at_175 (teq (ieq (x := r193) (y := (1 : Int32)) rfl rfl c225)).2 rfl
                  have A227 := A226.iload (v := r200) (pc' := 180) at_178 rfl rfl
                  have A228 := A227.iload (v := r193) (pc' := 182) at_180 rfl rfl
                  by_cases c229 : r200.toInt = r193.toInt
                  · have A230 := A228.icmpNo (pc' := 185) at_182 (teq (ieq (x := r200) (y := r193) rfl rfl c229)).2 rfl
                    have A231 := A230.iconst (z := (1 : Int32)) (pc' := 186) at_185 rfl rfl
                    have A232 := A231.goto (pc' := 190) at_186 (by decide) (by decide)
                    refine A232.retN (t := .boolean) (z' := (1 : Int32)) at_190 (by decide) (by decide) (by simp) rfl ⟨_, rfl, ⟨trivial, ?_⟩⟩
                    have elit : (1 : Int32).toInt = 1 := rfl
                    rfl
                  · have A233 := A228.icmpYes (pc' := 189) at_182 (feq (ine (x := r200) (y := r193) rfl rfl c229)).2 (by decide) (by decide)
                    have A234 := A233.iconst (z := (0 : Int32)) (pc' := 190) at_189 rfl rfl
                    refine A234.retN (t := .boolean) (z' := (0 : Int32)) at_190 (by decide) (by decide) (by simp) rfl ⟨_, rfl, ⟨trivial, ?_⟩⟩
                    have elit : (0 : Int32).toInt = 0 := rfl
                    exfalso
                    omega
                · have A235 := A224.icmpYes (pc' := 189) at_175 (feq (ine (x := r193) (y := (1 : Int32)) rfl rfl c225)).2 (by decide) (by decide)
                  have A236 := A235.iconst (z := (0 : Int32)) (pc' := 190) at_189 rfl rfl
                  refine A236.retN (t := .boolean) (z' := (0 : Int32)) at_190 (by decide) (by decide) (by simp) rfl ⟨_, rfl, ⟨trivial, ?_⟩⟩
                  have elit : (0 : Int32).toInt = 0 := rfl
                  exfalso
                  omega
              · have A237 := A220.ifYes (pc' := 174) at_167 (flt (ingt (x := tt) (y := (0 : Int32)) rfl rfl c221)).2.2.2 (by decide) (by decide)
                have A238 := A237.iconst (z := (0 : Int32)) (pc' := 175) at_174 rfl rfl
                by_cases c239 : r193.toInt = 0
                · have A240 := A238.icmpNo (pc' := 178) at_175 (teq (ieq (x := r193) (y := (0 : Int32)) rfl rfl c239)).2 rfl
                  have A241 := A240.iload (v := r200) (pc' := 180) at_178 rfl rfl
                  have A242 := A241.iload (v := r193) (pc' := 182) at_180 rfl rfl
                  by_cases c243 : r200.toInt = r193.toInt
                  · have A244 := A242.icmpNo (pc' := 185) at_182 (teq (ieq (x := r200) (y := r193) rfl rfl c243)).2 rfl
                    have A245 := A244.iconst (z := (1 : Int32)) (pc' := 186) at_185 rfl rfl
                    have A246 := A245.goto (pc' := 190) at_186 (by decide) (by decide)
                    refine A246.retN (t := .boolean) (z' := (1 : Int32)) at_190 (by decide) (by decide) (by simp) rfl ⟨_, rfl, ⟨trivial, ?_⟩⟩
                    have elit : (1 : Int32).toInt = 1 := rfl
                    rfl
                  · have A247 := A242.icmpYes (pc' := 189) at_182 (feq (ine (x := r200) (y := r193) rfl rfl c243)).2 (by decide) (by decide)
                    have A248 := A247.iconst (z := (0 : Int32)) (pc' := 190) at_189 rfl rfl
                    refine A248.retN (t := .boolean) (z' := (0 : Int32)) at_190 (by decide) (by decide) (by simp) rfl ⟨_, rfl, ⟨trivial, ?_⟩⟩
                    have elit : (0 : Int32).toInt = 0 := rfl
                    exfalso
                    omega
                · have A249 := A238.icmpYes (pc' := 189) at_175 (feq (ine (x := r193) (y := (0 : Int32)) rfl rfl c239)).2 (by decide) (by decide)
                  have A250 := A249.iconst (z := (0 : Int32)) (pc' := 190) at_189 rfl rfl
                  refine A250.retN (t := .boolean) (z' := (0 : Int32)) at_190 (by decide) (by decide) (by simp) rfl ⟨_, rfl, ⟨trivial, ?_⟩⟩
                  have elit : (0 : Int32).toInt = 0 := rfl
                  exfalso
                  omega
      · have A251 := A117.icmpYes (pc' := 101) at_89 (flt (ingt (x := (ll + tt)) (y := (1 : Int32)) rfl rfl c118)).2.2.2 (by decide) (by decide)
        obtain ⟨h252, b253, eb254, g255, E256, X257, D258, A259⟩ := A251.newO (C' := 4) (S' := 14) (pc' := 104) at_101 (hw _ (List.mem_of_getElem? (i := 0) rfl)) (hw _ (List.mem_of_getElem? (i := 1) rfl)) (hw _ (List.mem_of_getElem? (i := 2) rfl)) (by decide) (by decide) rfl rfl rfl
        have f260 := ((((f39.ext E72).wr w87).wr w95).wr w111)
        have ne261 : b2 ≠ b253 := Nat.ne_of_lt (Nat.lt_of_lt_of_le f260.lt (Nat.le_of_eq eb254.symm))
        have f262 := ((((f77.ext E72).other w87 ne78).other w95 ne78).other w111 ne78)
        have ne263 : b15 ≠ b253 := Nat.ne_of_lt (Nat.lt_of_lt_of_le f262.lt (Nat.le_of_eq eb254.symm))
        have ne264 : b69 ≠ b253 := Nat.ne_of_lt (Nat.lt_of_lt_of_le X112.lt (Nat.le_of_eq eb254.symm))
        have f265 : Fld Z h252 b253 "com/example/sworn_witness/swornwitness/DerReader" "der" "[B" .null := D258 (Or.inr (hw _ (List.mem_of_getElem? (i := 14) rfl))) (ty := (.array .byte)) (by decide)
        have f266 : Fld Z h252 b253 "com/example/sworn_witness/swornwitness/DerReader" "position" "I" (.int (0 : Int32)) := D258 (Or.inl (hw _ (List.mem_of_getElem? (i := 16) rfl))) (ty := .int) (by decide)
        have f267 : Fld Z h252 b253 "com/example/sworn_witness/swornwitness/DerReader" "end" "I" (.int (0 : Int32)) := D258 (Or.inr (hw _ (List.mem_of_getElem? (i := 18) rfl))) (ty := .int) (by decide)
        have A268 := A259.dup (pc' := 105) at_104 rfl rfl
        have A269 := A268.aload (v := (.ref b69)) (pc' := 107) at_105 rfl rfl rfl
        have f270 := (X112.ext E256)
        obtain ⟨h274, ⟨K275, f276, f277, f278, q273⟩, A271⟩ := V.kV (A269.callI (a := b253) (argsL := [(.ref b69)]) (rest := [(.ref b253)]) (C' := 4) (S' := 14) (pc' := 110) at_107 rfl (hw _ (List.mem_of_getElem? (i := 4) rfl)) (hw _ (List.mem_of_getElem? (i := 5) rfl)) (hw _ (List.mem_of_getElem? (i := 2) rfl)) (hw _ (List.mem_of_getElem? (i := 6) rfl)) (rm1 l Z a0 hw n0 [] (b253) (b69) ((2 + ll.toInt + tt.toInt).toNat) ((upd (upd (upd (fun _ => (.int (0 : Int32))) 0 (.int ((xi &&& (254 : Int32)).toInt8.toInt32).toInt8.toInt32)) 1 (.int ll.toInt8.toInt32.toInt8.toInt32)) ((1 + ll.toInt + tt.toInt).toNat) (.int xf.toInt8.toInt32.toInt8.toInt32))) h252 A269.size X257 f265 f266 f267 g255 f270).wide rfl rfl pd_5 rfl rfl (by decide) (by decide) (Nat.le_of_ble_eq_true rfl) (by decide) (by decide) rfl rfl rfl)
        have A279 := A271.astore (Ls' := #[.val (.int xi), .val (.int xl), .val (.int xt), .val (.int xf), .val (.ref b2), .val (.int v50), .val (.int ll), .val (.int tt), .val (.ref b69), .val (.ref b253), .unset, .unset, .unset, .unset]) (pc' := 112) at_110 rfl rfl rfl
        have A280 := A279.aload (v := (.ref b253)) (pc' := 114) at_112 rfl rfl rfl
        have f283 := (X257.keep K275)
        obtain ⟨r282, _, ⟨rfl, q284⟩, A281⟩ := V.kI (A280.callV (a := b253) (argsL := []) (rest := []) (C' := 4) (S' := 14) (pc' := 117) at_114 f283 (hw _ (List.mem_of_getElem? (i := 19) rfl)) (hw _ (List.mem_of_getElem? (i := 20) rfl)) (fun hZ => notFace_of_selects (args := #[]) (mvT hZ (hw _ (List.mem_of_getElem? (i := 22) rfl)))) (hw _ (List.mem_of_getElem? (i := 22) rfl)) (hw _ (List.mem_of_getElem? (i := 21) rfl)) (hw _ (List.mem_of_getElem? (i := 2) rfl)) (hw _ (List.mem_of_getElem? (i := 23) rfl)) (rm4 l Z a0 hw n0 [] (b253) ((0 : Int32)) ((Int32.ofNat ((2 + ll.toInt + tt.toInt).toNat))) h274 A280.size f277 f278).wide rfl rfl pd_3 rfl rfl (by decide) (by decide) (Nat.le_of_ble_eq_true rfl) (by decide) (by decide) rfl rfl rfl)
        have A286 := A281.istore (Ls' := #[.val (.int xi), .val (.int xl), .val (.int xt), .val (.int xf), .val (.ref b2), .val (.int v50), .val (.int ll), .val (.int tt), .val (.ref b69), .val (.ref b253), .val (.int r282), .unset, .unset, .unset]) (pc' := 119) at_117 rfl rfl
        have A287 := A286.aload (v := (.ref b253)) (pc' := 121) at_119 rfl rfl rfl
        obtain ⟨r289, _, ⟨rfl, q290⟩, A288⟩ := V.kI (A287.callV (a := b253) (argsL := []) (rest := []) (C' := 4) (S' := 14) (pc' := 124) at_121 f283 (hw _ (List.mem_of_getElem? (i := 19) rfl)) (hw _ (List.mem_of_getElem? (i := 20) rfl)) (fun hZ => notFace_of_selects (args := #[]) (mvT hZ (hw _ (List.mem_of_getElem? (i := 22) rfl)))) (hw _ (List.mem_of_getElem? (i := 22) rfl)) (hw _ (List.mem_of_getElem? (i := 21) rfl)) (hw _ (List.mem_of_getElem? (i := 2) rfl)) (hw _ (List.mem_of_getElem? (i := 23) rfl)) (rm4 l Z a0 hw n0 [] (b253) ((0 : Int32)) ((Int32.ofNat ((2 + ll.toInt + tt.toInt).toNat))) h274 A287.size f277 f278).wide rfl rfl pd_3 rfl rfl (by decide) (by decide) (Nat.le_of_ble_eq_true rfl) (by decide) (by decide) rfl rfl rfl)
        have A292 := A288.istore (Ls' := #[.val (.int xi), .val (.int xl), .val (.int xt), .val (.int xf), .val (.ref b2), .val (.int v50), .val (.int ll), .val (.int tt), .val (.ref b69), .val (.ref b253), .val (.int r282), .val (.int r289), .unset, .unset]) (pc' := 126) at_124 rfl rfl
        have A293 := A292.aload (v := (.ref b253)) (pc' := 128) at_126 rfl rfl rfl
        obtain ⟨h294, sr295, E296, A297⟩ := A293.ldcStr (n := 4) (C' := 6) (S' := 22) (pc' := 130) at_128 (hw _ (List.mem_of_getElem? (i := 24) rfl)) (own_sa hw) (by decide) (by decide) (by decide) (by decide) rfl rfl rfl
        have f298 := (f283.ext E296)
        have f299 := (f276.ext E296)
        have f300 := (f277.ext E296)
        have f301 := (f278.ext E296)
        have f302 := ((f270.keep K275 (ninS ne264 nin0)).ext E296)
        obtain ⟨r304, h306, ⟨u308, K307, f309, f310, f311, q305⟩, A303⟩ := V.kA (A297.callV (a := b253) (argsL := [(.ref sr295)]) (rest := []) (C' := 7) (S' := 29) (pc' := 133) at_130 f298 (hw _ (List.mem_of_getElem? (i := 31) rfl)) (hw _ (List.mem_of_getElem? (i := 32) rfl)) (fun hZ => notFace_of_selects (args := #[]) (mvT hZ (hw _ (List.mem_of_getElem? (i := 34) rfl)))) (hw _ (List.mem_of_getElem? (i := 34) rfl)) (hw _ (List.mem_of_getElem? (i := 33) rfl)) (hw _ (List.mem_of_getElem? (i := 2) rfl)) (hw _ (List.mem_of_getElem? (i := 35) rfl)) (rm5 l Z a0 hw n0 [] (b253) (sr295) (b69) ((2 + ll.toInt + tt.toInt).toNat) ((upd (upd (upd (fun _ => (.int (0 : Int32))) 0 (.int ((xi &&& (254 : Int32)).toInt8.toInt32).toInt8.toInt32)) 1 (.int ll.toInt8.toInt32.toInt8.toInt32)) ((1 + ll.toInt + tt.toInt).toNat) (.int xf.toInt8.toInt32.toInt8.toInt32))) ((0 : Int32)) ((Int32.ofNat ((2 + ll.toInt + tt.toInt).toNat))) ((xi &&& (254 : Int32)).toInt8.toInt32.toInt8.toInt32) (ll.toInt8.toInt32.toInt8.toInt32) h294 A297.size f298 g255 f299 f300 f301 f302 (Ne.symm ne264) (by refine ⟨by decide, ?_, ?_, ?_, ?_, ?_, k7⟩ <;> omega) (by first | rfl | (rw [upd_ne _ _ (by omega)]; rfl) | (rw [upd_ne _ _ (by omega), upd_ne _ _ (by omega)]; rfl)) (by first | rfl | (rw [upd_ne _ _ (by omega)]; rfl) | (rw [upd_ne _ _ (by omega), upd_ne _ _ (by omega)]; rfl))).wide rfl rfl pd_6 rfl rfl (by decide) (by decide) (Nat.le_of_ble_eq_true rfl) (by decide) (by decide) rfl rfl rfl)
        have A312 := A303.pop (pc' := 134) at_133 rfl rfl
        have A313 := A312.aload (v := (.ref b253)) (pc' := 136) at_134 rfl rfl rfl
        have f316 := (f298.keep K307)
        obtain ⟨r315, _, ⟨rfl, q317⟩, A314⟩ := V.kI (A313.callV (a := b253) (argsL := []) (rest := []) (C' := 7) (S' := 29) (pc' := 139) at_136 f316 (hw _ (List.mem_of_getElem? (i := 19) rfl)) (hw _ (List.mem_of_getElem? (i := 20) rfl)) (fun hZ => notFace_of_selects (args := #[]) (mvT hZ (hw _ (List.mem_of_getElem? (i := 22) rfl)))) (hw _ (List.mem_of_getElem? (i := 22) rfl)) (hw _ (List.mem_of_getElem? (i := 21) rfl)) (hw _ (List.mem_of_getElem? (i := 2) rfl)) (hw _ (List.mem_of_getElem? (i := 23) rfl)) (rm4 l Z a0 hw n0 [] (b253) (u308) ((Int32.ofNat ((2 + ll.toInt + tt.toInt).toNat))) h306 A313.size f310 f311).wide rfl rfl pd_3 rfl rfl (by decide) (by decide) (Nat.le_of_ble_eq_true rfl) (by decide) (by decide) rfl rfl rfl)
        have A319 := A314.istore (Ls' := #[.val (.int xi), .val (.int xl), .val (.int xt), .val (.int xf), .val (.ref b2), .val (.int v50), .val (.int ll), .val (.int tt), .val (.ref b69), .val (.ref b253), .val (.int r282), .val (.int r289), .val (.int r315), .unset]) (pc' := 141) at_139 rfl rfl
        have A320 := A319.aload (v := (.ref b253)) (pc' := 143) at_141 rfl rfl rfl
        obtain ⟨r322, _, ⟨rfl, q323⟩, A321⟩ := V.kI (A320.callV (a := b253) (argsL := []) (rest := []) (C' := 7) (S' := 29) (pc' := 146) at_143 f316 (hw _ (List.mem_of_getElem? (i := 19) rfl)) (hw _ (List.mem_of_getElem? (i := 20) rfl)) (fun hZ => notFace_of_selects (args := #[]) (mvT hZ (hw _ (List.mem_of_getElem? (i := 22) rfl)))) (hw _ (List.mem_of_getElem? (i := 22) rfl)) (hw _ (List.mem_of_getElem? (i := 21) rfl)) (hw _ (List.mem_of_getElem? (i := 2) rfl)) (hw _ (List.mem_of_getElem? (i := 23) rfl)) (rm4 l Z a0 hw n0 [] (b253) (u308) ((Int32.ofNat ((2 + ll.toInt + tt.toInt).toNat))) h306 A320.size f310 f311).wide rfl rfl pd_3 rfl rfl (by decide) (by decide) (Nat.le_of_ble_eq_true rfl) (by decide) (by decide) rfl rfl rfl)
        have A325 := A321.istore (Ls' := #[.val (.int xi), .val (.int xl), .val (.int xt), .val (.int xf), .val (.ref b2), .val (.int v50), .val (.int ll), .val (.int tt), .val (.ref b69), .val (.ref b253), .val (.int r282), .val (.int r289), .val (.int r315), .val (.int r322)]) (pc' := 148) at_146 rfl rfl
        have A326 := A325.iload (v := v50) (pc' := 150) at_148 rfl rfl
        by_cases c327 : v50.toInt = 0
        · have A328 := A326.ifYes (pc' := 189) at_150 (teq (ieq (x := v50) (y := (0 : Int32)) rfl rfl c327)).1 (by decide) (by decide)
          have A329 := A328.iconst (z := (0 : Int32)) (pc' := 190) at_189 rfl rfl
          refine A329.retN (t := .boolean) (z' := (0 : Int32)) at_190 (by decide) (by decide) (by simp) rfl ⟨_, rfl, ⟨trivial, ?_⟩⟩
          have elit : (0 : Int32).toInt = 0 := rfl
          exfalso
          omega
        · have A330 := A326.ifNo (pc' := 153) at_150 (feq (ine (x := v50) (y := (0 : Int32)) rfl rfl c327)).1 rfl
          have A331 := A330.iload (v := r282) (pc' := 155) at_153 rfl rfl
          by_cases c332 : r282.toInt = 0
          · have A333 := A331.ifYes (pc' := 189) at_155 (teq (ieq (x := r282) (y := (0 : Int32)) rfl rfl c332)).1 (by decide) (by decide)
            have A334 := A333.iconst (z := (0 : Int32)) (pc' := 190) at_189 rfl rfl
            refine A334.retN (t := .boolean) (z' := (0 : Int32)) at_190 (by decide) (by decide) (by simp) rfl ⟨_, rfl, ⟨trivial, ?_⟩⟩
            have elit : (0 : Int32).toInt = 0 := rfl
            exfalso
            omega
          · have A335 := A331.ifNo (pc' := 158) at_155 (feq (ine (x := r282) (y := (0 : Int32)) rfl rfl c332)).1 rfl
            have A336 := A335.iload (v := r289) (pc' := 160) at_158 rfl rfl
            by_cases c337 : r289.toInt = 0
            · have A338 := A336.ifYes (pc' := 189) at_160 (teq (ieq (x := r289) (y := (0 : Int32)) rfl rfl c337)).1 (by decide) (by decide)
              have A339 := A338.iconst (z := (0 : Int32)) (pc' := 190) at_189 rfl rfl
              refine A339.retN (t := .boolean) (z' := (0 : Int32)) at_190 (by decide) (by decide) (by simp) rfl ⟨_, rfl, ⟨trivial, ?_⟩⟩
              have elit : (0 : Int32).toInt = 0 := rfl
              exfalso
              omega
            · have A340 := A336.ifNo (pc' := 163) at_160 (feq (ine (x := r289) (y := (0 : Int32)) rfl rfl c337)).1 rfl
              have A341 := A340.iload (v := r315) (pc' := 165) at_163 rfl rfl
              have A342 := A341.iload (v := tt) (pc' := 167) at_165 rfl rfl
              by_cases c343 : 0 < tt.toInt
              · have A344 := A342.ifNo (pc' := 170) at_167 (tlt (igt (x := tt) (y := (0 : Int32)) rfl rfl c343)).2.2.2 rfl
                have A345 := A344.iconst (z := (1 : Int32)) (pc' := 171) at_170 rfl rfl
                have A346 := A345.goto (pc' := 175) at_171 (by decide) (by decide)
                by_cases c347 : r315.toInt = 1
                · have A348 := A346.icmpNo (pc' := 178) at_175 (teq (ieq (x := r315) (y := (1 : Int32)) rfl rfl c347)).2 rfl
                  have A349 := A348.iload (v := r322) (pc' := 180) at_178 rfl rfl
                  have A350 := A349.iload (v := r315) (pc' := 182) at_180 rfl rfl
                  by_cases c351 : r322.toInt = r315.toInt
                  · have A352 := A350.icmpNo (pc' := 185) at_182 (teq (ieq (x := r322) (y := r315) rfl rfl c351)).2 rfl
                    have A353 := A352.iconst (z := (1 : Int32)) (pc' := 186) at_185 rfl rfl
                    have A354 := A353.goto (pc' := 190) at_186 (by decide) (by decide)
                    refine A354.retN (t := .boolean) (z' := (1 : Int32)) at_190 (by decide) (by decide) (by simp) rfl ⟨_, rfl, ⟨trivial, ?_⟩⟩
                    have elit : (1 : Int32).toInt = 1 := rfl
                    rfl
                  · have A355 := A350.icmpYes (pc' := 189) at_182 (feq (ine (x := r322) (y := r315) rfl rfl c351)).2 (by decide) (by decide)
                    have A356 := A355.iconst (z := (0 : Int32)) (pc' := 190) at_189 rfl rfl
                    refine A356.retN (t := .boolean) (z' := (0 : Int32)) at_190 (by decide) (by decide) (by simp) rfl ⟨_, rfl, ⟨trivial, ?_⟩⟩
                    have elit : (0 : Int32).toInt = 0 := rfl
                    exfalso
                    omega
                · have A357 := A346.icmpYes (pc' := 189) at_175 (feq (ine (x := r315) (y := (1 : Int32)) rfl rfl c347)).2 (by decide) (by decide)
                  have A358 := A357.iconst (z := (0 : Int32)) (pc' := 190) at_189 rfl rfl
                  refine A358.retN (t := .boolean) (z' := (0 : Int32)) at_190 (by decide) (by decide) (by simp) rfl ⟨_, rfl, ⟨trivial, ?_⟩⟩
                  have elit : (0 : Int32).toInt = 0 := rfl
                  exfalso
                  omega
              · have A359 := A342.ifYes (pc' := 174) at_167 (flt (ingt (x := tt) (y := (0 : Int32)) rfl rfl c343)).2.2.2 (by decide) (by decide)
                have A360 := A359.iconst (z := (0 : Int32)) (pc' := 175) at_174 rfl rfl
                by_cases c361 : r315.toInt = 0
                · have A362 := A360.icmpNo (pc' := 178) at_175 (teq (ieq (x := r315) (y := (0 : Int32)) rfl rfl c361)).2 rfl
                  have A363 := A362.iload (v := r322) (pc' := 180) at_178 rfl rfl
                  have A364 := A363.iload (v := r315) (pc' := 182) at_180 rfl rfl
                  by_cases c365 : r322.toInt = r315.toInt
                  · have A366 := A364.icmpNo (pc' := 185) at_182 (teq (ieq (x := r322) (y := r315) rfl rfl c365)).2 rfl
                    have A367 := A366.iconst (z := (1 : Int32)) (pc' := 186) at_185 rfl rfl
                    have A368 := A367.goto (pc' := 190) at_186 (by decide) (by decide)
                    refine A368.retN (t := .boolean) (z' := (1 : Int32)) at_190 (by decide) (by decide) (by simp) rfl ⟨_, rfl, ⟨trivial, ?_⟩⟩
                    have elit : (1 : Int32).toInt = 1 := rfl
                    rfl
                  · have A369 := A364.icmpYes (pc' := 189) at_182 (feq (ine (x := r322) (y := r315) rfl rfl c365)).2 (by decide) (by decide)
                    have A370 := A369.iconst (z := (0 : Int32)) (pc' := 190) at_189 rfl rfl
                    refine A370.retN (t := .boolean) (z' := (0 : Int32)) at_190 (by decide) (by decide) (by simp) rfl ⟨_, rfl, ⟨trivial, ?_⟩⟩
                    have elit : (0 : Int32).toInt = 0 := rfl
                    exfalso
                    omega
                · have A371 := A360.icmpYes (pc' := 189) at_175 (feq (ine (x := r315) (y := (0 : Int32)) rfl rfl c361)).2 (by decide) (by decide)
                  have A372 := A371.iconst (z := (0 : Int32)) (pc' := 190) at_189 rfl rfl
                  refine A372.retN (t := .boolean) (z' := (0 : Int32)) at_190 (by decide) (by decide) (by simp) rfl ⟨_, rfl, ⟨trivial, ?_⟩⟩
                  have elit : (0 : Int32).toInt = 0 := rfl
                  exfalso
                  omega
    · have A373 := A100.ifYes (pc' := 83) at_70 (flt (ingt (x := (ll + tt)) (y := (0 : Int32)) rfl rfl c101)).2.2.2 (by decide) (by decide)
      have A374 := A373.iload (v := ll) (pc' := 85) at_83 rfl rfl
      have A375 := A374.iload (v := tt) (pc' := 87) at_85 rfl rfl
      have A376 := A375.iadd (pc' := 88) at_87 rfl
      have A377 := A376.iconst (z := (1 : Int32)) (pc' := 89) at_88 rfl rfl
      by_cases c378 : 1 < (ll + tt).toInt
      · have A379 := A377.icmpNo (pc' := 92) at_89 (tlt (igt (x := (ll + tt)) (y := (1 : Int32)) rfl rfl c378)).2.2.2 rfl
        have A380 := A379.aload (v := (.ref b69)) (pc' := 94) at_92 rfl rfl rfl
        have A381 := A380.iconst (z := (2 : Int32)) (pc' := 95) at_94 rfl rfl
        have A382 := A381.iloadN (v := xf) (pc' := 96) at_95 rfl rfl
        have A383 := A382.bipush (z := (8 : Int32)) (pc' := 98) at_96 rfl rfl
        have A384 := A383.ishr (pc' := 99) at_98 rfl
        have A385 := A384.i2b (pc' := 100) at_99 rfl
        obtain ⟨h386, w387, X388, A389⟩ := A385.bastore (i := 2) (pc' := 101) at_100 X96 rfl (by omega) g71 rfl
        obtain ⟨h390, b391, eb392, g393, E394, X395, D396, A397⟩ := A389.newO (C' := 4) (S' := 14) (pc' := 104) at_101 (hw _ (List.mem_of_getElem? (i := 0) rfl)) (hw _ (List.mem_of_getElem? (i := 1) rfl)) (hw _ (List.mem_of_getElem? (i := 2) rfl)) (by decide) (by decide) rfl rfl rfl
        have f398 := ((((f39.ext E72).wr w87).wr w95).wr w387)
        have ne399 : b2 ≠ b391 := Nat.ne_of_lt (Nat.lt_of_lt_of_le f398.lt (Nat.le_of_eq eb392.symm))
        have f400 := ((((f77.ext E72).other w87 ne78).other w95 ne78).other w387 ne78)
        have ne401 : b15 ≠ b391 := Nat.ne_of_lt (Nat.lt_of_lt_of_le f400.lt (Nat.le_of_eq eb392.symm))
        have ne402 : b69 ≠ b391 := Nat.ne_of_lt (Nat.lt_of_lt_of_le X388.lt (Nat.le_of_eq eb392.symm))
        have f403 : Fld Z h390 b391 "com/example/sworn_witness/swornwitness/DerReader" "der" "[B" .null := D396 (Or.inr (hw _ (List.mem_of_getElem? (i := 14) rfl))) (ty := (.array .byte)) (by decide)
        have f404 : Fld Z h390 b391 "com/example/sworn_witness/swornwitness/DerReader" "position" "I" (.int (0 : Int32)) := D396 (Or.inl (hw _ (List.mem_of_getElem? (i := 16) rfl))) (ty := .int) (by decide)
        have f405 : Fld Z h390 b391 "com/example/sworn_witness/swornwitness/DerReader" "end" "I" (.int (0 : Int32)) := D396 (Or.inr (hw _ (List.mem_of_getElem? (i := 18) rfl))) (ty := .int) (by decide)
        have A406 := A397.dup (pc' := 105) at_104 rfl rfl
        have A407 := A406.aload (v := (.ref b69)) (pc' := 107) at_105 rfl rfl rfl
        have f408 := (X388.ext E394)
        obtain ⟨h412, ⟨K413, f414, f415, f416, q411⟩, A409⟩ := V.kV (A407.callI (a := b391) (argsL := [(.ref b69)]) (rest := [(.ref b391)]) (C' := 4) (S' := 14) (pc' := 110) at_107 rfl (hw _ (List.mem_of_getElem? (i := 4) rfl)) (hw _ (List.mem_of_getElem? (i := 5) rfl)) (hw _ (List.mem_of_getElem? (i := 2) rfl)) (hw _ (List.mem_of_getElem? (i := 6) rfl)) (rm1 l Z a0 hw n0 [] (b391) (b69) ((2 + ll.toInt + tt.toInt).toNat) ((upd (upd (upd (fun _ => (.int (0 : Int32))) 0 (.int ((xi &&& (254 : Int32)).toInt8.toInt32).toInt8.toInt32)) 1 (.int ll.toInt8.toInt32.toInt8.toInt32)) 2 (.int ((xf >>> ((8 : Int32) &&& 31)).toInt8.toInt32).toInt8.toInt32))) h390 A407.size X395 f403 f404 f405 g393 f408).wide rfl rfl pd_5 rfl rfl (by decide) (by decide) (Nat.le_of_ble_eq_true rfl) (by decide) (by decide) rfl rfl rfl)
        have A417 := A409.astore (Ls' := #[.val (.int xi), .val (.int xl), .val (.int xt), .val (.int xf), .val (.ref b2), .val (.int v50), .val (.int ll), .val (.int tt), .val (.ref b69), .val (.ref b391), .unset, .unset, .unset, .unset]) (pc' := 112) at_110 rfl rfl rfl
        have A418 := A417.aload (v := (.ref b391)) (pc' := 114) at_112 rfl rfl rfl
        have f421 := (X395.keep K413)
        obtain ⟨r420, _, ⟨rfl, q422⟩, A419⟩ := V.kI (A418.callV (a := b391) (argsL := []) (rest := []) (C' := 4) (S' := 14) (pc' := 117) at_114 f421 (hw _ (List.mem_of_getElem? (i := 19) rfl)) (hw _ (List.mem_of_getElem? (i := 20) rfl)) (fun hZ => notFace_of_selects (args := #[]) (mvT hZ (hw _ (List.mem_of_getElem? (i := 22) rfl)))) (hw _ (List.mem_of_getElem? (i := 22) rfl)) (hw _ (List.mem_of_getElem? (i := 21) rfl)) (hw _ (List.mem_of_getElem? (i := 2) rfl)) (hw _ (List.mem_of_getElem? (i := 23) rfl)) (rm4 l Z a0 hw n0 [] (b391) ((0 : Int32)) ((Int32.ofNat ((2 + ll.toInt + tt.toInt).toNat))) h412 A418.size f415 f416).wide rfl rfl pd_3 rfl rfl (by decide) (by decide) (Nat.le_of_ble_eq_true rfl) (by decide) (by decide) rfl rfl rfl)
        have A424 := A419.istore (Ls' := #[.val (.int xi), .val (.int xl), .val (.int xt), .val (.int xf), .val (.ref b2), .val (.int v50), .val (.int ll), .val (.int tt), .val (.ref b69), .val (.ref b391), .val (.int r420), .unset, .unset, .unset]) (pc' := 119) at_117 rfl rfl
        have A425 := A424.aload (v := (.ref b391)) (pc' := 121) at_119 rfl rfl rfl
        obtain ⟨r427, _, ⟨rfl, q428⟩, A426⟩ := V.kI (A425.callV (a := b391) (argsL := []) (rest := []) (C' := 4) (S' := 14) (pc' := 124) at_121 f421 (hw _ (List.mem_of_getElem? (i := 19) rfl)) (hw _ (List.mem_of_getElem? (i := 20) rfl)) (fun hZ => notFace_of_selects (args := #[]) (mvT hZ (hw _ (List.mem_of_getElem? (i := 22) rfl)))) (hw _ (List.mem_of_getElem? (i := 22) rfl)) (hw _ (List.mem_of_getElem? (i := 21) rfl)) (hw _ (List.mem_of_getElem? (i := 2) rfl)) (hw _ (List.mem_of_getElem? (i := 23) rfl)) (rm4 l Z a0 hw n0 [] (b391) ((0 : Int32)) ((Int32.ofNat ((2 + ll.toInt + tt.toInt).toNat))) h412 A425.size f415 f416).wide rfl rfl pd_3 rfl rfl (by decide) (by decide) (Nat.le_of_ble_eq_true rfl) (by decide) (by decide) rfl rfl rfl)
        have A430 := A426.istore (Ls' := #[.val (.int xi), .val (.int xl), .val (.int xt), .val (.int xf), .val (.ref b2), .val (.int v50), .val (.int ll), .val (.int tt), .val (.ref b69), .val (.ref b391), .val (.int r420), .val (.int r427), .unset, .unset]) (pc' := 126) at_124 rfl rfl
        have A431 := A430.aload (v := (.ref b391)) (pc' := 128) at_126 rfl rfl rfl
        obtain ⟨h432, sr433, E434, A435⟩ := A431.ldcStr (n := 4) (C' := 6) (S' := 22) (pc' := 130) at_128 (hw _ (List.mem_of_getElem? (i := 24) rfl)) (own_sa hw) (by decide) (by decide) (by decide) (by decide) rfl rfl rfl
        have f436 := (f421.ext E434)
        have f437 := (f414.ext E434)
        have f438 := (f415.ext E434)
        have f439 := (f416.ext E434)
        have f440 := ((f408.keep K413 (ninS ne402 nin0)).ext E434)
        obtain ⟨r442, h444, ⟨u446, K445, f447, f448, f449, q443⟩, A441⟩ := V.kA (A435.callV (a := b391) (argsL := [(.ref sr433)]) (rest := []) (C' := 7) (S' := 29) (pc' := 133) at_130 f436 (hw _ (List.mem_of_getElem? (i := 31) rfl)) (hw _ (List.mem_of_getElem? (i := 32) rfl)) (fun hZ => notFace_of_selects (args := #[]) (mvT hZ (hw _ (List.mem_of_getElem? (i := 34) rfl)))) (hw _ (List.mem_of_getElem? (i := 34) rfl)) (hw _ (List.mem_of_getElem? (i := 33) rfl)) (hw _ (List.mem_of_getElem? (i := 2) rfl)) (hw _ (List.mem_of_getElem? (i := 35) rfl)) (rm5 l Z a0 hw n0 [] (b391) (sr433) (b69) ((2 + ll.toInt + tt.toInt).toNat) ((upd (upd (upd (fun _ => (.int (0 : Int32))) 0 (.int ((xi &&& (254 : Int32)).toInt8.toInt32).toInt8.toInt32)) 1 (.int ll.toInt8.toInt32.toInt8.toInt32)) 2 (.int ((xf >>> ((8 : Int32) &&& 31)).toInt8.toInt32).toInt8.toInt32))) ((0 : Int32)) ((Int32.ofNat ((2 + ll.toInt + tt.toInt).toNat))) ((xi &&& (254 : Int32)).toInt8.toInt32.toInt8.toInt32) (ll.toInt8.toInt32.toInt8.toInt32) h432 A435.size f436 g393 f437 f438 f439 f440 (Ne.symm ne402) (by refine ⟨by decide, ?_, ?_, ?_, ?_, ?_, k7⟩ <;> omega) (by first | rfl | (rw [upd_ne _ _ (by omega)]; rfl) | (rw [upd_ne _ _ (by omega), upd_ne _ _ (by omega)]; rfl)) (by first | rfl | (rw [upd_ne _ _ (by omega)]; rfl) | (rw [upd_ne _ _ (by omega), upd_ne _ _ (by omega)]; rfl))).wide rfl rfl pd_6 rfl rfl (by decide) (by decide) (Nat.le_of_ble_eq_true rfl) (by decide) (by decide) rfl rfl rfl)
        have A450 := A441.pop (pc' := 134) at_133 rfl rfl
        have A451 := A450.aload (v := (.ref b391)) (pc' := 136) at_134 rfl rfl rfl
        have f454 := (f436.keep K445)
        obtain ⟨r453, _, ⟨rfl, q455⟩, A452⟩ := V.kI (A451.callV (a := b391) (argsL := []) (rest := []) (C' := 7) (S' := 29) (pc' := 139) at_136 f454 (hw _ (List.mem_of_getElem? (i := 19) rfl)) (hw _ (List.mem_of_getElem? (i := 20) rfl)) (fun hZ => notFace_of_selects (args := #[]) (mvT hZ (hw _ (List.mem_of_getElem? (i := 22) rfl)))) (hw _ (List.mem_of_getElem? (i := 22) rfl)) (hw _ (List.mem_of_getElem? (i := 21) rfl)) (hw _ (List.mem_of_getElem? (i := 2) rfl)) (hw _ (List.mem_of_getElem? (i := 23) rfl)) (rm4 l Z a0 hw n0 [] (b391) (u446) ((Int32.ofNat ((2 + ll.toInt + tt.toInt).toNat))) h444 A451.size f448 f449).wide rfl rfl pd_3 rfl rfl (by decide) (by decide) (Nat.le_of_ble_eq_true rfl) (by decide) (by decide) rfl rfl rfl)
        have A457 := A452.istore (Ls' := #[.val (.int xi), .val (.int xl), .val (.int xt), .val (.int xf), .val (.ref b2), .val (.int v50), .val (.int ll), .val (.int tt), .val (.ref b69), .val (.ref b391), .val (.int r420), .val (.int r427), .val (.int r453), .unset]) (pc' := 141) at_139 rfl rfl
        have A458 := A457.aload (v := (.ref b391)) (pc' := 143) at_141 rfl rfl rfl
        obtain ⟨r460, _, ⟨rfl, q461⟩, A459⟩ := V.kI (A458.callV (a := b391) (argsL := []) (rest := []) (C' := 7) (S' := 29) (pc' := 146) at_143 f454 (hw _ (List.mem_of_getElem? (i := 19) rfl)) (hw _ (List.mem_of_getElem? (i := 20) rfl)) (fun hZ => notFace_of_selects (args := #[]) (mvT hZ (hw _ (List.mem_of_getElem? (i := 22) rfl)))) (hw _ (List.mem_of_getElem? (i := 22) rfl)) (hw _ (List.mem_of_getElem? (i := 21) rfl)) (hw _ (List.mem_of_getElem? (i := 2) rfl)) (hw _ (List.mem_of_getElem? (i := 23) rfl)) (rm4 l Z a0 hw n0 [] (b391) (u446) ((Int32.ofNat ((2 + ll.toInt + tt.toInt).toNat))) h444 A458.size f448 f449).wide rfl rfl pd_3 rfl rfl (by decide) (by decide) (Nat.le_of_ble_eq_true rfl) (by decide) (by decide) rfl rfl rfl)
        have A463 := A459.istore (Ls' := #[.val (.int xi), .val (.int xl), .val (.int xt), .val (.int xf), .val (.ref b2), .val (.int v50), .val (.int ll), .val (.int tt), .val (.ref b69), .val (.ref b391), .val (.int r420), .val (.int r427), .val (.int r453), .val (.int r460)]) (pc' := 148) at_146 rfl rfl
        have A464 := A463.iload (v := v50) (pc' := 150) at_148 rfl rfl
        by_cases c465 : v50.toInt = 0
        · have A466 := A464.ifYes (pc' := 189) at_150 (teq (ieq (x := v50) (y := (0 : Int32)) rfl rfl c465)).1 (by decide) (by decide)
          have A467 := A466.iconst (z := (0 : Int32)) (pc' := 190) at_189 rfl rfl
          refine A467.retN (t := .boolean) (z' := (0 : Int32)) at_190 (by decide) (by decide) (by simp) rfl ⟨_, rfl, ⟨trivial, ?_⟩⟩
          have elit : (0 : Int32).toInt = 0 := rfl
          exfalso
          omega
        · have A468 := A464.ifNo (pc' := 153) at_150 (feq (ine (x := v50) (y := (0 : Int32)) rfl rfl c465)).1 rfl
          have A469 := A468.iload (v := r420) (pc' := 155) at_153 rfl rfl
          by_cases c470 : r420.toInt = 0
          · have A471 := A469.ifYes (pc' := 189) at_155 (teq (ieq (x := r420) (y := (0 : Int32)) rfl rfl c470)).1 (by decide) (by decide)
            have A472 := A471.iconst (z := (0 : Int32)) (pc' := 190) at_189 rfl rfl
            refine A472.retN (t := .boolean) (z' := (0 : Int32)) at_190 (by decide) (by decide) (by simp) rfl ⟨_, rfl, ⟨trivial, ?_⟩⟩
            have elit : (0 : Int32).toInt = 0 := rfl
            exfalso
            omega
          · have A473 := A469.ifNo (pc' := 158) at_155 (feq (ine (x := r420) (y := (0 : Int32)) rfl rfl c470)).1 rfl
            have A474 := A473.iload (v := r427) (pc' := 160) at_158 rfl rfl
            by_cases c475 : r427.toInt = 0
            · have A476 := A474.ifYes (pc' := 189) at_160 (teq (ieq (x := r427) (y := (0 : Int32)) rfl rfl c475)).1 (by decide) (by decide)
              have A477 := A476.iconst (z := (0 : Int32)) (pc' := 190) at_189 rfl rfl
              refine A477.retN (t := .boolean) (z' := (0 : Int32)) at_190 (by decide) (by decide) (by simp) rfl ⟨_, rfl, ⟨trivial, ?_⟩⟩
              have elit : (0 : Int32).toInt = 0 := rfl
              exfalso
              omega
            · have A478 := A474.ifNo (pc' := 163) at_160 (feq (ine (x := r427) (y := (0 : Int32)) rfl rfl c475)).1 rfl
              have A479 := A478.iload (v := r453) (pc' := 165) at_163 rfl rfl
              have A480 := A479.iload (v := tt) (pc' := 167) at_165 rfl rfl
              by_cases c481 : 0 < tt.toInt
              · have A482 := A480.ifNo (pc' := 170) at_167 (tlt (igt (x := tt) (y := (0 : Int32)) rfl rfl c481)).2.2.2 rfl
                have A483 := A482.iconst (z := (1 : Int32)) (pc' := 171) at_170 rfl rfl
                have A484 := A483.goto (pc' := 175) at_171 (by decide) (by decide)
                by_cases c485 : r453.toInt = 1
                · have A486 := A484.icmpNo (pc' := 178) at_175 (teq (ieq (x := r453) (y := (1 : Int32)) rfl rfl c485)).2 rfl
                  have A487 := A486.iload (v := r460) (pc' := 180) at_178 rfl rfl
                  have A488 := A487.iload (v := r453) (pc' := 182) at_180 rfl rfl
                  by_cases c489 : r460.toInt = r453.toInt
                  · have A490 := A488.icmpNo (pc' := 185) at_182 (teq (ieq (x := r460) (y := r453) rfl rfl c489)).2 rfl
                    have A491 := A490.iconst (z := (1 : Int32)) (pc' := 186) at_185 rfl rfl
                    have A492 := A491.goto (pc' := 190) at_186 (by decide) (by decide)
                    refine A492.retN (t := .boolean) (z' := (1 : Int32)) at_190 (by decide) (by decide) (by simp) rfl ⟨_, rfl, ⟨trivial, ?_⟩⟩
                    have elit : (1 : Int32).toInt = 1 := rfl
                    rfl
                  · have A493 := A488.icmpYes (pc' := 189) at_182 (feq (ine (x := r460) (y := r453) rfl rfl c489)).2 (by decide) (by decide)
                    have A494 := A493.iconst (z := (0 : Int32)) (pc' := 190) at_189 rfl rfl
                    refine A494.retN (t := .boolean) (z' := (0 : Int32)) at_190 (by decide) (by decide) (by simp) rfl ⟨_, rfl, ⟨trivial, ?_⟩⟩
                    have elit : (0 : Int32).toInt = 0 := rfl
                    exfalso
                    omega
                · have A495 := A484.icmpYes (pc' := 189) at_175 (feq (ine (x := r453) (y := (1 : Int32)) rfl rfl c485)).2 (by decide) (by decide)
                  have A496 := A495.iconst (z := (0 : Int32)) (pc' := 190) at_189 rfl rfl
                  refine A496.retN (t := .boolean) (z' := (0 : Int32)) at_190 (by decide) (by decide) (by simp) rfl ⟨_, rfl, ⟨trivial, ?_⟩⟩
                  have elit : (0 : Int32).toInt = 0 := rfl
                  exfalso
                  omega
              · have A497 := A480.ifYes (pc' := 174) at_167 (flt (ingt (x := tt) (y := (0 : Int32)) rfl rfl c481)).2.2.2 (by decide) (by decide)
                have A498 := A497.iconst (z := (0 : Int32)) (pc' := 175) at_174 rfl rfl
                by_cases c499 : r453.toInt = 0
                · have A500 := A498.icmpNo (pc' := 178) at_175 (teq (ieq (x := r453) (y := (0 : Int32)) rfl rfl c499)).2 rfl
                  have A501 := A500.iload (v := r460) (pc' := 180) at_178 rfl rfl
                  have A502 := A501.iload (v := r453) (pc' := 182) at_180 rfl rfl
                  by_cases c503 : r460.toInt = r453.toInt
                  · have A504 := A502.icmpNo (pc' := 185) at_182 (teq (ieq (x := r460) (y := r453) rfl rfl c503)).2 rfl
                    have A505 := A504.iconst (z := (1 : Int32)) (pc' := 186) at_185 rfl rfl
                    have A506 := A505.goto (pc' := 190) at_186 (by decide) (by decide)
                    refine A506.retN (t := .boolean) (z' := (1 : Int32)) at_190 (by decide) (by decide) (by simp) rfl ⟨_, rfl, ⟨trivial, ?_⟩⟩
                    have elit : (1 : Int32).toInt = 1 := rfl
                    rfl
                  · have A507 := A502.icmpYes (pc' := 189) at_182 (feq (ine (x := r460) (y := r453) rfl rfl c503)).2 (by decide) (by decide)
                    have A508 := A507.iconst (z := (0 : Int32)) (pc' := 190) at_189 rfl rfl
                    refine A508.retN (t := .boolean) (z' := (0 : Int32)) at_190 (by decide) (by decide) (by simp) rfl ⟨_, rfl, ⟨trivial, ?_⟩⟩
                    have elit : (0 : Int32).toInt = 0 := rfl
                    exfalso
                    omega
                · have A509 := A498.icmpYes (pc' := 189) at_175 (feq (ine (x := r453) (y := (0 : Int32)) rfl rfl c499)).2 (by decide) (by decide)
                  have A510 := A509.iconst (z := (0 : Int32)) (pc' := 190) at_189 rfl rfl
                  refine A510.retN (t := .boolean) (z' := (0 : Int32)) at_190 (by decide) (by decide) (by simp) rfl ⟨_, rfl, ⟨trivial, ?_⟩⟩
                  have elit : (0 : Int32).toInt = 0 := rfl
                  exfalso
                  omega
      · have A511 := A377.icmpYes (pc' := 101) at_89 (flt (ingt (x := (ll + tt)) (y := (1 : Int32)) rfl rfl c378)).2.2.2 (by decide) (by decide)
        obtain ⟨h512, b513, eb514, g515, E516, X517, D518, A519⟩ := A511.newO (C' := 4) (S' := 14) (pc' := 104) at_101 (hw _ (List.mem_of_getElem? (i := 0) rfl)) (hw _ (List.mem_of_getElem? (i := 1) rfl)) (hw _ (List.mem_of_getElem? (i := 2) rfl)) (by decide) (by decide) rfl rfl rfl
        have f520 := (((f39.ext E72).wr w87).wr w95)
        have ne521 : b2 ≠ b513 := Nat.ne_of_lt (Nat.lt_of_lt_of_le f520.lt (Nat.le_of_eq eb514.symm))
        have f522 := (((f77.ext E72).other w87 ne78).other w95 ne78)
        have ne523 : b15 ≠ b513 := Nat.ne_of_lt (Nat.lt_of_lt_of_le f522.lt (Nat.le_of_eq eb514.symm))
        have ne524 : b69 ≠ b513 := Nat.ne_of_lt (Nat.lt_of_lt_of_le X96.lt (Nat.le_of_eq eb514.symm))
        have f525 : Fld Z h512 b513 "com/example/sworn_witness/swornwitness/DerReader" "der" "[B" .null := D518 (Or.inr (hw _ (List.mem_of_getElem? (i := 14) rfl))) (ty := (.array .byte)) (by decide)
        have f526 : Fld Z h512 b513 "com/example/sworn_witness/swornwitness/DerReader" "position" "I" (.int (0 : Int32)) := D518 (Or.inl (hw _ (List.mem_of_getElem? (i := 16) rfl))) (ty := .int) (by decide)
        have f527 : Fld Z h512 b513 "com/example/sworn_witness/swornwitness/DerReader" "end" "I" (.int (0 : Int32)) := D518 (Or.inr (hw _ (List.mem_of_getElem? (i := 18) rfl))) (ty := .int) (by decide)
        have A528 := A519.dup (pc' := 105) at_104 rfl rfl
        have A529 := A528.aload (v := (.ref b69)) (pc' := 107) at_105 rfl rfl rfl
        have f530 := (X96.ext E516)
        obtain ⟨h534, ⟨K535, f536, f537, f538, q533⟩, A531⟩ := V.kV (A529.callI (a := b513) (argsL := [(.ref b69)]) (rest := [(.ref b513)]) (C' := 4) (S' := 14) (pc' := 110) at_107 rfl (hw _ (List.mem_of_getElem? (i := 4) rfl)) (hw _ (List.mem_of_getElem? (i := 5) rfl)) (hw _ (List.mem_of_getElem? (i := 2) rfl)) (hw _ (List.mem_of_getElem? (i := 6) rfl)) (rm1 l Z a0 hw n0 [] (b513) (b69) ((2 + ll.toInt + tt.toInt).toNat) ((upd (upd (fun _ => (.int (0 : Int32))) 0 (.int ((xi &&& (254 : Int32)).toInt8.toInt32).toInt8.toInt32)) 1 (.int ll.toInt8.toInt32.toInt8.toInt32))) h512 A529.size X517 f525 f526 f527 g515 f530).wide rfl rfl pd_5 rfl rfl (by decide) (by decide) (Nat.le_of_ble_eq_true rfl) (by decide) (by decide) rfl rfl rfl)
        have A539 := A531.astore (Ls' := #[.val (.int xi), .val (.int xl), .val (.int xt), .val (.int xf), .val (.ref b2), .val (.int v50), .val (.int ll), .val (.int tt), .val (.ref b69), .val (.ref b513), .unset, .unset, .unset, .unset]) (pc' := 112) at_110 rfl rfl rfl
        have A540 := A539.aload (v := (.ref b513)) (pc' := 114) at_112 rfl rfl rfl
        have f543 := (X517.keep K535)
        obtain ⟨r542, _, ⟨rfl, q544⟩, A541⟩ := V.kI (A540.callV (a := b513) (argsL := []) (rest := []) (C' := 4) (S' := 14) (pc' := 117) at_114 f543 (hw _ (List.mem_of_getElem? (i := 19) rfl)) (hw _ (List.mem_of_getElem? (i := 20) rfl)) (fun hZ => notFace_of_selects (args := #[]) (mvT hZ (hw _ (List.mem_of_getElem? (i := 22) rfl)))) (hw _ (List.mem_of_getElem? (i := 22) rfl)) (hw _ (List.mem_of_getElem? (i := 21) rfl)) (hw _ (List.mem_of_getElem? (i := 2) rfl)) (hw _ (List.mem_of_getElem? (i := 23) rfl)) (rm4 l Z a0 hw n0 [] (b513) ((0 : Int32)) ((Int32.ofNat ((2 + ll.toInt + tt.toInt).toNat))) h534 A540.size f537 f538).wide rfl rfl pd_3 rfl rfl (by decide) (by decide) (Nat.le_of_ble_eq_true rfl) (by decide) (by decide) rfl rfl rfl)
        have A546 := A541.istore (Ls' := #[.val (.int xi), .val (.int xl), .val (.int xt), .val (.int xf), .val (.ref b2), .val (.int v50), .val (.int ll), .val (.int tt), .val (.ref b69), .val (.ref b513), .val (.int r542), .unset, .unset, .unset]) (pc' := 119) at_117 rfl rfl
        have A547 := A546.aload (v := (.ref b513)) (pc' := 121) at_119 rfl rfl rfl
        obtain ⟨r549, _, ⟨rfl, q550⟩, A548⟩ := V.kI (A547.callV (a := b513) (argsL := []) (rest := []) (C' := 4) (S' := 14) (pc' := 124) at_121 f543 (hw _ (List.mem_of_getElem? (i := 19) rfl)) (hw _ (List.mem_of_getElem? (i := 20) rfl)) (fun hZ => notFace_of_selects (args := #[]) (mvT hZ (hw _ (List.mem_of_getElem? (i := 22) rfl)))) (hw _ (List.mem_of_getElem? (i := 22) rfl)) (hw _ (List.mem_of_getElem? (i := 21) rfl)) (hw _ (List.mem_of_getElem? (i := 2) rfl)) (hw _ (List.mem_of_getElem? (i := 23) rfl)) (rm4 l Z a0 hw n0 [] (b513) ((0 : Int32)) ((Int32.ofNat ((2 + ll.toInt + tt.toInt).toNat))) h534 A547.size f537 f538).wide rfl rfl pd_3 rfl rfl (by decide) (by decide) (Nat.le_of_ble_eq_true rfl) (by decide) (by decide) rfl rfl rfl)
        have A552 := A548.istore (Ls' := #[.val (.int xi), .val (.int xl), .val (.int xt), .val (.int xf), .val (.ref b2), .val (.int v50), .val (.int ll), .val (.int tt), .val (.ref b69), .val (.ref b513), .val (.int r542), .val (.int r549), .unset, .unset]) (pc' := 126) at_124 rfl rfl
        have A553 := A552.aload (v := (.ref b513)) (pc' := 128) at_126 rfl rfl rfl
        obtain ⟨h554, sr555, E556, A557⟩ := A553.ldcStr (n := 4) (C' := 6) (S' := 22) (pc' := 130) at_128 (hw _ (List.mem_of_getElem? (i := 24) rfl)) (own_sa hw) (by decide) (by decide) (by decide) (by decide) rfl rfl rfl
        have f558 := (f543.ext E556)
        have f559 := (f536.ext E556)
        have f560 := (f537.ext E556)
        have f561 := (f538.ext E556)
        have f562 := ((f530.keep K535 (ninS ne524 nin0)).ext E556)
        obtain ⟨r564, h566, ⟨u568, K567, f569, f570, f571, q565⟩, A563⟩ := V.kA (A557.callV (a := b513) (argsL := [(.ref sr555)]) (rest := []) (C' := 7) (S' := 29) (pc' := 133) at_130 f558 (hw _ (List.mem_of_getElem? (i := 31) rfl)) (hw _ (List.mem_of_getElem? (i := 32) rfl)) (fun hZ => notFace_of_selects (args := #[]) (mvT hZ (hw _ (List.mem_of_getElem? (i := 34) rfl)))) (hw _ (List.mem_of_getElem? (i := 34) rfl)) (hw _ (List.mem_of_getElem? (i := 33) rfl)) (hw _ (List.mem_of_getElem? (i := 2) rfl)) (hw _ (List.mem_of_getElem? (i := 35) rfl)) (rm5 l Z a0 hw n0 [] (b513) (sr555) (b69) ((2 + ll.toInt + tt.toInt).toNat) ((upd (upd (fun _ => (.int (0 : Int32))) 0 (.int ((xi &&& (254 : Int32)).toInt8.toInt32).toInt8.toInt32)) 1 (.int ll.toInt8.toInt32.toInt8.toInt32))) ((0 : Int32)) ((Int32.ofNat ((2 + ll.toInt + tt.toInt).toNat))) ((xi &&& (254 : Int32)).toInt8.toInt32.toInt8.toInt32) (ll.toInt8.toInt32.toInt8.toInt32) h554 A557.size f558 g515 f559 f560 f561 f562 (Ne.symm ne524) (by refine ⟨by decide, ?_, ?_, ?_, ?_, ?_, k7⟩ <;> omega) (by first | rfl | (rw [upd_ne _ _ (by omega)]; rfl) | (rw [upd_ne _ _ (by omega), upd_ne _ _ (by omega)]; rfl)) (by first | rfl | (rw [upd_ne _ _ (by omega)]; rfl) | (rw [upd_ne _ _ (by omega), upd_ne _ _ (by omega)]; rfl))).wide rfl rfl pd_6 rfl rfl (by decide) (by decide) (Nat.le_of_ble_eq_true rfl) (by decide) (by decide) rfl rfl rfl)
        have A572 := A563.pop (pc' := 134) at_133 rfl rfl
        have A573 := A572.aload (v := (.ref b513)) (pc' := 136) at_134 rfl rfl rfl
        have f576 := (f558.keep K567)
        obtain ⟨r575, _, ⟨rfl, q577⟩, A574⟩ := V.kI (A573.callV (a := b513) (argsL := []) (rest := []) (C' := 7) (S' := 29) (pc' := 139) at_136 f576 (hw _ (List.mem_of_getElem? (i := 19) rfl)) (hw _ (List.mem_of_getElem? (i := 20) rfl)) (fun hZ => notFace_of_selects (args := #[]) (mvT hZ (hw _ (List.mem_of_getElem? (i := 22) rfl)))) (hw _ (List.mem_of_getElem? (i := 22) rfl)) (hw _ (List.mem_of_getElem? (i := 21) rfl)) (hw _ (List.mem_of_getElem? (i := 2) rfl)) (hw _ (List.mem_of_getElem? (i := 23) rfl)) (rm4 l Z a0 hw n0 [] (b513) (u568) ((Int32.ofNat ((2 + ll.toInt + tt.toInt).toNat))) h566 A573.size f570 f571).wide rfl rfl pd_3 rfl rfl (by decide) (by decide) (Nat.le_of_ble_eq_true rfl) (by decide) (by decide) rfl rfl rfl)
        have A579 := A574.istore (Ls' := #[.val (.int xi), .val (.int xl), .val (.int xt), .val (.int xf), .val (.ref b2), .val (.int v50), .val (.int ll), .val (.int tt), .val (.ref b69), .val (.ref b513), .val (.int r542), .val (.int r549), .val (.int r575), .unset]) (pc' := 141) at_139 rfl rfl
        have A580 := A579.aload (v := (.ref b513)) (pc' := 143) at_141 rfl rfl rfl
        obtain ⟨r582, _, ⟨rfl, q583⟩, A581⟩ := V.kI (A580.callV (a := b513) (argsL := []) (rest := []) (C' := 7) (S' := 29) (pc' := 146) at_143 f576 (hw _ (List.mem_of_getElem? (i := 19) rfl)) (hw _ (List.mem_of_getElem? (i := 20) rfl)) (fun hZ => notFace_of_selects (args := #[]) (mvT hZ (hw _ (List.mem_of_getElem? (i := 22) rfl)))) (hw _ (List.mem_of_getElem? (i := 22) rfl)) (hw _ (List.mem_of_getElem? (i := 21) rfl)) (hw _ (List.mem_of_getElem? (i := 2) rfl)) (hw _ (List.mem_of_getElem? (i := 23) rfl)) (rm4 l Z a0 hw n0 [] (b513) (u568) ((Int32.ofNat ((2 + ll.toInt + tt.toInt).toNat))) h566 A580.size f570 f571).wide rfl rfl pd_3 rfl rfl (by decide) (by decide) (Nat.le_of_ble_eq_true rfl) (by decide) (by decide) rfl rfl rfl)
        have A585 := A581.istore (Ls' := #[.val (.int xi), .val (.int xl), .val (.int xt), .val (.int xf), .val (.ref b2), .val (.int v50), .val (.int ll), .val (.int tt), .val (.ref b69), .val (.ref b513), .val (.int r542), .val (.int r549), .val (.int r575), .val (.int r582)]) (pc' := 148) at_146 rfl rfl
        have A586 := A585.iload (v := v50) (pc' := 150) at_148 rfl rfl
        by_cases c587 : v50.toInt = 0
        · have A588 := A586.ifYes (pc' := 189) at_150 (teq (ieq (x := v50) (y := (0 : Int32)) rfl rfl c587)).1 (by decide) (by decide)
          have A589 := A588.iconst (z := (0 : Int32)) (pc' := 190) at_189 rfl rfl
          refine A589.retN (t := .boolean) (z' := (0 : Int32)) at_190 (by decide) (by decide) (by simp) rfl ⟨_, rfl, ⟨trivial, ?_⟩⟩
          have elit : (0 : Int32).toInt = 0 := rfl
          exfalso
          omega
        · have A590 := A586.ifNo (pc' := 153) at_150 (feq (ine (x := v50) (y := (0 : Int32)) rfl rfl c587)).1 rfl
          have A591 := A590.iload (v := r542) (pc' := 155) at_153 rfl rfl
          by_cases c592 : r542.toInt = 0
          · have A593 := A591.ifYes (pc' := 189) at_155 (teq (ieq (x := r542) (y := (0 : Int32)) rfl rfl c592)).1 (by decide) (by decide)
            have A594 := A593.iconst (z := (0 : Int32)) (pc' := 190) at_189 rfl rfl
            refine A594.retN (t := .boolean) (z' := (0 : Int32)) at_190 (by decide) (by decide) (by simp) rfl ⟨_, rfl, ⟨trivial, ?_⟩⟩
            have elit : (0 : Int32).toInt = 0 := rfl
            exfalso
            omega
          · have A595 := A591.ifNo (pc' := 158) at_155 (feq (ine (x := r542) (y := (0 : Int32)) rfl rfl c592)).1 rfl
            have A596 := A595.iload (v := r549) (pc' := 160) at_158 rfl rfl
            by_cases c597 : r549.toInt = 0
            · have A598 := A596.ifYes (pc' := 189) at_160 (teq (ieq (x := r549) (y := (0 : Int32)) rfl rfl c597)).1 (by decide) (by decide)
              have A599 := A598.iconst (z := (0 : Int32)) (pc' := 190) at_189 rfl rfl
              refine A599.retN (t := .boolean) (z' := (0 : Int32)) at_190 (by decide) (by decide) (by simp) rfl ⟨_, rfl, ⟨trivial, ?_⟩⟩
              have elit : (0 : Int32).toInt = 0 := rfl
              exfalso
              omega
            · have A600 := A596.ifNo (pc' := 163) at_160 (feq (ine (x := r549) (y := (0 : Int32)) rfl rfl c597)).1 rfl
              have A601 := A600.iload (v := r575) (pc' := 165) at_163 rfl rfl
              have A602 := A601.iload (v := tt) (pc' := 167) at_165 rfl rfl
              by_cases c603 : 0 < tt.toInt
              · have A604 := A602.ifNo (pc' := 170) at_167 (tlt (igt (x := tt) (y := (0 : Int32)) rfl rfl c603)).2.2.2 rfl
                have A605 := A604.iconst (z := (1 : Int32)) (pc' := 171) at_170 rfl rfl
                have A606 := A605.goto (pc' := 175) at_171 (by decide) (by decide)
                by_cases c607 : r575.toInt = 1
                · have A608 := A606.icmpNo (pc' := 178) at_175 (teq (ieq (x := r575) (y := (1 : Int32)) rfl rfl c607)).2 rfl
                  have A609 := A608.iload (v := r582) (pc' := 180) at_178 rfl rfl
                  have A610 := A609.iload (v := r575) (pc' := 182) at_180 rfl rfl
                  by_cases c611 : r582.toInt = r575.toInt
                  · have A612 := A610.icmpNo (pc' := 185) at_182 (teq (ieq (x := r582) (y := r575) rfl rfl c611)).2 rfl
                    have A613 := A612.iconst (z := (1 : Int32)) (pc' := 186) at_185 rfl rfl
                    have A614 := A613.goto (pc' := 190) at_186 (by decide) (by decide)
                    refine A614.retN (t := .boolean) (z' := (1 : Int32)) at_190 (by decide) (by decide) (by simp) rfl ⟨_, rfl, ⟨trivial, ?_⟩⟩
                    have elit : (1 : Int32).toInt = 1 := rfl
                    rfl
                  · have A615 := A610.icmpYes (pc' := 189) at_182 (feq (ine (x := r582) (y := r575) rfl rfl c611)).2 (by decide) (by decide)
                    have A616 := A615.iconst (z := (0 : Int32)) (pc' := 190) at_189 rfl rfl
                    refine A616.retN (t := .boolean) (z' := (0 : Int32)) at_190 (by decide) (by decide) (by simp) rfl ⟨_, rfl, ⟨trivial, ?_⟩⟩
                    have elit : (0 : Int32).toInt = 0 := rfl
                    exfalso
                    omega
                · have A617 := A606.icmpYes (pc' := 189) at_175 (feq (ine (x := r575) (y := (1 : Int32)) rfl rfl c607)).2 (by decide) (by decide)
                  have A618 := A617.iconst (z := (0 : Int32)) (pc' := 190) at_189 rfl rfl
                  refine A618.retN (t := .boolean) (z' := (0 : Int32)) at_190 (by decide) (by decide) (by simp) rfl ⟨_, rfl, ⟨trivial, ?_⟩⟩
                  have elit : (0 : Int32).toInt = 0 := rfl
                  exfalso
                  omega
              · have A619 := A602.ifYes (pc' := 174) at_167 (flt (ingt (x := tt) (y := (0 : Int32)) rfl rfl c603)).2.2.2 (by decide) (by decide)
                have A620 := A619.iconst (z := (0 : Int32)) (pc' := 175) at_174 rfl rfl
                by_cases c621 : r575.toInt = 0
                · have A622 := A620.icmpNo (pc' := 178) at_175 (teq (ieq (x := r575) (y := (0 : Int32)) rfl rfl c621)).2 rfl
                  have A623 := A622.iload (v := r582) (pc' := 180) at_178 rfl rfl
                  have A624 := A623.iload (v := r575) (pc' := 182) at_180 rfl rfl
                  by_cases c625 : r582.toInt = r575.toInt
                  · have A626 := A624.icmpNo (pc' := 185) at_182 (teq (ieq (x := r582) (y := r575) rfl rfl c625)).2 rfl
                    have A627 := A626.iconst (z := (1 : Int32)) (pc' := 186) at_185 rfl rfl
                    have A628 := A627.goto (pc' := 190) at_186 (by decide) (by decide)
                    refine A628.retN (t := .boolean) (z' := (1 : Int32)) at_190 (by decide) (by decide) (by simp) rfl ⟨_, rfl, ⟨trivial, ?_⟩⟩
                    have elit : (1 : Int32).toInt = 1 := rfl
                    rfl
                  · have A629 := A624.icmpYes (pc' := 189) at_182 (feq (ine (x := r582) (y := r575) rfl rfl c625)).2 (by decide) (by decide)
                    have A630 := A629.iconst (z := (0 : Int32)) (pc' := 190) at_189 rfl rfl
                    refine A630.retN (t := .boolean) (z' := (0 : Int32)) at_190 (by decide) (by decide) (by simp) rfl ⟨_, rfl, ⟨trivial, ?_⟩⟩
                    have elit : (0 : Int32).toInt = 0 := rfl
                    exfalso
                    omega
                · have A631 := A620.icmpYes (pc' := 189) at_175 (feq (ine (x := r575) (y := (0 : Int32)) rfl rfl c621)).2 (by decide) (by decide)
                  have A632 := A631.iconst (z := (0 : Int32)) (pc' := 190) at_189 rfl rfl
                  refine A632.retN (t := .boolean) (z' := (0 : Int32)) at_190 (by decide) (by decide) (by simp) rfl ⟨_, rfl, ⟨trivial, ?_⟩⟩
                  have elit : (0 : Int32).toInt = 0 := rfl
                  exfalso
                  omega
  by_cases c42 : r38.toInt = 0
  · have A44 := A37.ifNo (pc' := 20) at_17 (teq (ieq (x := r38) (y := (0 : Int32)) rfl rfl c42)).2 rfl
    have A45 := A44.iconst (z := (1 : Int32)) (pc' := 21) at_20 rfl rfl
    have A46 := A45.goto (pc' := 25) at_21 (by decide) (by decide)
    exact join43 ((1 : Int32))   (by first | rfl | (exfalso; have z0 : (0 : Int32).toInt = 0 := rfl; have z1 : (Int32.ofNat 0).toInt = 0 := rfl; omega))  A46
  · have A47 := A37.ifYes (pc' := 24) at_17 (feq (ine (x := r38) (y := (0 : Int32)) rfl rfl c42)).2 (by decide) (by decide)
    have A48 := A47.iconst (z := (0 : Int32)) (pc' := 25) at_24 rfl rfl
    exact join43 ((0 : Int32))   (by first | rfl | (exfalso; have z0 : (0 : Int32).toInt = 0 := rfl; have z1 : (Int32.ofNat 0).toInt = 0 := rfl; omega))  A48
set_option maxRecDepth 65536 in
set_option maxHeartbeats 40000000 in
theorem comes_1 {Post : Tables → Env → Array Value → State → Outcome → State → Prop} (hpost : ∀ tb e args s v u, (limb_1_1.after args s (.returned v) u = true ∧ limb_1_2.after args s (.returned v) u = true ∧ True) → ReturnedEndW s (.returned v) u (Jvm.fieldLocs frame_1_writes args s ++ Jvm.arrayLocs frame_1_arrays args s ++ Jvm.staticLocs frame_1_statics s) 24 1152 → Post tb e args s (.returned v) u) :
    ArmFor flags0 classFile x code maxLocals ret World_1 tables_1 room_1 Calls_1 rest_1 Pre_1 Post := by
  intro l hfl _ _ p e ha hc hk s m args below hf hA hF happ hP
  obtain ⟨hcalls, hrest, hpre⟩ := hP
  obtain ⟨-, -, -, hnamed, -, -, -, hat⟩ := (Spec.applies_iff hf).mp happ
  obtain ⟨hg, hn⟩ := and_e (Cond.before_iff.mp (show (Jvm.Cond.and given_1 narrow_1).before args s = true from hpre))
  obtain ⟨g1a, g1b⟩ := and_e hg
  obtain ⟨g2a, g2b⟩ := and_e g1b
  obtain ⟨g3a, g3b⟩ := and_e g2b
  obtain ⟨g4a, g4b⟩ := and_e g3b
  obtain ⟨w0, w1, w2, w3, rfl⟩ : ∃ w0 w1 w2 w3 : Value, args = #[w0, w1, w2, w3] := by
    have hs : args.size = 4 := by simpa [Cond.value, given_1] using g1a
    obtain ⟨L⟩ := args
    match L, hs with
    | [w0, w1, w2, w3], _ => exact ⟨w0, w1, w2, w3, rfl⟩
  have hw := fun d (hd : d ∈ tables_1) => atoms_spec (ws := Jvm.Cond.code x code maxLocals ret :: tables_1) hat d (List.mem_cons_of_mem _ hd)
  obtain ⟨i0, ei0⟩ := is_v g2a
  obtain rfl : w0 = (.int i0) := Option.some.inj ei0
  obtain ⟨i1, ei1⟩ := is_v g3a
  obtain rfl : w1 = (.int i1) := Option.some.inj ei1
  obtain ⟨i2, ei2⟩ := is_v g4a
  obtain rfl : w2 = (.int i2) := Option.some.inj ei2
  obtain ⟨i3, ei3⟩ := is_v g4b
  obtain rfl : w3 = (.int i3) := Option.some.inj ei3
  obtain ⟨n, o, h1, h2, h3, _, L, rfl, ⟨N, ⟨r, rfl, hr⟩⟩, hq⟩ := rm0 l s _ hw s.heap.size tables_1 i0 i1 i2 i3  s.heap (Nat.le_refl _)  p e ha hc hk s m _ below hf ((Spec.applies_iff_loose hf).mp happ).1 ⟨rfl, State.Warmed39.refl s, rfl⟩ trivial
  have hr1 : r = 1 := hr.2
  subst hr1
  refine ⟨n, _, h1, h2, h3, hpost _ _ _ _ _ _ ⟨Cond.after_iff.mpr rfl, Cond.after_iff.mpr (eq_i res_at (Term.int_eval (1)) rfl), trivial⟩ ⟨hq.1, hq.2.1, hq.2.2.1, (hq.2.2.2.sift fun y hy => Or.inr (N y hy)).mono (by decide) (by decide)⟩⟩
theorem main_1_1 : Claimed_1_1 := comes_1 fun _ _ _ _ _ _ h hF => ⟨h.1, hF⟩
theorem main_1_2 : Claimed_1_2 := comes_1 fun _ _ _ _ _ _ h hF => ⟨h.2.1, hF⟩
end Jvm.Pilot.@@N@@
namespace Jvm.Pilot.@@N@@
open Jvm Jvm.ClassFile Sem Op Lib Jvm.Free Jvm.Stand Jvm.Pilot.@@N@@.Jvm.D
/-! MADE BY PROGRAM (witnessworld.py) out of the Statement's table words and the real class files: 16 classes; the members and pool entries that the words name. The judged class is class 1, her method 1. -/
namespace start1
open Jvm.ClassFile
def u (s : String) : CpInfo := .utf8 (stringToUtf16 s)
/-- a pool by its gaps: so many unusable entries, then the entry; so many at the end -/
def gap : Nat → List CpInfo → List CpInfo
  | 0, r => r
  | n + 1, r => .unusable :: gap n r
def poolList (es : List (Nat × CpInfo)) (last : Nat) : List CpInfo := es.foldr (fun e r => gap e.1 (e.2 :: r)) (gap last [])
def pool (es : List (Nat × CpInfo)) (last : Nat) : Array CpInfo := ⟨poolList es last⟩
def fileOf (pool : Array CpInfo) (this : Nat) (attrs : Array Attribute := #[]) (ms : Array MethodInfo := #[]) (fl : Nat := 33) (sup : Nat := 0) (ifs : Array Nat := #[]) (fds : Array FieldInfo := #[]) : ClassFile where
  minorVersion := 0
  majorVersion := 65
  constantPool := pool
  accessFlags := fl
  thisClass := this
  superClass := sup
  interfaces := ifs
  fields := fds
  methods := ms
  attributes := attrs
def plain (name : String) (sup : Option ClassId) : Class where
  name := name
  kind := .ordinary
  loader := none
  accessFlags := 33
  super := sup
  interfaces := #[]
  cf := none
  fields := #[]
  methods := #[]
  instanceTypes := #[]
  staticTypes := #[]
  resolved := #[]
  callSites := []
  init := .initialized
  statics := none
  mirror := none

def pool0 : Array CpInfo := pool [(5, u "<init>"), (0, u "()V"), (1, .class_ 10), (1, u "java/lang/Object")] 113

def k0c0 : Code := { maxStack := 0, maxLocals := 1, code := object_method_1_code, exceptionTable := #[], attributes := #[] }
def k0m0 : Method := { name := "<init>", desc := "()V", sig := { parameters := [], returnType := none }, accessFlags := 1, code := some k0c0 }
/-- java/lang/Object -/
def k0 : Class := { plain "java/lang/Object" none with
  accessFlags := 33
  interfaces := #[]
  cf := some (fileOf pool0 8 #[] #[{ accessFlags := 1, nameIndex := 5, descriptorIndex := 6, attributes := #[] }] 33 0 #[] #[])
  fields := #[]
  methods := #[k0m0]
  instanceTypes := #[]
  staticTypes := #[]
  resolved := Array.replicate 124 none
  statics := none }

def pool1 : Array CpInfo := pool [(2, .class_ 4), (1, u "java/lang/Object"), (0, u "<init>"), (0, u "()V"), (0, .class_ 8), (0, u "com/example/sworn_witness/swornwitness/DerReader"), (0, .methodref 7 10), (0, .nameAndType 5 11), (0, u "([B)V"), (0, .methodref 7 13), (0, .nameAndType 14 15), (0, u "hasNext"), (0, u "()Z"), (0, .string 17), (0, u "e"), (0, .methodref 7 19), (0, .nameAndType 20 21), (0, u "next"), (0, u "(Ljava/lang/String;)Lcom/example/sworn_witness/swornwitness/DerReader$Element;"), (0, .class_ 23), (0, u "com/example/sworn_witness/swornwitness/DerReaderHasNextPinLaw"), (2, u "law"), (0, u "(IIII)Z")] 12

def k1m0 : Method := { name := "<init>", desc := "()V", sig := { parameters := [], returnType := none }, accessFlags := 1, code := none }
def k1c1 : Code := { maxStack := 4, maxLocals := 14, code := code, exceptionTable := #[], attributes := #[] }
def k1m1 : Method := { name := "law", desc := "(IIII)Z", sig := { parameters := [.int, .int, .int, .int], returnType := some .boolean }, accessFlags := 9, code := some k1c1 }
/-- com/example/sworn_witness/swornwitness/DerReaderHasNextPinLaw -/
def k1 : Class := { plain "com/example/sworn_witness/swornwitness/DerReaderHasNextPinLaw" (some 0) with
  accessFlags := 49
  interfaces := #[]
  cf := some (fileOf pool1 22 #[] #[{ accessFlags := 1, nameIndex := 5, descriptorIndex := 6, attributes := #[] }, { accessFlags := 9, nameIndex := 26, descriptorIndex := 27, attributes := #[] }] 49 2 #[] #[])
  fields := #[]
  methods := #[k1m0, k1m1]
  instanceTypes := #[]
  staticTypes := #[]
  resolved := Array.replicate 40 none
  statics := none }

def pool2 : Array CpInfo := pool [(1, .methodref 2 3), (0, .class_ 4), (0, .nameAndType 5 6), (0, u "com/example/sworn_witness/swornwitness/DerReader"), (0, u "<init>"), (0, u "([BII)V"), (0, .methodref 8 9), (0, .class_ 10), (0, .nameAndType 5 11), (0, u "java/lang/Object"), (0, u "()V"), (0, .fieldref 2 13), (0, .nameAndType 14 15), (0, u "der"), (0, u "[B"), (0, .fieldref 2 17), (0, .nameAndType 18 19), (0, u "position"), (0, u "I"), (0, .fieldref 2 21), (0, .nameAndType 22 19), (0, u "end"), (0, .methodref 2 24), (0, .nameAndType 25 26), (0, u "hasNext"), (0, u "()Z"), (6, .methodref 2 34), (0, .nameAndType 35 36), (0, u "octet"), (0, u "(Ljava/lang/String;)I"), (3, .methodref 2 41), (0, .nameAndType 42 36), (0, u "length"), (0, .class_ 44), (0, u "com/example/sworn_witness/swornwitness/DerReader$Element"), (0, .methodref 43 46), (0, .nameAndType 5 47), (0, u "(IZI[BIII)V"), (25, u "next"), (0, u "(Ljava/lang/String;)Lcom/example/sworn_witness/swornwitness/DerReader$Element;"), (161, u "([B)V"), (0, u "CONTEXT_SPECIFIC"), (2, u "UNIVERSAL"), (1, u "BOOLEAN"), (1, u "INTEGER"), (0, u "OCTET_STRING"), (1, u "NULL"), (1, u "ENUMERATED"), (1, u "SEQUENCE"), (1, u "SET")] 54

def k2c0 : Code := { maxStack := 4, maxLocals := 2, code := prog_10_method_1_code, exceptionTable := #[], attributes := #[] }
def k2m0 : Method := { name := "<init>", desc := "([B)V", sig := { parameters := [(.array .byte)], returnType := none }, accessFlags := 0, code := some k2c0 }
def k2c1 : Code := { maxStack := 2, maxLocals := 4, code := prog_10_method_2_code, exceptionTable := #[], attributes := #[] }
def k2m1 : Method := { name := "<init>", desc := "([BII)V", sig := { parameters := [(.array .byte), .int, .int], returnType := none }, accessFlags := 2, code := some k2c1 }
def k2c2 : Code := { maxStack := 2, maxLocals := 1, code := prog_10_method_3_code, exceptionTable := #[], attributes := #[] }
def k2m2 : Method := { name := "hasNext", desc := "()Z", sig := { parameters := [], returnType := some .boolean }, accessFlags := 0, code := some k2c2 }
def k2c3 : Code := { maxStack := 10, maxLocals := 7, code := prog_10_method_4_code, exceptionTable := #[], attributes := #[] }
def k2m3 : Method := { name := "next", desc := "(Ljava/lang/String;)Lcom/example/sworn_witness/swornwitness/DerReader$Element;", sig := { parameters := [(.object "java/lang/String")], returnType := some (.object "com/example/sworn_witness/swornwitness/DerReader$Element") }, accessFlags := 0, code := some k2c3 }
def k2c4 : Code := { maxStack := 5, maxLocals := 2, code := prog_10_method_17_code, exceptionTable := #[], attributes := #[] }
def k2m4 : Method := { name := "octet", desc := "(Ljava/lang/String;)I", sig := { parameters := [(.object "java/lang/String")], returnType := some .int }, accessFlags := 2, code := some k2c4 }
def k2c5 : Code := { maxStack := 5, maxLocals := 6, code := prog_10_method_19_code, exceptionTable := #[], attributes := #[] }
def k2m5 : Method := { name := "length", desc := "(Ljava/lang/String;)I", sig := { parameters := [(.object "java/lang/String")], returnType := some .int }, accessFlags := 2, code := some k2c5 }
/-- com/example/sworn_witness/swornwitness/DerReader -/
def k2 : Class := { plain "com/example/sworn_witness/swornwitness/DerReader" (some 0) with
  accessFlags := 48
  interfaces := #[]
  cf := some (fileOf pool2 2 #[.nestMembers #[43]] #[{ accessFlags := 0, nameIndex := 5, descriptorIndex := 236, attributes := #[] }, { accessFlags := 2, nameIndex := 5, descriptorIndex := 6, attributes := #[] }, { accessFlags := 0, nameIndex := 25, descriptorIndex := 26, attributes := #[] }, { accessFlags := 0, nameIndex := 73, descriptorIndex := 74, attributes := #[] }, { accessFlags := 2, nameIndex := 35, descriptorIndex := 36, attributes := #[] }, { accessFlags := 2, nameIndex := 42, descriptorIndex := 36, attributes := #[] }] 48 8 #[] #[{ accessFlags := 24, nameIndex := 237, descriptorIndex := 19, attributes := #[] }, { accessFlags := 26, nameIndex := 240, descriptorIndex := 19, attributes := #[] }, { accessFlags := 26, nameIndex := 242, descriptorIndex := 19, attributes := #[] }, { accessFlags := 26, nameIndex := 244, descriptorIndex := 19, attributes := #[] }, { accessFlags := 26, nameIndex := 245, descriptorIndex := 19, attributes := #[] }, { accessFlags := 26, nameIndex := 247, descriptorIndex := 19, attributes := #[] }, { accessFlags := 26, nameIndex := 249, descriptorIndex := 19, attributes := #[] }, { accessFlags := 26, nameIndex := 251, descriptorIndex := 19, attributes := #[] }, { accessFlags := 26, nameIndex := 253, descriptorIndex := 19, attributes := #[] }, { accessFlags := 18, nameIndex := 14, descriptorIndex := 15, attributes := #[] }, { accessFlags := 18, nameIndex := 22, descriptorIndex := 19, attributes := #[] }, { accessFlags := 2, nameIndex := 18, descriptorIndex := 19, attributes := #[] }])
  fields := #[{ name := "CONTEXT_SPECIFIC", type := .int, accessFlags := 24, slot := 0, constantValue := 0 }, { name := "UNIVERSAL", type := .int, accessFlags := 26, slot := 1, constantValue := 0 }, { name := "BOOLEAN", type := .int, accessFlags := 26, slot := 2, constantValue := 0 }, { name := "INTEGER", type := .int, accessFlags := 26, slot := 3, constantValue := 0 }, { name := "OCTET_STRING", type := .int, accessFlags := 26, slot := 4, constantValue := 0 }, { name := "NULL", type := .int, accessFlags := 26, slot := 5, constantValue := 0 }, { name := "ENUMERATED", type := .int, accessFlags := 26, slot := 6, constantValue := 0 }, { name := "SEQUENCE", type := .int, accessFlags := 26, slot := 7, constantValue := 0 }, { name := "SET", type := .int, accessFlags := 26, slot := 8, constantValue := 0 }, { name := "der", type := (.array .byte), accessFlags := 18, slot := 0, constantValue := 0 }, { name := "end", type := .int, accessFlags := 18, slot := 1, constantValue := 0 }, { name := "position", type := .int, accessFlags := 2, slot := 2, constantValue := 0 }]
  methods := #[k2m0, k2m1, k2m2, k2m3, k2m4, k2m5]
  instanceTypes := #[(.array .byte), .int, .int]
  staticTypes := #[.int, .int, .int, .int, .int, .int, .int, .int, .int]
  resolved := Array.replicate 308 none
  statics := none }

def pool3 : Array CpInfo := pool [(1, .class_ 2), (0, u "java/io/Serializable"), (0, .class_ 4), (0, u "java/lang/Object")] 2

/-- java/io/Serializable -/
def k3 : Class := { plain "java/io/Serializable" (some 0) with
  accessFlags := 1537
  interfaces := #[]
  cf := some (fileOf pool3 1 #[] #[] 1537 3 #[] #[])
  fields := #[]
  methods := #[]
  instanceTypes := #[]
  staticTypes := #[]
  resolved := Array.replicate 7 none
  statics := none }

def pool4 : Array CpInfo := pool [(1, .class_ 2), (0, u "java/lang/Comparable"), (0, .class_ 4), (0, u "java/lang/Object")] 7

/-- java/lang/Comparable -/
def k4 : Class := { plain "java/lang/Comparable" (some 0) with
  accessFlags := 1537
  interfaces := #[]
  cf := some (fileOf pool4 1 #[] #[] 1537 3 #[] #[])
  fields := #[]
  methods := #[]
  instanceTypes := #[]
  staticTypes := #[]
  resolved := Array.replicate 12 none
  statics := none }

def pool5 : Array CpInfo := pool [(2, .class_ 4), (1, u "java/lang/CharSequence"), (42, .class_ 48), (0, u "java/lang/CharSequence$1CodePointIterator"), (10, .class_ 60), (0, u "java/lang/CharSequence$1CharIterator"), (5, .class_ 67), (0, u "java/lang/Object")] 63

/-- java/lang/CharSequence -/
def k5 : Class := { plain "java/lang/CharSequence" (some 0) with
  accessFlags := 1537
  interfaces := #[]
  cf := some (fileOf pool5 2 #[.nestMembers #[47, 59]] #[] 1537 66 #[] #[])
  fields := #[]
  methods := #[]
  instanceTypes := #[]
  staticTypes := #[]
  resolved := Array.replicate 131 none
  statics := none }

def pool6 : Array CpInfo := pool [(1, .class_ 2), (0, u "java/lang/constant/Constable"), (0, .class_ 4), (0, u "java/lang/Object")] 6

/-- java/lang/constant/Constable -/
def k6 : Class := { plain "java/lang/constant/Constable" (some 0) with
  accessFlags := 1537
  interfaces := #[]
  cf := some (fileOf pool6 1 #[] #[] 1537 3 #[] #[])
  fields := #[]
  methods := #[]
  instanceTypes := #[]
  staticTypes := #[]
  resolved := Array.replicate 11 none
  statics := none }

def pool7 : Array CpInfo := pool [(1, .class_ 2), (0, u "java/lang/constant/ConstantDesc"), (0, .class_ 4), (0, u "java/lang/Object")] 32

/-- java/lang/constant/ConstantDesc -/
def k7 : Class := { plain "java/lang/constant/ConstantDesc" (some 0) with
  accessFlags := 1537
  interfaces := #[]
  cf := some (fileOf pool7 1 #[] #[] 1537 3 #[] #[])
  fields := #[]
  methods := #[]
  instanceTypes := #[]
  staticTypes := #[]
  resolved := Array.replicate 37 none
  statics := none }

def pool8 : Array CpInfo := pool [(2, .class_ 4), (1, u "java/lang/Object"), (0, u "<init>"), (0, u "()V"), (3, .class_ 12), (1, u "java/lang/String"), (0, u "value"), (0, u "[B"), (2, u "coder"), (0, u "B"), (2, u "hash"), (0, u "I"), (2, u "hashIsZero"), (0, u "Z"), (13, u "COMPACT_STRINGS"), (534, .class_ 576), (0, u "java/lang/CharSequence"), (22, u "CASE_INSENSITIVE_ORDER"), (0, u "Ljava/util/Comparator;"), (500, u "serialPersistentFields"), (0, u "[Ljava/io/ObjectStreamField;"), (0, .class_ 1104), (0, u "java/lang/String$CaseInsensitiveComparator"), (1, .class_ 1107), (0, u "java/io/Serializable"), (0, .class_ 1109), (0, u "java/lang/Comparable"), (0, .class_ 1111), (0, u "java/lang/constant/Constable"), (0, .class_ 1113), (0, u "java/lang/constant/ConstantDesc"), (2, u "serialVersionUID"), (0, u "J"), (3, u "REPL"), (0, u "C"), (2, u "LATIN1"), (1, u "UTF16")] 323

def k8m0 : Method := { name := "<init>", desc := "()V", sig := { parameters := [], returnType := none }, accessFlags := 1, code := none }
/-- java/lang/String -/
def k8 : Class := { plain "java/lang/String" (some 0) with
  accessFlags := 49
  interfaces := #[3, 4, 5, 6, 7]
  cf := some (fileOf pool8 10 #[.nestMembers #[1103]] #[{ accessFlags := 1, nameIndex := 5, descriptorIndex := 6, attributes := #[] }] 49 2 #[1106, 1108, 575, 1110, 1112] #[{ accessFlags := 18, nameIndex := 13, descriptorIndex := 14, attributes := #[] }, { accessFlags := 18, nameIndex := 17, descriptorIndex := 18, attributes := #[] }, { accessFlags := 2, nameIndex := 21, descriptorIndex := 22, attributes := #[] }, { accessFlags := 2, nameIndex := 25, descriptorIndex := 26, attributes := #[] }, { accessFlags := 26, nameIndex := 1116, descriptorIndex := 1117, attributes := #[] }, { accessFlags := 24, nameIndex := 40, descriptorIndex := 26, attributes := #[] }, { accessFlags := 26, nameIndex := 1101, descriptorIndex := 1102, attributes := #[] }, { accessFlags := 26, nameIndex := 1121, descriptorIndex := 1122, attributes := #[] }, { accessFlags := 25, nameIndex := 599, descriptorIndex := 600, attributes := #[] }, { accessFlags := 24, nameIndex := 1125, descriptorIndex := 18, attributes := #[] }, { accessFlags := 24, nameIndex := 1127, descriptorIndex := 18, attributes := #[] }])
  fields := #[{ name := "value", type := (.array .byte), accessFlags := 18, slot := 0, constantValue := 0 }, { name := "coder", type := .byte, accessFlags := 18, slot := 1, constantValue := 0 }, { name := "hash", type := .int, accessFlags := 2, slot := 2, constantValue := 0 }, { name := "hashIsZero", type := .boolean, accessFlags := 2, slot := 3, constantValue := 0 }, { name := "serialVersionUID", type := .long, accessFlags := 26, slot := 0, constantValue := 0 }, { name := "COMPACT_STRINGS", type := .boolean, accessFlags := 24, slot := 1, constantValue := 0 }, { name := "serialPersistentFields", type := (.array (.object "java/io/ObjectStreamField")), accessFlags := 26, slot := 2, constantValue := 0 }, { name := "REPL", type := .char, accessFlags := 26, slot := 3, constantValue := 0 }, { name := "CASE_INSENSITIVE_ORDER", type := (.object "java/util/Comparator"), accessFlags := 25, slot := 4, constantValue := 0 }, { name := "LATIN1", type := .byte, accessFlags := 24, slot := 5, constantValue := 0 }, { name := "UTF16", type := .byte, accessFlags := 24, slot := 6, constantValue := 0 }]
  methods := #[k8m0]
  instanceTypes := #[(.array .byte), .byte, .int, .boolean]
  staticTypes := #[.long, .boolean, (.array (.object "java/io/ObjectStreamField")), .char, (.object "java/util/Comparator"), .byte, .byte]
  resolved := Array.replicate 1451 none
  statics := none }

def pool9 : Array CpInfo := pool [(1, .methodref 2 3), (0, .class_ 4), (0, .nameAndType 5 6), (0, u "java/lang/Object"), (0, u "<init>"), (0, u "()V"), (0, .class_ 8), (0, u "java/lang/Record")] 13

def k9c0 : Code := { maxStack := 1, maxLocals := 1, code := jdk_30_method_1_code, exceptionTable := #[], attributes := #[] }
def k9m0 : Method := { name := "<init>", desc := "()V", sig := { parameters := [], returnType := none }, accessFlags := 4, code := some k9c0 }
/-- java/lang/Record -/
def k9 : Class := { plain "java/lang/Record" (some 0) with
  accessFlags := 1057
  interfaces := #[]
  cf := some (fileOf pool9 7 #[] #[{ accessFlags := 4, nameIndex := 5, descriptorIndex := 6, attributes := #[] }] 1057 2 #[] #[])
  fields := #[]
  methods := #[k9m0]
  instanceTypes := #[]
  staticTypes := #[]
  resolved := Array.replicate 22 none
  statics := none }

def pool10 : Array CpInfo := pool [(1, .methodref 2 3), (0, .class_ 4), (0, .nameAndType 5 6), (0, u "java/lang/Record"), (0, u "<init>"), (0, u "()V"), (0, .fieldref 8 9), (0, .class_ 10), (0, .nameAndType 11 12), (0, u "com/example/sworn_witness/swornwitness/DerReader$Element"), (0, u "tagClass"), (0, u "I"), (0, .fieldref 8 14), (0, .nameAndType 15 16), (0, u "constructed"), (0, u "Z"), (0, .fieldref 8 18), (0, .nameAndType 19 12), (0, u "number"), (0, .fieldref 8 21), (0, .nameAndType 22 23), (0, u "der"), (0, u "[B"), (0, .fieldref 8 25), (0, .nameAndType 26 12), (0, u "offset"), (0, .fieldref 8 28), (0, .nameAndType 29 12), (0, u "start"), (0, .fieldref 8 31), (0, .nameAndType 32 12), (0, u "end"), (6, .class_ 40), (0, u "com/example/sworn_witness/swornwitness/DerReader"), (15, u "(IZI[BIII)V")] 40

def k10c0 : Code := { maxStack := 2, maxLocals := 8, code := prog_11_method_1_code, exceptionTable := #[], attributes := #[] }
def k10m0 : Method := { name := "<init>", desc := "(IZI[BIII)V", sig := { parameters := [.int, .boolean, .int, (.array .byte), .int, .int, .int], returnType := none }, accessFlags := 0, code := some k10c0 }
/-- com/example/sworn_witness/swornwitness/DerReader$Element -/
def k10 : Class := { plain "com/example/sworn_witness/swornwitness/DerReader$Element" (some 9) with
  accessFlags := 48
  interfaces := #[]
  cf := some (fileOf pool10 8 #[.nestHost 39] #[{ accessFlags := 0, nameIndex := 5, descriptorIndex := 56, attributes := #[] }] 48 2 #[] #[{ accessFlags := 18, nameIndex := 11, descriptorIndex := 12, attributes := #[] }, { accessFlags := 18, nameIndex := 15, descriptorIndex := 16, attributes := #[] }, { accessFlags := 18, nameIndex := 19, descriptorIndex := 12, attributes := #[] }, { accessFlags := 18, nameIndex := 22, descriptorIndex := 23, attributes := #[] }, { accessFlags := 18, nameIndex := 26, descriptorIndex := 12, attributes := #[] }, { accessFlags := 18, nameIndex := 29, descriptorIndex := 12, attributes := #[] }, { accessFlags := 18, nameIndex := 32, descriptorIndex := 12, attributes := #[] }])
  fields := #[{ name := "tagClass", type := .int, accessFlags := 18, slot := 0, constantValue := 0 }, { name := "constructed", type := .boolean, accessFlags := 18, slot := 1, constantValue := 0 }, { name := "number", type := .int, accessFlags := 18, slot := 2, constantValue := 0 }, { name := "der", type := (.array .byte), accessFlags := 18, slot := 3, constantValue := 0 }, { name := "offset", type := .int, accessFlags := 18, slot := 4, constantValue := 0 }, { name := "start", type := .int, accessFlags := 18, slot := 5, constantValue := 0 }, { name := "end", type := .int, accessFlags := 18, slot := 6, constantValue := 0 }]
  methods := #[k10m0]
  instanceTypes := #[.int, .boolean, .int, (.array .byte), .int, .int, .int]
  staticTypes := #[]
  resolved := Array.replicate 97 none
  statics := none }

def pool11 : Array CpInfo := pool [(1, u "java/lang/Cloneable"), (0, .class_ 1), (0, u "java/lang/Object"), (0, .class_ 3)] 3

/-- java/lang/Cloneable -/
def k11 : Class := { plain "java/lang/Cloneable" (some 0) with
  accessFlags := 1537
  interfaces := #[]
  cf := some (fileOf pool11 2 #[] #[] 1537 4 #[] #[])
  fields := #[]
  methods := #[]
  instanceTypes := #[]
  staticTypes := #[]
  resolved := Array.replicate 8 none
  statics := none }

/-- the primitive byte -/
def k12 : Class := { plain "byte" none with kind := .primitive 'B', accessFlags := 0x411 }
/-- [B -/
def k13 : Class := { plain "[B" (some 0) with kind := .array 12 .byte, interfaces := #[11, 3], accessFlags := 1041 }

/-- the primitive int -/
def k14 : Class := { plain "int" none with kind := .primitive 'I', accessFlags := 0x411 }
/-- [I -/
def k15 : Class := { plain "[I" (some 0) with kind := .array 14 .int, interfaces := #[11, 3], accessFlags := 1041 }

def heap : Heap := #[]
def classes : Array Class := #[k0, k1, k2, k3, k4, k5, k6, k7, k8, k9, k10, k11, k12, k13, k14, k15]
def interned : List (Array UInt16 × Addr) := []
def slotsUsed : Nat := 0
def theMethod : MethodId := ⟨1, 1⟩
def args0 : Array Value := #[.int 5, .int 5, .int 5, .int 5]
def aboutOver (below : List Frame) : State where
  vm := { classes := classes, interned := interned.toArray }
  heap := heap
  slotsUsed := slotsUsed
  threads := #[{ frames := .invoking theMethod args0 :: below }]
def below0 : List Frame := [.native { method := ⟨0, 0⟩, args := #[] }]
def about1 : State := aboutOver below0
def p0 : Program := .bare "" "" ""
def e0 : Env := launch0.env 0 0 0
theorem w_frames : about1.frames = Frame.invoking theMethod args0 :: below0 := rfl
set_option maxRecDepth 65536 in
theorem w_args : argsFit about1.vm theMethod args0 = true := by decide +kernel
set_option maxRecDepth 65536 in
theorem w_heap : heapFits about1 = true := by decide +kernel
set_option maxRecDepth 65536 in
theorem w_runnable : about1.curStatus? = some .runnable := by decide +kernel
set_option maxRecDepth 65536 in
theorem w_alone : about1.alone = true := by decide +kernel
set_option maxRecDepth 65536 in
theorem w_named : about1.methodNamed? x = some theMethod := by decide +kernel
set_option maxRecDepth 65536 in
theorem w_hears : about1.hears theMethod below0 = true := by decide +kernel
set_option maxRecDepth 65536 in
theorem w_ripe : about1.ripe theMethod args0 below0 = true := by decide +kernel
theorem w_running : about1.status = .running := rfl
set_option maxRecDepth 65536 in
theorem w_room : about1.hasRoom e0.platform room_1 = true :=
  launch0.hasRoom_least _ room_1 (by decide +kernel) (by decide +kernel) (by decide +kernel) (by decide +kernel) (by decide +kernel) (by decide +kernel)
theorem allAtoms_all (ts : List Jvm.Cond) (a : Array Jvm.Value) (st : Jvm.State) : (allAtoms ts).before a st = ts.all (fun c => c.before a st) := by
  induction ts with
  | nil => rfl
  | cons c t ih =>
    show (Jvm.Cond.and c (allAtoms t)).before a st = _
    rw [Jvm.Cond.before_and, ih, List.all_cons]
def words1 : List Jvm.Cond := Jvm.Cond.code x code maxLocals ret :: tables_1
/-- a 'code' word, met by the world's own term for the bytes: nothing is compared byte by byte -/
theorem code_word {y : MethodName} {bytes : ByteArray} {mx : Nat} {rt : Option FieldType} {a : Array Value} {s : State} {m : MethodId} {meth : Method} {c : Code} (h1 : s.methodNamed? y = some m) (h2 : s.vm.method? m = some meth) (h3 : meth.code = some c) (h4 : c.code = bytes)
    (h5 : (c.maxLocals == mx && c.exceptionTable.isEmpty && decide (c.maxStack ≤ mostOperands) && decide (meth.sig.returnType = rt) && !meth.locks && decide (parseMethodDescriptor y.desc = some meth.sig)) = true) : (Jvm.Cond.code y bytes mx rt).before a s = true := by
  simp only [Bool.and_eq_true, beq_iff_eq, Bool.not_eq_true', decide_eq_true_eq] at h5
  obtain ⟨⟨⟨⟨⟨g1, g2⟩, g3⟩, g4⟩, g5⟩, g6⟩ := h5
  simp [Cond.before, Cond.holds, Cond.value, h1, h2, h3, h4, g1, g2, g3, g4, g5, g6]
def isCode : Jvm.Cond → Bool
  | .code _ _ _ _ => true
  | _ => false
theorem all_split {L : List Jvm.Cond} {P : Jvm.Cond → Bool} (h1 : L.all (fun c => isCode c || P c) = true) (h2 : ∀ c ∈ L.filter isCode, P c = true) : L.all P = true := by
  refine List.all_eq_true.mpr fun c hc => ?_
  have h := List.all_eq_true.mp h1 c hc
  rcases Bool.eq_false_or_eq_true (isCode c) with hi | hi
  · exact h2 c (List.mem_filter.mpr ⟨hc, hi⟩)
  · simpa [hi] using h
set_option maxRecDepth 65536 in
theorem w_c0 : (Jvm.Cond.code x code maxLocals ret).before args0 about1 = true := code_word (m := ⟨1, 1⟩) (meth := k1m1) (c := k1c1) (by decide +kernel) rfl rfl rfl (by decide +kernel)
set_option maxRecDepth 65536 in
theorem w_c1 : (Jvm.Cond.code ({ cls := "com/example/sworn_witness/swornwitness/DerReader", name := "<init>", desc := "([B)V" } : Jvm.MethodName) prog_10_method_1_code (2 : Nat) (Option.none : Option Jvm.ClassFile.FieldType)).before args0 about1 = true := code_word (m := ⟨2, 0⟩) (meth := k2m0) (c := k2c0) (by decide +kernel) rfl rfl rfl (by decide +kernel)
set_option maxRecDepth 65536 in
theorem w_c2 : (Jvm.Cond.code ({ cls := "com/example/sworn_witness/swornwitness/DerReader", name := "<init>", desc := "([BII)V" } : Jvm.MethodName) prog_10_method_2_code (4 : Nat) (Option.none : Option Jvm.ClassFile.FieldType)).before args0 about1 = true := code_word (m := ⟨2, 1⟩) (meth := k2m1) (c := k2c1) (by decide +kernel) rfl rfl rfl (by decide +kernel)
set_option maxRecDepth 65536 in
theorem w_c3 : (Jvm.Cond.code ({ cls := "java/lang/Object", name := "<init>", desc := "()V" } : Jvm.MethodName) object_method_1_code (1 : Nat) (Option.none : Option Jvm.ClassFile.FieldType)).before args0 about1 = true := code_word (m := ⟨0, 0⟩) (meth := k0m0) (c := k0c0) (by decide +kernel) rfl rfl rfl (by decide +kernel)
set_option maxRecDepth 65536 in
theorem w_c4 : (Jvm.Cond.code ({ cls := "com/example/sworn_witness/swornwitness/DerReader", name := "hasNext", desc := "()Z" } : Jvm.MethodName) prog_10_method_3_code (1 : Nat) (Option.some Jvm.ClassFile.FieldType.boolean)).before args0 about1 = true := code_word (m := ⟨2, 2⟩) (meth := k2m2) (c := k2c2) (by decide +kernel) rfl rfl rfl (by decide +kernel)
set_option maxRecDepth 65536 in
theorem w_c5 : (Jvm.Cond.code ({ cls := "com/example/sworn_witness/swornwitness/DerReader", name := "next", desc := "(Ljava/lang/String;)Lcom/example/sworn_witness/swornwitness/DerReader$Element;" } : Jvm.MethodName) prog_10_method_4_code (7 : Nat) (Option.some (Jvm.ClassFile.FieldType.object "com/example/sworn_witness/swornwitness/DerReader$Element"))).before args0 about1 = true := code_word (m := ⟨2, 3⟩) (meth := k2m3) (c := k2c3) (by decide +kernel) rfl rfl rfl (by decide +kernel)
set_option maxRecDepth 65536 in
theorem w_c6 : (Jvm.Cond.code ({ cls := "com/example/sworn_witness/swornwitness/DerReader", name := "octet", desc := "(Ljava/lang/String;)I" } : Jvm.MethodName) prog_10_method_17_code (2 : Nat) (Option.some Jvm.ClassFile.FieldType.int)).before args0 about1 = true := code_word (m := ⟨2, 4⟩) (meth := k2m4) (c := k2c4) (by decide +kernel) rfl rfl rfl (by decide +kernel)
set_option maxRecDepth 65536 in
theorem w_c7 : (Jvm.Cond.code ({ cls := "com/example/sworn_witness/swornwitness/DerReader", name := "length", desc := "(Ljava/lang/String;)I" } : Jvm.MethodName) prog_10_method_19_code (6 : Nat) (Option.some Jvm.ClassFile.FieldType.int)).before args0 about1 = true := code_word (m := ⟨2, 5⟩) (meth := k2m5) (c := k2c5) (by decide +kernel) rfl rfl rfl (by decide +kernel)
set_option maxRecDepth 65536 in
theorem w_c8 : (Jvm.Cond.code ({ cls := "com/example/sworn_witness/swornwitness/DerReader$Element", name := "<init>", desc := "(IZI[BIII)V" } : Jvm.MethodName) prog_11_method_1_code (8 : Nat) (Option.none : Option Jvm.ClassFile.FieldType)).before args0 about1 = true := code_word (m := ⟨10, 0⟩) (meth := k10m0) (c := k10c0) (by decide +kernel) rfl rfl rfl (by decide +kernel)
set_option maxRecDepth 65536 in
theorem w_c9 : (Jvm.Cond.code ({ cls := "java/lang/Record", name := "<init>", desc := "()V" } : Jvm.MethodName) jdk_30_method_1_code (1 : Nat) (Option.none : Option Jvm.ClassFile.FieldType)).before args0 about1 = true := code_word (m := ⟨9, 0⟩) (meth := k9m0) (c := k9c0) (by decide +kernel) rfl rfl rfl (by decide +kernel)
def codes1 : List Jvm.Cond := [Jvm.Cond.code x code maxLocals ret, Jvm.Cond.code ({ cls := "com/example/sworn_witness/swornwitness/DerReader", name := "<init>", desc := "([B)V" } : Jvm.MethodName) prog_10_method_1_code (2 : Nat) (Option.none : Option Jvm.ClassFile.FieldType), Jvm.Cond.code ({ cls := "com/example/sworn_witness/swornwitness/DerReader", name := "<init>", desc := "([BII)V" } : Jvm.MethodName) prog_10_method_2_code (4 : Nat) (Option.none : Option Jvm.ClassFile.FieldType), Jvm.Cond.code ({ cls := "java/lang/Object", name := "<init>", desc := "()V" } : Jvm.MethodName) object_method_1_code (1 : Nat) (Option.none : Option Jvm.ClassFile.FieldType), Jvm.Cond.code ({ cls := "com/example/sworn_witness/swornwitness/DerReader", name := "hasNext", desc := "()Z" } : Jvm.MethodName) prog_10_method_3_code (1 : Nat) (Option.some Jvm.ClassFile.FieldType.boolean), Jvm.Cond.code ({ cls := "com/example/sworn_witness/swornwitness/DerReader", name := "next", desc := "(Ljava/lang/String;)Lcom/example/sworn_witness/swornwitness/DerReader$Element;" } : Jvm.MethodName) prog_10_method_4_code (7 : Nat) (Option.some (Jvm.ClassFile.FieldType.object "com/example/sworn_witness/swornwitness/DerReader$Element")), Jvm.Cond.code ({ cls := "com/example/sworn_witness/swornwitness/DerReader", name := "octet", desc := "(Ljava/lang/String;)I" } : Jvm.MethodName) prog_10_method_17_code (2 : Nat) (Option.some Jvm.ClassFile.FieldType.int), Jvm.Cond.code ({ cls := "com/example/sworn_witness/swornwitness/DerReader", name := "length", desc := "(Ljava/lang/String;)I" } : Jvm.MethodName) prog_10_method_19_code (6 : Nat) (Option.some Jvm.ClassFile.FieldType.int), Jvm.Cond.code ({ cls := "com/example/sworn_witness/swornwitness/DerReader$Element", name := "<init>", desc := "(IZI[BIII)V" } : Jvm.MethodName) prog_11_method_1_code (8 : Nat) (Option.none : Option Jvm.ClassFile.FieldType), Jvm.Cond.code ({ cls := "java/lang/Record", name := "<init>", desc := "()V" } : Jvm.MethodName) jdk_30_method_1_code (1 : Nat) (Option.none : Option Jvm.ClassFile.FieldType)]
set_option maxRecDepth 65536 in
theorem codes_eq : words1.filter isCode = codes1 := rfl
theorem w_codes : ∀ c ∈ words1.filter isCode, c.before args0 about1 = true := by
  rw [codes_eq]
  intro c hc
  simp only [codes1, List.mem_cons, List.not_mem_nil, or_false] at hc
  rcases hc with rfl | rfl | rfl | rfl | rfl | rfl | rfl | rfl | rfl | rfl
  · exact w_c0
  · exact w_c1
  · exact w_c2
  · exact w_c3
  · exact w_c4
  · exact w_c5
  · exact w_c6
  · exact w_c7
  · exact w_c8
  · exact w_c9
set_option maxRecDepth 65536 in
theorem w_t1 : (words1.take 24).all (fun c => isCode c || c.before args0 about1) = true := by decide +kernel
set_option maxRecDepth 65536 in
theorem w_t2 : ((words1.drop 24).take 24).all (fun c => isCode c || c.before args0 about1) = true := by decide +kernel
set_option maxRecDepth 65536 in
theorem w_t3 : ((words1.drop 24).drop 24).all (fun c => isCode c || c.before args0 about1) = true := by decide +kernel
theorem w_tables : (allAtoms (Jvm.Cond.code x code maxLocals ret :: tables_1)).before args0 about1 = true := by
  rw [allAtoms_all]
  show words1.all (fun c => c.before args0 about1) = true
  refine all_split ?_ w_codes
  rw [← List.take_append_drop 24 words1, List.all_append, w_t1, ← List.take_append_drop 24 (words1.drop 24), List.all_append, w_t2, w_t3]
  rfl
set_option maxRecDepth 65536 in
theorem w_case : (Jvm.Cond.and given_1 narrow_1).before args0 about1 = true := by decide +kernel
theorem w_applies : (headSpec (Jvm.Cond.code x code maxLocals ret :: tables_1) room_1).applies x e0.platform about1 = true :=
  (Spec.applies_iff w_frames).mpr ⟨w_running, w_runnable, w_alone, w_named, w_hears, w_ripe, w_room, w_tables⟩
theorem atStart : AtStart classFile x code maxLocals ret World_1 tables_1 room_1 Calls_1 rest_1 Pre_1 launch0 p0 e0 about1 theMethod args0 below0 :=
  ⟨lists_1, trivial, launch0.admits_env _ _ _, launch0.least_env, fairChoices_fair.cas, fairChoices_fair.clock, w_frames, w_args, w_heap, w_applies, trivial, trivial, w_case⟩
end start1
theorem witness_1 : WitnessClaimed_1 := ⟨start1.p0, start1.e0, start1.about1, start1.theMethod, start1.args0, start1.below0, start1.atStart⟩
end Jvm.Pilot.@@N@@
