import JvmDerived
import JvmDerived.Pilot.@@N@@Statement
import JvmDerived.Pilot.@@N@@Code
set_option linter.unusedVariables false
set_option linter.unusedSimpArgs false
namespace Jvm.Pilot.@@N@@
open Jvm Jvm.ClassFile Sem Op Lib Jvm.Free Jvm.Stand Jvm.LawKit Jvm.RoadKit Bundle Jvm.Pilot.@@N@@.Jvm.D
/-! A. where a walk stands: W; what a body owes: Gl; a body's contract: Ctr -/
abbrev Cx := Program × Env × State × MethodId × Array Value × List Frame × Method × Code × State
def W (l : Launch) (Z : State) (n0 : Nat) (y : MethodName) (bytes : ByteArray) (maxl : Nat) (ret : Option FieldType) (R : Room) (G : Cx) (h : Heap) (pc : Nat) (Ls : Array Slot) (St : List Value) (cells slots : Nat) : Prop :=
  match G with
  | (p, e, s, m, args, below, meth, c, st) =>
    p.tables.exec = Jvm.exec ∧ Z.Warmed39 s.vm ∧ c.code = bytes ∧ c.maxLocals = maxl ∧ s.vm.findClass y.cls = some m.cls ∧ meth.name = y.name ∧ meth.sig.returnType = ret ∧ meth.locks = false ∧ n0 ≤ s.heap.size ∧
    ∃ (T : State) (locs : List Loc), Stand p l e R s m args below meth c T locs cells slots ∧ Fr n0 locs ∧ T.heap = h ∧ ∀ t, Steps p.tables e below (T.setTop (mkF m pc Ls St)) t → Steps p.tables e below st t
def Gl (R : Room) (n0 : Nat) (G : Cx) (Q : Option Value → Heap → Prop) : Prop :=
  match G with
  | (p, e, s, m, args, below, meth, c, st) => ∃ s₂ o, Steps p.tables e below st s₂ ∧ s₂.status = .running ∧ Ended s₂ below o ∧ ∃ v L, o = .returned v ∧ (Fr n0 L ∧ Q v s₂.heap) ∧ FrameEnd s o s₂ L R.cells R.slots
def Ctr (l : Launch) (Z : State) (n0 : Nat) (y : MethodName) (bytes : ByteArray) (maxl : Nat) (ret : Option FieldType) (ws : List Jvm.Cond) (R : Room) (as : Array Value) (h0 : Heap) (Q : Option Value → Heap → Prop) : Prop :=
  MetFree l y (head1 (Jvm.Cond.code y bytes maxl ret :: ws) R) (fun a U => a = as ∧ Z.Warmed39 U.vm ∧ U.heap = h0) (fun _ _ _ _ _ => True) (fun _ U o U' => ∃ v L, o = .returned v ∧ (Fr n0 L ∧ Q v U'.heap) ∧ FrameEnd U o U' L R.cells R.slots)
def QI (P : Int32 → Heap → Prop) (v : Option Value) (h : Heap) : Prop := ∃ r, v = some (.int r) ∧ P r h
def QJ (P : Int64 → Heap → Prop) (v : Option Value) (h : Heap) : Prop := ∃ r, v = some (.long r) ∧ P r h
def QA (P : Addr → Heap → Prop) (v : Option Value) (h : Heap) : Prop := ∃ r, v = some (.ref r) ∧ P r h
def QV (P : Heap → Prop) (v : Option Value) (h : Heap) : Prop := v = none ∧ P h
theorem ilt {x y : Int32} {a b : Int} (ha : x.toInt = a) (hb : y.toInt = b) (h : a < b) : x < y := by subst ha hb; exact Int32.lt_iff_toInt_lt.mpr h
theorem inlt {x y : Int32} {a b : Int} (ha : x.toInt = a) (hb : y.toInt = b) (h : ¬ a < b) : ¬ x < y := by subst ha hb; exact fun q => h (Int32.lt_iff_toInt_lt.mp q)
theorem igt {x y : Int32} {a b : Int} (ha : x.toInt = a) (hb : y.toInt = b) (h : b < a) : y < x := ilt hb ha h
theorem ingt {x y : Int32} {a b : Int} (ha : x.toInt = a) (hb : y.toInt = b) (h : ¬ b < a) : ¬ y < x := inlt hb ha h
theorem ieq {x y : Int32} {a b : Int} (ha : x.toInt = a) (hb : y.toInt = b) (h : a = b) : x = y := by subst ha hb; exact Int32.toInt_inj.mp h
theorem ine {x y : Int32} {a b : Int} (ha : x.toInt = a) (hb : y.toInt = b) (h : ¬ a = b) : ¬ x = y := by subst ha hb; exact fun q => h (Int32.toInt_inj.mpr q)
theorem llt {x y : Int64} {a b : Int} (ha : x.toInt = a) (hb : y.toInt = b) (h : a < b) : lcmpW x y < 0 := by subst ha hb; exact (lw_lt _ _).mpr (Int64.lt_iff_toInt_lt.mpr h)
theorem lnlt {x y : Int64} {a b : Int} (ha : x.toInt = a) (hb : y.toInt = b) (h : ¬ a < b) : ¬ lcmpW x y < 0 := by subst ha hb; exact fun q => h (Int64.lt_iff_toInt_lt.mp ((lw_lt _ _).mp q))
theorem lgt {x y : Int64} {a b : Int} (ha : x.toInt = a) (hb : y.toInt = b) (h : b < a) : 0 < lcmpW x y := by subst ha hb; exact (lw_gt _ _).mpr (Int64.lt_iff_toInt_lt.mpr h)
theorem lngt {x y : Int64} {a b : Int} (ha : x.toInt = a) (hb : y.toInt = b) (h : ¬ b < a) : ¬ 0 < lcmpW x y := by subst ha hb; exact fun q => h (Int64.lt_iff_toInt_lt.mp ((lw_gt _ _).mp q))
theorem leq {x y : Int64} {a b : Int} (ha : x.toInt = a) (hb : y.toInt = b) (h : a = b) : lcmpW x y = 0 := by subst ha hb; exact (lw_eq _ _).mpr (Int64.toInt_inj.mp h)
theorem lne {x y : Int64} {a b : Int} (ha : x.toInt = a) (hb : y.toInt = b) (h : ¬ a = b) : ¬ lcmpW x y = 0 := by subst ha hb; exact fun q => h (Int64.toInt_inj.mpr ((lw_eq _ _).mp q))
def Two (s t : Slot) : Prop := (s = .unset ∧ t = .unset) ∨ ∃ q : Int64, s = .val (.long q) ∧ t = .second
section Walk
variable {l : Launch} {Z : State} {n0 : Nat} {y : MethodName} {bytes : ByteArray} {maxl : Nat} {ret : Option FieldType} {R : Room} {G : Cx} {h : Heap} {pc pc' : Nat} {Ls : Array Slot} {St : List Value} {C S C' S' : Nat} {Q : Option Value → Heap → Prop} {a0 : Array Value}
theorem W.mk {p : Program} {e : Env} {s : State} {m : MethodId} {args : Array Value} {below : List Frame} {meth : Method} {c : Code} {st : State} {T : State} {locs : List Loc} (hx : p.tables.exec = Jvm.exec) (hZ : Z.Warmed39 s.vm) (hby : c.code = bytes) (hml : c.maxLocals = maxl) (hown : s.vm.findClass y.cls = some m.cls) (hnm : meth.name = y.name) (hrt : meth.sig.returnType = ret) (hlk : meth.locks = false) (hn0 : n0 ≤ s.heap.size)
    (X : Stand p l e R s m args below meth c T locs C S) (N : Fr n0 locs) (eT : T.heap = h) (k : ∀ t, Steps p.tables e below (T.setTop (mkF m pc Ls St)) t → Steps p.tables e below st t) : W l Z n0 y bytes maxl ret R (p, e, s, m, args, below, meth, c, st) h pc Ls St C S :=
  show _ ∧ _ from ⟨hx, hZ, hby, hml, hown, hnm, hrt, hlk, hn0, T, locs, X, N, eT, k⟩
theorem ctr_of {ws : List Jvm.Cond} {as : Array Value} (hpn : plainFor y = true) (hn0 : n0 ≤ h.size) (hef : ∀ m, entryFrame m as maxl = mkF m 0 Ls []) (body : ∀ G, W l Z n0 y bytes maxl ret R G h 0 Ls [] 0 0 → Gl R n0 G Q) : Ctr l Z n0 y bytes maxl ret ws R as h Q := by
  refine MetFree.of_bodySF hpn hisR ?_
  intro p e s m args below meth c s₁ Bd hml0 hP hK
  obtain ⟨rfl, hZ, hh⟩ := hP
  have e0 : s₁.heap = h := by rw [← hh, Bd.state]; rfl
  exact body (p, e, s, m, args, below, meth, c, s₁.setTop (entryFrame m args maxl)) (W.mk Bd.exec hZ Bd.bytes hml0 (findClass_of_methodNamed Bd.named) (name_of_methodNamed Bd.named Bd.method).1 Bd.returns (BodyLoose.notSynchronized Bd) (hh ▸ hn0) (Stand.of_body Bd) (Fr.nil n0) e0 (fun t k => castTop (hef m) k))
theorem W.size (A : W l Z n0 y bytes maxl ret R G h pc Ls St C S) : n0 ≤ h.size := by
  obtain ⟨p, e, s, m, args, below, meth, c, st⟩ := G
  obtain ⟨hx, hZ, hby, hml, hown, hnm, hrt, hlk, hn0, T, locs, X, N, eT, k⟩ := A
  exact Nat.le_trans hn0 (by rw [← eT]; exact X.same.2.1)
theorem W.more (A : W l Z n0 y bytes maxl ret R G h pc Ls St C S) (hC : C ≤ C') (hS : S ≤ S') : W l Z n0 y bytes maxl ret R G h pc Ls St C' S' := by
  obtain ⟨p, e, s, m, args, below, meth, c, st⟩ := G
  obtain ⟨hx, hZ, hby, hml, hown, hnm, hrt, hlk, hn0, T, locs, X, N, eT, k⟩ := A
  exact W.mk hx hZ hby hml hown hnm hrt hlk hn0 (X.more hC hS) N eT k
theorem W.cast {Ls' : Array Slot} {St' : List Value} (A : W l Z n0 y bytes maxl ret R G h pc Ls St C S) (hp : pc = pc') (hL : Ls = Ls') (hSt : St = St') : W l Z n0 y bytes maxl ret R G h pc' Ls' St' C S := by subst hp hL hSt; exact A
theorem W.topI {x z : Int32} (A : W l Z n0 y bytes maxl ret R G h pc Ls (.int x :: St) C S) (q : x = z) : W l Z n0 y bytes maxl ret R G h pc Ls (.int z :: St) C S := q ▸ A
theorem W.topJ {x z : Int64} (A : W l Z n0 y bytes maxl ret R G h pc Ls (.long x :: St) C S) (q : x = z) : W l Z n0 y bytes maxl ret R G h pc Ls (.long z :: St) C S := q ▸ A
/-- a plain step -/
theorem W.step (A : W l Z n0 y bytes maxl ret R G h pc Ls St C S) {Ls' : Array Slot} {St' : List Value}
    (f : ∀ {p : Program} {e : Env} {s : State} {m : MethodId} {args : Array Value} {below : List Frame} {meth : Method} {c : Code} {T t : State} {locs : List Loc}, Stand p l e R s m args below meth c T locs C S → p.tables.exec = Jvm.exec → Z.Warmed39 s.vm → s.vm.findClass y.cls = some m.cls → c.code = bytes → T.heap = h → Steps p.tables e below (T.setTop (mkF m pc' Ls' St')) t → Steps p.tables e below (T.setTop (mkF m pc Ls St)) t) : W l Z n0 y bytes maxl ret R G h pc' Ls' St' C S := by
  obtain ⟨p, e, s, m, args, below, meth, c, st⟩ := G
  obtain ⟨hx, hZ, hby, hml, hown, hnm, hrt, hlk, hn0, T, locs, X, N, eT, k⟩ := A
  exact W.mk hx hZ hby hml hown hnm hrt hlk hn0 X N eT (fun t q => k t (f X hx hZ hown hby eT q))
/-! B. plain instructions -/
theorem W.iloadN (A : W l Z n0 y bytes maxl ret R G h pc Ls St C S) {k : Fin 4} {v : Int32} (hd : decode bytes pc = .ok (.iload_n k, 1)) (hl : Ls[k.val]? = some (.val (.int v))) (hp : pc + 1 = pc') : W l Z n0 y bytes maxl ret R G h pc' Ls (.int v :: St) C S := by
  subst hp; exact A.step fun X hx _ _ q _ r => XS.iloadN X.here hx rfl (hb q hd) hl r
theorem W.iload (A : W l Z n0 y bytes maxl ret R G h pc Ls St C S) {k : Nat} {v : Int32} (hd : decode bytes pc = .ok (.iload k, 2)) (hl : Ls[k]? = some (.val (.int v))) (hp : pc + 2 = pc') : W l Z n0 y bytes maxl ret R G h pc' Ls (.int v :: St) C S := by
  subst hp; exact A.step fun X hx _ _ q _ r => XS.iload X.here hx rfl (hb q hd) hl r
theorem W.lloadN (A : W l Z n0 y bytes maxl ret R G h pc Ls St C S) {k : Fin 4} {v : Int64} (hd : decode bytes pc = .ok (.lload_n k, 1)) (hl : Ls[k.val]? = some (.val (.long v))) (hp : pc + 1 = pc') : W l Z n0 y bytes maxl ret R G h pc' Ls (.long v :: St) C S := by
  subst hp; exact A.step fun X hx _ _ q _ r => XS.lloadN X.here hx rfl (hb q hd) hl r
theorem W.lload (A : W l Z n0 y bytes maxl ret R G h pc Ls St C S) {k : Nat} {v : Int64} (hd : decode bytes pc = .ok (.lload k, 2)) (hl : Ls[k]? = some (.val (.long v))) (hp : pc + 2 = pc') : W l Z n0 y bytes maxl ret R G h pc' Ls (.long v :: St) C S := by
  subst hp; exact A.step fun X hx _ _ q _ r => XS.lload X.here hx rfl (hb q hd) hl r
theorem W.aloadN (A : W l Z n0 y bytes maxl ret R G h pc Ls St C S) {k : Fin 4} {v : Value} (hd : decode bytes pc = .ok (.aload_n k, 1)) (hl : Ls[k.val]? = some (.val v)) (hv : v.isRef = true) (hp : pc + 1 = pc') : W l Z n0 y bytes maxl ret R G h pc' Ls (v :: St) C S := by
  subst hp; exact A.step fun X hx _ _ q _ r => XS.aloadN X.here hx rfl (hb q hd) hl hv r
theorem W.aload (A : W l Z n0 y bytes maxl ret R G h pc Ls St C S) {k : Nat} {v : Value} (hd : decode bytes pc = .ok (.aload k, 2)) (hl : Ls[k]? = some (.val v)) (hv : v.isRef = true) (hp : pc + 2 = pc') : W l Z n0 y bytes maxl ret R G h pc' Ls (v :: St) C S := by
  subst hp; exact A.step fun X hx _ _ q _ r => XS.aload X.here hx rfl (hb q hd) hl hv r
theorem W.istoreN {v : Int32} (A : W l Z n0 y bytes maxl ret R G h pc Ls (.int v :: St) C S) {k : Fin 4} {Ls' : Array Slot} (hd : decode bytes pc = .ok (.istore_n k, 1)) (hl : storeLocals Ls k.val (.int v) = some Ls') (hp : pc + 1 = pc') : W l Z n0 y bytes maxl ret R G h pc' Ls' St C S := by
  subst hp; exact A.step fun X hx _ _ q _ r => XS.istoreN X.here hx rfl (hb q hd) rfl hl r
theorem W.istore {v : Int32} (A : W l Z n0 y bytes maxl ret R G h pc Ls (.int v :: St) C S) {k : Nat} {Ls' : Array Slot} (hd : decode bytes pc = .ok (.istore k, 2)) (hl : storeLocals Ls k (.int v) = some Ls') (hp : pc + 2 = pc') : W l Z n0 y bytes maxl ret R G h pc' Ls' St C S := by
  subst hp; exact A.step fun X hx _ _ q _ r => XS.istore X.here hx rfl (hb q hd) rfl hl r
theorem W.lstoreN {v : Int64} (A : W l Z n0 y bytes maxl ret R G h pc Ls (.long v :: St) C S) {k : Fin 4} {Ls' : Array Slot} (hd : decode bytes pc = .ok (.lstore_n k, 1)) (hl : storeLocals Ls k.val (.long v) = some Ls') (hp : pc + 1 = pc') : W l Z n0 y bytes maxl ret R G h pc' Ls' St C S := by
  subst hp; exact A.step fun X hx _ _ q _ r => XS.lstoreN X.here hx rfl (hb q hd) rfl hl r
theorem W.lstore {v : Int64} (A : W l Z n0 y bytes maxl ret R G h pc Ls (.long v :: St) C S) {k : Nat} {Ls' : Array Slot} (hd : decode bytes pc = .ok (.lstore k, 2)) (hl : storeLocals Ls k (.long v) = some Ls') (hp : pc + 2 = pc') : W l Z n0 y bytes maxl ret R G h pc' Ls' St C S := by
  subst hp; exact A.step fun X hx _ _ q _ r => XS.lstore X.here hx rfl (hb q hd) rfl hl r
theorem W.astoreN {v : Value} (A : W l Z n0 y bytes maxl ret R G h pc Ls (v :: St) C S) {k : Fin 4} {Ls' : Array Slot} (hd : decode bytes pc = .ok (.astore_n k, 1)) (hv : v.isRef = true) (hl : storeLocals Ls k.val v = some Ls') (hp : pc + 1 = pc') : W l Z n0 y bytes maxl ret R G h pc' Ls' St C S := by
  subst hp; exact A.step fun X hx _ _ q _ r => XS.astoreN X.here hx rfl (hb q hd) rfl hv hl r
theorem W.astore {v : Value} (A : W l Z n0 y bytes maxl ret R G h pc Ls (v :: St) C S) {k : Nat} {Ls' : Array Slot} (hd : decode bytes pc = .ok (.astore k, 2)) (hv : v.isRef = true) (hl : storeLocals Ls k v = some Ls') (hp : pc + 2 = pc') : W l Z n0 y bytes maxl ret R G h pc' Ls' St C S := by
  subst hp; exact A.step fun X hx _ _ q _ r => XS.astore X.here hx rfl (hb q hd) rfl hv hl r
theorem W.iconst (A : W l Z n0 y bytes maxl ret R G h pc Ls St C S) {i : Int} {z : Int32} (hd : decode bytes pc = .ok (.iconst i, 1)) (hz : Int32.ofInt i = z) (hp : pc + 1 = pc') : W l Z n0 y bytes maxl ret R G h pc' Ls (.int z :: St) C S := by
  subst hp hz; exact A.step fun X hx _ _ q _ r => XS.iconst X.here hx rfl (hb q hd) r
theorem W.bipush (A : W l Z n0 y bytes maxl ret R G h pc Ls St C S) {i : Int} {z : Int32} (hd : decode bytes pc = .ok (.bipush i, 2)) (hz : (Int8.ofInt i).toInt32 = z) (hp : pc + 2 = pc') : W l Z n0 y bytes maxl ret R G h pc' Ls (.int z :: St) C S := by
  subst hp hz; exact A.step fun X hx _ _ q _ r => XS.bipush X.here hx rfl (hb q hd) r
theorem W.sipush (A : W l Z n0 y bytes maxl ret R G h pc Ls St C S) {i : Int} {z : Int32} (hd : decode bytes pc = .ok (.sipush i, 3)) (hz : (Int16.ofInt i).toInt32 = z) (hp : pc + 3 = pc') : W l Z n0 y bytes maxl ret R G h pc' Ls (.int z :: St) C S := by
  subst hp hz; exact A.step fun X hx _ _ q _ r => XS.sipush X.here hx rfl (hb q hd) r
theorem W.lconst (A : W l Z n0 y bytes maxl ret R G h pc Ls St C S) {k : Fin 2} {z : Int64} (hd : decode bytes pc = .ok (.lconst k, 1)) (hz : Int64.ofNat k.val = z) (hp : pc + 1 = pc') : W l Z n0 y bytes maxl ret R G h pc' Ls (.long z :: St) C S := by
  subst hp hz; exact A.step fun X hx _ _ q _ r => XS.lconst X.here hx rfl (hb q hd) r
theorem W.aconstNull (A : W l Z n0 y bytes maxl ret R G h pc Ls St C S) (hd : decode bytes pc = .ok (.aconst_null, 1)) (hp : pc + 1 = pc') : W l Z n0 y bytes maxl ret R G h pc' Ls (.null :: St) C S := by
  subst hp; exact A.step fun X hx _ _ q _ r => XS.aconstNull X.here hx rfl (hb q hd) r
theorem W.ldc (A : W l Z n0 y bytes maxl ret R G h pc Ls St C S) {i : Nat} {z : Int32} (hd : decode bytes pc = .ok (.ldc i, 2)) (w : (Jvm.Cond.constant y.cls i z).before a0 Z = true) (hp : pc + 2 = pc') : W l Z n0 y bytes maxl ret R G h pc' Ls (.int z :: St) C S := by
  subst hp; exact A.step fun X hx hZ hown q _ r => X.ldcInt hx hown (mvT hZ w) (g := mkF _ pc Ls St) rfl (hb q hd) _ r
theorem W.ldcW (A : W l Z n0 y bytes maxl ret R G h pc Ls St C S) {i : Nat} {z : Int32} (hd : decode bytes pc = .ok (.ldc_w i, 3)) (w : (Jvm.Cond.constant y.cls i z).before a0 Z = true) (hp : pc + 3 = pc') : W l Z n0 y bytes maxl ret R G h pc' Ls (.int z :: St) C S := by
  subst hp; exact A.step fun X hx hZ hown q _ r => X.ldcwInt hx hown (mvT hZ w) (g := mkF _ pc Ls St) rfl (hb q hd) _ r
theorem W.ldc2 (A : W l Z n0 y bytes maxl ret R G h pc Ls St C S) {i : Nat} {z : Int64} (hd : decode bytes pc = .ok (.ldc2_w i, 3)) (w : (Jvm.Cond.constantLong y.cls i z).before a0 Z = true) (hp : pc + 3 = pc') : W l Z n0 y bytes maxl ret R G h pc' Ls (.long z :: St) C S := by
  subst hp; exact A.step fun X hx hZ hown q _ r => X.ldc2Long hx hown (mvT hZ w) (g := mkF _ pc Ls St) rfl (hb q hd) _ r
theorem W.iinc (A : W l Z n0 y bytes maxl ret R G h pc Ls St C S) {k : Nat} {i : Int} {v z : Int32} {Ls' : Array Slot} (hd : decode bytes pc = .ok (.iinc k i, 3)) (hl : Ls[k]? = some (.val (.int v))) (hz : v + Int32.ofInt i = z) (hl' : storeLocals Ls k (.int z) = some Ls') (hp : pc + 3 = pc') : W l Z n0 y bytes maxl ret R G h pc' Ls' St C S := by
  subst hp hz; exact A.step fun X hx _ _ q _ r => XS.iinc X.here hx rfl (hb q hd) hl hl' r
theorem W.iadd {x z : Int32} (A : W l Z n0 y bytes maxl ret R G h pc Ls (.int z :: .int x :: St) C S) (hd : decode bytes pc = .ok (.iadd, 1)) (hp : pc + 1 = pc') : W l Z n0 y bytes maxl ret R G h pc' Ls (.int (x + z) :: St) C S := by
  subst hp; exact A.step fun X hx _ _ q _ r => XS.iadd X.here hx rfl (hb q hd) rfl r
theorem W.ladd {x z : Int64} (A : W l Z n0 y bytes maxl ret R G h pc Ls (.long z :: .long x :: St) C S) (hd : decode bytes pc = .ok (.ladd, 1)) (hp : pc + 1 = pc') : W l Z n0 y bytes maxl ret R G h pc' Ls (.long (x + z) :: St) C S := by
  subst hp; exact A.step fun X hx _ _ q _ r => XS.ladd X.here hx rfl (hb q hd) rfl r
theorem W.isub {x z : Int32} (A : W l Z n0 y bytes maxl ret R G h pc Ls (.int z :: .int x :: St) C S) (hd : decode bytes pc = .ok (.isub, 1)) (hp : pc + 1 = pc') : W l Z n0 y bytes maxl ret R G h pc' Ls (.int (x - z) :: St) C S := by
  subst hp; exact A.step fun X hx _ _ q _ r => XS.isub X.here hx rfl (hb q hd) rfl r
theorem W.lsub {x z : Int64} (A : W l Z n0 y bytes maxl ret R G h pc Ls (.long z :: .long x :: St) C S) (hd : decode bytes pc = .ok (.lsub, 1)) (hp : pc + 1 = pc') : W l Z n0 y bytes maxl ret R G h pc' Ls (.long (x - z) :: St) C S := by
  subst hp; exact A.step fun X hx _ _ q _ r => XS.lsub X.here hx rfl (hb q hd) rfl r
theorem W.imul {x z : Int32} (A : W l Z n0 y bytes maxl ret R G h pc Ls (.int z :: .int x :: St) C S) (hd : decode bytes pc = .ok (.imul, 1)) (hp : pc + 1 = pc') : W l Z n0 y bytes maxl ret R G h pc' Ls (.int (x * z) :: St) C S := by
  subst hp; exact A.step fun X hx _ _ q _ r => XS.imul X.here hx rfl (hb q hd) rfl r
theorem W.lmul {x z : Int64} (A : W l Z n0 y bytes maxl ret R G h pc Ls (.long z :: .long x :: St) C S) (hd : decode bytes pc = .ok (.lmul, 1)) (hp : pc + 1 = pc') : W l Z n0 y bytes maxl ret R G h pc' Ls (.long (x * z) :: St) C S := by
  subst hp; exact A.step fun X hx _ _ q _ r => XS.lmul X.here hx rfl (hb q hd) rfl r
theorem W.iand {x z : Int32} (A : W l Z n0 y bytes maxl ret R G h pc Ls (.int z :: .int x :: St) C S) (hd : decode bytes pc = .ok (.iand, 1)) (hp : pc + 1 = pc') : W l Z n0 y bytes maxl ret R G h pc' Ls (.int (x &&& z) :: St) C S := by
  subst hp; exact A.step fun X hx _ _ q _ r => XS.iand X.here hx rfl (hb q hd) rfl r
theorem W.land {x z : Int64} (A : W l Z n0 y bytes maxl ret R G h pc Ls (.long z :: .long x :: St) C S) (hd : decode bytes pc = .ok (.land, 1)) (hp : pc + 1 = pc') : W l Z n0 y bytes maxl ret R G h pc' Ls (.long (x &&& z) :: St) C S := by
  subst hp; exact A.step fun X hx _ _ q _ r => XS.land X.here hx rfl (hb q hd) rfl r
theorem W.ior {x z : Int32} (A : W l Z n0 y bytes maxl ret R G h pc Ls (.int z :: .int x :: St) C S) (hd : decode bytes pc = .ok (.ior, 1)) (hp : pc + 1 = pc') : W l Z n0 y bytes maxl ret R G h pc' Ls (.int (x ||| z) :: St) C S := by
  subst hp; exact A.step fun X hx _ _ q _ r => XS.ior X.here hx rfl (hb q hd) rfl r
theorem W.lor {x z : Int64} (A : W l Z n0 y bytes maxl ret R G h pc Ls (.long z :: .long x :: St) C S) (hd : decode bytes pc = .ok (.lor, 1)) (hp : pc + 1 = pc') : W l Z n0 y bytes maxl ret R G h pc' Ls (.long (x ||| z) :: St) C S := by
  subst hp; exact A.step fun X hx _ _ q _ r => XS.lor X.here hx rfl (hb q hd) rfl r
theorem W.ixor {x z : Int32} (A : W l Z n0 y bytes maxl ret R G h pc Ls (.int z :: .int x :: St) C S) (hd : decode bytes pc = .ok (.ixor, 1)) (hp : pc + 1 = pc') : W l Z n0 y bytes maxl ret R G h pc' Ls (.int (x ^^^ z) :: St) C S := by
  subst hp; exact A.step fun X hx _ _ q _ r => XS.ixor X.here hx rfl (hb q hd) rfl r
theorem W.lxor {x z : Int64} (A : W l Z n0 y bytes maxl ret R G h pc Ls (.long z :: .long x :: St) C S) (hd : decode bytes pc = .ok (.lxor, 1)) (hp : pc + 1 = pc') : W l Z n0 y bytes maxl ret R G h pc' Ls (.long (x ^^^ z) :: St) C S := by
  subst hp; exact A.step fun X hx _ _ q _ r => XS.lxor X.here hx rfl (hb q hd) rfl r
theorem W.ineg {x : Int32} (A : W l Z n0 y bytes maxl ret R G h pc Ls (.int x :: St) C S) (hd : decode bytes pc = .ok (.ineg, 1)) (hp : pc + 1 = pc') : W l Z n0 y bytes maxl ret R G h pc' Ls (.int (-x) :: St) C S := by
  subst hp; exact A.step fun X hx _ _ q _ r => XS.ineg X.here hx rfl (hb q hd) rfl r
theorem W.lneg {x : Int64} (A : W l Z n0 y bytes maxl ret R G h pc Ls (.long x :: St) C S) (hd : decode bytes pc = .ok (.lneg, 1)) (hp : pc + 1 = pc') : W l Z n0 y bytes maxl ret R G h pc' Ls (.long (-x) :: St) C S := by
  subst hp; exact A.step fun X hx _ _ q _ r => XS.lneg X.here hx rfl (hb q hd) rfl r
theorem W.ishl {x z : Int32} (A : W l Z n0 y bytes maxl ret R G h pc Ls (.int z :: .int x :: St) C S) (hd : decode bytes pc = .ok (.ishl, 1)) (hp : pc + 1 = pc') : W l Z n0 y bytes maxl ret R G h pc' Ls (.int (x <<< (z &&& 31)) :: St) C S := by
  subst hp; exact A.step fun X hx _ _ q _ r => XS.ishl X.here hx rfl (hb q hd) rfl r
theorem W.ishr {x z : Int32} (A : W l Z n0 y bytes maxl ret R G h pc Ls (.int z :: .int x :: St) C S) (hd : decode bytes pc = .ok (.ishr, 1)) (hp : pc + 1 = pc') : W l Z n0 y bytes maxl ret R G h pc' Ls (.int (x >>> (z &&& 31)) :: St) C S := by
  subst hp; exact A.step fun X hx _ _ q _ r => XS.ishr X.here hx rfl (hb q hd) rfl r
theorem W.iushr {x z : Int32} (A : W l Z n0 y bytes maxl ret R G h pc Ls (.int z :: .int x :: St) C S) (hd : decode bytes pc = .ok (.iushr, 1)) (hp : pc + 1 = pc') : W l Z n0 y bytes maxl ret R G h pc' Ls (.int ((x.toUInt32 >>> (z &&& 31).toUInt32).toInt32) :: St) C S := by
  subst hp; exact A.step fun X hx _ _ q _ r => XS.iushr X.here hx rfl (hb q hd) rfl r
theorem W.lshl {x : Int64} {z : Int32} (A : W l Z n0 y bytes maxl ret R G h pc Ls (.int z :: .long x :: St) C S) (hd : decode bytes pc = .ok (.lshl, 1)) (hp : pc + 1 = pc') : W l Z n0 y bytes maxl ret R G h pc' Ls (.long (x <<< (z &&& 0x3f).toInt64) :: St) C S := by
  subst hp; exact A.step fun X hx _ _ q _ r => XS.lshl X.here hx rfl (hb q hd) rfl r
theorem W.lshr {x : Int64} {z : Int32} (A : W l Z n0 y bytes maxl ret R G h pc Ls (.int z :: .long x :: St) C S) (hd : decode bytes pc = .ok (.lshr, 1)) (hp : pc + 1 = pc') : W l Z n0 y bytes maxl ret R G h pc' Ls (.long (x >>> (z &&& 0x3f).toInt64) :: St) C S := by
  subst hp; exact A.step fun X hx _ _ q _ r => XS.lshr X.here hx rfl (hb q hd) rfl r
theorem W.lushr {x : Int64} {z : Int32} (A : W l Z n0 y bytes maxl ret R G h pc Ls (.int z :: .long x :: St) C S) (hd : decode bytes pc = .ok (.lushr, 1)) (hp : pc + 1 = pc') : W l Z n0 y bytes maxl ret R G h pc' Ls (.long ((x.toUInt64 >>> (z &&& 0x3f).toInt64.toUInt64).toInt64) :: St) C S := by
  subst hp; exact A.step fun X hx _ _ q _ r => XS.lushr X.here hx rfl (hb q hd) rfl r
theorem W.i2l {x : Int32} (A : W l Z n0 y bytes maxl ret R G h pc Ls (.int x :: St) C S) (hd : decode bytes pc = .ok (.i2l, 1)) (hp : pc + 1 = pc') : W l Z n0 y bytes maxl ret R G h pc' Ls (.long x.toInt64 :: St) C S := by
  subst hp; exact A.step fun X hx _ _ q _ r => XS.i2l X.here hx rfl (hb q hd) rfl r
theorem W.l2i {x : Int64} (A : W l Z n0 y bytes maxl ret R G h pc Ls (.long x :: St) C S) (hd : decode bytes pc = .ok (.l2i, 1)) (hp : pc + 1 = pc') : W l Z n0 y bytes maxl ret R G h pc' Ls (.int x.toInt32 :: St) C S := by
  subst hp; exact A.step fun X hx _ _ q _ r => XS.l2i X.here hx rfl (hb q hd) rfl r
theorem W.i2b {x : Int32} (A : W l Z n0 y bytes maxl ret R G h pc Ls (.int x :: St) C S) (hd : decode bytes pc = .ok (.i2b, 1)) (hp : pc + 1 = pc') : W l Z n0 y bytes maxl ret R G h pc' Ls (.int x.toInt8.toInt32 :: St) C S := by
  subst hp; exact A.step fun X hx _ _ q _ r => XS.i2b X.here hx rfl (hb q hd) rfl r
theorem W.i2s {x : Int32} (A : W l Z n0 y bytes maxl ret R G h pc Ls (.int x :: St) C S) (hd : decode bytes pc = .ok (.i2s, 1)) (hp : pc + 1 = pc') : W l Z n0 y bytes maxl ret R G h pc' Ls (.int x.toInt16.toInt32 :: St) C S := by
  subst hp; exact A.step fun X hx _ _ q _ r => XS.i2s X.here hx rfl (hb q hd) rfl r
theorem W.i2c {x : Int32} (A : W l Z n0 y bytes maxl ret R G h pc Ls (.int x :: St) C S) (hd : decode bytes pc = .ok (.i2c, 1)) (hp : pc + 1 = pc') : W l Z n0 y bytes maxl ret R G h pc' Ls (.int x.toUInt32.toUInt16.toUInt32.toInt32 :: St) C S := by
  subst hp; exact A.step fun X hx _ _ q _ r => XS.i2c X.here hx rfl (hb q hd) rfl r
theorem W.lcmp {x z : Int64} (A : W l Z n0 y bytes maxl ret R G h pc Ls (.long z :: .long x :: St) C S) (hd : decode bytes pc = .ok (.lcmp, 1)) (hp : pc + 1 = pc') : W l Z n0 y bytes maxl ret R G h pc' Ls (.int (lcmpW x z) :: St) C S := by
  subst hp; exact A.step fun X hx _ _ q _ r => XS.lcmp X.here hx rfl (hb q hd) rfl r
theorem W.idiv {x z : Int32} (A : W l Z n0 y bytes maxl ret R G h pc Ls (.int z :: .int x :: St) C S) (hd : decode bytes pc = .ok (.idiv, 1)) (hz : z ≠ 0) (hp : pc + 1 = pc') : W l Z n0 y bytes maxl ret R G h pc' Ls (.int (x / z) :: St) C S := by
  subst hp; exact A.step fun X hx _ _ q _ r => XS.idiv X.here hx rfl (hb q hd) rfl hz r
theorem W.irem {x z : Int32} (A : W l Z n0 y bytes maxl ret R G h pc Ls (.int z :: .int x :: St) C S) (hd : decode bytes pc = .ok (.irem, 1)) (hz : z ≠ 0) (hp : pc + 1 = pc') : W l Z n0 y bytes maxl ret R G h pc' Ls (.int (x % z) :: St) C S := by
  subst hp; exact A.step fun X hx _ _ q _ r => iremM (g := mkF _ _ _ _) X hx rfl (hb q hd) rfl hz r
theorem W.ldiv {x z : Int64} (A : W l Z n0 y bytes maxl ret R G h pc Ls (.long z :: .long x :: St) C S) (hd : decode bytes pc = .ok (.ldiv, 1)) (hz : z ≠ 0) (hp : pc + 1 = pc') : W l Z n0 y bytes maxl ret R G h pc' Ls (.long (x / z) :: St) C S := by
  subst hp; exact A.step fun X hx _ _ q _ r => XS.ldiv X.here hx rfl (hb q hd) rfl hz r
theorem W.lrem {x z : Int64} (A : W l Z n0 y bytes maxl ret R G h pc Ls (.long z :: .long x :: St) C S) (hd : decode bytes pc = .ok (.lrem, 1)) (hz : z ≠ 0) (hp : pc + 1 = pc') : W l Z n0 y bytes maxl ret R G h pc' Ls (.long (x % z) :: St) C S := by
  subst hp; exact A.step fun X hx _ _ q _ r => XS.lrem X.here hx rfl (hb q hd) rfl hz (by rw [lrem_mod]; exact r)
theorem W.dup {v : Value} (A : W l Z n0 y bytes maxl ret R G h pc Ls (v :: St) C S) (hd : decode bytes pc = .ok (.dup, 1)) (hc : v.category = 1) (hp : pc + 1 = pc') : W l Z n0 y bytes maxl ret R G h pc' Ls (v :: v :: St) C S := by
  subst hp; exact A.step fun X hx _ _ q _ r => XS.dup X.here hx rfl (hb q hd) rfl hc r
theorem W.pop {v : Value} (A : W l Z n0 y bytes maxl ret R G h pc Ls (v :: St) C S) (hd : decode bytes pc = .ok (.pop, 1)) (hc : v.category = 1) (hp : pc + 1 = pc') : W l Z n0 y bytes maxl ret R G h pc' Ls St C S := by
  subst hp; exact A.step fun X hx _ _ q _ r => XS.pop X.here hx rfl (hb q hd) rfl hc r
theorem W.dupX1 {v w : Value} (A : W l Z n0 y bytes maxl ret R G h pc Ls (v :: w :: St) C S) (hd : decode bytes pc = .ok (.dup_x1, 1)) (hc : v.category = 1) (hc' : w.category = 1) (hp : pc + 1 = pc') : W l Z n0 y bytes maxl ret R G h pc' Ls (v :: w :: v :: St) C S := by
  subst hp; exact A.step fun X hx _ _ q _ r => XS.dupX1 X.here hx rfl (hb q hd) rfl hc hc' r
theorem W.dup2 {v w : Value} (A : W l Z n0 y bytes maxl ret R G h pc Ls (v :: w :: St) C S) (hd : decode bytes pc = .ok (.dup2, 1)) (hc : v.category = 1) (hc' : w.category = 1) (hp : pc + 1 = pc') : W l Z n0 y bytes maxl ret R G h pc' Ls (v :: w :: v :: w :: St) C S := by
  subst hp; exact A.step fun X hx _ _ q _ r => XT.dup2 X.here hx rfl (hb q hd) rfl hc hc' r
theorem W.dup2L {x : Int64} (A : W l Z n0 y bytes maxl ret R G h pc Ls (.long x :: St) C S) (hd : decode bytes pc = .ok (.dup2, 1)) (hp : pc + 1 = pc') : W l Z n0 y bytes maxl ret R G h pc' Ls (.long x :: .long x :: St) C S := by
  subst hp; exact A.step fun X hx _ _ q _ r => XT.dup2L X.here hx rfl (hb q hd) rfl r
theorem W.goto (A : W l Z n0 y bytes maxl ret R G h pc Ls St C S) {o : Int} (hd : decode bytes pc = .ok (.goto o, 3)) (ho : 0 ≤ (pc : Int) + o) (hp : ((pc : Int) + o).toNat = pc') : W l Z n0 y bytes maxl ret R G h pc' Ls St C S :=
  A.step fun X hx _ _ q _ r => XS.goto X.here hx rfl rfl (hb q hd) ho hp r
theorem W.ifYes {x : Int32} (A : W l Z n0 y bytes maxl ret R G h pc Ls (.int x :: St) C S) {cd : ClassFile.Cond} {o : Int} (hd : decode bytes pc = .ok (.ifCond cd o, 3)) (hc : if_icmp.holds cd x 0 = true) (ho : 0 ≤ (pc : Int) + o) (hp : ((pc : Int) + o).toNat = pc') : W l Z n0 y bytes maxl ret R G h pc' Ls St C S :=
  A.step fun X hx _ _ q _ r => XS.ifYes X.here hx rfl rfl (hb q hd) rfl ((if0 _ _).trans hc) ho hp r
theorem W.ifNo {x : Int32} (A : W l Z n0 y bytes maxl ret R G h pc Ls (.int x :: St) C S) {cd : ClassFile.Cond} {o : Int} (hd : decode bytes pc = .ok (.ifCond cd o, 3)) (hc : if_icmp.holds cd x 0 = false) (hp : pc + 3 = pc') : W l Z n0 y bytes maxl ret R G h pc' Ls St C S := by
  subst hp; exact A.step fun X hx _ _ q _ r => XS.ifNo X.here hx rfl (hb q hd) rfl ((if0 _ _).trans hc) r
theorem W.icmpYes {x z : Int32} (A : W l Z n0 y bytes maxl ret R G h pc Ls (.int z :: .int x :: St) C S) {cd : ClassFile.Cond} {o : Int} (hd : decode bytes pc = .ok (.if_icmp cd o, 3)) (hc : if_icmp.holds cd x z = true) (ho : 0 ≤ (pc : Int) + o) (hp : ((pc : Int) + o).toNat = pc') : W l Z n0 y bytes maxl ret R G h pc' Ls St C S :=
  A.step fun X hx _ _ q _ r => XS.icmpYes X.here hx rfl rfl (hb q hd) rfl hc ho hp r
theorem W.icmpNo {x z : Int32} (A : W l Z n0 y bytes maxl ret R G h pc Ls (.int z :: .int x :: St) C S) {cd : ClassFile.Cond} {o : Int} (hd : decode bytes pc = .ok (.if_icmp cd o, 3)) (hc : if_icmp.holds cd x z = false) (hp : pc + 3 = pc') : W l Z n0 y bytes maxl ret R G h pc' Ls St C S := by
  subst hp; exact A.step fun X hx _ _ q _ r => XS.icmpNo X.here hx rfl (hb q hd) rfl hc r
theorem W.ifnullYes (A : W l Z n0 y bytes maxl ret R G h pc Ls (.null :: St) C S) {o : Int} (hd : decode bytes pc = .ok (.ifnull o, 3)) (ho : 0 ≤ (pc : Int) + o) (hp : ((pc : Int) + o).toNat = pc') : W l Z n0 y bytes maxl ret R G h pc' Ls St C S :=
  A.step fun X hx _ _ q _ r => XS.ifnullYes X.here hx rfl rfl (hb q hd) rfl ho hp r
theorem W.ifnullNo {a : Addr} (A : W l Z n0 y bytes maxl ret R G h pc Ls (.ref a :: St) C S) {o : Int} (hd : decode bytes pc = .ok (.ifnull o, 3)) (hp : pc + 3 = pc') : W l Z n0 y bytes maxl ret R G h pc' Ls St C S := by
  subst hp; exact A.step fun X hx _ _ q _ r => XS.ifnullNo X.here hx rfl (hb q hd) rfl r
theorem W.ifnonnullNo (A : W l Z n0 y bytes maxl ret R G h pc Ls (.null :: St) C S) {o : Int} (hd : decode bytes pc = .ok (.ifnonnull o, 3)) (hp : pc + 3 = pc') : W l Z n0 y bytes maxl ret R G h pc' Ls St C S := by
  subst hp; exact A.step fun X hx _ _ q _ r => XS.ifnonnullNo X.here hx rfl (hb q hd) rfl r
theorem W.ifnonnullYes {a : Addr} (A : W l Z n0 y bytes maxl ret R G h pc Ls (.ref a :: St) C S) {o : Int} (hd : decode bytes pc = .ok (.ifnonnull o, 3)) (ho : 0 ≤ (pc : Int) + o) (hp : ((pc : Int) + o).toNat = pc') : W l Z n0 y bytes maxl ret R G h pc' Ls St C S :=
  A.step fun X hx _ _ q _ r => XS.ifnonnullYes X.here hx rfl rfl (hb q hd) rfl ho hp r
/-! C. the returns -/
theorem W.fin {v : Option Value} (A : W l Z n0 y bytes maxl ret R G h pc Ls St C S) (hC : C ≤ R.cells) (hS : S ≤ R.slots) (hv : ret = none → v = none) (hQ : Q v h)
    (f : ∀ {p : Program} {e : Env} {s : State} {m : MethodId} {args : Array Value} {below : List Frame} {meth : Method} {c : Code} {T : State} {locs : List Loc} {fs : List Frame}, Stand p l e R s m args below meth c T locs C S → p.tables.exec = Jvm.exec → c.code = bytes → meth.sig.returnType = ret → (∀ (f : JFrame) (acts : List Action), f.method = m → f.locked = none → f.entered = [] → (doReturn e (T.setTop f) acts v).1 = T.setFrames fs) → Steps p.tables e below (T.setTop (mkF m pc Ls St)) (T.setFrames fs)) : Gl R n0 G Q := by
  obtain ⟨p, e, s, m, args, below, meth, c, st⟩ := G
  obtain ⟨hx, hZ, hby, hml, hown, hnm, hrt, hlk, hn0, T, locs, X, N, eT, k⟩ := A
  obtain ⟨fs, hr, hrun, hended, hW, hsame⟩ := X.leave (v := v) (fun q => hv (hrt.symm.trans q)) hlk
  show ∃ s₂ o, _
  refine ⟨_, _, k _ (f X hx hby hrt hr), hrun, hended, v, locs, rfl, ⟨N, ?_⟩, ⟨_, rfl⟩, hW, hsame.mono hC hS⟩
  show Q v T.heap
  rw [eT]; exact hQ
theorem W.retI {z : Int32} (A : W l Z n0 y bytes maxl (some .int) R G h pc Ls (.int z :: St) C S) (hd : decode bytes pc = .ok (.ireturn, 1)) (hC : C ≤ R.cells) (hS : S ≤ R.slots) (hQ : Q (some (.int z)) h) : Gl R n0 G Q :=
  A.fin hC hS (fun q => nomatch q) hQ fun X hx q hret hr => retOut X hx hret (t := .int) rfl (Or.inl ⟨rfl, Or.inl rfl, z, rfl⟩) (hb q hd) hr
theorem W.retN {z z' : Int32} {t : FieldType} (A : W l Z n0 y bytes maxl (some t) R G h pc Ls (.int z :: St) C S) (hd : decode bytes pc = .ok (.ireturn, 1)) (hC : C ≤ R.cells) (hS : S ≤ R.slots) (ht : t = .boolean ∨ t = .byte ∨ t = .char ∨ t = .short) (hz : nar t z = z') (hQ : Q (some (.int z')) h) : Gl R n0 G Q := by
  subst hz; exact A.fin hC hS (fun q => nomatch q) hQ fun X hx q hret hr => RoadKit.retN X hx hret ht (hb q hd) hr
theorem W.retJ {z : Int64} (A : W l Z n0 y bytes maxl (some .long) R G h pc Ls (.long z :: St) C S) (hd : decode bytes pc = .ok (.lreturn, 1)) (hC : C ≤ R.cells) (hS : S ≤ R.slots) (hQ : Q (some (.long z)) h) : Gl R n0 G Q :=
  A.fin hC hS (fun q => nomatch q) hQ fun X hx q hret hr => retOut X hx hret (t := .long) rfl (Or.inr (Or.inl ⟨rfl, rfl, z, rfl⟩)) (hb q hd) hr
theorem W.retA {v : Value} {t : FieldType} (A : W l Z n0 y bytes maxl (some t) R G h pc Ls (v :: St) C S) (hd : decode bytes pc = .ok (.areturn, 1)) (hC : C ≤ R.cells) (hS : S ≤ R.slots) (ht : t.isReference = true) (hv : v.isRef = true) (hn : narrow t v = v) (hQ : Q (some v) h) : Gl R n0 G Q :=
  A.fin hC hS (fun q => nomatch q) hQ fun X hx q hret hr => retOut X hx hret (t := t) hn (Or.inr (Or.inr (Or.inr (Or.inr ⟨rfl, ht, hv⟩)))) (hb q hd) hr
theorem W.retV (A : W l Z n0 y bytes maxl none R G h pc Ls [] C S) (hd : decode bytes pc = .ok (.return_, 1)) (hC : C ≤ R.cells) (hS : S ≤ R.slots) (hQ : Q none h) : Gl R n0 G Q :=
  A.fin hC hS (fun _ => rfl) hQ fun X hx q hret hr => X.returnOut hx hret (hb q hd) hr
/-! D. calls -/
theorem W.callS (A : W l Z n0 y bytes maxl ret R G h pc Ls St C S) {y' : MethodName} {bytes' : ByteArray} {maxl' : Nat} {ret' : Option FieldType} {R' : Room} {as : Array Value} {idx : Nat} {argsL rest : List Value} {ps : List FieldType} {rr : Option FieldType} (hd : decode bytes pc = .ok (.invokestatic idx, 3))
    (w1 : (Jvm.Cond.methodLink y.cls idx y').before a0 Z = true) (w2 : (Jvm.Cond.static y').before a0 Z = true) (w3 : (Jvm.Cond.initialized y'.cls).before a0 Z = true) (w4 : (Jvm.Cond.code y' bytes' maxl' ret').before a0 Z = true) (hM : Ctr l Z n0 y' bytes' maxl' ret' [] R' as h Q) (has : argsL.toArray = as) (hs : St = argsL.reverse ++ rest)
    (hpd : parseMethodDescriptor y'.desc = some ⟨ps, rr⟩) (hlen : argsL.length = ps.length) (hsz : Ls.size = maxl) (hy : y'.cls ≠ "java/lang/invoke/MethodHandle" ∧ y'.cls ≠ "java/lang/invoke/VarHandle") (hf : R'.frames + 1 ≤ R.frames) (hlo : (rest.map fun v => v.category).sum + (maxl' + 11) + R'.locals ≤ R.locals) (hC : C + R'.cells ≤ R.cells) (hS : S + R'.slots ≤ R.slots) (hC' : C + R'.cells = C') (hS' : S + R'.slots = S') (hp : pc + 3 = pc') :
    ∃ v h', Q v h' ∧ W l Z n0 y bytes maxl ret R G h' pc' Ls (v.toList ++ rest) C' S' := by
  subst hp hC' hS' has
  obtain ⟨p, e, s, m, args, below, meth, c, st⟩ := G
  obtain ⟨hx, hZ, hby, hml, hown, hnm, hrt, hlk, hn0, T, locs, X, N, eT, k⟩ := A
  obtain ⟨v, _, ⟨T', L', k', n'⟩, -, X', ⟨Lc, hQ, l1, y1, z1⟩, st'⟩ := Jvm.LawKit.callS X hx (y := y') hown (mvT hZ w1) (mvT hZ w2) (mvT hZ w3) (mvT hZ w4) hy (backOf (Q := fun v h L => Fr n0 L ∧ Q v h) (W := (rest.map fun v => v.category).sum) hM hZ w4 w3 hf hlo) (g := mkF m pc Ls St) rfl (by rw [hml]; exact hsz) (argsL := argsL) (rest := rest) (lenOf hpd hlen) hs (by show 2 * 0 + _ ≤ _; omega) (hb hby hd) (fun _ _ => ⟨rfl, eT, hC, hS⟩)
  dsimp only [Pt.U, Pt.locs, Pt.cells, Pt.slots] at X' l1 y1 z1 st' hQ
  subst l1 y1 z1
  exact ⟨v, T'.heap, hQ.2, W.mk hx hZ hby hml hown hnm hrt hlk hn0 X' (N.app hQ.1) rfl (fun t q => k t (st' t q))⟩
theorem W.callI (A : W l Z n0 y bytes maxl ret R G h pc Ls St C S) {a : Addr} {y' : MethodName} {bytes' : ByteArray} {maxl' : Nat} {R' : Room} {as : Array Value} {idx : Nat} {argsL rest : List Value} {ps : List FieldType} {rr : Option FieldType} (hd : decode bytes pc = .ok (.invokespecial idx, 3)) (hy1 : y'.name = "<init>")
    (w1 : (Jvm.Cond.methodLink y.cls idx y').before a0 Z = true) (w2 : (Jvm.Cond.instanceMethod y').before a0 Z = true) (w3 : (Jvm.Cond.initialized y'.cls).before a0 Z = true) (w4 : (Jvm.Cond.code y' bytes' maxl' none).before a0 Z = true) (hM : Ctr l Z n0 y' bytes' maxl' none [] R' as h Q) (has : (.ref a :: argsL).toArray = as) (hs : St = argsL.reverse ++ .ref a :: rest)
    (hpd : parseMethodDescriptor y'.desc = some ⟨ps, rr⟩) (hlen : argsL.length = ps.length) (hsz : Ls.size = maxl) (hy : y'.cls ≠ "java/lang/invoke/MethodHandle" ∧ y'.cls ≠ "java/lang/invoke/VarHandle") (hf : R'.frames + 1 ≤ R.frames) (hlo : (rest.map fun v => v.category).sum + (maxl' + 11) + R'.locals ≤ R.locals) (hC : C + R'.cells ≤ R.cells) (hS : S + R'.slots ≤ R.slots) (hC' : C + R'.cells = C') (hS' : S + R'.slots = S') (hp : pc + 3 = pc') :
    ∃ v h', Q v h' ∧ W l Z n0 y bytes maxl ret R G h' pc' Ls (v.toList ++ rest) C' S' := by
  subst hp hC' hS' has
  obtain ⟨p, e, s, m, args, below, meth, c, st⟩ := G
  obtain ⟨hx, hZ, hby, hml, hown, hnm, hrt, hlk, hn0, T, locs, X, N, eT, k⟩ := A
  obtain ⟨v, _, ⟨T', L', k', n'⟩, -, X', ⟨Lc, hQ, l1, y1, z1⟩, st'⟩ := X.specialBack hx (y := y') hy1 hown (mvT hZ w1) (mvT hZ w2) (mvT hZ w4) hy (backOf (Q := fun v h L => Fr n0 L ∧ Q v h) (W := (rest.map fun v => v.category).sum) hM hZ w4 w3 hf hlo) (g := mkF m pc Ls St) rfl (by rw [hml]; exact hsz) (Steps.refl _) (a := a) (argsL := argsL) (rest := rest) (lenOf hpd hlen) hs (by show 2 * 0 + _ ≤ _; omega) (hb hby hd) (fun _ _ => ⟨rfl, eT, hC, hS⟩)
  dsimp only [Pt.U, Pt.locs, Pt.cells, Pt.slots] at X' l1 y1 z1 st' hQ
  subst l1 y1 z1
  exact ⟨v, T'.heap, hQ.2, W.mk hx hZ hby hml hown hnm hrt hlk hn0 X' (N.app hQ.1) rfl (fun t q => k t (st'.trans q))⟩
theorem W.callV (A : W l Z n0 y bytes maxl ret R G h pc Ls St C S) {a : Addr} {K : String} {y' z' : MethodName} {bytes' : ByteArray} {maxl' : Nat} {ret' : Option FieldType} {R' : Room} {as : Array Value} {idx : Nat} {argsL rest : List Value} {ps : List FieldType} {rr : Option FieldType} (hd : decode bytes pc = .ok (.invokevirtual idx, 3)) (E : Exa Z h a K)
    (w1 : (Jvm.Cond.methodLink y.cls idx y').before a0 Z = true) (wd : (Jvm.Cond.declares y').before a0 Z = true) (hnf : ∀ {s : State}, Z.Warmed39 s.vm → NotFace s y') (ws : (Jvm.Cond.selects K y' z').before a0 Z = true) (w2 : (Jvm.Cond.instanceMethod z').before a0 Z = true) (w3 : (Jvm.Cond.initialized z'.cls).before a0 Z = true) (w4 : (Jvm.Cond.code z' bytes' maxl' ret').before a0 Z = true) (hM : Ctr l Z n0 z' bytes' maxl' ret' [] R' as h Q) (has : (.ref a :: argsL).toArray = as) (hs : St = argsL.reverse ++ .ref a :: rest)
    (hpd : parseMethodDescriptor y'.desc = some ⟨ps, rr⟩) (hlen : argsL.length = ps.length) (hsz : Ls.size = maxl) (hy : y'.cls ≠ "java/lang/invoke/MethodHandle" ∧ y'.cls ≠ "java/lang/invoke/VarHandle") (hf : R'.frames + 1 ≤ R.frames) (hlo : (rest.map fun v => v.category).sum + (maxl' + 11) + R'.locals ≤ R.locals) (hC : C + R'.cells ≤ R.cells) (hS : S + R'.slots ≤ R.slots) (hC' : C + R'.cells = C') (hS' : S + R'.slots = S') (hp : pc + 3 = pc') :
    ∃ v h', Q v h' ∧ W l Z n0 y bytes maxl ret R G h' pc' Ls (v.toList ++ rest) C' S' := by
  subst hp hC' hS' has
  obtain ⟨p, e, s, m, args, below, meth, c, st⟩ := G
  obtain ⟨hx, hZ, hby, hml, hown, hnm, hrt, hlk, hn0, T, locs, X, N, eT, k⟩ := A
  obtain ⟨cq, kq, qa, qb, qc⟩ := isOf hZ eT E
  obtain ⟨v, _, ⟨T', L', k', n'⟩, -, X', ⟨Lc, hQ, l1, y1, z1⟩, st'⟩ := X.virtualBack hx (y := y') (z := z') hown (mvT hZ w1) (mvT hZ wd) (hnf hZ) (mvT hZ ws) (mvT hZ w2) hy (backOf (Q := fun v h L => Fr n0 L ∧ Q v h) (W := (rest.map fun v => v.category).sum) hM hZ w4 w3 hf hlo) qa qc (g := mkF m pc Ls St) rfl (by rw [hml]; exact hsz) (Steps.refl _) (argsL := argsL) (rest := rest) (lenOf hpd hlen) hs (by show 2 * 0 + _ ≤ _; omega) (hb hby hd) (fun _ _ => ⟨rfl, eT, hC, hS⟩)
  dsimp only [Pt.U, Pt.locs, Pt.cells, Pt.slots] at X' l1 y1 z1 st' hQ
  subst l1 y1 z1
  exact ⟨v, T'.heap, hQ.2, W.mk hx hZ hby hml hown hnm hrt hlk hn0 X' (N.app hQ.1) rfl (fun t q => k t (st'.trans q))⟩
theorem W.callP (A : W l Z n0 y bytes maxl ret R G h pc Ls St C S) {a : Addr} {K : String} {kk : Nat} {y' : MethodName} {bytes' : ByteArray} {maxl' : Nat} {ret' : Option FieldType} {R' : Room} {as : Array Value} {idx : Nat} {argsL rest : List Value} {ps : List FieldType} {rr : Option FieldType} (hd : decode bytes pc = .ok (.invokevirtual idx, 3)) (E : Exa Z h a K)
    (w1 : (Jvm.Cond.methodLink y.cls idx y').before a0 Z = true) (w2 : (Jvm.Cond.instanceMethod y').before a0 Z = true) (wp : (Jvm.Cond.privateMethod y').before a0 Z = true) (wi : (Jvm.Cond.instantiable y'.cls kk).before a0 Z = true) (w3 : (Jvm.Cond.initialized y'.cls).before a0 Z = true) (w4 : (Jvm.Cond.code y' bytes' maxl' ret').before a0 Z = true) (hM : Ctr l Z n0 y' bytes' maxl' ret' [] R' as h Q) (has : (.ref a :: argsL).toArray = as) (hs : St = argsL.reverse ++ .ref a :: rest)
    (hpd : parseMethodDescriptor y'.desc = some ⟨ps, rr⟩) (hlen : argsL.length = ps.length) (hsz : Ls.size = maxl) (hy : y'.cls ≠ "java/lang/invoke/MethodHandle" ∧ y'.cls ≠ "java/lang/invoke/VarHandle") (hf : R'.frames + 1 ≤ R.frames) (hlo : (rest.map fun v => v.category).sum + (maxl' + 11) + R'.locals ≤ R.locals) (hC : C + R'.cells ≤ R.cells) (hS : S + R'.slots ≤ R.slots) (hC' : C + R'.cells = C') (hS' : S + R'.slots = S') (hp : pc + 3 = pc') :
    ∃ v h', Q v h' ∧ W l Z n0 y bytes maxl ret R G h' pc' Ls (v.toList ++ rest) C' S' := by
  subst hp hC' hS' has
  obtain ⟨p, e, s, m, args, below, meth, c, st⟩ := G
  obtain ⟨hx, hZ, hby, hml, hown, hnm, hrt, hlk, hn0, T, locs, X, N, eT, k⟩ := A
  obtain ⟨cq, q1, q2⟩ := E.cell
  have hpv := Cond.privateMethod_at (mvP (args := args) hZ wp)
  obtain ⟨ci, ki, i1, i2, -, i3, -, -⟩ := Cond.instantiable_spec (mvT (args := args) hZ wi)
  have hsel := selects_self_of_private (args := args) i1 i2 (Bool.or_eq_false_iff.mp i3).1 hpv (mvT hZ w2) hy
  obtain ⟨v, _, ⟨T', L', k', n'⟩, -, X', ⟨Lc, hQ, l1, y1, z1⟩, st'⟩ := X.privateBack hx (y := y') hown (mvT hZ w1) (mvT hZ w2) hsel hpv (mvT hZ w4) hy (backOf (Q := fun v h L => Fr n0 L ∧ Q v h) (W := (rest.map fun v => v.category).sum) hM hZ w4 w3 hf hlo) (g := mkF m pc Ls St) rfl (by rw [hml]; exact hsz) (Steps.refl _) (a := a) (by rw [eT]; exact q1) q2 (argsL := argsL) (rest := rest) (lenOf hpd hlen) hs (by show 2 * 0 + _ ≤ _; omega) (hb hby hd) (fun _ _ => ⟨rfl, eT, hC, hS⟩)
  dsimp only [Pt.U, Pt.locs, Pt.cells, Pt.slots] at X' l1 y1 z1 st' hQ
  subst l1 y1 z1
  exact ⟨v, T'.heap, hQ.2, W.mk hx hZ hby hml hown hnm hrt hlk hn0 X' (N.app hQ.1) rfl (fun t q => k t (st'.trans q))⟩
theorem W.kI {P : Int32 → Heap → Prop} {rest : List Value} (q : ∃ v h', QI P v h' ∧ W l Z n0 y bytes maxl ret R G h' pc Ls (v.toList ++ rest) C S) : ∃ r h', P r h' ∧ W l Z n0 y bytes maxl ret R G h' pc Ls (.int r :: rest) C S := by
  obtain ⟨v, h', ⟨r, rfl, hP⟩, A⟩ := q; exact ⟨r, h', hP, A⟩
theorem W.kJ {P : Int64 → Heap → Prop} {rest : List Value} (q : ∃ v h', QJ P v h' ∧ W l Z n0 y bytes maxl ret R G h' pc Ls (v.toList ++ rest) C S) : ∃ r h', P r h' ∧ W l Z n0 y bytes maxl ret R G h' pc Ls (.long r :: rest) C S := by
  obtain ⟨v, h', ⟨r, rfl, hP⟩, A⟩ := q; exact ⟨r, h', hP, A⟩
theorem W.kA {P : Addr → Heap → Prop} {rest : List Value} (q : ∃ v h', QA P v h' ∧ W l Z n0 y bytes maxl ret R G h' pc Ls (v.toList ++ rest) C S) : ∃ r h', P r h' ∧ W l Z n0 y bytes maxl ret R G h' pc Ls (.ref r :: rest) C S := by
  obtain ⟨v, h', ⟨r, rfl, hP⟩, A⟩ := q; exact ⟨r, h', hP, A⟩
theorem W.kV {P : Heap → Prop} {rest : List Value} (q : ∃ v h', QV P v h' ∧ W l Z n0 y bytes maxl ret R G h' pc Ls (v.toList ++ rest) C S) : ∃ h', P h' ∧ W l Z n0 y bytes maxl ret R G h' pc Ls rest C S := by
  obtain ⟨v, h', ⟨rfl, hP⟩, A⟩ := q; exact ⟨h', hP, A⟩
end Walk
end Jvm.Pilot.@@N@@
namespace Jvm.Pilot.@@N@@
open Jvm Jvm.ClassFile Sem Op Lib Jvm.Free Jvm.Stand Jvm.LawKit Jvm.RoadKit Bundle
/-! numbers -/
theorem rng32 (x : Int32) : -2147483648 ≤ x.toInt ∧ x.toInt < 2147483648 := ⟨x.le_toInt, x.toInt_lt⟩
theorem rng64 (x : Int64) : -9223372036854775808 ≤ x.toInt ∧ x.toInt < 9223372036854775808 := ⟨x.le_toInt, x.toInt_lt⟩
theorem add32 (x y : Int32) (h1 : -2147483648 ≤ x.toInt + y.toInt) (h2 : x.toInt + y.toInt < 2147483648) : (x + y).toInt = x.toInt + y.toInt := by
  have e := c_iadd x y; have r := rng32 (x + y); omega
theorem sub32 (x y : Int32) (h1 : -2147483648 ≤ x.toInt - y.toInt) (h2 : x.toInt - y.toInt < 2147483648) : (x - y).toInt = x.toInt - y.toInt := by
  have e := c_isub x y; have r := rng32 (x - y); omega
theorem mul32 (x y : Int32) (h1 : -2147483648 ≤ x.toInt * y.toInt) (h2 : x.toInt * y.toInt < 2147483648) : (x * y).toInt = x.toInt * y.toInt := by
  have e := c_imul x y; have r := rng32 (x * y); generalize x.toInt * y.toInt = z at *; omega
theorem add64 (x y : Int64) (h1 : -9223372036854775808 ≤ x.toInt + y.toInt) (h2 : x.toInt + y.toInt < 9223372036854775808) : (x + y).toInt = x.toInt + y.toInt := by
  have e := c_ladd x y; have r := rng64 (x + y); omega
theorem sub64 (x y : Int64) (h1 : -9223372036854775808 ≤ x.toInt - y.toInt) (h2 : x.toInt - y.toInt < 9223372036854775808) : (x - y).toInt = x.toInt - y.toInt := by
  have e := c_lsub x y; have r := rng64 (x - y); omega
theorem mul64 (x y : Int64) (h1 : -9223372036854775808 ≤ x.toInt * y.toInt) (h2 : x.toInt * y.toInt < 9223372036854775808) : (x * y).toInt = x.toInt * y.toInt := by
  have e := c_lmul x y; have r := rng64 (x * y); generalize x.toInt * y.toInt = z at *; omega
theorem mulc32 (x c : Int32) (k : Int) (hc : c.toInt = k) (h1 : -2147483648 ≤ x.toInt * k) (h2 : x.toInt * k < 2147483648) : (x * c).toInt = x.toInt * k := by
  subst hc; exact mul32 x c h1 h2
theorem mulc64 (x c : Int64) (k : Int) (hc : c.toInt = k) (h1 : -9223372036854775808 ≤ x.toInt * k) (h2 : x.toInt * k < 9223372036854775808) : (x * c).toInt = x.toInt * k := by
  subst hc; exact mul64 x c h1 h2
theorem addc32 (x c : Int32) (k : Int) (hc : c.toInt = k) (h1 : -2147483648 ≤ x.toInt + k) (h2 : x.toInt + k < 2147483648) : (x + c).toInt = x.toInt + k := by
  subst hc; exact add32 x c h1 h2
theorem subc32 (x c : Int32) (k : Int) (hc : c.toInt = k) (h1 : -2147483648 ≤ x.toInt - k) (h2 : x.toInt - k < 2147483648) : (x - c).toInt = x.toInt - k := by
  subst hc; exact sub32 x c h1 h2
theorem sta_int {args : Array Value} {s : State} {C n d : String} {v : Int32} (h : (Jvm.Cond.eq (Jvm.Term.static C n d) (Jvm.Term.int v)).value args s none s [] = some true) : (Jvm.Term.static C n d).eval args s none [] s = some (.int v) := by
  obtain ⟨a, b, h1, h2, -, -⟩ := cmp_v (Or.inl h)
  cases Option.some.inj (h2.symm.trans (rfl : (Jvm.Term.int v).eval args s none [] s = some (.int v)))
  rw [h1]; cases a <;> simp [Cond.value, h1, h2] at h ⊢; exact h
theorem sta_long {args : Array Value} {s : State} {C n d : String} {v : Int64} (h : (Jvm.Cond.eq (Jvm.Term.static C n d) (Jvm.Term.long v)).value args s none s [] = some true) : (Jvm.Term.static C n d).eval args s none [] s = some (.long v) := by
  obtain ⟨a, b, h1, h2, -, -⟩ := cmp_v (Or.inl h)
  cases Option.some.inj (h2.symm.trans (rfl : (Jvm.Term.long v).eval args s none [] s = some (.long v)))
  rw [h1]; cases a <;> simp [Cond.value, h1, h2] at h ⊢; exact h
/-- (y & 0x7fffffff) % m -/
theorem pmod32 (x m : Int32) (M : Int) (hm : m.toInt = M) (hM : 0 < M) : ((x &&& (2147483647 : Int32)) % m).toInt = (x.toInt % 2147483648) % M ∧ 0 ≤ ((x &&& (2147483647 : Int32)) % m).toInt ∧ ((x &&& (2147483647 : Int32)) % m).toInt < M := by
  have e : (x &&& (2147483647 : Int32)).toInt = x.toInt % 2147483648 := c_mask x 2147483647 31 (by decide) (by decide)
  have q := (c_irem (x &&& (2147483647 : Int32)) m M hm).1 (by omega)
  have := Int.emod_nonneg (x.toInt % 2147483648) (show M ≠ 0 by omega)
  have := Int.emod_lt_of_pos (x.toInt % 2147483648) hM
  rw [q, e]; omega
/-- (x & Long.MAX_VALUE) % m -/
theorem pmod64 (x m : Int64) (M : Int) (hm : m.toInt = M) (hM : 0 < M) : 0 ≤ ((x &&& (9223372036854775807 : Int64)) % m).toInt ∧ ((x &&& (9223372036854775807 : Int64)) % m).toInt < M := by
  have e : (x &&& (9223372036854775807 : Int64)).toInt = x.toInt % 9223372036854775808 := c_maskL x 9223372036854775807 63 (by decide) (by decide)
  have q := (c_lrem (x &&& (9223372036854775807 : Int64)) m M hm).1 (by omega)
  rw [lrem_mod] at q
  have := Int.emod_nonneg (x.toInt % 9223372036854775808) (show M ≠ 0 by omega)
  have := Int.emod_lt_of_pos (x.toInt % 9223372036854775808) hM
  rw [q, e]; omega
end Jvm.Pilot.@@N@@
namespace Jvm.Pilot.@@N@@
open Jvm Jvm.ClassFile Sem Op Lib Jvm.Free Jvm.Stand Jvm.LawKit Jvm.RoadKit Bundle Jvm.Pilot.@@N@@.Jvm.D Jvm.Free.Fl
section Floats
variable {l : Launch} {Z : State} {n0 : Nat} {y : MethodName} {bytes : ByteArray} {maxl : Nat} {ret : Option FieldType} {R : Room} {G : Cx} {h h' : Heap} {pc pc' : Nat} {Ls : Array Slot} {St : List Value} {C S C' S' : Nat} {Q : Option Value → Heap → Prop} {a0 : Array Value}
def QF (P : UInt32 → Heap → Prop) (v : Option Value) (h : Heap) : Prop := ∃ r, v = some (.float r) ∧ P r h
theorem W.floadN (A : W l Z n0 y bytes maxl ret R G h pc Ls St C S) {k : Fin 4} {v : UInt32} (hd : decode bytes pc = .ok (.fload_n k, 1)) (hl : Ls[k.val]? = some (.val (.float v))) (hp : pc + 1 = pc') : W l Z n0 y bytes maxl ret R G h pc' Ls (.float v :: St) C S := by
  subst hp; exact A.step fun X hx _ _ q _ r => XS.floadN X.here hx rfl (hb q hd) hl r
theorem W.fload (A : W l Z n0 y bytes maxl ret R G h pc Ls St C S) {k : Nat} {v : UInt32} (hd : decode bytes pc = .ok (.fload k, 2)) (hl : Ls[k]? = some (.val (.float v))) (hp : pc + 2 = pc') : W l Z n0 y bytes maxl ret R G h pc' Ls (.float v :: St) C S := by
  subst hp; exact A.step fun X hx _ _ q _ r => XS.fload X.here hx rfl (hb q hd) hl r
theorem W.fstore {v : UInt32} (A : W l Z n0 y bytes maxl ret R G h pc Ls (.float v :: St) C S) {k : Nat} {Ls' : Array Slot} (hd : decode bytes pc = .ok (.fstore k, 2)) (hl : storeLocals Ls k (.float v) = some Ls') (hp : pc + 2 = pc') : W l Z n0 y bytes maxl ret R G h pc' Ls' St C S := by
  subst hp; exact A.step fun X hx _ _ q _ r => XS.fstore X.here hx rfl (hb q hd) rfl hl r
theorem W.fconst1 (A : W l Z n0 y bytes maxl ret R G h pc Ls St C S) (hd : decode bytes pc = .ok (.fconst 1, 1)) (hp : pc + 1 = pc') : W l Z n0 y bytes maxl ret R G h pc' Ls (.float FP.fconst1 :: St) C S := by
  subst hp; exact A.step fun X hx _ _ q _ r => XS.fconst1 X.here hx rfl (hb q hd) rfl r
theorem W.i2f {x : Int32} (A : W l Z n0 y bytes maxl ret R G h pc Ls (.int x :: St) C S) (hd : decode bytes pc = .ok (.i2f, 1)) (hp : pc + 1 = pc') : W l Z n0 y bytes maxl ret R G h pc' Ls (.float (FP.i2f x) :: St) C S := by
  subst hp; exact A.step fun X hx _ _ q _ r => XS.i2fS X.here hx rfl (hb q hd) rfl rfl r
theorem W.fcmp {o : CmpOp} {x z : UInt32} (A : W l Z n0 y bytes maxl ret R G h pc Ls (.float z :: .float x :: St) C S) (hd : decode bytes pc = .ok (.fcmp o, 1)) (hp : pc + 1 = pc') : W l Z n0 y bytes maxl ret R G h pc' Ls (.int (cmpValue (FP.fcmp x z) o) :: St) C S := by
  subst hp; exact A.step fun X hx _ _ q _ r => XS.fcmpS X.here hx rfl (hb q hd) rfl rfl r
theorem W.fadd {x z : UInt32} (A : W l Z n0 y bytes maxl ret R G h pc Ls (.float z :: .float x :: St) C S) (hd : decode bytes pc = .ok (.fadd, 1)) (hn : NoNaN32 (FP.fadd x z)) (hp : pc + 1 = pc') : W l Z n0 y bytes maxl ret R G h pc' Ls (.float (FP.fadd x z) :: St) C S := by
  subst hp; exact A.step fun X hx _ _ q _ r => XS.faddS X.here hx rfl (hb q hd) rfl hn rfl r
theorem W.fsub {x z : UInt32} (A : W l Z n0 y bytes maxl ret R G h pc Ls (.float z :: .float x :: St) C S) (hd : decode bytes pc = .ok (.fsub, 1)) (hn : NoNaN32 (FP.fsub x z)) (hp : pc + 1 = pc') : W l Z n0 y bytes maxl ret R G h pc' Ls (.float (FP.fsub x z) :: St) C S := by
  subst hp; exact A.step fun X hx _ _ q _ r => XS.fsubS X.here hx rfl (hb q hd) rfl hn rfl r
theorem W.fmul {x z : UInt32} (A : W l Z n0 y bytes maxl ret R G h pc Ls (.float z :: .float x :: St) C S) (hd : decode bytes pc = .ok (.fmul, 1)) (hn : NoNaN32 (FP.fmul x z)) (hp : pc + 1 = pc') : W l Z n0 y bytes maxl ret R G h pc' Ls (.float (FP.fmul x z) :: St) C S := by
  subst hp; exact A.step fun X hx _ _ q _ r => XS.fmulS X.here hx rfl (hb q hd) rfl hn rfl r
theorem W.fdiv {x z : UInt32} (A : W l Z n0 y bytes maxl ret R G h pc Ls (.float z :: .float x :: St) C S) (hd : decode bytes pc = .ok (.fdiv, 1)) (hn : NoNaN32 (FP.fdiv x z)) (hp : pc + 1 = pc') : W l Z n0 y bytes maxl ret R G h pc' Ls (.float (FP.fdiv x z) :: St) C S := by
  subst hp; exact A.step fun X hx _ _ q _ r => XS.fdivS X.here hx rfl (hb q hd) rfl hn rfl r
theorem W.ldcF (A : W l Z n0 y bytes maxl ret R G h pc Ls St C S) {i : Nat} {z : UInt32} (hd : decode bytes pc = .ok (.ldc i, 2)) (w : (Jvm.Cond.constantFloat y.cls i z).before a0 Z = true) (hp : pc + 2 = pc') : W l Z n0 y bytes maxl ret R G h pc' Ls (.float z :: St) C S := by
  subst hp; exact A.step fun X hx hZ hown q _ r => X.ldcFloatC hx hown (mvT hZ w) (g := mkF _ pc Ls St) rfl (hb q hd) _ r
theorem W.retF {z : UInt32} (A : W l Z n0 y bytes maxl (some .float) R G h pc Ls (.float z :: St) C S) (hd : decode bytes pc = .ok (.freturn, 1)) (hC : C ≤ R.cells) (hS : S ≤ R.slots) (hQ : Q (some (.float z)) h) : Gl R n0 G Q :=
  A.fin hC hS (fun q => nomatch q) hQ fun X hx q hret hr => retOut X hx hret (t := .float) rfl (Or.inr (Or.inr (Or.inr (Or.inl ⟨rfl, rfl, z, rfl⟩)))) (hb q hd) hr
theorem W.kF {P : UInt32 → Heap → Prop} {rest : List Value} (q : ∃ v h', QF P v h' ∧ W l Z n0 y bytes maxl ret R G h' pc Ls (v.toList ++ rest) C S) : ∃ r h', P r h' ∧ W l Z n0 y bytes maxl ret R G h' pc Ls (.float r :: rest) C S := by
  obtain ⟨_, h', ⟨r, rfl, hr⟩, A⟩ := q; exact ⟨r, h', hr, A⟩
end Floats
end Jvm.Pilot.@@N@@
namespace Jvm.Pilot.@@N@@
section Fp
open Jvm Jvm.FP Jvm.FP.Core
/-! numbers n * 2^q in a float's bits -/
def P2 (i : Int) : Int := ((2 ^ (i + 400).toNat : Nat) : Int)
theorem P2_pos (i : Int) : 0 < P2 i := by
  have := Nat.two_pow_pos (i + 400).toNat
  unfold P2; omega
theorem P2_ne (i : Int) : P2 i ≠ 0 := by have := P2_pos i; omega
theorem P2_add {a b : Int} (k : Nat) (ha : -400 ≤ b) (h : a = b + k) : P2 a = P2 b * ((2 ^ k : Nat) : Int) := by
  unfold P2
  rw [show (a + 400).toNat = (b + 400).toNat + k by omega, Nat.pow_add, Int.natCast_mul]
theorem P2_mul {a b : Int} (ha : -400 ≤ a) (hb : -400 ≤ b) (h : -400 ≤ a + b) : P2 a * P2 b = P2 (a + b) * ((2 ^ 400 : Nat) : Int) := by
  unfold P2
  rw [← Int.natCast_mul, ← Int.natCast_mul, ← Nat.pow_add, ← Nat.pow_add, show (a + 400).toNat + (b + 400).toNat = (a + b + 400).toNat + 400 by omega]
def HV (x : UInt32) (n q : Int) : Prop := ∃ s c Q, val32 x = .fin s c Q ∧ -149 ≤ Q ∧ Q ≤ 104 ∧ signed s c * P2 Q = n * P2 q
theorem fitN (s : Bool) {n : Nat} {q : Int} (hn : n < 2 ^ 24) (h1 : -149 ≤ q) (h2 : q ≤ 104) : ∃ c Q, Core.fits b32 (.fin s c Q) ∧ Q ≤ q ∧ c = n * 2 ^ (q - Q).toNat := by
  have e1 : b32.qmin = -149 := by decide
  have e2 : b32.qmax = 104 := by decide
  have e3 : b32.tails = 2 ^ 23 := by decide
  by_cases h0 : n = 0
  · subst h0
    exact ⟨0, -149, ⟨by decide, by omega, by omega, Or.inl e1.symm⟩, h1, by simp⟩
  · have l1 : 2 ^ n.log2 ≤ n := Nat.log2_self_le h0
    have l2 : n < 2 ^ (n.log2 + 1) := Nat.lt_log2_self
    have l3 : n.log2 < 24 := (Nat.pow_lt_pow_iff_right (by decide : 1 < 2)).mp (Nat.lt_of_le_of_lt l1 hn)
    generalize n.log2 = L at l1 l2 l3
    obtain ⟨k, hk1, hk2, hk3⟩ : ∃ k : Nat, k ≤ 23 - L ∧ (k : Int) ≤ q + 149 ∧ (k = 23 - L ∨ (k : Int) = q + 149) := by
      by_cases h : ((23 - L : Nat) : Int) ≤ q + 149
      · exact ⟨23 - L, Nat.le_refl _, h, Or.inl rfl⟩
      · exact ⟨(q + 149).toNat, by omega, by omega, Or.inr (by omega)⟩
    refine ⟨n * 2 ^ k, q - k, ⟨?_, by omega, by omega, ?_⟩, by omega, by rw [show (q - (q - (k : Int))).toNat = k by omega]⟩
    · calc n * 2 ^ k < 2 ^ (L + 1) * 2 ^ k := Nat.mul_lt_mul_of_pos_right l2 (Nat.two_pow_pos _)
        _ = 2 ^ (L + 1 + k) := by rw [← Nat.pow_add]
        _ ≤ 2 ^ 24 := Nat.pow_le_pow_right (by decide) (by omega)
    · rcases hk3 with hk3 | hk3
      · refine Or.inr ?_
        rw [e3]
        calc 2 ^ 23 = 2 ^ L * 2 ^ k := by rw [← Nat.pow_add]; congr 1; omega
          _ ≤ n * 2 ^ k := Nat.mul_le_mul_right _ l1
      · exact Or.inl (by omega)
theorem signOf {s : Bool} {A : Nat} {n m : Int} {p : Int} (hm : 0 < m) (hp : 0 < p) (h : signed s A * p = n * m) (hn : n ≠ 0) : s = decide (n < 0) := by
  cases s with
  | true =>
    have e : signed true A = -(A : Int) := rfl
    rw [e] at h
    have h1 : 0 ≤ (A : Int) * p := Int.mul_nonneg (by omega) (by omega)
    have h2 : ¬ 0 < n := fun q => by have := Int.mul_pos q hm; rw [Int.neg_mul] at h; omega
    exact (decide_eq_true (by omega)).symm
  | false =>
    have e : signed false A = (A : Int) := rfl
    rw [e] at h
    have h1 : 0 ≤ (A : Int) * p := Int.mul_nonneg (by omega) (by omega)
    have h2 : ¬ n < 0 := fun q => by have := Int.mul_neg_of_neg_of_pos q hm; omega
    exact (decide_eq_false h2).symm
theorem signed_abs {n : Int} {s : Bool} (k : Nat) (h : n ≠ 0 → s = decide (n < 0)) : signed s (n.natAbs * k) = n * (k : Int) := by
  rw [signed_mul]
  by_cases h0 : n = 0
  · subst h0; simp [signed_zero]
  · rw [h h0]
    unfold signed
    by_cases q : n < 0
    · rw [decide_eq_true q, if_pos rfl]; congr 1; omega
    · rw [decide_eq_false q, if_neg (by decide)]; congr 1; omega
theorem roundHV {s : Bool} {A B : Nat} {e n q : Int} (hB : 0 < B) (hn : n.natAbs < 2 ^ 24) (h1 : -149 ≤ q) (h2 : q ≤ 104) (he : -400 ≤ e) (h : signed s A * P2 e = n * ((B : Int) * P2 q)) :
    ∃ c Q, roundRatio b32 s A B e = .fin s c Q ∧ -149 ≤ Q ∧ Q ≤ 104 ∧ signed s c * P2 Q = n * P2 q := by
  have hs := signOf (Int.mul_pos (by omega) (P2_pos q)) (P2_pos e) h
  obtain ⟨c, Q, hfit, hQ, rfl⟩ := fitN s hn h1 h2
  have e1 : b32.qmin = -149 := by decide
  have e2 : b32.qmax = 104 := by decide
  have hQ1 : -149 ≤ Q := by have := hfit.2.1; omega
  have ab := signed_abs (s := s) (2 ^ (q - Q).toNat) hs
  have hval : signed s (n.natAbs * 2 ^ (q - Q).toNat) * P2 Q = n * P2 q := by
    rw [ab, P2_add (a := q) (b := Q) (q - Q).toNat (by omega) (by omega), Int.mul_assoc, Int.mul_comm (P2 Q)]
  refine ⟨_, Q, roundRatio_exact good_b32 hB hfit ?_, hQ1, by omega, hval⟩
  -- A * 2^(e - Q) = c * B * 2^(Q - e)
  have key : (A : Int) * P2 e = ((n.natAbs * 2 ^ (q - Q).toNat * B : Nat) : Int) * P2 Q := by
    have a1 := congrArg Int.natAbs h
    have a2 := congrArg Int.natAbs hval
    simp only [Int.natAbs_mul, natAbs_signed, Int.natAbs_natCast] at a1 a2
    have pe : ((P2 e).natAbs : Int) = P2 e := Int.natAbs_of_nonneg (Int.le_of_lt (P2_pos e))
    have pq : ((P2 Q).natAbs : Int) = P2 Q := Int.natAbs_of_nonneg (Int.le_of_lt (P2_pos Q))
    rw [← pe, ← pq, ← Int.natCast_mul, ← Int.natCast_mul, a1]
    congr 1
    calc n.natAbs * (B * (P2 q).natAbs) = n.natAbs * (P2 q).natAbs * B := by ac_rfl
      _ = n.natAbs * 2 ^ (q - Q).toNat * (P2 Q).natAbs * B := by rw [a2]
      _ = _ := by ac_rfl
  obtain ⟨b, hb1, hb2⟩ : ∃ b : Int, b = min e Q ∧ -400 ≤ b := ⟨_, rfl, by omega⟩
  rw [P2_add (a := e) (b := b) (e - Q).toNat hb2 (by omega), P2_add (a := Q) (b := b) (Q - e).toNat hb2 (by omega)] at key
  have k2 : (A : Int) * ((2 ^ (e - Q).toNat : Nat) : Int) * P2 b = ((n.natAbs * 2 ^ (q - Q).toNat * B : Nat) : Int) * ((2 ^ (Q - e).toNat : Nat) : Int) * P2 b := by
    rw [Int.mul_assoc, Int.mul_comm _ (P2 b), key, Int.mul_assoc, Int.mul_comm _ (P2 b)]
  have k3 := Int.eq_of_mul_eq_mul_right (P2_ne b) k2
  rw [← Int.natCast_mul, ← Int.natCast_mul] at k3
  exact Int.ofNat.inj k3
theorem HV.ofRound {x : UInt32} {s : Bool} {A B : Nat} {e n q : Int} (hx : val32 x = roundRatio b32 s A B e) (hB : 0 < B) (hn : n.natAbs < 2 ^ 24) (h1 : -149 ≤ q) (h2 : q ≤ 104) (he : -400 ≤ e) (h : signed s A * P2 e = n * ((B : Int) * P2 q)) : HV x n q := by
  obtain ⟨c, Q, hr, r⟩ := roundHV hB hn h1 h2 he h
  exact ⟨s, c, Q, hx.trans hr, r⟩
theorem HV.i2f {a : Int32} (h : a.toInt.natAbs < 2 ^ 24) : HV (Core.i2f a) a.toInt 0 := by
  refine HV.ofRound (s := decide (a.toInt < 0)) (A := a.toInt.natAbs) (B := 1) (e := 0) (val32_i2f a) (by decide) h (by decide) (by decide) (by decide) ?_
  have := signed_abs (n := a.toInt) (s := decide (a.toInt < 0)) 1 (fun _ => rfl)
  rw [Nat.mul_one] at this
  rw [this]; simp
theorem HV.mul {x y : UInt32} {n m q r : Int} (hx : HV x n q) (hy : HV y m r) (hb : (n * m).natAbs < 2 ^ 24) (hq : -149 ≤ q) (hr : -149 ≤ r) (h1 : -149 ≤ q + r) (h2 : q + r ≤ 104) : HV (Core.fmul x y) (n * m) (q + r) := by
  obtain ⟨s, c, Q, e1, a1, b1, v1⟩ := hx
  obtain ⟨t, d, R, e2, a2, b2, v2⟩ := hy
  refine HV.ofRound (s := (s != t)) (A := c * d) (B := 1) (e := Q + R) ?_ (by decide) hb h1 h2 (by omega) ?_
  · rw [val32_fmul, e1, e2]; rfl
  · have k : ((2 ^ 400 : Nat) : Int) ≠ 0 := by have := Nat.two_pow_pos 400; omega
    refine Int.eq_of_mul_eq_mul_right k ?_
    rw [signed_xor]
    calc signed s c * signed t d * P2 (Q + R) * ((2 ^ 400 : Nat) : Int) = signed s c * signed t d * (P2 Q * P2 R) := by rw [P2_mul (by omega) (by omega) (by omega), Int.mul_assoc]
      _ = (signed s c * P2 Q) * (signed t d * P2 R) := by ac_rfl
      _ = (n * P2 q) * (m * P2 r) := by rw [v1, v2]
      _ = n * m * (P2 q * P2 r) := by ac_rfl
      _ = n * m * (((1 : Nat) : Int) * P2 (q + r)) * ((2 ^ 400 : Nat) : Int) := by rw [P2_mul (by omega) (by omega) (by omega)]; simp [Int.mul_assoc]
theorem units {s : Bool} {c : Nat} {Q e : Int} (h : e ≤ Q) (he : -400 ≤ e) : signed s (inUnits c Q e) * P2 e = signed s c * P2 Q := by
  unfold inUnits
  rw [signed_mul, P2_add (a := Q) (b := e) (Q - e).toNat he (by omega)]; ac_rfl
theorem HV.add {x y : UInt32} {n m q : Int} (hx : HV x n q) (hy : HV y m q) (hb : (n + m).natAbs < 2 ^ 24) (h1 : -149 ≤ q) (h2 : q ≤ 104) : HV (Core.fadd x y) (n + m) q := by
  obtain ⟨s, c, Q, e1, a1, b1, v1⟩ := hx
  obtain ⟨t, d, R, e2, a2, b2, v2⟩ := hy
  refine HV.ofRound (s := sumSign s t (sumUnits s c Q t d R (min Q R))) (A := (sumUnits s c Q t d R (min Q R)).natAbs) (B := 1) (e := min Q R) ?_ (by decide) hb h1 h2 (by omega) ?_
  · rw [val32_fadd, e1, e2]; rfl
  · rw [signed_sumSign]
    unfold sumUnits
    rw [Int.add_mul, units (by omega) (by omega), units (by omega) (by omega), v1, v2]
    simp [Int.add_mul]
theorem signed_not (t : Bool) (d : Nat) : signed (!t) d = -signed t d := by cases t <;> simp [signed]
theorem HV.sub {x y : UInt32} {n m q : Int} (hx : HV x n q) (hy : HV y m q) (hb : (n - m).natAbs < 2 ^ 24) (h1 : -149 ≤ q) (h2 : q ≤ 104) : HV (Core.fsub x y) (n - m) q := by
  obtain ⟨s, c, Q, e1, a1, b1, v1⟩ := hx
  obtain ⟨t, d, R, e2, a2, b2, v2⟩ := hy
  refine HV.ofRound (s := sumSign s (!t) (sumUnits s c Q (!t) d R (min Q R))) (A := (sumUnits s c Q (!t) d R (min Q R)).natAbs) (B := 1) (e := min Q R) ?_ (by decide) hb h1 h2 (by omega) ?_
  · rw [val32_fsub, e1, e2]; rfl
  · rw [signed_sumSign]
    unfold sumUnits
    rw [Int.add_mul, units (by omega) (by omega), units (by omega) (by omega), v1, signed_not, Int.neg_mul, v2]
    rw [show ((1 : Nat) : Int) = 1 from rfl, Int.one_mul, Int.sub_mul, Int.sub_eq_add_neg]
theorem signed_div (s t : Bool) (c d : Nat) : signed (s != t) c * signed t d = signed s c * (d : Int) := by
  cases s <;> cases t <;> simp [signed, Int.neg_mul, Int.mul_neg]
theorem HV.div {x y : UInt32} {n m k q r u : Int} (hx : HV x n q) (hy : HV y m r) (hm : m ≠ 0) (hb : k.natAbs < 2 ^ 24) (h1 : -149 ≤ u) (h2 : u ≤ 104) (h : n * P2 q * ((2 ^ 400 : Nat) : Int) = k * m * (P2 u * P2 r)) : HV (Core.fdiv x y) k u := by
  obtain ⟨s, c, Q, e1, a1, b1, v1⟩ := hx
  obtain ⟨t, d, R, e2, a2, b2, v2⟩ := hy
  have hne : signed t d * P2 R ≠ 0 := by rw [v2]; exact Int.mul_ne_zero hm (P2_ne r)
  have hd : d ≠ 0 := fun z => hne (by rw [z, signed_zero, Int.zero_mul])
  refine HV.ofRound (s := (s != t)) (A := c) (B := d) (e := Q - R) ?_ (by omega) hb h1 h2 (by omega) ?_
  · rw [val32_fdiv, e1, e2]
    show (if d = 0 then _ else roundRatio b32 (s != t) c d (Q - R)) = _
    rw [if_neg hd]
  · refine Int.eq_of_mul_eq_mul_right hne ?_
    have pr : P2 (Q - R) * P2 R = P2 Q * ((2 ^ 400 : Nat) : Int) := by
      have := P2_mul (a := Q - R) (b := R) (by omega) (by omega) (by omega)
      rwa [show Q - R + R = Q by omega] at this
    calc signed (s != t) c * P2 (Q - R) * (signed t d * P2 R) = (signed (s != t) c * signed t d) * (P2 (Q - R) * P2 R) := by ac_rfl
      _ = (signed s c * (d : Int)) * (P2 Q * ((2 ^ 400 : Nat) : Int)) := by rw [signed_div, pr]
      _ = (d : Int) * ((signed s c * P2 Q) * ((2 ^ 400 : Nat) : Int)) := by ac_rfl
      _ = (d : Int) * (k * m * (P2 u * P2 r)) := by rw [v1, h]
      _ = k * ((d : Int) * P2 u) * (m * P2 r) := by ac_rfl
      _ = k * ((d : Int) * P2 u) * (signed t d * P2 R) := by rw [v2]
theorem HV.scale {x : UInt32} {n q : Int} (hx : HV x n q) (k : Nat) (h : -400 ≤ q - k) : HV x (n * ((2 ^ k : Nat) : Int)) (q - k) := by
  obtain ⟨s, c, Q, e1, a1, b1, v1⟩ := hx
  refine ⟨s, c, Q, e1, a1, b1, ?_⟩
  rw [v1, P2_add (a := q) (b := q - k) k h (by omega)]; ac_rfl
theorem HV.cmp {x y : UInt32} {n q : Int} (hx : HV x n q) (hy : HV y n q) : Core.fcmp x y = some .eq := by
  obtain ⟨s, c, Q, e1, a1, b1, v1⟩ := hx
  obtain ⟨t, d, R, e2, a2, b2, v2⟩ := hy
  show order (val32 x) (val32 y) = _
  rw [e1, e2]
  show some (compare (signed s (inUnits c Q (min Q R))) (signed t (inUnits d R (min Q R)))) = _
  have : signed s (inUnits c Q (min Q R)) = signed t (inUnits d R (min Q R)) := by
    refine Int.eq_of_mul_eq_mul_right (P2_ne (min Q R)) ?_
    rw [units (by omega) (by omega), units (by omega) (by omega), v1, v2]
  rw [this, compare_self_int]
theorem HV.num {x : UInt32} {n q : Int} (hx : HV x n q) : val32 x ≠ .nan := by
  obtain ⟨s, c, Q, e1, -⟩ := hx
  rw [e1]; exact fun z => nomatch z

theorem HV.divp {x y : UInt32} {n q : Int} (j : Nat) (hx : HV x n q) (hy : HV y ((2 ^ j : Nat) : Int) 0) (hb : n.natAbs < 2 ^ 24) (h1 : -149 ≤ q - j) (h2 : q - j ≤ 104) : HV (Core.fdiv x y) n (q - j) := by
  refine HV.div hx hy (by have := Nat.two_pow_pos j; omega) hb h1 h2 ?_
  rw [P2_add (a := q) (b := q - j) j (by omega) (by omega), show P2 0 = ((2 ^ 400 : Nat) : Int) from rfl]
  ac_rfl
theorem HV.divd {x y : UInt32} {n m q : Int} (hx : HV x (n * m) q) (hy : HV y m 0) (hm : m ≠ 0) (hb : n.natAbs < 2 ^ 24) (h1 : -149 ≤ q) (h2 : q ≤ 104) : HV (Core.fdiv x y) n q := by
  refine HV.div hx hy hm hb h1 h2 ?_
  rw [show P2 0 = ((2 ^ 400 : Nat) : Int) from rfl]
  ac_rfl
theorem HV.four : HV 1082130432 ((2 ^ 2 : Nat) : Int) 0 := by
  have h := HV.i2f (a := 4) (by decide)
  rw [show Core.i2f 4 = 1082130432 by decide +kernel] at h
  exact h
theorem HV.one : HV FP.fconst1 4 (-2) := by
  have h := HV.i2f (a := 1) (by decide)
  rw [show Core.i2f 1 = FP.fconst1 by decide +kernel] at h
  exact h.scale 2 (by decide)
theorem HV.quarter {a : Int32} (h0 : 0 ≤ a.toInt) (h1 : a.toInt ≤ 15) : HV (FP.fdiv (FP.i2f a) 1082130432) a.toInt (-2) :=
  HV.divp 2 (HV.i2f (by omega)) HV.four (by omega) (by decide) (by decide)
def own_norm (k1 b : UInt32) (dl : Int32) (av : UInt32) : UInt32 := FP.fmul k1 (FP.fadd (FP.fsub FP.fconst1 b) (FP.fdiv (FP.fmul b (FP.i2f dl)) av))
theorem mulb {a b A B : Int} (h0 : 0 ≤ a) (h1 : a ≤ A) (h2 : -B ≤ b) (h3 : b ≤ B) : -(A * B) ≤ a * b ∧ a * b ≤ A * B := by
  have hB : 0 ≤ B := by omega
  have e1 : a * b ≤ a * B := Int.mul_le_mul_of_nonneg_left h3 h0
  have e2 : a * B ≤ A * B := Int.mul_le_mul_of_nonneg_right h1 hB
  have e3 : a * (-B) ≤ a * b := Int.mul_le_mul_of_nonneg_left h2 h0
  rw [Int.mul_neg] at e3
  omega
/-- what the parts are: dl / av is dl * 2^(-j) (av = 2^j) -/
theorem parts {k1 b av : UInt32} {dl : Int32} {K B : Int} (hk : HV k1 K (-2)) (hb : HV b B (-2)) (K0 : 0 ≤ K) (K1 : K ≤ 15) (B0 : 0 ≤ B) (B1 : B ≤ 7) (d0 : 0 ≤ dl.toInt) (d1 : dl.toInt ≤ 65535) (j : Nat) (hj : j ≤ 7) (ha : HV av ((2 ^ j : Nat) : Int) 0) :
    HV (FP.fsub FP.fconst1 b) (4 - B) (-2) ∧ HV (FP.fmul b (FP.i2f dl)) (B * dl.toInt) (-2) ∧ HV (FP.fdiv (FP.fmul b (FP.i2f dl)) av) (B * dl.toInt) (-2 - j) ∧ HV (FP.fadd (FP.fsub FP.fconst1 b) (FP.fdiv (FP.fmul b (FP.i2f dl)) av)) ((4 - B) * ((2 ^ j : Nat) : Int) + B * dl.toInt) (-2 - j) ∧ HV (own_norm k1 b dl av) (K * ((4 - B) * ((2 ^ j : Nat) : Int) + B * dl.toInt)) (-2 + (-2 - j)) := by
  have m1 := mulb (a := B) (b := dl.toInt) (A := 7) (B := 65535) B0 B1 (by omega) d1
  have p1 : ((2 ^ j : Nat) : Int) ≤ 128 := by
    have : 2 ^ j ≤ 2 ^ 7 := Nat.pow_le_pow_right (by decide) hj
    omega
  have p0 : 0 ≤ ((2 ^ j : Nat) : Int) := Int.natCast_nonneg _
  have m2 := mulb (a := ((2 ^ j : Nat) : Int)) (b := 4 - B) (A := 128) (B := 4) p0 p1 (by omega) (by omega)
  rw [Int.mul_comm ((2 ^ j : Nat) : Int) (4 - B)] at m2
  have m3 := mulb (a := K) (b := (4 - B) * ((2 ^ j : Nat) : Int) + B * dl.toInt) (A := 15) (B := 459257) K0 K1 (by omega) (by omega)
  have h1 : HV (FP.fsub FP.fconst1 b) (4 - B) (-2) := HV.sub HV.one hb (by omega) (by decide) (by decide)
  have h2 : HV (FP.fmul b (FP.i2f dl)) (B * dl.toInt) (-2) := HV.mul hb (HV.i2f (by omega)) (by omega) (by decide) (by decide) (by decide) (by decide)
  have h3 : HV (FP.fdiv (FP.fmul b (FP.i2f dl)) av) (B * dl.toInt) (-2 - j) := HV.divp j h2 ha (by omega) (by omega) (by omega)
  have h4 : HV (FP.fadd (FP.fsub FP.fconst1 b) (FP.fdiv (FP.fmul b (FP.i2f dl)) av)) ((4 - B) * ((2 ^ j : Nat) : Int) + B * dl.toInt) (-2 - j) := HV.add (h1.scale j (by omega)) h3 (by omega) (by omega) (by omega)
  exact ⟨h1, h2, h3, h4, HV.mul hk h4 (by omega) (by decide) (by omega) (by omega) (by omega)⟩
/-- the same where av = dl -/
theorem parts1 {k1 b : UInt32} {dl : Int32} {K B : Int} (hk : HV k1 K (-2)) (hb : HV b B (-2)) (K0 : 0 ≤ K) (K1 : K ≤ 15) (B0 : 0 ≤ B) (B1 : B ≤ 7) (d0 : 0 < dl.toInt) (d1 : dl.toInt ≤ 65535) :
    HV (FP.fsub FP.fconst1 b) (4 - B) (-2) ∧ HV (FP.fmul b (FP.i2f dl)) (B * dl.toInt) (-2) ∧ HV (FP.fdiv (FP.fmul b (FP.i2f dl)) (FP.i2f dl)) B (-2) ∧ HV (FP.fadd (FP.fsub FP.fconst1 b) (FP.fdiv (FP.fmul b (FP.i2f dl)) (FP.i2f dl))) 4 (-2) ∧ HV (own_norm k1 b dl (FP.i2f dl)) (K * 4) (-4) := by
  have m1 := mulb (a := B) (b := dl.toInt) (A := 7) (B := 65535) B0 B1 (by omega) d1
  have hd : HV (FP.i2f dl) dl.toInt 0 := HV.i2f (by omega)
  have h1 : HV (FP.fsub FP.fconst1 b) (4 - B) (-2) := HV.sub HV.one hb (by omega) (by decide) (by decide)
  have h2 : HV (FP.fmul b (FP.i2f dl)) (B * dl.toInt) (-2) := HV.mul hb hd (by omega) (by decide) (by decide) (by decide) (by decide)
  have h3 : HV (FP.fdiv (FP.fmul b (FP.i2f dl)) (FP.i2f dl)) B (-2) := HV.divd h2 hd (by omega) (by omega) (by decide) (by decide)
  have h4 := HV.add h1 h3 (by omega) (by decide) (by decide)
  rw [show 4 - B + B = 4 by omega] at h4
  exact ⟨h1, h2, h3, h4, HV.mul hk h4 (by omega) (by decide) (by decide) (by decide) (by decide)⟩
end Fp
end Jvm.Pilot.@@N@@
namespace Jvm.Pilot.@@N@@
open Jvm Jvm.ClassFile Sem Op Lib Jvm.Free Jvm.Stand Jvm.LawKit Jvm.RoadKit Bundle Jvm.Pilot.@@N@@.Jvm.D
open Jvm.Free.Fl
theorem hv_no {x : UInt32} {n q : Int} (h : HV x n q) : NoNaN32 x := val32_no.mpr h.num
theorem own_cmp {x y : UInt32} {n q : Int} (hx : HV x n q) (hy : HV y n q) : (cmpValue (FP.fcmp x y) .l).toInt = 0 := by
  rw [show FP.fcmp x y = some .eq from HV.cmp hx hy]; rfl
theorem own_pow (e : Int32) (h0 : 0 ≤ e.toInt) (h1 : e.toInt ≤ 7) : ∃ j : Nat, j ≤ 7 ∧ ((1 : Int32) <<< (e &&& 31)).toInt = ((2 ^ j : Nat) : Int) := by
  have hc : e.toInt = 0 ∨ e.toInt = 1 ∨ e.toInt = 2 ∨ e.toInt = 3 ∨ e.toInt = 4 ∨ e.toInt = 5 ∨ e.toInt = 6 ∨ e.toInt = 7 := by omega
  rcases hc with h | h | h | h | h | h | h | h
  · obtain rfl : e = 0 := Int32.toInt_inj.mp h
    exact ⟨0, by decide, by decide⟩
  · obtain rfl : e = 1 := Int32.toInt_inj.mp h
    exact ⟨1, by decide, by decide⟩
  · obtain rfl : e = 2 := Int32.toInt_inj.mp h
    exact ⟨2, by decide, by decide⟩
  · obtain rfl : e = 3 := Int32.toInt_inj.mp h
    exact ⟨3, by decide, by decide⟩
  · obtain rfl : e = 4 := Int32.toInt_inj.mp h
    exact ⟨4, by decide, by decide⟩
  · obtain rfl : e = 5 := Int32.toInt_inj.mp h
    exact ⟨5, by decide, by decide⟩
  · obtain rfl : e = 6 := Int32.toInt_inj.mp h
    exact ⟨6, by decide, by decide⟩
  · obtain rfl : e = 7 := Int32.toInt_inj.mp h
    exact ⟨7, by decide, by decide⟩
theorem own_num {kq bq dl pp : Int32} (k0 : 0 ≤ kq.toInt) (k1 : kq.toInt ≤ 15) (b0 : 0 ≤ bq.toInt) (b1 : bq.toInt ≤ 7) (d0 : 0 ≤ dl.toInt) (d1 : dl.toInt ≤ 65535) (j : Nat) (hj : j ≤ 7) (hp : pp.toInt = ((2 ^ j : Nat) : Int)) : (kq * ((((4 : Int32) - bq) * pp) + (bq * dl))).toInt = kq.toInt * ((4 - bq.toInt) * pp.toInt + bq.toInt * dl.toInt) := by
  have p1 : ((2 ^ j : Nat) : Int) ≤ 128 := by
    have : 2 ^ j ≤ 2 ^ 7 := Nat.pow_le_pow_right (by decide) hj
    omega
  have p0 : 0 ≤ pp.toInt := by rw [hp]; exact Int.natCast_nonneg _
  rw [← hp] at p1
  have e4 : (4 : Int32).toInt = 4 := rfl
  have s1 : ((4 : Int32) - bq).toInt = 4 - bq.toInt := by rw [sub32 _ _ (by omega) (by omega), e4]
  have m1 := mulb (a := bq.toInt) (b := dl.toInt) (A := 7) (B := 65535) b0 b1 (by omega) d1
  have m2 := mulb (a := pp.toInt) (b := 4 - bq.toInt) (A := 128) (B := 4) p0 p1 (by omega) (by omega)
  rw [Int.mul_comm pp.toInt] at m2
  have m3 := mulb (a := kq.toInt) (b := (4 - bq.toInt) * pp.toInt + bq.toInt * dl.toInt) (A := 15) (B := 459257) k0 k1 (by omega) (by omega)
  have s2 : (((4 : Int32) - bq) * pp).toInt = (4 - bq.toInt) * pp.toInt := by rw [mul32 _ _ (by rw [s1]; omega) (by rw [s1]; omega), s1]
  have s3 : (bq * dl).toInt = bq.toInt * dl.toInt := mul32 _ _ (by omega) (by omega)
  have s4 : ((((4 : Int32) - bq) * pp) + (bq * dl)).toInt = (4 - bq.toInt) * pp.toInt + bq.toInt * dl.toInt := by rw [add32 _ _ (by rw [s2, s3]; omega) (by rw [s2, s3]; omega), s2, s3]
  rw [mul32 _ _ (by rw [s4]; omega) (by rw [s4]; omega), s4]
theorem own_den {pp : Int32} (j : Nat) (hj : j ≤ 7) (hp : pp.toInt = ((2 ^ j : Nat) : Int)) : ((16 : Int32) * pp).toInt = 16 * pp.toInt := by
  have p1 : ((2 ^ j : Nat) : Int) ≤ 128 := by
    have : 2 ^ j ≤ 2 ^ 7 := Nat.pow_le_pow_right (by decide) hj
    omega
  have p0 : 0 ≤ pp.toInt := by rw [hp]; exact Int.natCast_nonneg _
  have e : (16 : Int32).toInt = 16 := rfl
  rw [mul32 _ _ (by rw [e]; omega) (by rw [e]; omega), e]
theorem own_B {k1 b : UInt32} {kq bq dl pp nu de : Int32} (hk : HV k1 kq.toInt (-2)) (hb : HV b bq.toInt (-2)) (K0 : 0 ≤ kq.toInt) (K1 : kq.toInt ≤ 15) (B0 : 0 ≤ bq.toInt) (B1 : bq.toInt ≤ 7) (d0 : 0 ≤ dl.toInt) (d1 : dl.toInt ≤ 65535) (j : Nat) (hj : j ≤ 7) (hp : pp.toInt = ((2 ^ j : Nat) : Int))
    (hn : nu.toInt = kq.toInt * ((4 - bq.toInt) * pp.toInt + bq.toInt * dl.toInt)) (hd : de.toInt = 16 * pp.toInt) :
    NoNaN32 (FP.fdiv (FP.i2f nu) (FP.i2f de)) ∧ NoNaN32 (FP.fsub FP.fconst1 b) ∧ NoNaN32 (FP.fmul b (FP.i2f dl)) ∧ NoNaN32 (FP.fdiv (FP.fmul b (FP.i2f dl)) (FP.i2f pp)) ∧ NoNaN32 (FP.fadd (FP.fsub FP.fconst1 b) (FP.fdiv (FP.fmul b (FP.i2f dl)) (FP.i2f pp))) ∧ NoNaN32 (own_norm k1 b dl (FP.i2f pp)) ∧ (cmpValue (FP.fcmp (own_norm k1 b dl (FP.i2f pp)) (FP.fdiv (FP.i2f nu) (FP.i2f de))) .l).toInt = 0 := by
  have p1 : ((2 ^ j : Nat) : Int) ≤ 128 := by
    have : 2 ^ j ≤ 2 ^ 7 := Nat.pow_le_pow_right (by decide) hj
    omega
  have p0 : 0 ≤ ((2 ^ j : Nat) : Int) := Int.natCast_nonneg _
  have ha : HV (FP.i2f pp) ((2 ^ j : Nat) : Int) 0 := by
    have := HV.i2f (a := pp) (by omega)
    rwa [hp] at this
  have pt := parts hk hb K0 K1 B0 B1 d0 d1 j hj ha
  have m1 := mulb (a := bq.toInt) (b := dl.toInt) (A := 7) (B := 65535) B0 B1 (by omega) d1
  have m2 := mulb (a := ((2 ^ j : Nat) : Int)) (b := 4 - bq.toInt) (A := 128) (B := 4) p0 p1 (by omega) (by omega)
  rw [Int.mul_comm ((2 ^ j : Nat) : Int) (4 - bq.toInt)] at m2
  have m3 := mulb (a := kq.toInt) (b := (4 - bq.toInt) * ((2 ^ j : Nat) : Int) + bq.toInt * dl.toInt) (A := 15) (B := 459257) K0 K1 (by omega) (by omega)
  rw [hp] at hn hd
  have hden : HV (FP.i2f de) ((2 ^ (4 + j) : Nat) : Int) 0 := by
    have := HV.i2f (a := de) (by omega)
    rw [hd] at this
    rw [Nat.pow_add, Int.natCast_mul]
    exact this
  have he := HV.divp (4 + j) (HV.i2f (a := nu) (by omega)) hden (by omega) (by omega) (by omega)
  rw [hn, show (0 : Int) - ((4 + j : Nat) : Int) = -2 + (-2 - (j : Int)) by omega] at he
  exact ⟨hv_no he, hv_no pt.1, hv_no pt.2.1, hv_no pt.2.2.1, hv_no pt.2.2.2.1, hv_no pt.2.2.2.2, own_cmp pt.2.2.2.2 he⟩
theorem pd_0 : parseMethodDescriptor "(FFIF)F" = some ⟨[.float, .float, .int, .float], some .float⟩ := by decide +kernel
theorem pn1 : plainFor (⟨"com/example/best_plus_rest/bestplusrest/scoring/Bm25Model", "norm", "(FFIF)F"⟩ : MethodName) = true := by first | exact plainFor_of_name (by first | (simp [plainName, overriddenIn]; done) | decide +kernel) | exact Jvm.Free.JP.mathPlain rfl (by decide +kernel) | decide +kernel
theorem d1_0 : decode prog_13_method_7_code 0 = .ok (.fload_n 0, 1) := by decide +kernel
theorem d1_1 : decode prog_13_method_7_code 1 = .ok (.fconst 1, 1) := by decide +kernel
theorem d1_2 : decode prog_13_method_7_code 2 = .ok (.fload_n 1, 1) := by decide +kernel
theorem d1_3 : decode prog_13_method_7_code 3 = .ok (.fsub, 1) := by decide +kernel
theorem d1_4 : decode prog_13_method_7_code 4 = .ok (.fload_n 1, 1) := by decide +kernel
theorem d1_5 : decode prog_13_method_7_code 5 = .ok (.iload_n 2, 1) := by decide +kernel
theorem d1_6 : decode prog_13_method_7_code 6 = .ok (.i2f, 1) := by decide +kernel
theorem d1_7 : decode prog_13_method_7_code 7 = .ok (.fmul, 1) := by decide +kernel
theorem d1_8 : decode prog_13_method_7_code 8 = .ok (.fload_n 3, 1) := by decide +kernel
theorem d1_9 : decode prog_13_method_7_code 9 = .ok (.fdiv, 1) := by decide +kernel
theorem d1_10 : decode prog_13_method_7_code 10 = .ok (.fadd, 1) := by decide +kernel
theorem d1_11 : decode prog_13_method_7_code 11 = .ok (.fmul, 1) := by decide +kernel
theorem d1_12 : decode prog_13_method_7_code 12 = .ok (.freturn, 1) := by decide +kernel
abbrev y1 : MethodName := (⟨"com/example/best_plus_rest/bestplusrest/scoring/Bm25Model", "norm", "(FFIF)F"⟩ : MethodName)
abbrev R1 : Room := { frames := 0, cells := 0, slots := 0, locals := 0 }
set_option maxRecDepth 65536 in
set_option maxHeartbeats 4000000 in
theorem ef1 (k1 : UInt32) (b : UInt32) (dl : Int32) (av : UInt32)  (mid : MethodId) : entryFrame mid #[(.float k1), (.float b), (.int dl), (.float av)] 4 = mkF mid 0 #[.val (.float k1), .val (.float b), .val (.int dl), .val (.float av)] [] := by first | (simp [entryFrame, mkF, argsToLocals, Value.category]; done) | rfl
set_option maxRecDepth 65536 in
set_option maxHeartbeats 40000000 in
theorem rm1 (l : Launch) (Z : State) (a0 : Array Value) (hw : ∀ d ∈ tables_1, d.before a0 Z = true) (n0 : Nat) (ws : List Jvm.Cond) (k1 : UInt32) (b : UInt32) (dl : Int32) (av : UInt32)  (h0 : Heap) (hn0 : n0 ≤ h0.size) (e0 : NoNaN32 (FP.fsub FP.fconst1 b)) (e1 : NoNaN32 (FP.fmul b (FP.i2f dl))) (e2 : NoNaN32 (FP.fdiv (FP.fmul b (FP.i2f dl)) av)) (e3 : NoNaN32 (FP.fadd (FP.fsub FP.fconst1 b) (FP.fdiv (FP.fmul b (FP.i2f dl)) av))) (e4 : NoNaN32 (FP.fmul k1 (FP.fadd (FP.fsub FP.fconst1 b) (FP.fdiv (FP.fmul b (FP.i2f dl)) av)))) :
    Ctr l Z n0 y1 prog_13_method_7_code 4 (some .float) ws R1 #[(.float k1), (.float b), (.int dl), (.float av)] h0 (QF fun r h => (h0 = h) ∧ (r = own_norm k1 b dl av)) := by
  refine ctr_of pn1 hn0 (ef1 k1 b dl av) fun G A0 => ?_
  have A1 := A0.floadN (v := k1) (pc' := 1) d1_0 rfl rfl
  have A2 := A1.fconst1 (pc' := 2) d1_1 rfl
  have A3 := A2.floadN (v := b) (pc' := 3) d1_2 rfl rfl
  have A4 := A3.fsub (pc' := 4) d1_3 (by assumption) rfl
  have A5 := A4.floadN (v := b) (pc' := 5) d1_4 rfl rfl
  have A6 := A5.iloadN (v := dl) (pc' := 6) d1_5 rfl rfl
  have A7 := A6.i2f (pc' := 7) d1_6 rfl
  have A8 := A7.fmul (pc' := 8) d1_7 (by assumption) rfl
  have A9 := A8.floadN (v := av) (pc' := 9) d1_8 rfl rfl
  have A10 := A9.fdiv (pc' := 10) d1_9 (by assumption) rfl
  have A11 := A10.fadd (pc' := 11) d1_10 (by assumption) rfl
  have A12 := A11.fmul (pc' := 12) d1_11 (by assumption) rfl
  refine A12.retF d1_12 (by decide) (by decide) ⟨_, rfl, ⟨rfl, ?_⟩⟩
  rfl
theorem pn0 : plainFor x = true := plainFor_of_name (by first | (simp [plainName, overriddenIn, x]; done) | decide +kernel)
abbrev y0 : MethodName := x
abbrev R0 : Room := room_1
set_option maxRecDepth 65536 in
set_option maxHeartbeats 4000000 in
theorem ef0 (x0 : Int32) (x1 : Int32) (x2 : Int32) (x3 : Int32) (x4 : Int32)  (mid : MethodId) : entryFrame mid #[(.int x0), (.int x1), (.int x2), (.int x3), (.int x4)] maxLocals = mkF mid 0 #[.val (.int x0), .val (.int x1), .val (.int x2), .val (.int x3), .val (.int x4), .unset, .unset, .unset, .unset, .unset, .unset, .unset, .unset, .unset, .unset, .unset] [] := by first | (simp [entryFrame, mkF, argsToLocals, Value.category, maxLocals]; done) | rfl
set_option maxRecDepth 65536 in
set_option maxHeartbeats 40000000 in
theorem rm0 (l : Launch) (Z : State) (a0 : Array Value) (hw : ∀ d ∈ tables_1, d.before a0 Z = true) (n0 : Nat) (ws : List Jvm.Cond) (x0 : Int32) (x1 : Int32) (x2 : Int32) (x3 : Int32) (x4 : Int32)  (h0 : Heap) (hn0 : n0 ≤ h0.size)  :
    Ctr l Z n0 y0 code maxLocals ret ws R0 #[(.int x0), (.int x1), (.int x2), (.int x3), (.int x4)] h0 (QI fun r h => (True) ∧ (r = 1)) := by
  refine ctr_of pn0 hn0 (ef0 x0 x1 x2 x3 x4) fun G A0 => ?_
  have A1 := A0.iloadN (v := x0) (pc' := 1) at_0 rfl rfl
  have A2 := A1.bipush (z := (15 : Int32)) (pc' := 3) at_1 rfl rfl
  have A3 := A2.iand (pc' := 4) at_3 rfl
  have A4 := A3.istore (Ls' := #[.val (.int x0), .val (.int x1), .val (.int x2), .val (.int x3), .val (.int x4), .val (.int (x0 &&& (15 : Int32))), .unset, .unset, .unset, .unset, .unset, .unset, .unset, .unset, .unset, .unset]) (pc' := 6) at_4 rfl rfl
  obtain ⟨kq, e_kq⟩ : ∃ z : Int32, z = (x0 &&& (15 : Int32)) := ⟨_, rfl⟩
  have A5 := A4.cast (Ls' := #[.val (.int x0), .val (.int x1), .val (.int x2), .val (.int x3), .val (.int x4), .val (.int kq), .unset, .unset, .unset, .unset, .unset, .unset, .unset, .unset, .unset, .unset]) rfl (by rw [e_kq]) rfl
  have m_kq : kq.toInt = x0.toInt % 16 := by rw [e_kq]; exact c_mask x0 15 4 (by decide) (by decide)
  have A6 := A5.iloadN (v := x1) (pc' := 7) at_6 rfl rfl
  have A7 := A6.bipush (z := (7 : Int32)) (pc' := 9) at_7 rfl rfl
  have A8 := A7.iand (pc' := 10) at_9 rfl
  have A9 := A8.istore (Ls' := #[.val (.int x0), .val (.int x1), .val (.int x2), .val (.int x3), .val (.int x4), .val (.int kq), .val (.int (x1 &&& (7 : Int32))), .unset, .unset, .unset, .unset, .unset, .unset, .unset, .unset, .unset]) (pc' := 12) at_10 rfl rfl
  obtain ⟨bq, e_bq⟩ : ∃ z : Int32, z = (x1 &&& (7 : Int32)) := ⟨_, rfl⟩
  have A10 := A9.cast (Ls' := #[.val (.int x0), .val (.int x1), .val (.int x2), .val (.int x3), .val (.int x4), .val (.int kq), .val (.int bq), .unset, .unset, .unset, .unset, .unset, .unset, .unset, .unset, .unset]) rfl (by rw [e_bq]) rfl
  have m_bq : bq.toInt = x1.toInt % 8 := by rw [e_bq]; exact c_mask x1 7 3 (by decide) (by decide)
  have A11 := A10.iloadN (v := x2) (pc' := 13) at_12 rfl rfl
  have A12 := A11.ldc (z := (65535 : Int32)) (pc' := 15) at_13 (hw _ (List.mem_of_getElem? (i := 0) rfl)) rfl
  have A13 := A12.iand (pc' := 16) at_15 rfl
  have A14 := A13.istore (Ls' := #[.val (.int x0), .val (.int x1), .val (.int x2), .val (.int x3), .val (.int x4), .val (.int kq), .val (.int bq), .val (.int (x2 &&& (65535 : Int32))), .unset, .unset, .unset, .unset, .unset, .unset, .unset, .unset]) (pc' := 18) at_16 rfl rfl
  obtain ⟨dl, e_dl⟩ : ∃ z : Int32, z = (x2 &&& (65535 : Int32)) := ⟨_, rfl⟩
  have A15 := A14.cast (Ls' := #[.val (.int x0), .val (.int x1), .val (.int x2), .val (.int x3), .val (.int x4), .val (.int kq), .val (.int bq), .val (.int dl), .unset, .unset, .unset, .unset, .unset, .unset, .unset, .unset]) rfl (by rw [e_dl]) rfl
  have m_dl : dl.toInt = x2.toInt % 65536 := by rw [e_dl]; exact c_mask x2 65535 16 (by decide) (by decide)
  have A16 := A15.iloadN (v := x3) (pc' := 19) at_18 rfl rfl
  have A17 := A16.bipush (z := (7 : Int32)) (pc' := 21) at_19 rfl rfl
  have A18 := A17.iand (pc' := 22) at_21 rfl
  have A19 := A18.istore (Ls' := #[.val (.int x0), .val (.int x1), .val (.int x2), .val (.int x3), .val (.int x4), .val (.int kq), .val (.int bq), .val (.int dl), .val (.int (x3 &&& (7 : Int32))), .unset, .unset, .unset, .unset, .unset, .unset, .unset]) (pc' := 24) at_22 rfl rfl
  obtain ⟨ee, e_ee⟩ : ∃ z : Int32, z = (x3 &&& (7 : Int32)) := ⟨_, rfl⟩
  have A20 := A19.cast (Ls' := #[.val (.int x0), .val (.int x1), .val (.int x2), .val (.int x3), .val (.int x4), .val (.int kq), .val (.int bq), .val (.int dl), .val (.int ee), .unset, .unset, .unset, .unset, .unset, .unset, .unset]) rfl (by rw [e_ee]) rfl
  have m_ee : ee.toInt = x3.toInt % 8 := by rw [e_ee]; exact c_mask x3 7 3 (by decide) (by decide)
  have A21 := A20.iconst (z := (1 : Int32)) (pc' := 25) at_24 rfl rfl
  have A22 := A21.iload (v := ee) (pc' := 27) at_25 rfl rfl
  have A23 := A22.ishl (pc' := 28) at_27 rfl
  have A24 := A23.istore (Ls' := #[.val (.int x0), .val (.int x1), .val (.int x2), .val (.int x3), .val (.int x4), .val (.int kq), .val (.int bq), .val (.int dl), .val (.int ee), .val (.int ((1 : Int32) <<< (ee &&& 31))), .unset, .unset, .unset, .unset, .unset, .unset]) (pc' := 30) at_28 rfl rfl
  obtain ⟨pp, e_pp⟩ : ∃ z : Int32, z = ((1 : Int32) <<< (ee &&& 31)) := ⟨_, rfl⟩
  have A25 := A24.cast (Ls' := #[.val (.int x0), .val (.int x1), .val (.int x2), .val (.int x3), .val (.int x4), .val (.int kq), .val (.int bq), .val (.int dl), .val (.int ee), .val (.int pp), .unset, .unset, .unset, .unset, .unset, .unset]) rfl (by rw [e_pp]) rfl
  obtain ⟨j, hj, hp0⟩ := own_pow ee (by omega) (by omega)
  have hp : pp.toInt = ((2 ^ j : Nat) : Int) := by rw [e_pp]; exact hp0
  have A26 := A25.iload (v := kq) (pc' := 32) at_30 rfl rfl
  have A27 := A26.i2f (pc' := 33) at_32 rfl
  have A28 := A27.ldcF (z := (1082130432 : UInt32)) (pc' := 35) at_33 (hw _ (List.mem_of_getElem? (i := 1) rfl)) rfl
  have q35 : HV (FP.fdiv (FP.i2f kq) (1082130432 : UInt32)) kq.toInt (-2) := HV.quarter (by omega) (by omega)
  have n35 := hv_no q35
  have A29 := A28.fdiv (pc' := 36) at_35 (by assumption) rfl
  have A30 := A29.fstore (Ls' := #[.val (.int x0), .val (.int x1), .val (.int x2), .val (.int x3), .val (.int x4), .val (.int kq), .val (.int bq), .val (.int dl), .val (.int ee), .val (.int pp), .val (.float (FP.fdiv (FP.i2f kq) (1082130432 : UInt32))), .unset, .unset, .unset, .unset, .unset]) (pc' := 38) at_36 rfl rfl
  obtain ⟨k1, e_k1⟩ : ∃ z : UInt32, z = (FP.fdiv (FP.i2f kq) (1082130432 : UInt32)) := ⟨_, rfl⟩
  have A31 := A30.cast (Ls' := #[.val (.int x0), .val (.int x1), .val (.int x2), .val (.int x3), .val (.int x4), .val (.int kq), .val (.int bq), .val (.int dl), .val (.int ee), .val (.int pp), .val (.float k1), .unset, .unset, .unset, .unset, .unset]) rfl (by rw [e_k1]) rfl
  have hk1 : HV k1 kq.toInt (-2) := by rw [e_k1]; exact q35
  have A32 := A31.iload (v := bq) (pc' := 40) at_38 rfl rfl
  have A33 := A32.i2f (pc' := 41) at_40 rfl
  have A34 := A33.ldcF (z := (1082130432 : UInt32)) (pc' := 43) at_41 (hw _ (List.mem_of_getElem? (i := 1) rfl)) rfl
  have q43 : HV (FP.fdiv (FP.i2f bq) (1082130432 : UInt32)) bq.toInt (-2) := HV.quarter (by omega) (by omega)
  have n43 := hv_no q43
  have A35 := A34.fdiv (pc' := 44) at_43 (by assumption) rfl
  have A36 := A35.fstore (Ls' := #[.val (.int x0), .val (.int x1), .val (.int x2), .val (.int x3), .val (.int x4), .val (.int kq), .val (.int bq), .val (.int dl), .val (.int ee), .val (.int pp), .val (.float k1), .val (.float (FP.fdiv (FP.i2f bq) (1082130432 : UInt32))), .unset, .unset, .unset, .unset]) (pc' := 46) at_44 rfl rfl
  obtain ⟨b1, e_b1⟩ : ∃ z : UInt32, z = (FP.fdiv (FP.i2f bq) (1082130432 : UInt32)) := ⟨_, rfl⟩
  have A37 := A36.cast (Ls' := #[.val (.int x0), .val (.int x1), .val (.int x2), .val (.int x3), .val (.int x4), .val (.int kq), .val (.int bq), .val (.int dl), .val (.int ee), .val (.int pp), .val (.float k1), .val (.float b1), .unset, .unset, .unset, .unset]) rfl (by rw [e_b1]) rfl
  have hb1 : HV b1 bq.toInt (-2) := by rw [e_b1]; exact q43
  have A38 := A37.iload (v := x4) (pc' := 48) at_46 rfl rfl
  have A39 := A38.iconst (z := (1 : Int32)) (pc' := 49) at_48 rfl rfl
  have A40 := A39.iand (pc' := 50) at_49 rfl
  by_cases c41 : (x4 &&& (1 : Int32)).toInt = 0
  · have A42 := A40.ifYes (pc' := 86) at_50 (teq (ieq (x := (x4 &&& (1 : Int32))) (y := (0 : Int32)) rfl rfl c41)).1 (by decide) (by decide)
    have A43 := A42.iload (v := kq) (pc' := 88) at_86 rfl rfl
    have A44 := A43.iconst (z := (4 : Int32)) (pc' := 89) at_88 rfl rfl
    have A45 := A44.iload (v := bq) (pc' := 91) at_89 rfl rfl
    have A46 := A45.isub (pc' := 92) at_91 rfl
    have A47 := A46.iload (v := pp) (pc' := 94) at_92 rfl rfl
    have A48 := A47.imul (pc' := 95) at_94 rfl
    have A49 := A48.iload (v := bq) (pc' := 97) at_95 rfl rfl
    have A50 := A49.iload (v := dl) (pc' := 99) at_97 rfl rfl
    have A51 := A50.imul (pc' := 100) at_99 rfl
    have A52 := A51.iadd (pc' := 101) at_100 rfl
    have A53 := A52.imul (pc' := 102) at_101 rfl
    have A54 := A53.istore (Ls' := #[.val (.int x0), .val (.int x1), .val (.int x2), .val (.int x3), .val (.int x4), .val (.int kq), .val (.int bq), .val (.int dl), .val (.int ee), .val (.int pp), .val (.float k1), .val (.float b1), .val (.int (kq * ((((4 : Int32) - bq) * pp) + (bq * dl)))), .unset, .unset, .unset]) (pc' := 104) at_102 rfl rfl
    obtain ⟨nu, e_nu⟩ : ∃ z : Int32, z = (kq * ((((4 : Int32) - bq) * pp) + (bq * dl))) := ⟨_, rfl⟩
    have A55 := A54.cast (Ls' := #[.val (.int x0), .val (.int x1), .val (.int x2), .val (.int x3), .val (.int x4), .val (.int kq), .val (.int bq), .val (.int dl), .val (.int ee), .val (.int pp), .val (.float k1), .val (.float b1), .val (.int nu), .unset, .unset, .unset]) rfl (by rw [e_nu]) rfl
    have h_nu : nu.toInt = kq.toInt * ((4 - bq.toInt) * pp.toInt + bq.toInt * dl.toInt) := by rw [e_nu]; exact own_num (by omega) (by omega) (by omega) (by omega) (by omega) (by omega) j hj hp
    have A56 := A55.bipush (z := (16 : Int32)) (pc' := 106) at_104 rfl rfl
    have A57 := A56.iload (v := pp) (pc' := 108) at_106 rfl rfl
    have A58 := A57.imul (pc' := 109) at_108 rfl
    have A59 := A58.istore (Ls' := #[.val (.int x0), .val (.int x1), .val (.int x2), .val (.int x3), .val (.int x4), .val (.int kq), .val (.int bq), .val (.int dl), .val (.int ee), .val (.int pp), .val (.float k1), .val (.float b1), .val (.int nu), .val (.int ((16 : Int32) * pp)), .unset, .unset]) (pc' := 111) at_109 rfl rfl
    obtain ⟨de, e_de⟩ : ∃ z : Int32, z = ((16 : Int32) * pp) := ⟨_, rfl⟩
    have A60 := A59.cast (Ls' := #[.val (.int x0), .val (.int x1), .val (.int x2), .val (.int x3), .val (.int x4), .val (.int kq), .val (.int bq), .val (.int dl), .val (.int ee), .val (.int pp), .val (.float k1), .val (.float b1), .val (.int nu), .val (.int de), .unset, .unset]) rfl (by rw [e_de]) rfl
    have h_de : de.toInt = 16 * pp.toInt := by rw [e_de]; exact own_den j hj hp
    have A61 := A60.iload (v := nu) (pc' := 113) at_111 rfl rfl
    have A62 := A61.i2f (pc' := 114) at_113 rfl
    have A63 := A62.iload (v := de) (pc' := 116) at_114 rfl rfl
    have A64 := A63.i2f (pc' := 117) at_116 rfl
    have pB := own_B hk1 hb1 (by omega) (by omega) (by omega) (by omega) (dl := dl) (by omega) (by omega) j hj hp h_nu h_de
    have n117 := pB.1
    have A65 := A64.fdiv (pc' := 118) at_117 (by assumption) rfl
    have A66 := A65.fstore (Ls' := #[.val (.int x0), .val (.int x1), .val (.int x2), .val (.int x3), .val (.int x4), .val (.int kq), .val (.int bq), .val (.int dl), .val (.int ee), .val (.int pp), .val (.float k1), .val (.float b1), .val (.int nu), .val (.int de), .val (.float (FP.fdiv (FP.i2f nu) (FP.i2f de))), .unset]) (pc' := 120) at_118 rfl rfl
    obtain ⟨ex1, e_ex1⟩ : ∃ z : UInt32, z = (FP.fdiv (FP.i2f nu) (FP.i2f de)) := ⟨_, rfl⟩
    have A67 := A66.cast (Ls' := #[.val (.int x0), .val (.int x1), .val (.int x2), .val (.int x3), .val (.int x4), .val (.int kq), .val (.int bq), .val (.int dl), .val (.int ee), .val (.int pp), .val (.float k1), .val (.float b1), .val (.int nu), .val (.int de), .val (.float ex1), .unset]) rfl (by rw [e_ex1]) rfl
    have a1 := pB.2.1
    have a2 := pB.2.2.1
    have a3 := pB.2.2.2.1
    have a4 := pB.2.2.2.2.1
    have a5 : NoNaN32 (FP.fmul k1 (FP.fadd (FP.fsub FP.fconst1 b1) (FP.fdiv (FP.fmul b1 (FP.i2f dl)) (FP.i2f pp)))) := pB.2.2.2.2.2.1
    have A68 := A67.fload (v := k1) (pc' := 122) at_120 rfl rfl
    have A69 := A68.fload (v := b1) (pc' := 124) at_122 rfl rfl
    have A70 := A69.iload (v := dl) (pc' := 126) at_124 rfl rfl
    have A71 := A70.iload (v := pp) (pc' := 128) at_126 rfl rfl
    have A72 := A71.i2f (pc' := 129) at_128 rfl
    obtain ⟨r74, _, ⟨rfl, q75⟩, A73⟩ := W.kF (A72.callS (argsL := [(.float k1), (.float b1), (.int dl), (.float (FP.i2f pp))]) (rest := []) (C' := 0) (S' := 0) (pc' := 132) at_129 (hw _ (List.mem_of_getElem? (i := 2) rfl)) (hw _ (List.mem_of_getElem? (i := 3) rfl)) (hw _ (List.mem_of_getElem? (i := 4) rfl)) (hw _ (List.mem_of_getElem? (i := 5) rfl)) (rm1 l Z a0 hw n0 [] (k1) (b1) (dl) ((FP.i2f pp))  h0 A72.size (by assumption) (by assumption) (by assumption) (by assumption) (by assumption)) rfl rfl pd_0 rfl rfl (by decide) (by decide) (Nat.le_of_ble_eq_true rfl) (by decide) (by decide) rfl rfl rfl)
    have A77 := A73.fstore (Ls' := #[.val (.int x0), .val (.int x1), .val (.int x2), .val (.int x3), .val (.int x4), .val (.int kq), .val (.int bq), .val (.int dl), .val (.int ee), .val (.int pp), .val (.float k1), .val (.float b1), .val (.int nu), .val (.int de), .val (.float ex1), .val (.float r74)]) (pc' := 134) at_132 rfl rfl
    have A78 := A77.fload (v := r74) (pc' := 136) at_134 rfl rfl
    have A79 := A78.fload (v := ex1) (pc' := 138) at_136 rfl rfl
    have cB : (cmpValue (FP.fcmp r74 ex1) .l).toInt = 0 := by rw [q75, e_ex1]; exact pB.2.2.2.2.2.2
    have A80 := A79.fcmp (pc' := 139) at_138 rfl
    by_cases c81 : (cmpValue (FP.fcmp r74 ex1) .l).toInt = 0
    · have A82 := A80.ifNo (pc' := 142) at_139 (teq (ieq (x := (cmpValue (FP.fcmp r74 ex1) .l)) (y := (0 : Int32)) rfl rfl c81)).2 rfl
      have A83 := A82.iconst (z := (1 : Int32)) (pc' := 143) at_142 rfl rfl
      have A84 := A83.goto (pc' := 147) at_143 (by decide) (by decide)
      refine A84.retN (t := .boolean) (z' := (1 : Int32)) at_147 (by decide) (by decide) (by simp) rfl ⟨_, rfl, ⟨trivial, ?_⟩⟩
      have elit : (1 : Int32).toInt = 1 := rfl
      rfl
    · have A85 := A80.ifYes (pc' := 146) at_139 (feq (ine (x := (cmpValue (FP.fcmp r74 ex1) .l)) (y := (0 : Int32)) rfl rfl c81)).2 (by decide) (by decide)
      have A86 := A85.iconst (z := (0 : Int32)) (pc' := 147) at_146 rfl rfl
      refine A86.retN (t := .boolean) (z' := (0 : Int32)) at_147 (by decide) (by decide) (by simp) rfl ⟨_, rfl, ⟨trivial, ?_⟩⟩
      have elit : (0 : Int32).toInt = 0 := rfl
      exfalso
      omega
  · have A87 := A40.ifNo (pc' := 53) at_50 (feq (ine (x := (x4 &&& (1 : Int32))) (y := (0 : Int32)) rfl rfl c41)).1 rfl
    have A88 := A87.iload (v := dl) (pc' := 55) at_53 rfl rfl
    by_cases c89 : 0 < dl.toInt
    · have A90 := A88.ifNo (pc' := 58) at_55 (tlt (igt (x := dl) (y := (0 : Int32)) rfl rfl c89)).2.2.2 rfl
      have pA := parts1 hk1 hb1 (by omega) (by omega) (by omega) (by omega) (dl := dl) (by omega) (by omega)
      have a1 := hv_no pA.1
      have a2 := hv_no pA.2.1
      have a3 := hv_no pA.2.2.1
      have a4 := hv_no pA.2.2.2.1
      have a5 : NoNaN32 (FP.fmul k1 (FP.fadd (FP.fsub FP.fconst1 b1) (FP.fdiv (FP.fmul b1 (FP.i2f dl)) (FP.i2f dl)))) := hv_no pA.2.2.2.2
      have A91 := A90.fload (v := k1) (pc' := 60) at_58 rfl rfl
      have A92 := A91.fload (v := b1) (pc' := 62) at_60 rfl rfl
      have A93 := A92.iload (v := dl) (pc' := 64) at_62 rfl rfl
      have A94 := A93.iload (v := dl) (pc' := 66) at_64 rfl rfl
      have A95 := A94.i2f (pc' := 67) at_66 rfl
      obtain ⟨r97, _, ⟨rfl, q98⟩, A96⟩ := W.kF (A95.callS (argsL := [(.float k1), (.float b1), (.int dl), (.float (FP.i2f dl))]) (rest := []) (C' := 0) (S' := 0) (pc' := 70) at_67 (hw _ (List.mem_of_getElem? (i := 2) rfl)) (hw _ (List.mem_of_getElem? (i := 3) rfl)) (hw _ (List.mem_of_getElem? (i := 4) rfl)) (hw _ (List.mem_of_getElem? (i := 5) rfl)) (rm1 l Z a0 hw n0 [] (k1) (b1) (dl) ((FP.i2f dl))  h0 A95.size (by assumption) (by assumption) (by assumption) (by assumption) (by assumption)) rfl rfl pd_0 rfl rfl (by decide) (by decide) (Nat.le_of_ble_eq_true rfl) (by decide) (by decide) rfl rfl rfl)
      have A100 := A96.fstore (Ls' := #[.val (.int x0), .val (.int x1), .val (.int x2), .val (.int x3), .val (.int x4), .val (.int kq), .val (.int bq), .val (.int dl), .val (.int ee), .val (.int pp), .val (.float k1), .val (.float b1), .val (.float r97), .unset, .unset, .unset]) (pc' := 72) at_70 rfl rfl
      have A101 := A100.fload (v := r97) (pc' := 74) at_72 rfl rfl
      have A102 := A101.fload (v := k1) (pc' := 76) at_74 rfl rfl
      have cA : (cmpValue (FP.fcmp r97 k1) .l).toInt = 0 := by rw [q98]; exact own_cmp pA.2.2.2.2 (hk1.scale 2 (by decide))
      have A103 := A102.fcmp (pc' := 77) at_76 rfl
      by_cases c104 : (cmpValue (FP.fcmp r97 k1) .l).toInt = 0
      · have A105 := A103.ifNo (pc' := 80) at_77 (teq (ieq (x := (cmpValue (FP.fcmp r97 k1) .l)) (y := (0 : Int32)) rfl rfl c104)).2 rfl
        have A106 := A105.iconst (z := (1 : Int32)) (pc' := 81) at_80 rfl rfl
        have A107 := A106.goto (pc' := 85) at_81 (by decide) (by decide)
        refine A107.retN (t := .boolean) (z' := (1 : Int32)) at_85 (by decide) (by decide) (by simp) rfl ⟨_, rfl, ⟨trivial, ?_⟩⟩
        have elit : (1 : Int32).toInt = 1 := rfl
        rfl
      · have A108 := A103.ifYes (pc' := 84) at_77 (feq (ine (x := (cmpValue (FP.fcmp r97 k1) .l)) (y := (0 : Int32)) rfl rfl c104)).2 (by decide) (by decide)
        have A109 := A108.iconst (z := (0 : Int32)) (pc' := 85) at_84 rfl rfl
        refine A109.retN (t := .boolean) (z' := (0 : Int32)) at_85 (by decide) (by decide) (by simp) rfl ⟨_, rfl, ⟨trivial, ?_⟩⟩
        have elit : (0 : Int32).toInt = 0 := rfl
        exfalso
        omega
    · have A110 := A88.ifYes (pc' := 86) at_55 (flt (ingt (x := dl) (y := (0 : Int32)) rfl rfl c89)).2.2.2 (by decide) (by decide)
      have A111 := A110.iload (v := kq) (pc' := 88) at_86 rfl rfl
      have A112 := A111.iconst (z := (4 : Int32)) (pc' := 89) at_88 rfl rfl
      have A113 := A112.iload (v := bq) (pc' := 91) at_89 rfl rfl
      have A114 := A113.isub (pc' := 92) at_91 rfl
      have A115 := A114.iload (v := pp) (pc' := 94) at_92 rfl rfl
      have A116 := A115.imul (pc' := 95) at_94 rfl
      have A117 := A116.iload (v := bq) (pc' := 97) at_95 rfl rfl
      have A118 := A117.iload (v := dl) (pc' := 99) at_97 rfl rfl
      have A119 := A118.imul (pc' := 100) at_99 rfl
      have A120 := A119.iadd (pc' := 101) at_100 rfl
      have A121 := A120.imul (pc' := 102) at_101 rfl
      have A122 := A121.istore (Ls' := #[.val (.int x0), .val (.int x1), .val (.int x2), .val (.int x3), .val (.int x4), .val (.int kq), .val (.int bq), .val (.int dl), .val (.int ee), .val (.int pp), .val (.float k1), .val (.float b1), .val (.int (kq * ((((4 : Int32) - bq) * pp) + (bq * dl)))), .unset, .unset, .unset]) (pc' := 104) at_102 rfl rfl
      obtain ⟨nu, e_nu⟩ : ∃ z : Int32, z = (kq * ((((4 : Int32) - bq) * pp) + (bq * dl))) := ⟨_, rfl⟩
      have A123 := A122.cast (Ls' := #[.val (.int x0), .val (.int x1), .val (.int x2), .val (.int x3), .val (.int x4), .val (.int kq), .val (.int bq), .val (.int dl), .val (.int ee), .val (.int pp), .val (.float k1), .val (.float b1), .val (.int nu), .unset, .unset, .unset]) rfl (by rw [e_nu]) rfl
      have h_nu : nu.toInt = kq.toInt * ((4 - bq.toInt) * pp.toInt + bq.toInt * dl.toInt) := by rw [e_nu]; exact own_num (by omega) (by omega) (by omega) (by omega) (by omega) (by omega) j hj hp
      have A124 := A123.bipush (z := (16 : Int32)) (pc' := 106) at_104 rfl rfl
      have A125 := A124.iload (v := pp) (pc' := 108) at_106 rfl rfl
      have A126 := A125.imul (pc' := 109) at_108 rfl
      have A127 := A126.istore (Ls' := #[.val (.int x0), .val (.int x1), .val (.int x2), .val (.int x3), .val (.int x4), .val (.int kq), .val (.int bq), .val (.int dl), .val (.int ee), .val (.int pp), .val (.float k1), .val (.float b1), .val (.int nu), .val (.int ((16 : Int32) * pp)), .unset, .unset]) (pc' := 111) at_109 rfl rfl
      obtain ⟨de, e_de⟩ : ∃ z : Int32, z = ((16 : Int32) * pp) := ⟨_, rfl⟩
      have A128 := A127.cast (Ls' := #[.val (.int x0), .val (.int x1), .val (.int x2), .val (.int x3), .val (.int x4), .val (.int kq), .val (.int bq), .val (.int dl), .val (.int ee), .val (.int pp), .val (.float k1), .val (.float b1), .val (.int nu), .val (.int de), .unset, .unset]) rfl (by rw [e_de]) rfl
      have h_de : de.toInt = 16 * pp.toInt := by rw [e_de]; exact own_den j hj hp
      have A129 := A128.iload (v := nu) (pc' := 113) at_111 rfl rfl
      have A130 := A129.i2f (pc' := 114) at_113 rfl
      have A131 := A130.iload (v := de) (pc' := 116) at_114 rfl rfl
      have A132 := A131.i2f (pc' := 117) at_116 rfl
      have pB := own_B hk1 hb1 (by omega) (by omega) (by omega) (by omega) (dl := dl) (by omega) (by omega) j hj hp h_nu h_de
      have n117 := pB.1
      have A133 := A132.fdiv (pc' := 118) at_117 (by assumption) rfl
      have A134 := A133.fstore (Ls' := #[.val (.int x0), .val (.int x1), .val (.int x2), .val (.int x3), .val (.int x4), .val (.int kq), .val (.int bq), .val (.int dl), .val (.int ee), .val (.int pp), .val (.float k1), .val (.float b1), .val (.int nu), .val (.int de), .val (.float (FP.fdiv (FP.i2f nu) (FP.i2f de))), .unset]) (pc' := 120) at_118 rfl rfl
      obtain ⟨ex1, e_ex1⟩ : ∃ z : UInt32, z = (FP.fdiv (FP.i2f nu) (FP.i2f de)) := ⟨_, rfl⟩
      have A135 := A134.cast (Ls' := #[.val (.int x0), .val (.int x1), .val (.int x2), .val (.int x3), .val (.int x4), .val (.int kq), .val (.int bq), .val (.int dl), .val (.int ee), .val (.int pp), .val (.float k1), .val (.float b1), .val (.int nu), .val (.int de), .val (.float ex1), .unset]) rfl (by rw [e_ex1]) rfl
      have a1 := pB.2.1
      have a2 := pB.2.2.1
      have a3 := pB.2.2.2.1
      have a4 := pB.2.2.2.2.1
      have a5 : NoNaN32 (FP.fmul k1 (FP.fadd (FP.fsub FP.fconst1 b1) (FP.fdiv (FP.fmul b1 (FP.i2f dl)) (FP.i2f pp)))) := pB.2.2.2.2.2.1
      have A136 := A135.fload (v := k1) (pc' := 122) at_120 rfl rfl
      have A137 := A136.fload (v := b1) (pc' := 124) at_122 rfl rfl
      have A138 := A137.iload (v := dl) (pc' := 126) at_124 rfl rfl
      have A139 := A138.iload (v := pp) (pc' := 128) at_126 rfl rfl
      have A140 := A139.i2f (pc' := 129) at_128 rfl
      obtain ⟨r142, _, ⟨rfl, q143⟩, A141⟩ := W.kF (A140.callS (argsL := [(.float k1), (.float b1), (.int dl), (.float (FP.i2f pp))]) (rest := []) (C' := 0) (S' := 0) (pc' := 132) at_129 (hw _ (List.mem_of_getElem? (i := 2) rfl)) (hw _ (List.mem_of_getElem? (i := 3) rfl)) (hw _ (List.mem_of_getElem? (i := 4) rfl)) (hw _ (List.mem_of_getElem? (i := 5) rfl)) (rm1 l Z a0 hw n0 [] (k1) (b1) (dl) ((FP.i2f pp))  h0 A140.size (by assumption) (by assumption) (by assumption) (by assumption) (by assumption)) rfl rfl pd_0 rfl rfl (by decide) (by decide) (Nat.le_of_ble_eq_true rfl) (by decide) (by decide) rfl rfl rfl)
      have A145 := A141.fstore (Ls' := #[.val (.int x0), .val (.int x1), .val (.int x2), .val (.int x3), .val (.int x4), .val (.int kq), .val (.int bq), .val (.int dl), .val (.int ee), .val (.int pp), .val (.float k1), .val (.float b1), .val (.int nu), .val (.int de), .val (.float ex1), .val (.float r142)]) (pc' := 134) at_132 rfl rfl
      have A146 := A145.fload (v := r142) (pc' := 136) at_134 rfl rfl
      have A147 := A146.fload (v := ex1) (pc' := 138) at_136 rfl rfl
      have cB : (cmpValue (FP.fcmp r142 ex1) .l).toInt = 0 := by rw [q143, e_ex1]; exact pB.2.2.2.2.2.2
      have A148 := A147.fcmp (pc' := 139) at_138 rfl
      by_cases c149 : (cmpValue (FP.fcmp r142 ex1) .l).toInt = 0
      · have A150 := A148.ifNo (pc' := 142) at_139 (teq (ieq (x := (cmpValue (FP.fcmp r142 ex1) .l)) (y := (0 : Int32)) rfl rfl c149)).2 rfl
        have A151 := A150.iconst (z := (1 : Int32)) (pc' := 143) at_142 rfl rfl
        have A152 := A151.goto (pc' := 147) at_143 (by decide) (by decide)
        refine A152.retN (t := .boolean) (z' := (1 : Int32)) at_147 (by decide) (by decide) (by simp) rfl ⟨_, rfl, ⟨trivial, ?_⟩⟩
        have elit : (1 : Int32).toInt = 1 := rfl
        rfl
      · have A153 := A148.ifYes (pc' := 146) at_139 (feq (ine (x := (cmpValue (FP.fcmp r142 ex1) .l)) (y := (0 : Int32)) rfl rfl c149)).2 (by decide) (by decide)
        have A154 := A153.iconst (z := (0 : Int32)) (pc' := 147) at_146 rfl rfl
        refine A154.retN (t := .boolean) (z' := (0 : Int32)) at_147 (by decide) (by decide) (by simp) rfl ⟨_, rfl, ⟨trivial, ?_⟩⟩
        have elit : (0 : Int32).toInt = 0 := rfl
        exfalso
        omega
set_option maxRecDepth 65536 in
set_option maxHeartbeats 40000000 in
theorem comes_1 {Post : Tables → Env → Array Value → State → Outcome → State → Prop} (hpost : ∀ tb e args s v u, (limb_1_1.after args s (.returned v) u = true ∧ limb_1_2.after args s (.returned v) u = true ∧ True) → FrameEnd s (.returned v) u (Jvm.fieldLocs frame_1_writes args s ++ Jvm.arrayLocs frame_1_arrays args s ++ Jvm.staticLocs frame_1_statics s) 0 0 → Post tb e args s (.returned v) u) :
    ArmFor flags0 classFile x code maxLocals ret World_1 tables_1 room_1 Calls_1 rest_1 Pre_1 Post := by
  intro l hfl _ _ p e ha hc hk s m args below hf hA hF happ hP
  obtain ⟨hcalls, hrest, hpre⟩ := hP
  obtain ⟨-, -, -, hnamed, -, -, -, hat⟩ := (Spec.applies_iff hf).mp happ
  obtain ⟨hg, hn⟩ := and_e (Cond.before_iff.mp (show (Jvm.Cond.and given_1 narrow_1).before args s = true from hpre))
  obtain ⟨g1a, g1b⟩ := and_e hg
  obtain ⟨g2a, g2b⟩ := and_e g1b
  obtain ⟨g3a, g3b⟩ := and_e g2b
  obtain ⟨g4a, g4b⟩ := and_e g3b
  obtain ⟨g5a, g5b⟩ := and_e g4b
  obtain ⟨w0, w1, w2, w3, w4, rfl⟩ : ∃ w0 w1 w2 w3 w4 : Value, args = #[w0, w1, w2, w3, w4] := by
    have hs : args.size = 5 := by simpa [Cond.value, given_1] using g1a
    obtain ⟨L⟩ := args
    match L, hs with
    | [w0, w1, w2, w3, w4], _ => exact ⟨w0, w1, w2, w3, w4, rfl⟩
  have hw := fun d (hd : d ∈ tables_1) => atoms_spec (ws := Jvm.Cond.code x code maxLocals ret :: tables_1) hat d (List.mem_cons_of_mem _ hd)
  obtain ⟨i0, ei0⟩ := is_v g2a
  obtain rfl : w0 = (.int i0) := Option.some.inj ei0
  obtain ⟨i1, ei1⟩ := is_v g3a
  obtain rfl : w1 = (.int i1) := Option.some.inj ei1
  obtain ⟨i2, ei2⟩ := is_v g4a
  obtain rfl : w2 = (.int i2) := Option.some.inj ei2
  obtain ⟨i3, ei3⟩ := is_v g5a
  obtain rfl : w3 = (.int i3) := Option.some.inj ei3
  obtain ⟨i4, ei4⟩ := is_v g5b
  obtain rfl : w4 = (.int i4) := Option.some.inj ei4
  obtain ⟨n, o, h1, h2, h3, _, L, rfl, ⟨N, ⟨r, rfl, hr⟩⟩, hq⟩ := rm0 l s _ hw s.heap.size tables_1 i0 i1 i2 i3 i4  s.heap (Nat.le_refl _)  p e ha hc hk s m _ below hf ((Spec.applies_iff_loose hf).mp happ).1 ⟨rfl, State.Warmed39.refl s, rfl⟩ trivial
  have hr1 : r = 1 := hr.2
  subst hr1
  refine ⟨n, _, h1, h2, h3, hpost _ _ _ _ _ _ ⟨Cond.after_iff.mpr rfl, Cond.after_iff.mpr (eq_i res_at (Term.int_eval (1)) rfl), trivial⟩ ⟨hq.1, hq.2.1, (hq.2.2.sift fun y hy => Or.inr (N y hy)).mono (by decide) (by decide)⟩⟩
theorem main_1_1 : Claimed_1_1 := comes_1 fun _ _ _ _ _ _ h hF => ⟨h.1, hF⟩
theorem main_1_2 : Claimed_1_2 := comes_1 fun _ _ _ _ _ _ h hF => ⟨h.2.1, hF⟩
end Jvm.Pilot.@@N@@
namespace Jvm.Pilot.@@N@@
open Jvm Jvm.ClassFile Sem Op Lib Jvm.Free Jvm.Stand Jvm.Pilot.@@N@@.Jvm.D
/-! MADE BY PROGRAM (witnessworld.py) out of the Statement's table words and the real class files: 9 classes; the members and pool entries that the words name. The judged class is class 1, her method 1. -/
namespace start1
open Jvm.ClassFile
def u (s : String) : CpInfo := .utf8 (stringToUtf16 s)
/-- a pool by its gaps: so many unusable entries, then the entry; so many at the end -/
def gap : Nat → List CpInfo → List CpInfo
  | 0, r => r
  | n + 1, r => .unusable :: gap n r
def poolList (es : List (Nat × CpInfo)) (last : Nat) : List CpInfo := es.foldr (fun e r => gap e.1 (e.2 :: r)) (gap last [])
def pool (es : List (Nat × CpInfo)) (last : Nat) : Array CpInfo := ⟨poolList es last⟩
def fileOf (pool : Array CpInfo) (this : Nat) (attrs : Array Attribute := #[]) (ms : Array MethodInfo := #[]) (fl : Nat := 33) (sup : Nat := 0) (ifs : Array Nat := #[]) (fds : Array FieldInfo := #[]) : ClassFile where
  minorVersion := 0
  majorVersion := 65
  constantPool := pool
  accessFlags := fl
  thisClass := this
  superClass := sup
  interfaces := ifs
  fields := fds
  methods := ms
  attributes := attrs
def plain (name : String) (sup : Option ClassId) : Class where
  name := name
  kind := .ordinary
  loader := none
  accessFlags := 33
  super := sup
  interfaces := #[]
  cf := none
  fields := #[]
  methods := #[]
  instanceTypes := #[]
  staticTypes := #[]
  resolved := #[]
  callSites := []
  init := .initialized
  statics := none
  mirror := none

def pool0 : Array CpInfo := pool [(5, u "<init>"), (0, u "()V"), (1, .class_ 10), (1, u "java/lang/Object")] 113

def k0m0 : Method := { name := "<init>", desc := "()V", sig := { parameters := [], returnType := none }, accessFlags := 1, code := none }
/-- java/lang/Object -/
def k0 : Class := { plain "java/lang/Object" none with
  accessFlags := 33
  interfaces := #[]
  cf := some (fileOf pool0 8 #[] #[{ accessFlags := 1, nameIndex := 5, descriptorIndex := 6, attributes := #[] }] 33 0 #[] #[])
  fields := #[]
  methods := #[k0m0]
  instanceTypes := #[]
  staticTypes := #[]
  resolved := Array.replicate 124 none
  statics := none }

def pool1 : Array CpInfo := pool [(2, .class_ 4), (1, u "java/lang/Object"), (0, u "<init>"), (0, u "()V"), (0, .integer 65535), (0, .float 1082130432), (0, .methodref 10 11), (0, .class_ 12), (0, .nameAndType 13 14), (0, u "com/example/best_plus_rest/bestplusrest/scoring/Bm25Model"), (0, u "norm"), (0, u "(FFIF)F"), (0, .class_ 16), (0, u "com/example/best_plus_rest/bestplusrest/scoring/Bm25ModelNormPinLaw"), (2, u "law"), (0, u "(IIIII)Z")] 3

def k1m0 : Method := { name := "<init>", desc := "()V", sig := { parameters := [], returnType := none }, accessFlags := 2, code := none }
def k1c1 : Code := { maxStack := 4, maxLocals := 16, code := code, exceptionTable := #[], attributes := #[] }
def k1m1 : Method := { name := "law", desc := "(IIIII)Z", sig := { parameters := [.int, .int, .int, .int, .int], returnType := some .boolean }, accessFlags := 9, code := some k1c1 }
/-- com/example/best_plus_rest/bestplusrest/scoring/Bm25ModelNormPinLaw -/
def k1 : Class := { plain "com/example/best_plus_rest/bestplusrest/scoring/Bm25ModelNormPinLaw" (some 0) with
  accessFlags := 49
  interfaces := #[]
  cf := some (fileOf pool1 15 #[] #[{ accessFlags := 2, nameIndex := 5, descriptorIndex := 6, attributes := #[] }, { accessFlags := 9, nameIndex := 19, descriptorIndex := 20, attributes := #[] }] 49 2 #[] #[])
  fields := #[]
  methods := #[k1m0, k1m1]
  instanceTypes := #[]
  staticTypes := #[]
  resolved := Array.replicate 24 none
  statics := none }

def pool2 : Array CpInfo := pool [(1, .class_ 2), (0, u "com/example/best_plus_rest/bestplusrest/scoring/Bm25Model"), (1, .class_ 6), (1, u "java/lang/Object"), (0, u "<init>"), (0, u "()V"), (20, u "LENGTH_CODES"), (0, u "I"), (2, u "EXACT_LENGTHS"), (1, u "KEPT_DIGITS"), (1, u "FIRST_ROUNDED"), (1, u "EXACT_CODES"), (1, u "CODES_PER_DIGIT_COUNT"), (9, u "norm"), (0, u "(FFIF)F")] 6

def k2m0 : Method := { name := "<init>", desc := "()V", sig := { parameters := [], returnType := none }, accessFlags := 2, code := none }
def k2c1 : Code := { maxStack := 4, maxLocals := 4, code := prog_13_method_7_code, exceptionTable := #[], attributes := #[] }
def k2m1 : Method := { name := "norm", desc := "(FFIF)F", sig := { parameters := [.float, .float, .int, .float], returnType := some .float }, accessFlags := 9, code := some k2c1 }
/-- com/example/best_plus_rest/bestplusrest/scoring/Bm25Model -/
def k2 : Class := { plain "com/example/best_plus_rest/bestplusrest/scoring/Bm25Model" (some 0) with
  accessFlags := 33
  interfaces := #[]
  cf := some (fileOf pool2 1 #[] #[{ accessFlags := 2, nameIndex := 7, descriptorIndex := 8, attributes := #[] }, { accessFlags := 9, nameIndex := 51, descriptorIndex := 52, attributes := #[] }] 33 4 #[] #[{ accessFlags := 25, nameIndex := 29, descriptorIndex := 30, attributes := #[] }, { accessFlags := 26, nameIndex := 33, descriptorIndex := 30, attributes := #[] }, { accessFlags := 26, nameIndex := 35, descriptorIndex := 30, attributes := #[] }, { accessFlags := 26, nameIndex := 37, descriptorIndex := 30, attributes := #[] }, { accessFlags := 26, nameIndex := 39, descriptorIndex := 30, attributes := #[] }, { accessFlags := 26, nameIndex := 41, descriptorIndex := 30, attributes := #[] }])
  fields := #[{ name := "LENGTH_CODES", type := .int, accessFlags := 25, slot := 0, constantValue := 0 }, { name := "EXACT_LENGTHS", type := .int, accessFlags := 26, slot := 1, constantValue := 0 }, { name := "KEPT_DIGITS", type := .int, accessFlags := 26, slot := 2, constantValue := 0 }, { name := "FIRST_ROUNDED", type := .int, accessFlags := 26, slot := 3, constantValue := 0 }, { name := "EXACT_CODES", type := .int, accessFlags := 26, slot := 4, constantValue := 0 }, { name := "CODES_PER_DIGIT_COUNT", type := .int, accessFlags := 26, slot := 5, constantValue := 0 }]
  methods := #[k2m0, k2m1]
  instanceTypes := #[]
  staticTypes := #[.int, .int, .int, .int, .int, .int]
  resolved := Array.replicate 59 none
  statics := none }

def pool3 : Array CpInfo := pool [(1, u "java/lang/Cloneable"), (0, .class_ 1), (0, u "java/lang/Object"), (0, .class_ 3)] 3

/-- java/lang/Cloneable -/
def k3 : Class := { plain "java/lang/Cloneable" (some 0) with
  accessFlags := 1537
  interfaces := #[]
  cf := some (fileOf pool3 2 #[] #[] 1537 4 #[] #[])
  fields := #[]
  methods := #[]
  instanceTypes := #[]
  staticTypes := #[]
  resolved := Array.replicate 8 none
  statics := none }

def pool4 : Array CpInfo := pool [(1, u "java/io/Serializable"), (0, .class_ 1), (0, u "java/lang/Object"), (0, .class_ 3)] 3

/-- java/io/Serializable -/
def k4 : Class := { plain "java/io/Serializable" (some 0) with
  accessFlags := 1537
  interfaces := #[]
  cf := some (fileOf pool4 2 #[] #[] 1537 4 #[] #[])
  fields := #[]
  methods := #[]
  instanceTypes := #[]
  staticTypes := #[]
  resolved := Array.replicate 8 none
  statics := none }

/-- the primitive byte -/
def k5 : Class := { plain "byte" none with kind := .primitive 'B', accessFlags := 0x411 }
/-- [B -/
def k6 : Class := { plain "[B" (some 0) with kind := .array 5 .byte, interfaces := #[3, 4], accessFlags := 1041 }

/-- the primitive int -/
def k7 : Class := { plain "int" none with kind := .primitive 'I', accessFlags := 0x411 }
/-- [I -/
def k8 : Class := { plain "[I" (some 0) with kind := .array 7 .int, interfaces := #[3, 4], accessFlags := 1041 }

def heap : Heap := #[]
def classes : Array Class := #[k0, k1, k2, k3, k4, k5, k6, k7, k8]
def interned : List (Array UInt16 × Addr) := []
def slotsUsed : Nat := 0
def theMethod : MethodId := ⟨1, 1⟩
def args0 : Array Value := #[.int 5, .int 3, .int 7, .int 2, .int 0]
def aboutOver (below : List Frame) : State where
  vm := { classes := classes, interned := interned.toArray }
  heap := heap
  slotsUsed := slotsUsed
  threads := #[{ frames := .invoking theMethod args0 :: below }]
def below0 : List Frame := [.native { method := ⟨0, 0⟩, args := #[] }]
def about1 : State := aboutOver below0
def p0 : Program := .bare "" "" ""
def e0 : Env := launch0.env 0 0 0
theorem w_frames : about1.frames = Frame.invoking theMethod args0 :: below0 := rfl
set_option maxRecDepth 65536 in
theorem w_args : argsFit about1.vm theMethod args0 = true := by decide +kernel
set_option maxRecDepth 65536 in
theorem w_heap : heapFits about1 = true := by decide +kernel
set_option maxRecDepth 65536 in
theorem w_runnable : about1.curStatus? = some .runnable := by decide +kernel
set_option maxRecDepth 65536 in
theorem w_alone : about1.alone = true := by decide +kernel
set_option maxRecDepth 65536 in
theorem w_named : about1.methodNamed? x = some theMethod := by decide +kernel
set_option maxRecDepth 65536 in
theorem w_hears : about1.hears theMethod below0 = true := by decide +kernel
set_option maxRecDepth 65536 in
theorem w_ripe : about1.ripe theMethod args0 below0 = true := by decide +kernel
theorem w_running : about1.status = .running := rfl
set_option maxRecDepth 65536 in
theorem w_room : about1.hasRoom e0.platform room_1 = true :=
  launch0.hasRoom_least _ room_1 (by decide +kernel) (by decide +kernel) (by decide +kernel) (by decide +kernel) (by decide +kernel) (by decide +kernel)
theorem allAtoms_all (ts : List Jvm.Cond) (a : Array Jvm.Value) (st : Jvm.State) : (allAtoms ts).before a st = ts.all (fun c => c.before a st) := by
  induction ts with
  | nil => rfl
  | cons c t ih =>
    show (Jvm.Cond.and c (allAtoms t)).before a st = _
    rw [Jvm.Cond.before_and, ih, List.all_cons]
def words1 : List Jvm.Cond := Jvm.Cond.code x code maxLocals ret :: tables_1
/-- a 'code' word, met by the world's own term for the bytes: nothing is compared byte by byte -/
theorem code_word {y : MethodName} {bytes : ByteArray} {mx : Nat} {rt : Option FieldType} {a : Array Value} {s : State} {m : MethodId} {meth : Method} {c : Code} (h1 : s.methodNamed? y = some m) (h2 : s.vm.method? m = some meth) (h3 : meth.code = some c) (h4 : c.code = bytes)
    (h5 : (c.maxLocals == mx && c.exceptionTable.isEmpty && decide (c.maxStack ≤ mostOperands) && decide (meth.sig.returnType = rt) && !meth.locks && decide (parseMethodDescriptor y.desc = some meth.sig)) = true) : (Jvm.Cond.code y bytes mx rt).before a s = true := by
  simp only [Bool.and_eq_true, beq_iff_eq, Bool.not_eq_true', decide_eq_true_eq] at h5
  obtain ⟨⟨⟨⟨⟨g1, g2⟩, g3⟩, g4⟩, g5⟩, g6⟩ := h5
  simp [Cond.before, Cond.holds, Cond.value, h1, h2, h3, h4, g1, g2, g3, g4, g5, g6]
def isCode : Jvm.Cond → Bool
  | .code _ _ _ _ => true
  | _ => false
theorem all_split {L : List Jvm.Cond} {P : Jvm.Cond → Bool} (h1 : L.all (fun c => isCode c || P c) = true) (h2 : ∀ c ∈ L.filter isCode, P c = true) : L.all P = true := by
  refine List.all_eq_true.mpr fun c hc => ?_
  have h := List.all_eq_true.mp h1 c hc
  rcases Bool.eq_false_or_eq_true (isCode c) with hi | hi
  · exact h2 c (List.mem_filter.mpr ⟨hc, hi⟩)
  · simpa [hi] using h
set_option maxRecDepth 65536 in
theorem w_c0 : (Jvm.Cond.code x code maxLocals ret).before args0 about1 = true := code_word (m := ⟨1, 1⟩) (meth := k1m1) (c := k1c1) (by decide +kernel) rfl rfl rfl (by decide +kernel)
set_option maxRecDepth 65536 in
theorem w_c1 : (Jvm.Cond.code ({ cls := "com/example/best_plus_rest/bestplusrest/scoring/Bm25Model", name := "norm", desc := "(FFIF)F" } : Jvm.MethodName) prog_13_method_7_code (4 : Nat) (Option.some Jvm.ClassFile.FieldType.float)).before args0 about1 = true := code_word (m := ⟨2, 1⟩) (meth := k2m1) (c := k2c1) (by decide +kernel) rfl rfl rfl (by decide +kernel)
def codes1 : List Jvm.Cond := [Jvm.Cond.code x code maxLocals ret, Jvm.Cond.code ({ cls := "com/example/best_plus_rest/bestplusrest/scoring/Bm25Model", name := "norm", desc := "(FFIF)F" } : Jvm.MethodName) prog_13_method_7_code (4 : Nat) (Option.some Jvm.ClassFile.FieldType.float)]
set_option maxRecDepth 65536 in
theorem codes_eq : words1.filter isCode = codes1 := rfl
theorem w_codes : ∀ c ∈ words1.filter isCode, c.before args0 about1 = true := by
  rw [codes_eq]
  intro c hc
  simp only [codes1, List.mem_cons, List.not_mem_nil, or_false] at hc
  rcases hc with rfl | rfl
  · exact w_c0
  · exact w_c1
set_option maxRecDepth 65536 in
theorem w_t1 : words1.all (fun c => isCode c || c.before args0 about1) = true := by decide +kernel
theorem w_tables : (allAtoms (Jvm.Cond.code x code maxLocals ret :: tables_1)).before args0 about1 = true := by
  rw [allAtoms_all]
  show words1.all (fun c => c.before args0 about1) = true
  refine all_split ?_ w_codes
  rw [w_t1]
set_option maxRecDepth 65536 in
theorem w_case : (Jvm.Cond.and given_1 narrow_1).before args0 about1 = true := by decide +kernel
theorem w_applies : (headSpec (Jvm.Cond.code x code maxLocals ret :: tables_1) room_1).applies x e0.platform about1 = true :=
  (Spec.applies_iff w_frames).mpr ⟨w_running, w_runnable, w_alone, w_named, w_hears, w_ripe, w_room, w_tables⟩
theorem atStart : AtStart classFile x code maxLocals ret World_1 tables_1 room_1 Calls_1 rest_1 Pre_1 launch0 p0 e0 about1 theMethod args0 below0 :=
  ⟨lists_1, trivial, launch0.admits_env _ _ _, launch0.least_env, fairChoices_fair.cas, fairChoices_fair.clock, w_frames, w_args, w_heap, w_applies, trivial, trivial, w_case⟩
end start1
theorem witness_1 : WitnessClaimed_1 := ⟨start1.p0, start1.e0, start1.about1, start1.theMethod, start1.args0, start1.below0, start1.atStart⟩
end Jvm.Pilot.@@N@@
