import JvmDerived
import JvmDerived.Pilot.@@N@@Statement
import JvmDerived.Pilot.@@N@@Code
set_option linter.unusedVariables false
set_option linter.unusedSimpArgs false
namespace Jvm.Pilot.@@N@@
open Jvm Jvm.ClassFile Sem Op Lib Jvm.Free Jvm.Stand Jvm.LawKit Jvm.RoadKit Bundle Jvm.Pilot.@@N@@.Jvm.D
/-! A. where a walk stands: W; what a body owes: Gl; a body's contract: Ctr -/
abbrev Cx := Program × Env × State × MethodId × Array Value × List Frame × Method × Code × State
def W (l : Launch) (Z : State) (n0 : Nat) (y : MethodName) (bytes : ByteArray) (maxl : Nat) (ret : Option FieldType) (R : Room) (G : Cx) (h : Heap) (pc : Nat) (Ls : Array Slot) (St : List Value) (cells slots : Nat) : Prop :=
  match G with
  | (p, e, s, m, args, below, meth, c, st) =>
    p.tables.exec = Jvm.exec ∧ Z.Warmed39 s.vm ∧ c.code = bytes ∧ c.maxLocals = maxl ∧ s.vm.findClass y.cls = some m.cls ∧ meth.name = y.name ∧ meth.sig.returnType = ret ∧ meth.locks = false ∧ n0 ≤ s.heap.size ∧
    ∃ (T : State) (locs : List Loc), Stand p l e R s m args below meth c T locs cells slots ∧ Fr n0 locs ∧ T.heap = h ∧ ∀ t, Steps p.tables e below (T.setTop (mkF m pc Ls St)) t → Steps p.tables e below st t
def Gl (R : Room) (n0 : Nat) (G : Cx) (Q : Option Value → Heap → Prop) : Prop :=
  match G with
  | (p, e, s, m, args, below, meth, c, st) => ∃ s₂ o, Steps p.tables e below st s₂ ∧ s₂.status = .running ∧ Ended s₂ below o ∧ ∃ v L, o = .returned v ∧ (Fr n0 L ∧ Q v s₂.heap) ∧ FrameEnd s o s₂ L R.cells R.slots
def Ctr (l : Launch) (Z : State) (n0 : Nat) (y : MethodName) (bytes : ByteArray) (maxl : Nat) (ret : Option FieldType) (ws : List Jvm.Cond) (R : Room) (as : Array Value) (h0 : Heap) (Q : Option Value → Heap → Prop) : Prop :=
  MetFree l y (head1 (Jvm.Cond.code y bytes maxl ret :: ws) R) (fun a U => a = as ∧ Z.Warmed39 U.vm ∧ U.heap = h0) (fun _ _ _ _ _ => True) (fun _ U o U' => ∃ v L, o = .returned v ∧ (Fr n0 L ∧ Q v U'.heap) ∧ FrameEnd U o U' L R.cells R.slots)
def QI (P : Int32 → Heap → Prop) (v : Option Value) (h : Heap) : Prop := ∃ r, v = some (.int r) ∧ P r h
def QJ (P : Int64 → Heap → Prop) (v : Option Value) (h : Heap) : Prop := ∃ r, v = some (.long r) ∧ P r h
def QA (P : Addr → Heap → Prop) (v : Option Value) (h : Heap) : Prop := ∃ r, v = some (.ref r) ∧ P r h
def QV (P : Heap → Prop) (v : Option Value) (h : Heap) : Prop := v = none ∧ P h
theorem ilt {x y : Int32} {a b : Int} (ha : x.toInt = a) (hb : y.toInt = b) (h : a < b) : x < y := by subst ha hb; exact Int32.lt_iff_toInt_lt.mpr h
theorem inlt {x y : Int32} {a b : Int} (ha : x.toInt = a) (hb : y.toInt = b) (h : ¬ a < b) : ¬ x < y := by subst ha hb; exact fun q => h (Int32.lt_iff_toInt_lt.mp q)
theorem igt {x y : Int32} {a b : Int} (ha : x.toInt = a) (hb : y.toInt = b) (h : b < a) : y < x := ilt hb ha h
theorem ingt {x y : Int32} {a b : Int} (ha : x.toInt = a) (hb : y.toInt = b) (h : ¬ b < a) : ¬ y < x := inlt hb ha h
theorem ieq {x y : Int32} {a b : Int} (ha : x.toInt = a) (hb : y.toInt = b) (h : a = b) : x = y := by subst ha hb; exact Int32.toInt_inj.mp h
theorem ine {x y : Int32} {a b : Int} (ha : x.toInt = a) (hb : y.toInt = b) (h : ¬ a = b) : ¬ x = y := by subst ha hb; exact fun q => h (Int32.toInt_inj.mpr q)
theorem llt {x y : Int64} {a b : Int} (ha : x.toInt = a) (hb : y.toInt = b) (h : a < b) : lcmpW x y < 0 := by subst ha hb; exact (lw_lt _ _).mpr (Int64.lt_iff_toInt_lt.mpr h)
theorem lnlt {x y : Int64} {a b : Int} (ha : x.toInt = a) (hb : y.toInt = b) (h : ¬ a < b) : ¬ lcmpW x y < 0 := by subst ha hb; exact fun q => h (Int64.lt_iff_toInt_lt.mp ((lw_lt _ _).mp q))
theorem lgt {x y : Int64} {a b : Int} (ha : x.toInt = a) (hb : y.toInt = b) (h : b < a) : 0 < lcmpW x y := by subst ha hb; exact (lw_gt _ _).mpr (Int64.lt_iff_toInt_lt.mpr h)
theorem lngt {x y : Int64} {a b : Int} (ha : x.toInt = a) (hb : y.toInt = b) (h : ¬ b < a) : ¬ 0 < lcmpW x y := by subst ha hb; exact fun q => h (Int64.lt_iff_toInt_lt.mp ((lw_gt _ _).mp q))
theorem leq {x y : Int64} {a b : Int} (ha : x.toInt = a) (hb : y.toInt = b) (h : a = b) : lcmpW x y = 0 := by subst ha hb; exact (lw_eq _ _).mpr (Int64.toInt_inj.mp h)
theorem lne {x y : Int64} {a b : Int} (ha : x.toInt = a) (hb : y.toInt = b) (h : ¬ a = b) : ¬ lcmpW x y = 0 := by subst ha hb; exact fun q => h (Int64.toInt_inj.mpr ((lw_eq _ _).mp q))
def Two (s t : Slot) : Prop := (s = .unset ∧ t = .unset) ∨ ∃ q : Int64, s = .val (.long q) ∧ t = .second
section Walk
variable {l : Launch} {Z : State} {n0 : Nat} {y : MethodName} {bytes : ByteArray} {maxl : Nat} {ret : Option FieldType} {R : Room} {G : Cx} {h : Heap} {pc pc' : Nat} {Ls : Array Slot} {St : List Value} {C S C' S' : Nat} {Q : Option Value → Heap → Prop} {a0 : Array Value}
theorem W.mk {p : Program} {e : Env} {s : State} {m : MethodId} {args : Array Value} {below : List Frame} {meth : Method} {c : Code} {st : State} {T : State} {locs : List Loc} (hx : p.tables.exec = Jvm.exec) (hZ : Z.Warmed39 s.vm) (hby : c.code = bytes) (hml : c.maxLocals = maxl) (hown : s.vm.findClass y.cls = some m.cls) (hnm : meth.name = y.name) (hrt : meth.sig.returnType = ret) (hlk : meth.locks = false) (hn0 : n0 ≤ s.heap.size)
    (X : Stand p l e R s m args below meth c T locs C S) (N : Fr n0 locs) (eT : T.heap = h) (k : ∀ t, Steps p.tables e below (T.setTop (mkF m pc Ls St)) t → Steps p.tables e below st t) : W l Z n0 y bytes maxl ret R (p, e, s, m, args, below, meth, c, st) h pc Ls St C S :=
  show _ ∧ _ from ⟨hx, hZ, hby, hml, hown, hnm, hrt, hlk, hn0, T, locs, X, N, eT, k⟩
theorem ctr_of {ws : List Jvm.Cond} {as : Array Value} (hpn : plainFor y = true) (hn0 : n0 ≤ h.size) (hef : ∀ m, entryFrame m as maxl = mkF m 0 Ls []) (body : ∀ G, W l Z n0 y bytes maxl ret R G h 0 Ls [] 0 0 → Gl R n0 G Q) : Ctr l Z n0 y bytes maxl ret ws R as h Q := by
  refine MetFree.of_bodySF hpn hisR ?_
  intro p e s m args below meth c s₁ Bd hml0 hP hK
  obtain ⟨rfl, hZ, hh⟩ := hP
  have e0 : s₁.heap = h := by rw [← hh, Bd.state]; rfl
  exact body (p, e, s, m, args, below, meth, c, s₁.setTop (entryFrame m args maxl)) (W.mk Bd.exec hZ Bd.bytes hml0 (findClass_of_methodNamed Bd.named) (name_of_methodNamed Bd.named Bd.method).1 Bd.returns (BodyLoose.notSynchronized Bd) (hh ▸ hn0) (Stand.of_body Bd) (Fr.nil n0) e0 (fun t k => castTop (hef m) k))
theorem W.size (A : W l Z n0 y bytes maxl ret R G h pc Ls St C S) : n0 ≤ h.size := by
  obtain ⟨p, e, s, m, args, below, meth, c, st⟩ := G
  obtain ⟨hx, hZ, hby, hml, hown, hnm, hrt, hlk, hn0, T, locs, X, N, eT, k⟩ := A
  exact Nat.le_trans hn0 (by rw [← eT]; exact X.same.2.1)
theorem W.more (A : W l Z n0 y bytes maxl ret R G h pc Ls St C S) (hC : C ≤ C') (hS : S ≤ S') : W l Z n0 y bytes maxl ret R G h pc Ls St C' S' := by
  obtain ⟨p, e, s, m, args, below, meth, c, st⟩ := G
  obtain ⟨hx, hZ, hby, hml, hown, hnm, hrt, hlk, hn0, T, locs, X, N, eT, k⟩ := A
  exact W.mk hx hZ hby hml hown hnm hrt hlk hn0 (X.more hC hS) N eT k
theorem W.cast {Ls' : Array Slot} {St' : List Value} (A : W l Z n0 y bytes maxl ret R G h pc Ls St C S) (hp : pc = pc') (hL : Ls = Ls') (hSt : St = St') : W l Z n0 y bytes maxl ret R G h pc' Ls' St' C S := by subst hp hL hSt; exact A
theorem W.topI {x z : Int32} (A : W l Z n0 y bytes maxl ret R G h pc Ls (.int x :: St) C S) (q : x = z) : W l Z n0 y bytes maxl ret R G h pc Ls (.int z :: St) C S := q ▸ A
theorem W.topJ {x z : Int64} (A : W l Z n0 y bytes maxl ret R G h pc Ls (.long x :: St) C S) (q : x = z) : W l Z n0 y bytes maxl ret R G h pc Ls (.long z :: St) C S := q ▸ A
/-- a plain step -/
theorem W.step (A : W l Z n0 y bytes maxl ret R G h pc Ls St C S) {Ls' : Array Slot} {St' : List Value}
    (f : ∀ {p : Program} {e : Env} {s : State} {m : MethodId} {args : Array Value} {below : List Frame} {meth : Method} {c : Code} {T t : State} {locs : List Loc}, Stand p l e R s m args below meth c T locs C S → p.tables.exec = Jvm.exec → Z.Warmed39 s.vm → s.vm.findClass y.cls = some m.cls → c.code = bytes → T.heap = h → Steps p.tables e below (T.setTop (mkF m pc' Ls' St')) t → Steps p.tables e below (T.setTop (mkF m pc Ls St)) t) : W l Z n0 y bytes maxl ret R G h pc' Ls' St' C S := by
  obtain ⟨p, e, s, m, args, below, meth, c, st⟩ := G
  obtain ⟨hx, hZ, hby, hml, hown, hnm, hrt, hlk, hn0, T, locs, X, N, eT, k⟩ := A
  exact W.mk hx hZ hby hml hown hnm hrt hlk hn0 X N eT (fun t q => k t (f X hx hZ hown hby eT q))
/-! B. plain instructions -/
theorem W.iloadN (A : W l Z n0 y bytes maxl ret R G h pc Ls St C S) {k : Fin 4} {v : Int32} (hd : decode bytes pc = .ok (.iload_n k, 1)) (hl : Ls[k.val]? = some (.val (.int v))) (hp : pc + 1 = pc') : W l Z n0 y bytes maxl ret R G h pc' Ls (.int v :: St) C S := by
  subst hp; exact A.step fun X hx _ _ q _ r => XS.iloadN X.here hx rfl (hb q hd) hl r
theorem W.iload (A : W l Z n0 y bytes maxl ret R G h pc Ls St C S) {k : Nat} {v : Int32} (hd : decode bytes pc = .ok (.iload k, 2)) (hl : Ls[k]? = some (.val (.int v))) (hp : pc + 2 = pc') : W l Z n0 y bytes maxl ret R G h pc' Ls (.int v :: St) C S := by
  subst hp; exact A.step fun X hx _ _ q _ r => XS.iload X.here hx rfl (hb q hd) hl r
theorem W.lloadN (A : W l Z n0 y bytes maxl ret R G h pc Ls St C S) {k : Fin 4} {v : Int64} (hd : decode bytes pc = .ok (.lload_n k, 1)) (hl : Ls[k.val]? = some (.val (.long v))) (hp : pc + 1 = pc') : W l Z n0 y bytes maxl ret R G h pc' Ls (.long v :: St) C S := by
  subst hp; exact A.step fun X hx _ _ q _ r => XS.lloadN X.here hx rfl (hb q hd) hl r
theorem W.lload (A : W l Z n0 y bytes maxl ret R G h pc Ls St C S) {k : Nat} {v : Int64} (hd : decode bytes pc = .ok (.lload k, 2)) (hl : Ls[k]? = some (.val (.long v))) (hp : pc + 2 = pc') : W l Z n0 y bytes maxl ret R G h pc' Ls (.long v :: St) C S := by
  subst hp; exact A.step fun X hx _ _ q _ r => XS.lload X.here hx rfl (hb q hd) hl r
theorem W.aloadN (A : W l Z n0 y bytes maxl ret R G h pc Ls St C S) {k : Fin 4} {v : Value} (hd : decode bytes pc = .ok (.aload_n k, 1)) (hl : Ls[k.val]? = some (.val v)) (hv : v.isRef = true) (hp : pc + 1 = pc') : W l Z n0 y bytes maxl ret R G h pc' Ls (v :: St) C S := by
  subst hp; exact A.step fun X hx _ _ q _ r => XS.aloadN X.here hx rfl (hb q hd) hl hv r
theorem W.aload (A : W l Z n0 y bytes maxl ret R G h pc Ls St C S) {k : Nat} {v : Value} (hd : decode bytes pc = .ok (.aload k, 2)) (hl : Ls[k]? = some (.val v)) (hv : v.isRef = true) (hp : pc + 2 = pc') : W l Z n0 y bytes maxl ret R G h pc' Ls (v :: St) C S := by
  subst hp; exact A.step fun X hx _ _ q _ r => XS.aload X.here hx rfl (hb q hd) hl hv r
theorem W.istoreN {v : Int32} (A : W l Z n0 y bytes maxl ret R G h pc Ls (.int v :: St) C S) {k : Fin 4} {Ls' : Array Slot} (hd : decode bytes pc = .ok (.istore_n k, 1)) (hl : storeLocals Ls k.val (.int v) = some Ls') (hp : pc + 1 = pc') : W l Z n0 y bytes maxl ret R G h pc' Ls' St C S := by
  subst hp; exact A.step fun X hx _ _ q _ r => XS.istoreN X.here hx rfl (hb q hd) rfl hl r
theorem W.istore {v : Int32} (A : W l Z n0 y bytes maxl ret R G h pc Ls (.int v :: St) C S) {k : Nat} {Ls' : Array Slot} (hd : decode bytes pc = .ok (.istore k, 2)) (hl : storeLocals Ls k (.int v) = some Ls') (hp : pc + 2 = pc') : W l Z n0 y bytes maxl ret R G h pc' Ls' St C S := by
  subst hp; exact A.step fun X hx _ _ q _ r => XS.istore X.here hx rfl (hb q hd) rfl hl r
theorem W.lstoreN {v : Int64} (A : W l Z n0 y bytes maxl ret R G h pc Ls (.long v :: St) C S) {k : Fin 4} {Ls' : Array Slot} (hd : decode bytes pc = .ok (.lstore_n k, 1)) (hl : storeLocals Ls k.val (.long v) = some Ls') (hp : pc + 1 = pc') : W l Z n0 y bytes maxl ret R G h pc' Ls' St C S := by
  subst hp; exact A.step fun X hx _ _ q _ r => XS.lstoreN X.here hx rfl (hb q hd) rfl hl r
theorem W.lstore {v : Int64} (A : W l Z n0 y bytes maxl ret R G h pc Ls (.long v :: St) C S) {k : Nat} {Ls' : Array Slot} (hd : decode bytes pc = .ok (.lstore k, 2)) (hl : storeLocals Ls k (.long v) = some Ls') (hp : pc + 2 = pc') : W l Z n0 y bytes maxl ret R G h pc' Ls' St C S := by
  subst hp; exact A.step fun X hx _ _ q _ r => XS.lstore X.here hx rfl (hb q hd) rfl hl r
theorem W.astoreN {v : Value} (A : W l Z n0 y bytes maxl ret R G h pc Ls (v :: St) C S) {k : Fin 4} {Ls' : Array Slot} (hd : decode bytes pc = .ok (.astore_n k, 1)) (hv : v.isRef = true) (hl : storeLocals Ls k.val v = some Ls') (hp : pc + 1 = pc') : W l Z n0 y bytes maxl ret R G h pc' Ls' St C S := by
  subst hp; exact A.step fun X hx _ _ q _ r => XS.astoreN X.here hx rfl (hb q hd) rfl hv hl r
theorem W.astore {v : Value} (A : W l Z n0 y bytes maxl ret R G h pc Ls (v :: St) C S) {k : Nat} {Ls' : Array Slot} (hd : decode bytes pc = .ok (.astore k, 2)) (hv : v.isRef = true) (hl : storeLocals Ls k v = some Ls') (hp : pc + 2 = pc') : W l Z n0 y bytes maxl ret R G h pc' Ls' St C S := by
  subst hp; exact A.step fun X hx _ _ q _ r => XS.astore X.here hx rfl (hb q hd) rfl hv hl r
theorem W.iconst (A : W l Z n0 y bytes maxl ret R G h pc Ls St C S) {i : Int} {z : Int32} (hd : decode bytes pc = .ok (.iconst i, 1)) (hz : Int32.ofInt i = z) (hp : pc + 1 = pc') : W l Z n0 y bytes maxl ret R G h pc' Ls (.int z :: St) C S := by
  subst hp hz; exact A.step fun X hx _ _ q _ r => XS.iconst X.here hx rfl (hb q hd) r
theorem W.bipush (A : W l Z n0 y bytes maxl ret R G h pc Ls St C S) {i : Int} {z : Int32} (hd : decode bytes pc = .ok (.bipush i, 2)) (hz : (Int8.ofInt i).toInt32 = z) (hp : pc + 2 = pc') : W l Z n0 y bytes maxl ret R G h pc' Ls (.int z :: St) C S := by
  subst hp hz; exact A.step fun X hx _ _ q _ r => XS.bipush X.here hx rfl (hb q hd) r
theorem W.sipush (A : W l Z n0 y bytes maxl ret R G h pc Ls St C S) {i : Int} {z : Int32} (hd : decode bytes pc = .ok (.sipush i, 3)) (hz : (Int16.ofInt i).toInt32 = z) (hp : pc + 3 = pc') : W l Z n0 y bytes maxl ret R G h pc' Ls (.int z :: St) C S := by
  subst hp hz; exact A.step fun X hx _ _ q _ r => XS.sipush X.here hx rfl (hb q hd) r
theorem W.lconst (A : W l Z n0 y bytes maxl ret R G h pc Ls St C S) {k : Fin 2} {z : Int64} (hd : decode bytes pc = .ok (.lconst k, 1)) (hz : Int64.ofNat k.val = z) (hp : pc + 1 = pc') : W l Z n0 y bytes maxl ret R G h pc' Ls (.long z :: St) C S := by
  subst hp hz; exact A.step fun X hx _ _ q _ r => XS.lconst X.here hx rfl (hb q hd) r
theorem W.aconstNull (A : W l Z n0 y bytes maxl ret R G h pc Ls St C S) (hd : decode bytes pc = .ok (.aconst_null, 1)) (hp : pc + 1 = pc') : W l Z n0 y bytes maxl ret R G h pc' Ls (.null :: St) C S := by
  subst hp; exact A.step fun X hx _ _ q _ r => XS.aconstNull X.here hx rfl (hb q hd) r
theorem W.ldc (A : W l Z n0 y bytes maxl ret R G h pc Ls St C S) {i : Nat} {z : Int32} (hd : decode bytes pc = .ok (.ldc i, 2)) (w : (Jvm.Cond.constant y.cls i z).before a0 Z = true) (hp : pc + 2 = pc') : W l Z n0 y bytes maxl ret R G h pc' Ls (.int z :: St) C S := by
  subst hp; exact A.step fun X hx hZ hown q _ r => X.ldcInt hx hown (mvT hZ w) (g := mkF _ pc Ls St) rfl (hb q hd) _ r
theorem W.ldcW (A : W l Z n0 y bytes maxl ret R G h pc Ls St C S) {i : Nat} {z : Int32} (hd : decode bytes pc = .ok (.ldc_w i, 3)) (w : (Jvm.Cond.constant y.cls i z).before a0 Z = true) (hp : pc + 3 = pc') : W l Z n0 y bytes maxl ret R G h pc' Ls (.int z :: St) C S := by
  subst hp; exact A.step fun X hx hZ hown q _ r => X.ldcwInt hx hown (mvT hZ w) (g := mkF _ pc Ls St) rfl (hb q hd) _ r
theorem W.ldc2 (A : W l Z n0 y bytes maxl ret R G h pc Ls St C S) {i : Nat} {z : Int64} (hd : decode bytes pc = .ok (.ldc2_w i, 3)) (w : (Jvm.Cond.constantLong y.cls i z).before a0 Z = true) (hp : pc + 3 = pc') : W l Z n0 y bytes maxl ret R G h pc' Ls (.long z :: St) C S := by
  subst hp; exact A.step fun X hx hZ hown q _ r => X.ldc2Long hx hown (mvT hZ w) (g := mkF _ pc Ls St) rfl (hb q hd) _ r
theorem W.iinc (A : W l Z n0 y bytes maxl ret R G h pc Ls St C S) {k : Nat} {i : Int} {v z : Int32} {Ls' : Array Slot} (hd : decode bytes pc = .ok (.iinc k i, 3)) (hl : Ls[k]? = some (.val (.int v))) (hz : v + Int32.ofInt i = z) (hl' : storeLocals Ls k (.int z) = some Ls') (hp : pc + 3 = pc') : W l Z n0 y bytes maxl ret R G h pc' Ls' St C S := by
  subst hp hz; exact A.step fun X hx _ _ q _ r => XS.iinc X.here hx rfl (hb q hd) hl hl' r
theorem W.iadd {x z : Int32} (A : W l Z n0 y bytes maxl ret R G h pc Ls (.int z :: .int x :: St) C S) (hd : decode bytes pc = .ok (.iadd, 1)) (hp : pc + 1 = pc') : W l Z n0 y bytes maxl ret R G h pc' Ls (.int (x + z) :: St) C S := by
  subst hp; exact A.step fun X hx _ _ q _ r => XS.iadd X.here hx rfl (hb q hd) rfl r
theorem W.ladd {x z : Int64} (A : W l Z n0 y bytes maxl ret R G h pc Ls (.long z :: .long x :: St) C S) (hd : decode bytes pc = .ok (.ladd, 1)) (hp : pc + 1 = pc') : W l Z n0 y bytes maxl ret R G h pc' Ls (.long (x + z) :: St) C S := by
  subst hp; exact A.step fun X hx _ _ q _ r => XS.ladd X.here hx rfl (hb q hd) rfl r
theorem W.isub {x z : Int32} (A : W l Z n0 y bytes maxl ret R G h pc Ls (.int z :: .int x :: St) C S) (hd : decode bytes pc = .ok (.isub, 1)) (hp : pc + 1 = pc') : W l Z n0 y bytes maxl ret R G h pc' Ls (.int (x - z) :: St) C S := by
  subst hp; exact A.step fun X hx _ _ q _ r => XS.isub X.here hx rfl (hb q hd) rfl r
theorem W.lsub {x z : Int64} (A : W l Z n0 y bytes maxl ret R G h pc Ls (.long z :: .long x :: St) C S) (hd : decode bytes pc = .ok (.lsub, 1)) (hp : pc + 1 = pc') : W l Z n0 y bytes maxl ret R G h pc' Ls (.long (x - z) :: St) C S := by
  subst hp; exact A.step fun X hx _ _ q _ r => XS.lsub X.here hx rfl (hb q hd) rfl r
theorem W.imul {x z : Int32} (A : W l Z n0 y bytes maxl ret R G h pc Ls (.int z :: .int x :: St) C S) (hd : decode bytes pc = .ok (.imul, 1)) (hp : pc + 1 = pc') : W l Z n0 y bytes maxl ret R G h pc' Ls (.int (x * z) :: St) C S := by
  subst hp; exact A.step fun X hx _ _ q _ r => XS.imul X.here hx rfl (hb q hd) rfl r
theorem W.lmul {x z : Int64} (A : W l Z n0 y bytes maxl ret R G h pc Ls (.long z :: .long x :: St) C S) (hd : decode bytes pc = .ok (.lmul, 1)) (hp : pc + 1 = pc') : W l Z n0 y bytes maxl ret R G h pc' Ls (.long (x * z) :: St) C S := by
  subst hp; exact A.step fun X hx _ _ q _ r => XS.lmul X.here hx rfl (hb q hd) rfl r
theorem W.iand {x z : Int32} (A : W l Z n0 y bytes maxl ret R G h pc Ls (.int z :: .int x :: St) C S) (hd : decode bytes pc = .ok (.iand, 1)) (hp : pc + 1 = pc') : W l Z n0 y bytes maxl ret R G h pc' Ls (.int (x &&& z) :: St) C S := by
  subst hp; exact A.step fun X hx _ _ q _ r => XS.iand X.here hx rfl (hb q hd) rfl r
theorem W.land {x z : Int64} (A : W l Z n0 y bytes maxl ret R G h pc Ls (.long z :: .long x :: St) C S) (hd : decode bytes pc = .ok (.land, 1)) (hp : pc + 1 = pc') : W l Z n0 y bytes maxl ret R G h pc' Ls (.long (x &&& z) :: St) C S := by
  subst hp; exact A.step fun X hx _ _ q _ r => XS.land X.here hx rfl (hb q hd) rfl r
theorem W.ior {x z : Int32} (A : W l Z n0 y bytes maxl ret R G h pc Ls (.int z :: .int x :: St) C S) (hd : decode bytes pc = .ok (.ior, 1)) (hp : pc + 1 = pc') : W l Z n0 y bytes maxl ret R G h pc' Ls (.int (x ||| z) :: St) C S := by
  subst hp; exact A.step fun X hx _ _ q _ r => XS.ior X.here hx rfl (hb q hd) rfl r
theorem W.lor {x z : Int64} (A : W l Z n0 y bytes maxl ret R G h pc Ls (.long z :: .long x :: St) C S) (hd : decode bytes pc = .ok (.lor, 1)) (hp : pc + 1 = pc') : W l Z n0 y bytes maxl ret R G h pc' Ls (.long (x ||| z) :: St) C S := by
  subst hp; exact A.step fun X hx _ _ q _ r => XS.lor X.here hx rfl (hb q hd) rfl r
theorem W.ixor {x z : Int32} (A : W l Z n0 y bytes maxl ret R G h pc Ls (.int z :: .int x :: St) C S) (hd : decode bytes pc = .ok (.ixor, 1)) (hp : pc + 1 = pc') : W l Z n0 y bytes maxl ret R G h pc' Ls (.int (x ^^^ z) :: St) C S := by
  subst hp; exact A.step fun X hx _ _ q _ r => XS.ixor X.here hx rfl (hb q hd) rfl r
theorem W.lxor {x z : Int64} (A : W l Z n0 y bytes maxl ret R G h pc Ls (.long z :: .long x :: St) C S) (hd : decode bytes pc = .ok (.lxor, 1)) (hp : pc + 1 = pc') : W l Z n0 y bytes maxl ret R G h pc' Ls (.long (x ^^^ z) :: St) C S := by
  subst hp; exact A.step fun X hx _ _ q _ r => XS.lxor X.here hx rfl (hb q hd) rfl r
theorem W.ineg {x : Int32} (A : W l Z n0 y bytes maxl ret R G h pc Ls (.int x :: St) C S) (hd : decode bytes pc = .ok (.ineg, 1)) (hp : pc + 1 = pc') : W l Z n0 y bytes maxl ret R G h pc' Ls (.int (-x) :: St) C S := by
  subst hp; exact A.step fun X hx _ _ q _ r => XS.ineg X.here hx rfl (hb q hd) rfl r
theorem W.lneg {x : Int64} (A : W l Z n0 y bytes maxl ret R G h pc Ls (.long x :: St) C S) (hd : decode bytes pc = .ok (.lneg, 1)) (hp : pc + 1 = pc') : W l Z n0 y bytes maxl ret R G h pc' Ls (.long (-x) :: St) C S := by
  subst hp; exact A.step fun X hx _ _ q _ r => XS.lneg X.here hx rfl (hb q hd) rfl r
theorem W.ishl {x z : Int32} (A : W l Z n0 y bytes maxl ret R G h pc Ls (.int z :: .int x :: St) C S) (hd : decode bytes pc = .ok (.ishl, 1)) (hp : pc + 1 = pc') : W l Z n0 y bytes maxl ret R G h pc' Ls (.int (x <<< (z &&& 31)) :: St) C S := by
  subst hp; exact A.step fun X hx _ _ q _ r => XS.ishl X.here hx rfl (hb q hd) rfl r
theorem W.ishr {x z : Int32} (A : W l Z n0 y bytes maxl ret R G h pc Ls (.int z :: .int x :: St) C S) (hd : decode bytes pc = .ok (.ishr, 1)) (hp : pc + 1 = pc') : W l Z n0 y bytes maxl ret R G h pc' Ls (.int (x >>> (z &&& 31)) :: St) C S := by
  subst hp; exact A.step fun X hx _ _ q _ r => XS.ishr X.here hx rfl (hb q hd) rfl r
theorem W.iushr {x z : Int32} (A : W l Z n0 y bytes maxl ret R G h pc Ls (.int z :: .int x :: St) C S) (hd : decode bytes pc = .ok (.iushr, 1)) (hp : pc + 1 = pc') : W l Z n0 y bytes maxl ret R G h pc' Ls (.int ((x.toUInt32 >>> (z &&& 31).toUInt32).toInt32) :: St) C S := by
  subst hp; exact A.step fun X hx _ _ q _ r => XS.iushr X.here hx rfl (hb q hd) rfl r
theorem W.lshl {x : Int64} {z : Int32} (A : W l Z n0 y bytes maxl ret R G h pc Ls (.int z :: .long x :: St) C S) (hd : decode bytes pc = .ok (.lshl, 1)) (hp : pc + 1 = pc') : W l Z n0 y bytes maxl ret R G h pc' Ls (.long (x <<< (z &&& 0x3f).toInt64) :: St) C S := by
  subst hp; exact A.step fun X hx _ _ q _ r => XS.lshl X.here hx rfl (hb q hd) rfl r
theorem W.lshr {x : Int64} {z : Int32} (A : W l Z n0 y bytes maxl ret R G h pc Ls (.int z :: .long x :: St) C S) (hd : decode bytes pc = .ok (.lshr, 1)) (hp : pc + 1 = pc') : W l Z n0 y bytes maxl ret R G h pc' Ls (.long (x >>> (z &&& 0x3f).toInt64) :: St) C S := by
  subst hp; exact A.step fun X hx _ _ q _ r => XS.lshr X.here hx rfl (hb q hd) rfl r
theorem W.lushr {x : Int64} {z : Int32} (A : W l Z n0 y bytes maxl ret R G h pc Ls (.int z :: .long x :: St) C S) (hd : decode bytes pc = .ok (.lushr, 1)) (hp : pc + 1 = pc') : W l Z n0 y bytes maxl ret R G h pc' Ls (.long ((x.toUInt64 >>> (z &&& 0x3f).toInt64.toUInt64).toInt64) :: St) C S := by
  subst hp; exact A.step fun X hx _ _ q _ r => XS.lushr X.here hx rfl (hb q hd) rfl r
theorem W.i2l {x : Int32} (A : W l Z n0 y bytes maxl ret R G h pc Ls (.int x :: St) C S) (hd : decode bytes pc = .ok (.i2l, 1)) (hp : pc + 1 = pc') : W l Z n0 y bytes maxl ret R G h pc' Ls (.long x.toInt64 :: St) C S := by
  subst hp; exact A.step fun X hx _ _ q _ r => XS.i2l X.here hx rfl (hb q hd) rfl r
theorem W.l2i {x : Int64} (A : W l Z n0 y bytes maxl ret R G h pc Ls (.long x :: St) C S) (hd : decode bytes pc = .ok (.l2i, 1)) (hp : pc + 1 = pc') : W l Z n0 y bytes maxl ret R G h pc' Ls (.int x.toInt32 :: St) C S := by
  subst hp; exact A.step fun X hx _ _ q _ r => XS.l2i X.here hx rfl (hb q hd) rfl r
theorem W.i2b {x : Int32} (A : W l Z n0 y bytes maxl ret R G h pc Ls (.int x :: St) C S) (hd : decode bytes pc = .ok (.i2b, 1)) (hp : pc + 1 = pc') : W l Z n0 y bytes maxl ret R G h pc' Ls (.int x.toInt8.toInt32 :: St) C S := by
  subst hp; exact A.step fun X hx _ _ q _ r => XS.i2b X.here hx rfl (hb q hd) rfl r
theorem W.i2s {x : Int32} (A : W l Z n0 y bytes maxl ret R G h pc Ls (.int x :: St) C S) (hd : decode bytes pc = .ok (.i2s, 1)) (hp : pc + 1 = pc') : W l Z n0 y bytes maxl ret R G h pc' Ls (.int x.toInt16.toInt32 :: St) C S := by
  subst hp; exact A.step fun X hx _ _ q _ r => XS.i2s X.here hx rfl (hb q hd) rfl r
theorem W.i2c {x : Int32} (A : W l Z n0 y bytes maxl ret R G h pc Ls (.int x :: St) C S) (hd : decode bytes pc = .ok (.i2c, 1)) (hp : pc + 1 = pc') : W l Z n0 y bytes maxl ret R G h pc' Ls (.int x.toUInt32.toUInt16.toUInt32.toInt32 :: St) C S := by
  subst hp; exact A.step fun X hx _ _ q _ r => XS.i2c X.here hx rfl (hb q hd) rfl r
theorem W.lcmp {x z : Int64} (A : W l Z n0 y bytes maxl ret R G h pc Ls (.long z :: .long x :: St) C S) (hd : decode bytes pc = .ok (.lcmp, 1)) (hp : pc + 1 = pc') : W l Z n0 y bytes maxl ret R G h pc' Ls (.int (lcmpW x z) :: St) C S := by
  subst hp; exact A.step fun X hx _ _ q _ r => XS.lcmp X.here hx rfl (hb q hd) rfl r
theorem W.idiv {x z : Int32} (A : W l Z n0 y bytes maxl ret R G h pc Ls (.int z :: .int x :: St) C S) (hd : decode bytes pc = .ok (.idiv, 1)) (hz : z ≠ 0) (hp : pc + 1 = pc') : W l Z n0 y bytes maxl ret R G h pc' Ls (.int (x / z) :: St) C S := by
  subst hp; exact A.step fun X hx _ _ q _ r => XS.idiv X.here hx rfl (hb q hd) rfl hz r
theorem W.irem {x z : Int32} (A : W l Z n0 y bytes maxl ret R G h pc Ls (.int z :: .int x :: St) C S) (hd : decode bytes pc = .ok (.irem, 1)) (hz : z ≠ 0) (hp : pc + 1 = pc') : W l Z n0 y bytes maxl ret R G h pc' Ls (.int (x % z) :: St) C S := by
  subst hp; exact A.step fun X hx _ _ q _ r => iremM (g := mkF _ _ _ _) X hx rfl (hb q hd) rfl hz r
theorem W.ldiv {x z : Int64} (A : W l Z n0 y bytes maxl ret R G h pc Ls (.long z :: .long x :: St) C S) (hd : decode bytes pc = .ok (.ldiv, 1)) (hz : z ≠ 0) (hp : pc + 1 = pc') : W l Z n0 y bytes maxl ret R G h pc' Ls (.long (x / z) :: St) C S := by
  subst hp; exact A.step fun X hx _ _ q _ r => XS.ldiv X.here hx rfl (hb q hd) rfl hz r
theorem W.lrem {x z : Int64} (A : W l Z n0 y bytes maxl ret R G h pc Ls (.long z :: .long x :: St) C S) (hd : decode bytes pc = .ok (.lrem, 1)) (hz : z ≠ 0) (hp : pc + 1 = pc') : W l Z n0 y bytes maxl ret R G h pc' Ls (.long (x % z) :: St) C S := by
  subst hp; exact A.step fun X hx _ _ q _ r => XS.lrem X.here hx rfl (hb q hd) rfl hz (by rw [lrem_mod]; exact r)
theorem W.dup {v : Value} (A : W l Z n0 y bytes maxl ret R G h pc Ls (v :: St) C S) (hd : decode bytes pc = .ok (.dup, 1)) (hc : v.category = 1) (hp : pc + 1 = pc') : W l Z n0 y bytes maxl ret R G h pc' Ls (v :: v :: St) C S := by
  subst hp; exact A.step fun X hx _ _ q _ r => XS.dup X.here hx rfl (hb q hd) rfl hc r
theorem W.pop {v : Value} (A : W l Z n0 y bytes maxl ret R G h pc Ls (v :: St) C S) (hd : decode bytes pc = .ok (.pop, 1)) (hc : v.category = 1) (hp : pc + 1 = pc') : W l Z n0 y bytes maxl ret R G h pc' Ls St C S := by
  subst hp; exact A.step fun X hx _ _ q _ r => XS.pop X.here hx rfl (hb q hd) rfl hc r
theorem W.dupX1 {v w : Value} (A : W l Z n0 y bytes maxl ret R G h pc Ls (v :: w :: St) C S) (hd : decode bytes pc = .ok (.dup_x1, 1)) (hc : v.category = 1) (hc' : w.category = 1) (hp : pc + 1 = pc') : W l Z n0 y bytes maxl ret R G h pc' Ls (v :: w :: v :: St) C S := by
  subst hp; exact A.step fun X hx _ _ q _ r => XS.dupX1 X.here hx rfl (hb q hd) rfl hc hc' r
theorem W.dup2 {v w : Value} (A : W l Z n0 y bytes maxl ret R G h pc Ls (v :: w :: St) C S) (hd : decode bytes pc = .ok (.dup2, 1)) (hc : v.category = 1) (hc' : w.category = 1) (hp : pc + 1 = pc') : W l Z n0 y bytes maxl ret R G h pc' Ls (v :: w :: v :: w :: St) C S := by
  subst hp; exact A.step fun X hx _ _ q _ r => XT.dup2 X.here hx rfl (hb q hd) rfl hc hc' r
theorem W.dup2L {x : Int64} (A : W l Z n0 y bytes maxl ret R G h pc Ls (.long x :: St) C S) (hd : decode bytes pc = .ok (.dup2, 1)) (hp : pc + 1 = pc') : W l Z n0 y bytes maxl ret R G h pc' Ls (.long x :: .long x :: St) C S := by
  subst hp; exact A.step fun X hx _ _ q _ r => XT.dup2L X.here hx rfl (hb q hd) rfl r
theorem W.goto (A : W l Z n0 y bytes maxl ret R G h pc Ls St C S) {o : Int} (hd : decode bytes pc = .ok (.goto o, 3)) (ho : 0 ≤ (pc : Int) + o) (hp : ((pc : Int) + o).toNat = pc') : W l Z n0 y bytes maxl ret R G h pc' Ls St C S :=
  A.step fun X hx _ _ q _ r => XS.goto X.here hx rfl rfl (hb q hd) ho hp r
theorem W.ifYes {x : Int32} (A : W l Z n0 y bytes maxl ret R G h pc Ls (.int x :: St) C S) {cd : ClassFile.Cond} {o : Int} (hd : decode bytes pc = .ok (.ifCond cd o, 3)) (hc : if_icmp.holds cd x 0 = true) (ho : 0 ≤ (pc : Int) + o) (hp : ((pc : Int) + o).toNat = pc') : W l Z n0 y bytes maxl ret R G h pc' Ls St C S :=
  A.step fun X hx _ _ q _ r => XS.ifYes X.here hx rfl rfl (hb q hd) rfl ((if0 _ _).trans hc) ho hp r
theorem W.ifNo {x : Int32} (A : W l Z n0 y bytes maxl ret R G h pc Ls (.int x :: St) C S) {cd : ClassFile.Cond} {o : Int} (hd : decode bytes pc = .ok (.ifCond cd o, 3)) (hc : if_icmp.holds cd x 0 = false) (hp : pc + 3 = pc') : W l Z n0 y bytes maxl ret R G h pc' Ls St C S := by
  subst hp; exact A.step fun X hx _ _ q _ r => XS.ifNo X.here hx rfl (hb q hd) rfl ((if0 _ _).trans hc) r
theorem W.icmpYes {x z : Int32} (A : W l Z n0 y bytes maxl ret R G h pc Ls (.int z :: .int x :: St) C S) {cd : ClassFile.Cond} {o : Int} (hd : decode bytes pc = .ok (.if_icmp cd o, 3)) (hc : if_icmp.holds cd x z = true) (ho : 0 ≤ (pc : Int) + o) (hp : ((pc : Int) + o).toNat = pc') : W l Z n0 y bytes maxl ret R G h pc' Ls St C S :=
  A.step fun X hx _ _ q _ r => XS.icmpYes X.here hx rfl rfl (hb q hd) rfl hc ho hp r
theorem W.icmpNo {x z : Int32} (A : W l Z n0 y bytes maxl ret R G h pc Ls (.int z :: .int x :: St) C S) {cd : ClassFile.Cond} {o : Int} (hd : decode bytes pc = .ok (.if_icmp cd o, 3)) (hc : if_icmp.holds cd x z = false) (hp : pc + 3 = pc') : W l Z n0 y bytes maxl ret R G h pc' Ls St C S := by
  subst hp; exact A.step fun X hx _ _ q _ r => XS.icmpNo X.here hx rfl (hb q hd) rfl hc r
theorem W.ifnullYes (A : W l Z n0 y bytes maxl ret R G h pc Ls (.null :: St) C S) {o : Int} (hd : decode bytes pc = .ok (.ifnull o, 3)) (ho : 0 ≤ (pc : Int) + o) (hp : ((pc : Int) + o).toNat = pc') : W l Z n0 y bytes maxl ret R G h pc' Ls St C S :=
  A.step fun X hx _ _ q _ r => XS.ifnullYes X.here hx rfl rfl (hb q hd) rfl ho hp r
theorem W.ifnullNo {a : Addr} (A : W l Z n0 y bytes maxl ret R G h pc Ls (.ref a :: St) C S) {o : Int} (hd : decode bytes pc = .ok (.ifnull o, 3)) (hp : pc + 3 = pc') : W l Z n0 y bytes maxl ret R G h pc' Ls St C S := by
  subst hp; exact A.step fun X hx _ _ q _ r => XS.ifnullNo X.here hx rfl (hb q hd) rfl r
theorem W.ifnonnullNo (A : W l Z n0 y bytes maxl ret R G h pc Ls (.null :: St) C S) {o : Int} (hd : decode bytes pc = .ok (.ifnonnull o, 3)) (hp : pc + 3 = pc') : W l Z n0 y bytes maxl ret R G h pc' Ls St C S := by
  subst hp; exact A.step fun X hx _ _ q _ r => XS.ifnonnullNo X.here hx rfl (hb q hd) rfl r
theorem W.ifnonnullYes {a : Addr} (A : W l Z n0 y bytes maxl ret R G h pc Ls (.ref a :: St) C S) {o : Int} (hd : decode bytes pc = .ok (.ifnonnull o, 3)) (ho : 0 ≤ (pc : Int) + o) (hp : ((pc : Int) + o).toNat = pc') : W l Z n0 y bytes maxl ret R G h pc' Ls St C S :=
  A.step fun X hx _ _ q _ r => XS.ifnonnullYes X.here hx rfl rfl (hb q hd) rfl ho hp r
/-! C. the returns -/
theorem W.fin {v : Option Value} (A : W l Z n0 y bytes maxl ret R G h pc Ls St C S) (hC : C ≤ R.cells) (hS : S ≤ R.slots) (hv : ret = none → v = none) (hQ : Q v h)
    (f : ∀ {p : Program} {e : Env} {s : State} {m : MethodId} {args : Array Value} {below : List Frame} {meth : Method} {c : Code} {T : State} {locs : List Loc} {fs : List Frame}, Stand p l e R s m args below meth c T locs C S → p.tables.exec = Jvm.exec → c.code = bytes → meth.sig.returnType = ret → (∀ (f : JFrame) (acts : List Action), f.method = m → f.locked = none → f.entered = [] → (doReturn e (T.setTop f) acts v).1 = T.setFrames fs) → Steps p.tables e below (T.setTop (mkF m pc Ls St)) (T.setFrames fs)) : Gl R n0 G Q := by
  obtain ⟨p, e, s, m, args, below, meth, c, st⟩ := G
  obtain ⟨hx, hZ, hby, hml, hown, hnm, hrt, hlk, hn0, T, locs, X, N, eT, k⟩ := A
  obtain ⟨fs, hr, hrun, hended, hW, hsame⟩ := X.leave (v := v) (fun q => hv (hrt.symm.trans q)) hlk
  show ∃ s₂ o, _
  refine ⟨_, _, k _ (f X hx hby hrt hr), hrun, hended, v, locs, rfl, ⟨N, ?_⟩, ⟨_, rfl⟩, hW, hsame.mono hC hS⟩
  show Q v T.heap
  rw [eT]; exact hQ
theorem W.retI {z : Int32} (A : W l Z n0 y bytes maxl (some .int) R G h pc Ls (.int z :: St) C S) (hd : decode bytes pc = .ok (.ireturn, 1)) (hC : C ≤ R.cells) (hS : S ≤ R.slots) (hQ : Q (some (.int z)) h) : Gl R n0 G Q :=
  A.fin hC hS (fun q => nomatch q) hQ fun X hx q hret hr => retOut X hx hret (t := .int) rfl (Or.inl ⟨rfl, Or.inl rfl, z, rfl⟩) (hb q hd) hr
theorem W.retN {z z' : Int32} {t : FieldType} (A : W l Z n0 y bytes maxl (some t) R G h pc Ls (.int z :: St) C S) (hd : decode bytes pc = .ok (.ireturn, 1)) (hC : C ≤ R.cells) (hS : S ≤ R.slots) (ht : t = .boolean ∨ t = .byte ∨ t = .char ∨ t = .short) (hz : nar t z = z') (hQ : Q (some (.int z')) h) : Gl R n0 G Q := by
  subst hz; exact A.fin hC hS (fun q => nomatch q) hQ fun X hx q hret hr => RoadKit.retN X hx hret ht (hb q hd) hr
theorem W.retJ {z : Int64} (A : W l Z n0 y bytes maxl (some .long) R G h pc Ls (.long z :: St) C S) (hd : decode bytes pc = .ok (.lreturn, 1)) (hC : C ≤ R.cells) (hS : S ≤ R.slots) (hQ : Q (some (.long z)) h) : Gl R n0 G Q :=
  A.fin hC hS (fun q => nomatch q) hQ fun X hx q hret hr => retOut X hx hret (t := .long) rfl (Or.inr (Or.inl ⟨rfl, rfl, z, rfl⟩)) (hb q hd) hr
theorem W.retA {v : Value} {t : FieldType} (A : W l Z n0 y bytes maxl (some t) R G h pc Ls (v :: St) C S) (hd : decode bytes pc = .ok (.areturn, 1)) (hC : C ≤ R.cells) (hS : S ≤ R.slots) (ht : t.isReference = true) (hv : v.isRef = true) (hn : narrow t v = v) (hQ : Q (some v) h) : Gl R n0 G Q :=
  A.fin hC hS (fun q => nomatch q) hQ fun X hx q hret hr => retOut X hx hret (t := t) hn (Or.inr (Or.inr (Or.inr (Or.inr ⟨rfl, ht, hv⟩)))) (hb q hd) hr
theorem W.retV (A : W l Z n0 y bytes maxl none R G h pc Ls [] C S) (hd : decode bytes pc = .ok (.return_, 1)) (hC : C ≤ R.cells) (hS : S ≤ R.slots) (hQ : Q none h) : Gl R n0 G Q :=
  A.fin hC hS (fun _ => rfl) hQ fun X hx q hret hr => X.returnOut hx hret (hb q hd) hr
/-! D. calls -/
theorem W.callS (A : W l Z n0 y bytes maxl ret R G h pc Ls St C S) {y' : MethodName} {bytes' : ByteArray} {maxl' : Nat} {ret' : Option FieldType} {R' : Room} {as : Array Value} {idx : Nat} {argsL rest : List Value} {ps : List FieldType} {rr : Option FieldType} (hd : decode bytes pc = .ok (.invokestatic idx, 3))
    (w1 : (Jvm.Cond.methodLink y.cls idx y').before a0 Z = true) (w2 : (Jvm.Cond.static y').before a0 Z = true) (w3 : (Jvm.Cond.initialized y'.cls).before a0 Z = true) (w4 : (Jvm.Cond.code y' bytes' maxl' ret').before a0 Z = true) (hM : Ctr l Z n0 y' bytes' maxl' ret' [] R' as h Q) (has : argsL.toArray = as) (hs : St = argsL.reverse ++ rest)
    (hpd : parseMethodDescriptor y'.desc = some ⟨ps, rr⟩) (hlen : argsL.length = ps.length) (hsz : Ls.size = maxl) (hy : y'.cls ≠ "java/lang/invoke/MethodHandle" ∧ y'.cls ≠ "java/lang/invoke/VarHandle") (hf : R'.frames + 1 ≤ R.frames) (hlo : (rest.map fun v => v.category).sum + (maxl' + 11) + R'.locals ≤ R.locals) (hC : C + R'.cells ≤ R.cells) (hS : S + R'.slots ≤ R.slots) (hC' : C + R'.cells = C') (hS' : S + R'.slots = S') (hp : pc + 3 = pc') :
    ∃ v h', Q v h' ∧ W l Z n0 y bytes maxl ret R G h' pc' Ls (v.toList ++ rest) C' S' := by
  subst hp hC' hS' has
  obtain ⟨p, e, s, m, args, below, meth, c, st⟩ := G
  obtain ⟨hx, hZ, hby, hml, hown, hnm, hrt, hlk, hn0, T, locs, X, N, eT, k⟩ := A
  obtain ⟨v, _, ⟨T', L', k', n'⟩, -, X', ⟨Lc, hQ, l1, y1, z1⟩, st'⟩ := Jvm.LawKit.callS X hx (y := y') hown (mvT hZ w1) (mvT hZ w2) (mvT hZ w3) (mvT hZ w4) hy (backOf (Q := fun v h L => Fr n0 L ∧ Q v h) (W := (rest.map fun v => v.category).sum) hM hZ w4 w3 hf hlo) (g := mkF m pc Ls St) rfl (by rw [hml]; exact hsz) (argsL := argsL) (rest := rest) (lenOf hpd hlen) hs (by show 2 * 0 + _ ≤ _; omega) (hb hby hd) (fun _ _ => ⟨rfl, eT, hC, hS⟩)
  dsimp only [Pt.U, Pt.locs, Pt.cells, Pt.slots] at X' l1 y1 z1 st' hQ
  subst l1 y1 z1
  exact ⟨v, T'.heap, hQ.2, W.mk hx hZ hby hml hown hnm hrt hlk hn0 X' (N.app hQ.1) rfl (fun t q => k t (st' t q))⟩
theorem W.callI (A : W l Z n0 y bytes maxl ret R G h pc Ls St C S) {a : Addr} {y' : MethodName} {bytes' : ByteArray} {maxl' : Nat} {R' : Room} {as : Array Value} {idx : Nat} {argsL rest : List Value} {ps : List FieldType} {rr : Option FieldType} (hd : decode bytes pc = .ok (.invokespecial idx, 3)) (hy1 : y'.name = "<init>")
    (w1 : (Jvm.Cond.methodLink y.cls idx y').before a0 Z = true) (w2 : (Jvm.Cond.instanceMethod y').before a0 Z = true) (w3 : (Jvm.Cond.initialized y'.cls).before a0 Z = true) (w4 : (Jvm.Cond.code y' bytes' maxl' none).before a0 Z = true) (hM : Ctr l Z n0 y' bytes' maxl' none [] R' as h Q) (has : (.ref a :: argsL).toArray = as) (hs : St = argsL.reverse ++ .ref a :: rest)
    (hpd : parseMethodDescriptor y'.desc = some ⟨ps, rr⟩) (hlen : argsL.length = ps.length) (hsz : Ls.size = maxl) (hy : y'.cls ≠ "java/lang/invoke/MethodHandle" ∧ y'.cls ≠ "java/lang/invoke/VarHandle") (hf : R'.frames + 1 ≤ R.frames) (hlo : (rest.map fun v => v.category).sum + (maxl' + 11) + R'.locals ≤ R.locals) (hC : C + R'.cells ≤ R.cells) (hS : S + R'.slots ≤ R.slots) (hC' : C + R'.cells = C') (hS' : S + R'.slots = S') (hp : pc + 3 = pc') :
    ∃ v h', Q v h' ∧ W l Z n0 y bytes maxl ret R G h' pc' Ls (v.toList ++ rest) C' S' := by
  subst hp hC' hS' has
  obtain ⟨p, e, s, m, args, below, meth, c, st⟩ := G
  obtain ⟨hx, hZ, hby, hml, hown, hnm, hrt, hlk, hn0, T, locs, X, N, eT, k⟩ := A
  obtain ⟨v, _, ⟨T', L', k', n'⟩, -, X', ⟨Lc, hQ, l1, y1, z1⟩, st'⟩ := X.specialBack hx (y := y') hy1 hown (mvT hZ w1) (mvT hZ w2) (mvT hZ w4) hy (backOf (Q := fun v h L => Fr n0 L ∧ Q v h) (W := (rest.map fun v => v.category).sum) hM hZ w4 w3 hf hlo) (g := mkF m pc Ls St) rfl (by rw [hml]; exact hsz) (Steps.refl _) (a := a) (argsL := argsL) (rest := rest) (lenOf hpd hlen) hs (by show 2 * 0 + _ ≤ _; omega) (hb hby hd) (fun _ _ => ⟨rfl, eT, hC, hS⟩)
  dsimp only [Pt.U, Pt.locs, Pt.cells, Pt.slots] at X' l1 y1 z1 st' hQ
  subst l1 y1 z1
  exact ⟨v, T'.heap, hQ.2, W.mk hx hZ hby hml hown hnm hrt hlk hn0 X' (N.app hQ.1) rfl (fun t q => k t (st'.trans q))⟩
theorem W.callV (A : W l Z n0 y bytes maxl ret R G h pc Ls St C S) {a : Addr} {K : String} {y' z' : MethodName} {bytes' : ByteArray} {maxl' : Nat} {ret' : Option FieldType} {R' : Room} {as : Array Value} {idx : Nat} {argsL rest : List Value} {ps : List FieldType} {rr : Option FieldType} (hd : decode bytes pc = .ok (.invokevirtual idx, 3)) (E : Exa Z h a K)
    (w1 : (Jvm.Cond.methodLink y.cls idx y').before a0 Z = true) (wd : (Jvm.Cond.declares y').before a0 Z = true) (hnf : ∀ {s : State}, Z.Warmed39 s.vm → NotFace s y') (ws : (Jvm.Cond.selects K y' z').before a0 Z = true) (w2 : (Jvm.Cond.instanceMethod z').before a0 Z = true) (w3 : (Jvm.Cond.initialized z'.cls).before a0 Z = true) (w4 : (Jvm.Cond.code z' bytes' maxl' ret').before a0 Z = true) (hM : Ctr l Z n0 z' bytes' maxl' ret' [] R' as h Q) (has : (.ref a :: argsL).toArray = as) (hs : St = argsL.reverse ++ .ref a :: rest)
    (hpd : parseMethodDescriptor y'.desc = some ⟨ps, rr⟩) (hlen : argsL.length = ps.length) (hsz : Ls.size = maxl) (hy : y'.cls ≠ "java/lang/invoke/MethodHandle" ∧ y'.cls ≠ "java/lang/invoke/VarHandle") (hf : R'.frames + 1 ≤ R.frames) (hlo : (rest.map fun v => v.category).sum + (maxl' + 11) + R'.locals ≤ R.locals) (hC : C + R'.cells ≤ R.cells) (hS : S + R'.slots ≤ R.slots) (hC' : C + R'.cells = C') (hS' : S + R'.slots = S') (hp : pc + 3 = pc') :
    ∃ v h', Q v h' ∧ W l Z n0 y bytes maxl ret R G h' pc' Ls (v.toList ++ rest) C' S' := by
  subst hp hC' hS' has
  obtain ⟨p, e, s, m, args, below, meth, c, st⟩ := G
  obtain ⟨hx, hZ, hby, hml, hown, hnm, hrt, hlk, hn0, T, locs, X, N, eT, k⟩ := A
  obtain ⟨cq, kq, qa, qb, qc⟩ := isOf hZ eT E
  obtain ⟨v, _, ⟨T', L', k', n'⟩, -, X', ⟨Lc, hQ, l1, y1, z1⟩, st'⟩ := X.virtualBack hx (y := y') (z := z') hown (mvT hZ w1) (mvT hZ wd) (hnf hZ) (mvT hZ ws) (mvT hZ w2) hy (backOf (Q := fun v h L => Fr n0 L ∧ Q v h) (W := (rest.map fun v => v.category).sum) hM hZ w4 w3 hf hlo) qa qc (g := mkF m pc Ls St) rfl (by rw [hml]; exact hsz) (Steps.refl _) (argsL := argsL) (rest := rest) (lenOf hpd hlen) hs (by show 2 * 0 + _ ≤ _; omega) (hb hby hd) (fun _ _ => ⟨rfl, eT, hC, hS⟩)
  dsimp only [Pt.U, Pt.locs, Pt.cells, Pt.slots] at X' l1 y1 z1 st' hQ
  subst l1 y1 z1
  exact ⟨v, T'.heap, hQ.2, W.mk hx hZ hby hml hown hnm hrt hlk hn0 X' (N.app hQ.1) rfl (fun t q => k t (st'.trans q))⟩
theorem W.callP (A : W l Z n0 y bytes maxl ret R G h pc Ls St C S) {a : Addr} {K : String} {kk : Nat} {y' : MethodName} {bytes' : ByteArray} {maxl' : Nat} {ret' : Option FieldType} {R' : Room} {as : Array Value} {idx : Nat} {argsL rest : List Value} {ps : List FieldType} {rr : Option FieldType} (hd : decode bytes pc = .ok (.invokevirtual idx, 3)) (E : Exa Z h a K)
    (w1 : (Jvm.Cond.methodLink y.cls idx y').before a0 Z = true) (w2 : (Jvm.Cond.instanceMethod y').before a0 Z = true) (wp : (Jvm.Cond.privateMethod y').before a0 Z = true) (wi : (Jvm.Cond.instantiable y'.cls kk).before a0 Z = true) (w3 : (Jvm.Cond.initialized y'.cls).before a0 Z = true) (w4 : (Jvm.Cond.code y' bytes' maxl' ret').before a0 Z = true) (hM : Ctr l Z n0 y' bytes' maxl' ret' [] R' as h Q) (has : (.ref a :: argsL).toArray = as) (hs : St = argsL.reverse ++ .ref a :: rest)
    (hpd : parseMethodDescriptor y'.desc = some ⟨ps, rr⟩) (hlen : argsL.length = ps.length) (hsz : Ls.size = maxl) (hy : y'.cls ≠ "java/lang/invoke/MethodHandle" ∧ y'.cls ≠ "java/lang/invoke/VarHandle") (hf : R'.frames + 1 ≤ R.frames) (hlo : (rest.map fun v => v.category).sum + (maxl' + 11) + R'.locals ≤ R.locals) (hC : C + R'.cells ≤ R.cells) (hS : S + R'.slots ≤ R.slots) (hC' : C + R'.cells = C') (hS' : S + R'.slots = S') (hp : pc + 3 = pc') :
    ∃ v h', Q v h' ∧ W l Z n0 y bytes maxl ret R G h' pc' Ls (v.toList ++ rest) C' S' := by
  subst hp hC' hS' has
  obtain ⟨p, e, s, m, args, below, meth, c, st⟩ := G
  obtain ⟨hx, hZ, hby, hml, hown, hnm, hrt, hlk, hn0, T, locs, X, N, eT, k⟩ := A
  obtain ⟨cq, q1, q2⟩ := E.cell
  have hpv := Cond.privateMethod_at (mvP (args := args) hZ wp)
  obtain ⟨ci, ki, i1, i2, -, i3, -, -⟩ := Cond.instantiable_spec (mvT (args := args) hZ wi)
  have hsel := selects_self_of_private (args := args) i1 i2 (Bool.or_eq_false_iff.mp i3).1 hpv (mvT hZ w2) hy
  obtain ⟨v, _, ⟨T', L', k', n'⟩, -, X', ⟨Lc, hQ, l1, y1, z1⟩, st'⟩ := X.privateBack hx (y := y') hown (mvT hZ w1) (mvT hZ w2) hsel hpv (mvT hZ w4) hy (backOf (Q := fun v h L => Fr n0 L ∧ Q v h) (W := (rest.map fun v => v.category).sum) hM hZ w4 w3 hf hlo) (g := mkF m pc Ls St) rfl (by rw [hml]; exact hsz) (Steps.refl _) (a := a) (by rw [eT]; exact q1) q2 (argsL := argsL) (rest := rest) (lenOf hpd hlen) hs (by show 2 * 0 + _ ≤ _; omega) (hb hby hd) (fun _ _ => ⟨rfl, eT, hC, hS⟩)
  dsimp only [Pt.U, Pt.locs, Pt.cells, Pt.slots] at X' l1 y1 z1 st' hQ
  subst l1 y1 z1
  exact ⟨v, T'.heap, hQ.2, W.mk hx hZ hby hml hown hnm hrt hlk hn0 X' (N.app hQ.1) rfl (fun t q => k t (st'.trans q))⟩
theorem W.kI {P : Int32 → Heap → Prop} {rest : List Value} (q : ∃ v h', QI P v h' ∧ W l Z n0 y bytes maxl ret R G h' pc Ls (v.toList ++ rest) C S) : ∃ r h', P r h' ∧ W l Z n0 y bytes maxl ret R G h' pc Ls (.int r :: rest) C S := by
  obtain ⟨v, h', ⟨r, rfl, hP⟩, A⟩ := q; exact ⟨r, h', hP, A⟩
theorem W.kJ {P : Int64 → Heap → Prop} {rest : List Value} (q : ∃ v h', QJ P v h' ∧ W l Z n0 y bytes maxl ret R G h' pc Ls (v.toList ++ rest) C S) : ∃ r h', P r h' ∧ W l Z n0 y bytes maxl ret R G h' pc Ls (.long r :: rest) C S := by
  obtain ⟨v, h', ⟨r, rfl, hP⟩, A⟩ := q; exact ⟨r, h', hP, A⟩
theorem W.kA {P : Addr → Heap → Prop} {rest : List Value} (q : ∃ v h', QA P v h' ∧ W l Z n0 y bytes maxl ret R G h' pc Ls (v.toList ++ rest) C S) : ∃ r h', P r h' ∧ W l Z n0 y bytes maxl ret R G h' pc Ls (.ref r :: rest) C S := by
  obtain ⟨v, h', ⟨r, rfl, hP⟩, A⟩ := q; exact ⟨r, h', hP, A⟩
theorem W.kV {P : Heap → Prop} {rest : List Value} (q : ∃ v h', QV P v h' ∧ W l Z n0 y bytes maxl ret R G h' pc Ls (v.toList ++ rest) C S) : ∃ h', P h' ∧ W l Z n0 y bytes maxl ret R G h' pc Ls rest C S := by
  obtain ⟨v, h', ⟨rfl, hP⟩, A⟩ := q; exact ⟨h', hP, A⟩
end Walk
end Jvm.Pilot.@@N@@
namespace Jvm.Pilot.@@N@@
open Jvm Jvm.ClassFile Sem Op Lib Jvm.Free Jvm.Stand Jvm.LawKit Jvm.RoadKit Bundle
/-! numbers -/
theorem rng32 (x : Int32) : -2147483648 ≤ x.toInt ∧ x.toInt < 2147483648 := ⟨x.le_toInt, x.toInt_lt⟩
theorem rng64 (x : Int64) : -9223372036854775808 ≤ x.toInt ∧ x.toInt < 9223372036854775808 := ⟨x.le_toInt, x.toInt_lt⟩
theorem add32 (x y : Int32) (h1 : -2147483648 ≤ x.toInt + y.toInt) (h2 : x.toInt + y.toInt < 2147483648) : (x + y).toInt = x.toInt + y.toInt := by
  have e := c_iadd x y; have r := rng32 (x + y); omega
theorem sub32 (x y : Int32) (h1 : -2147483648 ≤ x.toInt - y.toInt) (h2 : x.toInt - y.toInt < 2147483648) : (x - y).toInt = x.toInt - y.toInt := by
  have e := c_isub x y; have r := rng32 (x - y); omega
theorem mul32 (x y : Int32) (h1 : -2147483648 ≤ x.toInt * y.toInt) (h2 : x.toInt * y.toInt < 2147483648) : (x * y).toInt = x.toInt * y.toInt := by
  have e := c_imul x y; have r := rng32 (x * y); generalize x.toInt * y.toInt = z at *; omega
theorem add64 (x y : Int64) (h1 : -9223372036854775808 ≤ x.toInt + y.toInt) (h2 : x.toInt + y.toInt < 9223372036854775808) : (x + y).toInt = x.toInt + y.toInt := by
  have e := c_ladd x y; have r := rng64 (x + y); omega
theorem sub64 (x y : Int64) (h1 : -9223372036854775808 ≤ x.toInt - y.toInt) (h2 : x.toInt - y.toInt < 9223372036854775808) : (x - y).toInt = x.toInt - y.toInt := by
  have e := c_lsub x y; have r := rng64 (x - y); omega
theorem mul64 (x y : Int64) (h1 : -9223372036854775808 ≤ x.toInt * y.toInt) (h2 : x.toInt * y.toInt < 9223372036854775808) : (x * y).toInt = x.toInt * y.toInt := by
  have e := c_lmul x y; have r := rng64 (x * y); generalize x.toInt * y.toInt = z at *; omega
theorem mulc32 (x c : Int32) (k : Int) (hc : c.toInt = k) (h1 : -2147483648 ≤ x.toInt * k) (h2 : x.toInt * k < 2147483648) : (x * c).toInt = x.toInt * k := by
  subst hc; exact mul32 x c h1 h2
theorem mulc64 (x c : Int64) (k : Int) (hc : c.toInt = k) (h1 : -9223372036854775808 ≤ x.toInt * k) (h2 : x.toInt * k < 9223372036854775808) : (x * c).toInt = x.toInt * k := by
  subst hc; exact mul64 x c h1 h2
theorem addc32 (x c : Int32) (k : Int) (hc : c.toInt = k) (h1 : -2147483648 ≤ x.toInt + k) (h2 : x.toInt + k < 2147483648) : (x + c).toInt = x.toInt + k := by
  subst hc; exact add32 x c h1 h2
theorem subc32 (x c : Int32) (k : Int) (hc : c.toInt = k) (h1 : -2147483648 ≤ x.toInt - k) (h2 : x.toInt - k < 2147483648) : (x - c).toInt = x.toInt - k := by
  subst hc; exact sub32 x c h1 h2
theorem sta_int {args : Array Value} {s : State} {C n d : String} {v : Int32} (h : (Jvm.Cond.eq (Jvm.Term.static C n d) (Jvm.Term.int v)).value args s none s [] = some true) : (Jvm.Term.static C n d).eval args s none [] s = some (.int v) := by
  obtain ⟨a, b, h1, h2, -, -⟩ := cmp_v (Or.inl h)
  cases Option.some.inj (h2.symm.trans (rfl : (Jvm.Term.int v).eval args s none [] s = some (.int v)))
  rw [h1]; cases a <;> simp [Cond.value, h1, h2] at h ⊢; exact h
theorem sta_long {args : Array Value} {s : State} {C n d : String} {v : Int64} (h : (Jvm.Cond.eq (Jvm.Term.static C n d) (Jvm.Term.long v)).value args s none s [] = some true) : (Jvm.Term.static C n d).eval args s none [] s = some (.long v) := by
  obtain ⟨a, b, h1, h2, -, -⟩ := cmp_v (Or.inl h)
  cases Option.some.inj (h2.symm.trans (rfl : (Jvm.Term.long v).eval args s none [] s = some (.long v)))
  rw [h1]; cases a <;> simp [Cond.value, h1, h2] at h ⊢; exact h
/-- (y & 0x7fffffff) % m -/
theorem pmod32 (x m : Int32) (M : Int) (hm : m.toInt = M) (hM : 0 < M) : ((x &&& (2147483647 : Int32)) % m).toInt = (x.toInt % 2147483648) % M ∧ 0 ≤ ((x &&& (2147483647 : Int32)) % m).toInt ∧ ((x &&& (2147483647 : Int32)) % m).toInt < M := by
  have e : (x &&& (2147483647 : Int32)).toInt = x.toInt % 2147483648 := c_mask x 2147483647 31 (by decide) (by decide)
  have q := (c_irem (x &&& (2147483647 : Int32)) m M hm).1 (by omega)
  have := Int.emod_nonneg (x.toInt % 2147483648) (show M ≠ 0 by omega)
  have := Int.emod_lt_of_pos (x.toInt % 2147483648) hM
  rw [q, e]; omega
/-- (x & Long.MAX_VALUE) % m -/
theorem pmod64 (x m : Int64) (M : Int) (hm : m.toInt = M) (hM : 0 < M) : 0 ≤ ((x &&& (9223372036854775807 : Int64)) % m).toInt ∧ ((x &&& (9223372036854775807 : Int64)) % m).toInt < M := by
  have e : (x &&& (9223372036854775807 : Int64)).toInt = x.toInt % 9223372036854775808 := c_maskL x 9223372036854775807 63 (by decide) (by decide)
  have q := (c_lrem (x &&& (9223372036854775807 : Int64)) m M hm).1 (by omega)
  rw [lrem_mod] at q
  have := Int.emod_nonneg (x.toInt % 9223372036854775808) (show M ≠ 0 by omega)
  have := Int.emod_lt_of_pos (x.toInt % 9223372036854775808) hM
  rw [q, e]; omega
end Jvm.Pilot.@@N@@
namespace Jvm.Pilot.@@N@@
open Jvm Jvm.ClassFile Sem Op Lib Jvm.Free Jvm.Stand Jvm.LawKit Jvm.RoadKit Bundle Jvm.Pilot.@@N@@.Jvm.D
section Heaps
variable {l : Launch} {Z : State} {n0 : Nat} {y : MethodName} {bytes : ByteArray} {maxl : Nat} {ret : Option FieldType} {R : Room} {G : Cx} {h h' : Heap} {pc pc' : Nat} {Ls : Array Slot} {St : List Value} {C S C' S' : Nat} {Q : Option Value → Heap → Prop} {a0 : Array Value} {a b : Addr}
/-- a step that moves the state and keeps the heap -/
theorem W.stepT (A : W l Z n0 y bytes maxl ret R G h pc Ls St C S) {Ls' : Array Slot} {St' : List Value}
    (f : ∀ {p : Program} {e : Env} {s : State} {m : MethodId} {args : Array Value} {below : List Frame} {meth : Method} {c : Code} {T : State} {locs : List Loc}, Stand p l e R s m args below meth c T locs C S → p.tables.exec = Jvm.exec → Z.Warmed39 s.vm → s.vm.findClass y.cls = some m.cls → c.code = bytes → c.maxLocals = maxl → T.heap = h →
      ∃ T', Stand p l e R s m args below meth c T' locs C S ∧ T'.heap = h ∧ ∀ t, Steps p.tables e below (T'.setTop (mkF m pc' Ls' St')) t → Steps p.tables e below (T.setTop (mkF m pc Ls St)) t) : W l Z n0 y bytes maxl ret R G h pc' Ls' St' C S := by
  obtain ⟨p, e, s, m, args, below, meth, c, st⟩ := G
  obtain ⟨hx, hZ, hby, hml, hown, hnm, hrt, hlk, hn0, T, locs, X, N, eT, k⟩ := A
  obtain ⟨T', X', e', st'⟩ := f X hx hZ hown hby hml eT
  exact W.mk hx hZ hby hml hown hnm hrt hlk hn0 X' N e' (fun t q => k t (st' t q))
theorem W.getF (A : W l Z n0 y bytes maxl ret R G h pc Ls (.ref a :: St) C S) {index : Nat} {R0 O n d host : String} {v : Value} (hd : decode bytes pc = .ok (.getfield index, 3)) (w : (Jvm.Cond.fieldLink y.cls index R0 n d).before a0 Z = true ∨ (Jvm.Cond.fieldLinkNest y.cls index R0 n d host).before a0 Z = true) (via : Via Z R0 O n d) (F : Fld Z h a O n d v) (hp : pc + 3 = pc') : W l Z n0 y bytes maxl ret R G h pc' Ls (v :: St) C S := by
  subst hp; exact A.stepT fun X hx hZ hown q _ eT => RoadKit.getF X hx hZ hown w via eT F (g := mkF _ _ _ _) rfl rfl (hb q hd)
theorem W.getS (A : W l Z n0 y bytes maxl ret R G h pc Ls St C S) {index : Nat} {R0 O n d host : String} {v : Value} (hd : decode bytes pc = .ok (.getstatic index, 3)) (w : (Jvm.Cond.fieldLink y.cls index R0 n d).before a0 Z = true ∨ (Jvm.Cond.fieldLinkNest y.cls index R0 n d host).before a0 Z = true) (via : Via Z R0 O n d) (F : Sta Z h O n d v) (hp : pc + 3 = pc') : W l Z n0 y bytes maxl ret R G h pc' Ls (v :: St) C S := by
  subst hp; exact A.stepT fun X hx hZ hown q _ eT => getS2 X hx hZ hown w via eT F (g := mkF _ _ _ _) rfl (hb q hd)
theorem W.initO (A : W l Z n0 y bytes maxl ret R G h pc Ls (.ref a :: St) C S) {idx : Nat} (hd : decode bytes pc = .ok (.invokespecial idx, 3)) (w1 : (Jvm.Cond.methodLink y.cls idx Lib.objectInit).before a0 Z = true) (w2 : (Jvm.Cond.instanceMethod Lib.objectInit).before a0 Z = true) (w3 : (Jvm.Cond.code Lib.objectInit ⟨#[0xb1]⟩ 1 none).before a0 Z = true) (hsz : Ls.size = maxl) (hf : 1 ≤ R.frames) (hlo : (St.map fun v => v.category).sum + 12 ≤ R.locals) (hp : pc + 3 = pc') : W l Z n0 y bytes maxl ret R G h pc' Ls St C S := by
  subst hp; exact A.stepT fun X hx hZ hown q hml eT => RoadKit.initO X hx hZ hown w1 w2 w3 eT (g := mkF _ _ _ _) rfl (by rw [hml]; exact hsz) rfl (hb q hd) hf (W := (St.map fun v => v.category).sum) (by show 2 * 0 + _ ≤ _; omega) hlo
theorem W.cast0 (A : W l Z n0 y bytes maxl ret R G h pc Ls (.ref a :: St) C S) {index : Nat} {K : String} (hd : decode bytes pc = .ok (.checkcast index, 3)) (w : (Jvm.Cond.classLink y.cls index K).before a0 Z = true) (F : Ins Z h a K true) (hp : pc + 3 = pc') : W l Z n0 y bytes maxl ret R G h pc' Ls (.ref a :: St) C S := by
  subst hp; exact A.stepT fun X hx hZ hown q _ eT => castY X hx hZ hown w eT F (g := mkF _ _ _ _) rfl rfl (hb q hd)
theorem W.inst1 (A : W l Z n0 y bytes maxl ret R G h pc Ls (.ref a :: St) C S) {index : Nat} {K : String} (hd : decode bytes pc = .ok (.instanceof index, 3)) (w : (Jvm.Cond.classLink y.cls index K).before a0 Z = true) (F : Ins Z h a K true) (hp : pc + 3 = pc') : W l Z n0 y bytes maxl ret R G h pc' Ls (.int 1 :: St) C S := by
  subst hp; exact A.stepT fun X hx hZ hown q _ eT => instY X hx hZ hown w eT F (g := mkF _ _ _ _) rfl rfl (hb q hd)
theorem W.putF {v : Value} (A : W l Z n0 y bytes maxl ret R G h pc Ls (v :: .ref a :: St) C S) {index kk : Nat} {R0 O n d host K : String} {ty : FieldType} {old : Value} (hd : decode bytes pc = .ok (.putfield index, 3)) (w : (Jvm.Cond.fieldLink y.cls index R0 n d).before a0 Z = true ∨ (Jvm.Cond.fieldLinkNest y.cls index R0 n d host).before a0 Z = true) (via : Via Z R0 O n d)
    (F : Fld Z h a O n d old) (E : Exa Z h a K) (Lw : (Jvm.Cond.lays K O n d).before a0 Z = true ∨ ((Jvm.Cond.laysFinal K O n d).before a0 Z = true ∧ y.cls = O ∧ y.name = "<init>")) (wi : (Jvm.Cond.instantiable K kk).before a0 Z = true) (hty : parseFieldDescriptor d = some ty) (hn : narrow ty v = v) (hf : fits ty v = true) (ga : n0 ≤ a) (hp : pc + 3 = pc') :
    ∃ h', Wr h h' a (Jvm.RoadKit.slotOf Z O n d) v ∧ W l Z n0 y bytes maxl ret R G h' pc' Ls St C S := by
  subst hp
  obtain ⟨p, e, s, m, args, below, meth, c, st⟩ := G
  obtain ⟨hx, hZ, hby, hml, hown, hnm, hrt, hlk, hn0, T, locs, X, N, eT, k⟩ := A
  obtain ⟨T', h', X', e', W', st'⟩ := RoadKit.putF X hx hZ hown w via eT F E (Lw.imp id fun q => ⟨q.1, q.2.1, hnm.trans q.2.2⟩) wi hty hn hf (g := mkF m pc Ls _) rfl rfl (hb hby hd)
  exact ⟨h', W', W.mk hx hZ hby hml hown hnm hrt hlk hn0 X' (Fr.snoc X' N ga) e' (fun t q => k t (st' t q))⟩
theorem W.putFN {v v' : Value} (A : W l Z n0 y bytes maxl ret R G h pc Ls (v :: .ref a :: St) C S) {index kk : Nat} {R0 O n d K : String} {ty : FieldType} {old : Value} (hd : decode bytes pc = .ok (.putfield index, 3)) (w : (Jvm.Cond.fieldLink y.cls index R0 n d).before a0 Z = true) (via : Via Z R0 O n d)
    (F : Fld Z h a O n d old) (E : Exa Z h a K) (Lw : (Jvm.Cond.lays K O n d).before a0 Z = true ∨ ((Jvm.Cond.laysFinal K O n d).before a0 Z = true ∧ y.cls = O ∧ y.name = "<init>")) (wi : (Jvm.Cond.instantiable K kk).before a0 Z = true) (hty : parseFieldDescriptor d = some ty) (hn : narrow ty v = v') (hf : fits ty v' = true) (ga : n0 ≤ a) (hp : pc + 3 = pc') :
    ∃ h', Wr h h' a (Jvm.RoadKit.slotOf Z O n d) v' ∧ W l Z n0 y bytes maxl ret R G h' pc' Ls St C S := by
  subst hp
  obtain ⟨p, e, s, m, args, below, meth, c, st⟩ := G
  obtain ⟨hx, hZ, hby, hml, hown, hnm, hrt, hlk, hn0, T, locs, X, N, eT, k⟩ := A
  obtain ⟨T', h', X', e', W', st'⟩ := RoadKit.putFN X hx hZ hown w via eT F E (Lw.imp id fun q => ⟨q.1, q.2.1, hnm.trans q.2.2⟩) wi hty hn hf (g := mkF m pc Ls _) rfl rfl (hb hby hd)
  exact ⟨h', W', W.mk hx hZ hby hml hown hnm hrt hlk hn0 X' (Fr.snoc X' N ga) e' (fun t q => k t (st' t q))⟩
theorem W.newO (A : W l Z n0 y bytes maxl ret R G h pc Ls St C S) {index n : Nat} {K : String} (hd : decode bytes pc = .ok (.new index, 3)) (w : (Jvm.Cond.classLink y.cls index K).before a0 Z = true) (wi : (Jvm.Cond.instantiable K n).before a0 Z = true) (wz : (Jvm.Cond.initialized K).before a0 Z = true) (hC : C + 1 ≤ R.cells) (hS : S + n ≤ R.slots) (hC' : C + 1 = C') (hS' : S + n = S') (hp : pc + 3 = pc') :
    ∃ h' b, b = h.size ∧ n0 ≤ b ∧ Ext h h' ∧ Exa Z h' b K ∧ (∀ {O nm d : String} {ty : FieldType}, Laid Z a0 K O nm d → parseFieldDescriptor d = some ty → Fld Z h' b O nm d (defaultValue ty)) ∧ W l Z n0 y bytes maxl ret R G h' pc' Ls (.ref b :: St) C' S' := by
  subst hp hC' hS'
  have hsz := A.size
  obtain ⟨p, e, s, m, args, below, meth, c, st⟩ := G
  obtain ⟨hx, hZ, hby, hml, hown, hnm, hrt, hlk, hn0, T, locs, X, N, eT, k⟩ := A
  obtain ⟨T', h', X', e', E', A', D', -, st'⟩ := RoadKit.newO X hx hZ hown w wi wz eT (g := mkF m pc Ls St) rfl (hb hby hd) hC hS
  exact ⟨h', h.size, rfl, hsz, E', A', D', W.mk hx hZ hby hml hown hnm hrt hlk hn0 X' N e' (fun t q => k t (st' t q))⟩
/-! arrays: what each place holds, by a function of the place -/
def Ars (Z : State) (h : Heap) (a : Addr) (ty : FieldType) (N : Nat) (f : Nat → Value) : Prop := ∃ c : Cell, Arr Z h a c ty ∧ c.slots.size = N ∧ N < 2 ^ 31 ∧ ∀ j, j < N → c.slots[j]? = some (f j) ∧ fits ty (f j) = true
def upd (f : Nat → Value) (i : Nat) (v : Value) : Nat → Value := fun j => if j = i then v else f j
theorem upd_same (f : Nat → Value) (i : Nat) (v : Value) : upd f i v i = v := by simp [upd]
theorem upd_ne (f : Nat → Value) {i j : Nat} (v : Value) (q : j ≠ i) : upd f i v j = f j := by simp [upd, q]
variable {ty : FieldType} {N : Nat} {f : Nat → Value} {ws : List Addr} {sl : Nat} {v : Value}
theorem Ars.lt (F : Ars Z h a ty N f) : a < h.size := by obtain ⟨c, A, -⟩ := F; exact A.lt
theorem Ars.ext (F : Ars Z h a ty N f) (E : Ext h h') : Ars Z h' a ty N f := by obtain ⟨c, A, r⟩ := F; exact ⟨c, A.ext E, r⟩
theorem Ars.other (F : Ars Z h b ty N f) (V : Wr h h' a sl v) (q : b ≠ a) : Ars Z h' b ty N f := by obtain ⟨c, A, r⟩ := F; exact ⟨c, A.other V q, r⟩
theorem Ars.keep (F : Ars Z h a ty N f) (K : Keep h h' ws) (q : a ∉ ws) : Ars Z h' a ty N f := by obtain ⟨c, A, r⟩ := F; exact ⟨c, ⟨K.2.1 a c A.1 q, A.2⟩, r⟩
theorem Ars.same {i : Nat} (F : Ars Z h a ty N f) (V : Wr h h' a i v) (hi : i < N) (hf : fits ty v = true) : Ars Z h' a ty N (upd f i v) := by
  obtain ⟨c, A, hs, hN, hv⟩ := F
  refine ⟨_, A.same V, by rw [sz_set]; exact hs, hN, fun j hj => ?_⟩
  by_cases q : j = i
  · subst q; exact ⟨by simp [Cell.setSlot, upd, hs, hj], by simp only [upd, if_pos]; exact hf⟩
  · simp only [Cell.setSlot, upd, if_neg q]; rw [Array.getElem?_setIfInBounds_ne (Ne.symm q)]; exact hv j hj
theorem Ars.fn {g : Nat → Value} (F : Ars Z h a ty N f) (q : ∀ j, j < N → f j = g j) : Ars Z h a ty N g := by
  obtain ⟨c, A, hs, hN, hv⟩ := F; exact ⟨c, A, hs, hN, fun j hj => by rw [← q j hj]; exact hv j hj⟩
theorem Ars.size (F : Ars Z h a ty N f) : N < 2 ^ 31 := by obtain ⟨c, A, hs, hN, hv⟩ := F; exact hN
theorem inb {j : Int32} {i N : Nat} {c : Cell} (hs : c.slots.size = N) (hj : j.toInt = i) (hi : i < N) : ¬ (j < 0 ∨ c.slots.size ≤ j.toNatClampNeg) ∧ j.toNatClampNeg = i := by
  have e0 : (0 : Int32).toInt = 0 := rfl
  rw [hs, Int32.lt_iff_toInt_lt]; simp only [Int32.toNatClampNeg]; omega
theorem W.newP (A : W l Z n0 y bytes maxl ret R G h pc Ls (.int z :: St) C S) {aty : ArrayType} {N cap : Nat} (hd : decode bytes pc = .ok (.newarray aty, 2)) (w : (Jvm.Cond.arrayClass (newarray.typeOf aty)).before a0 Z = true) (hz : z.toInt = N) (hcap : N ≤ cap) (hcb : cap * 8 ≤ 536870912) (hC : C + 1 ≤ R.cells) (hS : S + cap ≤ R.slots) (hC' : C + 1 = C') (hS' : S + cap = S') (hp : pc + 2 = pc') {ad : String} (had : "[" ++ (newarray.typeOf aty).toString = ad) :
    ∃ h' b, b = h.size ∧ n0 ≤ b ∧ Ext h h' ∧ Ars Z h' b (newarray.typeOf aty) N (fun _ => defaultValue (newarray.typeOf aty)) ∧ Exa Z h' b ad ∧ W l Z n0 y bytes maxl ret R G h' pc' Ls (.ref b :: St) C' S' := by
  subst hp hC' hS'
  have hsz := A.size
  have e0 : (0 : Int32).toInt = 0 := rfl
  have hneg : ¬ z < 0 := by rw [Int32.lt_iff_toInt_lt]; omega
  have hcl : z.toNatClampNeg = N := by simp only [Int32.toNatClampNeg]; omega
  obtain ⟨p, e, s, m, args, below, meth, c, st⟩ := G
  obtain ⟨hx, hZ, hby, hml, hown, hnm, hrt, hlk, hn0, T, locs, X, Nf, eT, k⟩ := A
  obtain ⟨T', h', kA, X', e', E', A', Ex', st'⟩ := newPE X hx hZ w eT (g := mkF m pc Ls _) rfl (hb hby hd) rfl hneg (cap := cap) (by omega) hcb hC hS had
  refine ⟨h', h.size, rfl, hsz, E', ⟨_, A', by rw [sz_new, hcl], by omega, fun j hj => ?_⟩, Ex', W.mk hx hZ hby hml hown hnm hrt hlk hn0 X' Nf e' (fun t q => k t (st' t q))⟩
  exact ⟨by simp [newA, hcl, hj], by cases aty <;> rfl⟩
theorem W.alen (A : W l Z n0 y bytes maxl ret R G h pc Ls (.ref a :: St) C S) (hd : decode bytes pc = .ok (.arraylength, 1)) (F : Ars Z h a ty N f) {z : Int32} (hz : z.toInt = N) (hp : pc + 1 = pc') : W l Z n0 y bytes maxl ret R G h pc' Ls (.int z :: St) C S := by
  subst hp
  obtain ⟨cl, Ar, hs, hN, hv⟩ := F
  have e0 : (0 : Int32).toInt = 0 := rfl
  have hneg : ¬ z < 0 := by rw [Int32.lt_iff_toInt_lt]; omega
  have hcl : cl.slots.size = z.toNatClampNeg := by simp only [Int32.toNatClampNeg]; omega
  exact A.step fun X hx hZ hown q eT r => X.arraylength hx (by rw [eT]; exact Ar.1) (State.isArrayOf_alike hZ.alike Ar.2.1) (g := mkF _ _ _ _) rfl rfl (hb q hd) _ (by rw [len_of hcl hneg]; exact r)
theorem W.iaload {j : Int32} (A : W l Z n0 y bytes maxl ret R G h pc Ls (.int j :: .ref a :: St) C S) (hd : decode bytes pc = .ok (.iaload, 1)) (F : Ars Z h a .int N f) {i : Nat} (hj : j.toInt = i) (hi : i < N) {v : Value} (hv : f i = v) (hp : pc + 1 = pc') : W l Z n0 y bytes maxl ret R G h pc' Ls (v :: St) C S := by
  subst hp
  obtain ⟨cl, Ar, hs, hN, hf⟩ := F
  obtain ⟨q1, q2⟩ := inb hs hj hi
  exact A.step fun X hx hZ hown q eT r => X.iaload hx (by rw [eT]; exact Ar.1) (State.isArrayOf_alike hZ.alike Ar.2.1) Ar.2.2 q1 (by rw [q2, (hf i hi).1, hv]) (g := mkF _ _ _ _) rfl rfl (hb q hd) _ r
theorem W.laload {j : Int32} (A : W l Z n0 y bytes maxl ret R G h pc Ls (.int j :: .ref a :: St) C S) (hd : decode bytes pc = .ok (.laload, 1)) (F : Ars Z h a .long N f) {i : Nat} (hj : j.toInt = i) (hi : i < N) {v : Value} (hv : f i = v) (hp : pc + 1 = pc') : W l Z n0 y bytes maxl ret R G h pc' Ls (v :: St) C S := by
  subst hp
  obtain ⟨cl, Ar, hs, hN, hf⟩ := F
  obtain ⟨q1, q2⟩ := inb hs hj hi
  exact A.step fun X hx hZ hown q eT r => X.laload hx (by rw [eT]; exact Ar.1) (State.isArrayOf_alike hZ.alike Ar.2.1) Ar.2.2 q1 (by rw [q2, (hf i hi).1, hv]) (g := mkF _ _ _ _) rfl rfl (hb q hd) _ r
theorem W.baload {j : Int32} (A : W l Z n0 y bytes maxl ret R G h pc Ls (.int j :: .ref a :: St) C S) (hd : decode bytes pc = .ok (.baload, 1)) (F : Ars Z h a .byte N f) {i : Nat} (hj : j.toInt = i) (hi : i < N) {v : Value} (hv : f i = v) (hp : pc + 1 = pc') : W l Z n0 y bytes maxl ret R G h pc' Ls (v :: St) C S := by
  subst hp
  obtain ⟨cl, Ar, hs, hN, hf⟩ := F
  obtain ⟨q1, q2⟩ := inb hs hj hi
  exact A.step fun X hx hZ hown q eT r => X.baloadBytes hx (by rw [eT]; exact Ar.1) (State.isArrayOf_alike hZ.alike Ar.2.1) Ar.2.2 q1 (by rw [q2, (hf i hi).1, hv]) (g := mkF _ _ _ _) rfl rfl (hb q hd) _ r
theorem W.caload {j : Int32} (A : W l Z n0 y bytes maxl ret R G h pc Ls (.int j :: .ref a :: St) C S) (hd : decode bytes pc = .ok (.caload, 1)) (F : Ars Z h a .char N f) {i : Nat} (hj : j.toInt = i) (hi : i < N) {v : Value} (hv : f i = v) (hp : pc + 1 = pc') : W l Z n0 y bytes maxl ret R G h pc' Ls (v :: St) C S := by
  subst hp
  obtain ⟨cl, Ar, hs, hN, hf⟩ := F
  obtain ⟨q1, q2⟩ := inb hs hj hi
  exact A.step fun X hx hZ hown q eT r => X.caload hx (by rw [eT]; exact Ar.1) (State.isArrayOf_alike hZ.alike Ar.2.1) Ar.2.2 q1 (by rw [q2, (hf i hi).1, hv]) (g := mkF _ _ _ _) rfl rfl (hb q hd) _ r
theorem W.iastore {j x : Int32} (A : W l Z n0 y bytes maxl ret R G h pc Ls (.int x :: .int j :: .ref a :: St) C S) (hd : decode bytes pc = .ok (.iastore, 1)) (F : Ars Z h a .int N f) {i : Nat} (hj : j.toInt = i) (hi : i < N) (ga : n0 ≤ a) (hp : pc + 1 = pc') : ∃ h', Wr h h' a i (.int x) ∧ Ars Z h' a .int N (upd f i (.int x)) ∧ W l Z n0 y bytes maxl ret R G h' pc' Ls St C S := by
  subst hp
  have F0 := F
  obtain ⟨cl, Ar, hs, hN, hf⟩ := F
  obtain ⟨q1, q2⟩ := inb hs hj hi
  obtain ⟨p, e, s, m, args, below, meth, c, st⟩ := G
  obtain ⟨hx, hZ, hby, hml, hown, hnm, hrt, hlk, hn0, T, locs, X, Nf, eT, k⟩ := A
  have hfit : fits .int (.int x) = true := rfl
  obtain ⟨T', h', X', e', W', st'⟩ := stI X hx hZ eT Ar q1 (g := mkF m pc Ls _) rfl rfl (hb hby hd)
  rw [q2] at W'
  exact ⟨h', W', F0.same W' hi hfit, W.mk hx hZ hby hml hown hnm hrt hlk hn0 X' (Fr.snoc X' Nf ga) e' (fun t q => k t (st' t q))⟩
theorem W.lastore {j : Int32} {x : Int64} (A : W l Z n0 y bytes maxl ret R G h pc Ls (.long x :: .int j :: .ref a :: St) C S) (hd : decode bytes pc = .ok (.lastore, 1)) (F : Ars Z h a .long N f) {i : Nat} (hj : j.toInt = i) (hi : i < N) (ga : n0 ≤ a) (hp : pc + 1 = pc') : ∃ h', Wr h h' a i (.long x) ∧ Ars Z h' a .long N (upd f i (.long x)) ∧ W l Z n0 y bytes maxl ret R G h' pc' Ls St C S := by
  subst hp
  have F0 := F
  obtain ⟨cl, Ar, hs, hN, hf⟩ := F
  obtain ⟨q1, q2⟩ := inb hs hj hi
  obtain ⟨p, e, s, m, args, below, meth, c, st⟩ := G
  obtain ⟨hx, hZ, hby, hml, hown, hnm, hrt, hlk, hn0, T, locs, X, Nf, eT, k⟩ := A
  have hfit : fits .long (.long x) = true := rfl
  obtain ⟨T', h', X', e', W', st'⟩ := stJ X hx hZ eT Ar q1 (g := mkF m pc Ls _) rfl rfl (hb hby hd)
  rw [q2] at W'
  exact ⟨h', W', F0.same W' hi hfit, W.mk hx hZ hby hml hown hnm hrt hlk hn0 X' (Fr.snoc X' Nf ga) e' (fun t q => k t (st' t q))⟩
theorem W.bastore {j x : Int32} (A : W l Z n0 y bytes maxl ret R G h pc Ls (.int x :: .int j :: .ref a :: St) C S) (hd : decode bytes pc = .ok (.bastore, 1)) (F : Ars Z h a .byte N f) {i : Nat} (hj : j.toInt = i) (hi : i < N) (ga : n0 ≤ a) (hp : pc + 1 = pc') : ∃ h', Wr h h' a i (.int x.toInt8.toInt32) ∧ Ars Z h' a .byte N (upd f i (.int x.toInt8.toInt32)) ∧ W l Z n0 y bytes maxl ret R G h' pc' Ls St C S := by
  subst hp
  have F0 := F
  obtain ⟨cl, Ar, hs, hN, hf⟩ := F
  obtain ⟨q1, q2⟩ := inb hs hj hi
  obtain ⟨p, e, s, m, args, below, meth, c, st⟩ := G
  obtain ⟨hx, hZ, hby, hml, hown, hnm, hrt, hlk, hn0, T, locs, X, Nf, eT, k⟩ := A
  have hfit : fits .byte (.int x.toInt8.toInt32) = true := fits_nar_byte x
  obtain ⟨T', h', X', e', W', st'⟩ := stB X hx hZ eT Ar q1 (g := mkF m pc Ls _) rfl rfl (hb hby hd)
  rw [q2] at W'
  exact ⟨h', W', F0.same W' hi hfit, W.mk hx hZ hby hml hown hnm hrt hlk hn0 X' (Fr.snoc X' Nf ga) e' (fun t q => k t (st' t q))⟩
theorem W.castore {j x : Int32} (A : W l Z n0 y bytes maxl ret R G h pc Ls (.int x :: .int j :: .ref a :: St) C S) (hd : decode bytes pc = .ok (.castore, 1)) (F : Ars Z h a .char N f) {i : Nat} (hj : j.toInt = i) (hi : i < N) (ga : n0 ≤ a) (hp : pc + 1 = pc') : ∃ h', Wr h h' a i (.int (nar .char x)) ∧ Ars Z h' a .char N (upd f i (.int (nar .char x))) ∧ W l Z n0 y bytes maxl ret R G h' pc' Ls St C S := by
  subst hp
  have F0 := F
  obtain ⟨cl, Ar, hs, hN, hf⟩ := F
  obtain ⟨q1, q2⟩ := inb hs hj hi
  obtain ⟨p, e, s, m, args, below, meth, c, st⟩ := G
  obtain ⟨hx, hZ, hby, hml, hown, hnm, hrt, hlk, hn0, T, locs, X, Nf, eT, k⟩ := A
  have hfit : fits .char (.int (nar .char x)) = true := fits_nar_char x
  obtain ⟨T', h', X', e', W', st'⟩ := stC X hx hZ eT Ar q1 (g := mkF m pc Ls _) rfl rfl (hb hby hd)
  rw [q2] at W'
  exact ⟨h', W', F0.same W' hi hfit, W.mk hx hZ hby hml hown hnm hrt hlk hn0 X' (Fr.snoc X' Nf ga) e' (fun t q => k t (st' t q))⟩
theorem W.clone (A : W l Z n0 y bytes maxl ret R G h pc Ls (.ref a :: St) C S) {index cap : Nat} {ad : String} (hd : decode bytes pc = .ok (.invokevirtual index, 3)) (w1 : (Jvm.Cond.methodLink y.cls index ⟨ad, "clone", "()Ljava/lang/Object;"⟩).before a0 Z = true) (w2 : (Jvm.Cond.sameMethod ad "java/lang/Object" "clone" "()Ljava/lang/Object;").before a0 Z = true) (w3 : (Jvm.Cond.native ⟨"java/lang/Object", "clone", "()Ljava/lang/Object;"⟩).before a0 Z = true)
    (w4 : (Jvm.Cond.instanceMethod ⟨"java/lang/Object", "clone", "()Ljava/lang/Object;"⟩).before a0 Z = true) (w5 : (Jvm.Cond.selects ad ⟨ad, "clone", "()Ljava/lang/Object;"⟩ ⟨"java/lang/Object", "clone", "()Ljava/lang/Object;"⟩).before a0 Z = true) (w6 : (Jvm.Cond.castable ad "java/lang/Cloneable").before a0 Z = true) (F : Ars Z h a ty N f) (E : Exa Z h a ad) (hcap : N ≤ cap) (hsz : Ls.size = maxl) (hf : 1 ≤ R.frames) (hlo : (St.map fun v => v.category).sum + 14 ≤ R.locals) (hC : C + 1 ≤ R.cells) (hS : S + cap ≤ R.slots) (hC' : C + 1 = C') (hS' : S + cap = S') (hp : pc + 3 = pc') :
    ∃ h' b, b = h.size ∧ n0 ≤ b ∧ Ext h h' ∧ Ars Z h' b ty N f ∧ Exa Z h' b ad ∧ W l Z n0 y bytes maxl ret R G h' pc' Ls (.ref b :: St) C' S' := by
  subst hp hC' hS'
  have hs0 := A.size
  obtain ⟨cl, Ar, hs, hN, hv⟩ := F
  have FC : FitC Z cl := fitC_of Ar fun i hi v q => by rw [hs] at hi; rw [(hv i hi).1] at q; cases q; exact (hv i hi).2
  obtain ⟨p, e, s, m, args, below, meth, c, st⟩ := G
  obtain ⟨hx, hZ, hby, hml, hown, hnm, hrt, hlk, hn0, T, locs, X, Nf, eT, k⟩ := A
  obtain ⟨T', h', X', e', E', A', Ex', st'⟩ := cloneA X hx hZ hown w1 w2 w3 w4 w5 w6 eT Ar E FC (g := mkF m pc Ls (.ref a :: St)) rfl (by rw [hml]; exact hsz) rfl (hb hby hd) hf (W := (St.map fun v => v.category).sum) (by show 2 * 0 + _ ≤ _; omega) hlo (by rw [hs]; exact hcap) hC hS
  exact ⟨h', h.size, rfl, hs0, E', ⟨_, A', hs, hN, hv⟩, Ex', W.mk hx hZ hby hml hown hnm hrt hlk hn0 X' Nf e' (fun t q => k t (st' t q))⟩
/-! System.arraycopy -/
def cpy (f : Nat → Value) (i : Nat) (g : Nat → Value) (j k : Nat) : Nat → Value := fun x => if j ≤ x ∧ x < j + k then f (i + (x - j)) else g x
theorem Ars.toArv (F : Ars Z h a ty N f) : ∃ k, Arv Z h a k ty (Int32.ofNat N) ((List.range N).map f) (.int 0) := by
  obtain ⟨c, A, hs, hN, hv⟩ := F
  have e : (Int32.ofNat N).toInt = N := Int32.toInt_ofNat_of_lt hN
  have e0 : (0 : Int32).toInt = 0 := rfl
  have q : (Int32.ofNat N).toNatClampNeg = N := by simp only [Int32.toNatClampNeg]; omega
  have hd : ∀ i, i < N → ((List.range N).map f).getD i (.int 0) = f i := fun i hi => by simp [List.getD_eq_getElem?_getD, hi]
  refine ⟨c.cls, c, A, rfl, by rw [q]; exact hs, by rw [Int32.lt_iff_toInt_lt]; omega, fun i hi => ?_, fun i hi => ?_⟩
  · rw [hs] at hi; rw [hd i hi]; exact (hv i hi).1
  · rw [hs] at hi; rw [hd i hi]; exact (hv i hi).2
theorem W.acopy {b : Addr} {sp dp nn : Int32} (A : W l Z n0 y bytes maxl ret R G h pc Ls (.int nn :: .int dp :: .ref b :: .int sp :: .ref a :: St) C S) {idx i j k N' : Nat} {g : Nat → Value} (hd : decode bytes pc = .ok (.invokestatic idx, 3)) (w1 : (Jvm.Cond.methodLink y.cls idx Jvm.Stand.acN).before a0 Z = true) (w2 : (Jvm.Cond.native Jvm.Stand.acN).before a0 Z = true) (w3 : (Jvm.Cond.static Jvm.Stand.acN).before a0 Z = true) (w4 : (Jvm.Cond.initialized "java/lang/System").before a0 Z = true)
    (F : Ars Z h a ty N f) (D : Ars Z h b ty N' g) (hty : refKind ty = false) (hsp : sp.toInt = i) (hdp : dp.toInt = j) (hnn : nn.toInt = k) (h4 : i + k ≤ N) (h5 : j + k ≤ N') (gb : n0 ≤ b) (hsz : Ls.size = maxl) (hf : 1 ≤ R.frames) (hlo : (St.map fun v => v.category).sum + (nativeFrameWords "java/lang/System" "arraycopy" 5 + 11) ≤ R.locals) (hp : pc + 3 = pc') :
    ∃ h', Keep h h' [b] ∧ Ars Z h' b ty N' (cpy f i g j k) ∧ W l Z n0 y bytes maxl ret R G h' pc' Ls St C S := by
  subst hp
  have FN := F.size
  have DN := D.size
  obtain ⟨kF, VF⟩ := F.toArv
  obtain ⟨kD, VD⟩ := D.toArv
  have e0 : (0 : Int32).toInt = 0 := rfl
  have c1 : sp.toNatClampNeg = i := by simp only [Int32.toNatClampNeg]; omega
  have c2 : dp.toNatClampNeg = j := by simp only [Int32.toNatClampNeg]; omega
  have c3 : nn.toNatClampNeg = k := by simp only [Int32.toNatClampNeg]; omega
  have eN : (Int32.ofNat N).toNatClampNeg = N := by have := Int32.toInt_ofNat_of_lt FN; simp only [Int32.toNatClampNeg]; omega
  have eN' : (Int32.ofNat N').toNatClampNeg = N' := by have := Int32.toInt_ofNat_of_lt DN; simp only [Int32.toNatClampNeg]; omega
  have p1 : ¬ sp < 0 := by rw [Int32.lt_iff_toInt_lt]; omega
  have p2 : ¬ dp < 0 := by rw [Int32.lt_iff_toInt_lt]; omega
  have p3 : ¬ nn < 0 := by rw [Int32.lt_iff_toInt_lt]; omega
  obtain ⟨p, e, s, m, args, below, meth, c, st⟩ := G
  obtain ⟨hx, hZ, hby, hml, hown, hnm, hrt, hlk, hn0, T, locs, X, Nf, eT, kk⟩ := A
  obtain ⟨T', h', L', X', e', N2, K2, V2, st'⟩ := cpA X hx hZ hown w1 w2 w3 w4 eT VF VD (Or.inl ⟨rfl, hty⟩) (sp := sp) (dp := dp) (nn := nn) p1 p2 p3 (by rw [c1, c3, eN]; exact h4) (by rw [c2, c3, eN']; exact h5) rfl (by rw [c2, c3]; simpa using h5) Nf gb (g := mkF m pc Ls (.int nn :: .int dp :: .ref b :: .int sp :: .ref a :: St)) rfl (by rw [hml]; exact hsz) rfl (hb hby hd) hf (W := (St.map fun v => v.category).sum) (by show 2 * 0 + _ ≤ _; omega) hlo
  refine ⟨h', K2, ?_, W.mk hx hZ hby hml hown hnm hrt hlk hn0 X' N2 e' (fun t q => kk t (st' t q))⟩
  obtain ⟨cd, Ad, -, Sd, -, Hd, Gd⟩ := V2
  rw [eN'] at Sd
  rw [c1, c2, c3] at Hd Gd
  have key : ∀ x, x < N' → (List.take j ((List.range N').map g) ++ (List.map (fun i_1 => ((List.range N).map f).getD (i + i_1) (.int 0)) (List.range k)) ++ List.drop (j + k) ((List.range N').map g)).getD x (.int 0) = cpy f i g j k x := fun x hx' => by
    simp only [List.getD_eq_getElem?_getD, cpy]
    by_cases q1 : x < j
    · rw [List.getElem?_append_left (by simp; omega), List.getElem?_append_left (by simp; omega), if_neg (by omega)]
      simp [List.getElem?_take, q1, hx']
    · by_cases q2 : x < j + k
      · rw [List.getElem?_append_left (by simp; omega), List.getElem?_append_right (by simp; omega), if_pos (by omega)]
        have l1 : (List.take j ((List.range N').map g)).length = j := by simp; omega
        rw [l1]
        have q3 : x - j < k := by omega
        have q4 : i + (x - j) < N := by omega
        simp [List.getElem?_map, List.getElem?_range, q3, q4]
      · rw [List.getElem?_append_right (by simp; omega), if_neg (by omega)]
        have l1 : (List.take j ((List.range N').map g) ++ (List.map (fun i_1 => (((List.range N).map f)[i + i_1]?).getD (.int 0)) (List.range k))).length = j + k := by simp; omega
        rw [l1, List.getElem?_drop]
        have q3 : j + k + (x - (j + k)) = x := by omega
        rw [q3]; simp [hx']
  refine ⟨cd, Ad, Sd, DN, fun x hx' => ?_⟩
  have a1 := Hd x (by omega)
  have a2 := Gd x (by omega)
  rw [key x hx'] at a1 a2
  exact ⟨a1, a2⟩
end Heaps
end Jvm.Pilot.@@N@@
namespace Jvm.Pilot.@@N@@
open Jvm Jvm.ClassFile Sem Op Lib Jvm.Free Jvm.Stand Jvm.LawKit Jvm.RoadKit Bundle Jvm.Pilot.@@N@@.Jvm.D
section Refs
variable {l : Launch} {Z : State} {n0 : Nat} {y : MethodName} {bytes : ByteArray} {maxl : Nat} {ret : Option FieldType} {R : Room} {G : Cx} {h h' : Heap} {pc pc' : Nat} {Ls : Array Slot} {St : List Value} {C S C' S' : Nat} {Q : Option Value → Heap → Prop} {a0 : Array Value} {a : Addr} {ty : FieldType} {N : Nat} {f : Nat → Value} {z : Int32}
/-! arrays of references -/
theorem W.newRO (A : W l Z n0 y bytes maxl ret R G h pc Ls (.int z :: St) C S) {index N cap : Nat} {K : String} (hd : decode bytes pc = .ok (.anewarray index, 3)) (w1 : (Jvm.Cond.classLink y.cls index K).before a0 Z = true) (w2 : (Jvm.Cond.arrayOver (.object K)).before a0 Z = true) (hz : z.toInt = N) (hcap : N ≤ cap) (hcb : cap * 8 ≤ 536870912) (hC : C + 1 ≤ R.cells) (hS : S + cap ≤ R.slots) (hC' : C + 1 = C') (hS' : S + cap = S') (hp : pc + 3 = pc') {ad : String} (had : "[" ++ (FieldType.object K).toString = ad) :
    ∃ h' b, b = h.size ∧ n0 ≤ b ∧ Ext h h' ∧ Ars Z h' b (.object K) N (fun _ => .null) ∧ Exa Z h' b ad ∧ W l Z n0 y bytes maxl ret R G h' pc' Ls (.ref b :: St) C' S' := by
  subst hp hC' hS'
  have hsz := A.size
  have e0 : (0 : Int32).toInt = 0 := rfl
  have hneg : ¬ z < 0 := by rw [Int32.lt_iff_toInt_lt]; omega
  have hcl : z.toNatClampNeg = N := by simp only [Int32.toNatClampNeg]; omega
  obtain ⟨p, e, s, m, args, below, meth, c, st⟩ := G
  obtain ⟨hx, hZ, hby, hml, hown, hnm, hrt, hlk, hn0, T, locs, X, Nf, eT, k⟩ := A
  obtain ⟨T', h', kA, X', e', E', A', Ex', O', st'⟩ := newRE X hx hZ hown w1 w2 eT (g := mkF m pc Ls _) rfl (hb hby hd) rfl hneg (cap := cap) (by omega) hcb hC hS had
  refine ⟨h', h.size, rfl, hsz, E', ⟨_, A', by rw [sz_new, hcl], by omega, fun j hj => ?_⟩, Ex', W.mk hx hZ hby hml hown hnm hrt hlk hn0 X' Nf e' (fun t q => k t (st' t q))⟩
  exact ⟨by simp [newA, hcl, hj, defaultValue], rfl⟩
theorem W.newRX (A : W l Z n0 y bytes maxl ret R G h pc Ls (.int z :: St) C S) {index N cap : Nat} {t : FieldType} {K : String} (hd : decode bytes pc = .ok (.anewarray index, 3)) (hK : (FieldType.array t).toString = K) (w1 : (Jvm.Cond.classLink y.cls index K).before a0 Z = true) (w2 : (Jvm.Cond.arrayOver (.array t)).before a0 Z = true) (hz : z.toInt = N) (hcap : N ≤ cap) (hcb : cap * 8 ≤ 536870912) (hC : C + 1 ≤ R.cells) (hS : S + cap ≤ R.slots) (hC' : C + 1 = C') (hS' : S + cap = S') (hp : pc + 3 = pc') {ad : String} (had : "[" ++ K = ad) :
    ∃ h' b, b = h.size ∧ n0 ≤ b ∧ Ext h h' ∧ Ars Z h' b (.array t) N (fun _ => .null) ∧ Exa Z h' b ad ∧ W l Z n0 y bytes maxl ret R G h' pc' Ls (.ref b :: St) C' S' := by
  subst hp hC' hS'
  have hsz := A.size
  have e0 : (0 : Int32).toInt = 0 := rfl
  have hneg : ¬ z < 0 := by rw [Int32.lt_iff_toInt_lt]; omega
  have hcl : z.toNatClampNeg = N := by simp only [Int32.toNatClampNeg]; omega
  obtain ⟨p, e, s, m, args, below, meth, c, st⟩ := G
  obtain ⟨hx, hZ, hby, hml, hown, hnm, hrt, hlk, hn0, T, locs, X, Nf, eT, k⟩ := A
  obtain ⟨T', h', kA, X', e', E', A', Ex', O', st'⟩ := newRA X hx hZ hown hK w1 w2 eT (g := mkF m pc Ls _) rfl (hb hby hd) rfl hneg (cap := cap) (by omega) hcb hC hS had
  refine ⟨h', h.size, rfl, hsz, E', ⟨_, A', by rw [sz_new, hcl], by omega, fun j hj => ?_⟩, Ex', W.mk hx hZ hby hml hown hnm hrt hlk hn0 X' Nf e' (fun t q => k t (st' t q))⟩
  exact ⟨by simp [newA, hcl, hj, defaultValue], rfl⟩
theorem W.aaload {j : Int32} (A : W l Z n0 y bytes maxl ret R G h pc Ls (.int j :: .ref a :: St) C S) (hd : decode bytes pc = .ok (.aaload, 1)) (hty : ty.isReference = true) (F : Ars Z h a ty N f) {i : Nat} (hj : j.toInt = i) (hi : i < N) {v : Value} (hv : f i = v) (hp : pc + 1 = pc') : W l Z n0 y bytes maxl ret R G h pc' Ls (v :: St) C S := by
  subst hp
  obtain ⟨cl, Ar, hs, hN, hf⟩ := F
  obtain ⟨q1, q2⟩ := inb hs hj hi
  exact A.step fun X hx hZ hown q eT r => X.aaload hx (by rw [eT]; exact Ar.1) (State.isArrayOf_alike hZ.alike Ar.2.1) hty Ar.2.2 q1 (by rw [q2, (hf i hi).1, hv]) (g := mkF _ _ _ _) rfl rfl (hb q hd) _ r
theorem W.aastore {j : Int32} {x : Value} (A : W l Z n0 y bytes maxl ret R G h pc Ls (x :: .int j :: .ref a :: St) C S) (hd : decode bytes pc = .ok (.aastore, 1)) (hty : ty.isReference = true) (F : Ars Z h a ty N f) (D : Sto Z h a x) (hfit : fits ty x = true) {i : Nat} (hj : j.toInt = i) (hi : i < N) (ga : n0 ≤ a) (hp : pc + 1 = pc') : ∃ h', Wr h h' a i x ∧ Ars Z h' a ty N (upd f i x) ∧ W l Z n0 y bytes maxl ret R G h' pc' Ls St C S := by
  subst hp
  have F0 := F
  obtain ⟨cl, Ar, hs, hN, hf⟩ := F
  obtain ⟨q1, q2⟩ := inb hs hj hi
  obtain ⟨p, e, s, m, args, below, meth, c, st⟩ := G
  obtain ⟨hx, hZ, hby, hml, hown, hnm, hrt, hlk, hn0, T, locs, X, Nf, eT, k⟩ := A
  obtain ⟨T', h', X', e', W', st'⟩ := stR X hx hZ eT Ar q1 hty D (g := mkF m pc Ls _) rfl rfl (hb hby hd)
  rw [q2] at W'
  exact ⟨h', W', F0.same W' hi hfit, W.mk hx hZ hby hml hown hnm hrt hlk hn0 X' (Fr.snoc X' Nf ga) e' (fun t q => k t (st' t q))⟩
theorem sto_o {K ad : String} {v : Addr} (F : Ars Z h a ty N f) (E : Exa Z h a ad) (w : (Jvm.Cond.arrayOver (.object K)).before a0 Z = true) (had : "[" ++ (FieldType.object K).toString = ad) (I : Ins Z h v K true) : Sto Z h a (.ref v) := by
  subst had
  obtain ⟨cl, Ar, -⟩ := F
  obtain ⟨cell, k, e1, e2, e3, -⟩ := E
  cases Ar.1.symm.trans e1
  obtain ⟨comp, cA, kA, h1, h2, h3, h4, h5⟩ := Jvm.Cond.arrayOver_spec w
  cases h5.symm.trans e2
  exact Sto.of Ar ⟨kA, comp, h3, h4, h1⟩ I
theorem sto_x {K ad : String} {t : FieldType} {v : Addr} (F : Ars Z h a ty N f) (E : Exa Z h a ad) (w : (Jvm.Cond.arrayOver (.array t)).before a0 Z = true) (hK : (FieldType.array t).toString = K) (had : "[" ++ K = ad) (I : Ins Z h v K true) : Sto Z h a (.ref v) := by
  subst hK had
  obtain ⟨cl, Ar, -⟩ := F
  obtain ⟨cell, k, e1, e2, e3, -⟩ := E
  cases Ar.1.symm.trans e1
  obtain ⟨comp, cA, kA, h1, h2, h3, h4, h5⟩ := arrayOver_specB w
  cases h5.symm.trans e2
  exact Sto.ofVA Ar rfl ⟨kA, comp, h3, h4, h1⟩ I
theorem W.acmpK {x x' : Value} (A : W l Z n0 y bytes maxl ret R G h pc Ls (x' :: x :: St) C S) {cd : ACond} {o : Int} (hd : decode bytes pc = .ok (.if_acmp cd o, 3)) (h1 : x.isRef = true) (h2 : x'.isRef = true) {same : Bool} (hq : decide (x = x') = same) (ho : 0 ≤ (pc : Int) + o) (hp : pc' = if acV cd same = true then ((pc : Int) + o).toNat else pc + 3) : W l Z n0 y bytes maxl ret R G h pc' Ls St C S :=
  A.step fun X hx hZ hown q eT r => Jvm.RoadKit.acmp X hx (g := mkF _ _ _ _) rfl h1 h2 rfl (hb q hd) rfl hq ho hp r
end Refs
end Jvm.Pilot.@@N@@
namespace Jvm.Pilot.@@N@@
open Jvm Jvm.ClassFile Sem Op Lib Jvm.Free Jvm.Stand Jvm.LawKit Jvm.RoadKit Bundle Jvm.Pilot.@@N@@.Jvm.D
def Hid (P : Prop) : Prop := P
theorem own_hid {P : Prop} (h : P) : Hid P := h
theorem own_bb (x : Int32) : x.toInt8.toInt32.toInt8.toInt32 = x.toInt8.toInt32 := by simp
theorem own_nb (x : Int32) : nar .byte x.toInt8.toInt32 = x.toInt8.toInt32 := own_bb x
theorem own_nch (x : Int32) (h0 : 0 ≤ x.toInt) (h1 : x.toInt ≤ 65535) : nar .char x = x := by
  have := c_i2c x
  exact Int32.toInt_inj.mp (show x.toUInt32.toUInt16.toUInt32.toInt32.toInt = x.toInt by omega)
theorem own_nc (x : Int32) : nar .char x.toUInt32.toUInt16.toUInt32.toInt32 = x.toUInt32.toUInt16.toUInt32.toInt32 := by
  have := c_i2c x
  exact own_nch _ (by omega) (by omega)
theorem own_lc (x : Int32) (h0 : 0 ≤ x.toInt) (h1 : x.toInt ≤ 255) : (x.toInt8.toInt32 &&& (255 : Int32)).toUInt32.toUInt16.toUInt32.toInt32.toInt = x.toInt := by
  have e1 := c_i2b x
  have e2 : (x.toInt8.toInt32 &&& (255 : Int32)).toInt = x.toInt8.toInt32.toInt % 256 := c_mask _ 255 8 (by decide) (by decide)
  have e3 := c_i2c (x.toInt8.toInt32 &&& (255 : Int32))
  omega
theorem own_c8 (x : Int64) : 0 ≤ (x &&& (255 : Int64)).toInt32.toUInt32.toUInt16.toUInt32.toInt32.toInt ∧ (x &&& (255 : Int64)).toInt32.toUInt32.toUInt16.toUInt32.toInt32.toInt ≤ 255 := by
  have e1 : (x &&& (255 : Int64)).toInt = x.toInt % 256 := c_maskL _ 255 8 (by decide) (by decide)
  have e2 := c_l2i (x &&& (255 : Int64))
  have e3 := c_i2c (x &&& (255 : Int64)).toInt32
  have r := rng32 (x &&& (255 : Int64)).toInt32
  omega
theorem own_i3 (x : Int64) : 0 ≤ ((x &&& (255 : Int64)).toInt32 % (3 : Int32)).toInt ∧ ((x &&& (255 : Int64)).toInt32 % (3 : Int32)).toInt ≤ 2 := by
  have e1 : (x &&& (255 : Int64)).toInt = x.toInt % 256 := c_maskL _ 255 8 (by decide) (by decide)
  have e2 := c_l2i (x &&& (255 : Int64))
  have r := rng32 (x &&& (255 : Int64)).toInt32
  have q := (c_irem (x &&& (255 : Int64)).toInt32 (3 : Int32) 3 rfl).1 (by omega)
  omega
theorem own_i7 (x : Int32) : 0 ≤ ((x &&& (255 : Int32)) % (7 : Int32)).toInt ∧ ((x &&& (255 : Int32)) % (7 : Int32)).toInt ≤ 6 := by
  have e1 : (x &&& (255 : Int32)).toInt = x.toInt % 256 := c_mask _ 255 8 (by decide) (by decide)
  have q := (c_irem (x &&& (255 : Int32)) (7 : Int32) 7 rfl).1 (by omega)
  omega
theorem own_three (x : Int32) (h : 0 ≤ x.toInt ∧ x.toInt ≤ 2) : x = 0 ∨ x = 1 ∨ x = 2 := by
  have e0 : (0 : Int32).toInt = 0 := rfl
  have e1 : (1 : Int32).toInt = 1 := rfl
  have e2 : (2 : Int32).toInt = 2 := rfl
  have : x.toInt = 0 ∨ x.toInt = 1 ∨ x.toInt = 2 := by omega
  rcases this with q | q | q
  · exact Or.inl (Int32.toInt_inj.mp (q.trans e0.symm))
  · exact Or.inr (Or.inl (Int32.toInt_inj.mp (q.trans e1.symm)))
  · exact Or.inr (Or.inr (Int32.toInt_inj.mp (q.trans e2.symm)))
theorem own_xor (x z : Int32) : (x ^^^ z).toInt = 0 ↔ x.toInt = z.toInt := by
  have e0 : (0 : Int32).toInt = 0 := rfl
  rw [← e0, Int32.toInt_inj, Int32.toInt_inj]
  constructor
  · intro h
    have : (x ^^^ z) ^^^ z = (0 : Int32) ^^^ z := by rw [h]
    rwa [Int32.xor_assoc, Int32.xor_self, Int32.xor_zero, Int32.zero_xor] at this
  · rintro rfl
    exact Int32.xor_self
theorem own_u {f : Nat → Value} {i : Nat} {v : Int32} (h : ∃ T : Nat → Int32, ∀ j, f j = .int (T j)) : ∃ T : Nat → Int32, ∀ j, (upd f i (.int v)) j = .int (T j) := by
  obtain ⟨T, hT⟩ := h
  refine ⟨fun j => if j = i then v else T j, fun j => ?_⟩
  by_cases q : j = i
  · subst q; rw [upd_same]; simp
  · rw [upd_ne _ _ q, hT]; simp [q]
theorem own_csne {args : Array Value} {s : State} {C n d : String} {v : Int32} (h : (Jvm.Term.static C n d).eval args s none [] s = some (.int v)) (q : (Jvm.Cond.not (Jvm.Cond.eq (Jvm.Term.static C n d) (Jvm.Term.int 0))).value args s none s [] = some true) : v.toInt ≠ 0 := by
  intro e
  have e2 : v = 0 := Int32.toInt_inj.mp e
  subst e2
  have := not_v q
  rw [eq_i h (Term.int_eval (0)) rfl] at this
  exact absurd this (by decide)
theorem own_same {args : Array Value} {s : State} {t t' : Jvm.Term} {a b : Addr} (h1 : t.eval args s none [] s = some (.ref a)) (h2 : t'.eval args s none [] s = some (.ref b)) (h : (Jvm.Cond.eq t t').value args s none s [] = some true) : b = a := by
  simp [Cond.value, h1, h2] at h; exact h.symm
theorem own_len0 {args : Array Value} {s : State} {t : Jvm.Term} {a : Addr} {cl : Cell} {ty : FieldType} (ev : t.eval args s none [] s = some (.ref a)) (A : Arr s s.heap a cl ty) (h : (Jvm.Cond.eq (Jvm.Term.length t) (Jvm.Term.int (0 : Int32))).value args s none s [] = some true) : cl.slots.size = 0 := by
  obtain ⟨v, b, h1, h2, -, -⟩ := cmp_v (Or.inl h)
  cases Option.some.inj (h2.symm.trans (rfl : (Jvm.Term.int 0).eval args s none [] s = some (.int 0)))
  have h3 := h1
  obtain ⟨a', cell, ha, harr, rfl⟩ := Term.length_spec h1
  cases ha.symm.trans ev
  have hc := (State.arrayAt?_spec harr).1
  cases hc.symm.trans A.1
  have hsz : cl.slots.size < 2 ^ 31 := by
    simp only [Term.eval, ha, harr, Option.bind_eq_bind, Option.bind_some] at h3
    by_cases hlt : cl.slots.size < 2147483648
    · exact hlt
    · simp [hlt] at h3
  have e : cl.slots.size.toInt32 = 0 := by simp [Cond.value, h1, h2] at h; exact h
  have := len_toInt hsz
  rw [e] at this
  have e0 : (0 : Int32).toInt = 0 := rfl
  omega
theorem pd_0 : parseMethodDescriptor "([CI[BII)I" = some ⟨[(.array .char), .int, (.array .byte), .int, .int], some .int⟩ := by decide +kernel
theorem pd_1 : parseMethodDescriptor "([CII)[B" = some ⟨[(.array .char), .int, .int], some (.array .byte)⟩ := by decide +kernel
theorem pd_2 : parseMethodDescriptor "([BI)B" = some ⟨[(.array .byte), .int], some .byte⟩ := by decide +kernel
theorem pd_3 : parseMethodDescriptor "([CIILjava/lang/Void;)V" = some ⟨[(.array .char), .int, .int, (.object "java/lang/Void")], none⟩ := by decide +kernel
theorem pd_4 : parseMethodDescriptor "(C)Z" = some ⟨[.char], some .boolean⟩ := by decide +kernel
theorem pd_5 : parseMethodDescriptor "(C)[B" = some ⟨[.char], some (.array .byte)⟩ := by decide +kernel
theorem pd_6 : parseMethodDescriptor "([BB)V" = some ⟨[(.array .byte), .byte], none⟩ := by decide +kernel
theorem pd_7 : parseMethodDescriptor "(IILjava/util/function/BiFunction;)I" = some ⟨[.int, .int, (.object "java/util/function/BiFunction")], some .int⟩ := by decide +kernel
theorem pd_8 : parseMethodDescriptor "(II)V" = some ⟨[.int, .int], none⟩ := by decide +kernel
theorem pd_9 : parseMethodDescriptor "()Z" = some ⟨[], some .boolean⟩ := by decide +kernel
theorem pd_10 : parseMethodDescriptor "([BI)C" = some ⟨[(.array .byte), .int], some .char⟩ := by decide +kernel
theorem pd_11 : parseMethodDescriptor "()B" = some ⟨[], some .byte⟩ := by decide +kernel
theorem pd_12 : parseMethodDescriptor "(B[BZ)[B" = some ⟨[.byte, (.array .byte), .boolean], some (.array .byte)⟩ := by decide +kernel
theorem pd_13 : parseMethodDescriptor "(B[B)[B" = some ⟨[.byte, (.array .byte)], some (.array .byte)⟩ := by decide +kernel
theorem pd_14 : parseMethodDescriptor "(Ljava/nio/charset/Charset;B[B)[B" = some ⟨[(.object "java/nio/charset/Charset"), .byte, (.array .byte)], some (.array .byte)⟩ := by decide +kernel
theorem pd_15 : parseMethodDescriptor "()I" = some ⟨[], some .int⟩ := by decide +kernel
theorem pd_16 : parseMethodDescriptor "(I)C" = some ⟨[.int], some .char⟩ := by decide +kernel
theorem pd_17 : parseMethodDescriptor "(Ljava/nio/charset/Charset;)[B" = some ⟨[(.object "java/nio/charset/Charset")], some (.array .byte)⟩ := by decide +kernel
theorem pd_18 : parseMethodDescriptor "(JJICCC)B" = some ⟨[.long, .long, .int, .char, .char, .char], some .byte⟩ := by decide +kernel
theorem pd_19 : parseMethodDescriptor "([C)V" = some ⟨[(.array .char)], none⟩ := by decide +kernel
theorem pd_20 : parseMethodDescriptor "(C)Ljava/lang/String;" = some ⟨[.char], some (.object "java/lang/String")⟩ := by decide +kernel
theorem pd_21 : parseMethodDescriptor "([Ljava/lang/String;)V" = some ⟨[(.array (.object "java/lang/String"))], none⟩ := by decide +kernel
theorem pd_22 : parseMethodDescriptor "(I[BII)I" = some ⟨[.int, (.array .byte), .int, .int], some .int⟩ := by decide +kernel
theorem pn1 : plainFor (⟨"com/example/dialekt/dialekt/json/MemberNamesEndOfPinLaw", "pick", "(JJICCC)B"⟩ : MethodName) = true := by first | exact plainFor_of_name (by first | (simp [plainName, overriddenIn]; done) | decide +kernel) | exact Jvm.Free.JP.mathPlain rfl (by decide +kernel) | decide +kernel
theorem d1_0 : decode method_3_code 0 = .ok (.lload_n 0, 1) := by decide +kernel
theorem d1_1 : decode method_3_code 1 = .ok (.iconst 3, 1) := by decide +kernel
theorem d1_2 : decode method_3_code 2 = .ok (.iload 4, 2) := by decide +kernel
theorem d1_4 : decode method_3_code 4 = .ok (.imul, 1) := by decide +kernel
theorem d1_5 : decode method_3_code 5 = .ok (.lushr, 1) := by decide +kernel
theorem d1_6 : decode method_3_code 6 = .ok (.l2i, 1) := by decide +kernel
theorem d1_7 : decode method_3_code 7 = .ok (.bipush 7, 2) := by decide +kernel
theorem d1_9 : decode method_3_code 9 = .ok (.iand, 1) := by decide +kernel
theorem d1_10 : decode method_3_code 10 = .ok (.istore 8, 2) := by decide +kernel
theorem d1_12 : decode method_3_code 12 = .ok (.iload 8, 2) := by decide +kernel
theorem d1_14 : decode method_3_code 14 = .ok (.ifCond .ne 7, 3) := by decide +kernel
theorem d1_17 : decode method_3_code 17 = .ok (.iload 5, 2) := by decide +kernel
theorem d1_19 : decode method_3_code 19 = .ok (.i2b, 1) := by decide +kernel
theorem d1_20 : decode method_3_code 20 = .ok (.ireturn, 1) := by decide +kernel
theorem d1_21 : decode method_3_code 21 = .ok (.iload 8, 2) := by decide +kernel
theorem d1_23 : decode method_3_code 23 = .ok (.iconst 1, 1) := by decide +kernel
theorem d1_24 : decode method_3_code 24 = .ok (.if_icmp .ne 7, 3) := by decide +kernel
theorem d1_27 : decode method_3_code 27 = .ok (.iload 6, 2) := by decide +kernel
theorem d1_29 : decode method_3_code 29 = .ok (.i2b, 1) := by decide +kernel
theorem d1_30 : decode method_3_code 30 = .ok (.ireturn, 1) := by decide +kernel
theorem d1_31 : decode method_3_code 31 = .ok (.iload 8, 2) := by decide +kernel
theorem d1_33 : decode method_3_code 33 = .ok (.iconst 2, 1) := by decide +kernel
theorem d1_34 : decode method_3_code 34 = .ok (.if_icmp .ne 7, 3) := by decide +kernel
theorem d1_37 : decode method_3_code 37 = .ok (.iload 7, 2) := by decide +kernel
theorem d1_39 : decode method_3_code 39 = .ok (.i2b, 1) := by decide +kernel
theorem d1_40 : decode method_3_code 40 = .ok (.ireturn, 1) := by decide +kernel
theorem d1_41 : decode method_3_code 41 = .ok (.iload 8, 2) := by decide +kernel
theorem d1_43 : decode method_3_code 43 = .ok (.iconst 3, 1) := by decide +kernel
theorem d1_44 : decode method_3_code 44 = .ok (.if_icmp .ne 6, 3) := by decide +kernel
theorem d1_47 : decode method_3_code 47 = .ok (.bipush 34, 2) := by decide +kernel
theorem d1_49 : decode method_3_code 49 = .ok (.ireturn, 1) := by decide +kernel
theorem d1_50 : decode method_3_code 50 = .ok (.lload_n 2, 1) := by decide +kernel
theorem d1_51 : decode method_3_code 51 = .ok (.bipush 8, 2) := by decide +kernel
theorem d1_53 : decode method_3_code 53 = .ok (.iload 4, 2) := by decide +kernel
theorem d1_55 : decode method_3_code 55 = .ok (.imul, 1) := by decide +kernel
theorem d1_56 : decode method_3_code 56 = .ok (.lushr, 1) := by decide +kernel
theorem d1_57 : decode method_3_code 57 = .ok (.l2i, 1) := by decide +kernel
theorem d1_58 : decode method_3_code 58 = .ok (.i2b, 1) := by decide +kernel
theorem d1_59 : decode method_3_code 59 = .ok (.ireturn, 1) := by decide +kernel
abbrev y1 : MethodName := (⟨"com/example/dialekt/dialekt/json/MemberNamesEndOfPinLaw", "pick", "(JJICCC)B"⟩ : MethodName)
abbrev R1 : Room := { frames := 0, cells := 0, slots := 0, locals := 0 }
set_option maxRecDepth 65536 in
set_option maxHeartbeats 4000000 in
theorem ef1 (x : Int64) (z : Int64) (k : Int32) (c0 : Int32) (c1 : Int32) (c2 : Int32)  (mid : MethodId) : entryFrame mid #[(.long x), (.long z), (.int k), (.int c0), (.int c1), (.int c2)] 9 = mkF mid 0 #[.val (.long x), .second, .val (.long z), .second, .val (.int k), .val (.int c0), .val (.int c1), .val (.int c2), .unset] [] := by first | (simp [entryFrame, mkF, argsToLocals, Value.category]; done) | rfl
set_option maxRecDepth 65536 in
set_option maxHeartbeats 40000000 in
theorem rm1 (l : Launch) (Z : State) (a0 : Array Value) (hw : ∀ d ∈ tables_1, d.before a0 Z = true) (n0 : Nat) (ws : List Jvm.Cond) (x : Int64) (z : Int64) (k : Int32) (c0 : Int32) (c1 : Int32) (c2 : Int32)  (h0 : Heap) (hn0 : n0 ≤ h0.size)  :
    Ctr l Z n0 y1 method_3_code 9 (some .byte) ws R1 #[(.long x), (.long z), (.int k), (.int c0), (.int c1), (.int c2)] h0 (QI fun r h => (h0 = h) ∧ (True)) := by
  refine ctr_of pn1 hn0 (ef1 x z k c0 c1 c2) fun G A0 => ?_
  have A1 := A0.lloadN (v := x) (pc' := 1) d1_0 rfl rfl
  have A2 := A1.iconst (z := (3 : Int32)) (pc' := 2) d1_1 rfl rfl
  have A3 := A2.iload (v := k) (pc' := 4) d1_2 rfl rfl
  have A4 := A3.imul (pc' := 5) d1_4 rfl
  have A5 := A4.lushr (pc' := 6) d1_5 rfl
  have A6 := A5.l2i (pc' := 7) d1_6 rfl
  have A7 := A6.bipush (z := (7 : Int32)) (pc' := 9) d1_7 rfl rfl
  have A8 := A7.iand (pc' := 10) d1_9 rfl
  have A9 := A8.istore (Ls' := #[.val (.long x), .second, .val (.long z), .second, .val (.int k), .val (.int c0), .val (.int c1), .val (.int c2), .val (.int (((x.toUInt64 >>> (((3 : Int32) * k) &&& 0x3f).toInt64.toUInt64).toInt64).toInt32 &&& (7 : Int32)))]) (pc' := 12) d1_10 rfl rfl
  have A10 := A9.iload (v := (((x.toUInt64 >>> (((3 : Int32) * k) &&& 0x3f).toInt64.toUInt64).toInt64).toInt32 &&& (7 : Int32))) (pc' := 14) d1_12 rfl rfl
  by_cases c11 : (((x.toUInt64 >>> (((3 : Int32) * k) &&& 0x3f).toInt64.toUInt64).toInt64).toInt32 &&& (7 : Int32)).toInt = 0
  · have A12 := A10.ifNo (pc' := 17) d1_14 (teq (ieq (x := (((x.toUInt64 >>> (((3 : Int32) * k) &&& 0x3f).toInt64.toUInt64).toInt64).toInt32 &&& (7 : Int32))) (y := (0 : Int32)) rfl rfl c11)).2 rfl
    have A13 := A12.iload (v := c0) (pc' := 19) d1_17 rfl rfl
    have A14 := A13.i2b (pc' := 20) d1_19 rfl
    refine A14.retN (t := .byte) (z' := c0.toInt8.toInt32) d1_20 (by decide) (by decide) (by simp) (by exact own_nb _) ⟨_, rfl, ⟨rfl, ?_⟩⟩
    trivial
  · have A15 := A10.ifYes (pc' := 21) d1_14 (feq (ine (x := (((x.toUInt64 >>> (((3 : Int32) * k) &&& 0x3f).toInt64.toUInt64).toInt64).toInt32 &&& (7 : Int32))) (y := (0 : Int32)) rfl rfl c11)).2 (by decide) (by decide)
    have A16 := A15.iload (v := (((x.toUInt64 >>> (((3 : Int32) * k) &&& 0x3f).toInt64.toUInt64).toInt64).toInt32 &&& (7 : Int32))) (pc' := 23) d1_21 rfl rfl
    have A17 := A16.iconst (z := (1 : Int32)) (pc' := 24) d1_23 rfl rfl
    by_cases c18 : (((x.toUInt64 >>> (((3 : Int32) * k) &&& 0x3f).toInt64.toUInt64).toInt64).toInt32 &&& (7 : Int32)).toInt = 1
    · have A19 := A17.icmpNo (pc' := 27) d1_24 (teq (ieq (x := (((x.toUInt64 >>> (((3 : Int32) * k) &&& 0x3f).toInt64.toUInt64).toInt64).toInt32 &&& (7 : Int32))) (y := (1 : Int32)) rfl rfl c18)).2 rfl
      have A20 := A19.iload (v := c1) (pc' := 29) d1_27 rfl rfl
      have A21 := A20.i2b (pc' := 30) d1_29 rfl
      refine A21.retN (t := .byte) (z' := c1.toInt8.toInt32) d1_30 (by decide) (by decide) (by simp) (by exact own_nb _) ⟨_, rfl, ⟨rfl, ?_⟩⟩
      trivial
    · have A22 := A17.icmpYes (pc' := 31) d1_24 (feq (ine (x := (((x.toUInt64 >>> (((3 : Int32) * k) &&& 0x3f).toInt64.toUInt64).toInt64).toInt32 &&& (7 : Int32))) (y := (1 : Int32)) rfl rfl c18)).2 (by decide) (by decide)
      have A23 := A22.iload (v := (((x.toUInt64 >>> (((3 : Int32) * k) &&& 0x3f).toInt64.toUInt64).toInt64).toInt32 &&& (7 : Int32))) (pc' := 33) d1_31 rfl rfl
      have A24 := A23.iconst (z := (2 : Int32)) (pc' := 34) d1_33 rfl rfl
      by_cases c25 : (((x.toUInt64 >>> (((3 : Int32) * k) &&& 0x3f).toInt64.toUInt64).toInt64).toInt32 &&& (7 : Int32)).toInt = 2
      · have A26 := A24.icmpNo (pc' := 37) d1_34 (teq (ieq (x := (((x.toUInt64 >>> (((3 : Int32) * k) &&& 0x3f).toInt64.toUInt64).toInt64).toInt32 &&& (7 : Int32))) (y := (2 : Int32)) rfl rfl c25)).2 rfl
        have A27 := A26.iload (v := c2) (pc' := 39) d1_37 rfl rfl
        have A28 := A27.i2b (pc' := 40) d1_39 rfl
        refine A28.retN (t := .byte) (z' := c2.toInt8.toInt32) d1_40 (by decide) (by decide) (by simp) (by exact own_nb _) ⟨_, rfl, ⟨rfl, ?_⟩⟩
        trivial
      · have A29 := A24.icmpYes (pc' := 41) d1_34 (feq (ine (x := (((x.toUInt64 >>> (((3 : Int32) * k) &&& 0x3f).toInt64.toUInt64).toInt64).toInt32 &&& (7 : Int32))) (y := (2 : Int32)) rfl rfl c25)).2 (by decide) (by decide)
        have A30 := A29.iload (v := (((x.toUInt64 >>> (((3 : Int32) * k) &&& 0x3f).toInt64.toUInt64).toInt64).toInt32 &&& (7 : Int32))) (pc' := 43) d1_41 rfl rfl
        have A31 := A30.iconst (z := (3 : Int32)) (pc' := 44) d1_43 rfl rfl
        by_cases c32 : (((x.toUInt64 >>> (((3 : Int32) * k) &&& 0x3f).toInt64.toUInt64).toInt64).toInt32 &&& (7 : Int32)).toInt = 3
        · have A33 := A31.icmpNo (pc' := 47) d1_44 (teq (ieq (x := (((x.toUInt64 >>> (((3 : Int32) * k) &&& 0x3f).toInt64.toUInt64).toInt64).toInt32 &&& (7 : Int32))) (y := (3 : Int32)) rfl rfl c32)).2 rfl
          have A34 := A33.bipush (z := (34 : Int32)) (pc' := 49) d1_47 rfl rfl
          refine A34.retN (t := .byte) (z' := (34 : Int32)) d1_49 (by decide) (by decide) (by simp) (by decide) ⟨_, rfl, ⟨rfl, ?_⟩⟩
          have elit : (34 : Int32).toInt = 34 := rfl
          trivial
        · have A35 := A31.icmpYes (pc' := 50) d1_44 (feq (ine (x := (((x.toUInt64 >>> (((3 : Int32) * k) &&& 0x3f).toInt64.toUInt64).toInt64).toInt32 &&& (7 : Int32))) (y := (3 : Int32)) rfl rfl c32)).2 (by decide) (by decide)
          have A36 := A35.lloadN (v := z) (pc' := 51) d1_50 rfl rfl
          have A37 := A36.bipush (z := (8 : Int32)) (pc' := 53) d1_51 rfl rfl
          have A38 := A37.iload (v := k) (pc' := 55) d1_53 rfl rfl
          have A39 := A38.imul (pc' := 56) d1_55 rfl
          have A40 := A39.lushr (pc' := 57) d1_56 rfl
          have A41 := A40.l2i (pc' := 58) d1_57 rfl
          have A42 := A41.i2b (pc' := 59) d1_58 rfl
          refine A42.retN (t := .byte) (z' := ((z.toUInt64 >>> (((8 : Int32) * k) &&& 0x3f).toInt64.toUInt64).toInt64).toInt32.toInt8.toInt32) d1_59 (by decide) (by decide) (by simp) (by exact own_nb _) ⟨_, rfl, ⟨rfl, ?_⟩⟩
          trivial
theorem pn21 : plainFor (⟨"com/example/dialekt/dialekt/json/MemberNamesEndOfPinLaw", "plainChar", "(C)Z"⟩ : MethodName) = true := by first | exact plainFor_of_name (by first | (simp [plainName, overriddenIn]; done) | decide +kernel) | exact Jvm.Free.JP.mathPlain rfl (by decide +kernel) | decide +kernel
theorem d21_0 : decode method_2_code 0 = .ok (.iload_n 0, 1) := by decide +kernel
theorem d21_1 : decode method_2_code 1 = .ok (.bipush 32, 2) := by decide +kernel
theorem d21_3 : decode method_2_code 3 = .ok (.if_icmp .lt 26, 3) := by decide +kernel
theorem d21_6 : decode method_2_code 6 = .ok (.iload_n 0, 1) := by decide +kernel
theorem d21_7 : decode method_2_code 7 = .ok (.sipush 128, 3) := by decide +kernel
theorem d21_10 : decode method_2_code 10 = .ok (.if_icmp .ge 19, 3) := by decide +kernel
theorem d21_13 : decode method_2_code 13 = .ok (.iload_n 0, 1) := by decide +kernel
theorem d21_14 : decode method_2_code 14 = .ok (.bipush 34, 2) := by decide +kernel
theorem d21_16 : decode method_2_code 16 = .ok (.if_icmp .eq 13, 3) := by decide +kernel
theorem d21_19 : decode method_2_code 19 = .ok (.iload_n 0, 1) := by decide +kernel
theorem d21_20 : decode method_2_code 20 = .ok (.bipush 92, 2) := by decide +kernel
theorem d21_22 : decode method_2_code 22 = .ok (.if_icmp .eq 7, 3) := by decide +kernel
theorem d21_25 : decode method_2_code 25 = .ok (.iconst 1, 1) := by decide +kernel
theorem d21_26 : decode method_2_code 26 = .ok (.goto 4, 3) := by decide +kernel
theorem d21_29 : decode method_2_code 29 = .ok (.iconst 0, 1) := by decide +kernel
theorem d21_30 : decode method_2_code 30 = .ok (.ireturn, 1) := by decide +kernel
abbrev y21 : MethodName := (⟨"com/example/dialekt/dialekt/json/MemberNamesEndOfPinLaw", "plainChar", "(C)Z"⟩ : MethodName)
abbrev R21 : Room := { frames := 0, cells := 0, slots := 0, locals := 0 }
set_option maxRecDepth 65536 in
set_option maxHeartbeats 4000000 in
theorem ef21 (x : Int32)  (mid : MethodId) : entryFrame mid #[(.int x)] 1 = mkF mid 0 #[.val (.int x)] [] := by first | (simp [entryFrame, mkF, argsToLocals, Value.category]; done) | rfl
set_option maxRecDepth 65536 in
set_option maxHeartbeats 40000000 in
theorem rm21 (l : Launch) (Z : State) (a0 : Array Value) (hw : ∀ d ∈ tables_1, d.before a0 Z = true) (n0 : Nat) (ws : List Jvm.Cond) (x : Int32)  (h0 : Heap) (hn0 : n0 ≤ h0.size)  :
    Ctr l Z n0 y21 method_2_code 1 (some .boolean) ws R21 #[(.int x)] h0 (QI fun r h => (h0 = h) ∧ ((r.toInt = 1 ∧ (32 ≤ x.toInt ∧ x.toInt < 128 ∧ ¬ (x.toInt = 34) ∧ ¬ (x.toInt = 92))) ∨ (r.toInt = 0 ∧ ¬ (32 ≤ x.toInt ∧ x.toInt < 128 ∧ ¬ (x.toInt = 34) ∧ ¬ (x.toInt = 92))))) := by
  refine ctr_of pn21 hn0 (ef21 x) fun G A0 => ?_
  have A1 := A0.iloadN (v := x) (pc' := 1) d21_0 rfl rfl
  have A2 := A1.bipush (z := (32 : Int32)) (pc' := 3) d21_1 rfl rfl
  by_cases c3 : x.toInt < 32
  · have A4 := A2.icmpYes (pc' := 29) d21_3 (tlt (ilt (x := x) (y := (32 : Int32)) rfl rfl c3)).1 (by decide) (by decide)
    have A5 := A4.iconst (z := (0 : Int32)) (pc' := 30) d21_29 rfl rfl
    refine A5.retN (t := .boolean) (z' := (0 : Int32)) d21_30 (by decide) (by decide) (by simp) rfl ⟨_, rfl, ⟨rfl, ?_⟩⟩
    have elit : (0 : Int32).toInt = 0 := rfl
    omega
  · have A6 := A2.icmpNo (pc' := 6) d21_3 (flt (inlt (x := x) (y := (32 : Int32)) rfl rfl c3)).1 rfl
    have A7 := A6.iloadN (v := x) (pc' := 7) d21_6 rfl rfl
    have A8 := A7.sipush (z := (128 : Int32)) (pc' := 10) d21_7 rfl rfl
    by_cases c9 : x.toInt < 128
    · have A10 := A8.icmpNo (pc' := 13) d21_10 (tlt (ilt (x := x) (y := (128 : Int32)) rfl rfl c9)).2.1 rfl
      have A11 := A10.iloadN (v := x) (pc' := 14) d21_13 rfl rfl
      have A12 := A11.bipush (z := (34 : Int32)) (pc' := 16) d21_14 rfl rfl
      by_cases c13 : x.toInt = 34
      · have A14 := A12.icmpYes (pc' := 29) d21_16 (teq (ieq (x := x) (y := (34 : Int32)) rfl rfl c13)).1 (by decide) (by decide)
        have A15 := A14.iconst (z := (0 : Int32)) (pc' := 30) d21_29 rfl rfl
        refine A15.retN (t := .boolean) (z' := (0 : Int32)) d21_30 (by decide) (by decide) (by simp) rfl ⟨_, rfl, ⟨rfl, ?_⟩⟩
        have elit : (0 : Int32).toInt = 0 := rfl
        omega
      · have A16 := A12.icmpNo (pc' := 19) d21_16 (feq (ine (x := x) (y := (34 : Int32)) rfl rfl c13)).1 rfl
        have A17 := A16.iloadN (v := x) (pc' := 20) d21_19 rfl rfl
        have A18 := A17.bipush (z := (92 : Int32)) (pc' := 22) d21_20 rfl rfl
        by_cases c19 : x.toInt = 92
        · have A20 := A18.icmpYes (pc' := 29) d21_22 (teq (ieq (x := x) (y := (92 : Int32)) rfl rfl c19)).1 (by decide) (by decide)
          have A21 := A20.iconst (z := (0 : Int32)) (pc' := 30) d21_29 rfl rfl
          refine A21.retN (t := .boolean) (z' := (0 : Int32)) d21_30 (by decide) (by decide) (by simp) rfl ⟨_, rfl, ⟨rfl, ?_⟩⟩
          have elit : (0 : Int32).toInt = 0 := rfl
          omega
        · have A22 := A18.icmpNo (pc' := 25) d21_22 (feq (ine (x := x) (y := (92 : Int32)) rfl rfl c19)).1 rfl
          have A23 := A22.iconst (z := (1 : Int32)) (pc' := 26) d21_25 rfl rfl
          have A24 := A23.goto (pc' := 30) d21_26 (by decide) (by decide)
          refine A24.retN (t := .boolean) (z' := (1 : Int32)) d21_30 (by decide) (by decide) (by simp) rfl ⟨_, rfl, ⟨rfl, ?_⟩⟩
          have elit : (1 : Int32).toInt = 1 := rfl
          omega
    · have A25 := A8.icmpYes (pc' := 29) d21_10 (flt (inlt (x := x) (y := (128 : Int32)) rfl rfl c9)).2.1 (by decide) (by decide)
      have A26 := A25.iconst (z := (0 : Int32)) (pc' := 30) d21_29 rfl rfl
      refine A26.retN (t := .boolean) (z' := (0 : Int32)) d21_30 (by decide) (by decide) (by simp) rfl ⟨_, rfl, ⟨rfl, ?_⟩⟩
      have elit : (0 : Int32).toInt = 0 := rfl
      omega
theorem pn6 : plainFor (⟨"java/lang/StringUTF16", "compress", "([CI[BII)I"⟩ : MethodName) = true := by first | exact plainFor_of_name (by first | (simp [plainName, overriddenIn]; done) | decide +kernel) | exact Jvm.Free.JP.mathPlain rfl (by decide +kernel) | decide +kernel
theorem d6_0 : decode jdk_52_method_21_code 0 = .ok (.iconst 0, 1) := by decide +kernel
theorem d6_1 : decode jdk_52_method_21_code 1 = .ok (.istore 5, 2) := by decide +kernel
theorem d6_3 : decode jdk_52_method_21_code 3 = .ok (.iload 5, 2) := by decide +kernel
theorem d6_5 : decode jdk_52_method_21_code 5 = .ok (.iload 4, 2) := by decide +kernel
theorem d6_7 : decode jdk_52_method_21_code 7 = .ok (.if_icmp .ge 37, 3) := by decide +kernel
theorem d6_10 : decode jdk_52_method_21_code 10 = .ok (.aload_n 0, 1) := by decide +kernel
theorem d6_11 : decode jdk_52_method_21_code 11 = .ok (.iload_n 1, 1) := by decide +kernel
theorem d6_12 : decode jdk_52_method_21_code 12 = .ok (.caload, 1) := by decide +kernel
theorem d6_13 : decode jdk_52_method_21_code 13 = .ok (.istore 6, 2) := by decide +kernel
theorem d6_15 : decode jdk_52_method_21_code 15 = .ok (.iload 6, 2) := by decide +kernel
theorem d6_17 : decode jdk_52_method_21_code 17 = .ok (.sipush 255, 3) := by decide +kernel
theorem d6_20 : decode jdk_52_method_21_code 20 = .ok (.if_icmp .le 6, 3) := by decide +kernel
theorem d6_26 : decode jdk_52_method_21_code 26 = .ok (.aload_n 2, 1) := by decide +kernel
theorem d6_27 : decode jdk_52_method_21_code 27 = .ok (.iload_n 3, 1) := by decide +kernel
theorem d6_28 : decode jdk_52_method_21_code 28 = .ok (.iload 6, 2) := by decide +kernel
theorem d6_30 : decode jdk_52_method_21_code 30 = .ok (.i2b, 1) := by decide +kernel
theorem d6_31 : decode jdk_52_method_21_code 31 = .ok (.bastore, 1) := by decide +kernel
theorem d6_32 : decode jdk_52_method_21_code 32 = .ok (.iinc 1 1, 3) := by decide +kernel
theorem d6_35 : decode jdk_52_method_21_code 35 = .ok (.iinc 3 1, 3) := by decide +kernel
theorem d6_38 : decode jdk_52_method_21_code 38 = .ok (.iinc 5 1, 3) := by decide +kernel
theorem d6_41 : decode jdk_52_method_21_code 41 = .ok (.goto (-38), 3) := by decide +kernel
theorem d6_44 : decode jdk_52_method_21_code 44 = .ok (.iload 4, 2) := by decide +kernel
theorem d6_46 : decode jdk_52_method_21_code 46 = .ok (.ireturn, 1) := by decide +kernel
abbrev y6 : MethodName := (⟨"java/lang/StringUTF16", "compress", "([CI[BII)I"⟩ : MethodName)
abbrev R6 : Room := { frames := 0, cells := 0, slots := 0, locals := 0 }
set_option maxRecDepth 65536 in
set_option maxHeartbeats 4000000 in
theorem ef6 (a : Addr) (b : Addr)  (mid : MethodId) : entryFrame mid #[(.ref a), (.int (0 : Int32)), (.ref b), (.int (0 : Int32)), (.int (2 : Int32))] 7 = mkF mid 0 #[.val (.ref a), .val (.int (0 : Int32)), .val (.ref b), .val (.int (0 : Int32)), .val (.int (2 : Int32)), .unset, .unset] [] := by first | (simp [entryFrame, mkF, argsToLocals, Value.category]; done) | rfl
set_option maxRecDepth 65536 in
set_option maxHeartbeats 40000000 in
theorem rm6 (l : Launch) (Z : State) (a0 : Array Value) (hw : ∀ d ∈ tables_1, d.before a0 Z = true) (n0 : Nat) (ws : List Jvm.Cond) (a : Addr) (b : Addr) (f : Nat → Value) (x0 : Int32) (x1 : Int32) (h0 : Heap) (hn0 : n0 ≤ h0.size) (e0 : Ars Z h0 a .char 2 f) (e1 : f 0 = .int x0) (e2 : f 1 = .int x1) (e3 : 0 ≤ x0.toInt ∧ x0.toInt ≤ 255) (e4 : 0 ≤ x1.toInt ∧ x1.toInt ≤ 255) (e5 : Ars Z h0 b .byte 2 (fun _ => (.int (0 : Int32)))) (e6 : n0 ≤ b) (e7 : a ≠ b) :
    Ctr l Z n0 y6 jdk_52_method_21_code 7 (some .int) ws R6 #[(.ref a), (.int (0 : Int32)), (.ref b), (.int (0 : Int32)), (.int (2 : Int32))] h0 (QI fun r h => (Keep h0 h [b]) ∧ (Ars Z h b .byte 2 (upd (upd (fun _ => (.int (0 : Int32))) 0 (.int x0.toInt8.toInt32.toInt8.toInt32)) 1 (.int x1.toInt8.toInt32.toInt8.toInt32))) ∧ (r = (2 : Int32))) := by
  refine ctr_of pn6 hn0 (ef6 a b) fun G A0 => ?_
  have A1 := A0.iconst (z := (0 : Int32)) (pc' := 1) d6_0 rfl rfl
  have A2 := A1.istore (Ls' := #[.val (.ref a), .val (.int (0 : Int32)), .val (.ref b), .val (.int (0 : Int32)), .val (.int (2 : Int32)), .val (.int (0 : Int32)), .unset]) (pc' := 3) d6_1 rfl rfl
  have A3 := A2.iload (v := (0 : Int32)) (pc' := 5) d6_3 rfl rfl
  have A4 := A3.iload (v := (2 : Int32)) (pc' := 7) d6_5 rfl rfl
  have A6 := A4.icmpNo (pc' := 10) d6_7 (tlt (ilt (x := (0 : Int32)) (y := (2 : Int32)) rfl rfl (by decide : (0 : Int) < 2))).2.1 rfl
  have A7 := A6.aloadN (v := (.ref a)) (pc' := 11) d6_10 rfl rfl rfl
  have A8 := A7.iloadN (v := (0 : Int32)) (pc' := 12) d6_11 rfl rfl
  have A9 := A8.caload (i := 0) (v := (.int x0)) (pc' := 13) d6_12 e0 rfl (by decide) e1 rfl
  have A10 := A9.istore (Ls' := #[.val (.ref a), .val (.int (0 : Int32)), .val (.ref b), .val (.int (0 : Int32)), .val (.int (2 : Int32)), .val (.int (0 : Int32)), .val (.int x0)]) (pc' := 15) d6_13 rfl rfl
  have A11 := A10.iload (v := x0) (pc' := 17) d6_15 rfl rfl
  have A12 := A11.sipush (z := (255 : Int32)) (pc' := 20) d6_17 rfl rfl
  by_cases c13 : 255 < x0.toInt
  · exfalso
    omega
  · have A15 := A12.icmpYes (pc' := 26) d6_20 (flt (ingt (x := x0) (y := (255 : Int32)) rfl rfl c13)).2.2.2 (by decide) (by decide)
    have A16 := A15.aloadN (v := (.ref b)) (pc' := 27) d6_26 rfl rfl rfl
    have A17 := A16.iloadN (v := (0 : Int32)) (pc' := 28) d6_27 rfl rfl
    have A18 := A17.iload (v := x0) (pc' := 30) d6_28 rfl rfl
    have A19 := A18.i2b (pc' := 31) d6_30 rfl
    obtain ⟨h20, w21, X22, A23⟩ := A19.bastore (i := 0) (pc' := 32) d6_31 e5 rfl (by decide) e6 rfl
    have A24 := A23.iinc (v := (0 : Int32)) (z := (1 : Int32)) (Ls' := #[.val (.ref a), .val (.int (1 : Int32)), .val (.ref b), .val (.int (0 : Int32)), .val (.int (2 : Int32)), .val (.int (0 : Int32)), .val (.int x0)]) (pc' := 35) d6_32 rfl (by decide) rfl rfl
    have A25 := A24.iinc (v := (0 : Int32)) (z := (1 : Int32)) (Ls' := #[.val (.ref a), .val (.int (1 : Int32)), .val (.ref b), .val (.int (1 : Int32)), .val (.int (2 : Int32)), .val (.int (0 : Int32)), .val (.int x0)]) (pc' := 38) d6_35 rfl (by decide) rfl rfl
    have A26 := A25.iinc (v := (0 : Int32)) (z := (1 : Int32)) (Ls' := #[.val (.ref a), .val (.int (1 : Int32)), .val (.ref b), .val (.int (1 : Int32)), .val (.int (2 : Int32)), .val (.int (1 : Int32)), .val (.int x0)]) (pc' := 41) d6_38 rfl (by decide) rfl rfl
    have A27 := A26.goto (pc' := 3) d6_41 (by decide) (by decide)
    have A28 := A27.iload (v := (1 : Int32)) (pc' := 5) d6_3 rfl rfl
    have A29 := A28.iload (v := (2 : Int32)) (pc' := 7) d6_5 rfl rfl
    have A31 := A29.icmpNo (pc' := 10) d6_7 (tlt (ilt (x := (1 : Int32)) (y := (2 : Int32)) rfl rfl (by decide : (1 : Int) < 2))).2.1 rfl
    have A32 := A31.aloadN (v := (.ref a)) (pc' := 11) d6_10 rfl rfl rfl
    have A33 := A32.iloadN (v := (1 : Int32)) (pc' := 12) d6_11 rfl rfl
    have f34 := (e0.other w21 e7)
    have A35 := A33.caload (i := 1) (v := (.int x1)) (pc' := 13) d6_12 f34 rfl (by decide) e2 rfl
    have A36 := A35.istore (Ls' := #[.val (.ref a), .val (.int (1 : Int32)), .val (.ref b), .val (.int (1 : Int32)), .val (.int (2 : Int32)), .val (.int (1 : Int32)), .val (.int x1)]) (pc' := 15) d6_13 rfl rfl
    have A37 := A36.iload (v := x1) (pc' := 17) d6_15 rfl rfl
    have A38 := A37.sipush (z := (255 : Int32)) (pc' := 20) d6_17 rfl rfl
    by_cases c39 : 255 < x1.toInt
    · exfalso
      omega
    · have A41 := A38.icmpYes (pc' := 26) d6_20 (flt (ingt (x := x1) (y := (255 : Int32)) rfl rfl c39)).2.2.2 (by decide) (by decide)
      have A42 := A41.aloadN (v := (.ref b)) (pc' := 27) d6_26 rfl rfl rfl
      have A43 := A42.iloadN (v := (1 : Int32)) (pc' := 28) d6_27 rfl rfl
      have A44 := A43.iload (v := x1) (pc' := 30) d6_28 rfl rfl
      have A45 := A44.i2b (pc' := 31) d6_30 rfl
      obtain ⟨h46, w47, X48, A49⟩ := A45.bastore (i := 1) (pc' := 32) d6_31 X22 rfl (by decide) e6 rfl
      have A50 := A49.iinc (v := (1 : Int32)) (z := (2 : Int32)) (Ls' := #[.val (.ref a), .val (.int (2 : Int32)), .val (.ref b), .val (.int (1 : Int32)), .val (.int (2 : Int32)), .val (.int (1 : Int32)), .val (.int x1)]) (pc' := 35) d6_32 rfl (by decide) rfl rfl
      have A51 := A50.iinc (v := (1 : Int32)) (z := (2 : Int32)) (Ls' := #[.val (.ref a), .val (.int (2 : Int32)), .val (.ref b), .val (.int (2 : Int32)), .val (.int (2 : Int32)), .val (.int (1 : Int32)), .val (.int x1)]) (pc' := 38) d6_35 rfl (by decide) rfl rfl
      have A52 := A51.iinc (v := (1 : Int32)) (z := (2 : Int32)) (Ls' := #[.val (.ref a), .val (.int (2 : Int32)), .val (.ref b), .val (.int (2 : Int32)), .val (.int (2 : Int32)), .val (.int (2 : Int32)), .val (.int x1)]) (pc' := 41) d6_38 rfl (by decide) rfl rfl
      have A53 := A52.goto (pc' := 3) d6_41 (by decide) (by decide)
      have A54 := A53.iload (v := (2 : Int32)) (pc' := 5) d6_3 rfl rfl
      have A55 := A54.iload (v := (2 : Int32)) (pc' := 7) d6_5 rfl rfl
      have A57 := A55.icmpYes (pc' := 44) d6_7 (flt (inlt (x := (2 : Int32)) (y := (2 : Int32)) rfl rfl (by decide : ¬ ((2 : Int) < 2)))).2.1 (by decide) (by decide)
      have A58 := A57.iload (v := (2 : Int32)) (pc' := 46) d6_44 rfl rfl
      have K59 : Keep h0 h46 [b] := (((Keep.refl h0 [b]).wr w21 (Or.inl (List.mem_of_getElem? (i := 0) rfl))).wr w47 (Or.inl (List.mem_of_getElem? (i := 0) rfl)))
      refine A58.retI d6_46 (by decide) (by decide) ⟨_, rfl, ⟨K59, X48, ?_⟩⟩
      have elit : (2 : Int32).toInt = 2 := rfl
      rfl
theorem pn5 : plainFor (⟨"java/lang/StringUTF16", "compress", "([CII)[B"⟩ : MethodName) = true := by first | exact plainFor_of_name (by first | (simp [plainName, overriddenIn]; done) | decide +kernel) | exact Jvm.Free.JP.mathPlain rfl (by decide +kernel) | decide +kernel
theorem d5_0 : decode jdk_52_method_16_code 0 = .ok (.iload_n 2, 1) := by decide +kernel
theorem d5_1 : decode jdk_52_method_16_code 1 = .ok (.newarray .byte, 2) := by decide +kernel
theorem d5_3 : decode jdk_52_method_16_code 3 = .ok (.astore_n 3, 1) := by decide +kernel
theorem d5_4 : decode jdk_52_method_16_code 4 = .ok (.aload_n 0, 1) := by decide +kernel
theorem d5_5 : decode jdk_52_method_16_code 5 = .ok (.iload_n 1, 1) := by decide +kernel
theorem d5_6 : decode jdk_52_method_16_code 6 = .ok (.aload_n 3, 1) := by decide +kernel
theorem d5_7 : decode jdk_52_method_16_code 7 = .ok (.iconst 0, 1) := by decide +kernel
theorem d5_8 : decode jdk_52_method_16_code 8 = .ok (.iload_n 2, 1) := by decide +kernel
theorem d5_9 : decode jdk_52_method_16_code 9 = .ok (.invokestatic 115, 3) := by decide +kernel
theorem d5_12 : decode jdk_52_method_16_code 12 = .ok (.istore 4, 2) := by decide +kernel
theorem d5_14 : decode jdk_52_method_16_code 14 = .ok (.iload 4, 2) := by decide +kernel
theorem d5_16 : decode jdk_52_method_16_code 16 = .ok (.iload_n 2, 1) := by decide +kernel
theorem d5_17 : decode jdk_52_method_16_code 17 = .ok (.if_icmp .eq 40, 3) := by decide +kernel
theorem d5_57 : decode jdk_52_method_16_code 57 = .ok (.aload_n 3, 1) := by decide +kernel
theorem d5_58 : decode jdk_52_method_16_code 58 = .ok (.areturn, 1) := by decide +kernel
abbrev y5 : MethodName := (⟨"java/lang/StringUTF16", "compress", "([CII)[B"⟩ : MethodName)
abbrev R5 : Room := { frames := 1, cells := 1, slots := 2, locals := 18 }
set_option maxRecDepth 65536 in
set_option maxHeartbeats 4000000 in
theorem ef5 (a : Addr)  (mid : MethodId) : entryFrame mid #[(.ref a), (.int (0 : Int32)), (.int (2 : Int32))] 6 = mkF mid 0 #[.val (.ref a), .val (.int (0 : Int32)), .val (.int (2 : Int32)), .unset, .unset, .unset] [] := by first | (simp [entryFrame, mkF, argsToLocals, Value.category]; done) | rfl
set_option maxRecDepth 65536 in
set_option maxHeartbeats 40000000 in
theorem rm5 (l : Launch) (Z : State) (a0 : Array Value) (hw : ∀ d ∈ tables_1, d.before a0 Z = true) (n0 : Nat) (ws : List Jvm.Cond) (a : Addr) (f : Nat → Value) (x0 : Int32) (x1 : Int32) (h0 : Heap) (hn0 : n0 ≤ h0.size) (e0 : Ars Z h0 a .char 2 f) (e1 : f 0 = .int x0) (e2 : f 1 = .int x1) (e3 : 0 ≤ x0.toInt ∧ x0.toInt ≤ 255) (e4 : 0 ≤ x1.toInt ∧ x1.toInt ≤ 255) :
    Ctr l Z n0 y5 jdk_52_method_16_code 6 (some (.array .byte)) ws R5 #[(.ref a), (.int (0 : Int32)), (.int (2 : Int32))] h0 (QA fun r h => (Keep h0 h []) ∧ (n0 ≤ r) ∧ (h0.size ≤ r) ∧ (Ars Z h r .byte 2 (upd (upd (fun _ => (.int (0 : Int32))) 0 (.int x0.toInt8.toInt32.toInt8.toInt32)) 1 (.int x1.toInt8.toInt32.toInt8.toInt32))) ∧ (Exa Z h r "[B") ∧ (True)) := by
  refine ctr_of pn5 hn0 (ef5 a) fun G A0 => ?_
  have A1 := A0.iloadN (v := (2 : Int32)) (pc' := 1) d5_0 rfl rfl
  obtain ⟨h2, b3, eb4, g5, E6, X7, XE9, A8⟩ := A1.newP (z := (2 : Int32)) (N := 2) (cap := 2) (C' := 1) (S' := 2) (pc' := 3) d5_1 (hw _ (List.mem_of_getElem? (i := 1) rfl)) rfl (by decide) (by decide) (by decide) (by decide) rfl rfl rfl rfl
  have ne10 : a ≠ b3 := Nat.ne_of_lt (Nat.lt_of_lt_of_le e0.lt (Nat.le_of_eq eb4.symm))
  change Exa Z h2 b3 "[B" at XE9
  change Ars Z h2 b3 .byte 2 (fun _ => (.int (0 : Int32))) at X7
  have A11 := A8.astoreN (Ls' := #[.val (.ref a), .val (.int (0 : Int32)), .val (.int (2 : Int32)), .val (.ref b3), .unset, .unset]) (pc' := 4) d5_3 rfl rfl rfl
  have A12 := A11.aloadN (v := (.ref a)) (pc' := 5) d5_4 rfl rfl rfl
  have A13 := A12.iloadN (v := (0 : Int32)) (pc' := 6) d5_5 rfl rfl
  have A14 := A13.aloadN (v := (.ref b3)) (pc' := 7) d5_6 rfl rfl rfl
  have A15 := A14.iconst (z := (0 : Int32)) (pc' := 8) d5_7 rfl rfl
  have A16 := A15.iloadN (v := (2 : Int32)) (pc' := 9) d5_8 rfl rfl
  have f17 := (e0.ext E6)
  obtain ⟨r19, h21, ⟨K22, f23, q20⟩, A18⟩ := W.kI (A16.callS (argsL := [(.ref a), (.int (0 : Int32)), (.ref b3), (.int (0 : Int32)), (.int (2 : Int32))]) (rest := []) (C' := 1) (S' := 2) (pc' := 12) d5_9 (hw _ (List.mem_of_getElem? (i := 26) rfl)) (hw _ (List.mem_of_getElem? (i := 27) rfl)) (hw _ (List.mem_of_getElem? (i := 24) rfl)) (hw _ (List.mem_of_getElem? (i := 28) rfl)) (rm6 l Z a0 hw n0 [] (a) (b3) (f) (_) (_) h2 A16.size f17 (by assumption) (by assumption) (by assumption) (by assumption) X7 g5 ne10) rfl rfl pd_0 rfl rfl (by decide) (by decide) (Nat.le_of_ble_eq_true rfl) (by decide) (by decide) rfl rfl rfl)
  have A24 := A18.topI (z := (2 : Int32)) q20
  have A25 := A24.istore (Ls' := #[.val (.ref a), .val (.int (0 : Int32)), .val (.int (2 : Int32)), .val (.ref b3), .val (.int (2 : Int32)), .unset]) (pc' := 14) d5_12 rfl rfl
  have A26 := A25.iload (v := (2 : Int32)) (pc' := 16) d5_14 rfl rfl
  have A27 := A26.iloadN (v := (2 : Int32)) (pc' := 17) d5_16 rfl rfl
  have A29 := A27.icmpYes (pc' := 57) d5_17 (teq (ieq (x := (2 : Int32)) (y := (2 : Int32)) rfl rfl (by decide : (2 : Int) = 2))).1 (by decide) (by decide)
  have A30 := A29.aloadN (v := (.ref b3)) (pc' := 58) d5_57 rfl rfl rfl
  have z31 : h0.size ≤ b3 := Nat.le_trans (Nat.le_refl _) (Nat.le_of_eq eb4.symm)
  have K32 : Keep h0 h21 [] := (((Keep.refl h0 []).ext E6).trans K22 (allS (Or.inr z31) all0))
  have f33 := (XE9.keep K22)
  refine A30.retA d5_58 (by decide) (by decide) rfl rfl rfl ⟨_, rfl, ⟨K32, g5, z31, f23, f33, ?_⟩⟩
  trivial
theorem pn7 : plainFor (⟨"java/lang/StringUTF16", "coderFromArrayLen", "([BI)B"⟩ : MethodName) = true := by first | exact plainFor_of_name (by first | (simp [plainName, overriddenIn]; done) | decide +kernel) | exact Jvm.Free.JP.mathPlain rfl (by decide +kernel) | decide +kernel
theorem d7_0 : decode jdk_52_method_15_code 0 = .ok (.iload_n 1, 1) := by decide +kernel
theorem d7_1 : decode jdk_52_method_15_code 1 = .ok (.aload_n 0, 1) := by decide +kernel
theorem d7_2 : decode jdk_52_method_15_code 2 = .ok (.arraylength, 1) := by decide +kernel
theorem d7_3 : decode jdk_52_method_15_code 3 = .ok (.isub, 1) := by decide +kernel
theorem d7_4 : decode jdk_52_method_15_code 4 = .ok (.bipush 31, 2) := by decide +kernel
theorem d7_6 : decode jdk_52_method_15_code 6 = .ok (.iushr, 1) := by decide +kernel
theorem d7_7 : decode jdk_52_method_15_code 7 = .ok (.i2b, 1) := by decide +kernel
theorem d7_8 : decode jdk_52_method_15_code 8 = .ok (.ireturn, 1) := by decide +kernel
abbrev y7 : MethodName := (⟨"java/lang/StringUTF16", "coderFromArrayLen", "([BI)B"⟩ : MethodName)
abbrev R7 : Room := { frames := 0, cells := 0, slots := 0, locals := 0 }
set_option maxRecDepth 65536 in
set_option maxHeartbeats 4000000 in
theorem ef7 (b : Addr)  (mid : MethodId) : entryFrame mid #[(.ref b), (.int (2 : Int32))] 2 = mkF mid 0 #[.val (.ref b), .val (.int (2 : Int32))] [] := by first | (simp [entryFrame, mkF, argsToLocals, Value.category]; done) | rfl
set_option maxRecDepth 65536 in
set_option maxHeartbeats 40000000 in
theorem rm7 (l : Launch) (Z : State) (a0 : Array Value) (hw : ∀ d ∈ tables_1, d.before a0 Z = true) (n0 : Nat) (ws : List Jvm.Cond) (b : Addr) (f : Nat → Value) (h0 : Heap) (hn0 : n0 ≤ h0.size) (e0 : Ars Z h0 b .byte 2 f) :
    Ctr l Z n0 y7 jdk_52_method_15_code 2 (some .byte) ws R7 #[(.ref b), (.int (2 : Int32))] h0 (QI fun r h => (h0 = h) ∧ (r = (0 : Int32))) := by
  refine ctr_of pn7 hn0 (ef7 b) fun G A0 => ?_
  have A1 := A0.iloadN (v := (2 : Int32)) (pc' := 1) d7_0 rfl rfl
  have A2 := A1.aloadN (v := (.ref b)) (pc' := 2) d7_1 rfl rfl rfl
  have A3 := A2.alen (z := (2 : Int32)) (pc' := 3) d7_2 e0 rfl rfl
  have A4 := A3.isub (pc' := 4) d7_3 rfl
  have A5 := A4.topI (z := (0 : Int32)) (by decide)
  have A6 := A5.bipush (z := (31 : Int32)) (pc' := 6) d7_4 rfl rfl
  have A7 := A6.iushr (pc' := 7) d7_6 rfl
  have A8 := A7.topI (z := (0 : Int32)) (by decide)
  have A9 := A8.i2b (pc' := 8) d7_7 rfl
  have A10 := A9.topI (z := (0 : Int32)) (by decide)
  refine A10.retN (t := .byte) (z' := (0 : Int32)) d7_8 (by decide) (by decide) (by simp) rfl ⟨_, rfl, ⟨rfl, ?_⟩⟩
  have elit : (0 : Int32).toInt = 0 := rfl
  rfl
theorem pn3 : plainFor (⟨"java/lang/String", "<init>", "([CIILjava/lang/Void;)V"⟩ : MethodName) = true := by first | exact plainFor_of_name (by first | (simp [plainName, overriddenIn]; done) | decide +kernel) | exact Jvm.Free.JP.mathPlain rfl (by decide +kernel) | decide +kernel
theorem d3_0 : decode jdk_42_method_149_code 0 = .ok (.aload_n 0, 1) := by decide +kernel
theorem d3_1 : decode jdk_42_method_149_code 1 = .ok (.invokespecial 1, 3) := by decide +kernel
theorem d3_4 : decode jdk_42_method_149_code 4 = .ok (.iload_n 3, 1) := by decide +kernel
theorem d3_5 : decode jdk_42_method_149_code 5 = .ok (.ifCond .ne 22, 3) := by decide +kernel
theorem d3_27 : decode jdk_42_method_149_code 27 = .ok (.getstatic 38, 3) := by decide +kernel
theorem d3_30 : decode jdk_42_method_149_code 30 = .ok (.ifCond .eq 28, 3) := by decide +kernel
theorem d3_33 : decode jdk_42_method_149_code 33 = .ok (.aload_n 1, 1) := by decide +kernel
theorem d3_34 : decode jdk_42_method_149_code 34 = .ok (.iload_n 2, 1) := by decide +kernel
theorem d3_35 : decode jdk_42_method_149_code 35 = .ok (.iload_n 3, 1) := by decide +kernel
theorem d3_36 : decode jdk_42_method_149_code 36 = .ok (.invokestatic 177, 3) := by decide +kernel
theorem d3_39 : decode jdk_42_method_149_code 39 = .ok (.astore 5, 2) := by decide +kernel
theorem d3_41 : decode jdk_42_method_149_code 41 = .ok (.aload_n 0, 1) := by decide +kernel
theorem d3_42 : decode jdk_42_method_149_code 42 = .ok (.aload 5, 2) := by decide +kernel
theorem d3_44 : decode jdk_42_method_149_code 44 = .ok (.iload_n 3, 1) := by decide +kernel
theorem d3_45 : decode jdk_42_method_149_code 45 = .ok (.invokestatic 47, 3) := by decide +kernel
theorem d3_48 : decode jdk_42_method_149_code 48 = .ok (.putfield 15, 3) := by decide +kernel
theorem d3_51 : decode jdk_42_method_149_code 51 = .ok (.aload_n 0, 1) := by decide +kernel
theorem d3_52 : decode jdk_42_method_149_code 52 = .ok (.aload 5, 2) := by decide +kernel
theorem d3_54 : decode jdk_42_method_149_code 54 = .ok (.putfield 9, 3) := by decide +kernel
theorem d3_57 : decode jdk_42_method_149_code 57 = .ok (.return_, 1) := by decide +kernel
abbrev y3 : MethodName := (⟨"java/lang/String", "<init>", "([CIILjava/lang/Void;)V"⟩ : MethodName)
abbrev R3 : Room := { frames := 2, cells := 1, slots := 2, locals := 35 }
set_option maxRecDepth 65536 in
set_option maxHeartbeats 4000000 in
theorem ef3 (s : Addr) (a : Addr)  (mid : MethodId) : entryFrame mid #[(.ref s), (.ref a), (.int (0 : Int32)), (.int (2 : Int32)), .null] 6 = mkF mid 0 #[.val (.ref s), .val (.ref a), .val (.int (0 : Int32)), .val (.int (2 : Int32)), .val .null, .unset] [] := by first | (simp [entryFrame, mkF, argsToLocals, Value.category]; done) | rfl
set_option maxRecDepth 65536 in
set_option maxHeartbeats 40000000 in
theorem rm3 (l : Launch) (Z : State) (a0 : Array Value) (hw : ∀ d ∈ tables_1, d.before a0 Z = true) (n0 : Nat) (ws : List Jvm.Cond) (s : Addr) (a : Addr) (f : Nat → Value) (x0 : Int32) (x1 : Int32) (cs : Int32) (h0 : Heap) (hn0 : n0 ≤ h0.size) (e0 : Ars Z h0 a .char 2 f) (e1 : f 0 = .int x0) (e2 : f 1 = .int x1) (e3 : 0 ≤ x0.toInt ∧ x0.toInt ≤ 255) (e4 : 0 ≤ x1.toInt ∧ x1.toInt ≤ 255) (e5 : Exa Z h0 s "java/lang/String") (e6 : n0 ≤ s) (e7 : Fld Z h0 s "java/lang/String" "value" "[B" .null) (e8 : Fld Z h0 s "java/lang/String" "coder" "B" (.int (0 : Int32))) (e9 : s ≠ a) (e10 : Old Z n0 h0) (e11 : Sta Z Z.heap "java/lang/String" "COMPACT_STRINGS" "Z" (.int cs)) (e12 : cs.toInt ≠ 0) :
    Ctr l Z n0 y3 jdk_42_method_149_code 6 (none) ws R3 #[(.ref s), (.ref a), (.int (0 : Int32)), (.int (2 : Int32)), .null] h0 (QV fun h => ∃ b1 : Addr, (Keep h0 h [s]) ∧ (n0 ≤ b1) ∧ (h0.size ≤ b1) ∧ (Fld Z h s "java/lang/String" "coder" "B" (.int (0 : Int32))) ∧ (Fld Z h s "java/lang/String" "value" "[B" (.ref b1)) ∧ (Ars Z h b1 .byte 2 (upd (upd (fun _ => (.int (0 : Int32))) 0 (.int x0.toInt8.toInt32.toInt8.toInt32)) 1 (.int x1.toInt8.toInt32.toInt8.toInt32))) ∧ (Exa Z h b1 "[B") ∧ (True)) := by
  refine ctr_of pn3 hn0 (ef3 s a) fun G A0 => ?_
  have A1 := A0.aloadN (v := (.ref s)) (pc' := 1) d3_0 rfl rfl rfl
  have A2 := A1.initO (pc' := 4) d3_1 (hw _ (List.mem_of_getElem? (i := 18) rfl)) (hw _ (List.mem_of_getElem? (i := 19) rfl)) (hw _ (List.mem_of_getElem? (i := 20) rfl)) rfl (by decide) (Nat.le_of_ble_eq_true rfl) rfl
  have A3 := A2.iloadN (v := (2 : Int32)) (pc' := 5) d3_4 rfl rfl
  have A5 := A3.ifYes (pc' := 27) d3_5 (feq (ine (x := (2 : Int32)) (y := (0 : Int32)) rfl rfl (by decide : ¬ ((2 : Int) = 0)))).2 (by decide) (by decide)
  have f7 := e11.ext e10.2
  have A6 := A5.getS (pc' := 30) (host := "") d3_27 (Or.inl (hw _ (List.mem_of_getElem? (i := 21) rfl))) Via.refl f7 rfl
  by_cases c8 : cs.toInt = 0
  · exfalso
    omega
  · have A10 := A6.ifNo (pc' := 33) d3_30 (feq (ine (x := cs) (y := (0 : Int32)) rfl rfl c8)).1 rfl
    have A11 := A10.aloadN (v := (.ref a)) (pc' := 34) d3_33 rfl rfl rfl
    have A12 := A11.iloadN (v := (0 : Int32)) (pc' := 35) d3_34 rfl rfl
    have A13 := A12.iloadN (v := (2 : Int32)) (pc' := 36) d3_35 rfl rfl
    obtain ⟨r15, h17, ⟨K18, g19, z20, f21, f22, q16⟩, A14⟩ := W.kA (A13.callS (argsL := [(.ref a), (.int (0 : Int32)), (.int (2 : Int32))]) (rest := []) (C' := 1) (S' := 2) (pc' := 39) d3_36 (hw _ (List.mem_of_getElem? (i := 22) rfl)) (hw _ (List.mem_of_getElem? (i := 23) rfl)) (hw _ (List.mem_of_getElem? (i := 24) rfl)) (hw _ (List.mem_of_getElem? (i := 25) rfl)) (rm5 l Z a0 hw n0 [] (a) (f) (_) (_) h0 A13.size e0 (by assumption) (by assumption) (by assumption) (by assumption)) rfl rfl pd_1 rfl rfl (by decide) (by decide) (Nat.le_of_ble_eq_true rfl) (by decide) (by decide) rfl rfl rfl)
    have ne23 : a ≠ r15 := Nat.ne_of_lt (Nat.lt_of_lt_of_le e0.lt z20)
    have ne24 : s ≠ r15 := Nat.ne_of_lt (Nat.lt_of_lt_of_le e5.lt z20)
    have A25 := A14.astore (Ls' := #[.val (.ref s), .val (.ref a), .val (.int (0 : Int32)), .val (.int (2 : Int32)), .val .null, .val (.ref r15)]) (pc' := 41) d3_39 rfl rfl rfl
    have A26 := A25.aloadN (v := (.ref s)) (pc' := 42) d3_41 rfl rfl rfl
    have A27 := A26.aload (v := (.ref r15)) (pc' := 44) d3_42 rfl rfl rfl
    have A28 := A27.iloadN (v := (2 : Int32)) (pc' := 45) d3_44 rfl rfl
    obtain ⟨r30, _, ⟨rfl, q31⟩, A29⟩ := W.kI (A28.callS (argsL := [(.ref r15), (.int (2 : Int32))]) (rest := [(.ref s)]) (C' := 1) (S' := 2) (pc' := 48) d3_45 (hw _ (List.mem_of_getElem? (i := 29) rfl)) (hw _ (List.mem_of_getElem? (i := 30) rfl)) (hw _ (List.mem_of_getElem? (i := 24) rfl)) (hw _ (List.mem_of_getElem? (i := 31) rfl)) (rm7 l Z a0 hw n0 [] (r15) ((upd (upd (fun _ => (.int (0 : Int32))) 0 (.int x0.toInt8.toInt32.toInt8.toInt32)) 1 (.int x1.toInt8.toInt32.toInt8.toInt32))) h17 A28.size f21) rfl rfl pd_2 rfl rfl (by decide) (by decide) (Nat.le_of_ble_eq_true rfl) (by decide) (by decide) rfl rfl rfl)
    subst q31
    have f33 := (e8.keep K18 nin0)
    have f34 := (e5.keep K18)
    obtain ⟨h36, w37, A35⟩ := A29.putFN (pc' := 51) (ty := .byte) (v' := (.int (0 : Int32))) d3_48 (hw _ (List.mem_of_getElem? (i := 32) rfl)) Via.refl f33 f34 (Or.inr ⟨(hw _ (List.mem_of_getElem? (i := 33) rfl)), rfl, rfl⟩) (hw _ (List.mem_of_getElem? (i := 8) rfl)) (by decide) rfl rfl e6 rfl
    have f38 := f33.same w37
    have A39 := A35.aloadN (v := (.ref s)) (pc' := 52) d3_51 rfl rfl rfl
    have A40 := A39.aload (v := (.ref r15)) (pc' := 54) d3_52 rfl rfl rfl
    have f41 := ((e7.keep K18 nin0).other w37 (Or.inr (slot_ne (Or.inr (hw _ (List.mem_of_getElem? (i := 35) rfl))) (Or.inr (hw _ (List.mem_of_getElem? (i := 33) rfl))) (by decide) (t := (.array .byte)) (t' := .byte) (by decide) (by decide))))
    have f42 := (f34.wr w37)
    obtain ⟨h44, w45, A43⟩ := A40.putF (pc' := 57) (ty := (.array .byte)) (host := "") d3_54 (Or.inl (hw _ (List.mem_of_getElem? (i := 34) rfl))) Via.refl f41 f42 (Or.inr ⟨(hw _ (List.mem_of_getElem? (i := 35) rfl)), rfl, rfl⟩) (hw _ (List.mem_of_getElem? (i := 8) rfl)) (by decide) rfl rfl e6 rfl
    have f46 := f41.same w45
    have K47 : Keep h0 h44 [s] := ((((Keep.refl h0 [s]).trans K18 all0).wr w37 (Or.inl (List.mem_of_getElem? (i := 0) rfl))).wr w45 (Or.inl (List.mem_of_getElem? (i := 0) rfl)))
    have z48 : h0.size ≤ r15 := Nat.le_trans (Nat.le_refl _) z20
    have f49 := (f38.other w45 (Or.inr (slot_ne (Or.inr (hw _ (List.mem_of_getElem? (i := 33) rfl))) (Or.inr (hw _ (List.mem_of_getElem? (i := 35) rfl))) (by decide) (t := .byte) (t' := (.array .byte)) (by decide) (by decide))))
    have f50 := ((f21.other w37 (Ne.symm ne24)).other w45 (Ne.symm ne24))
    have f51 := ((f22.wr w37).wr w45)
    refine A43.retV d3_57 (by decide) (by decide) ⟨rfl, ⟨r15, K47, g19, z48, f49, f46, f50, f51, ?_⟩⟩
    trivial
theorem pn2 : plainFor (⟨"java/lang/String", "<init>", "([C)V"⟩ : MethodName) = true := by first | exact plainFor_of_name (by first | (simp [plainName, overriddenIn]; done) | decide +kernel) | exact Jvm.Free.JP.mathPlain rfl (by decide +kernel) | decide +kernel
theorem d2_0 : decode jdk_42_method_3_code 0 = .ok (.aload_n 0, 1) := by decide +kernel
theorem d2_1 : decode jdk_42_method_3_code 1 = .ok (.aload_n 1, 1) := by decide +kernel
theorem d2_2 : decode jdk_42_method_3_code 2 = .ok (.iconst 0, 1) := by decide +kernel
theorem d2_3 : decode jdk_42_method_3_code 3 = .ok (.aload_n 1, 1) := by decide +kernel
theorem d2_4 : decode jdk_42_method_3_code 4 = .ok (.arraylength, 1) := by decide +kernel
theorem d2_5 : decode jdk_42_method_3_code 5 = .ok (.aconst_null, 1) := by decide +kernel
theorem d2_6 : decode jdk_42_method_3_code 6 = .ok (.invokespecial 27, 3) := by decide +kernel
theorem d2_9 : decode jdk_42_method_3_code 9 = .ok (.return_, 1) := by decide +kernel
abbrev y2 : MethodName := (⟨"java/lang/String", "<init>", "([C)V"⟩ : MethodName)
abbrev R2 : Room := { frames := 3, cells := 1, slots := 2, locals := 52 }
set_option maxRecDepth 65536 in
set_option maxHeartbeats 4000000 in
theorem ef2 (s : Addr) (a : Addr)  (mid : MethodId) : entryFrame mid #[(.ref s), (.ref a)] 2 = mkF mid 0 #[.val (.ref s), .val (.ref a)] [] := by first | (simp [entryFrame, mkF, argsToLocals, Value.category]; done) | rfl
set_option maxRecDepth 65536 in
set_option maxHeartbeats 40000000 in
theorem rm2 (l : Launch) (Z : State) (a0 : Array Value) (hw : ∀ d ∈ tables_1, d.before a0 Z = true) (n0 : Nat) (ws : List Jvm.Cond) (s : Addr) (a : Addr) (f : Nat → Value) (x0 : Int32) (x1 : Int32) (cs : Int32) (h0 : Heap) (hn0 : n0 ≤ h0.size) (e0 : Ars Z h0 a .char 2 f) (e1 : f 0 = .int x0) (e2 : f 1 = .int x1) (e3 : 0 ≤ x0.toInt ∧ x0.toInt ≤ 255) (e4 : 0 ≤ x1.toInt ∧ x1.toInt ≤ 255) (e5 : Exa Z h0 s "java/lang/String") (e6 : n0 ≤ s) (e7 : Fld Z h0 s "java/lang/String" "value" "[B" .null) (e8 : Fld Z h0 s "java/lang/String" "coder" "B" (.int (0 : Int32))) (e9 : s ≠ a) (e10 : Old Z n0 h0) (e11 : Sta Z Z.heap "java/lang/String" "COMPACT_STRINGS" "Z" (.int cs)) (e12 : cs.toInt ≠ 0) :
    Ctr l Z n0 y2 jdk_42_method_3_code 2 (none) ws R2 #[(.ref s), (.ref a)] h0 (QV fun h => ∃ b1 : Addr, (Keep h0 h [s]) ∧ (n0 ≤ b1) ∧ (h0.size ≤ b1) ∧ (Fld Z h s "java/lang/String" "coder" "B" (.int (0 : Int32))) ∧ (Fld Z h s "java/lang/String" "value" "[B" (.ref b1)) ∧ (Ars Z h b1 .byte 2 (upd (upd (fun _ => (.int (0 : Int32))) 0 (.int x0.toInt8.toInt32.toInt8.toInt32)) 1 (.int x1.toInt8.toInt32.toInt8.toInt32))) ∧ (Exa Z h b1 "[B") ∧ (True)) := by
  refine ctr_of pn2 hn0 (ef2 s a) fun G A0 => ?_
  have A1 := A0.aloadN (v := (.ref s)) (pc' := 1) d2_0 rfl rfl rfl
  have A2 := A1.aloadN (v := (.ref a)) (pc' := 2) d2_1 rfl rfl rfl
  have A3 := A2.iconst (z := (0 : Int32)) (pc' := 3) d2_2 rfl rfl
  have A4 := A3.aloadN (v := (.ref a)) (pc' := 4) d2_3 rfl rfl rfl
  have A5 := A4.alen (z := (2 : Int32)) (pc' := 5) d2_4 e0 rfl rfl
  have A6 := A5.aconstNull (pc' := 6) d2_5 rfl
  obtain ⟨h10, ⟨b12, K11, g13, z14, f15, f16, f17, f18, q9⟩, A7⟩ := W.kV (A6.callI (a := s) (argsL := [(.ref a), (.int (0 : Int32)), (.int (2 : Int32)), .null]) (rest := []) (C' := 1) (S' := 2) (pc' := 9) d2_6 rfl (hw _ (List.mem_of_getElem? (i := 14) rfl)) (hw _ (List.mem_of_getElem? (i := 15) rfl)) (hw _ (List.mem_of_getElem? (i := 9) rfl)) (hw _ (List.mem_of_getElem? (i := 17) rfl)) (rm3 l Z a0 hw n0 [] (s) (a) (f) (_) (_) (_) h0 A6.size e0 (by assumption) (by assumption) (by assumption) (by assumption) e5 e6 e7 e8 e9 e10 e11 (by assumption)) rfl rfl pd_3 rfl rfl (by decide) (by decide) (Nat.le_of_ble_eq_true rfl) (by decide) (by decide) rfl rfl rfl)
  have ne19 : a ≠ b12 := Nat.ne_of_lt (Nat.lt_of_lt_of_le e0.lt z14)
  have ne20 : s ≠ b12 := Nat.ne_of_lt (Nat.lt_of_lt_of_le e5.lt z14)
  have K21 : Keep h0 h10 [s] := ((Keep.refl h0 [s]).trans K11 (allS (Or.inl (List.mem_of_getElem? (i := 0) rfl)) all0))
  have z22 : h0.size ≤ b12 := Nat.le_trans (Nat.le_refl _) z14
  refine A7.retV d2_9 (by decide) (by decide) ⟨rfl, ⟨b12, K21, g13, z22, f15, f16, f17, f18, ?_⟩⟩
  trivial
theorem pn9 : plainFor (⟨"java/lang/StringLatin1", "canEncode", "(C)Z"⟩ : MethodName) = true := by first | exact plainFor_of_name (by first | (simp [plainName, overriddenIn]; done) | decide +kernel) | exact Jvm.Free.JP.mathPlain rfl (by decide +kernel) | decide +kernel
theorem d9_0 : decode jdk_43_method_3_code 0 = .ok (.iload_n 0, 1) := by decide +kernel
theorem d9_1 : decode jdk_43_method_3_code 1 = .ok (.sipush 255, 3) := by decide +kernel
theorem d9_4 : decode jdk_43_method_3_code 4 = .ok (.if_icmp .gt 7, 3) := by decide +kernel
theorem d9_7 : decode jdk_43_method_3_code 7 = .ok (.iconst 1, 1) := by decide +kernel
theorem d9_8 : decode jdk_43_method_3_code 8 = .ok (.goto 4, 3) := by decide +kernel
theorem d9_12 : decode jdk_43_method_3_code 12 = .ok (.ireturn, 1) := by decide +kernel
abbrev y9 : MethodName := (⟨"java/lang/StringLatin1", "canEncode", "(C)Z"⟩ : MethodName)
abbrev R9 : Room := { frames := 0, cells := 0, slots := 0, locals := 0 }
set_option maxRecDepth 65536 in
set_option maxHeartbeats 4000000 in
theorem ef9 (x : Int32)  (mid : MethodId) : entryFrame mid #[(.int x)] 1 = mkF mid 0 #[.val (.int x)] [] := by first | (simp [entryFrame, mkF, argsToLocals, Value.category]; done) | rfl
set_option maxRecDepth 65536 in
set_option maxHeartbeats 40000000 in
theorem rm9 (l : Launch) (Z : State) (a0 : Array Value) (hw : ∀ d ∈ tables_1, d.before a0 Z = true) (n0 : Nat) (ws : List Jvm.Cond) (x : Int32)  (h0 : Heap) (hn0 : n0 ≤ h0.size) (e0 : 0 ≤ x.toInt ∧ x.toInt ≤ 255) :
    Ctr l Z n0 y9 jdk_43_method_3_code 1 (some .boolean) ws R9 #[(.int x)] h0 (QI fun r h => (h0 = h) ∧ (r = (1 : Int32))) := by
  refine ctr_of pn9 hn0 (ef9 x) fun G A0 => ?_
  have A1 := A0.iloadN (v := x) (pc' := 1) d9_0 rfl rfl
  have A2 := A1.sipush (z := (255 : Int32)) (pc' := 4) d9_1 rfl rfl
  by_cases c3 : 255 < x.toInt
  · exfalso
    omega
  · have A5 := A2.icmpNo (pc' := 7) d9_4 (flt (ingt (x := x) (y := (255 : Int32)) rfl rfl c3)).2.2.1 rfl
    have A6 := A5.iconst (z := (1 : Int32)) (pc' := 8) d9_7 rfl rfl
    have A7 := A6.goto (pc' := 12) d9_8 (by decide) (by decide)
    refine A7.retN (t := .boolean) (z' := (1 : Int32)) d9_12 (by decide) (by decide) (by simp) rfl ⟨_, rfl, ⟨rfl, ?_⟩⟩
    have elit : (1 : Int32).toInt = 1 := rfl
    rfl
theorem pn10 : plainFor (⟨"java/lang/StringLatin1", "toBytes", "(C)[B"⟩ : MethodName) = true := by first | exact plainFor_of_name (by first | (simp [plainName, overriddenIn]; done) | decide +kernel) | exact Jvm.Free.JP.mathPlain rfl (by decide +kernel) | decide +kernel
theorem d10_0 : decode jdk_43_method_46_code 0 = .ok (.iconst 1, 1) := by decide +kernel
theorem d10_1 : decode jdk_43_method_46_code 1 = .ok (.newarray .byte, 2) := by decide +kernel
theorem d10_3 : decode jdk_43_method_46_code 3 = .ok (.dup, 1) := by decide +kernel
theorem d10_4 : decode jdk_43_method_46_code 4 = .ok (.iconst 0, 1) := by decide +kernel
theorem d10_5 : decode jdk_43_method_46_code 5 = .ok (.iload_n 0, 1) := by decide +kernel
theorem d10_6 : decode jdk_43_method_46_code 6 = .ok (.i2b, 1) := by decide +kernel
theorem d10_7 : decode jdk_43_method_46_code 7 = .ok (.bastore, 1) := by decide +kernel
theorem d10_8 : decode jdk_43_method_46_code 8 = .ok (.areturn, 1) := by decide +kernel
abbrev y10 : MethodName := (⟨"java/lang/StringLatin1", "toBytes", "(C)[B"⟩ : MethodName)
abbrev R10 : Room := { frames := 0, cells := 1, slots := 1, locals := 0 }
set_option maxRecDepth 65536 in
set_option maxHeartbeats 4000000 in
theorem ef10 (x : Int32)  (mid : MethodId) : entryFrame mid #[(.int x)] 1 = mkF mid 0 #[.val (.int x)] [] := by first | (simp [entryFrame, mkF, argsToLocals, Value.category]; done) | rfl
set_option maxRecDepth 65536 in
set_option maxHeartbeats 40000000 in
theorem rm10 (l : Launch) (Z : State) (a0 : Array Value) (hw : ∀ d ∈ tables_1, d.before a0 Z = true) (n0 : Nat) (ws : List Jvm.Cond) (x : Int32)  (h0 : Heap) (hn0 : n0 ≤ h0.size)  :
    Ctr l Z n0 y10 jdk_43_method_46_code 1 (some (.array .byte)) ws R10 #[(.int x)] h0 (QA fun r h => (Keep h0 h []) ∧ (n0 ≤ r) ∧ (h0.size ≤ r) ∧ (Ars Z h r .byte 1 (upd (fun _ => (.int (0 : Int32))) 0 (.int x.toInt8.toInt32.toInt8.toInt32))) ∧ (Exa Z h r "[B") ∧ (True)) := by
  refine ctr_of pn10 hn0 (ef10 x) fun G A0 => ?_
  have A1 := A0.iconst (z := (1 : Int32)) (pc' := 1) d10_0 rfl rfl
  obtain ⟨h2, b3, eb4, g5, E6, X7, XE9, A8⟩ := A1.newP (z := (1 : Int32)) (N := 1) (cap := 1) (C' := 1) (S' := 1) (pc' := 3) d10_1 (hw _ (List.mem_of_getElem? (i := 1) rfl)) rfl (by decide) (by decide) (by decide) (by decide) rfl rfl rfl rfl
  change Exa Z h2 b3 "[B" at XE9
  change Ars Z h2 b3 .byte 1 (fun _ => (.int (0 : Int32))) at X7
  have A10 := A8.dup (pc' := 4) d10_3 rfl rfl
  have A11 := A10.iconst (z := (0 : Int32)) (pc' := 5) d10_4 rfl rfl
  have A12 := A11.iloadN (v := x) (pc' := 6) d10_5 rfl rfl
  have A13 := A12.i2b (pc' := 7) d10_6 rfl
  obtain ⟨h14, w15, X16, A17⟩ := A13.bastore (i := 0) (pc' := 8) d10_7 X7 rfl (by decide) g5 rfl
  have z18 : h0.size ≤ b3 := Nat.le_trans (Nat.le_refl _) (Nat.le_of_eq eb4.symm)
  have K19 : Keep h0 h14 [] := (((Keep.refl h0 []).ext E6).wr w15 (Or.inr z18))
  have f20 := (XE9.wr w15)
  refine A17.retA d10_8 (by decide) (by decide) rfl rfl rfl ⟨_, rfl, ⟨K19, g5, z18, X16, f20, ?_⟩⟩
  trivial
theorem pn11 : plainFor (⟨"java/lang/String", "<init>", "([BB)V"⟩ : MethodName) = true := by first | exact plainFor_of_name (by first | (simp [plainName, overriddenIn]; done) | decide +kernel) | exact Jvm.Free.JP.mathPlain rfl (by decide +kernel) | decide +kernel
theorem d11_0 : decode jdk_42_method_151_code 0 = .ok (.aload_n 0, 1) := by decide +kernel
theorem d11_1 : decode jdk_42_method_151_code 1 = .ok (.invokespecial 1, 3) := by decide +kernel
theorem d11_4 : decode jdk_42_method_151_code 4 = .ok (.aload_n 0, 1) := by decide +kernel
theorem d11_5 : decode jdk_42_method_151_code 5 = .ok (.aload_n 1, 1) := by decide +kernel
theorem d11_6 : decode jdk_42_method_151_code 6 = .ok (.putfield 9, 3) := by decide +kernel
theorem d11_9 : decode jdk_42_method_151_code 9 = .ok (.aload_n 0, 1) := by decide +kernel
theorem d11_10 : decode jdk_42_method_151_code 10 = .ok (.iload_n 2, 1) := by decide +kernel
theorem d11_11 : decode jdk_42_method_151_code 11 = .ok (.putfield 15, 3) := by decide +kernel
theorem d11_14 : decode jdk_42_method_151_code 14 = .ok (.return_, 1) := by decide +kernel
abbrev y11 : MethodName := (⟨"java/lang/String", "<init>", "([BB)V"⟩ : MethodName)
abbrev R11 : Room := { frames := 1, cells := 0, slots := 0, locals := 12 }
set_option maxRecDepth 65536 in
set_option maxHeartbeats 4000000 in
theorem ef11 (s : Addr) (b : Addr)  (mid : MethodId) : entryFrame mid #[(.ref s), (.ref b), (.int (0 : Int32))] 3 = mkF mid 0 #[.val (.ref s), .val (.ref b), .val (.int (0 : Int32))] [] := by first | (simp [entryFrame, mkF, argsToLocals, Value.category]; done) | rfl
set_option maxRecDepth 65536 in
set_option maxHeartbeats 40000000 in
theorem rm11 (l : Launch) (Z : State) (a0 : Array Value) (hw : ∀ d ∈ tables_1, d.before a0 Z = true) (n0 : Nat) (ws : List Jvm.Cond) (s : Addr) (b : Addr)  (h0 : Heap) (hn0 : n0 ≤ h0.size) (e0 : Exa Z h0 s "java/lang/String") (e1 : n0 ≤ s) (e2 : Fld Z h0 s "java/lang/String" "value" "[B" .null) (e3 : Fld Z h0 s "java/lang/String" "coder" "B" (.int (0 : Int32))) :
    Ctr l Z n0 y11 jdk_42_method_151_code 3 (none) ws R11 #[(.ref s), (.ref b), (.int (0 : Int32))] h0 (QV fun h => (Keep h0 h [s]) ∧ (Fld Z h s "java/lang/String" "coder" "B" (.int (0 : Int32))) ∧ (Fld Z h s "java/lang/String" "value" "[B" (.ref b)) ∧ (True)) := by
  refine ctr_of pn11 hn0 (ef11 s b) fun G A0 => ?_
  have A1 := A0.aloadN (v := (.ref s)) (pc' := 1) d11_0 rfl rfl rfl
  have A2 := A1.initO (pc' := 4) d11_1 (hw _ (List.mem_of_getElem? (i := 18) rfl)) (hw _ (List.mem_of_getElem? (i := 19) rfl)) (hw _ (List.mem_of_getElem? (i := 20) rfl)) rfl (by decide) (Nat.le_of_ble_eq_true rfl) rfl
  have A3 := A2.aloadN (v := (.ref s)) (pc' := 5) d11_4 rfl rfl rfl
  have A4 := A3.aloadN (v := (.ref b)) (pc' := 6) d11_5 rfl rfl rfl
  obtain ⟨h6, w7, A5⟩ := A4.putF (pc' := 9) (ty := (.array .byte)) (host := "") d11_6 (Or.inl (hw _ (List.mem_of_getElem? (i := 34) rfl))) Via.refl e2 e0 (Or.inr ⟨(hw _ (List.mem_of_getElem? (i := 35) rfl)), rfl, rfl⟩) (hw _ (List.mem_of_getElem? (i := 8) rfl)) (by decide) rfl rfl e1 rfl
  have f8 := e2.same w7
  have A9 := A5.aloadN (v := (.ref s)) (pc' := 10) d11_9 rfl rfl rfl
  have A10 := A9.iloadN (v := (0 : Int32)) (pc' := 11) d11_10 rfl rfl
  have f11 := (e3.other w7 (Or.inr (slot_ne (Or.inr (hw _ (List.mem_of_getElem? (i := 33) rfl))) (Or.inr (hw _ (List.mem_of_getElem? (i := 35) rfl))) (by decide) (t := .byte) (t' := (.array .byte)) (by decide) (by decide))))
  have f12 := (e0.wr w7)
  obtain ⟨h14, w15, A13⟩ := A10.putFN (pc' := 14) (ty := .byte) (v' := (.int (0 : Int32))) d11_11 (hw _ (List.mem_of_getElem? (i := 32) rfl)) Via.refl f11 f12 (Or.inr ⟨(hw _ (List.mem_of_getElem? (i := 33) rfl)), rfl, rfl⟩) (hw _ (List.mem_of_getElem? (i := 8) rfl)) (by decide) rfl rfl e1 rfl
  have f16 := f11.same w15
  have K17 : Keep h0 h14 [s] := (((Keep.refl h0 [s]).wr w7 (Or.inl (List.mem_of_getElem? (i := 0) rfl))).wr w15 (Or.inl (List.mem_of_getElem? (i := 0) rfl)))
  have f18 := (f8.other w15 (Or.inr (slot_ne (Or.inr (hw _ (List.mem_of_getElem? (i := 35) rfl))) (Or.inr (hw _ (List.mem_of_getElem? (i := 33) rfl))) (by decide) (t := (.array .byte)) (t' := .byte) (by decide) (by decide))))
  refine A13.retV d11_14 (by decide) (by decide) ⟨rfl, ⟨K17, f16, f18, ?_⟩⟩
  trivial
theorem pn8 : plainFor (⟨"java/lang/String", "valueOf", "(C)Ljava/lang/String;"⟩ : MethodName) = true := by first | exact plainFor_of_name (by first | (simp [plainName, overriddenIn]; done) | decide +kernel) | exact Jvm.Free.JP.mathPlain rfl (by decide +kernel) | decide +kernel
theorem d8_0 : decode jdk_42_method_139_code 0 = .ok (.getstatic 38, 3) := by decide +kernel
theorem d8_3 : decode jdk_42_method_139_code 3 = .ok (.ifCond .eq 23, 3) := by decide +kernel
theorem d8_6 : decode jdk_42_method_139_code 6 = .ok (.iload_n 0, 1) := by decide +kernel
theorem d8_7 : decode jdk_42_method_139_code 7 = .ok (.invokestatic 1015, 3) := by decide +kernel
theorem d8_10 : decode jdk_42_method_139_code 10 = .ok (.ifCond .eq 16, 3) := by decide +kernel
theorem d8_13 : decode jdk_42_method_139_code 13 = .ok (.new 10, 3) := by decide +kernel
theorem d8_16 : decode jdk_42_method_139_code 16 = .ok (.dup, 1) := by decide +kernel
theorem d8_17 : decode jdk_42_method_139_code 17 = .ok (.iload_n 0, 1) := by decide +kernel
theorem d8_18 : decode jdk_42_method_139_code 18 = .ok (.invokestatic 1018, 3) := by decide +kernel
theorem d8_21 : decode jdk_42_method_139_code 21 = .ok (.iconst 0, 1) := by decide +kernel
theorem d8_22 : decode jdk_42_method_139_code 22 = .ok (.invokespecial 209, 3) := by decide +kernel
theorem d8_25 : decode jdk_42_method_139_code 25 = .ok (.areturn, 1) := by decide +kernel
abbrev y8 : MethodName := (⟨"java/lang/String", "valueOf", "(C)Ljava/lang/String;"⟩ : MethodName)
abbrev R8 : Room := { frames := 2, cells := 2, slots := 5, locals := 27 }
set_option maxRecDepth 65536 in
set_option maxHeartbeats 4000000 in
theorem ef8 (x : Int32)  (mid : MethodId) : entryFrame mid #[(.int x)] 1 = mkF mid 0 #[.val (.int x)] [] := by first | (simp [entryFrame, mkF, argsToLocals, Value.category]; done) | rfl
set_option maxRecDepth 65536 in
set_option maxHeartbeats 40000000 in
theorem rm8 (l : Launch) (Z : State) (a0 : Array Value) (hw : ∀ d ∈ tables_1, d.before a0 Z = true) (n0 : Nat) (ws : List Jvm.Cond) (x : Int32) (cs : Int32) (h0 : Heap) (hn0 : n0 ≤ h0.size) (e0 : 0 ≤ x.toInt ∧ x.toInt ≤ 255) (e1 : Old Z n0 h0) (e2 : Sta Z Z.heap "java/lang/String" "COMPACT_STRINGS" "Z" (.int cs)) (e3 : cs.toInt ≠ 0) :
    Ctr l Z n0 y8 jdk_42_method_139_code 1 (some (.object "java/lang/String")) ws R8 #[(.int x)] h0 (QA fun r h => ∃ b1 : Addr, (Keep h0 h []) ∧ (n0 ≤ r) ∧ (h0.size ≤ r) ∧ (n0 ≤ b1) ∧ (h0.size ≤ b1) ∧ (Exa Z h r "java/lang/String") ∧ (Fld Z h r "java/lang/String" "coder" "B" (.int (0 : Int32))) ∧ (Fld Z h r "java/lang/String" "value" "[B" (.ref b1)) ∧ (Ars Z h b1 .byte 1 (upd (fun _ => (.int (0 : Int32))) 0 (.int x.toInt8.toInt32.toInt8.toInt32))) ∧ (Exa Z h b1 "[B") ∧ (True)) := by
  refine ctr_of pn8 hn0 (ef8 x) fun G A0 => ?_
  have f2 := e2.ext e1.2
  have A1 := A0.getS (pc' := 3) (host := "") d8_0 (Or.inl (hw _ (List.mem_of_getElem? (i := 21) rfl))) Via.refl f2 rfl
  by_cases c3 : cs.toInt = 0
  · exfalso
    omega
  · have A5 := A1.ifNo (pc' := 6) d8_3 (feq (ine (x := cs) (y := (0 : Int32)) rfl rfl c3)).1 rfl
    have A6 := A5.iloadN (v := x) (pc' := 7) d8_6 rfl rfl
    obtain ⟨r8, _, ⟨rfl, q9⟩, A7⟩ := W.kI (A6.callS (argsL := [(.int x)]) (rest := []) (C' := 0) (S' := 0) (pc' := 10) d8_7 (hw _ (List.mem_of_getElem? (i := 39) rfl)) (hw _ (List.mem_of_getElem? (i := 40) rfl)) (hw _ (List.mem_of_getElem? (i := 41) rfl)) (hw _ (List.mem_of_getElem? (i := 42) rfl)) (rm9 l Z a0 hw n0 [] (x)  h0 A6.size (by assumption)) rfl rfl pd_4 rfl rfl (by decide) (by decide) (Nat.le_of_ble_eq_true rfl) (by decide) (by decide) rfl rfl rfl)
    subst q9
    have A12 := A7.ifNo (pc' := 13) d8_10 (feq (ine (x := (1 : Int32)) (y := (0 : Int32)) rfl rfl (by decide : ¬ ((1 : Int) = 0)))).1 rfl
    obtain ⟨h13, b14, eb15, g16, E17, X18, D19, A20⟩ := A12.newO (C' := 1) (S' := 4) (pc' := 16) d8_13 (hw _ (List.mem_of_getElem? (i := 43) rfl)) (hw _ (List.mem_of_getElem? (i := 8) rfl)) (hw _ (List.mem_of_getElem? (i := 9) rfl)) (by decide) (by decide) rfl rfl rfl
    have f21 : Fld Z h13 b14 "java/lang/String" "coder" "B" (.int (0 : Int32)) := D19 (Or.inr (hw _ (List.mem_of_getElem? (i := 33) rfl))) (ty := .byte) (by decide)
    have f22 : Fld Z h13 b14 "java/lang/String" "value" "[B" .null := D19 (Or.inr (hw _ (List.mem_of_getElem? (i := 35) rfl))) (ty := (.array .byte)) (by decide)
    have A23 := A20.dup (pc' := 17) d8_16 rfl rfl
    have A24 := A23.iloadN (v := x) (pc' := 18) d8_17 rfl rfl
    obtain ⟨r26, h28, ⟨K29, g30, z31, f32, f33, q27⟩, A25⟩ := W.kA (A24.callS (argsL := [(.int x)]) (rest := [(.ref b14), (.ref b14)]) (C' := 2) (S' := 5) (pc' := 21) d8_18 (hw _ (List.mem_of_getElem? (i := 44) rfl)) (hw _ (List.mem_of_getElem? (i := 45) rfl)) (hw _ (List.mem_of_getElem? (i := 41) rfl)) (hw _ (List.mem_of_getElem? (i := 46) rfl)) (rm10 l Z a0 hw n0 [] (x)  h13 A24.size ) rfl rfl pd_5 rfl rfl (by decide) (by decide) (Nat.le_of_ble_eq_true rfl) (by decide) (by decide) rfl rfl rfl)
    have ne34 : b14 ≠ r26 := Nat.ne_of_lt (Nat.lt_of_lt_of_le X18.lt z31)
    have A35 := A25.iconst (z := (0 : Int32)) (pc' := 22) d8_21 rfl rfl
    have f36 := (X18.keep K29)
    have f37 := (f22.keep K29 nin0)
    have f38 := (f21.keep K29 nin0)
    obtain ⟨h42, ⟨K43, f44, f45, q41⟩, A39⟩ := W.kV (A35.callI (a := b14) (argsL := [(.ref r26), (.int (0 : Int32))]) (rest := [(.ref b14)]) (C' := 2) (S' := 5) (pc' := 25) d8_22 rfl (hw _ (List.mem_of_getElem? (i := 47) rfl)) (hw _ (List.mem_of_getElem? (i := 48) rfl)) (hw _ (List.mem_of_getElem? (i := 9) rfl)) (hw _ (List.mem_of_getElem? (i := 49) rfl)) (rm11 l Z a0 hw n0 [] (b14) (r26)  h28 A35.size f36 g16 f37 f38) rfl rfl pd_6 rfl rfl (by decide) (by decide) (Nat.le_of_ble_eq_true rfl) (by decide) (by decide) rfl rfl rfl)
    have z46 : h0.size ≤ b14 := Nat.le_trans (Nat.le_refl _) (Nat.le_of_eq eb15.symm)
    have K47 : Keep h0 h42 [] := ((((Keep.refl h0 []).ext E17).trans K29 all0).trans K43 (allS (Or.inr z46) all0))
    have z48 : h0.size ≤ r26 := Nat.le_trans (Nat.le_trans (Nat.le_refl _) E17.1) z31
    have f49 := (f36.keep K43)
    have f50 := (f32.keep K43 (ninS (Ne.symm ne34) nin0))
    have f51 := (f33.keep K43)
    refine A39.retA d8_25 (by decide) (by decide) rfl rfl rfl ⟨_, rfl, ⟨r26, K47, g16, z46, g30, z48, f49, f44, f45, f50, f51, ?_⟩⟩
    trivial
theorem pn14 : plainFor (⟨"java/lang/String", "coder", "()B"⟩ : MethodName) = true := by first | exact plainFor_of_name (by first | (simp [plainName, overriddenIn]; done) | decide +kernel) | exact Jvm.Free.JP.mathPlain rfl (by decide +kernel) | decide +kernel
theorem d14_0 : decode jdk_42_method_152_code 0 = .ok (.getstatic 38, 3) := by decide +kernel
theorem d14_3 : decode jdk_42_method_152_code 3 = .ok (.ifCond .eq 10, 3) := by decide +kernel
theorem d14_6 : decode jdk_42_method_152_code 6 = .ok (.aload_n 0, 1) := by decide +kernel
theorem d14_7 : decode jdk_42_method_152_code 7 = .ok (.getfield 15, 3) := by decide +kernel
theorem d14_10 : decode jdk_42_method_152_code 10 = .ok (.goto 4, 3) := by decide +kernel
theorem d14_14 : decode jdk_42_method_152_code 14 = .ok (.ireturn, 1) := by decide +kernel
abbrev y14 : MethodName := (⟨"java/lang/String", "coder", "()B"⟩ : MethodName)
abbrev R14 : Room := { frames := 0, cells := 0, slots := 0, locals := 0 }
set_option maxRecDepth 65536 in
set_option maxHeartbeats 4000000 in
theorem ef14 (s : Addr)  (mid : MethodId) : entryFrame mid #[(.ref s)] 1 = mkF mid 0 #[.val (.ref s)] [] := by first | (simp [entryFrame, mkF, argsToLocals, Value.category]; done) | rfl
set_option maxRecDepth 65536 in
set_option maxHeartbeats 40000000 in
theorem rm14 (l : Launch) (Z : State) (a0 : Array Value) (hw : ∀ d ∈ tables_1, d.before a0 Z = true) (n0 : Nat) (ws : List Jvm.Cond) (s : Addr) (cs : Int32) (h0 : Heap) (hn0 : n0 ≤ h0.size) (e0 : Fld Z h0 s "java/lang/String" "coder" "B" (.int (0 : Int32))) (e1 : Old Z n0 h0) (e2 : Sta Z Z.heap "java/lang/String" "COMPACT_STRINGS" "Z" (.int cs)) (e3 : cs.toInt ≠ 0) :
    Ctr l Z n0 y14 jdk_42_method_152_code 1 (some .byte) ws R14 #[(.ref s)] h0 (QI fun r h => (h0 = h) ∧ (r = (0 : Int32))) := by
  refine ctr_of pn14 hn0 (ef14 s) fun G A0 => ?_
  have f2 := e2.ext e1.2
  have A1 := A0.getS (pc' := 3) (host := "") d14_0 (Or.inl (hw _ (List.mem_of_getElem? (i := 21) rfl))) Via.refl f2 rfl
  by_cases c3 : cs.toInt = 0
  · exfalso
    omega
  · have A5 := A1.ifNo (pc' := 6) d14_3 (feq (ine (x := cs) (y := (0 : Int32)) rfl rfl c3)).1 rfl
    have A6 := A5.aloadN (v := (.ref s)) (pc' := 7) d14_6 rfl rfl rfl
    have A7 := A6.getF (pc' := 10) (host := "") d14_7 (Or.inl (hw _ (List.mem_of_getElem? (i := 32) rfl))) Via.refl e0 rfl
    have A8 := A7.goto (pc' := 14) d14_10 (by decide) (by decide)
    refine A8.retN (t := .byte) (z' := (0 : Int32)) d14_14 (by decide) (by decide) (by simp) rfl ⟨_, rfl, ⟨rfl, ?_⟩⟩
    have elit : (0 : Int32).toInt = 0 := rfl
    rfl
theorem pn16 : plainFor (⟨"java/lang/String", "isLatin1", "()Z"⟩ : MethodName) = true := by first | exact plainFor_of_name (by first | (simp [plainName, overriddenIn]; done) | decide +kernel) | exact Jvm.Free.JP.mathPlain rfl (by decide +kernel) | decide +kernel
theorem d16_0 : decode jdk_42_method_154_code 0 = .ok (.getstatic 38, 3) := by decide +kernel
theorem d16_3 : decode jdk_42_method_154_code 3 = .ok (.ifCond .eq 14, 3) := by decide +kernel
theorem d16_6 : decode jdk_42_method_154_code 6 = .ok (.aload_n 0, 1) := by decide +kernel
theorem d16_7 : decode jdk_42_method_154_code 7 = .ok (.getfield 15, 3) := by decide +kernel
theorem d16_10 : decode jdk_42_method_154_code 10 = .ok (.ifCond .ne 7, 3) := by decide +kernel
theorem d16_13 : decode jdk_42_method_154_code 13 = .ok (.iconst 1, 1) := by decide +kernel
theorem d16_14 : decode jdk_42_method_154_code 14 = .ok (.goto 4, 3) := by decide +kernel
theorem d16_18 : decode jdk_42_method_154_code 18 = .ok (.ireturn, 1) := by decide +kernel
abbrev y16 : MethodName := (⟨"java/lang/String", "isLatin1", "()Z"⟩ : MethodName)
abbrev R16 : Room := { frames := 0, cells := 0, slots := 0, locals := 0 }
set_option maxRecDepth 65536 in
set_option maxHeartbeats 4000000 in
theorem ef16 (s : Addr)  (mid : MethodId) : entryFrame mid #[(.ref s)] 1 = mkF mid 0 #[.val (.ref s)] [] := by first | (simp [entryFrame, mkF, argsToLocals, Value.category]; done) | rfl
set_option maxRecDepth 65536 in
set_option maxHeartbeats 40000000 in
theorem rm16 (l : Launch) (Z : State) (a0 : Array Value) (hw : ∀ d ∈ tables_1, d.before a0 Z = true) (n0 : Nat) (ws : List Jvm.Cond) (s : Addr) (cs : Int32) (h0 : Heap) (hn0 : n0 ≤ h0.size) (e0 : Fld Z h0 s "java/lang/String" "coder" "B" (.int (0 : Int32))) (e1 : Old Z n0 h0) (e2 : Sta Z Z.heap "java/lang/String" "COMPACT_STRINGS" "Z" (.int cs)) (e3 : cs.toInt ≠ 0) :
    Ctr l Z n0 y16 jdk_42_method_154_code 1 (some .boolean) ws R16 #[(.ref s)] h0 (QI fun r h => (h0 = h) ∧ (r = (1 : Int32))) := by
  refine ctr_of pn16 hn0 (ef16 s) fun G A0 => ?_
  have f2 := e2.ext e1.2
  have A1 := A0.getS (pc' := 3) (host := "") d16_0 (Or.inl (hw _ (List.mem_of_getElem? (i := 21) rfl))) Via.refl f2 rfl
  by_cases c3 : cs.toInt = 0
  · exfalso
    omega
  · have A5 := A1.ifNo (pc' := 6) d16_3 (feq (ine (x := cs) (y := (0 : Int32)) rfl rfl c3)).1 rfl
    have A6 := A5.aloadN (v := (.ref s)) (pc' := 7) d16_6 rfl rfl rfl
    have A7 := A6.getF (pc' := 10) (host := "") d16_7 (Or.inl (hw _ (List.mem_of_getElem? (i := 32) rfl))) Via.refl e0 rfl
    have A9 := A7.ifNo (pc' := 13) d16_10 (teq (ieq (x := (0 : Int32)) (y := (0 : Int32)) rfl rfl (by decide : (0 : Int) = 0))).2 rfl
    have A10 := A9.iconst (z := (1 : Int32)) (pc' := 14) d16_13 rfl rfl
    have A11 := A10.goto (pc' := 18) d16_14 (by decide) (by decide)
    refine A11.retN (t := .boolean) (z' := (1 : Int32)) d16_18 (by decide) (by decide) (by simp) rfl ⟨_, rfl, ⟨rfl, ?_⟩⟩
    have elit : (1 : Int32).toInt = 1 := rfl
    rfl
theorem pn19 : plainFor (⟨"jdk/internal/util/Preconditions", "checkIndex", "(IILjava/util/function/BiFunction;)I"⟩ : MethodName) = true := by first | exact plainFor_of_name (by first | (simp [plainName, overriddenIn]; done) | decide +kernel) | exact Jvm.Free.JP.mathPlain rfl (by decide +kernel) | decide +kernel
theorem d19_0 : decode jdk_41_method_11_code 0 = .ok (.iload_n 0, 1) := by decide +kernel
theorem d19_1 : decode jdk_41_method_11_code 1 = .ok (.ifCond .lt 8, 3) := by decide +kernel
theorem d19_4 : decode jdk_41_method_11_code 4 = .ok (.iload_n 0, 1) := by decide +kernel
theorem d19_5 : decode jdk_41_method_11_code 5 = .ok (.iload_n 1, 1) := by decide +kernel
theorem d19_6 : decode jdk_41_method_11_code 6 = .ok (.if_icmp .lt 10, 3) := by decide +kernel
theorem d19_16 : decode jdk_41_method_11_code 16 = .ok (.iload_n 0, 1) := by decide +kernel
theorem d19_17 : decode jdk_41_method_11_code 17 = .ok (.ireturn, 1) := by decide +kernel
abbrev y19_n10 : MethodName := (⟨"jdk/internal/util/Preconditions", "checkIndex", "(IILjava/util/function/BiFunction;)I"⟩ : MethodName)
abbrev R19_n10 : Room := { frames := 0, cells := 0, slots := 0, locals := 0 }
set_option maxRecDepth 65536 in
set_option maxHeartbeats 4000000 in
theorem ef19_n10   (mid : MethodId) : entryFrame mid #[(.int (0 : Int32)), (.int (1 : Int32)), .null] 3 = mkF mid 0 #[.val (.int (0 : Int32)), .val (.int (1 : Int32)), .val .null] [] := by first | (simp [entryFrame, mkF, argsToLocals, Value.category]; done) | rfl
set_option maxRecDepth 65536 in
set_option maxHeartbeats 40000000 in
theorem rm19_n10 (l : Launch) (Z : State) (a0 : Array Value) (hw : ∀ d ∈ tables_1, d.before a0 Z = true) (n0 : Nat) (ws : List Jvm.Cond)   (h0 : Heap) (hn0 : n0 ≤ h0.size)  :
    Ctr l Z n0 y19_n10 jdk_41_method_11_code 3 (some .int) ws R19_n10 #[(.int (0 : Int32)), (.int (1 : Int32)), .null] h0 (QI fun r h => (h0 = h) ∧ (r = (0 : Int32))) := by
  refine ctr_of pn19 hn0 (ef19_n10 ) fun G A0 => ?_
  have A1 := A0.iloadN (v := (0 : Int32)) (pc' := 1) d19_0 rfl rfl
  have A3 := A1.ifNo (pc' := 4) d19_1 (flt (inlt (x := (0 : Int32)) (y := (0 : Int32)) rfl rfl (by decide : ¬ ((0 : Int) < 0)))).1 rfl
  have A4 := A3.iloadN (v := (0 : Int32)) (pc' := 5) d19_4 rfl rfl
  have A5 := A4.iloadN (v := (1 : Int32)) (pc' := 6) d19_5 rfl rfl
  have A7 := A5.icmpYes (pc' := 16) d19_6 (tlt (ilt (x := (0 : Int32)) (y := (1 : Int32)) rfl rfl (by decide : (0 : Int) < 1))).1 (by decide) (by decide)
  have A8 := A7.iloadN (v := (0 : Int32)) (pc' := 17) d19_16 rfl rfl
  refine A8.retI d19_17 (by decide) (by decide) ⟨_, rfl, ⟨rfl, ?_⟩⟩
  have elit : (0 : Int32).toInt = 0 := rfl
  rfl
abbrev y19_r10 : MethodName := (⟨"jdk/internal/util/Preconditions", "checkIndex", "(IILjava/util/function/BiFunction;)I"⟩ : MethodName)
abbrev R19_r10 : Room := { frames := 0, cells := 0, slots := 0, locals := 0 }
set_option maxRecDepth 65536 in
set_option maxHeartbeats 4000000 in
theorem ef19_r10 (fm : Addr)  (mid : MethodId) : entryFrame mid #[(.int (0 : Int32)), (.int (1 : Int32)), (.ref fm)] 3 = mkF mid 0 #[.val (.int (0 : Int32)), .val (.int (1 : Int32)), .val (.ref fm)] [] := by first | (simp [entryFrame, mkF, argsToLocals, Value.category]; done) | rfl
set_option maxRecDepth 65536 in
set_option maxHeartbeats 40000000 in
theorem rm19_r10 (l : Launch) (Z : State) (a0 : Array Value) (hw : ∀ d ∈ tables_1, d.before a0 Z = true) (n0 : Nat) (ws : List Jvm.Cond) (fm : Addr)  (h0 : Heap) (hn0 : n0 ≤ h0.size)  :
    Ctr l Z n0 y19_r10 jdk_41_method_11_code 3 (some .int) ws R19_r10 #[(.int (0 : Int32)), (.int (1 : Int32)), (.ref fm)] h0 (QI fun r h => (h0 = h) ∧ (r = (0 : Int32))) := by
  refine ctr_of pn19 hn0 (ef19_r10 fm) fun G A0 => ?_
  have A1 := A0.iloadN (v := (0 : Int32)) (pc' := 1) d19_0 rfl rfl
  have A3 := A1.ifNo (pc' := 4) d19_1 (flt (inlt (x := (0 : Int32)) (y := (0 : Int32)) rfl rfl (by decide : ¬ ((0 : Int) < 0)))).1 rfl
  have A4 := A3.iloadN (v := (0 : Int32)) (pc' := 5) d19_4 rfl rfl
  have A5 := A4.iloadN (v := (1 : Int32)) (pc' := 6) d19_5 rfl rfl
  have A7 := A5.icmpYes (pc' := 16) d19_6 (tlt (ilt (x := (0 : Int32)) (y := (1 : Int32)) rfl rfl (by decide : (0 : Int) < 1))).1 (by decide) (by decide)
  have A8 := A7.iloadN (v := (0 : Int32)) (pc' := 17) d19_16 rfl rfl
  refine A8.retI d19_17 (by decide) (by decide) ⟨_, rfl, ⟨rfl, ?_⟩⟩
  have elit : (0 : Int32).toInt = 0 := rfl
  rfl
theorem pn18 : plainFor (⟨"java/lang/String", "checkIndex", "(II)V"⟩ : MethodName) = true := by first | exact plainFor_of_name (by first | (simp [plainName, overriddenIn]; done) | decide +kernel) | exact Jvm.Free.JP.mathPlain rfl (by decide +kernel) | decide +kernel
theorem d18_0 : decode jdk_42_method_155_code 0 = .ok (.iload_n 0, 1) := by decide +kernel
theorem d18_1 : decode jdk_42_method_155_code 1 = .ok (.iload_n 1, 1) := by decide +kernel
theorem d18_2 : decode jdk_42_method_155_code 2 = .ok (.getstatic 1053, 3) := by decide +kernel
theorem d18_5 : decode jdk_42_method_155_code 5 = .ok (.invokestatic 1059, 3) := by decide +kernel
theorem d18_8 : decode jdk_42_method_155_code 8 = .ok (.pop, 1) := by decide +kernel
theorem d18_9 : decode jdk_42_method_155_code 9 = .ok (.return_, 1) := by decide +kernel
abbrev y18_1_0 : MethodName := (⟨"java/lang/String", "checkIndex", "(II)V"⟩ : MethodName)
abbrev R18_1_0 : Room := { frames := 1, cells := 0, slots := 0, locals := 14 }
set_option maxRecDepth 65536 in
set_option maxHeartbeats 4000000 in
theorem ef18_1_0   (mid : MethodId) : entryFrame mid #[(.int (0 : Int32)), (.int (1 : Int32))] 2 = mkF mid 0 #[.val (.int (0 : Int32)), .val (.int (1 : Int32))] [] := by first | (simp [entryFrame, mkF, argsToLocals, Value.category]; done) | rfl
set_option maxRecDepth 65536 in
set_option maxHeartbeats 40000000 in
theorem rm18_1_0 (l : Launch) (Z : State) (a0 : Array Value) (hw : ∀ d ∈ tables_1, d.before a0 Z = true) (n0 : Nat) (ws : List Jvm.Cond)  (fm : Value) (h0 : Heap) (hn0 : n0 ≤ h0.size) (e0 : Old Z n0 h0) (e1 : Sta Z Z.heap "jdk/internal/util/Preconditions" "SIOOBE_FORMATTER" "Ljava/util/function/BiFunction;" fm) (e2 : fm.isRef = true) :
    Ctr l Z n0 y18_1_0 jdk_42_method_155_code 2 (none) ws R18_1_0 #[(.int (0 : Int32)), (.int (1 : Int32))] h0 (QV fun h => (h0 = h) ∧ (True)) := by
  refine ctr_of pn18 hn0 (ef18_1_0 ) fun G A0 => ?_
  have A1 := A0.iloadN (v := (0 : Int32)) (pc' := 1) d18_0 rfl rfl
  have A2 := A1.iloadN (v := (1 : Int32)) (pc' := 2) d18_1 rfl rfl
  rcases ref_cases e2 with rfl | ⟨q, rfl⟩
  · have f4 := e1.ext e0.2
    have A3 := A2.getS (pc' := 5) (host := "") d18_2 (Or.inl (hw _ (List.mem_of_getElem? (i := 92) rfl))) Via.refl f4 rfl
    obtain ⟨r6, _, ⟨rfl, q7⟩, A5⟩ := W.kI (A3.callS (argsL := [(.int (0 : Int32)), (.int (1 : Int32)), .null]) (rest := []) (C' := 0) (S' := 0) (pc' := 8) d18_5 (hw _ (List.mem_of_getElem? (i := 94) rfl)) (hw _ (List.mem_of_getElem? (i := 95) rfl)) (hw _ (List.mem_of_getElem? (i := 93) rfl)) (hw _ (List.mem_of_getElem? (i := 96) rfl)) (rm19_n10 l Z a0 hw n0 []   h0 A3.size ) rfl rfl pd_7 rfl rfl (by decide) (by decide) (Nat.le_of_ble_eq_true rfl) (by decide) (by decide) rfl rfl rfl)
    subst q7
    have A9 := A5.pop (pc' := 9) d18_8 rfl rfl
    refine A9.retV d18_9 (by decide) (by decide) ⟨rfl, ⟨rfl, ?_⟩⟩
    trivial
  · have f11 := e1.ext e0.2
    have A10 := A2.getS (pc' := 5) (host := "") d18_2 (Or.inl (hw _ (List.mem_of_getElem? (i := 92) rfl))) Via.refl f11 rfl
    obtain ⟨r13, _, ⟨rfl, q14⟩, A12⟩ := W.kI (A10.callS (argsL := [(.int (0 : Int32)), (.int (1 : Int32)), (.ref q)]) (rest := []) (C' := 0) (S' := 0) (pc' := 8) d18_5 (hw _ (List.mem_of_getElem? (i := 94) rfl)) (hw _ (List.mem_of_getElem? (i := 95) rfl)) (hw _ (List.mem_of_getElem? (i := 93) rfl)) (hw _ (List.mem_of_getElem? (i := 96) rfl)) (rm19_r10 l Z a0 hw n0 [] (q)  h0 A10.size ) rfl rfl pd_7 rfl rfl (by decide) (by decide) (Nat.le_of_ble_eq_true rfl) (by decide) (by decide) rfl rfl rfl)
    subst q14
    have A16 := A12.pop (pc' := 9) d18_8 rfl rfl
    refine A16.retV d18_9 (by decide) (by decide) ⟨rfl, ⟨rfl, ?_⟩⟩
    trivial
theorem pn17 : plainFor (⟨"java/lang/StringLatin1", "charAt", "([BI)C"⟩ : MethodName) = true := by first | exact plainFor_of_name (by first | (simp [plainName, overriddenIn]; done) | decide +kernel) | exact Jvm.Free.JP.mathPlain rfl (by decide +kernel) | decide +kernel
theorem d17_0 : decode jdk_43_method_2_code 0 = .ok (.iload_n 1, 1) := by decide +kernel
theorem d17_1 : decode jdk_43_method_2_code 1 = .ok (.aload_n 0, 1) := by decide +kernel
theorem d17_2 : decode jdk_43_method_2_code 2 = .ok (.arraylength, 1) := by decide +kernel
theorem d17_3 : decode jdk_43_method_2_code 3 = .ok (.invokestatic 9, 3) := by decide +kernel
theorem d17_6 : decode jdk_43_method_2_code 6 = .ok (.aload_n 0, 1) := by decide +kernel
theorem d17_7 : decode jdk_43_method_2_code 7 = .ok (.iload_n 1, 1) := by decide +kernel
theorem d17_8 : decode jdk_43_method_2_code 8 = .ok (.baload, 1) := by decide +kernel
theorem d17_9 : decode jdk_43_method_2_code 9 = .ok (.sipush 255, 3) := by decide +kernel
theorem d17_12 : decode jdk_43_method_2_code 12 = .ok (.iand, 1) := by decide +kernel
theorem d17_13 : decode jdk_43_method_2_code 13 = .ok (.i2c, 1) := by decide +kernel
theorem d17_14 : decode jdk_43_method_2_code 14 = .ok (.ireturn, 1) := by decide +kernel
abbrev y17_1_0 : MethodName := (⟨"java/lang/StringLatin1", "charAt", "([BI)C"⟩ : MethodName)
abbrev R17_1_0 : Room := { frames := 2, cells := 0, slots := 0, locals := 27 }
set_option maxRecDepth 65536 in
set_option maxHeartbeats 4000000 in
theorem ef17_1_0 (b : Addr)  (mid : MethodId) : entryFrame mid #[(.ref b), (.int (0 : Int32))] 2 = mkF mid 0 #[.val (.ref b), .val (.int (0 : Int32))] [] := by first | (simp [entryFrame, mkF, argsToLocals, Value.category]; done) | rfl
set_option maxRecDepth 65536 in
set_option maxHeartbeats 40000000 in
theorem rm17_1_0 (l : Launch) (Z : State) (a0 : Array Value) (hw : ∀ d ∈ tables_1, d.before a0 Z = true) (n0 : Nat) (ws : List Jvm.Cond) (b : Addr) (f : Nat → Value) (ch : Int32) (fm : Value) (h0 : Heap) (hn0 : n0 ≤ h0.size) (e0 : Ars Z h0 b .byte 1 f) (e1 : f 0 = .int ch.toInt8.toInt32) (e2 : 0 ≤ ch.toInt ∧ ch.toInt ≤ 255) (e3 : Old Z n0 h0) (e4 : Sta Z Z.heap "jdk/internal/util/Preconditions" "SIOOBE_FORMATTER" "Ljava/util/function/BiFunction;" fm) (e5 : fm.isRef = true) :
    Ctr l Z n0 y17_1_0 jdk_43_method_2_code 2 (some .char) ws R17_1_0 #[(.ref b), (.int (0 : Int32))] h0 (QI fun r h => (h0 = h) ∧ (r.toInt = ch.toInt)) := by
  refine ctr_of pn17 hn0 (ef17_1_0 b) fun G A0 => ?_
  have A1 := A0.iloadN (v := (0 : Int32)) (pc' := 1) d17_0 rfl rfl
  have A2 := A1.aloadN (v := (.ref b)) (pc' := 2) d17_1 rfl rfl rfl
  have A3 := A2.alen (z := (1 : Int32)) (pc' := 3) d17_2 e0 rfl rfl
  obtain ⟨_, ⟨rfl, q6⟩, A4⟩ := W.kV (A3.callS (argsL := [(.int (0 : Int32)), (.int (1 : Int32))]) (rest := []) (C' := 0) (S' := 0) (pc' := 6) d17_3 (hw _ (List.mem_of_getElem? (i := 89) rfl)) (hw _ (List.mem_of_getElem? (i := 90) rfl)) (hw _ (List.mem_of_getElem? (i := 9) rfl)) (hw _ (List.mem_of_getElem? (i := 91) rfl)) (rm18_1_0 l Z a0 hw n0 []  (_) h0 A3.size e3 e4 (by assumption)) rfl rfl pd_8 rfl rfl (by decide) (by decide) (Nat.le_of_ble_eq_true rfl) (by decide) (by decide) rfl rfl rfl)
  have A8 := A4.aloadN (v := (.ref b)) (pc' := 7) d17_6 rfl rfl rfl
  have A9 := A8.iloadN (v := (0 : Int32)) (pc' := 8) d17_7 rfl rfl
  have A10 := A9.baload (i := 0) (v := (.int ch.toInt8.toInt32)) (pc' := 9) d17_8 e0 rfl (by decide) e1 rfl
  have A11 := A10.sipush (z := (255 : Int32)) (pc' := 12) d17_9 rfl rfl
  have A12 := A11.iand (pc' := 13) d17_12 rfl
  have A13 := A12.i2c (pc' := 14) d17_13 rfl
  refine A13.retN (t := .char) (z' := (ch.toInt8.toInt32 &&& (255 : Int32)).toUInt32.toUInt16.toUInt32.toInt32) d17_14 (by decide) (by decide) (by simp) (by exact own_nc _) ⟨_, rfl, ⟨rfl, ?_⟩⟩
  exact own_lc ch e2.1 e2.2
theorem pn15 : plainFor (⟨"java/lang/String", "charAt", "(I)C"⟩ : MethodName) = true := by first | exact plainFor_of_name (by first | (simp [plainName, overriddenIn]; done) | decide +kernel) | exact Jvm.Free.JP.mathPlain rfl (by decide +kernel) | decide +kernel
theorem d15_0 : decode jdk_42_method_56_code 0 = .ok (.aload_n 0, 1) := by decide +kernel
theorem d15_1 : decode jdk_42_method_56_code 1 = .ok (.invokevirtual 492, 3) := by decide +kernel
theorem d15_4 : decode jdk_42_method_56_code 4 = .ok (.ifCond .eq 12, 3) := by decide +kernel
theorem d15_7 : decode jdk_42_method_56_code 7 = .ok (.aload_n 0, 1) := by decide +kernel
theorem d15_8 : decode jdk_42_method_56_code 8 = .ok (.getfield 9, 3) := by decide +kernel
theorem d15_11 : decode jdk_42_method_56_code 11 = .ok (.iload_n 1, 1) := by decide +kernel
theorem d15_12 : decode jdk_42_method_56_code 12 = .ok (.invokestatic 495, 3) := by decide +kernel
theorem d15_15 : decode jdk_42_method_56_code 15 = .ok (.ireturn, 1) := by decide +kernel
abbrev y15_1_0 : MethodName := (⟨"java/lang/String", "charAt", "(I)C"⟩ : MethodName)
abbrev R15_1_0 : Room := { frames := 3, cells := 0, slots := 0, locals := 40 }
set_option maxRecDepth 65536 in
set_option maxHeartbeats 4000000 in
theorem ef15_1_0 (s : Addr)  (mid : MethodId) : entryFrame mid #[(.ref s), (.int (0 : Int32))] 2 = mkF mid 0 #[.val (.ref s), .val (.int (0 : Int32))] [] := by first | (simp [entryFrame, mkF, argsToLocals, Value.category]; done) | rfl
set_option maxRecDepth 65536 in
set_option maxHeartbeats 40000000 in
theorem rm15_1_0 (l : Launch) (Z : State) (a0 : Array Value) (hw : ∀ d ∈ tables_1, d.before a0 Z = true) (n0 : Nat) (ws : List Jvm.Cond) (s : Addr) (b : Addr) (f : Nat → Value) (ch : Int32) (cs : Int32) (fm : Value) (h0 : Heap) (hn0 : n0 ≤ h0.size) (e0 : Exa Z h0 s "java/lang/String") (e1 : Fld Z h0 s "java/lang/String" "value" "[B" (.ref b)) (e2 : Fld Z h0 s "java/lang/String" "coder" "B" (.int (0 : Int32))) (e3 : Ars Z h0 b .byte 1 f) (e4 : f 0 = .int ch.toInt8.toInt32) (e5 : 0 ≤ ch.toInt ∧ ch.toInt ≤ 255) (e6 : Old Z n0 h0) (e7 : Sta Z Z.heap "java/lang/String" "COMPACT_STRINGS" "Z" (.int cs)) (e8 : cs.toInt ≠ 0) (e9 : Sta Z Z.heap "jdk/internal/util/Preconditions" "SIOOBE_FORMATTER" "Ljava/util/function/BiFunction;" fm) (e10 : fm.isRef = true) :
    Ctr l Z n0 y15_1_0 jdk_42_method_56_code 2 (some .char) ws R15_1_0 #[(.ref s), (.int (0 : Int32))] h0 (QI fun r h => (h0 = h) ∧ (r.toInt = ch.toInt)) := by
  refine ctr_of pn15 hn0 (ef15_1_0 s) fun G A0 => ?_
  have A1 := A0.aloadN (v := (.ref s)) (pc' := 1) d15_0 rfl rfl rfl
  obtain ⟨r3, _, ⟨rfl, q4⟩, A2⟩ := W.kI (A1.callV (a := s) (argsL := []) (rest := []) (C' := 0) (S' := 0) (pc' := 4) d15_1 e0 (hw _ (List.mem_of_getElem? (i := 81) rfl)) (hw _ (List.mem_of_getElem? (i := 82) rfl)) (fun hZ => notFace_of_selects (args := #[]) (mvT hZ (hw _ (List.mem_of_getElem? (i := 84) rfl)))) (hw _ (List.mem_of_getElem? (i := 84) rfl)) (hw _ (List.mem_of_getElem? (i := 83) rfl)) (hw _ (List.mem_of_getElem? (i := 9) rfl)) (hw _ (List.mem_of_getElem? (i := 85) rfl)) (rm16 l Z a0 hw n0 [] (s) (_) h0 A1.size e2 e6 e7 (by assumption)) rfl rfl pd_9 rfl rfl (by decide) (by decide) (Nat.le_of_ble_eq_true rfl) (by decide) (by decide) rfl rfl rfl)
  subst q4
  have A7 := A2.ifNo (pc' := 7) d15_4 (feq (ine (x := (1 : Int32)) (y := (0 : Int32)) rfl rfl (by decide : ¬ ((1 : Int) = 0)))).1 rfl
  have A8 := A7.aloadN (v := (.ref s)) (pc' := 8) d15_7 rfl rfl rfl
  have A9 := A8.getF (pc' := 11) (host := "") d15_8 (Or.inl (hw _ (List.mem_of_getElem? (i := 34) rfl))) Via.refl e1 rfl
  have A10 := A9.iloadN (v := (0 : Int32)) (pc' := 12) d15_11 rfl rfl
  obtain ⟨r12, _, ⟨rfl, q13⟩, A11⟩ := W.kI (A10.callS (argsL := [(.ref b), (.int (0 : Int32))]) (rest := []) (C' := 0) (S' := 0) (pc' := 15) d15_12 (hw _ (List.mem_of_getElem? (i := 86) rfl)) (hw _ (List.mem_of_getElem? (i := 87) rfl)) (hw _ (List.mem_of_getElem? (i := 41) rfl)) (hw _ (List.mem_of_getElem? (i := 88) rfl)) (rm17_1_0 l Z a0 hw n0 [] (b) (f) (_) (_) h0 A10.size e3 (by assumption) (by assumption) e6 e9 (by assumption)) rfl rfl pd_10 rfl rfl (by decide) (by decide) (Nat.le_of_ble_eq_true rfl) (by decide) (by decide) rfl rfl rfl)
  refine A11.retN (t := .char) (z' := r12) d15_15 (by decide) (by decide) (by simp) (by exact own_nch _ (by omega) (by omega)) ⟨_, rfl, ⟨rfl, ?_⟩⟩
  first | assumption | omega
theorem pn13 : plainFor (⟨"java/lang/String", "length", "()I"⟩ : MethodName) = true := by first | exact plainFor_of_name (by first | (simp [plainName, overriddenIn]; done) | decide +kernel) | exact Jvm.Free.JP.mathPlain rfl (by decide +kernel) | decide +kernel
theorem d13_0 : decode jdk_42_method_54_code 0 = .ok (.aload_n 0, 1) := by decide +kernel
theorem d13_1 : decode jdk_42_method_54_code 1 = .ok (.getfield 9, 3) := by decide +kernel
theorem d13_4 : decode jdk_42_method_54_code 4 = .ok (.arraylength, 1) := by decide +kernel
theorem d13_5 : decode jdk_42_method_54_code 5 = .ok (.aload_n 0, 1) := by decide +kernel
theorem d13_6 : decode jdk_42_method_54_code 6 = .ok (.invokevirtual 335, 3) := by decide +kernel
theorem d13_9 : decode jdk_42_method_54_code 9 = .ok (.ishr, 1) := by decide +kernel
theorem d13_10 : decode jdk_42_method_54_code 10 = .ok (.ireturn, 1) := by decide +kernel
abbrev y13_1 : MethodName := (⟨"java/lang/String", "length", "()I"⟩ : MethodName)
abbrev R13_1 : Room := { frames := 1, cells := 0, slots := 0, locals := 13 }
set_option maxRecDepth 65536 in
set_option maxHeartbeats 4000000 in
theorem ef13_1 (s : Addr)  (mid : MethodId) : entryFrame mid #[(.ref s)] 1 = mkF mid 0 #[.val (.ref s)] [] := by first | (simp [entryFrame, mkF, argsToLocals, Value.category]; done) | rfl
set_option maxRecDepth 65536 in
set_option maxHeartbeats 40000000 in
theorem rm13_1 (l : Launch) (Z : State) (a0 : Array Value) (hw : ∀ d ∈ tables_1, d.before a0 Z = true) (n0 : Nat) (ws : List Jvm.Cond) (s : Addr) (b : Addr) (f : Nat → Value) (cs : Int32) (h0 : Heap) (hn0 : n0 ≤ h0.size) (e0 : Exa Z h0 s "java/lang/String") (e1 : Fld Z h0 s "java/lang/String" "value" "[B" (.ref b)) (e2 : Fld Z h0 s "java/lang/String" "coder" "B" (.int (0 : Int32))) (e3 : Ars Z h0 b .byte 1 f) (e4 : Old Z n0 h0) (e5 : Sta Z Z.heap "java/lang/String" "COMPACT_STRINGS" "Z" (.int cs)) (e6 : cs.toInt ≠ 0) :
    Ctr l Z n0 y13_1 jdk_42_method_54_code 1 (some .int) ws R13_1 #[(.ref s)] h0 (QI fun r h => (h0 = h) ∧ (r = (1 : Int32))) := by
  refine ctr_of pn13 hn0 (ef13_1 s) fun G A0 => ?_
  have A1 := A0.aloadN (v := (.ref s)) (pc' := 1) d13_0 rfl rfl rfl
  have A2 := A1.getF (pc' := 4) (host := "") d13_1 (Or.inl (hw _ (List.mem_of_getElem? (i := 34) rfl))) Via.refl e1 rfl
  have A3 := A2.alen (z := (1 : Int32)) (pc' := 5) d13_4 e3 rfl rfl
  have A4 := A3.aloadN (v := (.ref s)) (pc' := 6) d13_5 rfl rfl rfl
  obtain ⟨r6, _, ⟨rfl, q7⟩, A5⟩ := W.kI (A4.callV (a := s) (argsL := []) (rest := [(.int (1 : Int32))]) (C' := 0) (S' := 0) (pc' := 9) d13_6 e0 (hw _ (List.mem_of_getElem? (i := 71) rfl)) (hw _ (List.mem_of_getElem? (i := 72) rfl)) (fun hZ => notFace_of_selects (args := #[]) (mvT hZ (hw _ (List.mem_of_getElem? (i := 74) rfl)))) (hw _ (List.mem_of_getElem? (i := 74) rfl)) (hw _ (List.mem_of_getElem? (i := 73) rfl)) (hw _ (List.mem_of_getElem? (i := 9) rfl)) (hw _ (List.mem_of_getElem? (i := 75) rfl)) (rm14 l Z a0 hw n0 [] (s) (_) h0 A4.size e2 e4 e5 (by assumption)) rfl rfl pd_11 rfl rfl (by decide) (by decide) (Nat.le_of_ble_eq_true rfl) (by decide) (by decide) rfl rfl rfl)
  subst q7
  have A9 := A5.ishr (pc' := 10) d13_9 rfl
  have A10 := A9.topI (z := (1 : Int32)) (by decide)
  refine A10.retI d13_10 (by decide) (by decide) ⟨_, rfl, ⟨rfl, ?_⟩⟩
  have elit : (1 : Int32).toInt = 1 := rfl
  rfl
theorem pn25 : plainFor (⟨"java/lang/String", "encode8859_1", "(B[BZ)[B"⟩ : MethodName) = true := by first | exact plainFor_of_name (by first | (simp [plainName, overriddenIn]; done) | decide +kernel) | exact Jvm.Free.JP.mathPlain rfl (by decide +kernel) | decide +kernel
theorem d25_0 : decode jdk_42_method_27_code 0 = .ok (.iload_n 0, 1) := by decide +kernel
theorem d25_1 : decode jdk_42_method_27_code 1 = .ok (.ifCond .ne 11, 3) := by decide +kernel
theorem d25_4 : decode jdk_42_method_27_code 4 = .ok (.aload_n 1, 1) := by decide +kernel
theorem d25_5 : decode jdk_42_method_27_code 5 = .ok (.invokevirtual 279, 3) := by decide +kernel
theorem d25_8 : decode jdk_42_method_27_code 8 = .ok (.checkcast 280, 3) := by decide +kernel
theorem d25_11 : decode jdk_42_method_27_code 11 = .ok (.areturn, 1) := by decide +kernel
abbrev y25_1 : MethodName := (⟨"java/lang/String", "encode8859_1", "(B[BZ)[B"⟩ : MethodName)
abbrev R25_1 : Room := { frames := 1, cells := 1, slots := 1, locals := 14 }
set_option maxRecDepth 65536 in
set_option maxHeartbeats 4000000 in
theorem ef25_1 (b : Addr)  (mid : MethodId) : entryFrame mid #[(.int (0 : Int32)), (.ref b), (.int (1 : Int32))] 10 = mkF mid 0 #[.val (.int (0 : Int32)), .val (.ref b), .val (.int (1 : Int32)), .unset, .unset, .unset, .unset, .unset, .unset, .unset] [] := by first | (simp [entryFrame, mkF, argsToLocals, Value.category]; done) | rfl
set_option maxRecDepth 65536 in
set_option maxHeartbeats 40000000 in
theorem rm25_1 (l : Launch) (Z : State) (a0 : Array Value) (hw : ∀ d ∈ tables_1, d.before a0 Z = true) (n0 : Nat) (ws : List Jvm.Cond) (b : Addr) (f : Nat → Value) (h0 : Heap) (hn0 : n0 ≤ h0.size) (e0 : Ars Z h0 b .byte 1 f) (e1 : Exa Z h0 b "[B") :
    Ctr l Z n0 y25_1 jdk_42_method_27_code 10 (some (.array .byte)) ws R25_1 #[(.int (0 : Int32)), (.ref b), (.int (1 : Int32))] h0 (QA fun r h => (Keep h0 h []) ∧ (n0 ≤ r) ∧ (h0.size ≤ r) ∧ (Ars Z h r .byte 1 f) ∧ (Exa Z h r "[B") ∧ (True)) := by
  refine ctr_of pn25 hn0 (ef25_1 b) fun G A0 => ?_
  have A1 := A0.iloadN (v := (0 : Int32)) (pc' := 1) d25_0 rfl rfl
  have A3 := A1.ifNo (pc' := 4) d25_1 (teq (ieq (x := (0 : Int32)) (y := (0 : Int32)) rfl rfl (by decide : (0 : Int) = 0))).2 rfl
  have A4 := A3.aloadN (v := (.ref b)) (pc' := 5) d25_4 rfl rfl rfl
  obtain ⟨h5, b6, eb7, g8, E9, X10, XE11, A12⟩ := A4.clone (cap := 1) (C' := 1) (S' := 1) (pc' := 8) d25_5 (hw _ (List.mem_of_getElem? (i := 129) rfl)) (hw _ (List.mem_of_getElem? (i := 130) rfl)) (hw _ (List.mem_of_getElem? (i := 134) rfl)) (hw _ (List.mem_of_getElem? (i := 132) rfl)) (hw _ (List.mem_of_getElem? (i := 133) rfl)) (hw _ (List.mem_of_getElem? (i := 135) rfl)) e0 e1 (by decide) rfl (by decide) (Nat.le_of_ble_eq_true rfl) (by decide) (by decide) rfl rfl rfl
  have ne13 : b ≠ b6 := Nat.ne_of_lt (Nat.lt_of_lt_of_le e0.lt (Nat.le_of_eq eb7.symm))
  have A14 := A12.cast0 (pc' := 11) d25_8 (hw _ (List.mem_of_getElem? (i := 136) rfl)) (Ins.self XE11) rfl
  have K15 : Keep h0 h5 [] := ((Keep.refl h0 []).ext E9)
  have z16 : h0.size ≤ b6 := Nat.le_trans (Nat.le_refl _) (Nat.le_of_eq eb7.symm)
  refine A14.retA d25_11 (by decide) (by decide) rfl rfl rfl ⟨_, rfl, ⟨K15, g8, z16, X10, XE11, ?_⟩⟩
  trivial
theorem pn24 : plainFor (⟨"java/lang/String", "encode8859_1", "(B[B)[B"⟩ : MethodName) = true := by first | exact plainFor_of_name (by first | (simp [plainName, overriddenIn]; done) | decide +kernel) | exact Jvm.Free.JP.mathPlain rfl (by decide +kernel) | decide +kernel
theorem d24_0 : decode jdk_42_method_26_code 0 = .ok (.iload_n 0, 1) := by decide +kernel
theorem d24_1 : decode jdk_42_method_26_code 1 = .ok (.aload_n 1, 1) := by decide +kernel
theorem d24_2 : decode jdk_42_method_26_code 2 = .ok (.iconst 1, 1) := by decide +kernel
theorem d24_3 : decode jdk_42_method_26_code 3 = .ok (.invokestatic 351, 3) := by decide +kernel
theorem d24_6 : decode jdk_42_method_26_code 6 = .ok (.areturn, 1) := by decide +kernel
abbrev y24_1 : MethodName := (⟨"java/lang/String", "encode8859_1", "(B[B)[B"⟩ : MethodName)
abbrev R24_1 : Room := { frames := 2, cells := 1, slots := 1, locals := 35 }
set_option maxRecDepth 65536 in
set_option maxHeartbeats 4000000 in
theorem ef24_1 (b : Addr)  (mid : MethodId) : entryFrame mid #[(.int (0 : Int32)), (.ref b)] 2 = mkF mid 0 #[.val (.int (0 : Int32)), .val (.ref b)] [] := by first | (simp [entryFrame, mkF, argsToLocals, Value.category]; done) | rfl
set_option maxRecDepth 65536 in
set_option maxHeartbeats 40000000 in
theorem rm24_1 (l : Launch) (Z : State) (a0 : Array Value) (hw : ∀ d ∈ tables_1, d.before a0 Z = true) (n0 : Nat) (ws : List Jvm.Cond) (b : Addr) (f : Nat → Value) (h0 : Heap) (hn0 : n0 ≤ h0.size) (e0 : Ars Z h0 b .byte 1 f) (e1 : Exa Z h0 b "[B") :
    Ctr l Z n0 y24_1 jdk_42_method_26_code 2 (some (.array .byte)) ws R24_1 #[(.int (0 : Int32)), (.ref b)] h0 (QA fun r h => (Keep h0 h []) ∧ (n0 ≤ r) ∧ (h0.size ≤ r) ∧ (Ars Z h r .byte 1 f) ∧ (Exa Z h r "[B") ∧ (True)) := by
  refine ctr_of pn24 hn0 (ef24_1 b) fun G A0 => ?_
  have A1 := A0.iloadN (v := (0 : Int32)) (pc' := 1) d24_0 rfl rfl
  have A2 := A1.aloadN (v := (.ref b)) (pc' := 2) d24_1 rfl rfl rfl
  have A3 := A2.iconst (z := (1 : Int32)) (pc' := 3) d24_2 rfl rfl
  obtain ⟨r5, h7, ⟨K8, g9, z10, f11, f12, q6⟩, A4⟩ := W.kA (A3.callS (argsL := [(.int (0 : Int32)), (.ref b), (.int (1 : Int32))]) (rest := []) (C' := 1) (S' := 1) (pc' := 6) d24_3 (hw _ (List.mem_of_getElem? (i := 126) rfl)) (hw _ (List.mem_of_getElem? (i := 127) rfl)) (hw _ (List.mem_of_getElem? (i := 9) rfl)) (hw _ (List.mem_of_getElem? (i := 128) rfl)) (rm25_1 l Z a0 hw n0 [] (b) (f) h0 A3.size e0 e1) rfl rfl pd_12 rfl rfl (by decide) (by decide) (Nat.le_of_ble_eq_true rfl) (by decide) (by decide) rfl rfl rfl)
  have ne13 : b ≠ r5 := Nat.ne_of_lt (Nat.lt_of_lt_of_le e0.lt z10)
  have K14 : Keep h0 h7 [] := ((Keep.refl h0 []).trans K8 all0)
  have z15 : h0.size ≤ r5 := Nat.le_trans (Nat.le_refl _) z10
  refine A4.retA d24_6 (by decide) (by decide) rfl rfl rfl ⟨_, rfl, ⟨K14, g9, z15, f11, f12, ?_⟩⟩
  trivial
theorem pn23 : plainFor (⟨"java/lang/String", "encode", "(Ljava/nio/charset/Charset;B[B)[B"⟩ : MethodName) = true := by first | exact plainFor_of_name (by first | (simp [plainName, overriddenIn]; done) | decide +kernel) | exact Jvm.Free.JP.mathPlain rfl (by decide +kernel) | decide +kernel
theorem d23_0 : decode jdk_42_method_18_code 0 = .ok (.aload_n 0, 1) := by decide +kernel
theorem d23_1 : decode jdk_42_method_18_code 1 = .ok (.getstatic 86, 3) := by decide +kernel
theorem d23_4 : decode jdk_42_method_18_code 4 = .ok (.if_acmp .ne 10, 3) := by decide +kernel
theorem d23_14 : decode jdk_42_method_18_code 14 = .ok (.aload_n 0, 1) := by decide +kernel
theorem d23_15 : decode jdk_42_method_18_code 15 = .ok (.getstatic 116, 3) := by decide +kernel
theorem d23_18 : decode jdk_42_method_18_code 18 = .ok (.if_acmp .ne 9, 3) := by decide +kernel
theorem d23_21 : decode jdk_42_method_18_code 21 = .ok (.iload_n 1, 1) := by decide +kernel
theorem d23_22 : decode jdk_42_method_18_code 22 = .ok (.aload_n 2, 1) := by decide +kernel
theorem d23_23 : decode jdk_42_method_18_code 23 = .ok (.invokestatic 256, 3) := by decide +kernel
theorem d23_26 : decode jdk_42_method_18_code 26 = .ok (.areturn, 1) := by decide +kernel
abbrev y23_1 : MethodName := (⟨"java/lang/String", "encode", "(Ljava/nio/charset/Charset;B[B)[B"⟩ : MethodName)
abbrev R23_1 : Room := { frames := 3, cells := 1, slots := 1, locals := 48 }
set_option maxRecDepth 65536 in
set_option maxHeartbeats 4000000 in
theorem ef23_1 (iso : Addr) (b : Addr)  (mid : MethodId) : entryFrame mid #[(.ref iso), (.int (0 : Int32)), (.ref b)] 3 = mkF mid 0 #[.val (.ref iso), .val (.int (0 : Int32)), .val (.ref b)] [] := by first | (simp [entryFrame, mkF, argsToLocals, Value.category]; done) | rfl
set_option maxRecDepth 65536 in
set_option maxHeartbeats 40000000 in
theorem rm23_1 (l : Launch) (Z : State) (a0 : Array Value) (hw : ∀ d ∈ tables_1, d.before a0 Z = true) (n0 : Nat) (ws : List Jvm.Cond) (iso : Addr) (b : Addr) (f : Nat → Value) (u8 : Addr) (h0 : Heap) (hn0 : n0 ≤ h0.size) (e0 : Ars Z h0 b .byte 1 f) (e1 : Exa Z h0 b "[B") (e2 : Old Z n0 h0) (e3 : Sta Z Z.heap "sun/nio/cs/UTF_8" "INSTANCE" "Lsun/nio/cs/UTF_8;" (.ref u8)) (e4 : Sta Z Z.heap "sun/nio/cs/ISO_8859_1" "INSTANCE" "Lsun/nio/cs/ISO_8859_1;" (.ref iso)) (e5 : iso ≠ u8) :
    Ctr l Z n0 y23_1 jdk_42_method_18_code 3 (some (.array .byte)) ws R23_1 #[(.ref iso), (.int (0 : Int32)), (.ref b)] h0 (QA fun r h => (Keep h0 h []) ∧ (n0 ≤ r) ∧ (h0.size ≤ r) ∧ (Ars Z h r .byte 1 f) ∧ (Exa Z h r "[B") ∧ (True)) := by
  refine ctr_of pn23 hn0 (ef23_1 iso b) fun G A0 => ?_
  have A1 := A0.aloadN (v := (.ref iso)) (pc' := 1) d23_0 rfl rfl rfl
  have f3 := e3.ext e2.2
  have A2 := A1.getS (pc' := 4) (host := "") d23_1 (Or.inl (hw _ (List.mem_of_getElem? (i := 119) rfl))) Via.refl f3 rfl
  have A4 := A2.acmpK (same := false) (pc' := 14) d23_4 rfl rfl (decide_eq_false (fun q => e5 (Value.ref.inj q))) (by decide) (by decide)
  have A5 := A4.aloadN (v := (.ref iso)) (pc' := 15) d23_14 rfl rfl rfl
  have f7 := e4.ext e2.2
  have A6 := A5.getS (pc' := 18) (host := "") d23_15 (Or.inl (hw _ (List.mem_of_getElem? (i := 121) rfl))) Via.refl f7 rfl
  have A8 := A6.acmpK (same := true) (pc' := 21) d23_18 rfl rfl (decide_eq_true rfl) (by decide) (by decide)
  have A9 := A8.iloadN (v := (0 : Int32)) (pc' := 22) d23_21 rfl rfl
  have A10 := A9.aloadN (v := (.ref b)) (pc' := 23) d23_22 rfl rfl rfl
  obtain ⟨r12, h14, ⟨K15, g16, z17, f18, f19, q13⟩, A11⟩ := W.kA (A10.callS (argsL := [(.int (0 : Int32)), (.ref b)]) (rest := []) (C' := 1) (S' := 1) (pc' := 26) d23_23 (hw _ (List.mem_of_getElem? (i := 123) rfl)) (hw _ (List.mem_of_getElem? (i := 124) rfl)) (hw _ (List.mem_of_getElem? (i := 9) rfl)) (hw _ (List.mem_of_getElem? (i := 125) rfl)) (rm24_1 l Z a0 hw n0 [] (b) (f) h0 A10.size e0 e1) rfl rfl pd_13 rfl rfl (by decide) (by decide) (Nat.le_of_ble_eq_true rfl) (by decide) (by decide) rfl rfl rfl)
  have ne20 : b ≠ r12 := Nat.ne_of_lt (Nat.lt_of_lt_of_le e0.lt z17)
  have K21 : Keep h0 h14 [] := ((Keep.refl h0 []).trans K15 all0)
  have z22 : h0.size ≤ r12 := Nat.le_trans (Nat.le_refl _) z17
  refine A11.retA d23_26 (by decide) (by decide) rfl rfl rfl ⟨_, rfl, ⟨K21, g16, z22, f18, f19, ?_⟩⟩
  trivial
theorem pn22 : plainFor (⟨"java/lang/String", "getBytes", "(Ljava/nio/charset/Charset;)[B"⟩ : MethodName) = true := by first | exact plainFor_of_name (by first | (simp [plainName, overriddenIn]; done) | decide +kernel) | exact Jvm.Free.JP.mathPlain rfl (by decide +kernel) | decide +kernel
theorem d22_0 : decode jdk_42_method_64_code 0 = .ok (.aload_n 1, 1) := by decide +kernel
theorem d22_1 : decode jdk_42_method_64_code 1 = .ok (.ifnonnull 11, 3) := by decide +kernel
theorem d22_12 : decode jdk_42_method_64_code 12 = .ok (.aload_n 1, 1) := by decide +kernel
theorem d22_13 : decode jdk_42_method_64_code 13 = .ok (.aload_n 0, 1) := by decide +kernel
theorem d22_14 : decode jdk_42_method_64_code 14 = .ok (.invokevirtual 335, 3) := by decide +kernel
theorem d22_17 : decode jdk_42_method_64_code 17 = .ok (.aload_n 0, 1) := by decide +kernel
theorem d22_18 : decode jdk_42_method_64_code 18 = .ok (.getfield 9, 3) := by decide +kernel
theorem d22_21 : decode jdk_42_method_64_code 21 = .ok (.invokestatic 535, 3) := by decide +kernel
theorem d22_24 : decode jdk_42_method_64_code 24 = .ok (.areturn, 1) := by decide +kernel
abbrev y22_1 : MethodName := (⟨"java/lang/String", "getBytes", "(Ljava/nio/charset/Charset;)[B"⟩ : MethodName)
abbrev R22_1 : Room := { frames := 4, cells := 1, slots := 1, locals := 62 }
set_option maxRecDepth 65536 in
set_option maxHeartbeats 4000000 in
theorem ef22_1 (s : Addr) (iso : Addr)  (mid : MethodId) : entryFrame mid #[(.ref s), (.ref iso)] 2 = mkF mid 0 #[.val (.ref s), .val (.ref iso)] [] := by first | (simp [entryFrame, mkF, argsToLocals, Value.category]; done) | rfl
set_option maxRecDepth 65536 in
set_option maxHeartbeats 40000000 in
theorem rm22_1 (l : Launch) (Z : State) (a0 : Array Value) (hw : ∀ d ∈ tables_1, d.before a0 Z = true) (n0 : Nat) (ws : List Jvm.Cond) (s : Addr) (iso : Addr) (b : Addr) (f : Nat → Value) (cs : Int32) (u8 : Addr) (h0 : Heap) (hn0 : n0 ≤ h0.size) (e0 : Exa Z h0 s "java/lang/String") (e1 : Fld Z h0 s "java/lang/String" "value" "[B" (.ref b)) (e2 : Fld Z h0 s "java/lang/String" "coder" "B" (.int (0 : Int32))) (e3 : Ars Z h0 b .byte 1 f) (e4 : Exa Z h0 b "[B") (e5 : Old Z n0 h0) (e6 : Sta Z Z.heap "java/lang/String" "COMPACT_STRINGS" "Z" (.int cs)) (e7 : cs.toInt ≠ 0) (e8 : Sta Z Z.heap "sun/nio/cs/UTF_8" "INSTANCE" "Lsun/nio/cs/UTF_8;" (.ref u8)) (e9 : Sta Z Z.heap "sun/nio/cs/ISO_8859_1" "INSTANCE" "Lsun/nio/cs/ISO_8859_1;" (.ref iso)) (e10 : iso ≠ u8) :
    Ctr l Z n0 y22_1 jdk_42_method_64_code 2 (some (.array .byte)) ws R22_1 #[(.ref s), (.ref iso)] h0 (QA fun r h => (Keep h0 h []) ∧ (n0 ≤ r) ∧ (h0.size ≤ r) ∧ (Ars Z h r .byte 1 f) ∧ (Exa Z h r "[B") ∧ (True)) := by
  refine ctr_of pn22 hn0 (ef22_1 s iso) fun G A0 => ?_
  have A1 := A0.aloadN (v := (.ref iso)) (pc' := 1) d22_0 rfl rfl rfl
  have A2 := A1.ifnonnullYes (pc' := 12) d22_1 (by decide) (by decide)
  have A3 := A2.aloadN (v := (.ref iso)) (pc' := 13) d22_12 rfl rfl rfl
  have A4 := A3.aloadN (v := (.ref s)) (pc' := 14) d22_13 rfl rfl rfl
  obtain ⟨r6, _, ⟨rfl, q7⟩, A5⟩ := W.kI (A4.callV (a := s) (argsL := []) (rest := [(.ref iso)]) (C' := 0) (S' := 0) (pc' := 17) d22_14 e0 (hw _ (List.mem_of_getElem? (i := 71) rfl)) (hw _ (List.mem_of_getElem? (i := 72) rfl)) (fun hZ => notFace_of_selects (args := #[]) (mvT hZ (hw _ (List.mem_of_getElem? (i := 74) rfl)))) (hw _ (List.mem_of_getElem? (i := 74) rfl)) (hw _ (List.mem_of_getElem? (i := 73) rfl)) (hw _ (List.mem_of_getElem? (i := 9) rfl)) (hw _ (List.mem_of_getElem? (i := 75) rfl)) (rm14 l Z a0 hw n0 [] (s) (_) h0 A4.size e2 e5 e6 (by assumption)) rfl rfl pd_11 rfl rfl (by decide) (by decide) (Nat.le_of_ble_eq_true rfl) (by decide) (by decide) rfl rfl rfl)
  subst q7
  have A9 := A5.aloadN (v := (.ref s)) (pc' := 18) d22_17 rfl rfl rfl
  have A10 := A9.getF (pc' := 21) (host := "") d22_18 (Or.inl (hw _ (List.mem_of_getElem? (i := 34) rfl))) Via.refl e1 rfl
  obtain ⟨r12, h14, ⟨K15, g16, z17, f18, f19, q13⟩, A11⟩ := W.kA (A10.callS (argsL := [(.ref iso), (.int (0 : Int32)), (.ref b)]) (rest := []) (C' := 1) (S' := 1) (pc' := 24) d22_21 (hw _ (List.mem_of_getElem? (i := 116) rfl)) (hw _ (List.mem_of_getElem? (i := 117) rfl)) (hw _ (List.mem_of_getElem? (i := 9) rfl)) (hw _ (List.mem_of_getElem? (i := 118) rfl)) (rm23_1 l Z a0 hw n0 [] (iso) (b) (f) (_) h0 A10.size e3 e4 e5 e8 e9 e10) rfl rfl pd_14 rfl rfl (by decide) (by decide) (Nat.le_of_ble_eq_true rfl) (by decide) (by decide) rfl rfl rfl)
  have ne20 : s ≠ r12 := Nat.ne_of_lt (Nat.lt_of_lt_of_le e0.lt z17)
  have ne21 : b ≠ r12 := Nat.ne_of_lt (Nat.lt_of_lt_of_le e3.lt z17)
  have K22 : Keep h0 h14 [] := ((Keep.refl h0 []).trans K15 all0)
  have z23 : h0.size ≤ r12 := Nat.le_trans (Nat.le_refl _) z17
  refine A11.retA d22_24 (by decide) (by decide) rfl rfl rfl ⟨_, rfl, ⟨K22, g16, z23, f18, f19, ?_⟩⟩
  trivial
abbrev y19_n20 : MethodName := (⟨"jdk/internal/util/Preconditions", "checkIndex", "(IILjava/util/function/BiFunction;)I"⟩ : MethodName)
abbrev R19_n20 : Room := { frames := 0, cells := 0, slots := 0, locals := 0 }
set_option maxRecDepth 65536 in
set_option maxHeartbeats 4000000 in
theorem ef19_n20   (mid : MethodId) : entryFrame mid #[(.int (0 : Int32)), (.int (2 : Int32)), .null] 3 = mkF mid 0 #[.val (.int (0 : Int32)), .val (.int (2 : Int32)), .val .null] [] := by first | (simp [entryFrame, mkF, argsToLocals, Value.category]; done) | rfl
set_option maxRecDepth 65536 in
set_option maxHeartbeats 40000000 in
theorem rm19_n20 (l : Launch) (Z : State) (a0 : Array Value) (hw : ∀ d ∈ tables_1, d.before a0 Z = true) (n0 : Nat) (ws : List Jvm.Cond)   (h0 : Heap) (hn0 : n0 ≤ h0.size)  :
    Ctr l Z n0 y19_n20 jdk_41_method_11_code 3 (some .int) ws R19_n20 #[(.int (0 : Int32)), (.int (2 : Int32)), .null] h0 (QI fun r h => (h0 = h) ∧ (r = (0 : Int32))) := by
  refine ctr_of pn19 hn0 (ef19_n20 ) fun G A0 => ?_
  have A1 := A0.iloadN (v := (0 : Int32)) (pc' := 1) d19_0 rfl rfl
  have A3 := A1.ifNo (pc' := 4) d19_1 (flt (inlt (x := (0 : Int32)) (y := (0 : Int32)) rfl rfl (by decide : ¬ ((0 : Int) < 0)))).1 rfl
  have A4 := A3.iloadN (v := (0 : Int32)) (pc' := 5) d19_4 rfl rfl
  have A5 := A4.iloadN (v := (2 : Int32)) (pc' := 6) d19_5 rfl rfl
  have A7 := A5.icmpYes (pc' := 16) d19_6 (tlt (ilt (x := (0 : Int32)) (y := (2 : Int32)) rfl rfl (by decide : (0 : Int) < 2))).1 (by decide) (by decide)
  have A8 := A7.iloadN (v := (0 : Int32)) (pc' := 17) d19_16 rfl rfl
  refine A8.retI d19_17 (by decide) (by decide) ⟨_, rfl, ⟨rfl, ?_⟩⟩
  have elit : (0 : Int32).toInt = 0 := rfl
  rfl
abbrev y19_r20 : MethodName := (⟨"jdk/internal/util/Preconditions", "checkIndex", "(IILjava/util/function/BiFunction;)I"⟩ : MethodName)
abbrev R19_r20 : Room := { frames := 0, cells := 0, slots := 0, locals := 0 }
set_option maxRecDepth 65536 in
set_option maxHeartbeats 4000000 in
theorem ef19_r20 (fm : Addr)  (mid : MethodId) : entryFrame mid #[(.int (0 : Int32)), (.int (2 : Int32)), (.ref fm)] 3 = mkF mid 0 #[.val (.int (0 : Int32)), .val (.int (2 : Int32)), .val (.ref fm)] [] := by first | (simp [entryFrame, mkF, argsToLocals, Value.category]; done) | rfl
set_option maxRecDepth 65536 in
set_option maxHeartbeats 40000000 in
theorem rm19_r20 (l : Launch) (Z : State) (a0 : Array Value) (hw : ∀ d ∈ tables_1, d.before a0 Z = true) (n0 : Nat) (ws : List Jvm.Cond) (fm : Addr)  (h0 : Heap) (hn0 : n0 ≤ h0.size)  :
    Ctr l Z n0 y19_r20 jdk_41_method_11_code 3 (some .int) ws R19_r20 #[(.int (0 : Int32)), (.int (2 : Int32)), (.ref fm)] h0 (QI fun r h => (h0 = h) ∧ (r = (0 : Int32))) := by
  refine ctr_of pn19 hn0 (ef19_r20 fm) fun G A0 => ?_
  have A1 := A0.iloadN (v := (0 : Int32)) (pc' := 1) d19_0 rfl rfl
  have A3 := A1.ifNo (pc' := 4) d19_1 (flt (inlt (x := (0 : Int32)) (y := (0 : Int32)) rfl rfl (by decide : ¬ ((0 : Int) < 0)))).1 rfl
  have A4 := A3.iloadN (v := (0 : Int32)) (pc' := 5) d19_4 rfl rfl
  have A5 := A4.iloadN (v := (2 : Int32)) (pc' := 6) d19_5 rfl rfl
  have A7 := A5.icmpYes (pc' := 16) d19_6 (tlt (ilt (x := (0 : Int32)) (y := (2 : Int32)) rfl rfl (by decide : (0 : Int) < 2))).1 (by decide) (by decide)
  have A8 := A7.iloadN (v := (0 : Int32)) (pc' := 17) d19_16 rfl rfl
  refine A8.retI d19_17 (by decide) (by decide) ⟨_, rfl, ⟨rfl, ?_⟩⟩
  have elit : (0 : Int32).toInt = 0 := rfl
  rfl
abbrev y18_2_0 : MethodName := (⟨"java/lang/String", "checkIndex", "(II)V"⟩ : MethodName)
abbrev R18_2_0 : Room := { frames := 1, cells := 0, slots := 0, locals := 14 }
set_option maxRecDepth 65536 in
set_option maxHeartbeats 4000000 in
theorem ef18_2_0   (mid : MethodId) : entryFrame mid #[(.int (0 : Int32)), (.int (2 : Int32))] 2 = mkF mid 0 #[.val (.int (0 : Int32)), .val (.int (2 : Int32))] [] := by first | (simp [entryFrame, mkF, argsToLocals, Value.category]; done) | rfl
set_option maxRecDepth 65536 in
set_option maxHeartbeats 40000000 in
theorem rm18_2_0 (l : Launch) (Z : State) (a0 : Array Value) (hw : ∀ d ∈ tables_1, d.before a0 Z = true) (n0 : Nat) (ws : List Jvm.Cond)  (fm : Value) (h0 : Heap) (hn0 : n0 ≤ h0.size) (e0 : Old Z n0 h0) (e1 : Sta Z Z.heap "jdk/internal/util/Preconditions" "SIOOBE_FORMATTER" "Ljava/util/function/BiFunction;" fm) (e2 : fm.isRef = true) :
    Ctr l Z n0 y18_2_0 jdk_42_method_155_code 2 (none) ws R18_2_0 #[(.int (0 : Int32)), (.int (2 : Int32))] h0 (QV fun h => (h0 = h) ∧ (True)) := by
  refine ctr_of pn18 hn0 (ef18_2_0 ) fun G A0 => ?_
  have A1 := A0.iloadN (v := (0 : Int32)) (pc' := 1) d18_0 rfl rfl
  have A2 := A1.iloadN (v := (2 : Int32)) (pc' := 2) d18_1 rfl rfl
  rcases ref_cases e2 with rfl | ⟨q, rfl⟩
  · have f4 := e1.ext e0.2
    have A3 := A2.getS (pc' := 5) (host := "") d18_2 (Or.inl (hw _ (List.mem_of_getElem? (i := 92) rfl))) Via.refl f4 rfl
    obtain ⟨r6, _, ⟨rfl, q7⟩, A5⟩ := W.kI (A3.callS (argsL := [(.int (0 : Int32)), (.int (2 : Int32)), .null]) (rest := []) (C' := 0) (S' := 0) (pc' := 8) d18_5 (hw _ (List.mem_of_getElem? (i := 94) rfl)) (hw _ (List.mem_of_getElem? (i := 95) rfl)) (hw _ (List.mem_of_getElem? (i := 93) rfl)) (hw _ (List.mem_of_getElem? (i := 96) rfl)) (rm19_n20 l Z a0 hw n0 []   h0 A3.size ) rfl rfl pd_7 rfl rfl (by decide) (by decide) (Nat.le_of_ble_eq_true rfl) (by decide) (by decide) rfl rfl rfl)
    subst q7
    have A9 := A5.pop (pc' := 9) d18_8 rfl rfl
    refine A9.retV d18_9 (by decide) (by decide) ⟨rfl, ⟨rfl, ?_⟩⟩
    trivial
  · have f11 := e1.ext e0.2
    have A10 := A2.getS (pc' := 5) (host := "") d18_2 (Or.inl (hw _ (List.mem_of_getElem? (i := 92) rfl))) Via.refl f11 rfl
    obtain ⟨r13, _, ⟨rfl, q14⟩, A12⟩ := W.kI (A10.callS (argsL := [(.int (0 : Int32)), (.int (2 : Int32)), (.ref q)]) (rest := []) (C' := 0) (S' := 0) (pc' := 8) d18_5 (hw _ (List.mem_of_getElem? (i := 94) rfl)) (hw _ (List.mem_of_getElem? (i := 95) rfl)) (hw _ (List.mem_of_getElem? (i := 93) rfl)) (hw _ (List.mem_of_getElem? (i := 96) rfl)) (rm19_r20 l Z a0 hw n0 [] (q)  h0 A10.size ) rfl rfl pd_7 rfl rfl (by decide) (by decide) (Nat.le_of_ble_eq_true rfl) (by decide) (by decide) rfl rfl rfl)
    subst q14
    have A16 := A12.pop (pc' := 9) d18_8 rfl rfl
    refine A16.retV d18_9 (by decide) (by decide) ⟨rfl, ⟨rfl, ?_⟩⟩
    trivial
abbrev y17_2_0 : MethodName := (⟨"java/lang/StringLatin1", "charAt", "([BI)C"⟩ : MethodName)
abbrev R17_2_0 : Room := { frames := 2, cells := 0, slots := 0, locals := 27 }
set_option maxRecDepth 65536 in
set_option maxHeartbeats 4000000 in
theorem ef17_2_0 (b : Addr)  (mid : MethodId) : entryFrame mid #[(.ref b), (.int (0 : Int32))] 2 = mkF mid 0 #[.val (.ref b), .val (.int (0 : Int32))] [] := by first | (simp [entryFrame, mkF, argsToLocals, Value.category]; done) | rfl
set_option maxRecDepth 65536 in
set_option maxHeartbeats 40000000 in
theorem rm17_2_0 (l : Launch) (Z : State) (a0 : Array Value) (hw : ∀ d ∈ tables_1, d.before a0 Z = true) (n0 : Nat) (ws : List Jvm.Cond) (b : Addr) (f : Nat → Value) (ch : Int32) (fm : Value) (h0 : Heap) (hn0 : n0 ≤ h0.size) (e0 : Ars Z h0 b .byte 2 f) (e1 : f 0 = .int ch.toInt8.toInt32) (e2 : 0 ≤ ch.toInt ∧ ch.toInt ≤ 255) (e3 : Old Z n0 h0) (e4 : Sta Z Z.heap "jdk/internal/util/Preconditions" "SIOOBE_FORMATTER" "Ljava/util/function/BiFunction;" fm) (e5 : fm.isRef = true) :
    Ctr l Z n0 y17_2_0 jdk_43_method_2_code 2 (some .char) ws R17_2_0 #[(.ref b), (.int (0 : Int32))] h0 (QI fun r h => (h0 = h) ∧ (r.toInt = ch.toInt)) := by
  refine ctr_of pn17 hn0 (ef17_2_0 b) fun G A0 => ?_
  have A1 := A0.iloadN (v := (0 : Int32)) (pc' := 1) d17_0 rfl rfl
  have A2 := A1.aloadN (v := (.ref b)) (pc' := 2) d17_1 rfl rfl rfl
  have A3 := A2.alen (z := (2 : Int32)) (pc' := 3) d17_2 e0 rfl rfl
  obtain ⟨_, ⟨rfl, q6⟩, A4⟩ := W.kV (A3.callS (argsL := [(.int (0 : Int32)), (.int (2 : Int32))]) (rest := []) (C' := 0) (S' := 0) (pc' := 6) d17_3 (hw _ (List.mem_of_getElem? (i := 89) rfl)) (hw _ (List.mem_of_getElem? (i := 90) rfl)) (hw _ (List.mem_of_getElem? (i := 9) rfl)) (hw _ (List.mem_of_getElem? (i := 91) rfl)) (rm18_2_0 l Z a0 hw n0 []  (_) h0 A3.size e3 e4 (by assumption)) rfl rfl pd_8 rfl rfl (by decide) (by decide) (Nat.le_of_ble_eq_true rfl) (by decide) (by decide) rfl rfl rfl)
  have A8 := A4.aloadN (v := (.ref b)) (pc' := 7) d17_6 rfl rfl rfl
  have A9 := A8.iloadN (v := (0 : Int32)) (pc' := 8) d17_7 rfl rfl
  have A10 := A9.baload (i := 0) (v := (.int ch.toInt8.toInt32)) (pc' := 9) d17_8 e0 rfl (by decide) e1 rfl
  have A11 := A10.sipush (z := (255 : Int32)) (pc' := 12) d17_9 rfl rfl
  have A12 := A11.iand (pc' := 13) d17_12 rfl
  have A13 := A12.i2c (pc' := 14) d17_13 rfl
  refine A13.retN (t := .char) (z' := (ch.toInt8.toInt32 &&& (255 : Int32)).toUInt32.toUInt16.toUInt32.toInt32) d17_14 (by decide) (by decide) (by simp) (by exact own_nc _) ⟨_, rfl, ⟨rfl, ?_⟩⟩
  exact own_lc ch e2.1 e2.2
abbrev y15_2_0 : MethodName := (⟨"java/lang/String", "charAt", "(I)C"⟩ : MethodName)
abbrev R15_2_0 : Room := { frames := 3, cells := 0, slots := 0, locals := 40 }
set_option maxRecDepth 65536 in
set_option maxHeartbeats 4000000 in
theorem ef15_2_0 (s : Addr)  (mid : MethodId) : entryFrame mid #[(.ref s), (.int (0 : Int32))] 2 = mkF mid 0 #[.val (.ref s), .val (.int (0 : Int32))] [] := by first | (simp [entryFrame, mkF, argsToLocals, Value.category]; done) | rfl
set_option maxRecDepth 65536 in
set_option maxHeartbeats 40000000 in
theorem rm15_2_0 (l : Launch) (Z : State) (a0 : Array Value) (hw : ∀ d ∈ tables_1, d.before a0 Z = true) (n0 : Nat) (ws : List Jvm.Cond) (s : Addr) (b : Addr) (f : Nat → Value) (ch : Int32) (cs : Int32) (fm : Value) (h0 : Heap) (hn0 : n0 ≤ h0.size) (e0 : Exa Z h0 s "java/lang/String") (e1 : Fld Z h0 s "java/lang/String" "value" "[B" (.ref b)) (e2 : Fld Z h0 s "java/lang/String" "coder" "B" (.int (0 : Int32))) (e3 : Ars Z h0 b .byte 2 f) (e4 : f 0 = .int ch.toInt8.toInt32) (e5 : 0 ≤ ch.toInt ∧ ch.toInt ≤ 255) (e6 : Old Z n0 h0) (e7 : Sta Z Z.heap "java/lang/String" "COMPACT_STRINGS" "Z" (.int cs)) (e8 : cs.toInt ≠ 0) (e9 : Sta Z Z.heap "jdk/internal/util/Preconditions" "SIOOBE_FORMATTER" "Ljava/util/function/BiFunction;" fm) (e10 : fm.isRef = true) :
    Ctr l Z n0 y15_2_0 jdk_42_method_56_code 2 (some .char) ws R15_2_0 #[(.ref s), (.int (0 : Int32))] h0 (QI fun r h => (h0 = h) ∧ (r.toInt = ch.toInt)) := by
  refine ctr_of pn15 hn0 (ef15_2_0 s) fun G A0 => ?_
  have A1 := A0.aloadN (v := (.ref s)) (pc' := 1) d15_0 rfl rfl rfl
  obtain ⟨r3, _, ⟨rfl, q4⟩, A2⟩ := W.kI (A1.callV (a := s) (argsL := []) (rest := []) (C' := 0) (S' := 0) (pc' := 4) d15_1 e0 (hw _ (List.mem_of_getElem? (i := 81) rfl)) (hw _ (List.mem_of_getElem? (i := 82) rfl)) (fun hZ => notFace_of_selects (args := #[]) (mvT hZ (hw _ (List.mem_of_getElem? (i := 84) rfl)))) (hw _ (List.mem_of_getElem? (i := 84) rfl)) (hw _ (List.mem_of_getElem? (i := 83) rfl)) (hw _ (List.mem_of_getElem? (i := 9) rfl)) (hw _ (List.mem_of_getElem? (i := 85) rfl)) (rm16 l Z a0 hw n0 [] (s) (_) h0 A1.size e2 e6 e7 (by assumption)) rfl rfl pd_9 rfl rfl (by decide) (by decide) (Nat.le_of_ble_eq_true rfl) (by decide) (by decide) rfl rfl rfl)
  subst q4
  have A7 := A2.ifNo (pc' := 7) d15_4 (feq (ine (x := (1 : Int32)) (y := (0 : Int32)) rfl rfl (by decide : ¬ ((1 : Int) = 0)))).1 rfl
  have A8 := A7.aloadN (v := (.ref s)) (pc' := 8) d15_7 rfl rfl rfl
  have A9 := A8.getF (pc' := 11) (host := "") d15_8 (Or.inl (hw _ (List.mem_of_getElem? (i := 34) rfl))) Via.refl e1 rfl
  have A10 := A9.iloadN (v := (0 : Int32)) (pc' := 12) d15_11 rfl rfl
  obtain ⟨r12, _, ⟨rfl, q13⟩, A11⟩ := W.kI (A10.callS (argsL := [(.ref b), (.int (0 : Int32))]) (rest := []) (C' := 0) (S' := 0) (pc' := 15) d15_12 (hw _ (List.mem_of_getElem? (i := 86) rfl)) (hw _ (List.mem_of_getElem? (i := 87) rfl)) (hw _ (List.mem_of_getElem? (i := 41) rfl)) (hw _ (List.mem_of_getElem? (i := 88) rfl)) (rm17_2_0 l Z a0 hw n0 [] (b) (f) (_) (_) h0 A10.size e3 (by assumption) (by assumption) e6 e9 (by assumption)) rfl rfl pd_10 rfl rfl (by decide) (by decide) (Nat.le_of_ble_eq_true rfl) (by decide) (by decide) rfl rfl rfl)
  refine A11.retN (t := .char) (z' := r12) d15_15 (by decide) (by decide) (by simp) (by exact own_nch _ (by omega) (by omega)) ⟨_, rfl, ⟨rfl, ?_⟩⟩
  first | assumption | omega
abbrev y19_n21 : MethodName := (⟨"jdk/internal/util/Preconditions", "checkIndex", "(IILjava/util/function/BiFunction;)I"⟩ : MethodName)
abbrev R19_n21 : Room := { frames := 0, cells := 0, slots := 0, locals := 0 }
set_option maxRecDepth 65536 in
set_option maxHeartbeats 4000000 in
theorem ef19_n21   (mid : MethodId) : entryFrame mid #[(.int (1 : Int32)), (.int (2 : Int32)), .null] 3 = mkF mid 0 #[.val (.int (1 : Int32)), .val (.int (2 : Int32)), .val .null] [] := by first | (simp [entryFrame, mkF, argsToLocals, Value.category]; done) | rfl
set_option maxRecDepth 65536 in
set_option maxHeartbeats 40000000 in
theorem rm19_n21 (l : Launch) (Z : State) (a0 : Array Value) (hw : ∀ d ∈ tables_1, d.before a0 Z = true) (n0 : Nat) (ws : List Jvm.Cond)   (h0 : Heap) (hn0 : n0 ≤ h0.size)  :
    Ctr l Z n0 y19_n21 jdk_41_method_11_code 3 (some .int) ws R19_n21 #[(.int (1 : Int32)), (.int (2 : Int32)), .null] h0 (QI fun r h => (h0 = h) ∧ (r = (1 : Int32))) := by
  refine ctr_of pn19 hn0 (ef19_n21 ) fun G A0 => ?_
  have A1 := A0.iloadN (v := (1 : Int32)) (pc' := 1) d19_0 rfl rfl
  have A3 := A1.ifNo (pc' := 4) d19_1 (flt (inlt (x := (1 : Int32)) (y := (0 : Int32)) rfl rfl (by decide : ¬ ((1 : Int) < 0)))).1 rfl
  have A4 := A3.iloadN (v := (1 : Int32)) (pc' := 5) d19_4 rfl rfl
  have A5 := A4.iloadN (v := (2 : Int32)) (pc' := 6) d19_5 rfl rfl
  have A7 := A5.icmpYes (pc' := 16) d19_6 (tlt (ilt (x := (1 : Int32)) (y := (2 : Int32)) rfl rfl (by decide : (1 : Int) < 2))).1 (by decide) (by decide)
  have A8 := A7.iloadN (v := (1 : Int32)) (pc' := 17) d19_16 rfl rfl
  refine A8.retI d19_17 (by decide) (by decide) ⟨_, rfl, ⟨rfl, ?_⟩⟩
  have elit : (1 : Int32).toInt = 1 := rfl
  rfl
abbrev y19_r21 : MethodName := (⟨"jdk/internal/util/Preconditions", "checkIndex", "(IILjava/util/function/BiFunction;)I"⟩ : MethodName)
abbrev R19_r21 : Room := { frames := 0, cells := 0, slots := 0, locals := 0 }
set_option maxRecDepth 65536 in
set_option maxHeartbeats 4000000 in
theorem ef19_r21 (fm : Addr)  (mid : MethodId) : entryFrame mid #[(.int (1 : Int32)), (.int (2 : Int32)), (.ref fm)] 3 = mkF mid 0 #[.val (.int (1 : Int32)), .val (.int (2 : Int32)), .val (.ref fm)] [] := by first | (simp [entryFrame, mkF, argsToLocals, Value.category]; done) | rfl
set_option maxRecDepth 65536 in
set_option maxHeartbeats 40000000 in
theorem rm19_r21 (l : Launch) (Z : State) (a0 : Array Value) (hw : ∀ d ∈ tables_1, d.before a0 Z = true) (n0 : Nat) (ws : List Jvm.Cond) (fm : Addr)  (h0 : Heap) (hn0 : n0 ≤ h0.size)  :
    Ctr l Z n0 y19_r21 jdk_41_method_11_code 3 (some .int) ws R19_r21 #[(.int (1 : Int32)), (.int (2 : Int32)), (.ref fm)] h0 (QI fun r h => (h0 = h) ∧ (r = (1 : Int32))) := by
  refine ctr_of pn19 hn0 (ef19_r21 fm) fun G A0 => ?_
  have A1 := A0.iloadN (v := (1 : Int32)) (pc' := 1) d19_0 rfl rfl
  have A3 := A1.ifNo (pc' := 4) d19_1 (flt (inlt (x := (1 : Int32)) (y := (0 : Int32)) rfl rfl (by decide : ¬ ((1 : Int) < 0)))).1 rfl
  have A4 := A3.iloadN (v := (1 : Int32)) (pc' := 5) d19_4 rfl rfl
  have A5 := A4.iloadN (v := (2 : Int32)) (pc' := 6) d19_5 rfl rfl
  have A7 := A5.icmpYes (pc' := 16) d19_6 (tlt (ilt (x := (1 : Int32)) (y := (2 : Int32)) rfl rfl (by decide : (1 : Int) < 2))).1 (by decide) (by decide)
  have A8 := A7.iloadN (v := (1 : Int32)) (pc' := 17) d19_16 rfl rfl
  refine A8.retI d19_17 (by decide) (by decide) ⟨_, rfl, ⟨rfl, ?_⟩⟩
  have elit : (1 : Int32).toInt = 1 := rfl
  rfl
abbrev y18_2_1 : MethodName := (⟨"java/lang/String", "checkIndex", "(II)V"⟩ : MethodName)
abbrev R18_2_1 : Room := { frames := 1, cells := 0, slots := 0, locals := 14 }
set_option maxRecDepth 65536 in
set_option maxHeartbeats 4000000 in
theorem ef18_2_1   (mid : MethodId) : entryFrame mid #[(.int (1 : Int32)), (.int (2 : Int32))] 2 = mkF mid 0 #[.val (.int (1 : Int32)), .val (.int (2 : Int32))] [] := by first | (simp [entryFrame, mkF, argsToLocals, Value.category]; done) | rfl
set_option maxRecDepth 65536 in
set_option maxHeartbeats 40000000 in
theorem rm18_2_1 (l : Launch) (Z : State) (a0 : Array Value) (hw : ∀ d ∈ tables_1, d.before a0 Z = true) (n0 : Nat) (ws : List Jvm.Cond)  (fm : Value) (h0 : Heap) (hn0 : n0 ≤ h0.size) (e0 : Old Z n0 h0) (e1 : Sta Z Z.heap "jdk/internal/util/Preconditions" "SIOOBE_FORMATTER" "Ljava/util/function/BiFunction;" fm) (e2 : fm.isRef = true) :
    Ctr l Z n0 y18_2_1 jdk_42_method_155_code 2 (none) ws R18_2_1 #[(.int (1 : Int32)), (.int (2 : Int32))] h0 (QV fun h => (h0 = h) ∧ (True)) := by
  refine ctr_of pn18 hn0 (ef18_2_1 ) fun G A0 => ?_
  have A1 := A0.iloadN (v := (1 : Int32)) (pc' := 1) d18_0 rfl rfl
  have A2 := A1.iloadN (v := (2 : Int32)) (pc' := 2) d18_1 rfl rfl
  rcases ref_cases e2 with rfl | ⟨q, rfl⟩
  · have f4 := e1.ext e0.2
    have A3 := A2.getS (pc' := 5) (host := "") d18_2 (Or.inl (hw _ (List.mem_of_getElem? (i := 92) rfl))) Via.refl f4 rfl
    obtain ⟨r6, _, ⟨rfl, q7⟩, A5⟩ := W.kI (A3.callS (argsL := [(.int (1 : Int32)), (.int (2 : Int32)), .null]) (rest := []) (C' := 0) (S' := 0) (pc' := 8) d18_5 (hw _ (List.mem_of_getElem? (i := 94) rfl)) (hw _ (List.mem_of_getElem? (i := 95) rfl)) (hw _ (List.mem_of_getElem? (i := 93) rfl)) (hw _ (List.mem_of_getElem? (i := 96) rfl)) (rm19_n21 l Z a0 hw n0 []   h0 A3.size ) rfl rfl pd_7 rfl rfl (by decide) (by decide) (Nat.le_of_ble_eq_true rfl) (by decide) (by decide) rfl rfl rfl)
    subst q7
    have A9 := A5.pop (pc' := 9) d18_8 rfl rfl
    refine A9.retV d18_9 (by decide) (by decide) ⟨rfl, ⟨rfl, ?_⟩⟩
    trivial
  · have f11 := e1.ext e0.2
    have A10 := A2.getS (pc' := 5) (host := "") d18_2 (Or.inl (hw _ (List.mem_of_getElem? (i := 92) rfl))) Via.refl f11 rfl
    obtain ⟨r13, _, ⟨rfl, q14⟩, A12⟩ := W.kI (A10.callS (argsL := [(.int (1 : Int32)), (.int (2 : Int32)), (.ref q)]) (rest := []) (C' := 0) (S' := 0) (pc' := 8) d18_5 (hw _ (List.mem_of_getElem? (i := 94) rfl)) (hw _ (List.mem_of_getElem? (i := 95) rfl)) (hw _ (List.mem_of_getElem? (i := 93) rfl)) (hw _ (List.mem_of_getElem? (i := 96) rfl)) (rm19_r21 l Z a0 hw n0 [] (q)  h0 A10.size ) rfl rfl pd_7 rfl rfl (by decide) (by decide) (Nat.le_of_ble_eq_true rfl) (by decide) (by decide) rfl rfl rfl)
    subst q14
    have A16 := A12.pop (pc' := 9) d18_8 rfl rfl
    refine A16.retV d18_9 (by decide) (by decide) ⟨rfl, ⟨rfl, ?_⟩⟩
    trivial
abbrev y17_2_1 : MethodName := (⟨"java/lang/StringLatin1", "charAt", "([BI)C"⟩ : MethodName)
abbrev R17_2_1 : Room := { frames := 2, cells := 0, slots := 0, locals := 27 }
set_option maxRecDepth 65536 in
set_option maxHeartbeats 4000000 in
theorem ef17_2_1 (b : Addr)  (mid : MethodId) : entryFrame mid #[(.ref b), (.int (1 : Int32))] 2 = mkF mid 0 #[.val (.ref b), .val (.int (1 : Int32))] [] := by first | (simp [entryFrame, mkF, argsToLocals, Value.category]; done) | rfl
set_option maxRecDepth 65536 in
set_option maxHeartbeats 40000000 in
theorem rm17_2_1 (l : Launch) (Z : State) (a0 : Array Value) (hw : ∀ d ∈ tables_1, d.before a0 Z = true) (n0 : Nat) (ws : List Jvm.Cond) (b : Addr) (f : Nat → Value) (ch : Int32) (fm : Value) (h0 : Heap) (hn0 : n0 ≤ h0.size) (e0 : Ars Z h0 b .byte 2 f) (e1 : f 1 = .int ch.toInt8.toInt32) (e2 : 0 ≤ ch.toInt ∧ ch.toInt ≤ 255) (e3 : Old Z n0 h0) (e4 : Sta Z Z.heap "jdk/internal/util/Preconditions" "SIOOBE_FORMATTER" "Ljava/util/function/BiFunction;" fm) (e5 : fm.isRef = true) :
    Ctr l Z n0 y17_2_1 jdk_43_method_2_code 2 (some .char) ws R17_2_1 #[(.ref b), (.int (1 : Int32))] h0 (QI fun r h => (h0 = h) ∧ (r.toInt = ch.toInt)) := by
  refine ctr_of pn17 hn0 (ef17_2_1 b) fun G A0 => ?_
  have A1 := A0.iloadN (v := (1 : Int32)) (pc' := 1) d17_0 rfl rfl
  have A2 := A1.aloadN (v := (.ref b)) (pc' := 2) d17_1 rfl rfl rfl
  have A3 := A2.alen (z := (2 : Int32)) (pc' := 3) d17_2 e0 rfl rfl
  obtain ⟨_, ⟨rfl, q6⟩, A4⟩ := W.kV (A3.callS (argsL := [(.int (1 : Int32)), (.int (2 : Int32))]) (rest := []) (C' := 0) (S' := 0) (pc' := 6) d17_3 (hw _ (List.mem_of_getElem? (i := 89) rfl)) (hw _ (List.mem_of_getElem? (i := 90) rfl)) (hw _ (List.mem_of_getElem? (i := 9) rfl)) (hw _ (List.mem_of_getElem? (i := 91) rfl)) (rm18_2_1 l Z a0 hw n0 []  (_) h0 A3.size e3 e4 (by assumption)) rfl rfl pd_8 rfl rfl (by decide) (by decide) (Nat.le_of_ble_eq_true rfl) (by decide) (by decide) rfl rfl rfl)
  have A8 := A4.aloadN (v := (.ref b)) (pc' := 7) d17_6 rfl rfl rfl
  have A9 := A8.iloadN (v := (1 : Int32)) (pc' := 8) d17_7 rfl rfl
  have A10 := A9.baload (i := 1) (v := (.int ch.toInt8.toInt32)) (pc' := 9) d17_8 e0 rfl (by decide) e1 rfl
  have A11 := A10.sipush (z := (255 : Int32)) (pc' := 12) d17_9 rfl rfl
  have A12 := A11.iand (pc' := 13) d17_12 rfl
  have A13 := A12.i2c (pc' := 14) d17_13 rfl
  refine A13.retN (t := .char) (z' := (ch.toInt8.toInt32 &&& (255 : Int32)).toUInt32.toUInt16.toUInt32.toInt32) d17_14 (by decide) (by decide) (by simp) (by exact own_nc _) ⟨_, rfl, ⟨rfl, ?_⟩⟩
  exact own_lc ch e2.1 e2.2
abbrev y15_2_1 : MethodName := (⟨"java/lang/String", "charAt", "(I)C"⟩ : MethodName)
abbrev R15_2_1 : Room := { frames := 3, cells := 0, slots := 0, locals := 40 }
set_option maxRecDepth 65536 in
set_option maxHeartbeats 4000000 in
theorem ef15_2_1 (s : Addr)  (mid : MethodId) : entryFrame mid #[(.ref s), (.int (1 : Int32))] 2 = mkF mid 0 #[.val (.ref s), .val (.int (1 : Int32))] [] := by first | (simp [entryFrame, mkF, argsToLocals, Value.category]; done) | rfl
set_option maxRecDepth 65536 in
set_option maxHeartbeats 40000000 in
theorem rm15_2_1 (l : Launch) (Z : State) (a0 : Array Value) (hw : ∀ d ∈ tables_1, d.before a0 Z = true) (n0 : Nat) (ws : List Jvm.Cond) (s : Addr) (b : Addr) (f : Nat → Value) (ch : Int32) (cs : Int32) (fm : Value) (h0 : Heap) (hn0 : n0 ≤ h0.size) (e0 : Exa Z h0 s "java/lang/String") (e1 : Fld Z h0 s "java/lang/String" "value" "[B" (.ref b)) (e2 : Fld Z h0 s "java/lang/String" "coder" "B" (.int (0 : Int32))) (e3 : Ars Z h0 b .byte 2 f) (e4 : f 1 = .int ch.toInt8.toInt32) (e5 : 0 ≤ ch.toInt ∧ ch.toInt ≤ 255) (e6 : Old Z n0 h0) (e7 : Sta Z Z.heap "java/lang/String" "COMPACT_STRINGS" "Z" (.int cs)) (e8 : cs.toInt ≠ 0) (e9 : Sta Z Z.heap "jdk/internal/util/Preconditions" "SIOOBE_FORMATTER" "Ljava/util/function/BiFunction;" fm) (e10 : fm.isRef = true) :
    Ctr l Z n0 y15_2_1 jdk_42_method_56_code 2 (some .char) ws R15_2_1 #[(.ref s), (.int (1 : Int32))] h0 (QI fun r h => (h0 = h) ∧ (r.toInt = ch.toInt)) := by
  refine ctr_of pn15 hn0 (ef15_2_1 s) fun G A0 => ?_
  have A1 := A0.aloadN (v := (.ref s)) (pc' := 1) d15_0 rfl rfl rfl
  obtain ⟨r3, _, ⟨rfl, q4⟩, A2⟩ := W.kI (A1.callV (a := s) (argsL := []) (rest := []) (C' := 0) (S' := 0) (pc' := 4) d15_1 e0 (hw _ (List.mem_of_getElem? (i := 81) rfl)) (hw _ (List.mem_of_getElem? (i := 82) rfl)) (fun hZ => notFace_of_selects (args := #[]) (mvT hZ (hw _ (List.mem_of_getElem? (i := 84) rfl)))) (hw _ (List.mem_of_getElem? (i := 84) rfl)) (hw _ (List.mem_of_getElem? (i := 83) rfl)) (hw _ (List.mem_of_getElem? (i := 9) rfl)) (hw _ (List.mem_of_getElem? (i := 85) rfl)) (rm16 l Z a0 hw n0 [] (s) (_) h0 A1.size e2 e6 e7 (by assumption)) rfl rfl pd_9 rfl rfl (by decide) (by decide) (Nat.le_of_ble_eq_true rfl) (by decide) (by decide) rfl rfl rfl)
  subst q4
  have A7 := A2.ifNo (pc' := 7) d15_4 (feq (ine (x := (1 : Int32)) (y := (0 : Int32)) rfl rfl (by decide : ¬ ((1 : Int) = 0)))).1 rfl
  have A8 := A7.aloadN (v := (.ref s)) (pc' := 8) d15_7 rfl rfl rfl
  have A9 := A8.getF (pc' := 11) (host := "") d15_8 (Or.inl (hw _ (List.mem_of_getElem? (i := 34) rfl))) Via.refl e1 rfl
  have A10 := A9.iloadN (v := (1 : Int32)) (pc' := 12) d15_11 rfl rfl
  obtain ⟨r12, _, ⟨rfl, q13⟩, A11⟩ := W.kI (A10.callS (argsL := [(.ref b), (.int (1 : Int32))]) (rest := []) (C' := 0) (S' := 0) (pc' := 15) d15_12 (hw _ (List.mem_of_getElem? (i := 86) rfl)) (hw _ (List.mem_of_getElem? (i := 87) rfl)) (hw _ (List.mem_of_getElem? (i := 41) rfl)) (hw _ (List.mem_of_getElem? (i := 88) rfl)) (rm17_2_1 l Z a0 hw n0 [] (b) (f) (_) (_) h0 A10.size e3 (by assumption) (by assumption) e6 e9 (by assumption)) rfl rfl pd_10 rfl rfl (by decide) (by decide) (Nat.le_of_ble_eq_true rfl) (by decide) (by decide) rfl rfl rfl)
  refine A11.retN (t := .char) (z' := r12) d15_15 (by decide) (by decide) (by simp) (by exact own_nch _ (by omega) (by omega)) ⟨_, rfl, ⟨rfl, ?_⟩⟩
  first | assumption | omega
abbrev y13_2 : MethodName := (⟨"java/lang/String", "length", "()I"⟩ : MethodName)
abbrev R13_2 : Room := { frames := 1, cells := 0, slots := 0, locals := 13 }
set_option maxRecDepth 65536 in
set_option maxHeartbeats 4000000 in
theorem ef13_2 (s : Addr)  (mid : MethodId) : entryFrame mid #[(.ref s)] 1 = mkF mid 0 #[.val (.ref s)] [] := by first | (simp [entryFrame, mkF, argsToLocals, Value.category]; done) | rfl
set_option maxRecDepth 65536 in
set_option maxHeartbeats 40000000 in
theorem rm13_2 (l : Launch) (Z : State) (a0 : Array Value) (hw : ∀ d ∈ tables_1, d.before a0 Z = true) (n0 : Nat) (ws : List Jvm.Cond) (s : Addr) (b : Addr) (f : Nat → Value) (cs : Int32) (h0 : Heap) (hn0 : n0 ≤ h0.size) (e0 : Exa Z h0 s "java/lang/String") (e1 : Fld Z h0 s "java/lang/String" "value" "[B" (.ref b)) (e2 : Fld Z h0 s "java/lang/String" "coder" "B" (.int (0 : Int32))) (e3 : Ars Z h0 b .byte 2 f) (e4 : Old Z n0 h0) (e5 : Sta Z Z.heap "java/lang/String" "COMPACT_STRINGS" "Z" (.int cs)) (e6 : cs.toInt ≠ 0) :
    Ctr l Z n0 y13_2 jdk_42_method_54_code 1 (some .int) ws R13_2 #[(.ref s)] h0 (QI fun r h => (h0 = h) ∧ (r = (2 : Int32))) := by
  refine ctr_of pn13 hn0 (ef13_2 s) fun G A0 => ?_
  have A1 := A0.aloadN (v := (.ref s)) (pc' := 1) d13_0 rfl rfl rfl
  have A2 := A1.getF (pc' := 4) (host := "") d13_1 (Or.inl (hw _ (List.mem_of_getElem? (i := 34) rfl))) Via.refl e1 rfl
  have A3 := A2.alen (z := (2 : Int32)) (pc' := 5) d13_4 e3 rfl rfl
  have A4 := A3.aloadN (v := (.ref s)) (pc' := 6) d13_5 rfl rfl rfl
  obtain ⟨r6, _, ⟨rfl, q7⟩, A5⟩ := W.kI (A4.callV (a := s) (argsL := []) (rest := [(.int (2 : Int32))]) (C' := 0) (S' := 0) (pc' := 9) d13_6 e0 (hw _ (List.mem_of_getElem? (i := 71) rfl)) (hw _ (List.mem_of_getElem? (i := 72) rfl)) (fun hZ => notFace_of_selects (args := #[]) (mvT hZ (hw _ (List.mem_of_getElem? (i := 74) rfl)))) (hw _ (List.mem_of_getElem? (i := 74) rfl)) (hw _ (List.mem_of_getElem? (i := 73) rfl)) (hw _ (List.mem_of_getElem? (i := 9) rfl)) (hw _ (List.mem_of_getElem? (i := 75) rfl)) (rm14 l Z a0 hw n0 [] (s) (_) h0 A4.size e2 e4 e5 (by assumption)) rfl rfl pd_11 rfl rfl (by decide) (by decide) (Nat.le_of_ble_eq_true rfl) (by decide) (by decide) rfl rfl rfl)
  subst q7
  have A9 := A5.ishr (pc' := 10) d13_9 rfl
  have A10 := A9.topI (z := (2 : Int32)) (by decide)
  refine A10.retI d13_10 (by decide) (by decide) ⟨_, rfl, ⟨rfl, ?_⟩⟩
  have elit : (2 : Int32).toInt = 2 := rfl
  rfl
abbrev y25_2 : MethodName := (⟨"java/lang/String", "encode8859_1", "(B[BZ)[B"⟩ : MethodName)
abbrev R25_2 : Room := { frames := 1, cells := 1, slots := 2, locals := 14 }
set_option maxRecDepth 65536 in
set_option maxHeartbeats 4000000 in
theorem ef25_2 (b : Addr)  (mid : MethodId) : entryFrame mid #[(.int (0 : Int32)), (.ref b), (.int (1 : Int32))] 10 = mkF mid 0 #[.val (.int (0 : Int32)), .val (.ref b), .val (.int (1 : Int32)), .unset, .unset, .unset, .unset, .unset, .unset, .unset] [] := by first | (simp [entryFrame, mkF, argsToLocals, Value.category]; done) | rfl
set_option maxRecDepth 65536 in
set_option maxHeartbeats 40000000 in
theorem rm25_2 (l : Launch) (Z : State) (a0 : Array Value) (hw : ∀ d ∈ tables_1, d.before a0 Z = true) (n0 : Nat) (ws : List Jvm.Cond) (b : Addr) (f : Nat → Value) (h0 : Heap) (hn0 : n0 ≤ h0.size) (e0 : Ars Z h0 b .byte 2 f) (e1 : Exa Z h0 b "[B") :
    Ctr l Z n0 y25_2 jdk_42_method_27_code 10 (some (.array .byte)) ws R25_2 #[(.int (0 : Int32)), (.ref b), (.int (1 : Int32))] h0 (QA fun r h => (Keep h0 h []) ∧ (n0 ≤ r) ∧ (h0.size ≤ r) ∧ (Ars Z h r .byte 2 f) ∧ (Exa Z h r "[B") ∧ (True)) := by
  refine ctr_of pn25 hn0 (ef25_2 b) fun G A0 => ?_
  have A1 := A0.iloadN (v := (0 : Int32)) (pc' := 1) d25_0 rfl rfl
  have A3 := A1.ifNo (pc' := 4) d25_1 (teq (ieq (x := (0 : Int32)) (y := (0 : Int32)) rfl rfl (by decide : (0 : Int) = 0))).2 rfl
  have A4 := A3.aloadN (v := (.ref b)) (pc' := 5) d25_4 rfl rfl rfl
  obtain ⟨h5, b6, eb7, g8, E9, X10, XE11, A12⟩ := A4.clone (cap := 2) (C' := 1) (S' := 2) (pc' := 8) d25_5 (hw _ (List.mem_of_getElem? (i := 129) rfl)) (hw _ (List.mem_of_getElem? (i := 130) rfl)) (hw _ (List.mem_of_getElem? (i := 134) rfl)) (hw _ (List.mem_of_getElem? (i := 132) rfl)) (hw _ (List.mem_of_getElem? (i := 133) rfl)) (hw _ (List.mem_of_getElem? (i := 135) rfl)) e0 e1 (by decide) rfl (by decide) (Nat.le_of_ble_eq_true rfl) (by decide) (by decide) rfl rfl rfl
  have ne13 : b ≠ b6 := Nat.ne_of_lt (Nat.lt_of_lt_of_le e0.lt (Nat.le_of_eq eb7.symm))
  have A14 := A12.cast0 (pc' := 11) d25_8 (hw _ (List.mem_of_getElem? (i := 136) rfl)) (Ins.self XE11) rfl
  have K15 : Keep h0 h5 [] := ((Keep.refl h0 []).ext E9)
  have z16 : h0.size ≤ b6 := Nat.le_trans (Nat.le_refl _) (Nat.le_of_eq eb7.symm)
  refine A14.retA d25_11 (by decide) (by decide) rfl rfl rfl ⟨_, rfl, ⟨K15, g8, z16, X10, XE11, ?_⟩⟩
  trivial
abbrev y24_2 : MethodName := (⟨"java/lang/String", "encode8859_1", "(B[B)[B"⟩ : MethodName)
abbrev R24_2 : Room := { frames := 2, cells := 1, slots := 2, locals := 35 }
set_option maxRecDepth 65536 in
set_option maxHeartbeats 4000000 in
theorem ef24_2 (b : Addr)  (mid : MethodId) : entryFrame mid #[(.int (0 : Int32)), (.ref b)] 2 = mkF mid 0 #[.val (.int (0 : Int32)), .val (.ref b)] [] := by first | (simp [entryFrame, mkF, argsToLocals, Value.category]; done) | rfl
set_option maxRecDepth 65536 in
set_option maxHeartbeats 40000000 in
theorem rm24_2 (l : Launch) (Z : State) (a0 : Array Value) (hw : ∀ d ∈ tables_1, d.before a0 Z = true) (n0 : Nat) (ws : List Jvm.Cond) (b : Addr) (f : Nat → Value) (h0 : Heap) (hn0 : n0 ≤ h0.size) (e0 : Ars Z h0 b .byte 2 f) (e1 : Exa Z h0 b "[B") :
    Ctr l Z n0 y24_2 jdk_42_method_26_code 2 (some (.array .byte)) ws R24_2 #[(.int (0 : Int32)), (.ref b)] h0 (QA fun r h => (Keep h0 h []) ∧ (n0 ≤ r) ∧ (h0.size ≤ r) ∧ (Ars Z h r .byte 2 f) ∧ (Exa Z h r "[B") ∧ (True)) := by
  refine ctr_of pn24 hn0 (ef24_2 b) fun G A0 => ?_
  have A1 := A0.iloadN (v := (0 : Int32)) (pc' := 1) d24_0 rfl rfl
  have A2 := A1.aloadN (v := (.ref b)) (pc' := 2) d24_1 rfl rfl rfl
  have A3 := A2.iconst (z := (1 : Int32)) (pc' := 3) d24_2 rfl rfl
  obtain ⟨r5, h7, ⟨K8, g9, z10, f11, f12, q6⟩, A4⟩ := W.kA (A3.callS (argsL := [(.int (0 : Int32)), (.ref b), (.int (1 : Int32))]) (rest := []) (C' := 1) (S' := 2) (pc' := 6) d24_3 (hw _ (List.mem_of_getElem? (i := 126) rfl)) (hw _ (List.mem_of_getElem? (i := 127) rfl)) (hw _ (List.mem_of_getElem? (i := 9) rfl)) (hw _ (List.mem_of_getElem? (i := 128) rfl)) (rm25_2 l Z a0 hw n0 [] (b) (f) h0 A3.size e0 e1) rfl rfl pd_12 rfl rfl (by decide) (by decide) (Nat.le_of_ble_eq_true rfl) (by decide) (by decide) rfl rfl rfl)
  have ne13 : b ≠ r5 := Nat.ne_of_lt (Nat.lt_of_lt_of_le e0.lt z10)
  have K14 : Keep h0 h7 [] := ((Keep.refl h0 []).trans K8 all0)
  have z15 : h0.size ≤ r5 := Nat.le_trans (Nat.le_refl _) z10
  refine A4.retA d24_6 (by decide) (by decide) rfl rfl rfl ⟨_, rfl, ⟨K14, g9, z15, f11, f12, ?_⟩⟩
  trivial
abbrev y23_2 : MethodName := (⟨"java/lang/String", "encode", "(Ljava/nio/charset/Charset;B[B)[B"⟩ : MethodName)
abbrev R23_2 : Room := { frames := 3, cells := 1, slots := 2, locals := 48 }
set_option maxRecDepth 65536 in
set_option maxHeartbeats 4000000 in
theorem ef23_2 (iso : Addr) (b : Addr)  (mid : MethodId) : entryFrame mid #[(.ref iso), (.int (0 : Int32)), (.ref b)] 3 = mkF mid 0 #[.val (.ref iso), .val (.int (0 : Int32)), .val (.ref b)] [] := by first | (simp [entryFrame, mkF, argsToLocals, Value.category]; done) | rfl
set_option maxRecDepth 65536 in
set_option maxHeartbeats 40000000 in
theorem rm23_2 (l : Launch) (Z : State) (a0 : Array Value) (hw : ∀ d ∈ tables_1, d.before a0 Z = true) (n0 : Nat) (ws : List Jvm.Cond) (iso : Addr) (b : Addr) (f : Nat → Value) (u8 : Addr) (h0 : Heap) (hn0 : n0 ≤ h0.size) (e0 : Ars Z h0 b .byte 2 f) (e1 : Exa Z h0 b "[B") (e2 : Old Z n0 h0) (e3 : Sta Z Z.heap "sun/nio/cs/UTF_8" "INSTANCE" "Lsun/nio/cs/UTF_8;" (.ref u8)) (e4 : Sta Z Z.heap "sun/nio/cs/ISO_8859_1" "INSTANCE" "Lsun/nio/cs/ISO_8859_1;" (.ref iso)) (e5 : iso ≠ u8) :
    Ctr l Z n0 y23_2 jdk_42_method_18_code 3 (some (.array .byte)) ws R23_2 #[(.ref iso), (.int (0 : Int32)), (.ref b)] h0 (QA fun r h => (Keep h0 h []) ∧ (n0 ≤ r) ∧ (h0.size ≤ r) ∧ (Ars Z h r .byte 2 f) ∧ (Exa Z h r "[B") ∧ (True)) := by
  refine ctr_of pn23 hn0 (ef23_2 iso b) fun G A0 => ?_
  have A1 := A0.aloadN (v := (.ref iso)) (pc' := 1) d23_0 rfl rfl rfl
  have f3 := e3.ext e2.2
  have A2 := A1.getS (pc' := 4) (host := "") d23_1 (Or.inl (hw _ (List.mem_of_getElem? (i := 119) rfl))) Via.refl f3 rfl
  have A4 := A2.acmpK (same := false) (pc' := 14) d23_4 rfl rfl (decide_eq_false (fun q => e5 (Value.ref.inj q))) (by decide) (by decide)
  have A5 := A4.aloadN (v := (.ref iso)) (pc' := 15) d23_14 rfl rfl rfl
  have f7 := e4.ext e2.2
  have A6 := A5.getS (pc' := 18) (host := "") d23_15 (Or.inl (hw _ (List.mem_of_getElem? (i := 121) rfl))) Via.refl f7 rfl
  have A8 := A6.acmpK (same := true) (pc' := 21) d23_18 rfl rfl (decide_eq_true rfl) (by decide) (by decide)
  have A9 := A8.iloadN (v := (0 : Int32)) (pc' := 22) d23_21 rfl rfl
  have A10 := A9.aloadN (v := (.ref b)) (pc' := 23) d23_22 rfl rfl rfl
  obtain ⟨r12, h14, ⟨K15, g16, z17, f18, f19, q13⟩, A11⟩ := W.kA (A10.callS (argsL := [(.int (0 : Int32)), (.ref b)]) (rest := []) (C' := 1) (S' := 2) (pc' := 26) d23_23 (hw _ (List.mem_of_getElem? (i := 123) rfl)) (hw _ (List.mem_of_getElem? (i := 124) rfl)) (hw _ (List.mem_of_getElem? (i := 9) rfl)) (hw _ (List.mem_of_getElem? (i := 125) rfl)) (rm24_2 l Z a0 hw n0 [] (b) (f) h0 A10.size e0 e1) rfl rfl pd_13 rfl rfl (by decide) (by decide) (Nat.le_of_ble_eq_true rfl) (by decide) (by decide) rfl rfl rfl)
  have ne20 : b ≠ r12 := Nat.ne_of_lt (Nat.lt_of_lt_of_le e0.lt z17)
  have K21 : Keep h0 h14 [] := ((Keep.refl h0 []).trans K15 all0)
  have z22 : h0.size ≤ r12 := Nat.le_trans (Nat.le_refl _) z17
  refine A11.retA d23_26 (by decide) (by decide) rfl rfl rfl ⟨_, rfl, ⟨K21, g16, z22, f18, f19, ?_⟩⟩
  trivial
abbrev y22_2 : MethodName := (⟨"java/lang/String", "getBytes", "(Ljava/nio/charset/Charset;)[B"⟩ : MethodName)
abbrev R22_2 : Room := { frames := 4, cells := 1, slots := 2, locals := 62 }
set_option maxRecDepth 65536 in
set_option maxHeartbeats 4000000 in
theorem ef22_2 (s : Addr) (iso : Addr)  (mid : MethodId) : entryFrame mid #[(.ref s), (.ref iso)] 2 = mkF mid 0 #[.val (.ref s), .val (.ref iso)] [] := by first | (simp [entryFrame, mkF, argsToLocals, Value.category]; done) | rfl
set_option maxRecDepth 65536 in
set_option maxHeartbeats 40000000 in
theorem rm22_2 (l : Launch) (Z : State) (a0 : Array Value) (hw : ∀ d ∈ tables_1, d.before a0 Z = true) (n0 : Nat) (ws : List Jvm.Cond) (s : Addr) (iso : Addr) (b : Addr) (f : Nat → Value) (cs : Int32) (u8 : Addr) (h0 : Heap) (hn0 : n0 ≤ h0.size) (e0 : Exa Z h0 s "java/lang/String") (e1 : Fld Z h0 s "java/lang/String" "value" "[B" (.ref b)) (e2 : Fld Z h0 s "java/lang/String" "coder" "B" (.int (0 : Int32))) (e3 : Ars Z h0 b .byte 2 f) (e4 : Exa Z h0 b "[B") (e5 : Old Z n0 h0) (e6 : Sta Z Z.heap "java/lang/String" "COMPACT_STRINGS" "Z" (.int cs)) (e7 : cs.toInt ≠ 0) (e8 : Sta Z Z.heap "sun/nio/cs/UTF_8" "INSTANCE" "Lsun/nio/cs/UTF_8;" (.ref u8)) (e9 : Sta Z Z.heap "sun/nio/cs/ISO_8859_1" "INSTANCE" "Lsun/nio/cs/ISO_8859_1;" (.ref iso)) (e10 : iso ≠ u8) :
    Ctr l Z n0 y22_2 jdk_42_method_64_code 2 (some (.array .byte)) ws R22_2 #[(.ref s), (.ref iso)] h0 (QA fun r h => (Keep h0 h []) ∧ (n0 ≤ r) ∧ (h0.size ≤ r) ∧ (Ars Z h r .byte 2 f) ∧ (Exa Z h r "[B") ∧ (True)) := by
  refine ctr_of pn22 hn0 (ef22_2 s iso) fun G A0 => ?_
  have A1 := A0.aloadN (v := (.ref iso)) (pc' := 1) d22_0 rfl rfl rfl
  have A2 := A1.ifnonnullYes (pc' := 12) d22_1 (by decide) (by decide)
  have A3 := A2.aloadN (v := (.ref iso)) (pc' := 13) d22_12 rfl rfl rfl
  have A4 := A3.aloadN (v := (.ref s)) (pc' := 14) d22_13 rfl rfl rfl
  obtain ⟨r6, _, ⟨rfl, q7⟩, A5⟩ := W.kI (A4.callV (a := s) (argsL := []) (rest := [(.ref iso)]) (C' := 0) (S' := 0) (pc' := 17) d22_14 e0 (hw _ (List.mem_of_getElem? (i := 71) rfl)) (hw _ (List.mem_of_getElem? (i := 72) rfl)) (fun hZ => notFace_of_selects (args := #[]) (mvT hZ (hw _ (List.mem_of_getElem? (i := 74) rfl)))) (hw _ (List.mem_of_getElem? (i := 74) rfl)) (hw _ (List.mem_of_getElem? (i := 73) rfl)) (hw _ (List.mem_of_getElem? (i := 9) rfl)) (hw _ (List.mem_of_getElem? (i := 75) rfl)) (rm14 l Z a0 hw n0 [] (s) (_) h0 A4.size e2 e5 e6 (by assumption)) rfl rfl pd_11 rfl rfl (by decide) (by decide) (Nat.le_of_ble_eq_true rfl) (by decide) (by decide) rfl rfl rfl)
  subst q7
  have A9 := A5.aloadN (v := (.ref s)) (pc' := 18) d22_17 rfl rfl rfl
  have A10 := A9.getF (pc' := 21) (host := "") d22_18 (Or.inl (hw _ (List.mem_of_getElem? (i := 34) rfl))) Via.refl e1 rfl
  obtain ⟨r12, h14, ⟨K15, g16, z17, f18, f19, q13⟩, A11⟩ := W.kA (A10.callS (argsL := [(.ref iso), (.int (0 : Int32)), (.ref b)]) (rest := []) (C' := 1) (S' := 2) (pc' := 24) d22_21 (hw _ (List.mem_of_getElem? (i := 116) rfl)) (hw _ (List.mem_of_getElem? (i := 117) rfl)) (hw _ (List.mem_of_getElem? (i := 9) rfl)) (hw _ (List.mem_of_getElem? (i := 118) rfl)) (rm23_2 l Z a0 hw n0 [] (iso) (b) (f) (_) h0 A10.size e3 e4 e5 e8 e9 e10) rfl rfl pd_14 rfl rfl (by decide) (by decide) (Nat.le_of_ble_eq_true rfl) (by decide) (by decide) rfl rfl rfl)
  have ne20 : s ≠ r12 := Nat.ne_of_lt (Nat.lt_of_lt_of_le e0.lt z17)
  have ne21 : b ≠ r12 := Nat.ne_of_lt (Nat.lt_of_lt_of_le e3.lt z17)
  have K22 : Keep h0 h14 [] := ((Keep.refl h0 []).trans K15 all0)
  have z23 : h0.size ≤ r12 := Nat.le_trans (Nat.le_refl _) z17
  refine A11.retA d22_24 (by decide) (by decide) rfl rfl rfl ⟨_, rfl, ⟨K22, g16, z23, f18, f19, ?_⟩⟩
  trivial
theorem pn12 : plainFor (⟨"com/example/dialekt/dialekt/json/MemberNames", "<init>", "([Ljava/lang/String;)V"⟩ : MethodName) = true := by first | exact plainFor_of_name (by first | (simp [plainName, overriddenIn]; done) | decide +kernel) | exact Jvm.Free.JP.mathPlain rfl (by decide +kernel) | decide +kernel
theorem d12_0 : decode prog_32_method_1_code 0 = .ok (.aload_n 0, 1) := by decide +kernel
theorem d12_1 : decode prog_32_method_1_code 1 = .ok (.invokespecial 1, 3) := by decide +kernel
theorem d12_4 : decode prog_32_method_1_code 4 = .ok (.aload_n 0, 1) := by decide +kernel
theorem d12_5 : decode prog_32_method_1_code 5 = .ok (.aload_n 1, 1) := by decide +kernel
theorem d12_6 : decode prog_32_method_1_code 6 = .ok (.putfield 7, 3) := by decide +kernel
theorem d12_9 : decode prog_32_method_1_code 9 = .ok (.aload_n 0, 1) := by decide +kernel
theorem d12_10 : decode prog_32_method_1_code 10 = .ok (.aload_n 1, 1) := by decide +kernel
theorem d12_11 : decode prog_32_method_1_code 11 = .ok (.arraylength, 1) := by decide +kernel
theorem d12_12 : decode prog_32_method_1_code 12 = .ok (.iconst 1, 1) := by decide +kernel
theorem d12_13 : decode prog_32_method_1_code 13 = .ok (.iadd, 1) := by decide +kernel
theorem d12_14 : decode prog_32_method_1_code 14 = .ok (.anewarray 13, 3) := by decide +kernel
theorem d12_17 : decode prog_32_method_1_code 17 = .ok (.putfield 15, 3) := by decide +kernel
theorem d12_20 : decode prog_32_method_1_code 20 = .ok (.aload_n 0, 1) := by decide +kernel
theorem d12_21 : decode prog_32_method_1_code 21 = .ok (.aload_n 1, 1) := by decide +kernel
theorem d12_22 : decode prog_32_method_1_code 22 = .ok (.arraylength, 1) := by decide +kernel
theorem d12_23 : decode prog_32_method_1_code 23 = .ok (.iconst 1, 1) := by decide +kernel
theorem d12_24 : decode prog_32_method_1_code 24 = .ok (.iadd, 1) := by decide +kernel
theorem d12_25 : decode prog_32_method_1_code 25 = .ok (.newarray .int, 2) := by decide +kernel
theorem d12_27 : decode prog_32_method_1_code 27 = .ok (.putfield 19, 3) := by decide +kernel
theorem d12_30 : decode prog_32_method_1_code 30 = .ok (.iconst 0, 1) := by decide +kernel
theorem d12_31 : decode prog_32_method_1_code 31 = .ok (.istore_n 2, 1) := by decide +kernel
theorem d12_32 : decode prog_32_method_1_code 32 = .ok (.iload_n 2, 1) := by decide +kernel
theorem d12_33 : decode prog_32_method_1_code 33 = .ok (.aload_n 1, 1) := by decide +kernel
theorem d12_34 : decode prog_32_method_1_code 34 = .ok (.arraylength, 1) := by decide +kernel
theorem d12_35 : decode prog_32_method_1_code 35 = .ok (.if_icmp .ge 127, 3) := by decide +kernel
theorem d12_38 : decode prog_32_method_1_code 38 = .ok (.iconst 1, 1) := by decide +kernel
theorem d12_39 : decode prog_32_method_1_code 39 = .ok (.istore_n 3, 1) := by decide +kernel
theorem d12_40 : decode prog_32_method_1_code 40 = .ok (.iconst 0, 1) := by decide +kernel
theorem d12_41 : decode prog_32_method_1_code 41 = .ok (.istore 4, 2) := by decide +kernel
theorem d12_43 : decode prog_32_method_1_code 43 = .ok (.iload_n 3, 1) := by decide +kernel
theorem d12_44 : decode prog_32_method_1_code 44 = .ok (.ifCond .eq 65, 3) := by decide +kernel
theorem d12_47 : decode prog_32_method_1_code 47 = .ok (.iload 4, 2) := by decide +kernel
theorem d12_49 : decode prog_32_method_1_code 49 = .ok (.aload_n 1, 1) := by decide +kernel
theorem d12_50 : decode prog_32_method_1_code 50 = .ok (.iload_n 2, 1) := by decide +kernel
theorem d12_51 : decode prog_32_method_1_code 51 = .ok (.aaload, 1) := by decide +kernel
theorem d12_52 : decode prog_32_method_1_code 52 = .ok (.invokevirtual 23, 3) := by decide +kernel
theorem d12_55 : decode prog_32_method_1_code 55 = .ok (.if_icmp .ge 54, 3) := by decide +kernel
theorem d12_58 : decode prog_32_method_1_code 58 = .ok (.aload_n 1, 1) := by decide +kernel
theorem d12_59 : decode prog_32_method_1_code 59 = .ok (.iload_n 2, 1) := by decide +kernel
theorem d12_60 : decode prog_32_method_1_code 60 = .ok (.aaload, 1) := by decide +kernel
theorem d12_61 : decode prog_32_method_1_code 61 = .ok (.iload 4, 2) := by decide +kernel
theorem d12_63 : decode prog_32_method_1_code 63 = .ok (.invokevirtual 29, 3) := by decide +kernel
theorem d12_66 : decode prog_32_method_1_code 66 = .ok (.istore 5, 2) := by decide +kernel
theorem d12_68 : decode prog_32_method_1_code 68 = .ok (.iload 5, 2) := by decide +kernel
theorem d12_70 : decode prog_32_method_1_code 70 = .ok (.bipush 32, 2) := by decide +kernel
theorem d12_72 : decode prog_32_method_1_code 72 = .ok (.if_icmp .lt 29, 3) := by decide +kernel
theorem d12_75 : decode prog_32_method_1_code 75 = .ok (.iload 5, 2) := by decide +kernel
theorem d12_77 : decode prog_32_method_1_code 77 = .ok (.sipush 128, 3) := by decide +kernel
theorem d12_80 : decode prog_32_method_1_code 80 = .ok (.if_icmp .ge 21, 3) := by decide +kernel
theorem d12_83 : decode prog_32_method_1_code 83 = .ok (.iload 5, 2) := by decide +kernel
theorem d12_85 : decode prog_32_method_1_code 85 = .ok (.bipush 34, 2) := by decide +kernel
theorem d12_87 : decode prog_32_method_1_code 87 = .ok (.if_icmp .eq 14, 3) := by decide +kernel
theorem d12_90 : decode prog_32_method_1_code 90 = .ok (.iload 5, 2) := by decide +kernel
theorem d12_92 : decode prog_32_method_1_code 92 = .ok (.bipush 92, 2) := by decide +kernel
theorem d12_94 : decode prog_32_method_1_code 94 = .ok (.if_icmp .eq 7, 3) := by decide +kernel
theorem d12_101 : decode prog_32_method_1_code 101 = .ok (.iconst 0, 1) := by decide +kernel
theorem d12_102 : decode prog_32_method_1_code 102 = .ok (.istore_n 3, 1) := by decide +kernel
theorem d12_103 : decode prog_32_method_1_code 103 = .ok (.iinc 4 1, 3) := by decide +kernel
theorem d12_106 : decode prog_32_method_1_code 106 = .ok (.goto (-63), 3) := by decide +kernel
theorem d12_109 : decode prog_32_method_1_code 109 = .ok (.aload_n 0, 1) := by decide +kernel
theorem d12_110 : decode prog_32_method_1_code 110 = .ok (.getfield 15, 3) := by decide +kernel
theorem d12_113 : decode prog_32_method_1_code 113 = .ok (.iload_n 2, 1) := by decide +kernel
theorem d12_114 : decode prog_32_method_1_code 114 = .ok (.iload_n 3, 1) := by decide +kernel
theorem d12_115 : decode prog_32_method_1_code 115 = .ok (.ifCond .eq 15, 3) := by decide +kernel
theorem d12_130 : decode prog_32_method_1_code 130 = .ok (.getstatic 43, 3) := by decide +kernel
theorem d12_133 : decode prog_32_method_1_code 133 = .ok (.aastore, 1) := by decide +kernel
theorem d12_134 : decode prog_32_method_1_code 134 = .ok (.aload_n 0, 1) := by decide +kernel
theorem d12_135 : decode prog_32_method_1_code 135 = .ok (.getfield 19, 3) := by decide +kernel
theorem d12_138 : decode prog_32_method_1_code 138 = .ok (.iload_n 2, 1) := by decide +kernel
theorem d12_139 : decode prog_32_method_1_code 139 = .ok (.iload_n 3, 1) := by decide +kernel
theorem d12_140 : decode prog_32_method_1_code 140 = .ok (.ifCond .eq 13, 3) := by decide +kernel
theorem d12_153 : decode prog_32_method_1_code 153 = .ok (.ldc 48, 2) := by decide +kernel
theorem d12_155 : decode prog_32_method_1_code 155 = .ok (.iastore, 1) := by decide +kernel
theorem d12_156 : decode prog_32_method_1_code 156 = .ok (.iinc 2 1, 3) := by decide +kernel
theorem d12_159 : decode prog_32_method_1_code 159 = .ok (.goto (-127), 3) := by decide +kernel
theorem d12_162 : decode prog_32_method_1_code 162 = .ok (.aload_n 0, 1) := by decide +kernel
theorem d12_163 : decode prog_32_method_1_code 163 = .ok (.getfield 15, 3) := by decide +kernel
theorem d12_166 : decode prog_32_method_1_code 166 = .ok (.aload_n 1, 1) := by decide +kernel
theorem d12_167 : decode prog_32_method_1_code 167 = .ok (.arraylength, 1) := by decide +kernel
theorem d12_168 : decode prog_32_method_1_code 168 = .ok (.getstatic 43, 3) := by decide +kernel
theorem d12_171 : decode prog_32_method_1_code 171 = .ok (.aastore, 1) := by decide +kernel
theorem d12_172 : decode prog_32_method_1_code 172 = .ok (.aload_n 0, 1) := by decide +kernel
theorem d12_173 : decode prog_32_method_1_code 173 = .ok (.getfield 19, 3) := by decide +kernel
theorem d12_176 : decode prog_32_method_1_code 176 = .ok (.aload_n 1, 1) := by decide +kernel
theorem d12_177 : decode prog_32_method_1_code 177 = .ok (.arraylength, 1) := by decide +kernel
theorem d12_178 : decode prog_32_method_1_code 178 = .ok (.ldc 48, 2) := by decide +kernel
theorem d12_180 : decode prog_32_method_1_code 180 = .ok (.iastore, 1) := by decide +kernel
theorem d12_181 : decode prog_32_method_1_code 181 = .ok (.return_, 1) := by decide +kernel
abbrev y12_NN : MethodName := (⟨"com/example/dialekt/dialekt/json/MemberNames", "<init>", "([Ljava/lang/String;)V"⟩ : MethodName)
abbrev R12_NN : Room := { frames := 4, cells := 2, slots := 6, locals := 53 }
set_option maxRecDepth 65536 in
set_option maxHeartbeats 4000000 in
theorem ef12_NN (m : Addr) (a : Addr)  (mid : MethodId) : entryFrame mid #[(.ref m), (.ref a)] 6 = mkF mid 0 #[.val (.ref m), .val (.ref a), .unset, .unset, .unset, .unset] [] := by first | (simp [entryFrame, mkF, argsToLocals, Value.category]; done) | rfl
set_option maxRecDepth 65536 in
set_option maxHeartbeats 40000000 in
theorem rm12_NN (l : Launch) (Z : State) (a0 : Array Value) (hw : ∀ d ∈ tables_1, d.before a0 Z = true) (n0 : Nat) (ws : List Jvm.Cond) (m : Addr) (a : Addr) (s0 : Addr) (s1 : Addr) (b0 : Addr) (b1 : Addr) (iso : Addr) (u8 : Addr) (nb : Addr) (x0 : Int32) (x1 : Int32) (x2 : Int32) (cs : Int32) (fm : Value) (h0 : Heap) (hn0 : n0 ≤ h0.size) (e0 : Exa Z h0 m "com/example/dialekt/dialekt/json/MemberNames") (e1 : n0 ≤ m) (e2 : Fld Z h0 m "com/example/dialekt/dialekt/json/MemberNames" "names" "[Ljava/lang/String;" .null) (e3 : Fld Z h0 m "com/example/dialekt/dialekt/json/MemberNames" "plain" "[[B" .null) (e4 : Fld Z h0 m "com/example/dialekt/dialekt/json/MemberNames" "plainLengths" "[I" .null) (e5 : Ars Z h0 a (.object "java/lang/String") 2 (upd (upd (fun _ => .null) 0 (.ref s0)) 1 (.ref s1))) (e6 : Exa Z h0 s0 "java/lang/String") (e7 : Fld Z h0 s0 "java/lang/String" "value" "[B" (.ref b0)) (e8 : Fld Z h0 s0 "java/lang/String" "coder" "B" (.int (0 : Int32))) (e9 : Ars Z h0 b0 .byte 2 (upd (upd (fun _ => (.int (0 : Int32))) 0 (.int x0.toInt8.toInt32.toInt8.toInt32)) 1 (.int x1.toInt8.toInt32.toInt8.toInt32))) (e10 : Exa Z h0 b0 "[B") (e11 : Exa Z h0 s1 "java/lang/String") (e12 : Fld Z h0 s1 "java/lang/String" "value" "[B" (.ref b1)) (e13 : Fld Z h0 s1 "java/lang/String" "coder" "B" (.int (0 : Int32))) (e14 : Ars Z h0 b1 .byte 1 (upd (fun _ => (.int (0 : Int32))) 0 (.int x2.toInt8.toInt32.toInt8.toInt32))) (e15 : Exa Z h0 b1 "[B") (e16 : a ≠ m) (e17 : s0 ≠ m) (e18 : b0 ≠ m) (e19 : s1 ≠ m) (e20 : b1 ≠ m) (e21 : 0 ≤ x0.toInt ∧ x0.toInt ≤ 255) (e22 : 0 ≤ x1.toInt ∧ x1.toInt ≤ 255) (e23 : 0 ≤ x2.toInt ∧ x2.toInt ≤ 255) (e24 : Old Z n0 h0) (e25 : Sta Z Z.heap "java/lang/String" "COMPACT_STRINGS" "Z" (.int cs)) (e26 : cs.toInt ≠ 0) (e27 : Sta Z Z.heap "jdk/internal/util/Preconditions" "SIOOBE_FORMATTER" "Ljava/util/function/BiFunction;" fm) (e28 : fm.isRef = true) (e29 : Sta Z Z.heap "sun/nio/cs/UTF_8" "INSTANCE" "Lsun/nio/cs/UTF_8;" (.ref u8)) (e30 : Sta Z Z.heap "sun/nio/cs/ISO_8859_1" "INSTANCE" "Lsun/nio/cs/ISO_8859_1;" (.ref iso)) (e31 : iso ≠ u8) (e32 : Sta Z Z.heap "java/nio/charset/StandardCharsets" "ISO_8859_1" "Ljava/nio/charset/Charset;" (.ref iso)) (e33 : Sta Z Z.heap "com/example/dialekt/dialekt/json/MemberNames" "NO_BYTES" "[B" (.ref nb)) (e34 : Exa Z Z.heap nb "[B") (e35 : Ars Z Z.heap nb .byte 0 (fun _ => (.int (0 : Int32)))) (e36 : ¬ (32 ≤ x0.toInt ∧ x0.toInt < 128 ∧ ¬ (x0.toInt = 34) ∧ ¬ (x0.toInt = 92))) (e37 : ¬ (32 ≤ x2.toInt ∧ x2.toInt < 128 ∧ ¬ (x2.toInt = 34) ∧ ¬ (x2.toInt = 92))) :
    Ctr l Z n0 y12_NN prog_32_method_1_code 6 (none) ws R12_NN #[(.ref m), (.ref a)] h0 (QV fun h => ∃ pl : Addr, ∃ lns : Addr, (Keep h0 h [m]) ∧ (n0 ≤ pl) ∧ (h0.size ≤ pl) ∧ (n0 ≤ lns) ∧ (h0.size ≤ lns) ∧ (Fld Z h m "com/example/dialekt/dialekt/json/MemberNames" "plain" "[[B" (.ref pl)) ∧ (Fld Z h m "com/example/dialekt/dialekt/json/MemberNames" "plainLengths" "[I" (.ref lns)) ∧ (Ars Z h pl (.array .byte) 3 (upd (upd (upd (fun _ => .null) 0 (.ref nb)) 1 (.ref nb)) 2 (.ref nb))) ∧ (Ars Z h lns .int 3 (upd (upd (upd (fun _ => (.int (0 : Int32))) 0 (.int (2147483647 : Int32))) 1 (.int (2147483647 : Int32))) 2 (.int (2147483647 : Int32)))) ∧ (True)) := by
  refine ctr_of pn12 hn0 (ef12_NN m a) fun G A0 => ?_
  have A1 := A0.aloadN (v := (.ref m)) (pc' := 1) d12_0 rfl rfl rfl
  have A2 := A1.initO (pc' := 4) d12_1 (hw _ (List.mem_of_getElem? (i := 56) rfl)) (hw _ (List.mem_of_getElem? (i := 19) rfl)) (hw _ (List.mem_of_getElem? (i := 20) rfl)) rfl (by decide) (Nat.le_of_ble_eq_true rfl) rfl
  have A3 := A2.aloadN (v := (.ref m)) (pc' := 5) d12_4 rfl rfl rfl
  have A4 := A3.aloadN (v := (.ref a)) (pc' := 6) d12_5 rfl rfl rfl
  obtain ⟨h6, w7, A5⟩ := A4.putF (pc' := 9) (ty := (.array (.object "java/lang/String"))) (host := "") d12_6 (Or.inl (hw _ (List.mem_of_getElem? (i := 57) rfl))) Via.refl e2 e0 (Or.inr ⟨(hw _ (List.mem_of_getElem? (i := 58) rfl)), rfl, rfl⟩) (hw _ (List.mem_of_getElem? (i := 51) rfl)) (by decide) rfl rfl e1 rfl
  have f8 := e2.same w7
  have A9 := A5.aloadN (v := (.ref m)) (pc' := 10) d12_9 rfl rfl rfl
  have A10 := A9.aloadN (v := (.ref a)) (pc' := 11) d12_10 rfl rfl rfl
  have f11 := (e5.other w7 e16)
  have A12 := A10.alen (z := (2 : Int32)) (pc' := 12) d12_11 f11 rfl rfl
  have A13 := A12.iconst (z := (1 : Int32)) (pc' := 13) d12_12 rfl rfl
  have A14 := A13.iadd (pc' := 14) d12_13 rfl
  have A15 := A14.topI (z := (3 : Int32)) (by decide)
  obtain ⟨h16, b17, eb18, g19, E20, X21, XE23, A22⟩ := A15.newRX (z := (3 : Int32)) (N := 3) (cap := 3) (C' := 1) (S' := 3) (pc' := 17) (ad := "[[B") d12_14 rfl (hw _ (List.mem_of_getElem? (i := 59) rfl)) (hw _ (List.mem_of_getElem? (i := 60) rfl)) rfl (by decide) (by decide) (by decide) (by decide) rfl rfl rfl (by decide)
  have f24 := (e0.wr w7)
  have ne25 : m ≠ b17 := Nat.ne_of_lt (Nat.lt_of_lt_of_le f24.lt (Nat.le_of_eq eb18.symm))
  have ne26 : a ≠ b17 := Nat.ne_of_lt (Nat.lt_of_lt_of_le f11.lt (Nat.le_of_eq eb18.symm))
  have f27 := (e6.wr w7)
  have ne28 : s0 ≠ b17 := Nat.ne_of_lt (Nat.lt_of_lt_of_le f27.lt (Nat.le_of_eq eb18.symm))
  have f29 := (e9.other w7 e18)
  have ne30 : b0 ≠ b17 := Nat.ne_of_lt (Nat.lt_of_lt_of_le f29.lt (Nat.le_of_eq eb18.symm))
  have f31 := (e11.wr w7)
  have ne32 : s1 ≠ b17 := Nat.ne_of_lt (Nat.lt_of_lt_of_le f31.lt (Nat.le_of_eq eb18.symm))
  have f33 := (e14.other w7 e20)
  have ne34 : b1 ≠ b17 := Nat.ne_of_lt (Nat.lt_of_lt_of_le f33.lt (Nat.le_of_eq eb18.symm))
  have f35 := ((e3.other w7 (Or.inr (slot_ne (Or.inr (hw _ (List.mem_of_getElem? (i := 62) rfl))) (Or.inr (hw _ (List.mem_of_getElem? (i := 58) rfl))) (by decide) (t := (.array (.array .byte))) (t' := (.array (.object "java/lang/String"))) (by decide) (by decide)))).ext E20)
  have f36 := (f24.ext E20)
  obtain ⟨h38, w39, A37⟩ := A22.putF (pc' := 20) (ty := (.array (.array .byte))) (host := "") d12_17 (Or.inl (hw _ (List.mem_of_getElem? (i := 61) rfl))) Via.refl f35 f36 (Or.inr ⟨(hw _ (List.mem_of_getElem? (i := 62) rfl)), rfl, rfl⟩) (hw _ (List.mem_of_getElem? (i := 51) rfl)) (by decide) rfl rfl e1 rfl
  have f40 := f35.same w39
  have A41 := A37.aloadN (v := (.ref m)) (pc' := 21) d12_20 rfl rfl rfl
  have A42 := A41.aloadN (v := (.ref a)) (pc' := 22) d12_21 rfl rfl rfl
  have f43 := ((f11.ext E20).other w39 e16)
  have A44 := A42.alen (z := (2 : Int32)) (pc' := 23) d12_22 f43 rfl rfl
  have A45 := A44.iconst (z := (1 : Int32)) (pc' := 24) d12_23 rfl rfl
  have A46 := A45.iadd (pc' := 25) d12_24 rfl
  have A47 := A46.topI (z := (3 : Int32)) (by decide)
  obtain ⟨h48, b49, eb50, g51, E52, X53, XE55, A54⟩ := A47.newP (z := (3 : Int32)) (N := 3) (cap := 3) (C' := 2) (S' := 6) (pc' := 27) d12_25 (hw _ (List.mem_of_getElem? (i := 63) rfl)) rfl (by decide) (by decide) (by decide) (by decide) rfl rfl rfl rfl
  have f56 := (f36.wr w39)
  have ne57 : m ≠ b49 := Nat.ne_of_lt (Nat.lt_of_lt_of_le f56.lt (Nat.le_of_eq eb50.symm))
  have ne58 : a ≠ b49 := Nat.ne_of_lt (Nat.lt_of_lt_of_le f43.lt (Nat.le_of_eq eb50.symm))
  have f59 := ((f27.ext E20).wr w39)
  have ne60 : s0 ≠ b49 := Nat.ne_of_lt (Nat.lt_of_lt_of_le f59.lt (Nat.le_of_eq eb50.symm))
  have f61 := ((f29.ext E20).other w39 e18)
  have ne62 : b0 ≠ b49 := Nat.ne_of_lt (Nat.lt_of_lt_of_le f61.lt (Nat.le_of_eq eb50.symm))
  have f63 := ((f31.ext E20).wr w39)
  have ne64 : s1 ≠ b49 := Nat.ne_of_lt (Nat.lt_of_lt_of_le f63.lt (Nat.le_of_eq eb50.symm))
  have f65 := ((f33.ext E20).other w39 e20)
  have ne66 : b1 ≠ b49 := Nat.ne_of_lt (Nat.lt_of_lt_of_le f65.lt (Nat.le_of_eq eb50.symm))
  have f67 := (X21.other w39 (Ne.symm ne25))
  have ne68 : b17 ≠ b49 := Nat.ne_of_lt (Nat.lt_of_lt_of_le f67.lt (Nat.le_of_eq eb50.symm))
  change Exa Z h48 b49 "[I" at XE55
  change Ars Z h48 b49 .int 3 (fun _ => (.int (0 : Int32))) at X53
  have f69 := ((((e4.other w7 (Or.inr (slot_ne (Or.inr (hw _ (List.mem_of_getElem? (i := 65) rfl))) (Or.inr (hw _ (List.mem_of_getElem? (i := 58) rfl))) (by decide) (t := (.array .int)) (t' := (.array (.object "java/lang/String"))) (by decide) (by decide)))).ext E20).other w39 (Or.inr (slot_ne (Or.inr (hw _ (List.mem_of_getElem? (i := 65) rfl))) (Or.inr (hw _ (List.mem_of_getElem? (i := 62) rfl))) (by decide) (t := (.array .int)) (t' := (.array (.array .byte))) (by decide) (by decide)))).ext E52)
  have f70 := (f56.ext E52)
  obtain ⟨h72, w73, A71⟩ := A54.putF (pc' := 30) (ty := (.array .int)) (host := "") d12_27 (Or.inl (hw _ (List.mem_of_getElem? (i := 64) rfl))) Via.refl f69 f70 (Or.inr ⟨(hw _ (List.mem_of_getElem? (i := 65) rfl)), rfl, rfl⟩) (hw _ (List.mem_of_getElem? (i := 51) rfl)) (by decide) rfl rfl e1 rfl
  have f74 := f69.same w73
  have A75 := A71.iconst (z := (0 : Int32)) (pc' := 31) d12_30 rfl rfl
  have A76 := A75.istoreN (Ls' := #[.val (.ref m), .val (.ref a), .val (.int (0 : Int32)), .unset, .unset, .unset]) (pc' := 32) d12_31 rfl rfl
  have A77 := A76.iloadN (v := (0 : Int32)) (pc' := 33) d12_32 rfl rfl
  have A78 := A77.aloadN (v := (.ref a)) (pc' := 34) d12_33 rfl rfl rfl
  have f79 := ((f43.ext E52).other w73 e16)
  have A80 := A78.alen (z := (2 : Int32)) (pc' := 35) d12_34 f79 rfl rfl
  have A82 := A80.icmpNo (pc' := 38) d12_35 (tlt (ilt (x := (0 : Int32)) (y := (2 : Int32)) rfl rfl (by decide : (0 : Int) < 2))).2.1 rfl
  have A83 := A82.iconst (z := (1 : Int32)) (pc' := 39) d12_38 rfl rfl
  have A84 := A83.istoreN (Ls' := #[.val (.ref m), .val (.ref a), .val (.int (0 : Int32)), .val (.int (1 : Int32)), .unset, .unset]) (pc' := 40) d12_39 rfl rfl
  have A85 := A84.iconst (z := (0 : Int32)) (pc' := 41) d12_40 rfl rfl
  have A86 := A85.istore (Ls' := #[.val (.ref m), .val (.ref a), .val (.int (0 : Int32)), .val (.int (1 : Int32)), .val (.int (0 : Int32)), .unset]) (pc' := 43) d12_41 rfl rfl
  have A87 := A86.iloadN (v := (1 : Int32)) (pc' := 44) d12_43 rfl rfl
  have A89 := A87.ifNo (pc' := 47) d12_44 (feq (ine (x := (1 : Int32)) (y := (0 : Int32)) rfl rfl (by decide : ¬ ((1 : Int) = 0)))).1 rfl
  have A90 := A89.iload (v := (0 : Int32)) (pc' := 49) d12_47 rfl rfl
  have A91 := A90.aloadN (v := (.ref a)) (pc' := 50) d12_49 rfl rfl rfl
  have A92 := A91.iloadN (v := (0 : Int32)) (pc' := 51) d12_50 rfl rfl
  have A93 := A92.aaload (i := 0) (v := (.ref s0)) (pc' := 52) d12_51 rfl f79 rfl (by decide) rfl rfl
  have f94 := ((f59.ext E52).wr w73)
  have f95 := (((((e7.other w7 (Or.inl e17)).ext E20).other w39 (Or.inl e17)).ext E52).other w73 (Or.inl e17))
  have f96 := (((((e8.other w7 (Or.inl e17)).ext E20).other w39 (Or.inl e17)).ext E52).other w73 (Or.inl e17))
  have f97 := ((f61.ext E52).other w73 e18)
  have f98 := (((((e24.wr w7 e1).ext E20).wr w39 e1).ext E52).wr w73 e1)
  obtain ⟨r100, _, ⟨rfl, q101⟩, A99⟩ := W.kI (A93.callV (a := s0) (argsL := []) (rest := [(.int (0 : Int32))]) (C' := 2) (S' := 6) (pc' := 55) d12_52 f94 (hw _ (List.mem_of_getElem? (i := 66) rfl)) (hw _ (List.mem_of_getElem? (i := 67) rfl)) (fun hZ => notFace_of_selects (args := #[]) (mvT hZ (hw _ (List.mem_of_getElem? (i := 69) rfl)))) (hw _ (List.mem_of_getElem? (i := 69) rfl)) (hw _ (List.mem_of_getElem? (i := 68) rfl)) (hw _ (List.mem_of_getElem? (i := 9) rfl)) (hw _ (List.mem_of_getElem? (i := 70) rfl)) (rm13_2 l Z a0 hw n0 [] (s0) (b0) ((upd (upd (fun _ => (.int (0 : Int32))) 0 (.int x0.toInt8.toInt32.toInt8.toInt32)) 1 (.int x1.toInt8.toInt32.toInt8.toInt32))) (_) h72 A93.size f94 f95 f96 f97 f98 e25 (by assumption)) rfl rfl pd_15 rfl rfl (by decide) (by decide) (Nat.le_of_ble_eq_true rfl) (by decide) (by decide) rfl rfl rfl)
  subst q101
  have A104 := A99.icmpNo (pc' := 58) d12_55 (tlt (ilt (x := (0 : Int32)) (y := (2 : Int32)) rfl rfl (by decide : (0 : Int) < 2))).2.1 rfl
  have A105 := A104.aloadN (v := (.ref a)) (pc' := 59) d12_58 rfl rfl rfl
  have A106 := A105.iloadN (v := (0 : Int32)) (pc' := 60) d12_59 rfl rfl
  have A107 := A106.aaload (i := 0) (v := (.ref s0)) (pc' := 61) d12_60 rfl f79 rfl (by decide) rfl rfl
  have A108 := A107.iload (v := (0 : Int32)) (pc' := 63) d12_61 rfl rfl
  obtain ⟨r110, _, ⟨rfl, q111⟩, A109⟩ := W.kI (A108.callV (a := s0) (argsL := [(.int (0 : Int32))]) (rest := []) (C' := 2) (S' := 6) (pc' := 66) d12_63 f94 (hw _ (List.mem_of_getElem? (i := 76) rfl)) (hw _ (List.mem_of_getElem? (i := 77) rfl)) (fun hZ => notFace_of_selects (args := #[]) (mvT hZ (hw _ (List.mem_of_getElem? (i := 79) rfl)))) (hw _ (List.mem_of_getElem? (i := 79) rfl)) (hw _ (List.mem_of_getElem? (i := 78) rfl)) (hw _ (List.mem_of_getElem? (i := 9) rfl)) (hw _ (List.mem_of_getElem? (i := 80) rfl)) (rm15_2_0 l Z a0 hw n0 [] (s0) (b0) ((upd (upd (fun _ => (.int (0 : Int32))) 0 (.int x0.toInt8.toInt32.toInt8.toInt32)) 1 (.int x1.toInt8.toInt32.toInt8.toInt32))) (x0) (_) (_) h72 A108.size f94 f95 f96 f97 (by first | assumption | exact congrArg Value.int (own_bb _)) (by first | assumption | exact congrArg Value.int (own_bb _)) f98 e25 (by first | assumption | exact congrArg Value.int (own_bb _)) e27 (by first | assumption | exact congrArg Value.int (own_bb _))) rfl rfl pd_16 rfl rfl (by decide) (by decide) (Nat.le_of_ble_eq_true rfl) (by decide) (by decide) rfl rfl rfl)
  have A113 := A109.istore (Ls' := #[.val (.ref m), .val (.ref a), .val (.int (0 : Int32)), .val (.int (1 : Int32)), .val (.int (0 : Int32)), .val (.int r110)]) (pc' := 68) d12_66 rfl rfl
  have A114 := A113.iload (v := r110) (pc' := 70) d12_68 rfl rfl
  have A115 := A114.bipush (z := (32 : Int32)) (pc' := 72) d12_70 rfl rfl
  have join117 : ∀ (q140 : True), W l Z n0 y12_NN prog_32_method_1_code 6 (none) R12_NN G h72 102 #[.val (.ref m), .val (.ref a), .val (.int (0 : Int32)), .val (.int (1 : Int32)), .val (.int (0 : Int32)), .val (.int r110)] [(.int (0 : Int32))] 2 6 → Gl R12_NN n0 G (QV fun h => ∃ pl : Addr, ∃ lns : Addr, (Keep h0 h [m]) ∧ (n0 ≤ pl) ∧ (h0.size ≤ pl) ∧ (n0 ≤ lns) ∧ (h0.size ≤ lns) ∧ (Fld Z h m "com/example/dialekt/dialekt/json/MemberNames" "plain" "[[B" (.ref pl)) ∧ (Fld Z h m "com/example/dialekt/dialekt/json/MemberNames" "plainLengths" "[I" (.ref lns)) ∧ (Ars Z h pl (.array .byte) 3 (upd (upd (upd (fun _ => .null) 0 (.ref nb)) 1 (.ref nb)) 2 (.ref nb))) ∧ (Ars Z h lns .int 3 (upd (upd (upd (fun _ => (.int (0 : Int32))) 0 (.int (2147483647 : Int32))) 1 (.int (2147483647 : Int32))) 2 (.int (2147483647 : Int32)))) ∧ (True)) := by
    intro    q140  A139
    have A141 := A139.istoreN (Ls' := #[.val (.ref m), .val (.ref a), .val (.int (0 : Int32)), .val (.int (0 : Int32)), .val (.int (0 : Int32)), .val (.int r110)]) (pc' := 103) d12_102 rfl rfl
    have A142 := A141.iinc (v := (0 : Int32)) (z := (1 : Int32)) (Ls' := #[.val (.ref m), .val (.ref a), .val (.int (0 : Int32)), .val (.int (0 : Int32)), .val (.int (1 : Int32)), .val (.int r110)]) (pc' := 106) d12_103 rfl (by decide) rfl rfl
    have A143 := A142.goto (pc' := 43) d12_106 (by decide) (by decide)
    have A144 := A143.iloadN (v := (0 : Int32)) (pc' := 44) d12_43 rfl rfl
    have A146 := A144.ifYes (pc' := 109) d12_44 (teq (ieq (x := (0 : Int32)) (y := (0 : Int32)) rfl rfl (by decide : (0 : Int) = 0))).1 (by decide) (by decide)
    have A147 := A146.aloadN (v := (.ref m)) (pc' := 110) d12_109 rfl rfl rfl
    have f149 := ((f40.ext E52).other w73 (Or.inr (slot_ne (Or.inr (hw _ (List.mem_of_getElem? (i := 62) rfl))) (Or.inr (hw _ (List.mem_of_getElem? (i := 65) rfl))) (by decide) (t := (.array (.array .byte))) (t' := (.array .int)) (by decide) (by decide))))
    have A148 := A147.getF (pc' := 113) (host := "") d12_110 (Or.inl (hw _ (List.mem_of_getElem? (i := 61) rfl))) Via.refl f149 rfl
    have A150 := A148.iloadN (v := (0 : Int32)) (pc' := 114) d12_113 rfl rfl
    have A151 := A150.iloadN (v := (0 : Int32)) (pc' := 115) d12_114 rfl rfl
    have A153 := A151.ifYes (pc' := 130) d12_115 (teq (ieq (x := (0 : Int32)) (y := (0 : Int32)) rfl rfl (by decide : (0 : Int) = 0))).1 (by decide) (by decide)
    have f155 := e33.ext f98.2
    have A154 := A153.getS (pc' := 133) (host := "") d12_130 (Or.inl (hw _ (List.mem_of_getElem? (i := 97) rfl))) Via.refl f155 rfl
    have f156 := ((f67.ext E52).other w73 (Ne.symm ne25))
    have f157 := (((XE23.wr w39).ext E52).wr w73)
    have f162 := e34.ext f98.2
    obtain ⟨h158, w159, X160, A161⟩ := A154.aastore (i := 0) (pc' := 134) d12_133 rfl f156 (sto_x f156 f157 (hw _ (List.mem_of_getElem? (i := 60) rfl)) rfl rfl (Ins.self f162)) rfl rfl (by decide) g19 rfl
    have A163 := A161.aloadN (v := (.ref m)) (pc' := 135) d12_134 rfl rfl rfl
    have f165 := (f74.other w159 (Or.inl ne25))
    have A164 := A163.getF (pc' := 138) (host := "") d12_135 (Or.inl (hw _ (List.mem_of_getElem? (i := 64) rfl))) Via.refl f165 rfl
    have A166 := A164.iloadN (v := (0 : Int32)) (pc' := 139) d12_138 rfl rfl
    have A167 := A166.iloadN (v := (0 : Int32)) (pc' := 140) d12_139 rfl rfl
    have A169 := A167.ifYes (pc' := 153) d12_140 (teq (ieq (x := (0 : Int32)) (y := (0 : Int32)) rfl rfl (by decide : (0 : Int) = 0))).1 (by decide) (by decide)
    have A170 := A169.ldc (z := (2147483647 : Int32)) (pc' := 155) d12_153 (hw _ (List.mem_of_getElem? (i := 100) rfl)) rfl
    have f171 := ((X53.other w73 (Ne.symm ne57)).other w159 (Ne.symm ne68))
    obtain ⟨h172, w173, X174, A175⟩ := A170.iastore (i := 0) (pc' := 156) d12_155 f171 rfl (by decide) g51 rfl
    have A176 := A175.iinc (v := (0 : Int32)) (z := (1 : Int32)) (Ls' := #[.val (.ref m), .val (.ref a), .val (.int (1 : Int32)), .val (.int (0 : Int32)), .val (.int (1 : Int32)), .val (.int r110)]) (pc' := 159) d12_156 rfl (by decide) rfl rfl
    have A177 := A176.goto (pc' := 32) d12_159 (by decide) (by decide)
    have A178 := A177.iloadN (v := (1 : Int32)) (pc' := 33) d12_32 rfl rfl
    have A179 := A178.aloadN (v := (.ref a)) (pc' := 34) d12_33 rfl rfl rfl
    have f180 := ((f79.other w159 ne26).other w173 ne58)
    have A181 := A179.alen (z := (2 : Int32)) (pc' := 35) d12_34 f180 rfl rfl
    have A183 := A181.icmpNo (pc' := 38) d12_35 (tlt (ilt (x := (1 : Int32)) (y := (2 : Int32)) rfl rfl (by decide : (1 : Int) < 2))).2.1 rfl
    have A184 := A183.iconst (z := (1 : Int32)) (pc' := 39) d12_38 rfl rfl
    have A185 := A184.istoreN (Ls' := #[.val (.ref m), .val (.ref a), .val (.int (1 : Int32)), .val (.int (1 : Int32)), .val (.int (1 : Int32)), .val (.int r110)]) (pc' := 40) d12_39 rfl rfl
    have A186 := A185.iconst (z := (0 : Int32)) (pc' := 41) d12_40 rfl rfl
    have A187 := A186.istore (Ls' := #[.val (.ref m), .val (.ref a), .val (.int (1 : Int32)), .val (.int (1 : Int32)), .val (.int (0 : Int32)), .val (.int r110)]) (pc' := 43) d12_41 rfl rfl
    have A188 := A187.iloadN (v := (1 : Int32)) (pc' := 44) d12_43 rfl rfl
    have A190 := A188.ifNo (pc' := 47) d12_44 (feq (ine (x := (1 : Int32)) (y := (0 : Int32)) rfl rfl (by decide : ¬ ((1 : Int) = 0)))).1 rfl
    have A191 := A190.iload (v := (0 : Int32)) (pc' := 49) d12_47 rfl rfl
    have A192 := A191.aloadN (v := (.ref a)) (pc' := 50) d12_49 rfl rfl rfl
    have A193 := A192.iloadN (v := (1 : Int32)) (pc' := 51) d12_50 rfl rfl
    have A194 := A193.aaload (i := 1) (v := (.ref s1)) (pc' := 52) d12_51 rfl f180 rfl (by decide) rfl rfl
    have f195 := ((((f63.ext E52).wr w73).wr w159).wr w173)
    have f196 := (((((((e12.other w7 (Or.inl e19)).ext E20).other w39 (Or.inl e19)).ext E52).other w73 (Or.inl e19)).other w159 (Or.inl ne32)).other w173 (Or.inl ne64))
    have f197 := (((((((e13.other w7 (Or.inl e19)).ext E20).other w39 (Or.inl e19)).ext E52).other w73 (Or.inl e19)).other w159 (Or.inl ne32)).other w173 (Or.inl ne64))
    have f198 := ((((f65.ext E52).other w73 e20).other w159 ne34).other w173 ne66)
    have f199 := ((f98.wr w159 g19).wr w173 g51)
    obtain ⟨r201, _, ⟨rfl, q202⟩, A200⟩ := W.kI (A194.callV (a := s1) (argsL := []) (rest := [(.int (0 : Int32))]) (C' := 2) (S' := 6) (pc' := 55) d12_52 f195 (hw _ (List.mem_of_getElem? (i := 66) rfl)) (hw _ (List.mem_of_getElem? (i := 67) rfl)) (fun hZ => notFace_of_selects (args := #[]) (mvT hZ (hw _ (List.mem_of_getElem? (i := 69) rfl)))) (hw _ (List.mem_of_getElem? (i := 69) rfl)) (hw _ (List.mem_of_getElem? (i := 68) rfl)) (hw _ (List.mem_of_getElem? (i := 9) rfl)) (hw _ (List.mem_of_getElem? (i := 70) rfl)) (rm13_1 l Z a0 hw n0 [] (s1) (b1) ((upd (fun _ => (.int (0 : Int32))) 0 (.int x2.toInt8.toInt32.toInt8.toInt32))) (_) h172 A194.size f195 f196 f197 f198 f199 e25 (by assumption)) rfl rfl pd_15 rfl rfl (by decide) (by decide) (Nat.le_of_ble_eq_true rfl) (by decide) (by decide) rfl rfl rfl)
    subst q202
    have A205 := A200.icmpNo (pc' := 58) d12_55 (tlt (ilt (x := (0 : Int32)) (y := (1 : Int32)) rfl rfl (by decide : (0 : Int) < 1))).2.1 rfl
    have A206 := A205.aloadN (v := (.ref a)) (pc' := 59) d12_58 rfl rfl rfl
    have A207 := A206.iloadN (v := (1 : Int32)) (pc' := 60) d12_59 rfl rfl
    have A208 := A207.aaload (i := 1) (v := (.ref s1)) (pc' := 61) d12_60 rfl f180 rfl (by decide) rfl rfl
    have A209 := A208.iload (v := (0 : Int32)) (pc' := 63) d12_61 rfl rfl
    obtain ⟨r211, _, ⟨rfl, q212⟩, A210⟩ := W.kI (A209.callV (a := s1) (argsL := [(.int (0 : Int32))]) (rest := []) (C' := 2) (S' := 6) (pc' := 66) d12_63 f195 (hw _ (List.mem_of_getElem? (i := 76) rfl)) (hw _ (List.mem_of_getElem? (i := 77) rfl)) (fun hZ => notFace_of_selects (args := #[]) (mvT hZ (hw _ (List.mem_of_getElem? (i := 79) rfl)))) (hw _ (List.mem_of_getElem? (i := 79) rfl)) (hw _ (List.mem_of_getElem? (i := 78) rfl)) (hw _ (List.mem_of_getElem? (i := 9) rfl)) (hw _ (List.mem_of_getElem? (i := 80) rfl)) (rm15_1_0 l Z a0 hw n0 [] (s1) (b1) ((upd (fun _ => (.int (0 : Int32))) 0 (.int x2.toInt8.toInt32.toInt8.toInt32))) (x2) (_) (_) h172 A209.size f195 f196 f197 f198 (by first | assumption | exact congrArg Value.int (own_bb _)) (by first | assumption | exact congrArg Value.int (own_bb _)) f199 e25 (by first | assumption | exact congrArg Value.int (own_bb _)) e27 (by first | assumption | exact congrArg Value.int (own_bb _))) rfl rfl pd_16 rfl rfl (by decide) (by decide) (Nat.le_of_ble_eq_true rfl) (by decide) (by decide) rfl rfl rfl)
    have A214 := A210.istore (Ls' := #[.val (.ref m), .val (.ref a), .val (.int (1 : Int32)), .val (.int (1 : Int32)), .val (.int (0 : Int32)), .val (.int r211)]) (pc' := 68) d12_66 rfl rfl
    have A215 := A214.iload (v := r211) (pc' := 70) d12_68 rfl rfl
    have A216 := A215.bipush (z := (32 : Int32)) (pc' := 72) d12_70 rfl rfl
    have join218 : ∀ (q241 : True), W l Z n0 y12_NN prog_32_method_1_code 6 (none) R12_NN G h172 102 #[.val (.ref m), .val (.ref a), .val (.int (1 : Int32)), .val (.int (1 : Int32)), .val (.int (0 : Int32)), .val (.int r211)] [(.int (0 : Int32))] 2 6 → Gl R12_NN n0 G (QV fun h => ∃ pl : Addr, ∃ lns : Addr, (Keep h0 h [m]) ∧ (n0 ≤ pl) ∧ (h0.size ≤ pl) ∧ (n0 ≤ lns) ∧ (h0.size ≤ lns) ∧ (Fld Z h m "com/example/dialekt/dialekt/json/MemberNames" "plain" "[[B" (.ref pl)) ∧ (Fld Z h m "com/example/dialekt/dialekt/json/MemberNames" "plainLengths" "[I" (.ref lns)) ∧ (Ars Z h pl (.array .byte) 3 (upd (upd (upd (fun _ => .null) 0 (.ref nb)) 1 (.ref nb)) 2 (.ref nb))) ∧ (Ars Z h lns .int 3 (upd (upd (upd (fun _ => (.int (0 : Int32))) 0 (.int (2147483647 : Int32))) 1 (.int (2147483647 : Int32))) 2 (.int (2147483647 : Int32)))) ∧ (True)) := by
      intro    q241  A240
      have A242 := A240.istoreN (Ls' := #[.val (.ref m), .val (.ref a), .val (.int (1 : Int32)), .val (.int (0 : Int32)), .val (.int (0 : Int32)), .val (.int r211)]) (pc' := 103) d12_102 rfl rfl
      have A243 := A242.iinc (v := (0 : Int32)) (z := (1 : Int32)) (Ls' := #[.val (.ref m), .val (.ref a), .val (.int (1 : Int32)), .val (.int (0 : Int32)), .val (.int (1 : Int32)), .val (.int r211)]) (pc' := 106) d12_103 rfl (by decide) rfl rfl
      have A244 := A243.goto (pc' := 43) d12_106 (by decide) (by decide)
      have A245 := A244.iloadN (v := (0 : Int32)) (pc' := 44) d12_43 rfl rfl
      have A247 := A245.ifYes (pc' := 109) d12_44 (teq (ieq (x := (0 : Int32)) (y := (0 : Int32)) rfl rfl (by decide : (0 : Int) = 0))).1 (by decide) (by decide)
      have A248 := A247.aloadN (v := (.ref m)) (pc' := 110) d12_109 rfl rfl rfl
      have f250 := ((f149.other w159 (Or.inl ne25)).other w173 (Or.inl ne57))
      have A249 := A248.getF (pc' := 113) (host := "") d12_110 (Or.inl (hw _ (List.mem_of_getElem? (i := 61) rfl))) Via.refl f250 rfl
      have A251 := A249.iloadN (v := (1 : Int32)) (pc' := 114) d12_113 rfl rfl
      have A252 := A251.iloadN (v := (0 : Int32)) (pc' := 115) d12_114 rfl rfl
      have A254 := A252.ifYes (pc' := 130) d12_115 (teq (ieq (x := (0 : Int32)) (y := (0 : Int32)) rfl rfl (by decide : (0 : Int) = 0))).1 (by decide) (by decide)
      have f256 := e33.ext f199.2
      have A255 := A254.getS (pc' := 133) (host := "") d12_130 (Or.inl (hw _ (List.mem_of_getElem? (i := 97) rfl))) Via.refl f256 rfl
      have f257 := (X160.other w173 ne68)
      have f258 := ((f157.wr w159).wr w173)
      have f263 := e34.ext f199.2
      obtain ⟨h259, w260, X261, A262⟩ := A255.aastore (i := 1) (pc' := 134) d12_133 rfl f257 (sto_x f257 f258 (hw _ (List.mem_of_getElem? (i := 60) rfl)) rfl rfl (Ins.self f263)) rfl rfl (by decide) g19 rfl
      have A264 := A262.aloadN (v := (.ref m)) (pc' := 135) d12_134 rfl rfl rfl
      have f266 := ((f165.other w173 (Or.inl ne57)).other w260 (Or.inl ne25))
      have A265 := A264.getF (pc' := 138) (host := "") d12_135 (Or.inl (hw _ (List.mem_of_getElem? (i := 64) rfl))) Via.refl f266 rfl
      have A267 := A265.iloadN (v := (1 : Int32)) (pc' := 139) d12_138 rfl rfl
      have A268 := A267.iloadN (v := (0 : Int32)) (pc' := 140) d12_139 rfl rfl
      have A270 := A268.ifYes (pc' := 153) d12_140 (teq (ieq (x := (0 : Int32)) (y := (0 : Int32)) rfl rfl (by decide : (0 : Int) = 0))).1 (by decide) (by decide)
      have A271 := A270.ldc (z := (2147483647 : Int32)) (pc' := 155) d12_153 (hw _ (List.mem_of_getElem? (i := 100) rfl)) rfl
      have f272 := (X174.other w260 (Ne.symm ne68))
      obtain ⟨h273, w274, X275, A276⟩ := A271.iastore (i := 1) (pc' := 156) d12_155 f272 rfl (by decide) g51 rfl
      have A277 := A276.iinc (v := (1 : Int32)) (z := (2 : Int32)) (Ls' := #[.val (.ref m), .val (.ref a), .val (.int (2 : Int32)), .val (.int (0 : Int32)), .val (.int (1 : Int32)), .val (.int r211)]) (pc' := 159) d12_156 rfl (by decide) rfl rfl
      have A278 := A277.goto (pc' := 32) d12_159 (by decide) (by decide)
      have A279 := A278.iloadN (v := (2 : Int32)) (pc' := 33) d12_32 rfl rfl
      have A280 := A279.aloadN (v := (.ref a)) (pc' := 34) d12_33 rfl rfl rfl
      have f281 := ((f180.other w260 ne26).other w274 ne58)
      have A282 := A280.alen (z := (2 : Int32)) (pc' := 35) d12_34 f281 rfl rfl
      have A284 := A282.icmpYes (pc' := 162) d12_35 (flt (inlt (x := (2 : Int32)) (y := (2 : Int32)) rfl rfl (by decide : ¬ ((2 : Int) < 2)))).2.1 (by decide) (by decide)
      have A285 := A284.aloadN (v := (.ref m)) (pc' := 163) d12_162 rfl rfl rfl
      have f287 := ((f250.other w260 (Or.inl ne25)).other w274 (Or.inl ne57))
      have A286 := A285.getF (pc' := 166) (host := "") d12_163 (Or.inl (hw _ (List.mem_of_getElem? (i := 61) rfl))) Via.refl f287 rfl
      have A288 := A286.aloadN (v := (.ref a)) (pc' := 167) d12_166 rfl rfl rfl
      have A289 := A288.alen (z := (2 : Int32)) (pc' := 168) d12_167 f281 rfl rfl
      have f291 := ((f199.wr w260 g19).wr w274 g51)
      have f292 := e33.ext f291.2
      have A290 := A289.getS (pc' := 171) (host := "") d12_168 (Or.inl (hw _ (List.mem_of_getElem? (i := 97) rfl))) Via.refl f292 rfl
      have f293 := (X261.other w274 ne68)
      have f294 := ((f258.wr w260).wr w274)
      have f299 := e34.ext f291.2
      obtain ⟨h295, w296, X297, A298⟩ := A290.aastore (i := 2) (pc' := 172) d12_171 rfl f293 (sto_x f293 f294 (hw _ (List.mem_of_getElem? (i := 60) rfl)) rfl rfl (Ins.self f299)) rfl rfl (by decide) g19 rfl
      have A300 := A298.aloadN (v := (.ref m)) (pc' := 173) d12_172 rfl rfl rfl
      have f302 := ((f266.other w274 (Or.inl ne57)).other w296 (Or.inl ne25))
      have A301 := A300.getF (pc' := 176) (host := "") d12_173 (Or.inl (hw _ (List.mem_of_getElem? (i := 64) rfl))) Via.refl f302 rfl
      have A303 := A301.aloadN (v := (.ref a)) (pc' := 177) d12_176 rfl rfl rfl
      have f304 := (f281.other w296 ne26)
      have A305 := A303.alen (z := (2 : Int32)) (pc' := 178) d12_177 f304 rfl rfl
      have A306 := A305.ldc (z := (2147483647 : Int32)) (pc' := 180) d12_178 (hw _ (List.mem_of_getElem? (i := 100) rfl)) rfl
      have f307 := (X275.other w296 (Ne.symm ne68))
      obtain ⟨h308, w309, X310, A311⟩ := A306.iastore (i := 2) (pc' := 181) d12_180 f307 rfl (by decide) g51 rfl
      have z312 : h0.size ≤ b17 := Nat.le_trans (Nat.le_trans (Nat.le_refl _) (Nat.le_of_eq w7.size.symm)) (Nat.le_of_eq eb18.symm)
      have z313 : h0.size ≤ b49 := Nat.le_trans (Nat.le_trans (Nat.le_trans (Nat.le_trans (Nat.le_refl _) (Nat.le_of_eq w7.size.symm)) E20.1) (Nat.le_of_eq w39.size.symm)) (Nat.le_of_eq eb50.symm)
      have K314 : Keep h0 h308 [m] := ((((((((((((Keep.refl h0 [m]).wr w7 (Or.inl (List.mem_of_getElem? (i := 0) rfl))).ext E20).wr w39 (Or.inl (List.mem_of_getElem? (i := 0) rfl))).ext E52).wr w73 (Or.inl (List.mem_of_getElem? (i := 0) rfl))).wr w159 (Or.inr z312)).wr w173 (Or.inr z313)).wr w260 (Or.inr z312)).wr w274 (Or.inr z313)).wr w296 (Or.inr z312)).wr w309 (Or.inr z313))
      have f315 := ((f287.other w296 (Or.inl ne25)).other w309 (Or.inl ne57))
      have f316 := (f302.other w309 (Or.inl ne57))
      have f317 := (X297.other w309 ne68)
      refine A311.retV d12_181 (by decide) (by decide) ⟨rfl, ⟨b17, b49, K314, g19, z312, g51, z313, f315, f316, f317, X310, ?_⟩⟩
      trivial
    by_cases c217 : r211.toInt < 32
    · have A219 := A216.icmpYes (pc' := 101) d12_72 (tlt (ilt (x := r211) (y := (32 : Int32)) rfl rfl c217)).1 (by decide) (by decide)
      have A220 := A219.iconst (z := (0 : Int32)) (pc' := 102) d12_101 rfl rfl
      exact join218    (by trivial)  A220
    · have A221 := A216.icmpNo (pc' := 75) d12_72 (flt (inlt (x := r211) (y := (32 : Int32)) rfl rfl c217)).1 rfl
      have A222 := A221.iload (v := r211) (pc' := 77) d12_75 rfl rfl
      have A223 := A222.sipush (z := (128 : Int32)) (pc' := 80) d12_77 rfl rfl
      by_cases c224 : r211.toInt < 128
      · have A225 := A223.icmpNo (pc' := 83) d12_80 (tlt (ilt (x := r211) (y := (128 : Int32)) rfl rfl c224)).2.1 rfl
        have A226 := A225.iload (v := r211) (pc' := 85) d12_83 rfl rfl
        have A227 := A226.bipush (z := (34 : Int32)) (pc' := 87) d12_85 rfl rfl
        by_cases c228 : r211.toInt = 34
        · have A229 := A227.icmpYes (pc' := 101) d12_87 (teq (ieq (x := r211) (y := (34 : Int32)) rfl rfl c228)).1 (by decide) (by decide)
          have A230 := A229.iconst (z := (0 : Int32)) (pc' := 102) d12_101 rfl rfl
          exact join218    (by trivial)  A230
        · have A231 := A227.icmpNo (pc' := 90) d12_87 (feq (ine (x := r211) (y := (34 : Int32)) rfl rfl c228)).1 rfl
          have A232 := A231.iload (v := r211) (pc' := 92) d12_90 rfl rfl
          have A233 := A232.bipush (z := (92 : Int32)) (pc' := 94) d12_92 rfl rfl
          by_cases c234 : r211.toInt = 92
          · have A235 := A233.icmpYes (pc' := 101) d12_94 (teq (ieq (x := r211) (y := (92 : Int32)) rfl rfl c234)).1 (by decide) (by decide)
            have A236 := A235.iconst (z := (0 : Int32)) (pc' := 102) d12_101 rfl rfl
            exact join218    (by trivial)  A236
          · exfalso
            omega
      · have A238 := A223.icmpYes (pc' := 101) d12_80 (flt (inlt (x := r211) (y := (128 : Int32)) rfl rfl c224)).2.1 (by decide) (by decide)
        have A239 := A238.iconst (z := (0 : Int32)) (pc' := 102) d12_101 rfl rfl
        exact join218    (by trivial)  A239
  by_cases c116 : r110.toInt < 32
  · have A118 := A115.icmpYes (pc' := 101) d12_72 (tlt (ilt (x := r110) (y := (32 : Int32)) rfl rfl c116)).1 (by decide) (by decide)
    have A119 := A118.iconst (z := (0 : Int32)) (pc' := 102) d12_101 rfl rfl
    exact join117    (by trivial)  A119
  · have A120 := A115.icmpNo (pc' := 75) d12_72 (flt (inlt (x := r110) (y := (32 : Int32)) rfl rfl c116)).1 rfl
    have A121 := A120.iload (v := r110) (pc' := 77) d12_75 rfl rfl
    have A122 := A121.sipush (z := (128 : Int32)) (pc' := 80) d12_77 rfl rfl
    by_cases c123 : r110.toInt < 128
    · have A124 := A122.icmpNo (pc' := 83) d12_80 (tlt (ilt (x := r110) (y := (128 : Int32)) rfl rfl c123)).2.1 rfl
      have A125 := A124.iload (v := r110) (pc' := 85) d12_83 rfl rfl
      have A126 := A125.bipush (z := (34 : Int32)) (pc' := 87) d12_85 rfl rfl
      by_cases c127 : r110.toInt = 34
      · have A128 := A126.icmpYes (pc' := 101) d12_87 (teq (ieq (x := r110) (y := (34 : Int32)) rfl rfl c127)).1 (by decide) (by decide)
        have A129 := A128.iconst (z := (0 : Int32)) (pc' := 102) d12_101 rfl rfl
        exact join117    (by trivial)  A129
      · have A130 := A126.icmpNo (pc' := 90) d12_87 (feq (ine (x := r110) (y := (34 : Int32)) rfl rfl c127)).1 rfl
        have A131 := A130.iload (v := r110) (pc' := 92) d12_90 rfl rfl
        have A132 := A131.bipush (z := (92 : Int32)) (pc' := 94) d12_92 rfl rfl
        by_cases c133 : r110.toInt = 92
        · have A134 := A132.icmpYes (pc' := 101) d12_94 (teq (ieq (x := r110) (y := (92 : Int32)) rfl rfl c133)).1 (by decide) (by decide)
          have A135 := A134.iconst (z := (0 : Int32)) (pc' := 102) d12_101 rfl rfl
          exact join117    (by trivial)  A135
        · exfalso
          omega
    · have A137 := A122.icmpYes (pc' := 101) d12_80 (flt (inlt (x := r110) (y := (128 : Int32)) rfl rfl c123)).2.1 (by decide) (by decide)
      have A138 := A137.iconst (z := (0 : Int32)) (pc' := 102) d12_101 rfl rfl
      exact join117    (by trivial)  A138
theorem d12_97 : decode prog_32_method_1_code 97 = .ok (.iconst 1, 1) := by decide +kernel
theorem d12_98 : decode prog_32_method_1_code 98 = .ok (.goto 4, 3) := by decide +kernel
theorem d12_118 : decode prog_32_method_1_code 118 = .ok (.aload_n 1, 1) := by decide +kernel
theorem d12_119 : decode prog_32_method_1_code 119 = .ok (.iload_n 2, 1) := by decide +kernel
theorem d12_120 : decode prog_32_method_1_code 120 = .ok (.aaload, 1) := by decide +kernel
theorem d12_121 : decode prog_32_method_1_code 121 = .ok (.getstatic 33, 3) := by decide +kernel
theorem d12_124 : decode prog_32_method_1_code 124 = .ok (.invokevirtual 39, 3) := by decide +kernel
theorem d12_127 : decode prog_32_method_1_code 127 = .ok (.goto 6, 3) := by decide +kernel
theorem d12_143 : decode prog_32_method_1_code 143 = .ok (.aload_n 0, 1) := by decide +kernel
theorem d12_144 : decode prog_32_method_1_code 144 = .ok (.getfield 15, 3) := by decide +kernel
theorem d12_147 : decode prog_32_method_1_code 147 = .ok (.iload_n 2, 1) := by decide +kernel
theorem d12_148 : decode prog_32_method_1_code 148 = .ok (.aaload, 1) := by decide +kernel
theorem d12_149 : decode prog_32_method_1_code 149 = .ok (.arraylength, 1) := by decide +kernel
theorem d12_150 : decode prog_32_method_1_code 150 = .ok (.goto 5, 3) := by decide +kernel
abbrev y12_NP : MethodName := (⟨"com/example/dialekt/dialekt/json/MemberNames", "<init>", "([Ljava/lang/String;)V"⟩ : MethodName)
abbrev R12_NP : Room := { frames := 5, cells := 3, slots := 7, locals := 77 }
set_option maxRecDepth 65536 in
set_option maxHeartbeats 4000000 in
theorem ef12_NP (m : Addr) (a : Addr)  (mid : MethodId) : entryFrame mid #[(.ref m), (.ref a)] 6 = mkF mid 0 #[.val (.ref m), .val (.ref a), .unset, .unset, .unset, .unset] [] := by first | (simp [entryFrame, mkF, argsToLocals, Value.category]; done) | rfl
set_option maxRecDepth 65536 in
set_option maxHeartbeats 40000000 in
theorem rm12_NP (l : Launch) (Z : State) (a0 : Array Value) (hw : ∀ d ∈ tables_1, d.before a0 Z = true) (n0 : Nat) (ws : List Jvm.Cond) (m : Addr) (a : Addr) (s0 : Addr) (s1 : Addr) (b0 : Addr) (b1 : Addr) (iso : Addr) (u8 : Addr) (nb : Addr) (x0 : Int32) (x1 : Int32) (x2 : Int32) (cs : Int32) (fm : Value) (h0 : Heap) (hn0 : n0 ≤ h0.size) (e0 : Exa Z h0 m "com/example/dialekt/dialekt/json/MemberNames") (e1 : n0 ≤ m) (e2 : Fld Z h0 m "com/example/dialekt/dialekt/json/MemberNames" "names" "[Ljava/lang/String;" .null) (e3 : Fld Z h0 m "com/example/dialekt/dialekt/json/MemberNames" "plain" "[[B" .null) (e4 : Fld Z h0 m "com/example/dialekt/dialekt/json/MemberNames" "plainLengths" "[I" .null) (e5 : Ars Z h0 a (.object "java/lang/String") 2 (upd (upd (fun _ => .null) 0 (.ref s0)) 1 (.ref s1))) (e6 : Exa Z h0 s0 "java/lang/String") (e7 : Fld Z h0 s0 "java/lang/String" "value" "[B" (.ref b0)) (e8 : Fld Z h0 s0 "java/lang/String" "coder" "B" (.int (0 : Int32))) (e9 : Ars Z h0 b0 .byte 2 (upd (upd (fun _ => (.int (0 : Int32))) 0 (.int x0.toInt8.toInt32.toInt8.toInt32)) 1 (.int x1.toInt8.toInt32.toInt8.toInt32))) (e10 : Exa Z h0 b0 "[B") (e11 : Exa Z h0 s1 "java/lang/String") (e12 : Fld Z h0 s1 "java/lang/String" "value" "[B" (.ref b1)) (e13 : Fld Z h0 s1 "java/lang/String" "coder" "B" (.int (0 : Int32))) (e14 : Ars Z h0 b1 .byte 1 (upd (fun _ => (.int (0 : Int32))) 0 (.int x2.toInt8.toInt32.toInt8.toInt32))) (e15 : Exa Z h0 b1 "[B") (e16 : a ≠ m) (e17 : s0 ≠ m) (e18 : b0 ≠ m) (e19 : s1 ≠ m) (e20 : b1 ≠ m) (e21 : 0 ≤ x0.toInt ∧ x0.toInt ≤ 255) (e22 : 0 ≤ x1.toInt ∧ x1.toInt ≤ 255) (e23 : 0 ≤ x2.toInt ∧ x2.toInt ≤ 255) (e24 : Old Z n0 h0) (e25 : Sta Z Z.heap "java/lang/String" "COMPACT_STRINGS" "Z" (.int cs)) (e26 : cs.toInt ≠ 0) (e27 : Sta Z Z.heap "jdk/internal/util/Preconditions" "SIOOBE_FORMATTER" "Ljava/util/function/BiFunction;" fm) (e28 : fm.isRef = true) (e29 : Sta Z Z.heap "sun/nio/cs/UTF_8" "INSTANCE" "Lsun/nio/cs/UTF_8;" (.ref u8)) (e30 : Sta Z Z.heap "sun/nio/cs/ISO_8859_1" "INSTANCE" "Lsun/nio/cs/ISO_8859_1;" (.ref iso)) (e31 : iso ≠ u8) (e32 : Sta Z Z.heap "java/nio/charset/StandardCharsets" "ISO_8859_1" "Ljava/nio/charset/Charset;" (.ref iso)) (e33 : Sta Z Z.heap "com/example/dialekt/dialekt/json/MemberNames" "NO_BYTES" "[B" (.ref nb)) (e34 : Exa Z Z.heap nb "[B") (e35 : Ars Z Z.heap nb .byte 0 (fun _ => (.int (0 : Int32)))) (e36 : ¬ (32 ≤ x0.toInt ∧ x0.toInt < 128 ∧ ¬ (x0.toInt = 34) ∧ ¬ (x0.toInt = 92))) (e37 : 32 ≤ x2.toInt ∧ x2.toInt < 128 ∧ ¬ (x2.toInt = 34) ∧ ¬ (x2.toInt = 92)) :
    Ctr l Z n0 y12_NP prog_32_method_1_code 6 (none) ws R12_NP #[(.ref m), (.ref a)] h0 (QV fun h => ∃ pl : Addr, ∃ lns : Addr, ∃ q1 : Addr, (Keep h0 h [m]) ∧ (n0 ≤ pl) ∧ (h0.size ≤ pl) ∧ (n0 ≤ lns) ∧ (h0.size ≤ lns) ∧ (n0 ≤ q1) ∧ (h0.size ≤ q1) ∧ (Fld Z h m "com/example/dialekt/dialekt/json/MemberNames" "plain" "[[B" (.ref pl)) ∧ (Fld Z h m "com/example/dialekt/dialekt/json/MemberNames" "plainLengths" "[I" (.ref lns)) ∧ (Ars Z h pl (.array .byte) 3 (upd (upd (upd (fun _ => .null) 0 (.ref nb)) 1 (.ref q1)) 2 (.ref nb))) ∧ (Ars Z h lns .int 3 (upd (upd (upd (fun _ => (.int (0 : Int32))) 0 (.int (2147483647 : Int32))) 1 (.int (1 : Int32))) 2 (.int (2147483647 : Int32)))) ∧ (Ars Z h q1 .byte 1 (upd (fun _ => (.int (0 : Int32))) 0 (.int x2.toInt8.toInt32.toInt8.toInt32))) ∧ (True)) := by
  refine ctr_of pn12 hn0 (ef12_NP m a) fun G A0 => ?_
  have A1 := A0.aloadN (v := (.ref m)) (pc' := 1) d12_0 rfl rfl rfl
  have A2 := A1.initO (pc' := 4) d12_1 (hw _ (List.mem_of_getElem? (i := 56) rfl)) (hw _ (List.mem_of_getElem? (i := 19) rfl)) (hw _ (List.mem_of_getElem? (i := 20) rfl)) rfl (by decide) (Nat.le_of_ble_eq_true rfl) rfl
  have A3 := A2.aloadN (v := (.ref m)) (pc' := 5) d12_4 rfl rfl rfl
  have A4 := A3.aloadN (v := (.ref a)) (pc' := 6) d12_5 rfl rfl rfl
  obtain ⟨h6, w7, A5⟩ := A4.putF (pc' := 9) (ty := (.array (.object "java/lang/String"))) (host := "") d12_6 (Or.inl (hw _ (List.mem_of_getElem? (i := 57) rfl))) Via.refl e2 e0 (Or.inr ⟨(hw _ (List.mem_of_getElem? (i := 58) rfl)), rfl, rfl⟩) (hw _ (List.mem_of_getElem? (i := 51) rfl)) (by decide) rfl rfl e1 rfl
  have f8 := e2.same w7
  have A9 := A5.aloadN (v := (.ref m)) (pc' := 10) d12_9 rfl rfl rfl
  have A10 := A9.aloadN (v := (.ref a)) (pc' := 11) d12_10 rfl rfl rfl
  have f11 := (e5.other w7 e16)
  have A12 := A10.alen (z := (2 : Int32)) (pc' := 12) d12_11 f11 rfl rfl
  have A13 := A12.iconst (z := (1 : Int32)) (pc' := 13) d12_12 rfl rfl
  have A14 := A13.iadd (pc' := 14) d12_13 rfl
  have A15 := A14.topI (z := (3 : Int32)) (by decide)
  obtain ⟨h16, b17, eb18, g19, E20, X21, XE23, A22⟩ := A15.newRX (z := (3 : Int32)) (N := 3) (cap := 3) (C' := 1) (S' := 3) (pc' := 17) (ad := "[[B") d12_14 rfl (hw _ (List.mem_of_getElem? (i := 59) rfl)) (hw _ (List.mem_of_getElem? (i := 60) rfl)) rfl (by decide) (by decide) (by decide) (by decide) rfl rfl rfl (by decide)
  have f24 := (e0.wr w7)
  have ne25 : m ≠ b17 := Nat.ne_of_lt (Nat.lt_of_lt_of_le f24.lt (Nat.le_of_eq eb18.symm))
  have ne26 : a ≠ b17 := Nat.ne_of_lt (Nat.lt_of_lt_of_le f11.lt (Nat.le_of_eq eb18.symm))
  have f27 := (e6.wr w7)
  have ne28 : s0 ≠ b17 := Nat.ne_of_lt (Nat.lt_of_lt_of_le f27.lt (Nat.le_of_eq eb18.symm))
  have f29 := (e9.other w7 e18)
  have ne30 : b0 ≠ b17 := Nat.ne_of_lt (Nat.lt_of_lt_of_le f29.lt (Nat.le_of_eq eb18.symm))
  have f31 := (e11.wr w7)
  have ne32 : s1 ≠ b17 := Nat.ne_of_lt (Nat.lt_of_lt_of_le f31.lt (Nat.le_of_eq eb18.symm))
  have f33 := (e14.other w7 e20)
  have ne34 : b1 ≠ b17 := Nat.ne_of_lt (Nat.lt_of_lt_of_le f33.lt (Nat.le_of_eq eb18.symm))
  have f35 := ((e3.other w7 (Or.inr (slot_ne (Or.inr (hw _ (List.mem_of_getElem? (i := 62) rfl))) (Or.inr (hw _ (List.mem_of_getElem? (i := 58) rfl))) (by decide) (t := (.array (.array .byte))) (t' := (.array (.object "java/lang/String"))) (by decide) (by decide)))).ext E20)
  have f36 := (f24.ext E20)
  obtain ⟨h38, w39, A37⟩ := A22.putF (pc' := 20) (ty := (.array (.array .byte))) (host := "") d12_17 (Or.inl (hw _ (List.mem_of_getElem? (i := 61) rfl))) Via.refl f35 f36 (Or.inr ⟨(hw _ (List.mem_of_getElem? (i := 62) rfl)), rfl, rfl⟩) (hw _ (List.mem_of_getElem? (i := 51) rfl)) (by decide) rfl rfl e1 rfl
  have f40 := f35.same w39
  have A41 := A37.aloadN (v := (.ref m)) (pc' := 21) d12_20 rfl rfl rfl
  have A42 := A41.aloadN (v := (.ref a)) (pc' := 22) d12_21 rfl rfl rfl
  have f43 := ((f11.ext E20).other w39 e16)
  have A44 := A42.alen (z := (2 : Int32)) (pc' := 23) d12_22 f43 rfl rfl
  have A45 := A44.iconst (z := (1 : Int32)) (pc' := 24) d12_23 rfl rfl
  have A46 := A45.iadd (pc' := 25) d12_24 rfl
  have A47 := A46.topI (z := (3 : Int32)) (by decide)
  obtain ⟨h48, b49, eb50, g51, E52, X53, XE55, A54⟩ := A47.newP (z := (3 : Int32)) (N := 3) (cap := 3) (C' := 2) (S' := 6) (pc' := 27) d12_25 (hw _ (List.mem_of_getElem? (i := 63) rfl)) rfl (by decide) (by decide) (by decide) (by decide) rfl rfl rfl rfl
  have f56 := (f36.wr w39)
  have ne57 : m ≠ b49 := Nat.ne_of_lt (Nat.lt_of_lt_of_le f56.lt (Nat.le_of_eq eb50.symm))
  have ne58 : a ≠ b49 := Nat.ne_of_lt (Nat.lt_of_lt_of_le f43.lt (Nat.le_of_eq eb50.symm))
  have f59 := ((f27.ext E20).wr w39)
  have ne60 : s0 ≠ b49 := Nat.ne_of_lt (Nat.lt_of_lt_of_le f59.lt (Nat.le_of_eq eb50.symm))
  have f61 := ((f29.ext E20).other w39 e18)
  have ne62 : b0 ≠ b49 := Nat.ne_of_lt (Nat.lt_of_lt_of_le f61.lt (Nat.le_of_eq eb50.symm))
  have f63 := ((f31.ext E20).wr w39)
  have ne64 : s1 ≠ b49 := Nat.ne_of_lt (Nat.lt_of_lt_of_le f63.lt (Nat.le_of_eq eb50.symm))
  have f65 := ((f33.ext E20).other w39 e20)
  have ne66 : b1 ≠ b49 := Nat.ne_of_lt (Nat.lt_of_lt_of_le f65.lt (Nat.le_of_eq eb50.symm))
  have f67 := (X21.other w39 (Ne.symm ne25))
  have ne68 : b17 ≠ b49 := Nat.ne_of_lt (Nat.lt_of_lt_of_le f67.lt (Nat.le_of_eq eb50.symm))
  change Exa Z h48 b49 "[I" at XE55
  change Ars Z h48 b49 .int 3 (fun _ => (.int (0 : Int32))) at X53
  have f69 := ((((e4.other w7 (Or.inr (slot_ne (Or.inr (hw _ (List.mem_of_getElem? (i := 65) rfl))) (Or.inr (hw _ (List.mem_of_getElem? (i := 58) rfl))) (by decide) (t := (.array .int)) (t' := (.array (.object "java/lang/String"))) (by decide) (by decide)))).ext E20).other w39 (Or.inr (slot_ne (Or.inr (hw _ (List.mem_of_getElem? (i := 65) rfl))) (Or.inr (hw _ (List.mem_of_getElem? (i := 62) rfl))) (by decide) (t := (.array .int)) (t' := (.array (.array .byte))) (by decide) (by decide)))).ext E52)
  have f70 := (f56.ext E52)
  obtain ⟨h72, w73, A71⟩ := A54.putF (pc' := 30) (ty := (.array .int)) (host := "") d12_27 (Or.inl (hw _ (List.mem_of_getElem? (i := 64) rfl))) Via.refl f69 f70 (Or.inr ⟨(hw _ (List.mem_of_getElem? (i := 65) rfl)), rfl, rfl⟩) (hw _ (List.mem_of_getElem? (i := 51) rfl)) (by decide) rfl rfl e1 rfl
  have f74 := f69.same w73
  have A75 := A71.iconst (z := (0 : Int32)) (pc' := 31) d12_30 rfl rfl
  have A76 := A75.istoreN (Ls' := #[.val (.ref m), .val (.ref a), .val (.int (0 : Int32)), .unset, .unset, .unset]) (pc' := 32) d12_31 rfl rfl
  have A77 := A76.iloadN (v := (0 : Int32)) (pc' := 33) d12_32 rfl rfl
  have A78 := A77.aloadN (v := (.ref a)) (pc' := 34) d12_33 rfl rfl rfl
  have f79 := ((f43.ext E52).other w73 e16)
  have A80 := A78.alen (z := (2 : Int32)) (pc' := 35) d12_34 f79 rfl rfl
  have A82 := A80.icmpNo (pc' := 38) d12_35 (tlt (ilt (x := (0 : Int32)) (y := (2 : Int32)) rfl rfl (by decide : (0 : Int) < 2))).2.1 rfl
  have A83 := A82.iconst (z := (1 : Int32)) (pc' := 39) d12_38 rfl rfl
  have A84 := A83.istoreN (Ls' := #[.val (.ref m), .val (.ref a), .val (.int (0 : Int32)), .val (.int (1 : Int32)), .unset, .unset]) (pc' := 40) d12_39 rfl rfl
  have A85 := A84.iconst (z := (0 : Int32)) (pc' := 41) d12_40 rfl rfl
  have A86 := A85.istore (Ls' := #[.val (.ref m), .val (.ref a), .val (.int (0 : Int32)), .val (.int (1 : Int32)), .val (.int (0 : Int32)), .unset]) (pc' := 43) d12_41 rfl rfl
  have A87 := A86.iloadN (v := (1 : Int32)) (pc' := 44) d12_43 rfl rfl
  have A89 := A87.ifNo (pc' := 47) d12_44 (feq (ine (x := (1 : Int32)) (y := (0 : Int32)) rfl rfl (by decide : ¬ ((1 : Int) = 0)))).1 rfl
  have A90 := A89.iload (v := (0 : Int32)) (pc' := 49) d12_47 rfl rfl
  have A91 := A90.aloadN (v := (.ref a)) (pc' := 50) d12_49 rfl rfl rfl
  have A92 := A91.iloadN (v := (0 : Int32)) (pc' := 51) d12_50 rfl rfl
  have A93 := A92.aaload (i := 0) (v := (.ref s0)) (pc' := 52) d12_51 rfl f79 rfl (by decide) rfl rfl
  have f94 := ((f59.ext E52).wr w73)
  have f95 := (((((e7.other w7 (Or.inl e17)).ext E20).other w39 (Or.inl e17)).ext E52).other w73 (Or.inl e17))
  have f96 := (((((e8.other w7 (Or.inl e17)).ext E20).other w39 (Or.inl e17)).ext E52).other w73 (Or.inl e17))
  have f97 := ((f61.ext E52).other w73 e18)
  have f98 := (((((e24.wr w7 e1).ext E20).wr w39 e1).ext E52).wr w73 e1)
  obtain ⟨r100, _, ⟨rfl, q101⟩, A99⟩ := W.kI (A93.callV (a := s0) (argsL := []) (rest := [(.int (0 : Int32))]) (C' := 2) (S' := 6) (pc' := 55) d12_52 f94 (hw _ (List.mem_of_getElem? (i := 66) rfl)) (hw _ (List.mem_of_getElem? (i := 67) rfl)) (fun hZ => notFace_of_selects (args := #[]) (mvT hZ (hw _ (List.mem_of_getElem? (i := 69) rfl)))) (hw _ (List.mem_of_getElem? (i := 69) rfl)) (hw _ (List.mem_of_getElem? (i := 68) rfl)) (hw _ (List.mem_of_getElem? (i := 9) rfl)) (hw _ (List.mem_of_getElem? (i := 70) rfl)) (rm13_2 l Z a0 hw n0 [] (s0) (b0) ((upd (upd (fun _ => (.int (0 : Int32))) 0 (.int x0.toInt8.toInt32.toInt8.toInt32)) 1 (.int x1.toInt8.toInt32.toInt8.toInt32))) (_) h72 A93.size f94 f95 f96 f97 f98 e25 (by assumption)) rfl rfl pd_15 rfl rfl (by decide) (by decide) (Nat.le_of_ble_eq_true rfl) (by decide) (by decide) rfl rfl rfl)
  subst q101
  have A104 := A99.icmpNo (pc' := 58) d12_55 (tlt (ilt (x := (0 : Int32)) (y := (2 : Int32)) rfl rfl (by decide : (0 : Int) < 2))).2.1 rfl
  have A105 := A104.aloadN (v := (.ref a)) (pc' := 59) d12_58 rfl rfl rfl
  have A106 := A105.iloadN (v := (0 : Int32)) (pc' := 60) d12_59 rfl rfl
  have A107 := A106.aaload (i := 0) (v := (.ref s0)) (pc' := 61) d12_60 rfl f79 rfl (by decide) rfl rfl
  have A108 := A107.iload (v := (0 : Int32)) (pc' := 63) d12_61 rfl rfl
  obtain ⟨r110, _, ⟨rfl, q111⟩, A109⟩ := W.kI (A108.callV (a := s0) (argsL := [(.int (0 : Int32))]) (rest := []) (C' := 2) (S' := 6) (pc' := 66) d12_63 f94 (hw _ (List.mem_of_getElem? (i := 76) rfl)) (hw _ (List.mem_of_getElem? (i := 77) rfl)) (fun hZ => notFace_of_selects (args := #[]) (mvT hZ (hw _ (List.mem_of_getElem? (i := 79) rfl)))) (hw _ (List.mem_of_getElem? (i := 79) rfl)) (hw _ (List.mem_of_getElem? (i := 78) rfl)) (hw _ (List.mem_of_getElem? (i := 9) rfl)) (hw _ (List.mem_of_getElem? (i := 80) rfl)) (rm15_2_0 l Z a0 hw n0 [] (s0) (b0) ((upd (upd (fun _ => (.int (0 : Int32))) 0 (.int x0.toInt8.toInt32.toInt8.toInt32)) 1 (.int x1.toInt8.toInt32.toInt8.toInt32))) (x0) (_) (_) h72 A108.size f94 f95 f96 f97 (by first | assumption | exact congrArg Value.int (own_bb _)) (by first | assumption | exact congrArg Value.int (own_bb _)) f98 e25 (by first | assumption | exact congrArg Value.int (own_bb _)) e27 (by first | assumption | exact congrArg Value.int (own_bb _))) rfl rfl pd_16 rfl rfl (by decide) (by decide) (Nat.le_of_ble_eq_true rfl) (by decide) (by decide) rfl rfl rfl)
  have A113 := A109.istore (Ls' := #[.val (.ref m), .val (.ref a), .val (.int (0 : Int32)), .val (.int (1 : Int32)), .val (.int (0 : Int32)), .val (.int r110)]) (pc' := 68) d12_66 rfl rfl
  have A114 := A113.iload (v := r110) (pc' := 70) d12_68 rfl rfl
  have A115 := A114.bipush (z := (32 : Int32)) (pc' := 72) d12_70 rfl rfl
  have join117 : ∀ (q140 : True), W l Z n0 y12_NP prog_32_method_1_code 6 (none) R12_NP G h72 102 #[.val (.ref m), .val (.ref a), .val (.int (0 : Int32)), .val (.int (1 : Int32)), .val (.int (0 : Int32)), .val (.int r110)] [(.int (0 : Int32))] 2 6 → Gl R12_NP n0 G (QV fun h => ∃ pl : Addr, ∃ lns : Addr, ∃ q1 : Addr, (Keep h0 h [m]) ∧ (n0 ≤ pl) ∧ (h0.size ≤ pl) ∧ (n0 ≤ lns) ∧ (h0.size ≤ lns) ∧ (n0 ≤ q1) ∧ (h0.size ≤ q1) ∧ (Fld Z h m "com/example/dialekt/dialekt/json/MemberNames" "plain" "[[B" (.ref pl)) ∧ (Fld Z h m "com/example/dialekt/dialekt/json/MemberNames" "plainLengths" "[I" (.ref lns)) ∧ (Ars Z h pl (.array .byte) 3 (upd (upd (upd (fun _ => .null) 0 (.ref nb)) 1 (.ref q1)) 2 (.ref nb))) ∧ (Ars Z h lns .int 3 (upd (upd (upd (fun _ => (.int (0 : Int32))) 0 (.int (2147483647 : Int32))) 1 (.int (1 : Int32))) 2 (.int (2147483647 : Int32)))) ∧ (Ars Z h q1 .byte 1 (upd (fun _ => (.int (0 : Int32))) 0 (.int x2.toInt8.toInt32.toInt8.toInt32))) ∧ (True)) := by
    intro    q140  A139
    have A141 := A139.istoreN (Ls' := #[.val (.ref m), .val (.ref a), .val (.int (0 : Int32)), .val (.int (0 : Int32)), .val (.int (0 : Int32)), .val (.int r110)]) (pc' := 103) d12_102 rfl rfl
    have A142 := A141.iinc (v := (0 : Int32)) (z := (1 : Int32)) (Ls' := #[.val (.ref m), .val (.ref a), .val (.int (0 : Int32)), .val (.int (0 : Int32)), .val (.int (1 : Int32)), .val (.int r110)]) (pc' := 106) d12_103 rfl (by decide) rfl rfl
    have A143 := A142.goto (pc' := 43) d12_106 (by decide) (by decide)
    have A144 := A143.iloadN (v := (0 : Int32)) (pc' := 44) d12_43 rfl rfl
    have A146 := A144.ifYes (pc' := 109) d12_44 (teq (ieq (x := (0 : Int32)) (y := (0 : Int32)) rfl rfl (by decide : (0 : Int) = 0))).1 (by decide) (by decide)
    have A147 := A146.aloadN (v := (.ref m)) (pc' := 110) d12_109 rfl rfl rfl
    have f149 := ((f40.ext E52).other w73 (Or.inr (slot_ne (Or.inr (hw _ (List.mem_of_getElem? (i := 62) rfl))) (Or.inr (hw _ (List.mem_of_getElem? (i := 65) rfl))) (by decide) (t := (.array (.array .byte))) (t' := (.array .int)) (by decide) (by decide))))
    have A148 := A147.getF (pc' := 113) (host := "") d12_110 (Or.inl (hw _ (List.mem_of_getElem? (i := 61) rfl))) Via.refl f149 rfl
    have A150 := A148.iloadN (v := (0 : Int32)) (pc' := 114) d12_113 rfl rfl
    have A151 := A150.iloadN (v := (0 : Int32)) (pc' := 115) d12_114 rfl rfl
    have A153 := A151.ifYes (pc' := 130) d12_115 (teq (ieq (x := (0 : Int32)) (y := (0 : Int32)) rfl rfl (by decide : (0 : Int) = 0))).1 (by decide) (by decide)
    have f155 := e33.ext f98.2
    have A154 := A153.getS (pc' := 133) (host := "") d12_130 (Or.inl (hw _ (List.mem_of_getElem? (i := 97) rfl))) Via.refl f155 rfl
    have f156 := ((f67.ext E52).other w73 (Ne.symm ne25))
    have f157 := (((XE23.wr w39).ext E52).wr w73)
    have f162 := e34.ext f98.2
    obtain ⟨h158, w159, X160, A161⟩ := A154.aastore (i := 0) (pc' := 134) d12_133 rfl f156 (sto_x f156 f157 (hw _ (List.mem_of_getElem? (i := 60) rfl)) rfl rfl (Ins.self f162)) rfl rfl (by decide) g19 rfl
    have A163 := A161.aloadN (v := (.ref m)) (pc' := 135) d12_134 rfl rfl rfl
    have f165 := (f74.other w159 (Or.inl ne25))
    have A164 := A163.getF (pc' := 138) (host := "") d12_135 (Or.inl (hw _ (List.mem_of_getElem? (i := 64) rfl))) Via.refl f165 rfl
    have A166 := A164.iloadN (v := (0 : Int32)) (pc' := 139) d12_138 rfl rfl
    have A167 := A166.iloadN (v := (0 : Int32)) (pc' := 140) d12_139 rfl rfl
    have A169 := A167.ifYes (pc' := 153) d12_140 (teq (ieq (x := (0 : Int32)) (y := (0 : Int32)) rfl rfl (by decide : (0 : Int) = 0))).1 (by decide) (by decide)
    have A170 := A169.ldc (z := (2147483647 : Int32)) (pc' := 155) d12_153 (hw _ (List.mem_of_getElem? (i := 100) rfl)) rfl
    have f171 := ((X53.other w73 (Ne.symm ne57)).other w159 (Ne.symm ne68))
    obtain ⟨h172, w173, X174, A175⟩ := A170.iastore (i := 0) (pc' := 156) d12_155 f171 rfl (by decide) g51 rfl
    have A176 := A175.iinc (v := (0 : Int32)) (z := (1 : Int32)) (Ls' := #[.val (.ref m), .val (.ref a), .val (.int (1 : Int32)), .val (.int (0 : Int32)), .val (.int (1 : Int32)), .val (.int r110)]) (pc' := 159) d12_156 rfl (by decide) rfl rfl
    have A177 := A176.goto (pc' := 32) d12_159 (by decide) (by decide)
    have A178 := A177.iloadN (v := (1 : Int32)) (pc' := 33) d12_32 rfl rfl
    have A179 := A178.aloadN (v := (.ref a)) (pc' := 34) d12_33 rfl rfl rfl
    have f180 := ((f79.other w159 ne26).other w173 ne58)
    have A181 := A179.alen (z := (2 : Int32)) (pc' := 35) d12_34 f180 rfl rfl
    have A183 := A181.icmpNo (pc' := 38) d12_35 (tlt (ilt (x := (1 : Int32)) (y := (2 : Int32)) rfl rfl (by decide : (1 : Int) < 2))).2.1 rfl
    have A184 := A183.iconst (z := (1 : Int32)) (pc' := 39) d12_38 rfl rfl
    have A185 := A184.istoreN (Ls' := #[.val (.ref m), .val (.ref a), .val (.int (1 : Int32)), .val (.int (1 : Int32)), .val (.int (1 : Int32)), .val (.int r110)]) (pc' := 40) d12_39 rfl rfl
    have A186 := A185.iconst (z := (0 : Int32)) (pc' := 41) d12_40 rfl rfl
    have A187 := A186.istore (Ls' := #[.val (.ref m), .val (.ref a), .val (.int (1 : Int32)), .val (.int (1 : Int32)), .val (.int (0 : Int32)), .val (.int r110)]) (pc' := 43) d12_41 rfl rfl
    have A188 := A187.iloadN (v := (1 : Int32)) (pc' := 44) d12_43 rfl rfl
    have A190 := A188.ifNo (pc' := 47) d12_44 (feq (ine (x := (1 : Int32)) (y := (0 : Int32)) rfl rfl (by decide : ¬ ((1 : Int) = 0)))).1 rfl
    have A191 := A190.iload (v := (0 : Int32)) (pc' := 49) d12_47 rfl rfl
    have A192 := A191.aloadN (v := (.ref a)) (pc' := 50) d12_49 rfl rfl rfl
    have A193 := A192.iloadN (v := (1 : Int32)) (pc' := 51) d12_50 rfl rfl
    have A194 := A193.aaload (i := 1) (v := (.ref s1)) (pc' := 52) d12_51 rfl f180 rfl (by decide) rfl rfl
    have f195 := ((((f63.ext E52).wr w73).wr w159).wr w173)
    have f196 := (((((((e12.other w7 (Or.inl e19)).ext E20).other w39 (Or.inl e19)).ext E52).other w73 (Or.inl e19)).other w159 (Or.inl ne32)).other w173 (Or.inl ne64))
    have f197 := (((((((e13.other w7 (Or.inl e19)).ext E20).other w39 (Or.inl e19)).ext E52).other w73 (Or.inl e19)).other w159 (Or.inl ne32)).other w173 (Or.inl ne64))
    have f198 := ((((f65.ext E52).other w73 e20).other w159 ne34).other w173 ne66)
    have f199 := ((f98.wr w159 g19).wr w173 g51)
    obtain ⟨r201, _, ⟨rfl, q202⟩, A200⟩ := W.kI (A194.callV (a := s1) (argsL := []) (rest := [(.int (0 : Int32))]) (C' := 2) (S' := 6) (pc' := 55) d12_52 f195 (hw _ (List.mem_of_getElem? (i := 66) rfl)) (hw _ (List.mem_of_getElem? (i := 67) rfl)) (fun hZ => notFace_of_selects (args := #[]) (mvT hZ (hw _ (List.mem_of_getElem? (i := 69) rfl)))) (hw _ (List.mem_of_getElem? (i := 69) rfl)) (hw _ (List.mem_of_getElem? (i := 68) rfl)) (hw _ (List.mem_of_getElem? (i := 9) rfl)) (hw _ (List.mem_of_getElem? (i := 70) rfl)) (rm13_1 l Z a0 hw n0 [] (s1) (b1) ((upd (fun _ => (.int (0 : Int32))) 0 (.int x2.toInt8.toInt32.toInt8.toInt32))) (_) h172 A194.size f195 f196 f197 f198 f199 e25 (by assumption)) rfl rfl pd_15 rfl rfl (by decide) (by decide) (Nat.le_of_ble_eq_true rfl) (by decide) (by decide) rfl rfl rfl)
    subst q202
    have A205 := A200.icmpNo (pc' := 58) d12_55 (tlt (ilt (x := (0 : Int32)) (y := (1 : Int32)) rfl rfl (by decide : (0 : Int) < 1))).2.1 rfl
    have A206 := A205.aloadN (v := (.ref a)) (pc' := 59) d12_58 rfl rfl rfl
    have A207 := A206.iloadN (v := (1 : Int32)) (pc' := 60) d12_59 rfl rfl
    have A208 := A207.aaload (i := 1) (v := (.ref s1)) (pc' := 61) d12_60 rfl f180 rfl (by decide) rfl rfl
    have A209 := A208.iload (v := (0 : Int32)) (pc' := 63) d12_61 rfl rfl
    obtain ⟨r211, _, ⟨rfl, q212⟩, A210⟩ := W.kI (A209.callV (a := s1) (argsL := [(.int (0 : Int32))]) (rest := []) (C' := 2) (S' := 6) (pc' := 66) d12_63 f195 (hw _ (List.mem_of_getElem? (i := 76) rfl)) (hw _ (List.mem_of_getElem? (i := 77) rfl)) (fun hZ => notFace_of_selects (args := #[]) (mvT hZ (hw _ (List.mem_of_getElem? (i := 79) rfl)))) (hw _ (List.mem_of_getElem? (i := 79) rfl)) (hw _ (List.mem_of_getElem? (i := 78) rfl)) (hw _ (List.mem_of_getElem? (i := 9) rfl)) (hw _ (List.mem_of_getElem? (i := 80) rfl)) (rm15_1_0 l Z a0 hw n0 [] (s1) (b1) ((upd (fun _ => (.int (0 : Int32))) 0 (.int x2.toInt8.toInt32.toInt8.toInt32))) (x2) (_) (_) h172 A209.size f195 f196 f197 f198 (by first | assumption | exact congrArg Value.int (own_bb _)) (by first | assumption | exact congrArg Value.int (own_bb _)) f199 e25 (by first | assumption | exact congrArg Value.int (own_bb _)) e27 (by first | assumption | exact congrArg Value.int (own_bb _))) rfl rfl pd_16 rfl rfl (by decide) (by decide) (Nat.le_of_ble_eq_true rfl) (by decide) (by decide) rfl rfl rfl)
    have A214 := A210.istore (Ls' := #[.val (.ref m), .val (.ref a), .val (.int (1 : Int32)), .val (.int (1 : Int32)), .val (.int (0 : Int32)), .val (.int r211)]) (pc' := 68) d12_66 rfl rfl
    have A215 := A214.iload (v := r211) (pc' := 70) d12_68 rfl rfl
    have A216 := A215.bipush (z := (32 : Int32)) (pc' := 72) d12_70 rfl rfl
    by_cases c217 : r211.toInt < 32
    · exfalso
      omega
    · have A220 := A216.icmpNo (pc' := 75) d12_72 (flt (inlt (x := r211) (y := (32 : Int32)) rfl rfl c217)).1 rfl
      have A221 := A220.iload (v := r211) (pc' := 77) d12_75 rfl rfl
      have A222 := A221.sipush (z := (128 : Int32)) (pc' := 80) d12_77 rfl rfl
      by_cases c223 : r211.toInt < 128
      · have A224 := A222.icmpNo (pc' := 83) d12_80 (tlt (ilt (x := r211) (y := (128 : Int32)) rfl rfl c223)).2.1 rfl
        have A225 := A224.iload (v := r211) (pc' := 85) d12_83 rfl rfl
        have A226 := A225.bipush (z := (34 : Int32)) (pc' := 87) d12_85 rfl rfl
        by_cases c227 : r211.toInt = 34
        · exfalso
          omega
        · have A229 := A226.icmpNo (pc' := 90) d12_87 (feq (ine (x := r211) (y := (34 : Int32)) rfl rfl c227)).1 rfl
          have A230 := A229.iload (v := r211) (pc' := 92) d12_90 rfl rfl
          have A231 := A230.bipush (z := (92 : Int32)) (pc' := 94) d12_92 rfl rfl
          by_cases c232 : r211.toInt = 92
          · exfalso
            omega
          · have A234 := A231.icmpNo (pc' := 97) d12_94 (feq (ine (x := r211) (y := (92 : Int32)) rfl rfl c232)).1 rfl
            have A235 := A234.iconst (z := (1 : Int32)) (pc' := 98) d12_97 rfl rfl
            have A236 := A235.goto (pc' := 102) d12_98 (by decide) (by decide)
            have A238 := A236.istoreN (Ls' := #[.val (.ref m), .val (.ref a), .val (.int (1 : Int32)), .val (.int (1 : Int32)), .val (.int (0 : Int32)), .val (.int r211)]) (pc' := 103) d12_102 rfl rfl
            have A239 := A238.iinc (v := (0 : Int32)) (z := (1 : Int32)) (Ls' := #[.val (.ref m), .val (.ref a), .val (.int (1 : Int32)), .val (.int (1 : Int32)), .val (.int (1 : Int32)), .val (.int r211)]) (pc' := 106) d12_103 rfl (by decide) rfl rfl
            have A240 := A239.goto (pc' := 43) d12_106 (by decide) (by decide)
            have A241 := A240.iloadN (v := (1 : Int32)) (pc' := 44) d12_43 rfl rfl
            have A243 := A241.ifNo (pc' := 47) d12_44 (feq (ine (x := (1 : Int32)) (y := (0 : Int32)) rfl rfl (by decide : ¬ ((1 : Int) = 0)))).1 rfl
            have A244 := A243.iload (v := (1 : Int32)) (pc' := 49) d12_47 rfl rfl
            have A245 := A244.aloadN (v := (.ref a)) (pc' := 50) d12_49 rfl rfl rfl
            have A246 := A245.iloadN (v := (1 : Int32)) (pc' := 51) d12_50 rfl rfl
            have A247 := A246.aaload (i := 1) (v := (.ref s1)) (pc' := 52) d12_51 rfl f180 rfl (by decide) rfl rfl
            obtain ⟨r249, _, ⟨rfl, q250⟩, A248⟩ := W.kI (A247.callV (a := s1) (argsL := []) (rest := [(.int (1 : Int32))]) (C' := 2) (S' := 6) (pc' := 55) d12_52 f195 (hw _ (List.mem_of_getElem? (i := 66) rfl)) (hw _ (List.mem_of_getElem? (i := 67) rfl)) (fun hZ => notFace_of_selects (args := #[]) (mvT hZ (hw _ (List.mem_of_getElem? (i := 69) rfl)))) (hw _ (List.mem_of_getElem? (i := 69) rfl)) (hw _ (List.mem_of_getElem? (i := 68) rfl)) (hw _ (List.mem_of_getElem? (i := 9) rfl)) (hw _ (List.mem_of_getElem? (i := 70) rfl)) (rm13_1 l Z a0 hw n0 [] (s1) (b1) ((upd (fun _ => (.int (0 : Int32))) 0 (.int x2.toInt8.toInt32.toInt8.toInt32))) (_) h172 A247.size f195 f196 f197 f198 f199 e25 (by assumption)) rfl rfl pd_15 rfl rfl (by decide) (by decide) (Nat.le_of_ble_eq_true rfl) (by decide) (by decide) rfl rfl rfl)
            subst q250
            have A253 := A248.icmpYes (pc' := 109) d12_55 (flt (inlt (x := (1 : Int32)) (y := (1 : Int32)) rfl rfl (by decide : ¬ ((1 : Int) < 1)))).2.1 (by decide) (by decide)
            have A254 := A253.aloadN (v := (.ref m)) (pc' := 110) d12_109 rfl rfl rfl
            have f256 := ((f149.other w159 (Or.inl ne25)).other w173 (Or.inl ne57))
            have A255 := A254.getF (pc' := 113) (host := "") d12_110 (Or.inl (hw _ (List.mem_of_getElem? (i := 61) rfl))) Via.refl f256 rfl
            have A257 := A255.iloadN (v := (1 : Int32)) (pc' := 114) d12_113 rfl rfl
            have A258 := A257.iloadN (v := (1 : Int32)) (pc' := 115) d12_114 rfl rfl
            have A260 := A258.ifNo (pc' := 118) d12_115 (feq (ine (x := (1 : Int32)) (y := (0 : Int32)) rfl rfl (by decide : ¬ ((1 : Int) = 0)))).1 rfl
            have A261 := A260.aloadN (v := (.ref a)) (pc' := 119) d12_118 rfl rfl rfl
            have A262 := A261.iloadN (v := (1 : Int32)) (pc' := 120) d12_119 rfl rfl
            have A263 := A262.aaload (i := 1) (v := (.ref s1)) (pc' := 121) d12_120 rfl f180 rfl (by decide) rfl rfl
            have f265 := e32.ext f199.2
            have A264 := A263.getS (pc' := 124) (host := "") d12_121 (Or.inl (hw _ (List.mem_of_getElem? (i := 109) rfl))) Via.refl f265 rfl
            have f266 := (((((((e15.wr w7).ext E20).wr w39).ext E52).wr w73).wr w159).wr w173)
            obtain ⟨r268, h270, ⟨K271, g272, z273, f274, f275, q269⟩, A267⟩ := W.kA (A264.callV (a := s1) (argsL := [(.ref iso)]) (rest := [(.int (1 : Int32)), (.ref b17)]) (C' := 3) (S' := 7) (pc' := 127) d12_124 f195 (hw _ (List.mem_of_getElem? (i := 111) rfl)) (hw _ (List.mem_of_getElem? (i := 112) rfl)) (fun hZ => notFace_of_selects (args := #[]) (mvT hZ (hw _ (List.mem_of_getElem? (i := 114) rfl)))) (hw _ (List.mem_of_getElem? (i := 114) rfl)) (hw _ (List.mem_of_getElem? (i := 113) rfl)) (hw _ (List.mem_of_getElem? (i := 9) rfl)) (hw _ (List.mem_of_getElem? (i := 115) rfl)) (rm22_1 l Z a0 hw n0 [] (s1) (iso) (b1) ((upd (fun _ => (.int (0 : Int32))) 0 (.int x2.toInt8.toInt32.toInt8.toInt32))) (_) (_) h172 A264.size f195 f196 f197 f198 f266 f199 e25 (by assumption) e29 e30 e31) rfl rfl pd_17 rfl rfl (by decide) (by decide) (Nat.le_of_ble_eq_true rfl) (by decide) (by decide) rfl rfl rfl)
            have f276 := (((f70.wr w73).wr w159).wr w173)
            have ne277 : m ≠ r268 := Nat.ne_of_lt (Nat.lt_of_lt_of_le f276.lt z273)
            have ne278 : a ≠ r268 := Nat.ne_of_lt (Nat.lt_of_lt_of_le f180.lt z273)
            have f279 := ((f94.wr w159).wr w173)
            have ne280 : s0 ≠ r268 := Nat.ne_of_lt (Nat.lt_of_lt_of_le f279.lt z273)
            have f281 := ((f97.other w159 ne30).other w173 ne62)
            have ne282 : b0 ≠ r268 := Nat.ne_of_lt (Nat.lt_of_lt_of_le f281.lt z273)
            have ne283 : s1 ≠ r268 := Nat.ne_of_lt (Nat.lt_of_lt_of_le f195.lt z273)
            have ne284 : b1 ≠ r268 := Nat.ne_of_lt (Nat.lt_of_lt_of_le f198.lt z273)
            have f285 := (X160.other w173 ne68)
            have ne286 : b17 ≠ r268 := Nat.ne_of_lt (Nat.lt_of_lt_of_le f285.lt z273)
            have ne287 : b49 ≠ r268 := Nat.ne_of_lt (Nat.lt_of_lt_of_le X174.lt z273)
            have A288 := A267.goto (pc' := 133) d12_127 (by decide) (by decide)
            have f289 := (f285.keep K271 nin0)
            have f290 := (((f157.wr w159).wr w173).keep K271)
            obtain ⟨h291, w292, X293, A294⟩ := A288.aastore (i := 1) (pc' := 134) d12_133 rfl f289 (sto_x f289 f290 (hw _ (List.mem_of_getElem? (i := 60) rfl)) rfl rfl (Ins.self f275)) rfl rfl (by decide) g19 rfl
            have A295 := A294.aloadN (v := (.ref m)) (pc' := 135) d12_134 rfl rfl rfl
            have f297 := (((f165.other w173 (Or.inl ne57)).keep K271 nin0).other w292 (Or.inl ne25))
            have A296 := A295.getF (pc' := 138) (host := "") d12_135 (Or.inl (hw _ (List.mem_of_getElem? (i := 64) rfl))) Via.refl f297 rfl
            have A298 := A296.iloadN (v := (1 : Int32)) (pc' := 139) d12_138 rfl rfl
            have A299 := A298.iloadN (v := (1 : Int32)) (pc' := 140) d12_139 rfl rfl
            have A301 := A299.ifNo (pc' := 143) d12_140 (feq (ine (x := (1 : Int32)) (y := (0 : Int32)) rfl rfl (by decide : ¬ ((1 : Int) = 0)))).1 rfl
            have A302 := A301.aloadN (v := (.ref m)) (pc' := 144) d12_143 rfl rfl rfl
            have f304 := ((f256.keep K271 nin0).other w292 (Or.inl ne25))
            have A303 := A302.getF (pc' := 147) (host := "") d12_144 (Or.inl (hw _ (List.mem_of_getElem? (i := 61) rfl))) Via.refl f304 rfl
            have A305 := A303.iloadN (v := (1 : Int32)) (pc' := 148) d12_147 rfl rfl
            have A306 := A305.aaload (i := 1) (v := (.ref r268)) (pc' := 149) d12_148 rfl X293 rfl (by decide) rfl rfl
            have f307 := (f274.other w292 (Ne.symm ne286))
            have A308 := A306.alen (z := (1 : Int32)) (pc' := 150) d12_149 f307 rfl rfl
            have A309 := A308.goto (pc' := 155) d12_150 (by decide) (by decide)
            have f310 := ((X174.keep K271 nin0).other w292 (Ne.symm ne68))
            obtain ⟨h311, w312, X313, A314⟩ := A309.iastore (i := 1) (pc' := 156) d12_155 f310 rfl (by decide) g51 rfl
            have A315 := A314.iinc (v := (1 : Int32)) (z := (2 : Int32)) (Ls' := #[.val (.ref m), .val (.ref a), .val (.int (2 : Int32)), .val (.int (1 : Int32)), .val (.int (1 : Int32)), .val (.int r211)]) (pc' := 159) d12_156 rfl (by decide) rfl rfl
            have A316 := A315.goto (pc' := 32) d12_159 (by decide) (by decide)
            have A317 := A316.iloadN (v := (2 : Int32)) (pc' := 33) d12_32 rfl rfl
            have A318 := A317.aloadN (v := (.ref a)) (pc' := 34) d12_33 rfl rfl rfl
            have f319 := (((f180.keep K271 nin0).other w292 ne26).other w312 ne58)
            have A320 := A318.alen (z := (2 : Int32)) (pc' := 35) d12_34 f319 rfl rfl
            have A322 := A320.icmpYes (pc' := 162) d12_35 (flt (inlt (x := (2 : Int32)) (y := (2 : Int32)) rfl rfl (by decide : ¬ ((2 : Int) < 2)))).2.1 (by decide) (by decide)
            have A323 := A322.aloadN (v := (.ref m)) (pc' := 163) d12_162 rfl rfl rfl
            have f325 := (f304.other w312 (Or.inl ne57))
            have A324 := A323.getF (pc' := 166) (host := "") d12_163 (Or.inl (hw _ (List.mem_of_getElem? (i := 61) rfl))) Via.refl f325 rfl
            have A326 := A324.aloadN (v := (.ref a)) (pc' := 167) d12_166 rfl rfl rfl
            have A327 := A326.alen (z := (2 : Int32)) (pc' := 168) d12_167 f319 rfl rfl
            have f329 := (((f199.keep K271 all0).wr w292 g19).wr w312 g51)
            have f330 := e33.ext f329.2
            have A328 := A327.getS (pc' := 171) (host := "") d12_168 (Or.inl (hw _ (List.mem_of_getElem? (i := 97) rfl))) Via.refl f330 rfl
            have f331 := (X293.other w312 ne68)
            have f332 := ((f290.wr w292).wr w312)
            have f337 := e34.ext f329.2
            obtain ⟨h333, w334, X335, A336⟩ := A328.aastore (i := 2) (pc' := 172) d12_171 rfl f331 (sto_x f331 f332 (hw _ (List.mem_of_getElem? (i := 60) rfl)) rfl rfl (Ins.self f337)) rfl rfl (by decide) g19 rfl
            have A338 := A336.aloadN (v := (.ref m)) (pc' := 173) d12_172 rfl rfl rfl
            have f340 := ((f297.other w312 (Or.inl ne57)).other w334 (Or.inl ne25))
            have A339 := A338.getF (pc' := 176) (host := "") d12_173 (Or.inl (hw _ (List.mem_of_getElem? (i := 64) rfl))) Via.refl f340 rfl
            have A341 := A339.aloadN (v := (.ref a)) (pc' := 177) d12_176 rfl rfl rfl
            have f342 := (f319.other w334 ne26)
            have A343 := A341.alen (z := (2 : Int32)) (pc' := 178) d12_177 f342 rfl rfl
            have A344 := A343.ldc (z := (2147483647 : Int32)) (pc' := 180) d12_178 (hw _ (List.mem_of_getElem? (i := 100) rfl)) rfl
            have f345 := (X313.other w334 (Ne.symm ne68))
            obtain ⟨h346, w347, X348, A349⟩ := A344.iastore (i := 2) (pc' := 181) d12_180 f345 rfl (by decide) g51 rfl
            have z350 : h0.size ≤ b17 := Nat.le_trans (Nat.le_trans (Nat.le_refl _) (Nat.le_of_eq w7.size.symm)) (Nat.le_of_eq eb18.symm)
            have z351 : h0.size ≤ b49 := Nat.le_trans (Nat.le_trans (Nat.le_trans (Nat.le_trans (Nat.le_refl _) (Nat.le_of_eq w7.size.symm)) E20.1) (Nat.le_of_eq w39.size.symm)) (Nat.le_of_eq eb50.symm)
            have K352 : Keep h0 h346 [m] := (((((((((((((Keep.refl h0 [m]).wr w7 (Or.inl (List.mem_of_getElem? (i := 0) rfl))).ext E20).wr w39 (Or.inl (List.mem_of_getElem? (i := 0) rfl))).ext E52).wr w73 (Or.inl (List.mem_of_getElem? (i := 0) rfl))).wr w159 (Or.inr z350)).wr w173 (Or.inr z351)).trans K271 all0).wr w292 (Or.inr z350)).wr w312 (Or.inr z351)).wr w334 (Or.inr z350)).wr w347 (Or.inr z351))
            have z353 : h0.size ≤ r268 := Nat.le_trans (Nat.le_trans (Nat.le_trans (Nat.le_trans (Nat.le_trans (Nat.le_trans (Nat.le_trans (Nat.le_trans (Nat.le_refl _) (Nat.le_of_eq w7.size.symm)) E20.1) (Nat.le_of_eq w39.size.symm)) E52.1) (Nat.le_of_eq w73.size.symm)) (Nat.le_of_eq w159.size.symm)) (Nat.le_of_eq w173.size.symm)) z273
            have f354 := ((f325.other w334 (Or.inl ne25)).other w347 (Or.inl ne57))
            have f355 := (f340.other w347 (Or.inl ne57))
            have f356 := (X335.other w347 ne68)
            have f357 := (((f307.other w312 (Ne.symm ne287)).other w334 (Ne.symm ne286)).other w347 (Ne.symm ne287))
            refine A349.retV d12_181 (by decide) (by decide) ⟨rfl, ⟨b17, b49, r268, K352, g19, z350, g51, z351, g272, z353, f354, f355, f356, X348, f357, ?_⟩⟩
            trivial
      · exfalso
        omega
  by_cases c116 : r110.toInt < 32
  · have A118 := A115.icmpYes (pc' := 101) d12_72 (tlt (ilt (x := r110) (y := (32 : Int32)) rfl rfl c116)).1 (by decide) (by decide)
    have A119 := A118.iconst (z := (0 : Int32)) (pc' := 102) d12_101 rfl rfl
    exact join117    (by trivial)  A119
  · have A120 := A115.icmpNo (pc' := 75) d12_72 (flt (inlt (x := r110) (y := (32 : Int32)) rfl rfl c116)).1 rfl
    have A121 := A120.iload (v := r110) (pc' := 77) d12_75 rfl rfl
    have A122 := A121.sipush (z := (128 : Int32)) (pc' := 80) d12_77 rfl rfl
    by_cases c123 : r110.toInt < 128
    · have A124 := A122.icmpNo (pc' := 83) d12_80 (tlt (ilt (x := r110) (y := (128 : Int32)) rfl rfl c123)).2.1 rfl
      have A125 := A124.iload (v := r110) (pc' := 85) d12_83 rfl rfl
      have A126 := A125.bipush (z := (34 : Int32)) (pc' := 87) d12_85 rfl rfl
      by_cases c127 : r110.toInt = 34
      · have A128 := A126.icmpYes (pc' := 101) d12_87 (teq (ieq (x := r110) (y := (34 : Int32)) rfl rfl c127)).1 (by decide) (by decide)
        have A129 := A128.iconst (z := (0 : Int32)) (pc' := 102) d12_101 rfl rfl
        exact join117    (by trivial)  A129
      · have A130 := A126.icmpNo (pc' := 90) d12_87 (feq (ine (x := r110) (y := (34 : Int32)) rfl rfl c127)).1 rfl
        have A131 := A130.iload (v := r110) (pc' := 92) d12_90 rfl rfl
        have A132 := A131.bipush (z := (92 : Int32)) (pc' := 94) d12_92 rfl rfl
        by_cases c133 : r110.toInt = 92
        · have A134 := A132.icmpYes (pc' := 101) d12_94 (teq (ieq (x := r110) (y := (92 : Int32)) rfl rfl c133)).1 (by decide) (by decide)
          have A135 := A134.iconst (z := (0 : Int32)) (pc' := 102) d12_101 rfl rfl
          exact join117    (by trivial)  A135
        · exfalso
          omega
    · have A137 := A122.icmpYes (pc' := 101) d12_80 (flt (inlt (x := r110) (y := (128 : Int32)) rfl rfl c123)).2.1 (by decide) (by decide)
      have A138 := A137.iconst (z := (0 : Int32)) (pc' := 102) d12_101 rfl rfl
      exact join117    (by trivial)  A138
abbrev y12_MN : MethodName := (⟨"com/example/dialekt/dialekt/json/MemberNames", "<init>", "([Ljava/lang/String;)V"⟩ : MethodName)
abbrev R12_MN : Room := { frames := 4, cells := 2, slots := 6, locals := 53 }
set_option maxRecDepth 65536 in
set_option maxHeartbeats 4000000 in
theorem ef12_MN (m : Addr) (a : Addr)  (mid : MethodId) : entryFrame mid #[(.ref m), (.ref a)] 6 = mkF mid 0 #[.val (.ref m), .val (.ref a), .unset, .unset, .unset, .unset] [] := by first | (simp [entryFrame, mkF, argsToLocals, Value.category]; done) | rfl
set_option maxRecDepth 65536 in
set_option maxHeartbeats 40000000 in
theorem rm12_MN (l : Launch) (Z : State) (a0 : Array Value) (hw : ∀ d ∈ tables_1, d.before a0 Z = true) (n0 : Nat) (ws : List Jvm.Cond) (m : Addr) (a : Addr) (s0 : Addr) (s1 : Addr) (b0 : Addr) (b1 : Addr) (iso : Addr) (u8 : Addr) (nb : Addr) (x0 : Int32) (x1 : Int32) (x2 : Int32) (cs : Int32) (fm : Value) (h0 : Heap) (hn0 : n0 ≤ h0.size) (e0 : Exa Z h0 m "com/example/dialekt/dialekt/json/MemberNames") (e1 : n0 ≤ m) (e2 : Fld Z h0 m "com/example/dialekt/dialekt/json/MemberNames" "names" "[Ljava/lang/String;" .null) (e3 : Fld Z h0 m "com/example/dialekt/dialekt/json/MemberNames" "plain" "[[B" .null) (e4 : Fld Z h0 m "com/example/dialekt/dialekt/json/MemberNames" "plainLengths" "[I" .null) (e5 : Ars Z h0 a (.object "java/lang/String") 2 (upd (upd (fun _ => .null) 0 (.ref s0)) 1 (.ref s1))) (e6 : Exa Z h0 s0 "java/lang/String") (e7 : Fld Z h0 s0 "java/lang/String" "value" "[B" (.ref b0)) (e8 : Fld Z h0 s0 "java/lang/String" "coder" "B" (.int (0 : Int32))) (e9 : Ars Z h0 b0 .byte 2 (upd (upd (fun _ => (.int (0 : Int32))) 0 (.int x0.toInt8.toInt32.toInt8.toInt32)) 1 (.int x1.toInt8.toInt32.toInt8.toInt32))) (e10 : Exa Z h0 b0 "[B") (e11 : Exa Z h0 s1 "java/lang/String") (e12 : Fld Z h0 s1 "java/lang/String" "value" "[B" (.ref b1)) (e13 : Fld Z h0 s1 "java/lang/String" "coder" "B" (.int (0 : Int32))) (e14 : Ars Z h0 b1 .byte 1 (upd (fun _ => (.int (0 : Int32))) 0 (.int x2.toInt8.toInt32.toInt8.toInt32))) (e15 : Exa Z h0 b1 "[B") (e16 : a ≠ m) (e17 : s0 ≠ m) (e18 : b0 ≠ m) (e19 : s1 ≠ m) (e20 : b1 ≠ m) (e21 : 0 ≤ x0.toInt ∧ x0.toInt ≤ 255) (e22 : 0 ≤ x1.toInt ∧ x1.toInt ≤ 255) (e23 : 0 ≤ x2.toInt ∧ x2.toInt ≤ 255) (e24 : Old Z n0 h0) (e25 : Sta Z Z.heap "java/lang/String" "COMPACT_STRINGS" "Z" (.int cs)) (e26 : cs.toInt ≠ 0) (e27 : Sta Z Z.heap "jdk/internal/util/Preconditions" "SIOOBE_FORMATTER" "Ljava/util/function/BiFunction;" fm) (e28 : fm.isRef = true) (e29 : Sta Z Z.heap "sun/nio/cs/UTF_8" "INSTANCE" "Lsun/nio/cs/UTF_8;" (.ref u8)) (e30 : Sta Z Z.heap "sun/nio/cs/ISO_8859_1" "INSTANCE" "Lsun/nio/cs/ISO_8859_1;" (.ref iso)) (e31 : iso ≠ u8) (e32 : Sta Z Z.heap "java/nio/charset/StandardCharsets" "ISO_8859_1" "Ljava/nio/charset/Charset;" (.ref iso)) (e33 : Sta Z Z.heap "com/example/dialekt/dialekt/json/MemberNames" "NO_BYTES" "[B" (.ref nb)) (e34 : Exa Z Z.heap nb "[B") (e35 : Ars Z Z.heap nb .byte 0 (fun _ => (.int (0 : Int32)))) (e36 : (32 ≤ x0.toInt ∧ x0.toInt < 128 ∧ ¬ (x0.toInt = 34) ∧ ¬ (x0.toInt = 92)) ∧ ¬ (32 ≤ x1.toInt ∧ x1.toInt < 128 ∧ ¬ (x1.toInt = 34) ∧ ¬ (x1.toInt = 92))) (e37 : ¬ (32 ≤ x2.toInt ∧ x2.toInt < 128 ∧ ¬ (x2.toInt = 34) ∧ ¬ (x2.toInt = 92))) :
    Ctr l Z n0 y12_MN prog_32_method_1_code 6 (none) ws R12_MN #[(.ref m), (.ref a)] h0 (QV fun h => ∃ pl : Addr, ∃ lns : Addr, (Keep h0 h [m]) ∧ (n0 ≤ pl) ∧ (h0.size ≤ pl) ∧ (n0 ≤ lns) ∧ (h0.size ≤ lns) ∧ (Fld Z h m "com/example/dialekt/dialekt/json/MemberNames" "plain" "[[B" (.ref pl)) ∧ (Fld Z h m "com/example/dialekt/dialekt/json/MemberNames" "plainLengths" "[I" (.ref lns)) ∧ (Ars Z h pl (.array .byte) 3 (upd (upd (upd (fun _ => .null) 0 (.ref nb)) 1 (.ref nb)) 2 (.ref nb))) ∧ (Ars Z h lns .int 3 (upd (upd (upd (fun _ => (.int (0 : Int32))) 0 (.int (2147483647 : Int32))) 1 (.int (2147483647 : Int32))) 2 (.int (2147483647 : Int32)))) ∧ (True)) := by
  refine ctr_of pn12 hn0 (ef12_MN m a) fun G A0 => ?_
  have A1 := A0.aloadN (v := (.ref m)) (pc' := 1) d12_0 rfl rfl rfl
  have A2 := A1.initO (pc' := 4) d12_1 (hw _ (List.mem_of_getElem? (i := 56) rfl)) (hw _ (List.mem_of_getElem? (i := 19) rfl)) (hw _ (List.mem_of_getElem? (i := 20) rfl)) rfl (by decide) (Nat.le_of_ble_eq_true rfl) rfl
  have A3 := A2.aloadN (v := (.ref m)) (pc' := 5) d12_4 rfl rfl rfl
  have A4 := A3.aloadN (v := (.ref a)) (pc' := 6) d12_5 rfl rfl rfl
  obtain ⟨h6, w7, A5⟩ := A4.putF (pc' := 9) (ty := (.array (.object "java/lang/String"))) (host := "") d12_6 (Or.inl (hw _ (List.mem_of_getElem? (i := 57) rfl))) Via.refl e2 e0 (Or.inr ⟨(hw _ (List.mem_of_getElem? (i := 58) rfl)), rfl, rfl⟩) (hw _ (List.mem_of_getElem? (i := 51) rfl)) (by decide) rfl rfl e1 rfl
  have f8 := e2.same w7
  have A9 := A5.aloadN (v := (.ref m)) (pc' := 10) d12_9 rfl rfl rfl
  have A10 := A9.aloadN (v := (.ref a)) (pc' := 11) d12_10 rfl rfl rfl
  have f11 := (e5.other w7 e16)
  have A12 := A10.alen (z := (2 : Int32)) (pc' := 12) d12_11 f11 rfl rfl
  have A13 := A12.iconst (z := (1 : Int32)) (pc' := 13) d12_12 rfl rfl
  have A14 := A13.iadd (pc' := 14) d12_13 rfl
  have A15 := A14.topI (z := (3 : Int32)) (by decide)
  obtain ⟨h16, b17, eb18, g19, E20, X21, XE23, A22⟩ := A15.newRX (z := (3 : Int32)) (N := 3) (cap := 3) (C' := 1) (S' := 3) (pc' := 17) (ad := "[[B") d12_14 rfl (hw _ (List.mem_of_getElem? (i := 59) rfl)) (hw _ (List.mem_of_getElem? (i := 60) rfl)) rfl (by decide) (by decide) (by decide) (by decide) rfl rfl rfl (by decide)
  have f24 := (e0.wr w7)
  have ne25 : m ≠ b17 := Nat.ne_of_lt (Nat.lt_of_lt_of_le f24.lt (Nat.le_of_eq eb18.symm))
  have ne26 : a ≠ b17 := Nat.ne_of_lt (Nat.lt_of_lt_of_le f11.lt (Nat.le_of_eq eb18.symm))
  have f27 := (e6.wr w7)
  have ne28 : s0 ≠ b17 := Nat.ne_of_lt (Nat.lt_of_lt_of_le f27.lt (Nat.le_of_eq eb18.symm))
  have f29 := (e9.other w7 e18)
  have ne30 : b0 ≠ b17 := Nat.ne_of_lt (Nat.lt_of_lt_of_le f29.lt (Nat.le_of_eq eb18.symm))
  have f31 := (e11.wr w7)
  have ne32 : s1 ≠ b17 := Nat.ne_of_lt (Nat.lt_of_lt_of_le f31.lt (Nat.le_of_eq eb18.symm))
  have f33 := (e14.other w7 e20)
  have ne34 : b1 ≠ b17 := Nat.ne_of_lt (Nat.lt_of_lt_of_le f33.lt (Nat.le_of_eq eb18.symm))
  have f35 := ((e3.other w7 (Or.inr (slot_ne (Or.inr (hw _ (List.mem_of_getElem? (i := 62) rfl))) (Or.inr (hw _ (List.mem_of_getElem? (i := 58) rfl))) (by decide) (t := (.array (.array .byte))) (t' := (.array (.object "java/lang/String"))) (by decide) (by decide)))).ext E20)
  have f36 := (f24.ext E20)
  obtain ⟨h38, w39, A37⟩ := A22.putF (pc' := 20) (ty := (.array (.array .byte))) (host := "") d12_17 (Or.inl (hw _ (List.mem_of_getElem? (i := 61) rfl))) Via.refl f35 f36 (Or.inr ⟨(hw _ (List.mem_of_getElem? (i := 62) rfl)), rfl, rfl⟩) (hw _ (List.mem_of_getElem? (i := 51) rfl)) (by decide) rfl rfl e1 rfl
  have f40 := f35.same w39
  have A41 := A37.aloadN (v := (.ref m)) (pc' := 21) d12_20 rfl rfl rfl
  have A42 := A41.aloadN (v := (.ref a)) (pc' := 22) d12_21 rfl rfl rfl
  have f43 := ((f11.ext E20).other w39 e16)
  have A44 := A42.alen (z := (2 : Int32)) (pc' := 23) d12_22 f43 rfl rfl
  have A45 := A44.iconst (z := (1 : Int32)) (pc' := 24) d12_23 rfl rfl
  have A46 := A45.iadd (pc' := 25) d12_24 rfl
  have A47 := A46.topI (z := (3 : Int32)) (by decide)
  obtain ⟨h48, b49, eb50, g51, E52, X53, XE55, A54⟩ := A47.newP (z := (3 : Int32)) (N := 3) (cap := 3) (C' := 2) (S' := 6) (pc' := 27) d12_25 (hw _ (List.mem_of_getElem? (i := 63) rfl)) rfl (by decide) (by decide) (by decide) (by decide) rfl rfl rfl rfl
  have f56 := (f36.wr w39)
  have ne57 : m ≠ b49 := Nat.ne_of_lt (Nat.lt_of_lt_of_le f56.lt (Nat.le_of_eq eb50.symm))
  have ne58 : a ≠ b49 := Nat.ne_of_lt (Nat.lt_of_lt_of_le f43.lt (Nat.le_of_eq eb50.symm))
  have f59 := ((f27.ext E20).wr w39)
  have ne60 : s0 ≠ b49 := Nat.ne_of_lt (Nat.lt_of_lt_of_le f59.lt (Nat.le_of_eq eb50.symm))
  have f61 := ((f29.ext E20).other w39 e18)
  have ne62 : b0 ≠ b49 := Nat.ne_of_lt (Nat.lt_of_lt_of_le f61.lt (Nat.le_of_eq eb50.symm))
  have f63 := ((f31.ext E20).wr w39)
  have ne64 : s1 ≠ b49 := Nat.ne_of_lt (Nat.lt_of_lt_of_le f63.lt (Nat.le_of_eq eb50.symm))
  have f65 := ((f33.ext E20).other w39 e20)
  have ne66 : b1 ≠ b49 := Nat.ne_of_lt (Nat.lt_of_lt_of_le f65.lt (Nat.le_of_eq eb50.symm))
  have f67 := (X21.other w39 (Ne.symm ne25))
  have ne68 : b17 ≠ b49 := Nat.ne_of_lt (Nat.lt_of_lt_of_le f67.lt (Nat.le_of_eq eb50.symm))
  change Exa Z h48 b49 "[I" at XE55
  change Ars Z h48 b49 .int 3 (fun _ => (.int (0 : Int32))) at X53
  have f69 := ((((e4.other w7 (Or.inr (slot_ne (Or.inr (hw _ (List.mem_of_getElem? (i := 65) rfl))) (Or.inr (hw _ (List.mem_of_getElem? (i := 58) rfl))) (by decide) (t := (.array .int)) (t' := (.array (.object "java/lang/String"))) (by decide) (by decide)))).ext E20).other w39 (Or.inr (slot_ne (Or.inr (hw _ (List.mem_of_getElem? (i := 65) rfl))) (Or.inr (hw _ (List.mem_of_getElem? (i := 62) rfl))) (by decide) (t := (.array .int)) (t' := (.array (.array .byte))) (by decide) (by decide)))).ext E52)
  have f70 := (f56.ext E52)
  obtain ⟨h72, w73, A71⟩ := A54.putF (pc' := 30) (ty := (.array .int)) (host := "") d12_27 (Or.inl (hw _ (List.mem_of_getElem? (i := 64) rfl))) Via.refl f69 f70 (Or.inr ⟨(hw _ (List.mem_of_getElem? (i := 65) rfl)), rfl, rfl⟩) (hw _ (List.mem_of_getElem? (i := 51) rfl)) (by decide) rfl rfl e1 rfl
  have f74 := f69.same w73
  have A75 := A71.iconst (z := (0 : Int32)) (pc' := 31) d12_30 rfl rfl
  have A76 := A75.istoreN (Ls' := #[.val (.ref m), .val (.ref a), .val (.int (0 : Int32)), .unset, .unset, .unset]) (pc' := 32) d12_31 rfl rfl
  have A77 := A76.iloadN (v := (0 : Int32)) (pc' := 33) d12_32 rfl rfl
  have A78 := A77.aloadN (v := (.ref a)) (pc' := 34) d12_33 rfl rfl rfl
  have f79 := ((f43.ext E52).other w73 e16)
  have A80 := A78.alen (z := (2 : Int32)) (pc' := 35) d12_34 f79 rfl rfl
  have A82 := A80.icmpNo (pc' := 38) d12_35 (tlt (ilt (x := (0 : Int32)) (y := (2 : Int32)) rfl rfl (by decide : (0 : Int) < 2))).2.1 rfl
  have A83 := A82.iconst (z := (1 : Int32)) (pc' := 39) d12_38 rfl rfl
  have A84 := A83.istoreN (Ls' := #[.val (.ref m), .val (.ref a), .val (.int (0 : Int32)), .val (.int (1 : Int32)), .unset, .unset]) (pc' := 40) d12_39 rfl rfl
  have A85 := A84.iconst (z := (0 : Int32)) (pc' := 41) d12_40 rfl rfl
  have A86 := A85.istore (Ls' := #[.val (.ref m), .val (.ref a), .val (.int (0 : Int32)), .val (.int (1 : Int32)), .val (.int (0 : Int32)), .unset]) (pc' := 43) d12_41 rfl rfl
  have A87 := A86.iloadN (v := (1 : Int32)) (pc' := 44) d12_43 rfl rfl
  have A89 := A87.ifNo (pc' := 47) d12_44 (feq (ine (x := (1 : Int32)) (y := (0 : Int32)) rfl rfl (by decide : ¬ ((1 : Int) = 0)))).1 rfl
  have A90 := A89.iload (v := (0 : Int32)) (pc' := 49) d12_47 rfl rfl
  have A91 := A90.aloadN (v := (.ref a)) (pc' := 50) d12_49 rfl rfl rfl
  have A92 := A91.iloadN (v := (0 : Int32)) (pc' := 51) d12_50 rfl rfl
  have A93 := A92.aaload (i := 0) (v := (.ref s0)) (pc' := 52) d12_51 rfl f79 rfl (by decide) rfl rfl
  have f94 := ((f59.ext E52).wr w73)
  have f95 := (((((e7.other w7 (Or.inl e17)).ext E20).other w39 (Or.inl e17)).ext E52).other w73 (Or.inl e17))
  have f96 := (((((e8.other w7 (Or.inl e17)).ext E20).other w39 (Or.inl e17)).ext E52).other w73 (Or.inl e17))
  have f97 := ((f61.ext E52).other w73 e18)
  have f98 := (((((e24.wr w7 e1).ext E20).wr w39 e1).ext E52).wr w73 e1)
  obtain ⟨r100, _, ⟨rfl, q101⟩, A99⟩ := W.kI (A93.callV (a := s0) (argsL := []) (rest := [(.int (0 : Int32))]) (C' := 2) (S' := 6) (pc' := 55) d12_52 f94 (hw _ (List.mem_of_getElem? (i := 66) rfl)) (hw _ (List.mem_of_getElem? (i := 67) rfl)) (fun hZ => notFace_of_selects (args := #[]) (mvT hZ (hw _ (List.mem_of_getElem? (i := 69) rfl)))) (hw _ (List.mem_of_getElem? (i := 69) rfl)) (hw _ (List.mem_of_getElem? (i := 68) rfl)) (hw _ (List.mem_of_getElem? (i := 9) rfl)) (hw _ (List.mem_of_getElem? (i := 70) rfl)) (rm13_2 l Z a0 hw n0 [] (s0) (b0) ((upd (upd (fun _ => (.int (0 : Int32))) 0 (.int x0.toInt8.toInt32.toInt8.toInt32)) 1 (.int x1.toInt8.toInt32.toInt8.toInt32))) (_) h72 A93.size f94 f95 f96 f97 f98 e25 (by assumption)) rfl rfl pd_15 rfl rfl (by decide) (by decide) (Nat.le_of_ble_eq_true rfl) (by decide) (by decide) rfl rfl rfl)
  subst q101
  have A104 := A99.icmpNo (pc' := 58) d12_55 (tlt (ilt (x := (0 : Int32)) (y := (2 : Int32)) rfl rfl (by decide : (0 : Int) < 2))).2.1 rfl
  have A105 := A104.aloadN (v := (.ref a)) (pc' := 59) d12_58 rfl rfl rfl
  have A106 := A105.iloadN (v := (0 : Int32)) (pc' := 60) d12_59 rfl rfl
  have A107 := A106.aaload (i := 0) (v := (.ref s0)) (pc' := 61) d12_60 rfl f79 rfl (by decide) rfl rfl
  have A108 := A107.iload (v := (0 : Int32)) (pc' := 63) d12_61 rfl rfl
  obtain ⟨r110, _, ⟨rfl, q111⟩, A109⟩ := W.kI (A108.callV (a := s0) (argsL := [(.int (0 : Int32))]) (rest := []) (C' := 2) (S' := 6) (pc' := 66) d12_63 f94 (hw _ (List.mem_of_getElem? (i := 76) rfl)) (hw _ (List.mem_of_getElem? (i := 77) rfl)) (fun hZ => notFace_of_selects (args := #[]) (mvT hZ (hw _ (List.mem_of_getElem? (i := 79) rfl)))) (hw _ (List.mem_of_getElem? (i := 79) rfl)) (hw _ (List.mem_of_getElem? (i := 78) rfl)) (hw _ (List.mem_of_getElem? (i := 9) rfl)) (hw _ (List.mem_of_getElem? (i := 80) rfl)) (rm15_2_0 l Z a0 hw n0 [] (s0) (b0) ((upd (upd (fun _ => (.int (0 : Int32))) 0 (.int x0.toInt8.toInt32.toInt8.toInt32)) 1 (.int x1.toInt8.toInt32.toInt8.toInt32))) (x0) (_) (_) h72 A108.size f94 f95 f96 f97 (by first | assumption | exact congrArg Value.int (own_bb _)) (by first | assumption | exact congrArg Value.int (own_bb _)) f98 e25 (by first | assumption | exact congrArg Value.int (own_bb _)) e27 (by first | assumption | exact congrArg Value.int (own_bb _))) rfl rfl pd_16 rfl rfl (by decide) (by decide) (Nat.le_of_ble_eq_true rfl) (by decide) (by decide) rfl rfl rfl)
  have A113 := A109.istore (Ls' := #[.val (.ref m), .val (.ref a), .val (.int (0 : Int32)), .val (.int (1 : Int32)), .val (.int (0 : Int32)), .val (.int r110)]) (pc' := 68) d12_66 rfl rfl
  have A114 := A113.iload (v := r110) (pc' := 70) d12_68 rfl rfl
  have A115 := A114.bipush (z := (32 : Int32)) (pc' := 72) d12_70 rfl rfl
  by_cases c116 : r110.toInt < 32
  · exfalso
    omega
  · have A119 := A115.icmpNo (pc' := 75) d12_72 (flt (inlt (x := r110) (y := (32 : Int32)) rfl rfl c116)).1 rfl
    have A120 := A119.iload (v := r110) (pc' := 77) d12_75 rfl rfl
    have A121 := A120.sipush (z := (128 : Int32)) (pc' := 80) d12_77 rfl rfl
    by_cases c122 : r110.toInt < 128
    · have A123 := A121.icmpNo (pc' := 83) d12_80 (tlt (ilt (x := r110) (y := (128 : Int32)) rfl rfl c122)).2.1 rfl
      have A124 := A123.iload (v := r110) (pc' := 85) d12_83 rfl rfl
      have A125 := A124.bipush (z := (34 : Int32)) (pc' := 87) d12_85 rfl rfl
      by_cases c126 : r110.toInt = 34
      · exfalso
        omega
      · have A128 := A125.icmpNo (pc' := 90) d12_87 (feq (ine (x := r110) (y := (34 : Int32)) rfl rfl c126)).1 rfl
        have A129 := A128.iload (v := r110) (pc' := 92) d12_90 rfl rfl
        have A130 := A129.bipush (z := (92 : Int32)) (pc' := 94) d12_92 rfl rfl
        by_cases c131 : r110.toInt = 92
        · exfalso
          omega
        · have A133 := A130.icmpNo (pc' := 97) d12_94 (feq (ine (x := r110) (y := (92 : Int32)) rfl rfl c131)).1 rfl
          have A134 := A133.iconst (z := (1 : Int32)) (pc' := 98) d12_97 rfl rfl
          have A135 := A134.goto (pc' := 102) d12_98 (by decide) (by decide)
          have A137 := A135.istoreN (Ls' := #[.val (.ref m), .val (.ref a), .val (.int (0 : Int32)), .val (.int (1 : Int32)), .val (.int (0 : Int32)), .val (.int r110)]) (pc' := 103) d12_102 rfl rfl
          have A138 := A137.iinc (v := (0 : Int32)) (z := (1 : Int32)) (Ls' := #[.val (.ref m), .val (.ref a), .val (.int (0 : Int32)), .val (.int (1 : Int32)), .val (.int (1 : Int32)), .val (.int r110)]) (pc' := 106) d12_103 rfl (by decide) rfl rfl
          have A139 := A138.goto (pc' := 43) d12_106 (by decide) (by decide)
          have A140 := A139.iloadN (v := (1 : Int32)) (pc' := 44) d12_43 rfl rfl
          have A142 := A140.ifNo (pc' := 47) d12_44 (feq (ine (x := (1 : Int32)) (y := (0 : Int32)) rfl rfl (by decide : ¬ ((1 : Int) = 0)))).1 rfl
          have A143 := A142.iload (v := (1 : Int32)) (pc' := 49) d12_47 rfl rfl
          have A144 := A143.aloadN (v := (.ref a)) (pc' := 50) d12_49 rfl rfl rfl
          have A145 := A144.iloadN (v := (0 : Int32)) (pc' := 51) d12_50 rfl rfl
          have A146 := A145.aaload (i := 0) (v := (.ref s0)) (pc' := 52) d12_51 rfl f79 rfl (by decide) rfl rfl
          obtain ⟨r148, _, ⟨rfl, q149⟩, A147⟩ := W.kI (A146.callV (a := s0) (argsL := []) (rest := [(.int (1 : Int32))]) (C' := 2) (S' := 6) (pc' := 55) d12_52 f94 (hw _ (List.mem_of_getElem? (i := 66) rfl)) (hw _ (List.mem_of_getElem? (i := 67) rfl)) (fun hZ => notFace_of_selects (args := #[]) (mvT hZ (hw _ (List.mem_of_getElem? (i := 69) rfl)))) (hw _ (List.mem_of_getElem? (i := 69) rfl)) (hw _ (List.mem_of_getElem? (i := 68) rfl)) (hw _ (List.mem_of_getElem? (i := 9) rfl)) (hw _ (List.mem_of_getElem? (i := 70) rfl)) (rm13_2 l Z a0 hw n0 [] (s0) (b0) ((upd (upd (fun _ => (.int (0 : Int32))) 0 (.int x0.toInt8.toInt32.toInt8.toInt32)) 1 (.int x1.toInt8.toInt32.toInt8.toInt32))) (_) h72 A146.size f94 f95 f96 f97 f98 e25 (by assumption)) rfl rfl pd_15 rfl rfl (by decide) (by decide) (Nat.le_of_ble_eq_true rfl) (by decide) (by decide) rfl rfl rfl)
          subst q149
          have A152 := A147.icmpNo (pc' := 58) d12_55 (tlt (ilt (x := (1 : Int32)) (y := (2 : Int32)) rfl rfl (by decide : (1 : Int) < 2))).2.1 rfl
          have A153 := A152.aloadN (v := (.ref a)) (pc' := 59) d12_58 rfl rfl rfl
          have A154 := A153.iloadN (v := (0 : Int32)) (pc' := 60) d12_59 rfl rfl
          have A155 := A154.aaload (i := 0) (v := (.ref s0)) (pc' := 61) d12_60 rfl f79 rfl (by decide) rfl rfl
          have A156 := A155.iload (v := (1 : Int32)) (pc' := 63) d12_61 rfl rfl
          obtain ⟨r158, _, ⟨rfl, q159⟩, A157⟩ := W.kI (A156.callV (a := s0) (argsL := [(.int (1 : Int32))]) (rest := []) (C' := 2) (S' := 6) (pc' := 66) d12_63 f94 (hw _ (List.mem_of_getElem? (i := 76) rfl)) (hw _ (List.mem_of_getElem? (i := 77) rfl)) (fun hZ => notFace_of_selects (args := #[]) (mvT hZ (hw _ (List.mem_of_getElem? (i := 79) rfl)))) (hw _ (List.mem_of_getElem? (i := 79) rfl)) (hw _ (List.mem_of_getElem? (i := 78) rfl)) (hw _ (List.mem_of_getElem? (i := 9) rfl)) (hw _ (List.mem_of_getElem? (i := 80) rfl)) (rm15_2_1 l Z a0 hw n0 [] (s0) (b0) ((upd (upd (fun _ => (.int (0 : Int32))) 0 (.int x0.toInt8.toInt32.toInt8.toInt32)) 1 (.int x1.toInt8.toInt32.toInt8.toInt32))) (x1) (_) (_) h72 A156.size f94 f95 f96 f97 (by first | assumption | exact congrArg Value.int (own_bb _)) (by first | assumption | exact congrArg Value.int (own_bb _)) f98 e25 (by first | assumption | exact congrArg Value.int (own_bb _)) e27 (by first | assumption | exact congrArg Value.int (own_bb _))) rfl rfl pd_16 rfl rfl (by decide) (by decide) (Nat.le_of_ble_eq_true rfl) (by decide) (by decide) rfl rfl rfl)
          have A161 := A157.istore (Ls' := #[.val (.ref m), .val (.ref a), .val (.int (0 : Int32)), .val (.int (1 : Int32)), .val (.int (1 : Int32)), .val (.int r158)]) (pc' := 68) d12_66 rfl rfl
          have A162 := A161.iload (v := r158) (pc' := 70) d12_68 rfl rfl
          have A163 := A162.bipush (z := (32 : Int32)) (pc' := 72) d12_70 rfl rfl
          have join165 : ∀ (q188 : True), W l Z n0 y12_MN prog_32_method_1_code 6 (none) R12_MN G h72 102 #[.val (.ref m), .val (.ref a), .val (.int (0 : Int32)), .val (.int (1 : Int32)), .val (.int (1 : Int32)), .val (.int r158)] [(.int (0 : Int32))] 2 6 → Gl R12_MN n0 G (QV fun h => ∃ pl : Addr, ∃ lns : Addr, (Keep h0 h [m]) ∧ (n0 ≤ pl) ∧ (h0.size ≤ pl) ∧ (n0 ≤ lns) ∧ (h0.size ≤ lns) ∧ (Fld Z h m "com/example/dialekt/dialekt/json/MemberNames" "plain" "[[B" (.ref pl)) ∧ (Fld Z h m "com/example/dialekt/dialekt/json/MemberNames" "plainLengths" "[I" (.ref lns)) ∧ (Ars Z h pl (.array .byte) 3 (upd (upd (upd (fun _ => .null) 0 (.ref nb)) 1 (.ref nb)) 2 (.ref nb))) ∧ (Ars Z h lns .int 3 (upd (upd (upd (fun _ => (.int (0 : Int32))) 0 (.int (2147483647 : Int32))) 1 (.int (2147483647 : Int32))) 2 (.int (2147483647 : Int32)))) ∧ (True)) := by
            intro    q188  A187
            have A189 := A187.istoreN (Ls' := #[.val (.ref m), .val (.ref a), .val (.int (0 : Int32)), .val (.int (0 : Int32)), .val (.int (1 : Int32)), .val (.int r158)]) (pc' := 103) d12_102 rfl rfl
            have A190 := A189.iinc (v := (1 : Int32)) (z := (2 : Int32)) (Ls' := #[.val (.ref m), .val (.ref a), .val (.int (0 : Int32)), .val (.int (0 : Int32)), .val (.int (2 : Int32)), .val (.int r158)]) (pc' := 106) d12_103 rfl (by decide) rfl rfl
            have A191 := A190.goto (pc' := 43) d12_106 (by decide) (by decide)
            have A192 := A191.iloadN (v := (0 : Int32)) (pc' := 44) d12_43 rfl rfl
            have A194 := A192.ifYes (pc' := 109) d12_44 (teq (ieq (x := (0 : Int32)) (y := (0 : Int32)) rfl rfl (by decide : (0 : Int) = 0))).1 (by decide) (by decide)
            have A195 := A194.aloadN (v := (.ref m)) (pc' := 110) d12_109 rfl rfl rfl
            have f197 := ((f40.ext E52).other w73 (Or.inr (slot_ne (Or.inr (hw _ (List.mem_of_getElem? (i := 62) rfl))) (Or.inr (hw _ (List.mem_of_getElem? (i := 65) rfl))) (by decide) (t := (.array (.array .byte))) (t' := (.array .int)) (by decide) (by decide))))
            have A196 := A195.getF (pc' := 113) (host := "") d12_110 (Or.inl (hw _ (List.mem_of_getElem? (i := 61) rfl))) Via.refl f197 rfl
            have A198 := A196.iloadN (v := (0 : Int32)) (pc' := 114) d12_113 rfl rfl
            have A199 := A198.iloadN (v := (0 : Int32)) (pc' := 115) d12_114 rfl rfl
            have A201 := A199.ifYes (pc' := 130) d12_115 (teq (ieq (x := (0 : Int32)) (y := (0 : Int32)) rfl rfl (by decide : (0 : Int) = 0))).1 (by decide) (by decide)
            have f203 := e33.ext f98.2
            have A202 := A201.getS (pc' := 133) (host := "") d12_130 (Or.inl (hw _ (List.mem_of_getElem? (i := 97) rfl))) Via.refl f203 rfl
            have f204 := ((f67.ext E52).other w73 (Ne.symm ne25))
            have f205 := (((XE23.wr w39).ext E52).wr w73)
            have f210 := e34.ext f98.2
            obtain ⟨h206, w207, X208, A209⟩ := A202.aastore (i := 0) (pc' := 134) d12_133 rfl f204 (sto_x f204 f205 (hw _ (List.mem_of_getElem? (i := 60) rfl)) rfl rfl (Ins.self f210)) rfl rfl (by decide) g19 rfl
            have A211 := A209.aloadN (v := (.ref m)) (pc' := 135) d12_134 rfl rfl rfl
            have f213 := (f74.other w207 (Or.inl ne25))
            have A212 := A211.getF (pc' := 138) (host := "") d12_135 (Or.inl (hw _ (List.mem_of_getElem? (i := 64) rfl))) Via.refl f213 rfl
            have A214 := A212.iloadN (v := (0 : Int32)) (pc' := 139) d12_138 rfl rfl
            have A215 := A214.iloadN (v := (0 : Int32)) (pc' := 140) d12_139 rfl rfl
            have A217 := A215.ifYes (pc' := 153) d12_140 (teq (ieq (x := (0 : Int32)) (y := (0 : Int32)) rfl rfl (by decide : (0 : Int) = 0))).1 (by decide) (by decide)
            have A218 := A217.ldc (z := (2147483647 : Int32)) (pc' := 155) d12_153 (hw _ (List.mem_of_getElem? (i := 100) rfl)) rfl
            have f219 := ((X53.other w73 (Ne.symm ne57)).other w207 (Ne.symm ne68))
            obtain ⟨h220, w221, X222, A223⟩ := A218.iastore (i := 0) (pc' := 156) d12_155 f219 rfl (by decide) g51 rfl
            have A224 := A223.iinc (v := (0 : Int32)) (z := (1 : Int32)) (Ls' := #[.val (.ref m), .val (.ref a), .val (.int (1 : Int32)), .val (.int (0 : Int32)), .val (.int (2 : Int32)), .val (.int r158)]) (pc' := 159) d12_156 rfl (by decide) rfl rfl
            have A225 := A224.goto (pc' := 32) d12_159 (by decide) (by decide)
            have A226 := A225.iloadN (v := (1 : Int32)) (pc' := 33) d12_32 rfl rfl
            have A227 := A226.aloadN (v := (.ref a)) (pc' := 34) d12_33 rfl rfl rfl
            have f228 := ((f79.other w207 ne26).other w221 ne58)
            have A229 := A227.alen (z := (2 : Int32)) (pc' := 35) d12_34 f228 rfl rfl
            have A231 := A229.icmpNo (pc' := 38) d12_35 (tlt (ilt (x := (1 : Int32)) (y := (2 : Int32)) rfl rfl (by decide : (1 : Int) < 2))).2.1 rfl
            have A232 := A231.iconst (z := (1 : Int32)) (pc' := 39) d12_38 rfl rfl
            have A233 := A232.istoreN (Ls' := #[.val (.ref m), .val (.ref a), .val (.int (1 : Int32)), .val (.int (1 : Int32)), .val (.int (2 : Int32)), .val (.int r158)]) (pc' := 40) d12_39 rfl rfl
            have A234 := A233.iconst (z := (0 : Int32)) (pc' := 41) d12_40 rfl rfl
            have A235 := A234.istore (Ls' := #[.val (.ref m), .val (.ref a), .val (.int (1 : Int32)), .val (.int (1 : Int32)), .val (.int (0 : Int32)), .val (.int r158)]) (pc' := 43) d12_41 rfl rfl
            have A236 := A235.iloadN (v := (1 : Int32)) (pc' := 44) d12_43 rfl rfl
            have A238 := A236.ifNo (pc' := 47) d12_44 (feq (ine (x := (1 : Int32)) (y := (0 : Int32)) rfl rfl (by decide : ¬ ((1 : Int) = 0)))).1 rfl
            have A239 := A238.iload (v := (0 : Int32)) (pc' := 49) d12_47 rfl rfl
            have A240 := A239.aloadN (v := (.ref a)) (pc' := 50) d12_49 rfl rfl rfl
            have A241 := A240.iloadN (v := (1 : Int32)) (pc' := 51) d12_50 rfl rfl
            have A242 := A241.aaload (i := 1) (v := (.ref s1)) (pc' := 52) d12_51 rfl f228 rfl (by decide) rfl rfl
            have f243 := ((((f63.ext E52).wr w73).wr w207).wr w221)
            have f244 := (((((((e12.other w7 (Or.inl e19)).ext E20).other w39 (Or.inl e19)).ext E52).other w73 (Or.inl e19)).other w207 (Or.inl ne32)).other w221 (Or.inl ne64))
            have f245 := (((((((e13.other w7 (Or.inl e19)).ext E20).other w39 (Or.inl e19)).ext E52).other w73 (Or.inl e19)).other w207 (Or.inl ne32)).other w221 (Or.inl ne64))
            have f246 := ((((f65.ext E52).other w73 e20).other w207 ne34).other w221 ne66)
            have f247 := ((f98.wr w207 g19).wr w221 g51)
            obtain ⟨r249, _, ⟨rfl, q250⟩, A248⟩ := W.kI (A242.callV (a := s1) (argsL := []) (rest := [(.int (0 : Int32))]) (C' := 2) (S' := 6) (pc' := 55) d12_52 f243 (hw _ (List.mem_of_getElem? (i := 66) rfl)) (hw _ (List.mem_of_getElem? (i := 67) rfl)) (fun hZ => notFace_of_selects (args := #[]) (mvT hZ (hw _ (List.mem_of_getElem? (i := 69) rfl)))) (hw _ (List.mem_of_getElem? (i := 69) rfl)) (hw _ (List.mem_of_getElem? (i := 68) rfl)) (hw _ (List.mem_of_getElem? (i := 9) rfl)) (hw _ (List.mem_of_getElem? (i := 70) rfl)) (rm13_1 l Z a0 hw n0 [] (s1) (b1) ((upd (fun _ => (.int (0 : Int32))) 0 (.int x2.toInt8.toInt32.toInt8.toInt32))) (_) h220 A242.size f243 f244 f245 f246 f247 e25 (by assumption)) rfl rfl pd_15 rfl rfl (by decide) (by decide) (Nat.le_of_ble_eq_true rfl) (by decide) (by decide) rfl rfl rfl)
            subst q250
            have A253 := A248.icmpNo (pc' := 58) d12_55 (tlt (ilt (x := (0 : Int32)) (y := (1 : Int32)) rfl rfl (by decide : (0 : Int) < 1))).2.1 rfl
            have A254 := A253.aloadN (v := (.ref a)) (pc' := 59) d12_58 rfl rfl rfl
            have A255 := A254.iloadN (v := (1 : Int32)) (pc' := 60) d12_59 rfl rfl
            have A256 := A255.aaload (i := 1) (v := (.ref s1)) (pc' := 61) d12_60 rfl f228 rfl (by decide) rfl rfl
            have A257 := A256.iload (v := (0 : Int32)) (pc' := 63) d12_61 rfl rfl
            obtain ⟨r259, _, ⟨rfl, q260⟩, A258⟩ := W.kI (A257.callV (a := s1) (argsL := [(.int (0 : Int32))]) (rest := []) (C' := 2) (S' := 6) (pc' := 66) d12_63 f243 (hw _ (List.mem_of_getElem? (i := 76) rfl)) (hw _ (List.mem_of_getElem? (i := 77) rfl)) (fun hZ => notFace_of_selects (args := #[]) (mvT hZ (hw _ (List.mem_of_getElem? (i := 79) rfl)))) (hw _ (List.mem_of_getElem? (i := 79) rfl)) (hw _ (List.mem_of_getElem? (i := 78) rfl)) (hw _ (List.mem_of_getElem? (i := 9) rfl)) (hw _ (List.mem_of_getElem? (i := 80) rfl)) (rm15_1_0 l Z a0 hw n0 [] (s1) (b1) ((upd (fun _ => (.int (0 : Int32))) 0 (.int x2.toInt8.toInt32.toInt8.toInt32))) (x2) (_) (_) h220 A257.size f243 f244 f245 f246 (by first | assumption | exact congrArg Value.int (own_bb _)) (by first | assumption | exact congrArg Value.int (own_bb _)) f247 e25 (by first | assumption | exact congrArg Value.int (own_bb _)) e27 (by first | assumption | exact congrArg Value.int (own_bb _))) rfl rfl pd_16 rfl rfl (by decide) (by decide) (Nat.le_of_ble_eq_true rfl) (by decide) (by decide) rfl rfl rfl)
            have A262 := A258.istore (Ls' := #[.val (.ref m), .val (.ref a), .val (.int (1 : Int32)), .val (.int (1 : Int32)), .val (.int (0 : Int32)), .val (.int r259)]) (pc' := 68) d12_66 rfl rfl
            have A263 := A262.iload (v := r259) (pc' := 70) d12_68 rfl rfl
            have A264 := A263.bipush (z := (32 : Int32)) (pc' := 72) d12_70 rfl rfl
            have join266 : ∀ (q289 : True), W l Z n0 y12_MN prog_32_method_1_code 6 (none) R12_MN G h220 102 #[.val (.ref m), .val (.ref a), .val (.int (1 : Int32)), .val (.int (1 : Int32)), .val (.int (0 : Int32)), .val (.int r259)] [(.int (0 : Int32))] 2 6 → Gl R12_MN n0 G (QV fun h => ∃ pl : Addr, ∃ lns : Addr, (Keep h0 h [m]) ∧ (n0 ≤ pl) ∧ (h0.size ≤ pl) ∧ (n0 ≤ lns) ∧ (h0.size ≤ lns) ∧ (Fld Z h m "com/example/dialekt/dialekt/json/MemberNames" "plain" "[[B" (.ref pl)) ∧ (Fld Z h m "com/example/dialekt/dialekt/json/MemberNames" "plainLengths" "[I" (.ref lns)) ∧ (Ars Z h pl (.array .byte) 3 (upd (upd (upd (fun _ => .null) 0 (.ref nb)) 1 (.ref nb)) 2 (.ref nb))) ∧ (Ars Z h lns .int 3 (upd (upd (upd (fun _ => (.int (0 : Int32))) 0 (.int (2147483647 : Int32))) 1 (.int (2147483647 : Int32))) 2 (.int (2147483647 : Int32)))) ∧ (True)) := by
              intro    q289  A288
              have A290 := A288.istoreN (Ls' := #[.val (.ref m), .val (.ref a), .val (.int (1 : Int32)), .val (.int (0 : Int32)), .val (.int (0 : Int32)), .val (.int r259)]) (pc' := 103) d12_102 rfl rfl
              have A291 := A290.iinc (v := (0 : Int32)) (z := (1 : Int32)) (Ls' := #[.val (.ref m), .val (.ref a), .val (.int (1 : Int32)), .val (.int (0 : Int32)), .val (.int (1 : Int32)), .val (.int r259)]) (pc' := 106) d12_103 rfl (by decide) rfl rfl
              have A292 := A291.goto (pc' := 43) d12_106 (by decide) (by decide)
              have A293 := A292.iloadN (v := (0 : Int32)) (pc' := 44) d12_43 rfl rfl
              have A295 := A293.ifYes (pc' := 109) d12_44 (teq (ieq (x := (0 : Int32)) (y := (0 : Int32)) rfl rfl (by decide : (0 : Int) = 0))).1 (by decide) (by decide)
              have A296 := A295.aloadN (v := (.ref m)) (pc' := 110) d12_109 rfl rfl rfl
              have f298 := ((f197.other w207 (Or.inl ne25)).other w221 (Or.inl ne57))
              have A297 := A296.getF (pc' := 113) (host := "") d12_110 (Or.inl (hw _ (List.mem_of_getElem? (i := 61) rfl))) Via.refl f298 rfl
              have A299 := A297.iloadN (v := (1 : Int32)) (pc' := 114) d12_113 rfl rfl
              have A300 := A299.iloadN (v := (0 : Int32)) (pc' := 115) d12_114 rfl rfl
              have A302 := A300.ifYes (pc' := 130) d12_115 (teq (ieq (x := (0 : Int32)) (y := (0 : Int32)) rfl rfl (by decide : (0 : Int) = 0))).1 (by decide) (by decide)
              have f304 := e33.ext f247.2
              have A303 := A302.getS (pc' := 133) (host := "") d12_130 (Or.inl (hw _ (List.mem_of_getElem? (i := 97) rfl))) Via.refl f304 rfl
              have f305 := (X208.other w221 ne68)
              have f306 := ((f205.wr w207).wr w221)
              have f311 := e34.ext f247.2
              obtain ⟨h307, w308, X309, A310⟩ := A303.aastore (i := 1) (pc' := 134) d12_133 rfl f305 (sto_x f305 f306 (hw _ (List.mem_of_getElem? (i := 60) rfl)) rfl rfl (Ins.self f311)) rfl rfl (by decide) g19 rfl
              have A312 := A310.aloadN (v := (.ref m)) (pc' := 135) d12_134 rfl rfl rfl
              have f314 := ((f213.other w221 (Or.inl ne57)).other w308 (Or.inl ne25))
              have A313 := A312.getF (pc' := 138) (host := "") d12_135 (Or.inl (hw _ (List.mem_of_getElem? (i := 64) rfl))) Via.refl f314 rfl
              have A315 := A313.iloadN (v := (1 : Int32)) (pc' := 139) d12_138 rfl rfl
              have A316 := A315.iloadN (v := (0 : Int32)) (pc' := 140) d12_139 rfl rfl
              have A318 := A316.ifYes (pc' := 153) d12_140 (teq (ieq (x := (0 : Int32)) (y := (0 : Int32)) rfl rfl (by decide : (0 : Int) = 0))).1 (by decide) (by decide)
              have A319 := A318.ldc (z := (2147483647 : Int32)) (pc' := 155) d12_153 (hw _ (List.mem_of_getElem? (i := 100) rfl)) rfl
              have f320 := (X222.other w308 (Ne.symm ne68))
              obtain ⟨h321, w322, X323, A324⟩ := A319.iastore (i := 1) (pc' := 156) d12_155 f320 rfl (by decide) g51 rfl
              have A325 := A324.iinc (v := (1 : Int32)) (z := (2 : Int32)) (Ls' := #[.val (.ref m), .val (.ref a), .val (.int (2 : Int32)), .val (.int (0 : Int32)), .val (.int (1 : Int32)), .val (.int r259)]) (pc' := 159) d12_156 rfl (by decide) rfl rfl
              have A326 := A325.goto (pc' := 32) d12_159 (by decide) (by decide)
              have A327 := A326.iloadN (v := (2 : Int32)) (pc' := 33) d12_32 rfl rfl
              have A328 := A327.aloadN (v := (.ref a)) (pc' := 34) d12_33 rfl rfl rfl
              have f329 := ((f228.other w308 ne26).other w322 ne58)
              have A330 := A328.alen (z := (2 : Int32)) (pc' := 35) d12_34 f329 rfl rfl
              have A332 := A330.icmpYes (pc' := 162) d12_35 (flt (inlt (x := (2 : Int32)) (y := (2 : Int32)) rfl rfl (by decide : ¬ ((2 : Int) < 2)))).2.1 (by decide) (by decide)
              have A333 := A332.aloadN (v := (.ref m)) (pc' := 163) d12_162 rfl rfl rfl
              have f335 := ((f298.other w308 (Or.inl ne25)).other w322 (Or.inl ne57))
              have A334 := A333.getF (pc' := 166) (host := "") d12_163 (Or.inl (hw _ (List.mem_of_getElem? (i := 61) rfl))) Via.refl f335 rfl
              have A336 := A334.aloadN (v := (.ref a)) (pc' := 167) d12_166 rfl rfl rfl
              have A337 := A336.alen (z := (2 : Int32)) (pc' := 168) d12_167 f329 rfl rfl
              have f339 := ((f247.wr w308 g19).wr w322 g51)
              have f340 := e33.ext f339.2
              have A338 := A337.getS (pc' := 171) (host := "") d12_168 (Or.inl (hw _ (List.mem_of_getElem? (i := 97) rfl))) Via.refl f340 rfl
              have f341 := (X309.other w322 ne68)
              have f342 := ((f306.wr w308).wr w322)
              have f347 := e34.ext f339.2
              obtain ⟨h343, w344, X345, A346⟩ := A338.aastore (i := 2) (pc' := 172) d12_171 rfl f341 (sto_x f341 f342 (hw _ (List.mem_of_getElem? (i := 60) rfl)) rfl rfl (Ins.self f347)) rfl rfl (by decide) g19 rfl
              have A348 := A346.aloadN (v := (.ref m)) (pc' := 173) d12_172 rfl rfl rfl
              have f350 := ((f314.other w322 (Or.inl ne57)).other w344 (Or.inl ne25))
              have A349 := A348.getF (pc' := 176) (host := "") d12_173 (Or.inl (hw _ (List.mem_of_getElem? (i := 64) rfl))) Via.refl f350 rfl
              have A351 := A349.aloadN (v := (.ref a)) (pc' := 177) d12_176 rfl rfl rfl
              have f352 := (f329.other w344 ne26)
              have A353 := A351.alen (z := (2 : Int32)) (pc' := 178) d12_177 f352 rfl rfl
              have A354 := A353.ldc (z := (2147483647 : Int32)) (pc' := 180) d12_178 (hw _ (List.mem_of_getElem? (i := 100) rfl)) rfl
              have f355 := (X323.other w344 (Ne.symm ne68))
              obtain ⟨h356, w357, X358, A359⟩ := A354.iastore (i := 2) (pc' := 181) d12_180 f355 rfl (by decide) g51 rfl
              have z360 : h0.size ≤ b17 := Nat.le_trans (Nat.le_trans (Nat.le_refl _) (Nat.le_of_eq w7.size.symm)) (Nat.le_of_eq eb18.symm)
              have z361 : h0.size ≤ b49 := Nat.le_trans (Nat.le_trans (Nat.le_trans (Nat.le_trans (Nat.le_refl _) (Nat.le_of_eq w7.size.symm)) E20.1) (Nat.le_of_eq w39.size.symm)) (Nat.le_of_eq eb50.symm)
              have K362 : Keep h0 h356 [m] := ((((((((((((Keep.refl h0 [m]).wr w7 (Or.inl (List.mem_of_getElem? (i := 0) rfl))).ext E20).wr w39 (Or.inl (List.mem_of_getElem? (i := 0) rfl))).ext E52).wr w73 (Or.inl (List.mem_of_getElem? (i := 0) rfl))).wr w207 (Or.inr z360)).wr w221 (Or.inr z361)).wr w308 (Or.inr z360)).wr w322 (Or.inr z361)).wr w344 (Or.inr z360)).wr w357 (Or.inr z361))
              have f363 := ((f335.other w344 (Or.inl ne25)).other w357 (Or.inl ne57))
              have f364 := (f350.other w357 (Or.inl ne57))
              have f365 := (X345.other w357 ne68)
              refine A359.retV d12_181 (by decide) (by decide) ⟨rfl, ⟨b17, b49, K362, g19, z360, g51, z361, f363, f364, f365, X358, ?_⟩⟩
              trivial
            by_cases c265 : r259.toInt < 32
            · have A267 := A264.icmpYes (pc' := 101) d12_72 (tlt (ilt (x := r259) (y := (32 : Int32)) rfl rfl c265)).1 (by decide) (by decide)
              have A268 := A267.iconst (z := (0 : Int32)) (pc' := 102) d12_101 rfl rfl
              exact join266    (by trivial)  A268
            · have A269 := A264.icmpNo (pc' := 75) d12_72 (flt (inlt (x := r259) (y := (32 : Int32)) rfl rfl c265)).1 rfl
              have A270 := A269.iload (v := r259) (pc' := 77) d12_75 rfl rfl
              have A271 := A270.sipush (z := (128 : Int32)) (pc' := 80) d12_77 rfl rfl
              by_cases c272 : r259.toInt < 128
              · have A273 := A271.icmpNo (pc' := 83) d12_80 (tlt (ilt (x := r259) (y := (128 : Int32)) rfl rfl c272)).2.1 rfl
                have A274 := A273.iload (v := r259) (pc' := 85) d12_83 rfl rfl
                have A275 := A274.bipush (z := (34 : Int32)) (pc' := 87) d12_85 rfl rfl
                by_cases c276 : r259.toInt = 34
                · have A277 := A275.icmpYes (pc' := 101) d12_87 (teq (ieq (x := r259) (y := (34 : Int32)) rfl rfl c276)).1 (by decide) (by decide)
                  have A278 := A277.iconst (z := (0 : Int32)) (pc' := 102) d12_101 rfl rfl
                  exact join266    (by trivial)  A278
                · have A279 := A275.icmpNo (pc' := 90) d12_87 (feq (ine (x := r259) (y := (34 : Int32)) rfl rfl c276)).1 rfl
                  have A280 := A279.iload (v := r259) (pc' := 92) d12_90 rfl rfl
                  have A281 := A280.bipush (z := (92 : Int32)) (pc' := 94) d12_92 rfl rfl
                  by_cases c282 : r259.toInt = 92
                  · have A283 := A281.icmpYes (pc' := 101) d12_94 (teq (ieq (x := r259) (y := (92 : Int32)) rfl rfl c282)).1 (by decide) (by decide)
                    have A284 := A283.iconst (z := (0 : Int32)) (pc' := 102) d12_101 rfl rfl
                    exact join266    (by trivial)  A284
                  · exfalso
                    omega
              · have A286 := A271.icmpYes (pc' := 101) d12_80 (flt (inlt (x := r259) (y := (128 : Int32)) rfl rfl c272)).2.1 (by decide) (by decide)
                have A287 := A286.iconst (z := (0 : Int32)) (pc' := 102) d12_101 rfl rfl
                exact join266    (by trivial)  A287
          by_cases c164 : r158.toInt < 32
          · have A166 := A163.icmpYes (pc' := 101) d12_72 (tlt (ilt (x := r158) (y := (32 : Int32)) rfl rfl c164)).1 (by decide) (by decide)
            have A167 := A166.iconst (z := (0 : Int32)) (pc' := 102) d12_101 rfl rfl
            exact join165    (by trivial)  A167
          · have A168 := A163.icmpNo (pc' := 75) d12_72 (flt (inlt (x := r158) (y := (32 : Int32)) rfl rfl c164)).1 rfl
            have A169 := A168.iload (v := r158) (pc' := 77) d12_75 rfl rfl
            have A170 := A169.sipush (z := (128 : Int32)) (pc' := 80) d12_77 rfl rfl
            by_cases c171 : r158.toInt < 128
            · have A172 := A170.icmpNo (pc' := 83) d12_80 (tlt (ilt (x := r158) (y := (128 : Int32)) rfl rfl c171)).2.1 rfl
              have A173 := A172.iload (v := r158) (pc' := 85) d12_83 rfl rfl
              have A174 := A173.bipush (z := (34 : Int32)) (pc' := 87) d12_85 rfl rfl
              by_cases c175 : r158.toInt = 34
              · have A176 := A174.icmpYes (pc' := 101) d12_87 (teq (ieq (x := r158) (y := (34 : Int32)) rfl rfl c175)).1 (by decide) (by decide)
                have A177 := A176.iconst (z := (0 : Int32)) (pc' := 102) d12_101 rfl rfl
                exact join165    (by trivial)  A177
              · have A178 := A174.icmpNo (pc' := 90) d12_87 (feq (ine (x := r158) (y := (34 : Int32)) rfl rfl c175)).1 rfl
                have A179 := A178.iload (v := r158) (pc' := 92) d12_90 rfl rfl
                have A180 := A179.bipush (z := (92 : Int32)) (pc' := 94) d12_92 rfl rfl
                by_cases c181 : r158.toInt = 92
                · have A182 := A180.icmpYes (pc' := 101) d12_94 (teq (ieq (x := r158) (y := (92 : Int32)) rfl rfl c181)).1 (by decide) (by decide)
                  have A183 := A182.iconst (z := (0 : Int32)) (pc' := 102) d12_101 rfl rfl
                  exact join165    (by trivial)  A183
                · exfalso
                  omega
            · have A185 := A170.icmpYes (pc' := 101) d12_80 (flt (inlt (x := r158) (y := (128 : Int32)) rfl rfl c171)).2.1 (by decide) (by decide)
              have A186 := A185.iconst (z := (0 : Int32)) (pc' := 102) d12_101 rfl rfl
              exact join165    (by trivial)  A186
    · exfalso
      omega
abbrev y12_MP : MethodName := (⟨"com/example/dialekt/dialekt/json/MemberNames", "<init>", "([Ljava/lang/String;)V"⟩ : MethodName)
abbrev R12_MP : Room := { frames := 5, cells := 3, slots := 7, locals := 77 }
set_option maxRecDepth 65536 in
set_option maxHeartbeats 4000000 in
theorem ef12_MP (m : Addr) (a : Addr)  (mid : MethodId) : entryFrame mid #[(.ref m), (.ref a)] 6 = mkF mid 0 #[.val (.ref m), .val (.ref a), .unset, .unset, .unset, .unset] [] := by first | (simp [entryFrame, mkF, argsToLocals, Value.category]; done) | rfl
set_option maxRecDepth 65536 in
set_option maxHeartbeats 40000000 in
theorem rm12_MP (l : Launch) (Z : State) (a0 : Array Value) (hw : ∀ d ∈ tables_1, d.before a0 Z = true) (n0 : Nat) (ws : List Jvm.Cond) (m : Addr) (a : Addr) (s0 : Addr) (s1 : Addr) (b0 : Addr) (b1 : Addr) (iso : Addr) (u8 : Addr) (nb : Addr) (x0 : Int32) (x1 : Int32) (x2 : Int32) (cs : Int32) (fm : Value) (h0 : Heap) (hn0 : n0 ≤ h0.size) (e0 : Exa Z h0 m "com/example/dialekt/dialekt/json/MemberNames") (e1 : n0 ≤ m) (e2 : Fld Z h0 m "com/example/dialekt/dialekt/json/MemberNames" "names" "[Ljava/lang/String;" .null) (e3 : Fld Z h0 m "com/example/dialekt/dialekt/json/MemberNames" "plain" "[[B" .null) (e4 : Fld Z h0 m "com/example/dialekt/dialekt/json/MemberNames" "plainLengths" "[I" .null) (e5 : Ars Z h0 a (.object "java/lang/String") 2 (upd (upd (fun _ => .null) 0 (.ref s0)) 1 (.ref s1))) (e6 : Exa Z h0 s0 "java/lang/String") (e7 : Fld Z h0 s0 "java/lang/String" "value" "[B" (.ref b0)) (e8 : Fld Z h0 s0 "java/lang/String" "coder" "B" (.int (0 : Int32))) (e9 : Ars Z h0 b0 .byte 2 (upd (upd (fun _ => (.int (0 : Int32))) 0 (.int x0.toInt8.toInt32.toInt8.toInt32)) 1 (.int x1.toInt8.toInt32.toInt8.toInt32))) (e10 : Exa Z h0 b0 "[B") (e11 : Exa Z h0 s1 "java/lang/String") (e12 : Fld Z h0 s1 "java/lang/String" "value" "[B" (.ref b1)) (e13 : Fld Z h0 s1 "java/lang/String" "coder" "B" (.int (0 : Int32))) (e14 : Ars Z h0 b1 .byte 1 (upd (fun _ => (.int (0 : Int32))) 0 (.int x2.toInt8.toInt32.toInt8.toInt32))) (e15 : Exa Z h0 b1 "[B") (e16 : a ≠ m) (e17 : s0 ≠ m) (e18 : b0 ≠ m) (e19 : s1 ≠ m) (e20 : b1 ≠ m) (e21 : 0 ≤ x0.toInt ∧ x0.toInt ≤ 255) (e22 : 0 ≤ x1.toInt ∧ x1.toInt ≤ 255) (e23 : 0 ≤ x2.toInt ∧ x2.toInt ≤ 255) (e24 : Old Z n0 h0) (e25 : Sta Z Z.heap "java/lang/String" "COMPACT_STRINGS" "Z" (.int cs)) (e26 : cs.toInt ≠ 0) (e27 : Sta Z Z.heap "jdk/internal/util/Preconditions" "SIOOBE_FORMATTER" "Ljava/util/function/BiFunction;" fm) (e28 : fm.isRef = true) (e29 : Sta Z Z.heap "sun/nio/cs/UTF_8" "INSTANCE" "Lsun/nio/cs/UTF_8;" (.ref u8)) (e30 : Sta Z Z.heap "sun/nio/cs/ISO_8859_1" "INSTANCE" "Lsun/nio/cs/ISO_8859_1;" (.ref iso)) (e31 : iso ≠ u8) (e32 : Sta Z Z.heap "java/nio/charset/StandardCharsets" "ISO_8859_1" "Ljava/nio/charset/Charset;" (.ref iso)) (e33 : Sta Z Z.heap "com/example/dialekt/dialekt/json/MemberNames" "NO_BYTES" "[B" (.ref nb)) (e34 : Exa Z Z.heap nb "[B") (e35 : Ars Z Z.heap nb .byte 0 (fun _ => (.int (0 : Int32)))) (e36 : (32 ≤ x0.toInt ∧ x0.toInt < 128 ∧ ¬ (x0.toInt = 34) ∧ ¬ (x0.toInt = 92)) ∧ ¬ (32 ≤ x1.toInt ∧ x1.toInt < 128 ∧ ¬ (x1.toInt = 34) ∧ ¬ (x1.toInt = 92))) (e37 : 32 ≤ x2.toInt ∧ x2.toInt < 128 ∧ ¬ (x2.toInt = 34) ∧ ¬ (x2.toInt = 92)) :
    Ctr l Z n0 y12_MP prog_32_method_1_code 6 (none) ws R12_MP #[(.ref m), (.ref a)] h0 (QV fun h => ∃ pl : Addr, ∃ lns : Addr, ∃ q1 : Addr, (Keep h0 h [m]) ∧ (n0 ≤ pl) ∧ (h0.size ≤ pl) ∧ (n0 ≤ lns) ∧ (h0.size ≤ lns) ∧ (n0 ≤ q1) ∧ (h0.size ≤ q1) ∧ (Fld Z h m "com/example/dialekt/dialekt/json/MemberNames" "plain" "[[B" (.ref pl)) ∧ (Fld Z h m "com/example/dialekt/dialekt/json/MemberNames" "plainLengths" "[I" (.ref lns)) ∧ (Ars Z h pl (.array .byte) 3 (upd (upd (upd (fun _ => .null) 0 (.ref nb)) 1 (.ref q1)) 2 (.ref nb))) ∧ (Ars Z h lns .int 3 (upd (upd (upd (fun _ => (.int (0 : Int32))) 0 (.int (2147483647 : Int32))) 1 (.int (1 : Int32))) 2 (.int (2147483647 : Int32)))) ∧ (Ars Z h q1 .byte 1 (upd (fun _ => (.int (0 : Int32))) 0 (.int x2.toInt8.toInt32.toInt8.toInt32))) ∧ (True)) := by
  refine ctr_of pn12 hn0 (ef12_MP m a) fun G A0 => ?_
  have A1 := A0.aloadN (v := (.ref m)) (pc' := 1) d12_0 rfl rfl rfl
  have A2 := A1.initO (pc' := 4) d12_1 (hw _ (List.mem_of_getElem? (i := 56) rfl)) (hw _ (List.mem_of_getElem? (i := 19) rfl)) (hw _ (List.mem_of_getElem? (i := 20) rfl)) rfl (by decide) (Nat.le_of_ble_eq_true rfl) rfl
  have A3 := A2.aloadN (v := (.ref m)) (pc' := 5) d12_4 rfl rfl rfl
  have A4 := A3.aloadN (v := (.ref a)) (pc' := 6) d12_5 rfl rfl rfl
  obtain ⟨h6, w7, A5⟩ := A4.putF (pc' := 9) (ty := (.array (.object "java/lang/String"))) (host := "") d12_6 (Or.inl (hw _ (List.mem_of_getElem? (i := 57) rfl))) Via.refl e2 e0 (Or.inr ⟨(hw _ (List.mem_of_getElem? (i := 58) rfl)), rfl, rfl⟩) (hw _ (List.mem_of_getElem? (i := 51) rfl)) (by decide) rfl rfl e1 rfl
  have f8 := e2.same w7
  have A9 := A5.aloadN (v := (.ref m)) (pc' := 10) d12_9 rfl rfl rfl
  have A10 := A9.aloadN (v := (.ref a)) (pc' := 11) d12_10 rfl rfl rfl
  have f11 := (e5.other w7 e16)
  have A12 := A10.alen (z := (2 : Int32)) (pc' := 12) d12_11 f11 rfl rfl
  have A13 := A12.iconst (z := (1 : Int32)) (pc' := 13) d12_12 rfl rfl
  have A14 := A13.iadd (pc' := 14) d12_13 rfl
  have A15 := A14.topI (z := (3 : Int32)) (by decide)
  obtain ⟨h16, b17, eb18, g19, E20, X21, XE23, A22⟩ := A15.newRX (z := (3 : Int32)) (N := 3) (cap := 3) (C' := 1) (S' := 3) (pc' := 17) (ad := "[[B") d12_14 rfl (hw _ (List.mem_of_getElem? (i := 59) rfl)) (hw _ (List.mem_of_getElem? (i := 60) rfl)) rfl (by decide) (by decide) (by decide) (by decide) rfl rfl rfl (by decide)
  have f24 := (e0.wr w7)
  have ne25 : m ≠ b17 := Nat.ne_of_lt (Nat.lt_of_lt_of_le f24.lt (Nat.le_of_eq eb18.symm))
  have ne26 : a ≠ b17 := Nat.ne_of_lt (Nat.lt_of_lt_of_le f11.lt (Nat.le_of_eq eb18.symm))
  have f27 := (e6.wr w7)
  have ne28 : s0 ≠ b17 := Nat.ne_of_lt (Nat.lt_of_lt_of_le f27.lt (Nat.le_of_eq eb18.symm))
  have f29 := (e9.other w7 e18)
  have ne30 : b0 ≠ b17 := Nat.ne_of_lt (Nat.lt_of_lt_of_le f29.lt (Nat.le_of_eq eb18.symm))
  have f31 := (e11.wr w7)
  have ne32 : s1 ≠ b17 := Nat.ne_of_lt (Nat.lt_of_lt_of_le f31.lt (Nat.le_of_eq eb18.symm))
  have f33 := (e14.other w7 e20)
  have ne34 : b1 ≠ b17 := Nat.ne_of_lt (Nat.lt_of_lt_of_le f33.lt (Nat.le_of_eq eb18.symm))
  have f35 := ((e3.other w7 (Or.inr (slot_ne (Or.inr (hw _ (List.mem_of_getElem? (i := 62) rfl))) (Or.inr (hw _ (List.mem_of_getElem? (i := 58) rfl))) (by decide) (t := (.array (.array .byte))) (t' := (.array (.object "java/lang/String"))) (by decide) (by decide)))).ext E20)
  have f36 := (f24.ext E20)
  obtain ⟨h38, w39, A37⟩ := A22.putF (pc' := 20) (ty := (.array (.array .byte))) (host := "") d12_17 (Or.inl (hw _ (List.mem_of_getElem? (i := 61) rfl))) Via.refl f35 f36 (Or.inr ⟨(hw _ (List.mem_of_getElem? (i := 62) rfl)), rfl, rfl⟩) (hw _ (List.mem_of_getElem? (i := 51) rfl)) (by decide) rfl rfl e1 rfl
  have f40 := f35.same w39
  have A41 := A37.aloadN (v := (.ref m)) (pc' := 21) d12_20 rfl rfl rfl
  have A42 := A41.aloadN (v := (.ref a)) (pc' := 22) d12_21 rfl rfl rfl
  have f43 := ((f11.ext E20).other w39 e16)
  have A44 := A42.alen (z := (2 : Int32)) (pc' := 23) d12_22 f43 rfl rfl
  have A45 := A44.iconst (z := (1 : Int32)) (pc' := 24) d12_23 rfl rfl
  have A46 := A45.iadd (pc' := 25) d12_24 rfl
  have A47 := A46.topI (z := (3 : Int32)) (by decide)
  obtain ⟨h48, b49, eb50, g51, E52, X53, XE55, A54⟩ := A47.newP (z := (3 : Int32)) (N := 3) (cap := 3) (C' := 2) (S' := 6) (pc' := 27) d12_25 (hw _ (List.mem_of_getElem? (i := 63) rfl)) rfl (by decide) (by decide) (by decide) (by decide) rfl rfl rfl rfl
  have f56 := (f36.wr w39)
  have ne57 : m ≠ b49 := Nat.ne_of_lt (Nat.lt_of_lt_of_le f56.lt (Nat.le_of_eq eb50.symm))
  have ne58 : a ≠ b49 := Nat.ne_of_lt (Nat.lt_of_lt_of_le f43.lt (Nat.le_of_eq eb50.symm))
  have f59 := ((f27.ext E20).wr w39)
  have ne60 : s0 ≠ b49 := Nat.ne_of_lt (Nat.lt_of_lt_of_le f59.lt (Nat.le_of_eq eb50.symm))
  have f61 := ((f29.ext E20).other w39 e18)
  have ne62 : b0 ≠ b49 := Nat.ne_of_lt (Nat.lt_of_lt_of_le f61.lt (Nat.le_of_eq eb50.symm))
  have f63 := ((f31.ext E20).wr w39)
  have ne64 : s1 ≠ b49 := Nat.ne_of_lt (Nat.lt_of_lt_of_le f63.lt (Nat.le_of_eq eb50.symm))
  have f65 := ((f33.ext E20).other w39 e20)
  have ne66 : b1 ≠ b49 := Nat.ne_of_lt (Nat.lt_of_lt_of_le f65.lt (Nat.le_of_eq eb50.symm))
  have f67 := (X21.other w39 (Ne.symm ne25))
  have ne68 : b17 ≠ b49 := Nat.ne_of_lt (Nat.lt_of_lt_of_le f67.lt (Nat.le_of_eq eb50.symm))
  change Exa Z h48 b49 "[I" at XE55
  change Ars Z h48 b49 .int 3 (fun _ => (.int (0 : Int32))) at X53
  have f69 := ((((e4.other w7 (Or.inr (slot_ne (Or.inr (hw _ (List.mem_of_getElem? (i := 65) rfl))) (Or.inr (hw _ (List.mem_of_getElem? (i := 58) rfl))) (by decide) (t := (.array .int)) (t' := (.array (.object "java/lang/String"))) (by decide) (by decide)))).ext E20).other w39 (Or.inr (slot_ne (Or.inr (hw _ (List.mem_of_getElem? (i := 65) rfl))) (Or.inr (hw _ (List.mem_of_getElem? (i := 62) rfl))) (by decide) (t := (.array .int)) (t' := (.array (.array .byte))) (by decide) (by decide)))).ext E52)
  have f70 := (f56.ext E52)
  obtain ⟨h72, w73, A71⟩ := A54.putF (pc' := 30) (ty := (.array .int)) (host := "") d12_27 (Or.inl (hw _ (List.mem_of_getElem? (i := 64) rfl))) Via.refl f69 f70 (Or.inr ⟨(hw _ (List.mem_of_getElem? (i := 65) rfl)), rfl, rfl⟩) (hw _ (List.mem_of_getElem? (i := 51) rfl)) (by decide) rfl rfl e1 rfl
  have f74 := f69.same w73
  have A75 := A71.iconst (z := (0 : Int32)) (pc' := 31) d12_30 rfl rfl
  have A76 := A75.istoreN (Ls' := #[.val (.ref m), .val (.ref a), .val (.int (0 : Int32)), .unset, .unset, .unset]) (pc' := 32) d12_31 rfl rfl
  have A77 := A76.iloadN (v := (0 : Int32)) (pc' := 33) d12_32 rfl rfl
  have A78 := A77.aloadN (v := (.ref a)) (pc' := 34) d12_33 rfl rfl rfl
  have f79 := ((f43.ext E52).other w73 e16)
  have A80 := A78.alen (z := (2 : Int32)) (pc' := 35) d12_34 f79 rfl rfl
  have A82 := A80.icmpNo (pc' := 38) d12_35 (tlt (ilt (x := (0 : Int32)) (y := (2 : Int32)) rfl rfl (by decide : (0 : Int) < 2))).2.1 rfl
  have A83 := A82.iconst (z := (1 : Int32)) (pc' := 39) d12_38 rfl rfl
  have A84 := A83.istoreN (Ls' := #[.val (.ref m), .val (.ref a), .val (.int (0 : Int32)), .val (.int (1 : Int32)), .unset, .unset]) (pc' := 40) d12_39 rfl rfl
  have A85 := A84.iconst (z := (0 : Int32)) (pc' := 41) d12_40 rfl rfl
  have A86 := A85.istore (Ls' := #[.val (.ref m), .val (.ref a), .val (.int (0 : Int32)), .val (.int (1 : Int32)), .val (.int (0 : Int32)), .unset]) (pc' := 43) d12_41 rfl rfl
  have A87 := A86.iloadN (v := (1 : Int32)) (pc' := 44) d12_43 rfl rfl
  have A89 := A87.ifNo (pc' := 47) d12_44 (feq (ine (x := (1 : Int32)) (y := (0 : Int32)) rfl rfl (by decide : ¬ ((1 : Int) = 0)))).1 rfl
  have A90 := A89.iload (v := (0 : Int32)) (pc' := 49) d12_47 rfl rfl
  have A91 := A90.aloadN (v := (.ref a)) (pc' := 50) d12_49 rfl rfl rfl
  have A92 := A91.iloadN (v := (0 : Int32)) (pc' := 51) d12_50 rfl rfl
  have A93 := A92.aaload (i := 0) (v := (.ref s0)) (pc' := 52) d12_51 rfl f79 rfl (by decide) rfl rfl
  have f94 := ((f59.ext E52).wr w73)
  have f95 := (((((e7.other w7 (Or.inl e17)).ext E20).other w39 (Or.inl e17)).ext E52).other w73 (Or.inl e17))
  have f96 := (((((e8.other w7 (Or.inl e17)).ext E20).other w39 (Or.inl e17)).ext E52).other w73 (Or.inl e17))
  have f97 := ((f61.ext E52).other w73 e18)
  have f98 := (((((e24.wr w7 e1).ext E20).wr w39 e1).ext E52).wr w73 e1)
  obtain ⟨r100, _, ⟨rfl, q101⟩, A99⟩ := W.kI (A93.callV (a := s0) (argsL := []) (rest := [(.int (0 : Int32))]) (C' := 2) (S' := 6) (pc' := 55) d12_52 f94 (hw _ (List.mem_of_getElem? (i := 66) rfl)) (hw _ (List.mem_of_getElem? (i := 67) rfl)) (fun hZ => notFace_of_selects (args := #[]) (mvT hZ (hw _ (List.mem_of_getElem? (i := 69) rfl)))) (hw _ (List.mem_of_getElem? (i := 69) rfl)) (hw _ (List.mem_of_getElem? (i := 68) rfl)) (hw _ (List.mem_of_getElem? (i := 9) rfl)) (hw _ (List.mem_of_getElem? (i := 70) rfl)) (rm13_2 l Z a0 hw n0 [] (s0) (b0) ((upd (upd (fun _ => (.int (0 : Int32))) 0 (.int x0.toInt8.toInt32.toInt8.toInt32)) 1 (.int x1.toInt8.toInt32.toInt8.toInt32))) (_) h72 A93.size f94 f95 f96 f97 f98 e25 (by assumption)) rfl rfl pd_15 rfl rfl (by decide) (by decide) (Nat.le_of_ble_eq_true rfl) (by decide) (by decide) rfl rfl rfl)
  subst q101
  have A104 := A99.icmpNo (pc' := 58) d12_55 (tlt (ilt (x := (0 : Int32)) (y := (2 : Int32)) rfl rfl (by decide : (0 : Int) < 2))).2.1 rfl
  have A105 := A104.aloadN (v := (.ref a)) (pc' := 59) d12_58 rfl rfl rfl
  have A106 := A105.iloadN (v := (0 : Int32)) (pc' := 60) d12_59 rfl rfl
  have A107 := A106.aaload (i := 0) (v := (.ref s0)) (pc' := 61) d12_60 rfl f79 rfl (by decide) rfl rfl
  have A108 := A107.iload (v := (0 : Int32)) (pc' := 63) d12_61 rfl rfl
  obtain ⟨r110, _, ⟨rfl, q111⟩, A109⟩ := W.kI (A108.callV (a := s0) (argsL := [(.int (0 : Int32))]) (rest := []) (C' := 2) (S' := 6) (pc' := 66) d12_63 f94 (hw _ (List.mem_of_getElem? (i := 76) rfl)) (hw _ (List.mem_of_getElem? (i := 77) rfl)) (fun hZ => notFace_of_selects (args := #[]) (mvT hZ (hw _ (List.mem_of_getElem? (i := 79) rfl)))) (hw _ (List.mem_of_getElem? (i := 79) rfl)) (hw _ (List.mem_of_getElem? (i := 78) rfl)) (hw _ (List.mem_of_getElem? (i := 9) rfl)) (hw _ (List.mem_of_getElem? (i := 80) rfl)) (rm15_2_0 l Z a0 hw n0 [] (s0) (b0) ((upd (upd (fun _ => (.int (0 : Int32))) 0 (.int x0.toInt8.toInt32.toInt8.toInt32)) 1 (.int x1.toInt8.toInt32.toInt8.toInt32))) (x0) (_) (_) h72 A108.size f94 f95 f96 f97 (by first | assumption | exact congrArg Value.int (own_bb _)) (by first | assumption | exact congrArg Value.int (own_bb _)) f98 e25 (by first | assumption | exact congrArg Value.int (own_bb _)) e27 (by first | assumption | exact congrArg Value.int (own_bb _))) rfl rfl pd_16 rfl rfl (by decide) (by decide) (Nat.le_of_ble_eq_true rfl) (by decide) (by decide) rfl rfl rfl)
  have A113 := A109.istore (Ls' := #[.val (.ref m), .val (.ref a), .val (.int (0 : Int32)), .val (.int (1 : Int32)), .val (.int (0 : Int32)), .val (.int r110)]) (pc' := 68) d12_66 rfl rfl
  have A114 := A113.iload (v := r110) (pc' := 70) d12_68 rfl rfl
  have A115 := A114.bipush (z := (32 : Int32)) (pc' := 72) d12_70 rfl rfl
  by_cases c116 : r110.toInt < 32
  · exfalso
    omega
  · have A119 := A115.icmpNo (pc' := 75) d12_72 (flt (inlt (x := r110) (y := (32 : Int32)) rfl rfl c116)).1 rfl
    have A120 := A119.iload (v := r110) (pc' := 77) d12_75 rfl rfl
    have A121 := A120.sipush (z := (128 : Int32)) (pc' := 80) d12_77 rfl rfl
    by_cases c122 : r110.toInt < 128
    · have A123 := A121.icmpNo (pc' := 83) d12_80 (tlt (ilt (x := r110) (y := (128 : Int32)) rfl rfl c122)).2.1 rfl
      have A124 := A123.iload (v := r110) (pc' := 85) d12_83 rfl rfl
      have A125 := A124.bipush (z := (34 : Int32)) (pc' := 87) d12_85 rfl rfl
      by_cases c126 : r110.toInt = 34
      · exfalso
        omega
      · have A128 := A125.icmpNo (pc' := 90) d12_87 (feq (ine (x := r110) (y := (34 : Int32)) rfl rfl c126)).1 rfl
        have A129 := A128.iload (v := r110) (pc' := 92) d12_90 rfl rfl
        have A130 := A129.bipush (z := (92 : Int32)) (pc' := 94) d12_92 rfl rfl
        by_cases c131 : r110.toInt = 92
        · exfalso
          omega
        · have A133 := A130.icmpNo (pc' := 97) d12_94 (feq (ine (x := r110) (y := (92 : Int32)) rfl rfl c131)).1 rfl
          have A134 := A133.iconst (z := (1 : Int32)) (pc' := 98) d12_97 rfl rfl
          have A135 := A134.goto (pc' := 102) d12_98 (by decide) (by decide)
          have A137 := A135.istoreN (Ls' := #[.val (.ref m), .val (.ref a), .val (.int (0 : Int32)), .val (.int (1 : Int32)), .val (.int (0 : Int32)), .val (.int r110)]) (pc' := 103) d12_102 rfl rfl
          have A138 := A137.iinc (v := (0 : Int32)) (z := (1 : Int32)) (Ls' := #[.val (.ref m), .val (.ref a), .val (.int (0 : Int32)), .val (.int (1 : Int32)), .val (.int (1 : Int32)), .val (.int r110)]) (pc' := 106) d12_103 rfl (by decide) rfl rfl
          have A139 := A138.goto (pc' := 43) d12_106 (by decide) (by decide)
          have A140 := A139.iloadN (v := (1 : Int32)) (pc' := 44) d12_43 rfl rfl
          have A142 := A140.ifNo (pc' := 47) d12_44 (feq (ine (x := (1 : Int32)) (y := (0 : Int32)) rfl rfl (by decide : ¬ ((1 : Int) = 0)))).1 rfl
          have A143 := A142.iload (v := (1 : Int32)) (pc' := 49) d12_47 rfl rfl
          have A144 := A143.aloadN (v := (.ref a)) (pc' := 50) d12_49 rfl rfl rfl
          have A145 := A144.iloadN (v := (0 : Int32)) (pc' := 51) d12_50 rfl rfl
          have A146 := A145.aaload (i := 0) (v := (.ref s0)) (pc' := 52) d12_51 rfl f79 rfl (by decide) rfl rfl
          obtain ⟨r148, _, ⟨rfl, q149⟩, A147⟩ := W.kI (A146.callV (a := s0) (argsL := []) (rest := [(.int (1 : Int32))]) (C' := 2) (S' := 6) (pc' := 55) d12_52 f94 (hw _ (List.mem_of_getElem? (i := 66) rfl)) (hw _ (List.mem_of_getElem? (i := 67) rfl)) (fun hZ => notFace_of_selects (args := #[]) (mvT hZ (hw _ (List.mem_of_getElem? (i := 69) rfl)))) (hw _ (List.mem_of_getElem? (i := 69) rfl)) (hw _ (List.mem_of_getElem? (i := 68) rfl)) (hw _ (List.mem_of_getElem? (i := 9) rfl)) (hw _ (List.mem_of_getElem? (i := 70) rfl)) (rm13_2 l Z a0 hw n0 [] (s0) (b0) ((upd (upd (fun _ => (.int (0 : Int32))) 0 (.int x0.toInt8.toInt32.toInt8.toInt32)) 1 (.int x1.toInt8.toInt32.toInt8.toInt32))) (_) h72 A146.size f94 f95 f96 f97 f98 e25 (by assumption)) rfl rfl pd_15 rfl rfl (by decide) (by decide) (Nat.le_of_ble_eq_true rfl) (by decide) (by decide) rfl rfl rfl)
          subst q149
          have A152 := A147.icmpNo (pc' := 58) d12_55 (tlt (ilt (x := (1 : Int32)) (y := (2 : Int32)) rfl rfl (by decide : (1 : Int) < 2))).2.1 rfl
          have A153 := A152.aloadN (v := (.ref a)) (pc' := 59) d12_58 rfl rfl rfl
          have A154 := A153.iloadN (v := (0 : Int32)) (pc' := 60) d12_59 rfl rfl
          have A155 := A154.aaload (i := 0) (v := (.ref s0)) (pc' := 61) d12_60 rfl f79 rfl (by decide) rfl rfl
          have A156 := A155.iload (v := (1 : Int32)) (pc' := 63) d12_61 rfl rfl
          obtain ⟨r158, _, ⟨rfl, q159⟩, A157⟩ := W.kI (A156.callV (a := s0) (argsL := [(.int (1 : Int32))]) (rest := []) (C' := 2) (S' := 6) (pc' := 66) d12_63 f94 (hw _ (List.mem_of_getElem? (i := 76) rfl)) (hw _ (List.mem_of_getElem? (i := 77) rfl)) (fun hZ => notFace_of_selects (args := #[]) (mvT hZ (hw _ (List.mem_of_getElem? (i := 79) rfl)))) (hw _ (List.mem_of_getElem? (i := 79) rfl)) (hw _ (List.mem_of_getElem? (i := 78) rfl)) (hw _ (List.mem_of_getElem? (i := 9) rfl)) (hw _ (List.mem_of_getElem? (i := 80) rfl)) (rm15_2_1 l Z a0 hw n0 [] (s0) (b0) ((upd (upd (fun _ => (.int (0 : Int32))) 0 (.int x0.toInt8.toInt32.toInt8.toInt32)) 1 (.int x1.toInt8.toInt32.toInt8.toInt32))) (x1) (_) (_) h72 A156.size f94 f95 f96 f97 (by first | assumption | exact congrArg Value.int (own_bb _)) (by first | assumption | exact congrArg Value.int (own_bb _)) f98 e25 (by first | assumption | exact congrArg Value.int (own_bb _)) e27 (by first | assumption | exact congrArg Value.int (own_bb _))) rfl rfl pd_16 rfl rfl (by decide) (by decide) (Nat.le_of_ble_eq_true rfl) (by decide) (by decide) rfl rfl rfl)
          have A161 := A157.istore (Ls' := #[.val (.ref m), .val (.ref a), .val (.int (0 : Int32)), .val (.int (1 : Int32)), .val (.int (1 : Int32)), .val (.int r158)]) (pc' := 68) d12_66 rfl rfl
          have A162 := A161.iload (v := r158) (pc' := 70) d12_68 rfl rfl
          have A163 := A162.bipush (z := (32 : Int32)) (pc' := 72) d12_70 rfl rfl
          have join165 : ∀ (q188 : True), W l Z n0 y12_MP prog_32_method_1_code 6 (none) R12_MP G h72 102 #[.val (.ref m), .val (.ref a), .val (.int (0 : Int32)), .val (.int (1 : Int32)), .val (.int (1 : Int32)), .val (.int r158)] [(.int (0 : Int32))] 2 6 → Gl R12_MP n0 G (QV fun h => ∃ pl : Addr, ∃ lns : Addr, ∃ q1 : Addr, (Keep h0 h [m]) ∧ (n0 ≤ pl) ∧ (h0.size ≤ pl) ∧ (n0 ≤ lns) ∧ (h0.size ≤ lns) ∧ (n0 ≤ q1) ∧ (h0.size ≤ q1) ∧ (Fld Z h m "com/example/dialekt/dialekt/json/MemberNames" "plain" "[[B" (.ref pl)) ∧ (Fld Z h m "com/example/dialekt/dialekt/json/MemberNames" "plainLengths" "[I" (.ref lns)) ∧ (Ars Z h pl (.array .byte) 3 (upd (upd (upd (fun _ => .null) 0 (.ref nb)) 1 (.ref q1)) 2 (.ref nb))) ∧ (Ars Z h lns .int 3 (upd (upd (upd (fun _ => (.int (0 : Int32))) 0 (.int (2147483647 : Int32))) 1 (.int (1 : Int32))) 2 (.int (2147483647 : Int32)))) ∧ (Ars Z h q1 .byte 1 (upd (fun _ => (.int (0 : Int32))) 0 (.int x2.toInt8.toInt32.toInt8.toInt32))) ∧ (True)) := by
            intro    q188  A187
            have A189 := A187.istoreN (Ls' := #[.val (.ref m), .val (.ref a), .val (.int (0 : Int32)), .val (.int (0 : Int32)), .val (.int (1 : Int32)), .val (.int r158)]) (pc' := 103) d12_102 rfl rfl
            have A190 := A189.iinc (v := (1 : Int32)) (z := (2 : Int32)) (Ls' := #[.val (.ref m), .val (.ref a), .val (.int (0 : Int32)), .val (.int (0 : Int32)), .val (.int (2 : Int32)), .val (.int r158)]) (pc' := 106) d12_103 rfl (by decide) rfl rfl
            have A191 := A190.goto (pc' := 43) d12_106 (by decide) (by decide)
            have A192 := A191.iloadN (v := (0 : Int32)) (pc' := 44) d12_43 rfl rfl
            have A194 := A192.ifYes (pc' := 109) d12_44 (teq (ieq (x := (0 : Int32)) (y := (0 : Int32)) rfl rfl (by decide : (0 : Int) = 0))).1 (by decide) (by decide)
            have A195 := A194.aloadN (v := (.ref m)) (pc' := 110) d12_109 rfl rfl rfl
            have f197 := ((f40.ext E52).other w73 (Or.inr (slot_ne (Or.inr (hw _ (List.mem_of_getElem? (i := 62) rfl))) (Or.inr (hw _ (List.mem_of_getElem? (i := 65) rfl))) (by decide) (t := (.array (.array .byte))) (t' := (.array .int)) (by decide) (by decide))))
            have A196 := A195.getF (pc' := 113) (host := "") d12_110 (Or.inl (hw _ (List.mem_of_getElem? (i := 61) rfl))) Via.refl f197 rfl
            have A198 := A196.iloadN (v := (0 : Int32)) (pc' := 114) d12_113 rfl rfl
            have A199 := A198.iloadN (v := (0 : Int32)) (pc' := 115) d12_114 rfl rfl
            have A201 := A199.ifYes (pc' := 130) d12_115 (teq (ieq (x := (0 : Int32)) (y := (0 : Int32)) rfl rfl (by decide : (0 : Int) = 0))).1 (by decide) (by decide)
            have f203 := e33.ext f98.2
            have A202 := A201.getS (pc' := 133) (host := "") d12_130 (Or.inl (hw _ (List.mem_of_getElem? (i := 97) rfl))) Via.refl f203 rfl
            have f204 := ((f67.ext E52).other w73 (Ne.symm ne25))
            have f205 := (((XE23.wr w39).ext E52).wr w73)
            have f210 := e34.ext f98.2
            obtain ⟨h206, w207, X208, A209⟩ := A202.aastore (i := 0) (pc' := 134) d12_133 rfl f204 (sto_x f204 f205 (hw _ (List.mem_of_getElem? (i := 60) rfl)) rfl rfl (Ins.self f210)) rfl rfl (by decide) g19 rfl
            have A211 := A209.aloadN (v := (.ref m)) (pc' := 135) d12_134 rfl rfl rfl
            have f213 := (f74.other w207 (Or.inl ne25))
            have A212 := A211.getF (pc' := 138) (host := "") d12_135 (Or.inl (hw _ (List.mem_of_getElem? (i := 64) rfl))) Via.refl f213 rfl
            have A214 := A212.iloadN (v := (0 : Int32)) (pc' := 139) d12_138 rfl rfl
            have A215 := A214.iloadN (v := (0 : Int32)) (pc' := 140) d12_139 rfl rfl
            have A217 := A215.ifYes (pc' := 153) d12_140 (teq (ieq (x := (0 : Int32)) (y := (0 : Int32)) rfl rfl (by decide : (0 : Int) = 0))).1 (by decide) (by decide)
            have A218 := A217.ldc (z := (2147483647 : Int32)) (pc' := 155) d12_153 (hw _ (List.mem_of_getElem? (i := 100) rfl)) rfl
            have f219 := ((X53.other w73 (Ne.symm ne57)).other w207 (Ne.symm ne68))
            obtain ⟨h220, w221, X222, A223⟩ := A218.iastore (i := 0) (pc' := 156) d12_155 f219 rfl (by decide) g51 rfl
            have A224 := A223.iinc (v := (0 : Int32)) (z := (1 : Int32)) (Ls' := #[.val (.ref m), .val (.ref a), .val (.int (1 : Int32)), .val (.int (0 : Int32)), .val (.int (2 : Int32)), .val (.int r158)]) (pc' := 159) d12_156 rfl (by decide) rfl rfl
            have A225 := A224.goto (pc' := 32) d12_159 (by decide) (by decide)
            have A226 := A225.iloadN (v := (1 : Int32)) (pc' := 33) d12_32 rfl rfl
            have A227 := A226.aloadN (v := (.ref a)) (pc' := 34) d12_33 rfl rfl rfl
            have f228 := ((f79.other w207 ne26).other w221 ne58)
            have A229 := A227.alen (z := (2 : Int32)) (pc' := 35) d12_34 f228 rfl rfl
            have A231 := A229.icmpNo (pc' := 38) d12_35 (tlt (ilt (x := (1 : Int32)) (y := (2 : Int32)) rfl rfl (by decide : (1 : Int) < 2))).2.1 rfl
            have A232 := A231.iconst (z := (1 : Int32)) (pc' := 39) d12_38 rfl rfl
            have A233 := A232.istoreN (Ls' := #[.val (.ref m), .val (.ref a), .val (.int (1 : Int32)), .val (.int (1 : Int32)), .val (.int (2 : Int32)), .val (.int r158)]) (pc' := 40) d12_39 rfl rfl
            have A234 := A233.iconst (z := (0 : Int32)) (pc' := 41) d12_40 rfl rfl
            have A235 := A234.istore (Ls' := #[.val (.ref m), .val (.ref a), .val (.int (1 : Int32)), .val (.int (1 : Int32)), .val (.int (0 : Int32)), .val (.int r158)]) (pc' := 43) d12_41 rfl rfl
            have A236 := A235.iloadN (v := (1 : Int32)) (pc' := 44) d12_43 rfl rfl
            have A238 := A236.ifNo (pc' := 47) d12_44 (feq (ine (x := (1 : Int32)) (y := (0 : Int32)) rfl rfl (by decide : ¬ ((1 : Int) = 0)))).1 rfl
            have A239 := A238.iload (v := (0 : Int32)) (pc' := 49) d12_47 rfl rfl
            have A240 := A239.aloadN (v := (.ref a)) (pc' := 50) d12_49 rfl rfl rfl
            have A241 := A240.iloadN (v := (1 : Int32)) (pc' := 51) d12_50 rfl rfl
            have A242 := A241.aaload (i := 1) (v := (.ref s1)) (pc' := 52) d12_51 rfl f228 rfl (by decide) rfl rfl
            have f243 := ((((f63.ext E52).wr w73).wr w207).wr w221)
            have f244 := (((((((e12.other w7 (Or.inl e19)).ext E20).other w39 (Or.inl e19)).ext E52).other w73 (Or.inl e19)).other w207 (Or.inl ne32)).other w221 (Or.inl ne64))
            have f245 := (((((((e13.other w7 (Or.inl e19)).ext E20).other w39 (Or.inl e19)).ext E52).other w73 (Or.inl e19)).other w207 (Or.inl ne32)).other w221 (Or.inl ne64))
            have f246 := ((((f65.ext E52).other w73 e20).other w207 ne34).other w221 ne66)
            have f247 := ((f98.wr w207 g19).wr w221 g51)
            obtain ⟨r249, _, ⟨rfl, q250⟩, A248⟩ := W.kI (A242.callV (a := s1) (argsL := []) (rest := [(.int (0 : Int32))]) (C' := 2) (S' := 6) (pc' := 55) d12_52 f243 (hw _ (List.mem_of_getElem? (i := 66) rfl)) (hw _ (List.mem_of_getElem? (i := 67) rfl)) (fun hZ => notFace_of_selects (args := #[]) (mvT hZ (hw _ (List.mem_of_getElem? (i := 69) rfl)))) (hw _ (List.mem_of_getElem? (i := 69) rfl)) (hw _ (List.mem_of_getElem? (i := 68) rfl)) (hw _ (List.mem_of_getElem? (i := 9) rfl)) (hw _ (List.mem_of_getElem? (i := 70) rfl)) (rm13_1 l Z a0 hw n0 [] (s1) (b1) ((upd (fun _ => (.int (0 : Int32))) 0 (.int x2.toInt8.toInt32.toInt8.toInt32))) (_) h220 A242.size f243 f244 f245 f246 f247 e25 (by assumption)) rfl rfl pd_15 rfl rfl (by decide) (by decide) (Nat.le_of_ble_eq_true rfl) (by decide) (by decide) rfl rfl rfl)
            subst q250
            have A253 := A248.icmpNo (pc' := 58) d12_55 (tlt (ilt (x := (0 : Int32)) (y := (1 : Int32)) rfl rfl (by decide : (0 : Int) < 1))).2.1 rfl
            have A254 := A253.aloadN (v := (.ref a)) (pc' := 59) d12_58 rfl rfl rfl
            have A255 := A254.iloadN (v := (1 : Int32)) (pc' := 60) d12_59 rfl rfl
            have A256 := A255.aaload (i := 1) (v := (.ref s1)) (pc' := 61) d12_60 rfl f228 rfl (by decide) rfl rfl
            have A257 := A256.iload (v := (0 : Int32)) (pc' := 63) d12_61 rfl rfl
            obtain ⟨r259, _, ⟨rfl, q260⟩, A258⟩ := W.kI (A257.callV (a := s1) (argsL := [(.int (0 : Int32))]) (rest := []) (C' := 2) (S' := 6) (pc' := 66) d12_63 f243 (hw _ (List.mem_of_getElem? (i := 76) rfl)) (hw _ (List.mem_of_getElem? (i := 77) rfl)) (fun hZ => notFace_of_selects (args := #[]) (mvT hZ (hw _ (List.mem_of_getElem? (i := 79) rfl)))) (hw _ (List.mem_of_getElem? (i := 79) rfl)) (hw _ (List.mem_of_getElem? (i := 78) rfl)) (hw _ (List.mem_of_getElem? (i := 9) rfl)) (hw _ (List.mem_of_getElem? (i := 80) rfl)) (rm15_1_0 l Z a0 hw n0 [] (s1) (b1) ((upd (fun _ => (.int (0 : Int32))) 0 (.int x2.toInt8.toInt32.toInt8.toInt32))) (x2) (_) (_) h220 A257.size f243 f244 f245 f246 (by first | assumption | exact congrArg Value.int (own_bb _)) (by first | assumption | exact congrArg Value.int (own_bb _)) f247 e25 (by first | assumption | exact congrArg Value.int (own_bb _)) e27 (by first | assumption | exact congrArg Value.int (own_bb _))) rfl rfl pd_16 rfl rfl (by decide) (by decide) (Nat.le_of_ble_eq_true rfl) (by decide) (by decide) rfl rfl rfl)
            have A262 := A258.istore (Ls' := #[.val (.ref m), .val (.ref a), .val (.int (1 : Int32)), .val (.int (1 : Int32)), .val (.int (0 : Int32)), .val (.int r259)]) (pc' := 68) d12_66 rfl rfl
            have A263 := A262.iload (v := r259) (pc' := 70) d12_68 rfl rfl
            have A264 := A263.bipush (z := (32 : Int32)) (pc' := 72) d12_70 rfl rfl
            by_cases c265 : r259.toInt < 32
            · exfalso
              omega
            · have A268 := A264.icmpNo (pc' := 75) d12_72 (flt (inlt (x := r259) (y := (32 : Int32)) rfl rfl c265)).1 rfl
              have A269 := A268.iload (v := r259) (pc' := 77) d12_75 rfl rfl
              have A270 := A269.sipush (z := (128 : Int32)) (pc' := 80) d12_77 rfl rfl
              by_cases c271 : r259.toInt < 128
              · have A272 := A270.icmpNo (pc' := 83) d12_80 (tlt (ilt (x := r259) (y := (128 : Int32)) rfl rfl c271)).2.1 rfl
                have A273 := A272.iload (v := r259) (pc' := 85) d12_83 rfl rfl
                have A274 := A273.bipush (z := (34 : Int32)) (pc' := 87) d12_85 rfl rfl
                by_cases c275 : r259.toInt = 34
                · exfalso
                  omega
                · have A277 := A274.icmpNo (pc' := 90) d12_87 (feq (ine (x := r259) (y := (34 : Int32)) rfl rfl c275)).1 rfl
                  have A278 := A277.iload (v := r259) (pc' := 92) d12_90 rfl rfl
                  have A279 := A278.bipush (z := (92 : Int32)) (pc' := 94) d12_92 rfl rfl
                  by_cases c280 : r259.toInt = 92
                  · exfalso
                    omega
                  · have A282 := A279.icmpNo (pc' := 97) d12_94 (feq (ine (x := r259) (y := (92 : Int32)) rfl rfl c280)).1 rfl
                    have A283 := A282.iconst (z := (1 : Int32)) (pc' := 98) d12_97 rfl rfl
                    have A284 := A283.goto (pc' := 102) d12_98 (by decide) (by decide)
                    have A286 := A284.istoreN (Ls' := #[.val (.ref m), .val (.ref a), .val (.int (1 : Int32)), .val (.int (1 : Int32)), .val (.int (0 : Int32)), .val (.int r259)]) (pc' := 103) d12_102 rfl rfl
                    have A287 := A286.iinc (v := (0 : Int32)) (z := (1 : Int32)) (Ls' := #[.val (.ref m), .val (.ref a), .val (.int (1 : Int32)), .val (.int (1 : Int32)), .val (.int (1 : Int32)), .val (.int r259)]) (pc' := 106) d12_103 rfl (by decide) rfl rfl
                    have A288 := A287.goto (pc' := 43) d12_106 (by decide) (by decide)
                    have A289 := A288.iloadN (v := (1 : Int32)) (pc' := 44) d12_43 rfl rfl
                    have A291 := A289.ifNo (pc' := 47) d12_44 (feq (ine (x := (1 : Int32)) (y := (0 : Int32)) rfl rfl (by decide : ¬ ((1 : Int) = 0)))).1 rfl
                    have A292 := A291.iload (v := (1 : Int32)) (pc' := 49) d12_47 rfl rfl
                    have A293 := A292.aloadN (v := (.ref a)) (pc' := 50) d12_49 rfl rfl rfl
                    have A294 := A293.iloadN (v := (1 : Int32)) (pc' := 51) d12_50 rfl rfl
                    have A295 := A294.aaload (i := 1) (v := (.ref s1)) (pc' := 52) d12_51 rfl f228 rfl (by decide) rfl rfl
                    obtain ⟨r297, _, ⟨rfl, q298⟩, A296⟩ := W.kI (A295.callV (a := s1) (argsL := []) (rest := [(.int (1 : Int32))]) (C' := 2) (S' := 6) (pc' := 55) d12_52 f243 (hw _ (List.mem_of_getElem? (i := 66) rfl)) (hw _ (List.mem_of_getElem? (i := 67) rfl)) (fun hZ => notFace_of_selects (args := #[]) (mvT hZ (hw _ (List.mem_of_getElem? (i := 69) rfl)))) (hw _ (List.mem_of_getElem? (i := 69) rfl)) (hw _ (List.mem_of_getElem? (i := 68) rfl)) (hw _ (List.mem_of_getElem? (i := 9) rfl)) (hw _ (List.mem_of_getElem? (i := 70) rfl)) (rm13_1 l Z a0 hw n0 [] (s1) (b1) ((upd (fun _ => (.int (0 : Int32))) 0 (.int x2.toInt8.toInt32.toInt8.toInt32))) (_) h220 A295.size f243 f244 f245 f246 f247 e25 (by assumption)) rfl rfl pd_15 rfl rfl (by decide) (by decide) (Nat.le_of_ble_eq_true rfl) (by decide) (by decide) rfl rfl rfl)
                    subst q298
                    have A301 := A296.icmpYes (pc' := 109) d12_55 (flt (inlt (x := (1 : Int32)) (y := (1 : Int32)) rfl rfl (by decide : ¬ ((1 : Int) < 1)))).2.1 (by decide) (by decide)
                    have A302 := A301.aloadN (v := (.ref m)) (pc' := 110) d12_109 rfl rfl rfl
                    have f304 := ((f197.other w207 (Or.inl ne25)).other w221 (Or.inl ne57))
                    have A303 := A302.getF (pc' := 113) (host := "") d12_110 (Or.inl (hw _ (List.mem_of_getElem? (i := 61) rfl))) Via.refl f304 rfl
                    have A305 := A303.iloadN (v := (1 : Int32)) (pc' := 114) d12_113 rfl rfl
                    have A306 := A305.iloadN (v := (1 : Int32)) (pc' := 115) d12_114 rfl rfl
                    have A308 := A306.ifNo (pc' := 118) d12_115 (feq (ine (x := (1 : Int32)) (y := (0 : Int32)) rfl rfl (by decide : ¬ ((1 : Int) = 0)))).1 rfl
                    have A309 := A308.aloadN (v := (.ref a)) (pc' := 119) d12_118 rfl rfl rfl
                    have A310 := A309.iloadN (v := (1 : Int32)) (pc' := 120) d12_119 rfl rfl
                    have A311 := A310.aaload (i := 1) (v := (.ref s1)) (pc' := 121) d12_120 rfl f228 rfl (by decide) rfl rfl
                    have f313 := e32.ext f247.2
                    have A312 := A311.getS (pc' := 124) (host := "") d12_121 (Or.inl (hw _ (List.mem_of_getElem? (i := 109) rfl))) Via.refl f313 rfl
                    have f314 := (((((((e15.wr w7).ext E20).wr w39).ext E52).wr w73).wr w207).wr w221)
                    obtain ⟨r316, h318, ⟨K319, g320, z321, f322, f323, q317⟩, A315⟩ := W.kA (A312.callV (a := s1) (argsL := [(.ref iso)]) (rest := [(.int (1 : Int32)), (.ref b17)]) (C' := 3) (S' := 7) (pc' := 127) d12_124 f243 (hw _ (List.mem_of_getElem? (i := 111) rfl)) (hw _ (List.mem_of_getElem? (i := 112) rfl)) (fun hZ => notFace_of_selects (args := #[]) (mvT hZ (hw _ (List.mem_of_getElem? (i := 114) rfl)))) (hw _ (List.mem_of_getElem? (i := 114) rfl)) (hw _ (List.mem_of_getElem? (i := 113) rfl)) (hw _ (List.mem_of_getElem? (i := 9) rfl)) (hw _ (List.mem_of_getElem? (i := 115) rfl)) (rm22_1 l Z a0 hw n0 [] (s1) (iso) (b1) ((upd (fun _ => (.int (0 : Int32))) 0 (.int x2.toInt8.toInt32.toInt8.toInt32))) (_) (_) h220 A312.size f243 f244 f245 f246 f314 f247 e25 (by assumption) e29 e30 e31) rfl rfl pd_17 rfl rfl (by decide) (by decide) (Nat.le_of_ble_eq_true rfl) (by decide) (by decide) rfl rfl rfl)
                    have f324 := (((f70.wr w73).wr w207).wr w221)
                    have ne325 : m ≠ r316 := Nat.ne_of_lt (Nat.lt_of_lt_of_le f324.lt z321)
                    have ne326 : a ≠ r316 := Nat.ne_of_lt (Nat.lt_of_lt_of_le f228.lt z321)
                    have f327 := ((f94.wr w207).wr w221)
                    have ne328 : s0 ≠ r316 := Nat.ne_of_lt (Nat.lt_of_lt_of_le f327.lt z321)
                    have f329 := ((f97.other w207 ne30).other w221 ne62)
                    have ne330 : b0 ≠ r316 := Nat.ne_of_lt (Nat.lt_of_lt_of_le f329.lt z321)
                    have ne331 : s1 ≠ r316 := Nat.ne_of_lt (Nat.lt_of_lt_of_le f243.lt z321)
                    have ne332 : b1 ≠ r316 := Nat.ne_of_lt (Nat.lt_of_lt_of_le f246.lt z321)
                    have f333 := (X208.other w221 ne68)
                    have ne334 : b17 ≠ r316 := Nat.ne_of_lt (Nat.lt_of_lt_of_le f333.lt z321)
                    have ne335 : b49 ≠ r316 := Nat.ne_of_lt (Nat.lt_of_lt_of_le X222.lt z321)
                    have A336 := A315.goto (pc' := 133) d12_127 (by decide) (by decide)
                    have f337 := (f333.keep K319 nin0)
                    have f338 := (((f205.wr w207).wr w221).keep K319)
                    obtain ⟨h339, w340, X341, A342⟩ := A336.aastore (i := 1) (pc' := 134) d12_133 rfl f337 (sto_x f337 f338 (hw _ (List.mem_of_getElem? (i := 60) rfl)) rfl rfl (Ins.self f323)) rfl rfl (by decide) g19 rfl
                    have A343 := A342.aloadN (v := (.ref m)) (pc' := 135) d12_134 rfl rfl rfl
                    have f345 := (((f213.other w221 (Or.inl ne57)).keep K319 nin0).other w340 (Or.inl ne25))
                    have A344 := A343.getF (pc' := 138) (host := "") d12_135 (Or.inl (hw _ (List.mem_of_getElem? (i := 64) rfl))) Via.refl f345 rfl
                    have A346 := A344.iloadN (v := (1 : Int32)) (pc' := 139) d12_138 rfl rfl
                    have A347 := A346.iloadN (v := (1 : Int32)) (pc' := 140) d12_139 rfl rfl
                    have A349 := A347.ifNo (pc' := 143) d12_140 (feq (ine (x := (1 : Int32)) (y := (0 : Int32)) rfl rfl (by decide : ¬ ((1 : Int) = 0)))).1 rfl
                    have A350 := A349.aloadN (v := (.ref m)) (pc' := 144) d12_143 rfl rfl rfl
                    have f352 := ((f304.keep K319 nin0).other w340 (Or.inl ne25))
                    have A351 := A350.getF (pc' := 147) (host := "") d12_144 (Or.inl (hw _ (List.mem_of_getElem? (i := 61) rfl))) Via.refl f352 rfl
                    have A353 := A351.iloadN (v := (1 : Int32)) (pc' := 148) d12_147 rfl rfl
                    have A354 := A353.aaload (i := 1) (v := (.ref r316)) (pc' := 149) d12_148 rfl X341 rfl (by decide) rfl rfl
                    have f355 := (f322.other w340 (Ne.symm ne334))
                    have A356 := A354.alen (z := (1 : Int32)) (pc' := 150) d12_149 f355 rfl rfl
                    have A357 := A356.goto (pc' := 155) d12_150 (by decide) (by decide)
                    have f358 := ((X222.keep K319 nin0).other w340 (Ne.symm ne68))
                    obtain ⟨h359, w360, X361, A362⟩ := A357.iastore (i := 1) (pc' := 156) d12_155 f358 rfl (by decide) g51 rfl
                    have A363 := A362.iinc (v := (1 : Int32)) (z := (2 : Int32)) (Ls' := #[.val (.ref m), .val (.ref a), .val (.int (2 : Int32)), .val (.int (1 : Int32)), .val (.int (1 : Int32)), .val (.int r259)]) (pc' := 159) d12_156 rfl (by decide) rfl rfl
                    have A364 := A363.goto (pc' := 32) d12_159 (by decide) (by decide)
                    have A365 := A364.iloadN (v := (2 : Int32)) (pc' := 33) d12_32 rfl rfl
                    have A366 := A365.aloadN (v := (.ref a)) (pc' := 34) d12_33 rfl rfl rfl
                    have f367 := (((f228.keep K319 nin0).other w340 ne26).other w360 ne58)
                    have A368 := A366.alen (z := (2 : Int32)) (pc' := 35) d12_34 f367 rfl rfl
                    have A370 := A368.icmpYes (pc' := 162) d12_35 (flt (inlt (x := (2 : Int32)) (y := (2 : Int32)) rfl rfl (by decide : ¬ ((2 : Int) < 2)))).2.1 (by decide) (by decide)
                    have A371 := A370.aloadN (v := (.ref m)) (pc' := 163) d12_162 rfl rfl rfl
                    have f373 := (f352.other w360 (Or.inl ne57))
                    have A372 := A371.getF (pc' := 166) (host := "") d12_163 (Or.inl (hw _ (List.mem_of_getElem? (i := 61) rfl))) Via.refl f373 rfl
                    have A374 := A372.aloadN (v := (.ref a)) (pc' := 167) d12_166 rfl rfl rfl
                    have A375 := A374.alen (z := (2 : Int32)) (pc' := 168) d12_167 f367 rfl rfl
                    have f377 := (((f247.keep K319 all0).wr w340 g19).wr w360 g51)
                    have f378 := e33.ext f377.2
                    have A376 := A375.getS (pc' := 171) (host := "") d12_168 (Or.inl (hw _ (List.mem_of_getElem? (i := 97) rfl))) Via.refl f378 rfl
                    have f379 := (X341.other w360 ne68)
                    have f380 := ((f338.wr w340).wr w360)
                    have f385 := e34.ext f377.2
                    obtain ⟨h381, w382, X383, A384⟩ := A376.aastore (i := 2) (pc' := 172) d12_171 rfl f379 (sto_x f379 f380 (hw _ (List.mem_of_getElem? (i := 60) rfl)) rfl rfl (Ins.self f385)) rfl rfl (by decide) g19 rfl
                    have A386 := A384.aloadN (v := (.ref m)) (pc' := 173) d12_172 rfl rfl rfl
                    have f388 := ((f345.other w360 (Or.inl ne57)).other w382 (Or.inl ne25))
                    have A387 := A386.getF (pc' := 176) (host := "") d12_173 (Or.inl (hw _ (List.mem_of_getElem? (i := 64) rfl))) Via.refl f388 rfl
                    have A389 := A387.aloadN (v := (.ref a)) (pc' := 177) d12_176 rfl rfl rfl
                    have f390 := (f367.other w382 ne26)
                    have A391 := A389.alen (z := (2 : Int32)) (pc' := 178) d12_177 f390 rfl rfl
                    have A392 := A391.ldc (z := (2147483647 : Int32)) (pc' := 180) d12_178 (hw _ (List.mem_of_getElem? (i := 100) rfl)) rfl
                    have f393 := (X361.other w382 (Ne.symm ne68))
                    obtain ⟨h394, w395, X396, A397⟩ := A392.iastore (i := 2) (pc' := 181) d12_180 f393 rfl (by decide) g51 rfl
                    have z398 : h0.size ≤ b17 := Nat.le_trans (Nat.le_trans (Nat.le_refl _) (Nat.le_of_eq w7.size.symm)) (Nat.le_of_eq eb18.symm)
                    have z399 : h0.size ≤ b49 := Nat.le_trans (Nat.le_trans (Nat.le_trans (Nat.le_trans (Nat.le_refl _) (Nat.le_of_eq w7.size.symm)) E20.1) (Nat.le_of_eq w39.size.symm)) (Nat.le_of_eq eb50.symm)
                    have K400 : Keep h0 h394 [m] := (((((((((((((Keep.refl h0 [m]).wr w7 (Or.inl (List.mem_of_getElem? (i := 0) rfl))).ext E20).wr w39 (Or.inl (List.mem_of_getElem? (i := 0) rfl))).ext E52).wr w73 (Or.inl (List.mem_of_getElem? (i := 0) rfl))).wr w207 (Or.inr z398)).wr w221 (Or.inr z399)).trans K319 all0).wr w340 (Or.inr z398)).wr w360 (Or.inr z399)).wr w382 (Or.inr z398)).wr w395 (Or.inr z399))
                    have z401 : h0.size ≤ r316 := Nat.le_trans (Nat.le_trans (Nat.le_trans (Nat.le_trans (Nat.le_trans (Nat.le_trans (Nat.le_trans (Nat.le_trans (Nat.le_refl _) (Nat.le_of_eq w7.size.symm)) E20.1) (Nat.le_of_eq w39.size.symm)) E52.1) (Nat.le_of_eq w73.size.symm)) (Nat.le_of_eq w207.size.symm)) (Nat.le_of_eq w221.size.symm)) z321
                    have f402 := ((f373.other w382 (Or.inl ne25)).other w395 (Or.inl ne57))
                    have f403 := (f388.other w395 (Or.inl ne57))
                    have f404 := (X383.other w395 ne68)
                    have f405 := (((f355.other w360 (Ne.symm ne335)).other w382 (Ne.symm ne334)).other w395 (Ne.symm ne335))
                    refine A397.retV d12_181 (by decide) (by decide) ⟨rfl, ⟨b17, b49, r316, K400, g19, z398, g51, z399, g320, z401, f402, f403, f404, X396, f405, ?_⟩⟩
                    trivial
              · exfalso
                omega
          by_cases c164 : r158.toInt < 32
          · have A166 := A163.icmpYes (pc' := 101) d12_72 (tlt (ilt (x := r158) (y := (32 : Int32)) rfl rfl c164)).1 (by decide) (by decide)
            have A167 := A166.iconst (z := (0 : Int32)) (pc' := 102) d12_101 rfl rfl
            exact join165    (by trivial)  A167
          · have A168 := A163.icmpNo (pc' := 75) d12_72 (flt (inlt (x := r158) (y := (32 : Int32)) rfl rfl c164)).1 rfl
            have A169 := A168.iload (v := r158) (pc' := 77) d12_75 rfl rfl
            have A170 := A169.sipush (z := (128 : Int32)) (pc' := 80) d12_77 rfl rfl
            by_cases c171 : r158.toInt < 128
            · have A172 := A170.icmpNo (pc' := 83) d12_80 (tlt (ilt (x := r158) (y := (128 : Int32)) rfl rfl c171)).2.1 rfl
              have A173 := A172.iload (v := r158) (pc' := 85) d12_83 rfl rfl
              have A174 := A173.bipush (z := (34 : Int32)) (pc' := 87) d12_85 rfl rfl
              by_cases c175 : r158.toInt = 34
              · have A176 := A174.icmpYes (pc' := 101) d12_87 (teq (ieq (x := r158) (y := (34 : Int32)) rfl rfl c175)).1 (by decide) (by decide)
                have A177 := A176.iconst (z := (0 : Int32)) (pc' := 102) d12_101 rfl rfl
                exact join165    (by trivial)  A177
              · have A178 := A174.icmpNo (pc' := 90) d12_87 (feq (ine (x := r158) (y := (34 : Int32)) rfl rfl c175)).1 rfl
                have A179 := A178.iload (v := r158) (pc' := 92) d12_90 rfl rfl
                have A180 := A179.bipush (z := (92 : Int32)) (pc' := 94) d12_92 rfl rfl
                by_cases c181 : r158.toInt = 92
                · have A182 := A180.icmpYes (pc' := 101) d12_94 (teq (ieq (x := r158) (y := (92 : Int32)) rfl rfl c181)).1 (by decide) (by decide)
                  have A183 := A182.iconst (z := (0 : Int32)) (pc' := 102) d12_101 rfl rfl
                  exact join165    (by trivial)  A183
                · exfalso
                  omega
            · have A185 := A170.icmpYes (pc' := 101) d12_80 (flt (inlt (x := r158) (y := (128 : Int32)) rfl rfl c171)).2.1 (by decide) (by decide)
              have A186 := A185.iconst (z := (0 : Int32)) (pc' := 102) d12_101 rfl rfl
              exact join165    (by trivial)  A186
    · exfalso
      omega
abbrev y12_PN : MethodName := (⟨"com/example/dialekt/dialekt/json/MemberNames", "<init>", "([Ljava/lang/String;)V"⟩ : MethodName)
abbrev R12_PN : Room := { frames := 5, cells := 3, slots := 8, locals := 77 }
set_option maxRecDepth 65536 in
set_option maxHeartbeats 4000000 in
theorem ef12_PN (m : Addr) (a : Addr)  (mid : MethodId) : entryFrame mid #[(.ref m), (.ref a)] 6 = mkF mid 0 #[.val (.ref m), .val (.ref a), .unset, .unset, .unset, .unset] [] := by first | (simp [entryFrame, mkF, argsToLocals, Value.category]; done) | rfl
set_option maxRecDepth 65536 in
set_option maxHeartbeats 40000000 in
theorem rm12_PN (l : Launch) (Z : State) (a0 : Array Value) (hw : ∀ d ∈ tables_1, d.before a0 Z = true) (n0 : Nat) (ws : List Jvm.Cond) (m : Addr) (a : Addr) (s0 : Addr) (s1 : Addr) (b0 : Addr) (b1 : Addr) (iso : Addr) (u8 : Addr) (nb : Addr) (x0 : Int32) (x1 : Int32) (x2 : Int32) (cs : Int32) (fm : Value) (h0 : Heap) (hn0 : n0 ≤ h0.size) (e0 : Exa Z h0 m "com/example/dialekt/dialekt/json/MemberNames") (e1 : n0 ≤ m) (e2 : Fld Z h0 m "com/example/dialekt/dialekt/json/MemberNames" "names" "[Ljava/lang/String;" .null) (e3 : Fld Z h0 m "com/example/dialekt/dialekt/json/MemberNames" "plain" "[[B" .null) (e4 : Fld Z h0 m "com/example/dialekt/dialekt/json/MemberNames" "plainLengths" "[I" .null) (e5 : Ars Z h0 a (.object "java/lang/String") 2 (upd (upd (fun _ => .null) 0 (.ref s0)) 1 (.ref s1))) (e6 : Exa Z h0 s0 "java/lang/String") (e7 : Fld Z h0 s0 "java/lang/String" "value" "[B" (.ref b0)) (e8 : Fld Z h0 s0 "java/lang/String" "coder" "B" (.int (0 : Int32))) (e9 : Ars Z h0 b0 .byte 2 (upd (upd (fun _ => (.int (0 : Int32))) 0 (.int x0.toInt8.toInt32.toInt8.toInt32)) 1 (.int x1.toInt8.toInt32.toInt8.toInt32))) (e10 : Exa Z h0 b0 "[B") (e11 : Exa Z h0 s1 "java/lang/String") (e12 : Fld Z h0 s1 "java/lang/String" "value" "[B" (.ref b1)) (e13 : Fld Z h0 s1 "java/lang/String" "coder" "B" (.int (0 : Int32))) (e14 : Ars Z h0 b1 .byte 1 (upd (fun _ => (.int (0 : Int32))) 0 (.int x2.toInt8.toInt32.toInt8.toInt32))) (e15 : Exa Z h0 b1 "[B") (e16 : a ≠ m) (e17 : s0 ≠ m) (e18 : b0 ≠ m) (e19 : s1 ≠ m) (e20 : b1 ≠ m) (e21 : 0 ≤ x0.toInt ∧ x0.toInt ≤ 255) (e22 : 0 ≤ x1.toInt ∧ x1.toInt ≤ 255) (e23 : 0 ≤ x2.toInt ∧ x2.toInt ≤ 255) (e24 : Old Z n0 h0) (e25 : Sta Z Z.heap "java/lang/String" "COMPACT_STRINGS" "Z" (.int cs)) (e26 : cs.toInt ≠ 0) (e27 : Sta Z Z.heap "jdk/internal/util/Preconditions" "SIOOBE_FORMATTER" "Ljava/util/function/BiFunction;" fm) (e28 : fm.isRef = true) (e29 : Sta Z Z.heap "sun/nio/cs/UTF_8" "INSTANCE" "Lsun/nio/cs/UTF_8;" (.ref u8)) (e30 : Sta Z Z.heap "sun/nio/cs/ISO_8859_1" "INSTANCE" "Lsun/nio/cs/ISO_8859_1;" (.ref iso)) (e31 : iso ≠ u8) (e32 : Sta Z Z.heap "java/nio/charset/StandardCharsets" "ISO_8859_1" "Ljava/nio/charset/Charset;" (.ref iso)) (e33 : Sta Z Z.heap "com/example/dialekt/dialekt/json/MemberNames" "NO_BYTES" "[B" (.ref nb)) (e34 : Exa Z Z.heap nb "[B") (e35 : Ars Z Z.heap nb .byte 0 (fun _ => (.int (0 : Int32)))) (e36 : (32 ≤ x0.toInt ∧ x0.toInt < 128 ∧ ¬ (x0.toInt = 34) ∧ ¬ (x0.toInt = 92)) ∧ (32 ≤ x1.toInt ∧ x1.toInt < 128 ∧ ¬ (x1.toInt = 34) ∧ ¬ (x1.toInt = 92))) (e37 : ¬ (32 ≤ x2.toInt ∧ x2.toInt < 128 ∧ ¬ (x2.toInt = 34) ∧ ¬ (x2.toInt = 92))) :
    Ctr l Z n0 y12_PN prog_32_method_1_code 6 (none) ws R12_PN #[(.ref m), (.ref a)] h0 (QV fun h => ∃ pl : Addr, ∃ lns : Addr, ∃ q0 : Addr, (Keep h0 h [m]) ∧ (n0 ≤ pl) ∧ (h0.size ≤ pl) ∧ (n0 ≤ lns) ∧ (h0.size ≤ lns) ∧ (n0 ≤ q0) ∧ (h0.size ≤ q0) ∧ (Fld Z h m "com/example/dialekt/dialekt/json/MemberNames" "plain" "[[B" (.ref pl)) ∧ (Fld Z h m "com/example/dialekt/dialekt/json/MemberNames" "plainLengths" "[I" (.ref lns)) ∧ (Ars Z h pl (.array .byte) 3 (upd (upd (upd (fun _ => .null) 0 (.ref q0)) 1 (.ref nb)) 2 (.ref nb))) ∧ (Ars Z h lns .int 3 (upd (upd (upd (fun _ => (.int (0 : Int32))) 0 (.int (2 : Int32))) 1 (.int (2147483647 : Int32))) 2 (.int (2147483647 : Int32)))) ∧ (Ars Z h q0 .byte 2 (upd (upd (fun _ => (.int (0 : Int32))) 0 (.int x0.toInt8.toInt32.toInt8.toInt32)) 1 (.int x1.toInt8.toInt32.toInt8.toInt32))) ∧ (True)) := by
  refine ctr_of pn12 hn0 (ef12_PN m a) fun G A0 => ?_
  have A1 := A0.aloadN (v := (.ref m)) (pc' := 1) d12_0 rfl rfl rfl
  have A2 := A1.initO (pc' := 4) d12_1 (hw _ (List.mem_of_getElem? (i := 56) rfl)) (hw _ (List.mem_of_getElem? (i := 19) rfl)) (hw _ (List.mem_of_getElem? (i := 20) rfl)) rfl (by decide) (Nat.le_of_ble_eq_true rfl) rfl
  have A3 := A2.aloadN (v := (.ref m)) (pc' := 5) d12_4 rfl rfl rfl
  have A4 := A3.aloadN (v := (.ref a)) (pc' := 6) d12_5 rfl rfl rfl
  obtain ⟨h6, w7, A5⟩ := A4.putF (pc' := 9) (ty := (.array (.object "java/lang/String"))) (host := "") d12_6 (Or.inl (hw _ (List.mem_of_getElem? (i := 57) rfl))) Via.refl e2 e0 (Or.inr ⟨(hw _ (List.mem_of_getElem? (i := 58) rfl)), rfl, rfl⟩) (hw _ (List.mem_of_getElem? (i := 51) rfl)) (by decide) rfl rfl e1 rfl
  have f8 := e2.same w7
  have A9 := A5.aloadN (v := (.ref m)) (pc' := 10) d12_9 rfl rfl rfl
  have A10 := A9.aloadN (v := (.ref a)) (pc' := 11) d12_10 rfl rfl rfl
  have f11 := (e5.other w7 e16)
  have A12 := A10.alen (z := (2 : Int32)) (pc' := 12) d12_11 f11 rfl rfl
  have A13 := A12.iconst (z := (1 : Int32)) (pc' := 13) d12_12 rfl rfl
  have A14 := A13.iadd (pc' := 14) d12_13 rfl
  have A15 := A14.topI (z := (3 : Int32)) (by decide)
  obtain ⟨h16, b17, eb18, g19, E20, X21, XE23, A22⟩ := A15.newRX (z := (3 : Int32)) (N := 3) (cap := 3) (C' := 1) (S' := 3) (pc' := 17) (ad := "[[B") d12_14 rfl (hw _ (List.mem_of_getElem? (i := 59) rfl)) (hw _ (List.mem_of_getElem? (i := 60) rfl)) rfl (by decide) (by decide) (by decide) (by decide) rfl rfl rfl (by decide)
  have f24 := (e0.wr w7)
  have ne25 : m ≠ b17 := Nat.ne_of_lt (Nat.lt_of_lt_of_le f24.lt (Nat.le_of_eq eb18.symm))
  have ne26 : a ≠ b17 := Nat.ne_of_lt (Nat.lt_of_lt_of_le f11.lt (Nat.le_of_eq eb18.symm))
  have f27 := (e6.wr w7)
  have ne28 : s0 ≠ b17 := Nat.ne_of_lt (Nat.lt_of_lt_of_le f27.lt (Nat.le_of_eq eb18.symm))
  have f29 := (e9.other w7 e18)
  have ne30 : b0 ≠ b17 := Nat.ne_of_lt (Nat.lt_of_lt_of_le f29.lt (Nat.le_of_eq eb18.symm))
  have f31 := (e11.wr w7)
  have ne32 : s1 ≠ b17 := Nat.ne_of_lt (Nat.lt_of_lt_of_le f31.lt (Nat.le_of_eq eb18.symm))
  have f33 := (e14.other w7 e20)
  have ne34 : b1 ≠ b17 := Nat.ne_of_lt (Nat.lt_of_lt_of_le f33.lt (Nat.le_of_eq eb18.symm))
  have f35 := ((e3.other w7 (Or.inr (slot_ne (Or.inr (hw _ (List.mem_of_getElem? (i := 62) rfl))) (Or.inr (hw _ (List.mem_of_getElem? (i := 58) rfl))) (by decide) (t := (.array (.array .byte))) (t' := (.array (.object "java/lang/String"))) (by decide) (by decide)))).ext E20)
  have f36 := (f24.ext E20)
  obtain ⟨h38, w39, A37⟩ := A22.putF (pc' := 20) (ty := (.array (.array .byte))) (host := "") d12_17 (Or.inl (hw _ (List.mem_of_getElem? (i := 61) rfl))) Via.refl f35 f36 (Or.inr ⟨(hw _ (List.mem_of_getElem? (i := 62) rfl)), rfl, rfl⟩) (hw _ (List.mem_of_getElem? (i := 51) rfl)) (by decide) rfl rfl e1 rfl
  have f40 := f35.same w39
  have A41 := A37.aloadN (v := (.ref m)) (pc' := 21) d12_20 rfl rfl rfl
  have A42 := A41.aloadN (v := (.ref a)) (pc' := 22) d12_21 rfl rfl rfl
  have f43 := ((f11.ext E20).other w39 e16)
  have A44 := A42.alen (z := (2 : Int32)) (pc' := 23) d12_22 f43 rfl rfl
  have A45 := A44.iconst (z := (1 : Int32)) (pc' := 24) d12_23 rfl rfl
  have A46 := A45.iadd (pc' := 25) d12_24 rfl
  have A47 := A46.topI (z := (3 : Int32)) (by decide)
  obtain ⟨h48, b49, eb50, g51, E52, X53, XE55, A54⟩ := A47.newP (z := (3 : Int32)) (N := 3) (cap := 3) (C' := 2) (S' := 6) (pc' := 27) d12_25 (hw _ (List.mem_of_getElem? (i := 63) rfl)) rfl (by decide) (by decide) (by decide) (by decide) rfl rfl rfl rfl
  have f56 := (f36.wr w39)
  have ne57 : m ≠ b49 := Nat.ne_of_lt (Nat.lt_of_lt_of_le f56.lt (Nat.le_of_eq eb50.symm))
  have ne58 : a ≠ b49 := Nat.ne_of_lt (Nat.lt_of_lt_of_le f43.lt (Nat.le_of_eq eb50.symm))
  have f59 := ((f27.ext E20).wr w39)
  have ne60 : s0 ≠ b49 := Nat.ne_of_lt (Nat.lt_of_lt_of_le f59.lt (Nat.le_of_eq eb50.symm))
  have f61 := ((f29.ext E20).other w39 e18)
  have ne62 : b0 ≠ b49 := Nat.ne_of_lt (Nat.lt_of_lt_of_le f61.lt (Nat.le_of_eq eb50.symm))
  have f63 := ((f31.ext E20).wr w39)
  have ne64 : s1 ≠ b49 := Nat.ne_of_lt (Nat.lt_of_lt_of_le f63.lt (Nat.le_of_eq eb50.symm))
  have f65 := ((f33.ext E20).other w39 e20)
  have ne66 : b1 ≠ b49 := Nat.ne_of_lt (Nat.lt_of_lt_of_le f65.lt (Nat.le_of_eq eb50.symm))
  have f67 := (X21.other w39 (Ne.symm ne25))
  have ne68 : b17 ≠ b49 := Nat.ne_of_lt (Nat.lt_of_lt_of_le f67.lt (Nat.le_of_eq eb50.symm))
  change Exa Z h48 b49 "[I" at XE55
  change Ars Z h48 b49 .int 3 (fun _ => (.int (0 : Int32))) at X53
  have f69 := ((((e4.other w7 (Or.inr (slot_ne (Or.inr (hw _ (List.mem_of_getElem? (i := 65) rfl))) (Or.inr (hw _ (List.mem_of_getElem? (i := 58) rfl))) (by decide) (t := (.array .int)) (t' := (.array (.object "java/lang/String"))) (by decide) (by decide)))).ext E20).other w39 (Or.inr (slot_ne (Or.inr (hw _ (List.mem_of_getElem? (i := 65) rfl))) (Or.inr (hw _ (List.mem_of_getElem? (i := 62) rfl))) (by decide) (t := (.array .int)) (t' := (.array (.array .byte))) (by decide) (by decide)))).ext E52)
  have f70 := (f56.ext E52)
  obtain ⟨h72, w73, A71⟩ := A54.putF (pc' := 30) (ty := (.array .int)) (host := "") d12_27 (Or.inl (hw _ (List.mem_of_getElem? (i := 64) rfl))) Via.refl f69 f70 (Or.inr ⟨(hw _ (List.mem_of_getElem? (i := 65) rfl)), rfl, rfl⟩) (hw _ (List.mem_of_getElem? (i := 51) rfl)) (by decide) rfl rfl e1 rfl
  have f74 := f69.same w73
  have A75 := A71.iconst (z := (0 : Int32)) (pc' := 31) d12_30 rfl rfl
  have A76 := A75.istoreN (Ls' := #[.val (.ref m), .val (.ref a), .val (.int (0 : Int32)), .unset, .unset, .unset]) (pc' := 32) d12_31 rfl rfl
  have A77 := A76.iloadN (v := (0 : Int32)) (pc' := 33) d12_32 rfl rfl
  have A78 := A77.aloadN (v := (.ref a)) (pc' := 34) d12_33 rfl rfl rfl
  have f79 := ((f43.ext E52).other w73 e16)
  have A80 := A78.alen (z := (2 : Int32)) (pc' := 35) d12_34 f79 rfl rfl
  have A82 := A80.icmpNo (pc' := 38) d12_35 (tlt (ilt (x := (0 : Int32)) (y := (2 : Int32)) rfl rfl (by decide : (0 : Int) < 2))).2.1 rfl
  have A83 := A82.iconst (z := (1 : Int32)) (pc' := 39) d12_38 rfl rfl
  have A84 := A83.istoreN (Ls' := #[.val (.ref m), .val (.ref a), .val (.int (0 : Int32)), .val (.int (1 : Int32)), .unset, .unset]) (pc' := 40) d12_39 rfl rfl
  have A85 := A84.iconst (z := (0 : Int32)) (pc' := 41) d12_40 rfl rfl
  have A86 := A85.istore (Ls' := #[.val (.ref m), .val (.ref a), .val (.int (0 : Int32)), .val (.int (1 : Int32)), .val (.int (0 : Int32)), .unset]) (pc' := 43) d12_41 rfl rfl
  have A87 := A86.iloadN (v := (1 : Int32)) (pc' := 44) d12_43 rfl rfl
  have A89 := A87.ifNo (pc' := 47) d12_44 (feq (ine (x := (1 : Int32)) (y := (0 : Int32)) rfl rfl (by decide : ¬ ((1 : Int) = 0)))).1 rfl
  have A90 := A89.iload (v := (0 : Int32)) (pc' := 49) d12_47 rfl rfl
  have A91 := A90.aloadN (v := (.ref a)) (pc' := 50) d12_49 rfl rfl rfl
  have A92 := A91.iloadN (v := (0 : Int32)) (pc' := 51) d12_50 rfl rfl
  have A93 := A92.aaload (i := 0) (v := (.ref s0)) (pc' := 52) d12_51 rfl f79 rfl (by decide) rfl rfl
  have f94 := ((f59.ext E52).wr w73)
  have f95 := (((((e7.other w7 (Or.inl e17)).ext E20).other w39 (Or.inl e17)).ext E52).other w73 (Or.inl e17))
  have f96 := (((((e8.other w7 (Or.inl e17)).ext E20).other w39 (Or.inl e17)).ext E52).other w73 (Or.inl e17))
  have f97 := ((f61.ext E52).other w73 e18)
  have f98 := (((((e24.wr w7 e1).ext E20).wr w39 e1).ext E52).wr w73 e1)
  obtain ⟨r100, _, ⟨rfl, q101⟩, A99⟩ := W.kI (A93.callV (a := s0) (argsL := []) (rest := [(.int (0 : Int32))]) (C' := 2) (S' := 6) (pc' := 55) d12_52 f94 (hw _ (List.mem_of_getElem? (i := 66) rfl)) (hw _ (List.mem_of_getElem? (i := 67) rfl)) (fun hZ => notFace_of_selects (args := #[]) (mvT hZ (hw _ (List.mem_of_getElem? (i := 69) rfl)))) (hw _ (List.mem_of_getElem? (i := 69) rfl)) (hw _ (List.mem_of_getElem? (i := 68) rfl)) (hw _ (List.mem_of_getElem? (i := 9) rfl)) (hw _ (List.mem_of_getElem? (i := 70) rfl)) (rm13_2 l Z a0 hw n0 [] (s0) (b0) ((upd (upd (fun _ => (.int (0 : Int32))) 0 (.int x0.toInt8.toInt32.toInt8.toInt32)) 1 (.int x1.toInt8.toInt32.toInt8.toInt32))) (_) h72 A93.size f94 f95 f96 f97 f98 e25 (by assumption)) rfl rfl pd_15 rfl rfl (by decide) (by decide) (Nat.le_of_ble_eq_true rfl) (by decide) (by decide) rfl rfl rfl)
  subst q101
  have A104 := A99.icmpNo (pc' := 58) d12_55 (tlt (ilt (x := (0 : Int32)) (y := (2 : Int32)) rfl rfl (by decide : (0 : Int) < 2))).2.1 rfl
  have A105 := A104.aloadN (v := (.ref a)) (pc' := 59) d12_58 rfl rfl rfl
  have A106 := A105.iloadN (v := (0 : Int32)) (pc' := 60) d12_59 rfl rfl
  have A107 := A106.aaload (i := 0) (v := (.ref s0)) (pc' := 61) d12_60 rfl f79 rfl (by decide) rfl rfl
  have A108 := A107.iload (v := (0 : Int32)) (pc' := 63) d12_61 rfl rfl
  obtain ⟨r110, _, ⟨rfl, q111⟩, A109⟩ := W.kI (A108.callV (a := s0) (argsL := [(.int (0 : Int32))]) (rest := []) (C' := 2) (S' := 6) (pc' := 66) d12_63 f94 (hw _ (List.mem_of_getElem? (i := 76) rfl)) (hw _ (List.mem_of_getElem? (i := 77) rfl)) (fun hZ => notFace_of_selects (args := #[]) (mvT hZ (hw _ (List.mem_of_getElem? (i := 79) rfl)))) (hw _ (List.mem_of_getElem? (i := 79) rfl)) (hw _ (List.mem_of_getElem? (i := 78) rfl)) (hw _ (List.mem_of_getElem? (i := 9) rfl)) (hw _ (List.mem_of_getElem? (i := 80) rfl)) (rm15_2_0 l Z a0 hw n0 [] (s0) (b0) ((upd (upd (fun _ => (.int (0 : Int32))) 0 (.int x0.toInt8.toInt32.toInt8.toInt32)) 1 (.int x1.toInt8.toInt32.toInt8.toInt32))) (x0) (_) (_) h72 A108.size f94 f95 f96 f97 (by first | assumption | exact congrArg Value.int (own_bb _)) (by first | assumption | exact congrArg Value.int (own_bb _)) f98 e25 (by first | assumption | exact congrArg Value.int (own_bb _)) e27 (by first | assumption | exact congrArg Value.int (own_bb _))) rfl rfl pd_16 rfl rfl (by decide) (by decide) (Nat.le_of_ble_eq_true rfl) (by decide) (by decide) rfl rfl rfl)
  have A113 := A109.istore (Ls' := #[.val (.ref m), .val (.ref a), .val (.int (0 : Int32)), .val (.int (1 : Int32)), .val (.int (0 : Int32)), .val (.int r110)]) (pc' := 68) d12_66 rfl rfl
  have A114 := A113.iload (v := r110) (pc' := 70) d12_68 rfl rfl
  have A115 := A114.bipush (z := (32 : Int32)) (pc' := 72) d12_70 rfl rfl
  by_cases c116 : r110.toInt < 32
  · exfalso
    omega
  · have A119 := A115.icmpNo (pc' := 75) d12_72 (flt (inlt (x := r110) (y := (32 : Int32)) rfl rfl c116)).1 rfl
    have A120 := A119.iload (v := r110) (pc' := 77) d12_75 rfl rfl
    have A121 := A120.sipush (z := (128 : Int32)) (pc' := 80) d12_77 rfl rfl
    by_cases c122 : r110.toInt < 128
    · have A123 := A121.icmpNo (pc' := 83) d12_80 (tlt (ilt (x := r110) (y := (128 : Int32)) rfl rfl c122)).2.1 rfl
      have A124 := A123.iload (v := r110) (pc' := 85) d12_83 rfl rfl
      have A125 := A124.bipush (z := (34 : Int32)) (pc' := 87) d12_85 rfl rfl
      by_cases c126 : r110.toInt = 34
      · exfalso
        omega
      · have A128 := A125.icmpNo (pc' := 90) d12_87 (feq (ine (x := r110) (y := (34 : Int32)) rfl rfl c126)).1 rfl
        have A129 := A128.iload (v := r110) (pc' := 92) d12_90 rfl rfl
        have A130 := A129.bipush (z := (92 : Int32)) (pc' := 94) d12_92 rfl rfl
        by_cases c131 : r110.toInt = 92
        · exfalso
          omega
        · have A133 := A130.icmpNo (pc' := 97) d12_94 (feq (ine (x := r110) (y := (92 : Int32)) rfl rfl c131)).1 rfl
          have A134 := A133.iconst (z := (1 : Int32)) (pc' := 98) d12_97 rfl rfl
          have A135 := A134.goto (pc' := 102) d12_98 (by decide) (by decide)
          have A137 := A135.istoreN (Ls' := #[.val (.ref m), .val (.ref a), .val (.int (0 : Int32)), .val (.int (1 : Int32)), .val (.int (0 : Int32)), .val (.int r110)]) (pc' := 103) d12_102 rfl rfl
          have A138 := A137.iinc (v := (0 : Int32)) (z := (1 : Int32)) (Ls' := #[.val (.ref m), .val (.ref a), .val (.int (0 : Int32)), .val (.int (1 : Int32)), .val (.int (1 : Int32)), .val (.int r110)]) (pc' := 106) d12_103 rfl (by decide) rfl rfl
          have A139 := A138.goto (pc' := 43) d12_106 (by decide) (by decide)
          have A140 := A139.iloadN (v := (1 : Int32)) (pc' := 44) d12_43 rfl rfl
          have A142 := A140.ifNo (pc' := 47) d12_44 (feq (ine (x := (1 : Int32)) (y := (0 : Int32)) rfl rfl (by decide : ¬ ((1 : Int) = 0)))).1 rfl
          have A143 := A142.iload (v := (1 : Int32)) (pc' := 49) d12_47 rfl rfl
          have A144 := A143.aloadN (v := (.ref a)) (pc' := 50) d12_49 rfl rfl rfl
          have A145 := A144.iloadN (v := (0 : Int32)) (pc' := 51) d12_50 rfl rfl
          have A146 := A145.aaload (i := 0) (v := (.ref s0)) (pc' := 52) d12_51 rfl f79 rfl (by decide) rfl rfl
          obtain ⟨r148, _, ⟨rfl, q149⟩, A147⟩ := W.kI (A146.callV (a := s0) (argsL := []) (rest := [(.int (1 : Int32))]) (C' := 2) (S' := 6) (pc' := 55) d12_52 f94 (hw _ (List.mem_of_getElem? (i := 66) rfl)) (hw _ (List.mem_of_getElem? (i := 67) rfl)) (fun hZ => notFace_of_selects (args := #[]) (mvT hZ (hw _ (List.mem_of_getElem? (i := 69) rfl)))) (hw _ (List.mem_of_getElem? (i := 69) rfl)) (hw _ (List.mem_of_getElem? (i := 68) rfl)) (hw _ (List.mem_of_getElem? (i := 9) rfl)) (hw _ (List.mem_of_getElem? (i := 70) rfl)) (rm13_2 l Z a0 hw n0 [] (s0) (b0) ((upd (upd (fun _ => (.int (0 : Int32))) 0 (.int x0.toInt8.toInt32.toInt8.toInt32)) 1 (.int x1.toInt8.toInt32.toInt8.toInt32))) (_) h72 A146.size f94 f95 f96 f97 f98 e25 (by assumption)) rfl rfl pd_15 rfl rfl (by decide) (by decide) (Nat.le_of_ble_eq_true rfl) (by decide) (by decide) rfl rfl rfl)
          subst q149
          have A152 := A147.icmpNo (pc' := 58) d12_55 (tlt (ilt (x := (1 : Int32)) (y := (2 : Int32)) rfl rfl (by decide : (1 : Int) < 2))).2.1 rfl
          have A153 := A152.aloadN (v := (.ref a)) (pc' := 59) d12_58 rfl rfl rfl
          have A154 := A153.iloadN (v := (0 : Int32)) (pc' := 60) d12_59 rfl rfl
          have A155 := A154.aaload (i := 0) (v := (.ref s0)) (pc' := 61) d12_60 rfl f79 rfl (by decide) rfl rfl
          have A156 := A155.iload (v := (1 : Int32)) (pc' := 63) d12_61 rfl rfl
          obtain ⟨r158, _, ⟨rfl, q159⟩, A157⟩ := W.kI (A156.callV (a := s0) (argsL := [(.int (1 : Int32))]) (rest := []) (C' := 2) (S' := 6) (pc' := 66) d12_63 f94 (hw _ (List.mem_of_getElem? (i := 76) rfl)) (hw _ (List.mem_of_getElem? (i := 77) rfl)) (fun hZ => notFace_of_selects (args := #[]) (mvT hZ (hw _ (List.mem_of_getElem? (i := 79) rfl)))) (hw _ (List.mem_of_getElem? (i := 79) rfl)) (hw _ (List.mem_of_getElem? (i := 78) rfl)) (hw _ (List.mem_of_getElem? (i := 9) rfl)) (hw _ (List.mem_of_getElem? (i := 80) rfl)) (rm15_2_1 l Z a0 hw n0 [] (s0) (b0) ((upd (upd (fun _ => (.int (0 : Int32))) 0 (.int x0.toInt8.toInt32.toInt8.toInt32)) 1 (.int x1.toInt8.toInt32.toInt8.toInt32))) (x1) (_) (_) h72 A156.size f94 f95 f96 f97 (by first | assumption | exact congrArg Value.int (own_bb _)) (by first | assumption | exact congrArg Value.int (own_bb _)) f98 e25 (by first | assumption | exact congrArg Value.int (own_bb _)) e27 (by first | assumption | exact congrArg Value.int (own_bb _))) rfl rfl pd_16 rfl rfl (by decide) (by decide) (Nat.le_of_ble_eq_true rfl) (by decide) (by decide) rfl rfl rfl)
          have A161 := A157.istore (Ls' := #[.val (.ref m), .val (.ref a), .val (.int (0 : Int32)), .val (.int (1 : Int32)), .val (.int (1 : Int32)), .val (.int r158)]) (pc' := 68) d12_66 rfl rfl
          have A162 := A161.iload (v := r158) (pc' := 70) d12_68 rfl rfl
          have A163 := A162.bipush (z := (32 : Int32)) (pc' := 72) d12_70 rfl rfl
          by_cases c164 : r158.toInt < 32
          · exfalso
            omega
          · have A167 := A163.icmpNo (pc' := 75) d12_72 (flt (inlt (x := r158) (y := (32 : Int32)) rfl rfl c164)).1 rfl
            have A168 := A167.iload (v := r158) (pc' := 77) d12_75 rfl rfl
            have A169 := A168.sipush (z := (128 : Int32)) (pc' := 80) d12_77 rfl rfl
            by_cases c170 : r158.toInt < 128
            · have A171 := A169.icmpNo (pc' := 83) d12_80 (tlt (ilt (x := r158) (y := (128 : Int32)) rfl rfl c170)).2.1 rfl
              have A172 := A171.iload (v := r158) (pc' := 85) d12_83 rfl rfl
              have A173 := A172.bipush (z := (34 : Int32)) (pc' := 87) d12_85 rfl rfl
              by_cases c174 : r158.toInt = 34
              · exfalso
                omega
              · have A176 := A173.icmpNo (pc' := 90) d12_87 (feq (ine (x := r158) (y := (34 : Int32)) rfl rfl c174)).1 rfl
                have A177 := A176.iload (v := r158) (pc' := 92) d12_90 rfl rfl
                have A178 := A177.bipush (z := (92 : Int32)) (pc' := 94) d12_92 rfl rfl
                by_cases c179 : r158.toInt = 92
                · exfalso
                  omega
                · have A181 := A178.icmpNo (pc' := 97) d12_94 (feq (ine (x := r158) (y := (92 : Int32)) rfl rfl c179)).1 rfl
                  have A182 := A181.iconst (z := (1 : Int32)) (pc' := 98) d12_97 rfl rfl
                  have A183 := A182.goto (pc' := 102) d12_98 (by decide) (by decide)
                  have A185 := A183.istoreN (Ls' := #[.val (.ref m), .val (.ref a), .val (.int (0 : Int32)), .val (.int (1 : Int32)), .val (.int (1 : Int32)), .val (.int r158)]) (pc' := 103) d12_102 rfl rfl
                  have A186 := A185.iinc (v := (1 : Int32)) (z := (2 : Int32)) (Ls' := #[.val (.ref m), .val (.ref a), .val (.int (0 : Int32)), .val (.int (1 : Int32)), .val (.int (2 : Int32)), .val (.int r158)]) (pc' := 106) d12_103 rfl (by decide) rfl rfl
                  have A187 := A186.goto (pc' := 43) d12_106 (by decide) (by decide)
                  have A188 := A187.iloadN (v := (1 : Int32)) (pc' := 44) d12_43 rfl rfl
                  have A190 := A188.ifNo (pc' := 47) d12_44 (feq (ine (x := (1 : Int32)) (y := (0 : Int32)) rfl rfl (by decide : ¬ ((1 : Int) = 0)))).1 rfl
                  have A191 := A190.iload (v := (2 : Int32)) (pc' := 49) d12_47 rfl rfl
                  have A192 := A191.aloadN (v := (.ref a)) (pc' := 50) d12_49 rfl rfl rfl
                  have A193 := A192.iloadN (v := (0 : Int32)) (pc' := 51) d12_50 rfl rfl
                  have A194 := A193.aaload (i := 0) (v := (.ref s0)) (pc' := 52) d12_51 rfl f79 rfl (by decide) rfl rfl
                  obtain ⟨r196, _, ⟨rfl, q197⟩, A195⟩ := W.kI (A194.callV (a := s0) (argsL := []) (rest := [(.int (2 : Int32))]) (C' := 2) (S' := 6) (pc' := 55) d12_52 f94 (hw _ (List.mem_of_getElem? (i := 66) rfl)) (hw _ (List.mem_of_getElem? (i := 67) rfl)) (fun hZ => notFace_of_selects (args := #[]) (mvT hZ (hw _ (List.mem_of_getElem? (i := 69) rfl)))) (hw _ (List.mem_of_getElem? (i := 69) rfl)) (hw _ (List.mem_of_getElem? (i := 68) rfl)) (hw _ (List.mem_of_getElem? (i := 9) rfl)) (hw _ (List.mem_of_getElem? (i := 70) rfl)) (rm13_2 l Z a0 hw n0 [] (s0) (b0) ((upd (upd (fun _ => (.int (0 : Int32))) 0 (.int x0.toInt8.toInt32.toInt8.toInt32)) 1 (.int x1.toInt8.toInt32.toInt8.toInt32))) (_) h72 A194.size f94 f95 f96 f97 f98 e25 (by assumption)) rfl rfl pd_15 rfl rfl (by decide) (by decide) (Nat.le_of_ble_eq_true rfl) (by decide) (by decide) rfl rfl rfl)
                  subst q197
                  have A200 := A195.icmpYes (pc' := 109) d12_55 (flt (inlt (x := (2 : Int32)) (y := (2 : Int32)) rfl rfl (by decide : ¬ ((2 : Int) < 2)))).2.1 (by decide) (by decide)
                  have A201 := A200.aloadN (v := (.ref m)) (pc' := 110) d12_109 rfl rfl rfl
                  have f203 := ((f40.ext E52).other w73 (Or.inr (slot_ne (Or.inr (hw _ (List.mem_of_getElem? (i := 62) rfl))) (Or.inr (hw _ (List.mem_of_getElem? (i := 65) rfl))) (by decide) (t := (.array (.array .byte))) (t' := (.array .int)) (by decide) (by decide))))
                  have A202 := A201.getF (pc' := 113) (host := "") d12_110 (Or.inl (hw _ (List.mem_of_getElem? (i := 61) rfl))) Via.refl f203 rfl
                  have A204 := A202.iloadN (v := (0 : Int32)) (pc' := 114) d12_113 rfl rfl
                  have A205 := A204.iloadN (v := (1 : Int32)) (pc' := 115) d12_114 rfl rfl
                  have A207 := A205.ifNo (pc' := 118) d12_115 (feq (ine (x := (1 : Int32)) (y := (0 : Int32)) rfl rfl (by decide : ¬ ((1 : Int) = 0)))).1 rfl
                  have A208 := A207.aloadN (v := (.ref a)) (pc' := 119) d12_118 rfl rfl rfl
                  have A209 := A208.iloadN (v := (0 : Int32)) (pc' := 120) d12_119 rfl rfl
                  have A210 := A209.aaload (i := 0) (v := (.ref s0)) (pc' := 121) d12_120 rfl f79 rfl (by decide) rfl rfl
                  have f212 := e32.ext f98.2
                  have A211 := A210.getS (pc' := 124) (host := "") d12_121 (Or.inl (hw _ (List.mem_of_getElem? (i := 109) rfl))) Via.refl f212 rfl
                  have f213 := (((((e10.wr w7).ext E20).wr w39).ext E52).wr w73)
                  obtain ⟨r215, h217, ⟨K218, g219, z220, f221, f222, q216⟩, A214⟩ := W.kA (A211.callV (a := s0) (argsL := [(.ref iso)]) (rest := [(.int (0 : Int32)), (.ref b17)]) (C' := 3) (S' := 8) (pc' := 127) d12_124 f94 (hw _ (List.mem_of_getElem? (i := 111) rfl)) (hw _ (List.mem_of_getElem? (i := 112) rfl)) (fun hZ => notFace_of_selects (args := #[]) (mvT hZ (hw _ (List.mem_of_getElem? (i := 114) rfl)))) (hw _ (List.mem_of_getElem? (i := 114) rfl)) (hw _ (List.mem_of_getElem? (i := 113) rfl)) (hw _ (List.mem_of_getElem? (i := 9) rfl)) (hw _ (List.mem_of_getElem? (i := 115) rfl)) (rm22_2 l Z a0 hw n0 [] (s0) (iso) (b0) ((upd (upd (fun _ => (.int (0 : Int32))) 0 (.int x0.toInt8.toInt32.toInt8.toInt32)) 1 (.int x1.toInt8.toInt32.toInt8.toInt32))) (_) (_) h72 A211.size f94 f95 f96 f97 f213 f98 e25 (by assumption) e29 e30 e31) rfl rfl pd_17 rfl rfl (by decide) (by decide) (Nat.le_of_ble_eq_true rfl) (by decide) (by decide) rfl rfl rfl)
                  have f223 := (f70.wr w73)
                  have ne224 : m ≠ r215 := Nat.ne_of_lt (Nat.lt_of_lt_of_le f223.lt z220)
                  have ne225 : a ≠ r215 := Nat.ne_of_lt (Nat.lt_of_lt_of_le f79.lt z220)
                  have ne226 : s0 ≠ r215 := Nat.ne_of_lt (Nat.lt_of_lt_of_le f94.lt z220)
                  have ne227 : b0 ≠ r215 := Nat.ne_of_lt (Nat.lt_of_lt_of_le f97.lt z220)
                  have f228 := ((f63.ext E52).wr w73)
                  have ne229 : s1 ≠ r215 := Nat.ne_of_lt (Nat.lt_of_lt_of_le f228.lt z220)
                  have f230 := ((f65.ext E52).other w73 e20)
                  have ne231 : b1 ≠ r215 := Nat.ne_of_lt (Nat.lt_of_lt_of_le f230.lt z220)
                  have f232 := ((f67.ext E52).other w73 (Ne.symm ne25))
                  have ne233 : b17 ≠ r215 := Nat.ne_of_lt (Nat.lt_of_lt_of_le f232.lt z220)
                  have f234 := (X53.other w73 (Ne.symm ne57))
                  have ne235 : b49 ≠ r215 := Nat.ne_of_lt (Nat.lt_of_lt_of_le f234.lt z220)
                  have A236 := A214.goto (pc' := 133) d12_127 (by decide) (by decide)
                  have f237 := (f232.keep K218 nin0)
                  have f238 := ((((XE23.wr w39).ext E52).wr w73).keep K218)
                  obtain ⟨h239, w240, X241, A242⟩ := A236.aastore (i := 0) (pc' := 134) d12_133 rfl f237 (sto_x f237 f238 (hw _ (List.mem_of_getElem? (i := 60) rfl)) rfl rfl (Ins.self f222)) rfl rfl (by decide) g19 rfl
                  have A243 := A242.aloadN (v := (.ref m)) (pc' := 135) d12_134 rfl rfl rfl
                  have f245 := ((f74.keep K218 nin0).other w240 (Or.inl ne25))
                  have A244 := A243.getF (pc' := 138) (host := "") d12_135 (Or.inl (hw _ (List.mem_of_getElem? (i := 64) rfl))) Via.refl f245 rfl
                  have A246 := A244.iloadN (v := (0 : Int32)) (pc' := 139) d12_138 rfl rfl
                  have A247 := A246.iloadN (v := (1 : Int32)) (pc' := 140) d12_139 rfl rfl
                  have A249 := A247.ifNo (pc' := 143) d12_140 (feq (ine (x := (1 : Int32)) (y := (0 : Int32)) rfl rfl (by decide : ¬ ((1 : Int) = 0)))).1 rfl
                  have A250 := A249.aloadN (v := (.ref m)) (pc' := 144) d12_143 rfl rfl rfl
                  have f252 := ((f203.keep K218 nin0).other w240 (Or.inl ne25))
                  have A251 := A250.getF (pc' := 147) (host := "") d12_144 (Or.inl (hw _ (List.mem_of_getElem? (i := 61) rfl))) Via.refl f252 rfl
                  have A253 := A251.iloadN (v := (0 : Int32)) (pc' := 148) d12_147 rfl rfl
                  have A254 := A253.aaload (i := 0) (v := (.ref r215)) (pc' := 149) d12_148 rfl X241 rfl (by decide) rfl rfl
                  have f255 := (f221.other w240 (Ne.symm ne233))
                  have A256 := A254.alen (z := (2 : Int32)) (pc' := 150) d12_149 f255 rfl rfl
                  have A257 := A256.goto (pc' := 155) d12_150 (by decide) (by decide)
                  have f258 := ((f234.keep K218 nin0).other w240 (Ne.symm ne68))
                  obtain ⟨h259, w260, X261, A262⟩ := A257.iastore (i := 0) (pc' := 156) d12_155 f258 rfl (by decide) g51 rfl
                  have A263 := A262.iinc (v := (0 : Int32)) (z := (1 : Int32)) (Ls' := #[.val (.ref m), .val (.ref a), .val (.int (1 : Int32)), .val (.int (1 : Int32)), .val (.int (2 : Int32)), .val (.int r158)]) (pc' := 159) d12_156 rfl (by decide) rfl rfl
                  have A264 := A263.goto (pc' := 32) d12_159 (by decide) (by decide)
                  have A265 := A264.iloadN (v := (1 : Int32)) (pc' := 33) d12_32 rfl rfl
                  have A266 := A265.aloadN (v := (.ref a)) (pc' := 34) d12_33 rfl rfl rfl
                  have f267 := (((f79.keep K218 nin0).other w240 ne26).other w260 ne58)
                  have A268 := A266.alen (z := (2 : Int32)) (pc' := 35) d12_34 f267 rfl rfl
                  have A270 := A268.icmpNo (pc' := 38) d12_35 (tlt (ilt (x := (1 : Int32)) (y := (2 : Int32)) rfl rfl (by decide : (1 : Int) < 2))).2.1 rfl
                  have A271 := A270.iconst (z := (1 : Int32)) (pc' := 39) d12_38 rfl rfl
                  have A272 := A271.istoreN (Ls' := #[.val (.ref m), .val (.ref a), .val (.int (1 : Int32)), .val (.int (1 : Int32)), .val (.int (2 : Int32)), .val (.int r158)]) (pc' := 40) d12_39 rfl rfl
                  have A273 := A272.iconst (z := (0 : Int32)) (pc' := 41) d12_40 rfl rfl
                  have A274 := A273.istore (Ls' := #[.val (.ref m), .val (.ref a), .val (.int (1 : Int32)), .val (.int (1 : Int32)), .val (.int (0 : Int32)), .val (.int r158)]) (pc' := 43) d12_41 rfl rfl
                  have A275 := A274.iloadN (v := (1 : Int32)) (pc' := 44) d12_43 rfl rfl
                  have A277 := A275.ifNo (pc' := 47) d12_44 (feq (ine (x := (1 : Int32)) (y := (0 : Int32)) rfl rfl (by decide : ¬ ((1 : Int) = 0)))).1 rfl
                  have A278 := A277.iload (v := (0 : Int32)) (pc' := 49) d12_47 rfl rfl
                  have A279 := A278.aloadN (v := (.ref a)) (pc' := 50) d12_49 rfl rfl rfl
                  have A280 := A279.iloadN (v := (1 : Int32)) (pc' := 51) d12_50 rfl rfl
                  have A281 := A280.aaload (i := 1) (v := (.ref s1)) (pc' := 52) d12_51 rfl f267 rfl (by decide) rfl rfl
                  have f282 := (((f228.keep K218).wr w240).wr w260)
                  have f283 := ((((((((e12.other w7 (Or.inl e19)).ext E20).other w39 (Or.inl e19)).ext E52).other w73 (Or.inl e19)).keep K218 nin0).other w240 (Or.inl ne32)).other w260 (Or.inl ne64))
                  have f284 := ((((((((e13.other w7 (Or.inl e19)).ext E20).other w39 (Or.inl e19)).ext E52).other w73 (Or.inl e19)).keep K218 nin0).other w240 (Or.inl ne32)).other w260 (Or.inl ne64))
                  have f285 := (((f230.keep K218 nin0).other w240 ne34).other w260 ne66)
                  have f286 := (((f98.keep K218 all0).wr w240 g19).wr w260 g51)
                  obtain ⟨r288, _, ⟨rfl, q289⟩, A287⟩ := W.kI (A281.callV (a := s1) (argsL := []) (rest := [(.int (0 : Int32))]) (C' := 3) (S' := 8) (pc' := 55) d12_52 f282 (hw _ (List.mem_of_getElem? (i := 66) rfl)) (hw _ (List.mem_of_getElem? (i := 67) rfl)) (fun hZ => notFace_of_selects (args := #[]) (mvT hZ (hw _ (List.mem_of_getElem? (i := 69) rfl)))) (hw _ (List.mem_of_getElem? (i := 69) rfl)) (hw _ (List.mem_of_getElem? (i := 68) rfl)) (hw _ (List.mem_of_getElem? (i := 9) rfl)) (hw _ (List.mem_of_getElem? (i := 70) rfl)) (rm13_1 l Z a0 hw n0 [] (s1) (b1) ((upd (fun _ => (.int (0 : Int32))) 0 (.int x2.toInt8.toInt32.toInt8.toInt32))) (_) h259 A281.size f282 f283 f284 f285 f286 e25 (by assumption)) rfl rfl pd_15 rfl rfl (by decide) (by decide) (Nat.le_of_ble_eq_true rfl) (by decide) (by decide) rfl rfl rfl)
                  subst q289
                  have A292 := A287.icmpNo (pc' := 58) d12_55 (tlt (ilt (x := (0 : Int32)) (y := (1 : Int32)) rfl rfl (by decide : (0 : Int) < 1))).2.1 rfl
                  have A293 := A292.aloadN (v := (.ref a)) (pc' := 59) d12_58 rfl rfl rfl
                  have A294 := A293.iloadN (v := (1 : Int32)) (pc' := 60) d12_59 rfl rfl
                  have A295 := A294.aaload (i := 1) (v := (.ref s1)) (pc' := 61) d12_60 rfl f267 rfl (by decide) rfl rfl
                  have A296 := A295.iload (v := (0 : Int32)) (pc' := 63) d12_61 rfl rfl
                  obtain ⟨r298, _, ⟨rfl, q299⟩, A297⟩ := W.kI (A296.callV (a := s1) (argsL := [(.int (0 : Int32))]) (rest := []) (C' := 3) (S' := 8) (pc' := 66) d12_63 f282 (hw _ (List.mem_of_getElem? (i := 76) rfl)) (hw _ (List.mem_of_getElem? (i := 77) rfl)) (fun hZ => notFace_of_selects (args := #[]) (mvT hZ (hw _ (List.mem_of_getElem? (i := 79) rfl)))) (hw _ (List.mem_of_getElem? (i := 79) rfl)) (hw _ (List.mem_of_getElem? (i := 78) rfl)) (hw _ (List.mem_of_getElem? (i := 9) rfl)) (hw _ (List.mem_of_getElem? (i := 80) rfl)) (rm15_1_0 l Z a0 hw n0 [] (s1) (b1) ((upd (fun _ => (.int (0 : Int32))) 0 (.int x2.toInt8.toInt32.toInt8.toInt32))) (x2) (_) (_) h259 A296.size f282 f283 f284 f285 (by first | assumption | exact congrArg Value.int (own_bb _)) (by first | assumption | exact congrArg Value.int (own_bb _)) f286 e25 (by first | assumption | exact congrArg Value.int (own_bb _)) e27 (by first | assumption | exact congrArg Value.int (own_bb _))) rfl rfl pd_16 rfl rfl (by decide) (by decide) (Nat.le_of_ble_eq_true rfl) (by decide) (by decide) rfl rfl rfl)
                  have A301 := A297.istore (Ls' := #[.val (.ref m), .val (.ref a), .val (.int (1 : Int32)), .val (.int (1 : Int32)), .val (.int (0 : Int32)), .val (.int r298)]) (pc' := 68) d12_66 rfl rfl
                  have A302 := A301.iload (v := r298) (pc' := 70) d12_68 rfl rfl
                  have A303 := A302.bipush (z := (32 : Int32)) (pc' := 72) d12_70 rfl rfl
                  have join305 : ∀ (q328 : True), W l Z n0 y12_PN prog_32_method_1_code 6 (none) R12_PN G h259 102 #[.val (.ref m), .val (.ref a), .val (.int (1 : Int32)), .val (.int (1 : Int32)), .val (.int (0 : Int32)), .val (.int r298)] [(.int (0 : Int32))] 3 8 → Gl R12_PN n0 G (QV fun h => ∃ pl : Addr, ∃ lns : Addr, ∃ q0 : Addr, (Keep h0 h [m]) ∧ (n0 ≤ pl) ∧ (h0.size ≤ pl) ∧ (n0 ≤ lns) ∧ (h0.size ≤ lns) ∧ (n0 ≤ q0) ∧ (h0.size ≤ q0) ∧ (Fld Z h m "com/example/dialekt/dialekt/json/MemberNames" "plain" "[[B" (.ref pl)) ∧ (Fld Z h m "com/example/dialekt/dialekt/json/MemberNames" "plainLengths" "[I" (.ref lns)) ∧ (Ars Z h pl (.array .byte) 3 (upd (upd (upd (fun _ => .null) 0 (.ref q0)) 1 (.ref nb)) 2 (.ref nb))) ∧ (Ars Z h lns .int 3 (upd (upd (upd (fun _ => (.int (0 : Int32))) 0 (.int (2 : Int32))) 1 (.int (2147483647 : Int32))) 2 (.int (2147483647 : Int32)))) ∧ (Ars Z h q0 .byte 2 (upd (upd (fun _ => (.int (0 : Int32))) 0 (.int x0.toInt8.toInt32.toInt8.toInt32)) 1 (.int x1.toInt8.toInt32.toInt8.toInt32))) ∧ (True)) := by
                    intro    q328  A327
                    have A329 := A327.istoreN (Ls' := #[.val (.ref m), .val (.ref a), .val (.int (1 : Int32)), .val (.int (0 : Int32)), .val (.int (0 : Int32)), .val (.int r298)]) (pc' := 103) d12_102 rfl rfl
                    have A330 := A329.iinc (v := (0 : Int32)) (z := (1 : Int32)) (Ls' := #[.val (.ref m), .val (.ref a), .val (.int (1 : Int32)), .val (.int (0 : Int32)), .val (.int (1 : Int32)), .val (.int r298)]) (pc' := 106) d12_103 rfl (by decide) rfl rfl
                    have A331 := A330.goto (pc' := 43) d12_106 (by decide) (by decide)
                    have A332 := A331.iloadN (v := (0 : Int32)) (pc' := 44) d12_43 rfl rfl
                    have A334 := A332.ifYes (pc' := 109) d12_44 (teq (ieq (x := (0 : Int32)) (y := (0 : Int32)) rfl rfl (by decide : (0 : Int) = 0))).1 (by decide) (by decide)
                    have A335 := A334.aloadN (v := (.ref m)) (pc' := 110) d12_109 rfl rfl rfl
                    have f337 := (f252.other w260 (Or.inl ne57))
                    have A336 := A335.getF (pc' := 113) (host := "") d12_110 (Or.inl (hw _ (List.mem_of_getElem? (i := 61) rfl))) Via.refl f337 rfl
                    have A338 := A336.iloadN (v := (1 : Int32)) (pc' := 114) d12_113 rfl rfl
                    have A339 := A338.iloadN (v := (0 : Int32)) (pc' := 115) d12_114 rfl rfl
                    have A341 := A339.ifYes (pc' := 130) d12_115 (teq (ieq (x := (0 : Int32)) (y := (0 : Int32)) rfl rfl (by decide : (0 : Int) = 0))).1 (by decide) (by decide)
                    have f343 := e33.ext f286.2
                    have A342 := A341.getS (pc' := 133) (host := "") d12_130 (Or.inl (hw _ (List.mem_of_getElem? (i := 97) rfl))) Via.refl f343 rfl
                    have f344 := (X241.other w260 ne68)
                    have f345 := ((f238.wr w240).wr w260)
                    have f350 := e34.ext f286.2
                    obtain ⟨h346, w347, X348, A349⟩ := A342.aastore (i := 1) (pc' := 134) d12_133 rfl f344 (sto_x f344 f345 (hw _ (List.mem_of_getElem? (i := 60) rfl)) rfl rfl (Ins.self f350)) rfl rfl (by decide) g19 rfl
                    have A351 := A349.aloadN (v := (.ref m)) (pc' := 135) d12_134 rfl rfl rfl
                    have f353 := ((f245.other w260 (Or.inl ne57)).other w347 (Or.inl ne25))
                    have A352 := A351.getF (pc' := 138) (host := "") d12_135 (Or.inl (hw _ (List.mem_of_getElem? (i := 64) rfl))) Via.refl f353 rfl
                    have A354 := A352.iloadN (v := (1 : Int32)) (pc' := 139) d12_138 rfl rfl
                    have A355 := A354.iloadN (v := (0 : Int32)) (pc' := 140) d12_139 rfl rfl
                    have A357 := A355.ifYes (pc' := 153) d12_140 (teq (ieq (x := (0 : Int32)) (y := (0 : Int32)) rfl rfl (by decide : (0 : Int) = 0))).1 (by decide) (by decide)
                    have A358 := A357.ldc (z := (2147483647 : Int32)) (pc' := 155) d12_153 (hw _ (List.mem_of_getElem? (i := 100) rfl)) rfl
                    have f359 := (X261.other w347 (Ne.symm ne68))
                    obtain ⟨h360, w361, X362, A363⟩ := A358.iastore (i := 1) (pc' := 156) d12_155 f359 rfl (by decide) g51 rfl
                    have A364 := A363.iinc (v := (1 : Int32)) (z := (2 : Int32)) (Ls' := #[.val (.ref m), .val (.ref a), .val (.int (2 : Int32)), .val (.int (0 : Int32)), .val (.int (1 : Int32)), .val (.int r298)]) (pc' := 159) d12_156 rfl (by decide) rfl rfl
                    have A365 := A364.goto (pc' := 32) d12_159 (by decide) (by decide)
                    have A366 := A365.iloadN (v := (2 : Int32)) (pc' := 33) d12_32 rfl rfl
                    have A367 := A366.aloadN (v := (.ref a)) (pc' := 34) d12_33 rfl rfl rfl
                    have f368 := ((f267.other w347 ne26).other w361 ne58)
                    have A369 := A367.alen (z := (2 : Int32)) (pc' := 35) d12_34 f368 rfl rfl
                    have A371 := A369.icmpYes (pc' := 162) d12_35 (flt (inlt (x := (2 : Int32)) (y := (2 : Int32)) rfl rfl (by decide : ¬ ((2 : Int) < 2)))).2.1 (by decide) (by decide)
                    have A372 := A371.aloadN (v := (.ref m)) (pc' := 163) d12_162 rfl rfl rfl
                    have f374 := ((f337.other w347 (Or.inl ne25)).other w361 (Or.inl ne57))
                    have A373 := A372.getF (pc' := 166) (host := "") d12_163 (Or.inl (hw _ (List.mem_of_getElem? (i := 61) rfl))) Via.refl f374 rfl
                    have A375 := A373.aloadN (v := (.ref a)) (pc' := 167) d12_166 rfl rfl rfl
                    have A376 := A375.alen (z := (2 : Int32)) (pc' := 168) d12_167 f368 rfl rfl
                    have f378 := ((f286.wr w347 g19).wr w361 g51)
                    have f379 := e33.ext f378.2
                    have A377 := A376.getS (pc' := 171) (host := "") d12_168 (Or.inl (hw _ (List.mem_of_getElem? (i := 97) rfl))) Via.refl f379 rfl
                    have f380 := (X348.other w361 ne68)
                    have f381 := ((f345.wr w347).wr w361)
                    have f386 := e34.ext f378.2
                    obtain ⟨h382, w383, X384, A385⟩ := A377.aastore (i := 2) (pc' := 172) d12_171 rfl f380 (sto_x f380 f381 (hw _ (List.mem_of_getElem? (i := 60) rfl)) rfl rfl (Ins.self f386)) rfl rfl (by decide) g19 rfl
                    have A387 := A385.aloadN (v := (.ref m)) (pc' := 173) d12_172 rfl rfl rfl
                    have f389 := ((f353.other w361 (Or.inl ne57)).other w383 (Or.inl ne25))
                    have A388 := A387.getF (pc' := 176) (host := "") d12_173 (Or.inl (hw _ (List.mem_of_getElem? (i := 64) rfl))) Via.refl f389 rfl
                    have A390 := A388.aloadN (v := (.ref a)) (pc' := 177) d12_176 rfl rfl rfl
                    have f391 := (f368.other w383 ne26)
                    have A392 := A390.alen (z := (2 : Int32)) (pc' := 178) d12_177 f391 rfl rfl
                    have A393 := A392.ldc (z := (2147483647 : Int32)) (pc' := 180) d12_178 (hw _ (List.mem_of_getElem? (i := 100) rfl)) rfl
                    have f394 := (X362.other w383 (Ne.symm ne68))
                    obtain ⟨h395, w396, X397, A398⟩ := A393.iastore (i := 2) (pc' := 181) d12_180 f394 rfl (by decide) g51 rfl
                    have z399 : h0.size ≤ b17 := Nat.le_trans (Nat.le_trans (Nat.le_refl _) (Nat.le_of_eq w7.size.symm)) (Nat.le_of_eq eb18.symm)
                    have z400 : h0.size ≤ b49 := Nat.le_trans (Nat.le_trans (Nat.le_trans (Nat.le_trans (Nat.le_refl _) (Nat.le_of_eq w7.size.symm)) E20.1) (Nat.le_of_eq w39.size.symm)) (Nat.le_of_eq eb50.symm)
                    have K401 : Keep h0 h395 [m] := (((((((((((((Keep.refl h0 [m]).wr w7 (Or.inl (List.mem_of_getElem? (i := 0) rfl))).ext E20).wr w39 (Or.inl (List.mem_of_getElem? (i := 0) rfl))).ext E52).wr w73 (Or.inl (List.mem_of_getElem? (i := 0) rfl))).trans K218 all0).wr w240 (Or.inr z399)).wr w260 (Or.inr z400)).wr w347 (Or.inr z399)).wr w361 (Or.inr z400)).wr w383 (Or.inr z399)).wr w396 (Or.inr z400))
                    have z402 : h0.size ≤ r215 := Nat.le_trans (Nat.le_trans (Nat.le_trans (Nat.le_trans (Nat.le_trans (Nat.le_trans (Nat.le_refl _) (Nat.le_of_eq w7.size.symm)) E20.1) (Nat.le_of_eq w39.size.symm)) E52.1) (Nat.le_of_eq w73.size.symm)) z220
                    have f403 := ((f374.other w383 (Or.inl ne25)).other w396 (Or.inl ne57))
                    have f404 := (f389.other w396 (Or.inl ne57))
                    have f405 := (X384.other w396 ne68)
                    have f406 := (((((f255.other w260 (Ne.symm ne235)).other w347 (Ne.symm ne233)).other w361 (Ne.symm ne235)).other w383 (Ne.symm ne233)).other w396 (Ne.symm ne235))
                    refine A398.retV d12_181 (by decide) (by decide) ⟨rfl, ⟨b17, b49, r215, K401, g19, z399, g51, z400, g219, z402, f403, f404, f405, X397, f406, ?_⟩⟩
                    trivial
                  by_cases c304 : r298.toInt < 32
                  · have A306 := A303.icmpYes (pc' := 101) d12_72 (tlt (ilt (x := r298) (y := (32 : Int32)) rfl rfl c304)).1 (by decide) (by decide)
                    have A307 := A306.iconst (z := (0 : Int32)) (pc' := 102) d12_101 rfl rfl
                    exact join305    (by trivial)  A307
                  · have A308 := A303.icmpNo (pc' := 75) d12_72 (flt (inlt (x := r298) (y := (32 : Int32)) rfl rfl c304)).1 rfl
                    have A309 := A308.iload (v := r298) (pc' := 77) d12_75 rfl rfl
                    have A310 := A309.sipush (z := (128 : Int32)) (pc' := 80) d12_77 rfl rfl
                    by_cases c311 : r298.toInt < 128
                    · have A312 := A310.icmpNo (pc' := 83) d12_80 (tlt (ilt (x := r298) (y := (128 : Int32)) rfl rfl c311)).2.1 rfl
                      have A313 := A312.iload (v := r298) (pc' := 85) d12_83 rfl rfl
                      have A314 := A313.bipush (z := (34 : Int32)) (pc' := 87) d12_85 rfl rfl
                      by_cases c315 : r298.toInt = 34
                      · have A316 := A314.icmpYes (pc' := 101) d12_87 (teq (ieq (x := r298) (y := (34 : Int32)) rfl rfl c315)).1 (by decide) (by decide)
                        have A317 := A316.iconst (z := (0 : Int32)) (pc' := 102) d12_101 rfl rfl
                        exact join305    (by trivial)  A317
                      · have A318 := A314.icmpNo (pc' := 90) d12_87 (feq (ine (x := r298) (y := (34 : Int32)) rfl rfl c315)).1 rfl
                        have A319 := A318.iload (v := r298) (pc' := 92) d12_90 rfl rfl
                        have A320 := A319.bipush (z := (92 : Int32)) (pc' := 94) d12_92 rfl rfl
                        by_cases c321 : r298.toInt = 92
                        · have A322 := A320.icmpYes (pc' := 101) d12_94 (teq (ieq (x := r298) (y := (92 : Int32)) rfl rfl c321)).1 (by decide) (by decide)
                          have A323 := A322.iconst (z := (0 : Int32)) (pc' := 102) d12_101 rfl rfl
                          exact join305    (by trivial)  A323
                        · exfalso
                          omega
                    · have A325 := A310.icmpYes (pc' := 101) d12_80 (flt (inlt (x := r298) (y := (128 : Int32)) rfl rfl c311)).2.1 (by decide) (by decide)
                      have A326 := A325.iconst (z := (0 : Int32)) (pc' := 102) d12_101 rfl rfl
                      exact join305    (by trivial)  A326
            · exfalso
              omega
    · exfalso
      omega
abbrev y12_PP : MethodName := (⟨"com/example/dialekt/dialekt/json/MemberNames", "<init>", "([Ljava/lang/String;)V"⟩ : MethodName)
abbrev R12_PP : Room := { frames := 5, cells := 4, slots := 9, locals := 77 }
set_option maxRecDepth 65536 in
set_option maxHeartbeats 4000000 in
theorem ef12_PP (m : Addr) (a : Addr)  (mid : MethodId) : entryFrame mid #[(.ref m), (.ref a)] 6 = mkF mid 0 #[.val (.ref m), .val (.ref a), .unset, .unset, .unset, .unset] [] := by first | (simp [entryFrame, mkF, argsToLocals, Value.category]; done) | rfl
set_option maxRecDepth 65536 in
set_option maxHeartbeats 40000000 in
theorem rm12_PP (l : Launch) (Z : State) (a0 : Array Value) (hw : ∀ d ∈ tables_1, d.before a0 Z = true) (n0 : Nat) (ws : List Jvm.Cond) (m : Addr) (a : Addr) (s0 : Addr) (s1 : Addr) (b0 : Addr) (b1 : Addr) (iso : Addr) (u8 : Addr) (nb : Addr) (x0 : Int32) (x1 : Int32) (x2 : Int32) (cs : Int32) (fm : Value) (h0 : Heap) (hn0 : n0 ≤ h0.size) (e0 : Exa Z h0 m "com/example/dialekt/dialekt/json/MemberNames") (e1 : n0 ≤ m) (e2 : Fld Z h0 m "com/example/dialekt/dialekt/json/MemberNames" "names" "[Ljava/lang/String;" .null) (e3 : Fld Z h0 m "com/example/dialekt/dialekt/json/MemberNames" "plain" "[[B" .null) (e4 : Fld Z h0 m "com/example/dialekt/dialekt/json/MemberNames" "plainLengths" "[I" .null) (e5 : Ars Z h0 a (.object "java/lang/String") 2 (upd (upd (fun _ => .null) 0 (.ref s0)) 1 (.ref s1))) (e6 : Exa Z h0 s0 "java/lang/String") (e7 : Fld Z h0 s0 "java/lang/String" "value" "[B" (.ref b0)) (e8 : Fld Z h0 s0 "java/lang/String" "coder" "B" (.int (0 : Int32))) (e9 : Ars Z h0 b0 .byte 2 (upd (upd (fun _ => (.int (0 : Int32))) 0 (.int x0.toInt8.toInt32.toInt8.toInt32)) 1 (.int x1.toInt8.toInt32.toInt8.toInt32))) (e10 : Exa Z h0 b0 "[B") (e11 : Exa Z h0 s1 "java/lang/String") (e12 : Fld Z h0 s1 "java/lang/String" "value" "[B" (.ref b1)) (e13 : Fld Z h0 s1 "java/lang/String" "coder" "B" (.int (0 : Int32))) (e14 : Ars Z h0 b1 .byte 1 (upd (fun _ => (.int (0 : Int32))) 0 (.int x2.toInt8.toInt32.toInt8.toInt32))) (e15 : Exa Z h0 b1 "[B") (e16 : a ≠ m) (e17 : s0 ≠ m) (e18 : b0 ≠ m) (e19 : s1 ≠ m) (e20 : b1 ≠ m) (e21 : 0 ≤ x0.toInt ∧ x0.toInt ≤ 255) (e22 : 0 ≤ x1.toInt ∧ x1.toInt ≤ 255) (e23 : 0 ≤ x2.toInt ∧ x2.toInt ≤ 255) (e24 : Old Z n0 h0) (e25 : Sta Z Z.heap "java/lang/String" "COMPACT_STRINGS" "Z" (.int cs)) (e26 : cs.toInt ≠ 0) (e27 : Sta Z Z.heap "jdk/internal/util/Preconditions" "SIOOBE_FORMATTER" "Ljava/util/function/BiFunction;" fm) (e28 : fm.isRef = true) (e29 : Sta Z Z.heap "sun/nio/cs/UTF_8" "INSTANCE" "Lsun/nio/cs/UTF_8;" (.ref u8)) (e30 : Sta Z Z.heap "sun/nio/cs/ISO_8859_1" "INSTANCE" "Lsun/nio/cs/ISO_8859_1;" (.ref iso)) (e31 : iso ≠ u8) (e32 : Sta Z Z.heap "java/nio/charset/StandardCharsets" "ISO_8859_1" "Ljava/nio/charset/Charset;" (.ref iso)) (e33 : Sta Z Z.heap "com/example/dialekt/dialekt/json/MemberNames" "NO_BYTES" "[B" (.ref nb)) (e34 : Exa Z Z.heap nb "[B") (e35 : Ars Z Z.heap nb .byte 0 (fun _ => (.int (0 : Int32)))) (e36 : (32 ≤ x0.toInt ∧ x0.toInt < 128 ∧ ¬ (x0.toInt = 34) ∧ ¬ (x0.toInt = 92)) ∧ (32 ≤ x1.toInt ∧ x1.toInt < 128 ∧ ¬ (x1.toInt = 34) ∧ ¬ (x1.toInt = 92))) (e37 : 32 ≤ x2.toInt ∧ x2.toInt < 128 ∧ ¬ (x2.toInt = 34) ∧ ¬ (x2.toInt = 92)) :
    Ctr l Z n0 y12_PP prog_32_method_1_code 6 (none) ws R12_PP #[(.ref m), (.ref a)] h0 (QV fun h => ∃ pl : Addr, ∃ lns : Addr, ∃ q0 : Addr, ∃ q1 : Addr, (Keep h0 h [m]) ∧ (n0 ≤ pl) ∧ (h0.size ≤ pl) ∧ (n0 ≤ lns) ∧ (h0.size ≤ lns) ∧ (n0 ≤ q0) ∧ (h0.size ≤ q0) ∧ (n0 ≤ q1) ∧ (h0.size ≤ q1) ∧ (Fld Z h m "com/example/dialekt/dialekt/json/MemberNames" "plain" "[[B" (.ref pl)) ∧ (Fld Z h m "com/example/dialekt/dialekt/json/MemberNames" "plainLengths" "[I" (.ref lns)) ∧ (Ars Z h pl (.array .byte) 3 (upd (upd (upd (fun _ => .null) 0 (.ref q0)) 1 (.ref q1)) 2 (.ref nb))) ∧ (Ars Z h lns .int 3 (upd (upd (upd (fun _ => (.int (0 : Int32))) 0 (.int (2 : Int32))) 1 (.int (1 : Int32))) 2 (.int (2147483647 : Int32)))) ∧ (Ars Z h q0 .byte 2 (upd (upd (fun _ => (.int (0 : Int32))) 0 (.int x0.toInt8.toInt32.toInt8.toInt32)) 1 (.int x1.toInt8.toInt32.toInt8.toInt32))) ∧ (Ars Z h q1 .byte 1 (upd (fun _ => (.int (0 : Int32))) 0 (.int x2.toInt8.toInt32.toInt8.toInt32))) ∧ (True)) := by
  refine ctr_of pn12 hn0 (ef12_PP m a) fun G A0 => ?_
  have A1 := A0.aloadN (v := (.ref m)) (pc' := 1) d12_0 rfl rfl rfl
  have A2 := A1.initO (pc' := 4) d12_1 (hw _ (List.mem_of_getElem? (i := 56) rfl)) (hw _ (List.mem_of_getElem? (i := 19) rfl)) (hw _ (List.mem_of_getElem? (i := 20) rfl)) rfl (by decide) (Nat.le_of_ble_eq_true rfl) rfl
  have A3 := A2.aloadN (v := (.ref m)) (pc' := 5) d12_4 rfl rfl rfl
  have A4 := A3.aloadN (v := (.ref a)) (pc' := 6) d12_5 rfl rfl rfl
  obtain ⟨h6, w7, A5⟩ := A4.putF (pc' := 9) (ty := (.array (.object "java/lang/String"))) (host := "") d12_6 (Or.inl (hw _ (List.mem_of_getElem? (i := 57) rfl))) Via.refl e2 e0 (Or.inr ⟨(hw _ (List.mem_of_getElem? (i := 58) rfl)), rfl, rfl⟩) (hw _ (List.mem_of_getElem? (i := 51) rfl)) (by decide) rfl rfl e1 rfl
  have f8 := e2.same w7
  have A9 := A5.aloadN (v := (.ref m)) (pc' := 10) d12_9 rfl rfl rfl
  have A10 := A9.aloadN (v := (.ref a)) (pc' := 11) d12_10 rfl rfl rfl
  have f11 := (e5.other w7 e16)
  have A12 := A10.alen (z := (2 : Int32)) (pc' := 12) d12_11 f11 rfl rfl
  have A13 := A12.iconst (z := (1 : Int32)) (pc' := 13) d12_12 rfl rfl
  have A14 := A13.iadd (pc' := 14) d12_13 rfl
  have A15 := A14.topI (z := (3 : Int32)) (by decide)
  obtain ⟨h16, b17, eb18, g19, E20, X21, XE23, A22⟩ := A15.newRX (z := (3 : Int32)) (N := 3) (cap := 3) (C' := 1) (S' := 3) (pc' := 17) (ad := "[[B") d12_14 rfl (hw _ (List.mem_of_getElem? (i := 59) rfl)) (hw _ (List.mem_of_getElem? (i := 60) rfl)) rfl (by decide) (by decide) (by decide) (by decide) rfl rfl rfl (by decide)
  have f24 := (e0.wr w7)
  have ne25 : m ≠ b17 := Nat.ne_of_lt (Nat.lt_of_lt_of_le f24.lt (Nat.le_of_eq eb18.symm))
  have ne26 : a ≠ b17 := Nat.ne_of_lt (Nat.lt_of_lt_of_le f11.lt (Nat.le_of_eq eb18.symm))
  have f27 := (e6.wr w7)
  have ne28 : s0 ≠ b17 := Nat.ne_of_lt (Nat.lt_of_lt_of_le f27.lt (Nat.le_of_eq eb18.symm))
  have f29 := (e9.other w7 e18)
  have ne30 : b0 ≠ b17 := Nat.ne_of_lt (Nat.lt_of_lt_of_le f29.lt (Nat.le_of_eq eb18.symm))
  have f31 := (e11.wr w7)
  have ne32 : s1 ≠ b17 := Nat.ne_of_lt (Nat.lt_of_lt_of_le f31.lt (Nat.le_of_eq eb18.symm))
  have f33 := (e14.other w7 e20)
  have ne34 : b1 ≠ b17 := Nat.ne_of_lt (Nat.lt_of_lt_of_le f33.lt (Nat.le_of_eq eb18.symm))
  have f35 := ((e3.other w7 (Or.inr (slot_ne (Or.inr (hw _ (List.mem_of_getElem? (i := 62) rfl))) (Or.inr (hw _ (List.mem_of_getElem? (i := 58) rfl))) (by decide) (t := (.array (.array .byte))) (t' := (.array (.object "java/lang/String"))) (by decide) (by decide)))).ext E20)
  have f36 := (f24.ext E20)
  obtain ⟨h38, w39, A37⟩ := A22.putF (pc' := 20) (ty := (.array (.array .byte))) (host := "") d12_17 (Or.inl (hw _ (List.mem_of_getElem? (i := 61) rfl))) Via.refl f35 f36 (Or.inr ⟨(hw _ (List.mem_of_getElem? (i := 62) rfl)), rfl, rfl⟩) (hw _ (List.mem_of_getElem? (i := 51) rfl)) (by decide) rfl rfl e1 rfl
  have f40 := f35.same w39
  have A41 := A37.aloadN (v := (.ref m)) (pc' := 21) d12_20 rfl rfl rfl
  have A42 := A41.aloadN (v := (.ref a)) (pc' := 22) d12_21 rfl rfl rfl
  have f43 := ((f11.ext E20).other w39 e16)
  have A44 := A42.alen (z := (2 : Int32)) (pc' := 23) d12_22 f43 rfl rfl
  have A45 := A44.iconst (z := (1 : Int32)) (pc' := 24) d12_23 rfl rfl
  have A46 := A45.iadd (pc' := 25) d12_24 rfl
  have A47 := A46.topI (z := (3 : Int32)) (by decide)
  obtain ⟨h48, b49, eb50, g51, E52, X53, XE55, A54⟩ := A47.newP (z := (3 : Int32)) (N := 3) (cap := 3) (C' := 2) (S' := 6) (pc' := 27) d12_25 (hw _ (List.mem_of_getElem? (i := 63) rfl)) rfl (by decide) (by decide) (by decide) (by decide) rfl rfl rfl rfl
  have f56 := (f36.wr w39)
  have ne57 : m ≠ b49 := Nat.ne_of_lt (Nat.lt_of_lt_of_le f56.lt (Nat.le_of_eq eb50.symm))
  have ne58 : a ≠ b49 := Nat.ne_of_lt (Nat.lt_of_lt_of_le f43.lt (Nat.le_of_eq eb50.symm))
  have f59 := ((f27.ext E20).wr w39)
  have ne60 : s0 ≠ b49 := Nat.ne_of_lt (Nat.lt_of_lt_of_le f59.lt (Nat.le_of_eq eb50.symm))
  have f61 := ((f29.ext E20).other w39 e18)
  have ne62 : b0 ≠ b49 := Nat.ne_of_lt (Nat.lt_of_lt_of_le f61.lt (Nat.le_of_eq eb50.symm))
  have f63 := ((f31.ext E20).wr w39)
  have ne64 : s1 ≠ b49 := Nat.ne_of_lt (Nat.lt_of_lt_of_le f63.lt (Nat.le_of_eq eb50.symm))
  have f65 := ((f33.ext E20).other w39 e20)
  have ne66 : b1 ≠ b49 := Nat.ne_of_lt (Nat.lt_of_lt_of_le f65.lt (Nat.le_of_eq eb50.symm))
  have f67 := (X21.other w39 (Ne.symm ne25))
  have ne68 : b17 ≠ b49 := Nat.ne_of_lt (Nat.lt_of_lt_of_le f67.lt (Nat.le_of_eq eb50.symm))
  change Exa Z h48 b49 "[I" at XE55
  change Ars Z h48 b49 .int 3 (fun _ => (.int (0 : Int32))) at X53
  have f69 := ((((e4.other w7 (Or.inr (slot_ne (Or.inr (hw _ (List.mem_of_getElem? (i := 65) rfl))) (Or.inr (hw _ (List.mem_of_getElem? (i := 58) rfl))) (by decide) (t := (.array .int)) (t' := (.array (.object "java/lang/String"))) (by decide) (by decide)))).ext E20).other w39 (Or.inr (slot_ne (Or.inr (hw _ (List.mem_of_getElem? (i := 65) rfl))) (Or.inr (hw _ (List.mem_of_getElem? (i := 62) rfl))) (by decide) (t := (.array .int)) (t' := (.array (.array .byte))) (by decide) (by decide)))).ext E52)
  have f70 := (f56.ext E52)
  obtain ⟨h72, w73, A71⟩ := A54.putF (pc' := 30) (ty := (.array .int)) (host := "") d12_27 (Or.inl (hw _ (List.mem_of_getElem? (i := 64) rfl))) Via.refl f69 f70 (Or.inr ⟨(hw _ (List.mem_of_getElem? (i := 65) rfl)), rfl, rfl⟩) (hw _ (List.mem_of_getElem? (i := 51) rfl)) (by decide) rfl rfl e1 rfl
  have f74 := f69.same w73
  have A75 := A71.iconst (z := (0 : Int32)) (pc' := 31) d12_30 rfl rfl
  have A76 := A75.istoreN (Ls' := #[.val (.ref m), .val (.ref a), .val (.int (0 : Int32)), .unset, .unset, .unset]) (pc' := 32) d12_31 rfl rfl
  have A77 := A76.iloadN (v := (0 : Int32)) (pc' := 33) d12_32 rfl rfl
  have A78 := A77.aloadN (v := (.ref a)) (pc' := 34) d12_33 rfl rfl rfl
  have f79 := ((f43.ext E52).other w73 e16)
  have A80 := A78.alen (z := (2 : Int32)) (pc' := 35) d12_34 f79 rfl rfl
  have A82 := A80.icmpNo (pc' := 38) d12_35 (tlt (ilt (x := (0 : Int32)) (y := (2 : Int32)) rfl rfl (by decide : (0 : Int) < 2))).2.1 rfl
  have A83 := A82.iconst (z := (1 : Int32)) (pc' := 39) d12_38 rfl rfl
  have A84 := A83.istoreN (Ls' := #[.val (.ref m), .val (.ref a), .val (.int (0 : Int32)), .val (.int (1 : Int32)), .unset, .unset]) (pc' := 40) d12_39 rfl rfl
  have A85 := A84.iconst (z := (0 : Int32)) (pc' := 41) d12_40 rfl rfl
  have A86 := A85.istore (Ls' := #[.val (.ref m), .val (.ref a), .val (.int (0 : Int32)), .val (.int (1 : Int32)), .val (.int (0 : Int32)), .unset]) (pc' := 43) d12_41 rfl rfl
  have A87 := A86.iloadN (v := (1 : Int32)) (pc' := 44) d12_43 rfl rfl
  have A89 := A87.ifNo (pc' := 47) d12_44 (feq (ine (x := (1 : Int32)) (y := (0 : Int32)) rfl rfl (by decide : ¬ ((1 : Int) = 0)))).1 rfl
  have A90 := A89.iload (v := (0 : Int32)) (pc' := 49) d12_47 rfl rfl
  have A91 := A90.aloadN (v := (.ref a)) (pc' := 50) d12_49 rfl rfl rfl
  have A92 := A91.iloadN (v := (0 : Int32)) (pc' := 51) d12_50 rfl rfl
  have A93 := A92.aaload (i := 0) (v := (.ref s0)) (pc' := 52) d12_51 rfl f79 rfl (by decide) rfl rfl
  have f94 := ((f59.ext E52).wr w73)
  have f95 := (((((e7.other w7 (Or.inl e17)).ext E20).other w39 (Or.inl e17)).ext E52).other w73 (Or.inl e17))
  have f96 := (((((e8.other w7 (Or.inl e17)).ext E20).other w39 (Or.inl e17)).ext E52).other w73 (Or.inl e17))
  have f97 := ((f61.ext E52).other w73 e18)
  have f98 := (((((e24.wr w7 e1).ext E20).wr w39 e1).ext E52).wr w73 e1)
  obtain ⟨r100, _, ⟨rfl, q101⟩, A99⟩ := W.kI (A93.callV (a := s0) (argsL := []) (rest := [(.int (0 : Int32))]) (C' := 2) (S' := 6) (pc' := 55) d12_52 f94 (hw _ (List.mem_of_getElem? (i := 66) rfl)) (hw _ (List.mem_of_getElem? (i := 67) rfl)) (fun hZ => notFace_of_selects (args := #[]) (mvT hZ (hw _ (List.mem_of_getElem? (i := 69) rfl)))) (hw _ (List.mem_of_getElem? (i := 69) rfl)) (hw _ (List.mem_of_getElem? (i := 68) rfl)) (hw _ (List.mem_of_getElem? (i := 9) rfl)) (hw _ (List.mem_of_getElem? (i := 70) rfl)) (rm13_2 l Z a0 hw n0 [] (s0) (b0) ((upd (upd (fun _ => (.int (0 : Int32))) 0 (.int x0.toInt8.toInt32.toInt8.toInt32)) 1 (.int x1.toInt8.toInt32.toInt8.toInt32))) (_) h72 A93.size f94 f95 f96 f97 f98 e25 (by assumption)) rfl rfl pd_15 rfl rfl (by decide) (by decide) (Nat.le_of_ble_eq_true rfl) (by decide) (by decide) rfl rfl rfl)
  subst q101
  have A104 := A99.icmpNo (pc' := 58) d12_55 (tlt (ilt (x := (0 : Int32)) (y := (2 : Int32)) rfl rfl (by decide : (0 : Int) < 2))).2.1 rfl
  have A105 := A104.aloadN (v := (.ref a)) (pc' := 59) d12_58 rfl rfl rfl
  have A106 := A105.iloadN (v := (0 : Int32)) (pc' := 60) d12_59 rfl rfl
  have A107 := A106.aaload (i := 0) (v := (.ref s0)) (pc' := 61) d12_60 rfl f79 rfl (by decide) rfl rfl
  have A108 := A107.iload (v := (0 : Int32)) (pc' := 63) d12_61 rfl rfl
  obtain ⟨r110, _, ⟨rfl, q111⟩, A109⟩ := W.kI (A108.callV (a := s0) (argsL := [(.int (0 : Int32))]) (rest := []) (C' := 2) (S' := 6) (pc' := 66) d12_63 f94 (hw _ (List.mem_of_getElem? (i := 76) rfl)) (hw _ (List.mem_of_getElem? (i := 77) rfl)) (fun hZ => notFace_of_selects (args := #[]) (mvT hZ (hw _ (List.mem_of_getElem? (i := 79) rfl)))) (hw _ (List.mem_of_getElem? (i := 79) rfl)) (hw _ (List.mem_of_getElem? (i := 78) rfl)) (hw _ (List.mem_of_getElem? (i := 9) rfl)) (hw _ (List.mem_of_getElem? (i := 80) rfl)) (rm15_2_0 l Z a0 hw n0 [] (s0) (b0) ((upd (upd (fun _ => (.int (0 : Int32))) 0 (.int x0.toInt8.toInt32.toInt8.toInt32)) 1 (.int x1.toInt8.toInt32.toInt8.toInt32))) (x0) (_) (_) h72 A108.size f94 f95 f96 f97 (by first | assumption | exact congrArg Value.int (own_bb _)) (by first | assumption | exact congrArg Value.int (own_bb _)) f98 e25 (by first | assumption | exact congrArg Value.int (own_bb _)) e27 (by first | assumption | exact congrArg Value.int (own_bb _))) rfl rfl pd_16 rfl rfl (by decide) (by decide) (Nat.le_of_ble_eq_true rfl) (by decide) (by decide) rfl rfl rfl)
  have A113 := A109.istore (Ls' := #[.val (.ref m), .val (.ref a), .val (.int (0 : Int32)), .val (.int (1 : Int32)), .val (.int (0 : Int32)), .val (.int r110)]) (pc' := 68) d12_66 rfl rfl
  have A114 := A113.iload (v := r110) (pc' := 70) d12_68 rfl rfl
  have A115 := A114.bipush (z := (32 : Int32)) (pc' := 72) d12_70 rfl rfl
  by_cases c116 : r110.toInt < 32
  · exfalso
    omega
  · have A119 := A115.icmpNo (pc' := 75) d12_72 (flt (inlt (x := r110) (y := (32 : Int32)) rfl rfl c116)).1 rfl
    have A120 := A119.iload (v := r110) (pc' := 77) d12_75 rfl rfl
    have A121 := A120.sipush (z := (128 : Int32)) (pc' := 80) d12_77 rfl rfl
    by_cases c122 : r110.toInt < 128
    · have A123 := A121.icmpNo (pc' := 83) d12_80 (tlt (ilt (x := r110) (y := (128 : Int32)) rfl rfl c122)).2.1 rfl
      have A124 := A123.iload (v := r110) (pc' := 85) d12_83 rfl rfl
      have A125 := A124.bipush (z := (34 : Int32)) (pc' := 87) d12_85 rfl rfl
      by_cases c126 : r110.toInt = 34
      · exfalso
        omega
      · have A128 := A125.icmpNo (pc' := 90) d12_87 (feq (ine (x := r110) (y := (34 : Int32)) rfl rfl c126)).1 rfl
        have A129 := A128.iload (v := r110) (pc' := 92) d12_90 rfl rfl
        have A130 := A129.bipush (z := (92 : Int32)) (pc' := 94) d12_92 rfl rfl
        by_cases c131 : r110.toInt = 92
        · exfalso
          omega
        · have A133 := A130.icmpNo (pc' := 97) d12_94 (feq (ine (x := r110) (y := (92 : Int32)) rfl rfl c131)).1 rfl
          have A134 := A133.iconst (z := (1 : Int32)) (pc' := 98) d12_97 rfl rfl
          have A135 := A134.goto (pc' := 102) d12_98 (by decide) (by decide)
          have A137 := A135.istoreN (Ls' := #[.val (.ref m), .val (.ref a), .val (.int (0 : Int32)), .val (.int (1 : Int32)), .val (.int (0 : Int32)), .val (.int r110)]) (pc' := 103) d12_102 rfl rfl
          have A138 := A137.iinc (v := (0 : Int32)) (z := (1 : Int32)) (Ls' := #[.val (.ref m), .val (.ref a), .val (.int (0 : Int32)), .val (.int (1 : Int32)), .val (.int (1 : Int32)), .val (.int r110)]) (pc' := 106) d12_103 rfl (by decide) rfl rfl
          have A139 := A138.goto (pc' := 43) d12_106 (by decide) (by decide)
          have A140 := A139.iloadN (v := (1 : Int32)) (pc' := 44) d12_43 rfl rfl
          have A142 := A140.ifNo (pc' := 47) d12_44 (feq (ine (x := (1 : Int32)) (y := (0 : Int32)) rfl rfl (by decide : ¬ ((1 : Int) = 0)))).1 rfl
          have A143 := A142.iload (v := (1 : Int32)) (pc' := 49) d12_47 rfl rfl
          have A144 := A143.aloadN (v := (.ref a)) (pc' := 50) d12_49 rfl rfl rfl
          have A145 := A144.iloadN (v := (0 : Int32)) (pc' := 51) d12_50 rfl rfl
          have A146 := A145.aaload (i := 0) (v := (.ref s0)) (pc' := 52) d12_51 rfl f79 rfl (by decide) rfl rfl
          obtain ⟨r148, _, ⟨rfl, q149⟩, A147⟩ := W.kI (A146.callV (a := s0) (argsL := []) (rest := [(.int (1 : Int32))]) (C' := 2) (S' := 6) (pc' := 55) d12_52 f94 (hw _ (List.mem_of_getElem? (i := 66) rfl)) (hw _ (List.mem_of_getElem? (i := 67) rfl)) (fun hZ => notFace_of_selects (args := #[]) (mvT hZ (hw _ (List.mem_of_getElem? (i := 69) rfl)))) (hw _ (List.mem_of_getElem? (i := 69) rfl)) (hw _ (List.mem_of_getElem? (i := 68) rfl)) (hw _ (List.mem_of_getElem? (i := 9) rfl)) (hw _ (List.mem_of_getElem? (i := 70) rfl)) (rm13_2 l Z a0 hw n0 [] (s0) (b0) ((upd (upd (fun _ => (.int (0 : Int32))) 0 (.int x0.toInt8.toInt32.toInt8.toInt32)) 1 (.int x1.toInt8.toInt32.toInt8.toInt32))) (_) h72 A146.size f94 f95 f96 f97 f98 e25 (by assumption)) rfl rfl pd_15 rfl rfl (by decide) (by decide) (Nat.le_of_ble_eq_true rfl) (by decide) (by decide) rfl rfl rfl)
          subst q149
          have A152 := A147.icmpNo (pc' := 58) d12_55 (tlt (ilt (x := (1 : Int32)) (y := (2 : Int32)) rfl rfl (by decide : (1 : Int) < 2))).2.1 rfl
          have A153 := A152.aloadN (v := (.ref a)) (pc' := 59) d12_58 rfl rfl rfl
          have A154 := A153.iloadN (v := (0 : Int32)) (pc' := 60) d12_59 rfl rfl
          have A155 := A154.aaload (i := 0) (v := (.ref s0)) (pc' := 61) d12_60 rfl f79 rfl (by decide) rfl rfl
          have A156 := A155.iload (v := (1 : Int32)) (pc' := 63) d12_61 rfl rfl
          obtain ⟨r158, _, ⟨rfl, q159⟩, A157⟩ := W.kI (A156.callV (a := s0) (argsL := [(.int (1 : Int32))]) (rest := []) (C' := 2) (S' := 6) (pc' := 66) d12_63 f94 (hw _ (List.mem_of_getElem? (i := 76) rfl)) (hw _ (List.mem_of_getElem? (i := 77) rfl)) (fun hZ => notFace_of_selects (args := #[]) (mvT hZ (hw _ (List.mem_of_getElem? (i := 79) rfl)))) (hw _ (List.mem_of_getElem? (i := 79) rfl)) (hw _ (List.mem_of_getElem? (i := 78) rfl)) (hw _ (List.mem_of_getElem? (i := 9) rfl)) (hw _ (List.mem_of_getElem? (i := 80) rfl)) (rm15_2_1 l Z a0 hw n0 [] (s0) (b0) ((upd (upd (fun _ => (.int (0 : Int32))) 0 (.int x0.toInt8.toInt32.toInt8.toInt32)) 1 (.int x1.toInt8.toInt32.toInt8.toInt32))) (x1) (_) (_) h72 A156.size f94 f95 f96 f97 (by first | assumption | exact congrArg Value.int (own_bb _)) (by first | assumption | exact congrArg Value.int (own_bb _)) f98 e25 (by first | assumption | exact congrArg Value.int (own_bb _)) e27 (by first | assumption | exact congrArg Value.int (own_bb _))) rfl rfl pd_16 rfl rfl (by decide) (by decide) (Nat.le_of_ble_eq_true rfl) (by decide) (by decide) rfl rfl rfl)
          have A161 := A157.istore (Ls' := #[.val (.ref m), .val (.ref a), .val (.int (0 : Int32)), .val (.int (1 : Int32)), .val (.int (1 : Int32)), .val (.int r158)]) (pc' := 68) d12_66 rfl rfl
          have A162 := A161.iload (v := r158) (pc' := 70) d12_68 rfl rfl
          have A163 := A162.bipush (z := (32 : Int32)) (pc' := 72) d12_70 rfl rfl
          by_cases c164 : r158.toInt < 32
          · exfalso
            omega
          · have A167 := A163.icmpNo (pc' := 75) d12_72 (flt (inlt (x := r158) (y := (32 : Int32)) rfl rfl c164)).1 rfl
            have A168 := A167.iload (v := r158) (pc' := 77) d12_75 rfl rfl
            have A169 := A168.sipush (z := (128 : Int32)) (pc' := 80) d12_77 rfl rfl
            by_cases c170 : r158.toInt < 128
            · have A171 := A169.icmpNo (pc' := 83) d12_80 (tlt (ilt (x := r158) (y := (128 : Int32)) rfl rfl c170)).2.1 rfl
              have A172 := A171.iload (v := r158) (pc' := 85) d12_83 rfl rfl
              have A173 := A172.bipush (z := (34 : Int32)) (pc' := 87) d12_85 rfl rfl
              by_cases c174 : r158.toInt = 34
              · exfalso
                omega
              · have A176 := A173.icmpNo (pc' := 90) d12_87 (feq (ine (x := r158) (y := (34 : Int32)) rfl rfl c174)).1 rfl
                have A177 := A176.iload (v := r158) (pc' := 92) d12_90 rfl rfl
                have A178 := A177.bipush (z := (92 : Int32)) (pc' := 94) d12_92 rfl rfl
                by_cases c179 : r158.toInt = 92
                · exfalso
                  omega
                · have A181 := A178.icmpNo (pc' := 97) d12_94 (feq (ine (x := r158) (y := (92 : Int32)) rfl rfl c179)).1 rfl
                  have A182 := A181.iconst (z := (1 : Int32)) (pc' := 98) d12_97 rfl rfl
                  have A183 := A182.goto (pc' := 102) d12_98 (by decide) (by decide)
                  have A185 := A183.istoreN (Ls' := #[.val (.ref m), .val (.ref a), .val (.int (0 : Int32)), .val (.int (1 : Int32)), .val (.int (1 : Int32)), .val (.int r158)]) (pc' := 103) d12_102 rfl rfl
                  have A186 := A185.iinc (v := (1 : Int32)) (z := (2 : Int32)) (Ls' := #[.val (.ref m), .val (.ref a), .val (.int (0 : Int32)), .val (.int (1 : Int32)), .val (.int (2 : Int32)), .val (.int r158)]) (pc' := 106) d12_103 rfl (by decide) rfl rfl
                  have A187 := A186.goto (pc' := 43) d12_106 (by decide) (by decide)
                  have A188 := A187.iloadN (v := (1 : Int32)) (pc' := 44) d12_43 rfl rfl
                  have A190 := A188.ifNo (pc' := 47) d12_44 (feq (ine (x := (1 : Int32)) (y := (0 : Int32)) rfl rfl (by decide : ¬ ((1 : Int) = 0)))).1 rfl
                  have A191 := A190.iload (v := (2 : Int32)) (pc' := 49) d12_47 rfl rfl
                  have A192 := A191.aloadN (v := (.ref a)) (pc' := 50) d12_49 rfl rfl rfl
                  have A193 := A192.iloadN (v := (0 : Int32)) (pc' := 51) d12_50 rfl rfl
                  have A194 := A193.aaload (i := 0) (v := (.ref s0)) (pc' := 52) d12_51 rfl f79 rfl (by decide) rfl rfl
                  obtain ⟨r196, _, ⟨rfl, q197⟩, A195⟩ := W.kI (A194.callV (a := s0) (argsL := []) (rest := [(.int (2 : Int32))]) (C' := 2) (S' := 6) (pc' := 55) d12_52 f94 (hw _ (List.mem_of_getElem? (i := 66) rfl)) (hw _ (List.mem_of_getElem? (i := 67) rfl)) (fun hZ => notFace_of_selects (args := #[]) (mvT hZ (hw _ (List.mem_of_getElem? (i := 69) rfl)))) (hw _ (List.mem_of_getElem? (i := 69) rfl)) (hw _ (List.mem_of_getElem? (i := 68) rfl)) (hw _ (List.mem_of_getElem? (i := 9) rfl)) (hw _ (List.mem_of_getElem? (i := 70) rfl)) (rm13_2 l Z a0 hw n0 [] (s0) (b0) ((upd (upd (fun _ => (.int (0 : Int32))) 0 (.int x0.toInt8.toInt32.toInt8.toInt32)) 1 (.int x1.toInt8.toInt32.toInt8.toInt32))) (_) h72 A194.size f94 f95 f96 f97 f98 e25 (by assumption)) rfl rfl pd_15 rfl rfl (by decide) (by decide) (Nat.le_of_ble_eq_true rfl) (by decide) (by decide) rfl rfl rfl)
                  subst q197
                  have A200 := A195.icmpYes (pc' := 109) d12_55 (flt (inlt (x := (2 : Int32)) (y := (2 : Int32)) rfl rfl (by decide : ¬ ((2 : Int) < 2)))).2.1 (by decide) (by decide)
                  have A201 := A200.aloadN (v := (.ref m)) (pc' := 110) d12_109 rfl rfl rfl
                  have f203 := ((f40.ext E52).other w73 (Or.inr (slot_ne (Or.inr (hw _ (List.mem_of_getElem? (i := 62) rfl))) (Or.inr (hw _ (List.mem_of_getElem? (i := 65) rfl))) (by decide) (t := (.array (.array .byte))) (t' := (.array .int)) (by decide) (by decide))))
                  have A202 := A201.getF (pc' := 113) (host := "") d12_110 (Or.inl (hw _ (List.mem_of_getElem? (i := 61) rfl))) Via.refl f203 rfl
                  have A204 := A202.iloadN (v := (0 : Int32)) (pc' := 114) d12_113 rfl rfl
                  have A205 := A204.iloadN (v := (1 : Int32)) (pc' := 115) d12_114 rfl rfl
                  have A207 := A205.ifNo (pc' := 118) d12_115 (feq (ine (x := (1 : Int32)) (y := (0 : Int32)) rfl rfl (by decide : ¬ ((1 : Int) = 0)))).1 rfl
                  have A208 := A207.aloadN (v := (.ref a)) (pc' := 119) d12_118 rfl rfl rfl
                  have A209 := A208.iloadN (v := (0 : Int32)) (pc' := 120) d12_119 rfl rfl
                  have A210 := A209.aaload (i := 0) (v := (.ref s0)) (pc' := 121) d12_120 rfl f79 rfl (by decide) rfl rfl
                  have f212 := e32.ext f98.2
                  have A211 := A210.getS (pc' := 124) (host := "") d12_121 (Or.inl (hw _ (List.mem_of_getElem? (i := 109) rfl))) Via.refl f212 rfl
                  have f213 := (((((e10.wr w7).ext E20).wr w39).ext E52).wr w73)
                  obtain ⟨r215, h217, ⟨K218, g219, z220, f221, f222, q216⟩, A214⟩ := W.kA (A211.callV (a := s0) (argsL := [(.ref iso)]) (rest := [(.int (0 : Int32)), (.ref b17)]) (C' := 3) (S' := 8) (pc' := 127) d12_124 f94 (hw _ (List.mem_of_getElem? (i := 111) rfl)) (hw _ (List.mem_of_getElem? (i := 112) rfl)) (fun hZ => notFace_of_selects (args := #[]) (mvT hZ (hw _ (List.mem_of_getElem? (i := 114) rfl)))) (hw _ (List.mem_of_getElem? (i := 114) rfl)) (hw _ (List.mem_of_getElem? (i := 113) rfl)) (hw _ (List.mem_of_getElem? (i := 9) rfl)) (hw _ (List.mem_of_getElem? (i := 115) rfl)) (rm22_2 l Z a0 hw n0 [] (s0) (iso) (b0) ((upd (upd (fun _ => (.int (0 : Int32))) 0 (.int x0.toInt8.toInt32.toInt8.toInt32)) 1 (.int x1.toInt8.toInt32.toInt8.toInt32))) (_) (_) h72 A211.size f94 f95 f96 f97 f213 f98 e25 (by assumption) e29 e30 e31) rfl rfl pd_17 rfl rfl (by decide) (by decide) (Nat.le_of_ble_eq_true rfl) (by decide) (by decide) rfl rfl rfl)
                  have f223 := (f70.wr w73)
                  have ne224 : m ≠ r215 := Nat.ne_of_lt (Nat.lt_of_lt_of_le f223.lt z220)
                  have ne225 : a ≠ r215 := Nat.ne_of_lt (Nat.lt_of_lt_of_le f79.lt z220)
                  have ne226 : s0 ≠ r215 := Nat.ne_of_lt (Nat.lt_of_lt_of_le f94.lt z220)
                  have ne227 : b0 ≠ r215 := Nat.ne_of_lt (Nat.lt_of_lt_of_le f97.lt z220)
                  have f228 := ((f63.ext E52).wr w73)
                  have ne229 : s1 ≠ r215 := Nat.ne_of_lt (Nat.lt_of_lt_of_le f228.lt z220)
                  have f230 := ((f65.ext E52).other w73 e20)
                  have ne231 : b1 ≠ r215 := Nat.ne_of_lt (Nat.lt_of_lt_of_le f230.lt z220)
                  have f232 := ((f67.ext E52).other w73 (Ne.symm ne25))
                  have ne233 : b17 ≠ r215 := Nat.ne_of_lt (Nat.lt_of_lt_of_le f232.lt z220)
                  have f234 := (X53.other w73 (Ne.symm ne57))
                  have ne235 : b49 ≠ r215 := Nat.ne_of_lt (Nat.lt_of_lt_of_le f234.lt z220)
                  have A236 := A214.goto (pc' := 133) d12_127 (by decide) (by decide)
                  have f237 := (f232.keep K218 nin0)
                  have f238 := ((((XE23.wr w39).ext E52).wr w73).keep K218)
                  obtain ⟨h239, w240, X241, A242⟩ := A236.aastore (i := 0) (pc' := 134) d12_133 rfl f237 (sto_x f237 f238 (hw _ (List.mem_of_getElem? (i := 60) rfl)) rfl rfl (Ins.self f222)) rfl rfl (by decide) g19 rfl
                  have A243 := A242.aloadN (v := (.ref m)) (pc' := 135) d12_134 rfl rfl rfl
                  have f245 := ((f74.keep K218 nin0).other w240 (Or.inl ne25))
                  have A244 := A243.getF (pc' := 138) (host := "") d12_135 (Or.inl (hw _ (List.mem_of_getElem? (i := 64) rfl))) Via.refl f245 rfl
                  have A246 := A244.iloadN (v := (0 : Int32)) (pc' := 139) d12_138 rfl rfl
                  have A247 := A246.iloadN (v := (1 : Int32)) (pc' := 140) d12_139 rfl rfl
                  have A249 := A247.ifNo (pc' := 143) d12_140 (feq (ine (x := (1 : Int32)) (y := (0 : Int32)) rfl rfl (by decide : ¬ ((1 : Int) = 0)))).1 rfl
                  have A250 := A249.aloadN (v := (.ref m)) (pc' := 144) d12_143 rfl rfl rfl
                  have f252 := ((f203.keep K218 nin0).other w240 (Or.inl ne25))
                  have A251 := A250.getF (pc' := 147) (host := "") d12_144 (Or.inl (hw _ (List.mem_of_getElem? (i := 61) rfl))) Via.refl f252 rfl
                  have A253 := A251.iloadN (v := (0 : Int32)) (pc' := 148) d12_147 rfl rfl
                  have A254 := A253.aaload (i := 0) (v := (.ref r215)) (pc' := 149) d12_148 rfl X241 rfl (by decide) rfl rfl
                  have f255 := (f221.other w240 (Ne.symm ne233))
                  have A256 := A254.alen (z := (2 : Int32)) (pc' := 150) d12_149 f255 rfl rfl
                  have A257 := A256.goto (pc' := 155) d12_150 (by decide) (by decide)
                  have f258 := ((f234.keep K218 nin0).other w240 (Ne.symm ne68))
                  obtain ⟨h259, w260, X261, A262⟩ := A257.iastore (i := 0) (pc' := 156) d12_155 f258 rfl (by decide) g51 rfl
                  have A263 := A262.iinc (v := (0 : Int32)) (z := (1 : Int32)) (Ls' := #[.val (.ref m), .val (.ref a), .val (.int (1 : Int32)), .val (.int (1 : Int32)), .val (.int (2 : Int32)), .val (.int r158)]) (pc' := 159) d12_156 rfl (by decide) rfl rfl
                  have A264 := A263.goto (pc' := 32) d12_159 (by decide) (by decide)
                  have A265 := A264.iloadN (v := (1 : Int32)) (pc' := 33) d12_32 rfl rfl
                  have A266 := A265.aloadN (v := (.ref a)) (pc' := 34) d12_33 rfl rfl rfl
                  have f267 := (((f79.keep K218 nin0).other w240 ne26).other w260 ne58)
                  have A268 := A266.alen (z := (2 : Int32)) (pc' := 35) d12_34 f267 rfl rfl
                  have A270 := A268.icmpNo (pc' := 38) d12_35 (tlt (ilt (x := (1 : Int32)) (y := (2 : Int32)) rfl rfl (by decide : (1 : Int) < 2))).2.1 rfl
                  have A271 := A270.iconst (z := (1 : Int32)) (pc' := 39) d12_38 rfl rfl
                  have A272 := A271.istoreN (Ls' := #[.val (.ref m), .val (.ref a), .val (.int (1 : Int32)), .val (.int (1 : Int32)), .val (.int (2 : Int32)), .val (.int r158)]) (pc' := 40) d12_39 rfl rfl
                  have A273 := A272.iconst (z := (0 : Int32)) (pc' := 41) d12_40 rfl rfl
                  have A274 := A273.istore (Ls' := #[.val (.ref m), .val (.ref a), .val (.int (1 : Int32)), .val (.int (1 : Int32)), .val (.int (0 : Int32)), .val (.int r158)]) (pc' := 43) d12_41 rfl rfl
                  have A275 := A274.iloadN (v := (1 : Int32)) (pc' := 44) d12_43 rfl rfl
                  have A277 := A275.ifNo (pc' := 47) d12_44 (feq (ine (x := (1 : Int32)) (y := (0 : Int32)) rfl rfl (by decide : ¬ ((1 : Int) = 0)))).1 rfl
                  have A278 := A277.iload (v := (0 : Int32)) (pc' := 49) d12_47 rfl rfl
                  have A279 := A278.aloadN (v := (.ref a)) (pc' := 50) d12_49 rfl rfl rfl
                  have A280 := A279.iloadN (v := (1 : Int32)) (pc' := 51) d12_50 rfl rfl
                  have A281 := A280.aaload (i := 1) (v := (.ref s1)) (pc' := 52) d12_51 rfl f267 rfl (by decide) rfl rfl
                  have f282 := (((f228.keep K218).wr w240).wr w260)
                  have f283 := ((((((((e12.other w7 (Or.inl e19)).ext E20).other w39 (Or.inl e19)).ext E52).other w73 (Or.inl e19)).keep K218 nin0).other w240 (Or.inl ne32)).other w260 (Or.inl ne64))
                  have f284 := ((((((((e13.other w7 (Or.inl e19)).ext E20).other w39 (Or.inl e19)).ext E52).other w73 (Or.inl e19)).keep K218 nin0).other w240 (Or.inl ne32)).other w260 (Or.inl ne64))
                  have f285 := (((f230.keep K218 nin0).other w240 ne34).other w260 ne66)
                  have f286 := (((f98.keep K218 all0).wr w240 g19).wr w260 g51)
                  obtain ⟨r288, _, ⟨rfl, q289⟩, A287⟩ := W.kI (A281.callV (a := s1) (argsL := []) (rest := [(.int (0 : Int32))]) (C' := 3) (S' := 8) (pc' := 55) d12_52 f282 (hw _ (List.mem_of_getElem? (i := 66) rfl)) (hw _ (List.mem_of_getElem? (i := 67) rfl)) (fun hZ => notFace_of_selects (args := #[]) (mvT hZ (hw _ (List.mem_of_getElem? (i := 69) rfl)))) (hw _ (List.mem_of_getElem? (i := 69) rfl)) (hw _ (List.mem_of_getElem? (i := 68) rfl)) (hw _ (List.mem_of_getElem? (i := 9) rfl)) (hw _ (List.mem_of_getElem? (i := 70) rfl)) (rm13_1 l Z a0 hw n0 [] (s1) (b1) ((upd (fun _ => (.int (0 : Int32))) 0 (.int x2.toInt8.toInt32.toInt8.toInt32))) (_) h259 A281.size f282 f283 f284 f285 f286 e25 (by assumption)) rfl rfl pd_15 rfl rfl (by decide) (by decide) (Nat.le_of_ble_eq_true rfl) (by decide) (by decide) rfl rfl rfl)
                  subst q289
                  have A292 := A287.icmpNo (pc' := 58) d12_55 (tlt (ilt (x := (0 : Int32)) (y := (1 : Int32)) rfl rfl (by decide : (0 : Int) < 1))).2.1 rfl
                  have A293 := A292.aloadN (v := (.ref a)) (pc' := 59) d12_58 rfl rfl rfl
                  have A294 := A293.iloadN (v := (1 : Int32)) (pc' := 60) d12_59 rfl rfl
                  have A295 := A294.aaload (i := 1) (v := (.ref s1)) (pc' := 61) d12_60 rfl f267 rfl (by decide) rfl rfl
                  have A296 := A295.iload (v := (0 : Int32)) (pc' := 63) d12_61 rfl rfl
                  obtain ⟨r298, _, ⟨rfl, q299⟩, A297⟩ := W.kI (A296.callV (a := s1) (argsL := [(.int (0 : Int32))]) (rest := []) (C' := 3) (S' := 8) (pc' := 66) d12_63 f282 (hw _ (List.mem_of_getElem? (i := 76) rfl)) (hw _ (List.mem_of_getElem? (i := 77) rfl)) (fun hZ => notFace_of_selects (args := #[]) (mvT hZ (hw _ (List.mem_of_getElem? (i := 79) rfl)))) (hw _ (List.mem_of_getElem? (i := 79) rfl)) (hw _ (List.mem_of_getElem? (i := 78) rfl)) (hw _ (List.mem_of_getElem? (i := 9) rfl)) (hw _ (List.mem_of_getElem? (i := 80) rfl)) (rm15_1_0 l Z a0 hw n0 [] (s1) (b1) ((upd (fun _ => (.int (0 : Int32))) 0 (.int x2.toInt8.toInt32.toInt8.toInt32))) (x2) (_) (_) h259 A296.size f282 f283 f284 f285 (by first | assumption | exact congrArg Value.int (own_bb _)) (by first | assumption | exact congrArg Value.int (own_bb _)) f286 e25 (by first | assumption | exact congrArg Value.int (own_bb _)) e27 (by first | assumption | exact congrArg Value.int (own_bb _))) rfl rfl pd_16 rfl rfl (by decide) (by decide) (Nat.le_of_ble_eq_true rfl) (by decide) (by decide) rfl rfl rfl)
                  have A301 := A297.istore (Ls' := #[.val (.ref m), .val (.ref a), .val (.int (1 : Int32)), .val (.int (1 : Int32)), .val (.int (0 : Int32)), .val (.int r298)]) (pc' := 68) d12_66 rfl rfl
                  have A302 := A301.iload (v := r298) (pc' := 70) d12_68 rfl rfl
                  have A303 := A302.bipush (z := (32 : Int32)) (pc' := 72) d12_70 rfl rfl
                  by_cases c304 : r298.toInt < 32
                  · exfalso
                    omega
                  · have A307 := A303.icmpNo (pc' := 75) d12_72 (flt (inlt (x := r298) (y := (32 : Int32)) rfl rfl c304)).1 rfl
                    have A308 := A307.iload (v := r298) (pc' := 77) d12_75 rfl rfl
                    have A309 := A308.sipush (z := (128 : Int32)) (pc' := 80) d12_77 rfl rfl
                    by_cases c310 : r298.toInt < 128
                    · have A311 := A309.icmpNo (pc' := 83) d12_80 (tlt (ilt (x := r298) (y := (128 : Int32)) rfl rfl c310)).2.1 rfl
                      have A312 := A311.iload (v := r298) (pc' := 85) d12_83 rfl rfl
                      have A313 := A312.bipush (z := (34 : Int32)) (pc' := 87) d12_85 rfl rfl
                      by_cases c314 : r298.toInt = 34
                      · exfalso
                        omega
                      · have A316 := A313.icmpNo (pc' := 90) d12_87 (feq (ine (x := r298) (y := (34 : Int32)) rfl rfl c314)).1 rfl
                        have A317 := A316.iload (v := r298) (pc' := 92) d12_90 rfl rfl
                        have A318 := A317.bipush (z := (92 : Int32)) (pc' := 94) d12_92 rfl rfl
                        by_cases c319 : r298.toInt = 92
                        · exfalso
                          omega
                        · have A321 := A318.icmpNo (pc' := 97) d12_94 (feq (ine (x := r298) (y := (92 : Int32)) rfl rfl c319)).1 rfl
                          have A322 := A321.iconst (z := (1 : Int32)) (pc' := 98) d12_97 rfl rfl
                          have A323 := A322.goto (pc' := 102) d12_98 (by decide) (by decide)
                          have A325 := A323.istoreN (Ls' := #[.val (.ref m), .val (.ref a), .val (.int (1 : Int32)), .val (.int (1 : Int32)), .val (.int (0 : Int32)), .val (.int r298)]) (pc' := 103) d12_102 rfl rfl
                          have A326 := A325.iinc (v := (0 : Int32)) (z := (1 : Int32)) (Ls' := #[.val (.ref m), .val (.ref a), .val (.int (1 : Int32)), .val (.int (1 : Int32)), .val (.int (1 : Int32)), .val (.int r298)]) (pc' := 106) d12_103 rfl (by decide) rfl rfl
                          have A327 := A326.goto (pc' := 43) d12_106 (by decide) (by decide)
                          have A328 := A327.iloadN (v := (1 : Int32)) (pc' := 44) d12_43 rfl rfl
                          have A330 := A328.ifNo (pc' := 47) d12_44 (feq (ine (x := (1 : Int32)) (y := (0 : Int32)) rfl rfl (by decide : ¬ ((1 : Int) = 0)))).1 rfl
                          have A331 := A330.iload (v := (1 : Int32)) (pc' := 49) d12_47 rfl rfl
                          have A332 := A331.aloadN (v := (.ref a)) (pc' := 50) d12_49 rfl rfl rfl
                          have A333 := A332.iloadN (v := (1 : Int32)) (pc' := 51) d12_50 rfl rfl
                          have A334 := A333.aaload (i := 1) (v := (.ref s1)) (pc' := 52) d12_51 rfl f267 rfl (by decide) rfl rfl
                          obtain ⟨r336, _, ⟨rfl, q337⟩, A335⟩ := W.kI (A334.callV (a := s1) (argsL := []) (rest := [(.int (1 : Int32))]) (C' := 3) (S' := 8) (pc' := 55) d12_52 f282 (hw _ (List.mem_of_getElem? (i := 66) rfl)) (hw _ (List.mem_of_getElem? (i := 67) rfl)) (fun hZ => notFace_of_selects (args := #[]) (mvT hZ (hw _ (List.mem_of_getElem? (i := 69) rfl)))) (hw _ (List.mem_of_getElem? (i := 69) rfl)) (hw _ (List.mem_of_getElem? (i := 68) rfl)) (hw _ (List.mem_of_getElem? (i := 9) rfl)) (hw _ (List.mem_of_getElem? (i := 70) rfl)) (rm13_1 l Z a0 hw n0 [] (s1) (b1) ((upd (fun _ => (.int (0 : Int32))) 0 (.int x2.toInt8.toInt32.toInt8.toInt32))) (_) h259 A334.size f282 f283 f284 f285 f286 e25 (by assumption)) rfl rfl pd_15 rfl rfl (by decide) (by decide) (Nat.le_of_ble_eq_true rfl) (by decide) (by decide) rfl rfl rfl)
                          subst q337
                          have A340 := A335.icmpYes (pc' := 109) d12_55 (flt (inlt (x := (1 : Int32)) (y := (1 : Int32)) rfl rfl (by decide : ¬ ((1 : Int) < 1)))).2.1 (by decide) (by decide)
                          have A341 := A340.aloadN (v := (.ref m)) (pc' := 110) d12_109 rfl rfl rfl
                          have f343 := (f252.other w260 (Or.inl ne57))
                          have A342 := A341.getF (pc' := 113) (host := "") d12_110 (Or.inl (hw _ (List.mem_of_getElem? (i := 61) rfl))) Via.refl f343 rfl
                          have A344 := A342.iloadN (v := (1 : Int32)) (pc' := 114) d12_113 rfl rfl
                          have A345 := A344.iloadN (v := (1 : Int32)) (pc' := 115) d12_114 rfl rfl
                          have A347 := A345.ifNo (pc' := 118) d12_115 (feq (ine (x := (1 : Int32)) (y := (0 : Int32)) rfl rfl (by decide : ¬ ((1 : Int) = 0)))).1 rfl
                          have A348 := A347.aloadN (v := (.ref a)) (pc' := 119) d12_118 rfl rfl rfl
                          have A349 := A348.iloadN (v := (1 : Int32)) (pc' := 120) d12_119 rfl rfl
                          have A350 := A349.aaload (i := 1) (v := (.ref s1)) (pc' := 121) d12_120 rfl f267 rfl (by decide) rfl rfl
                          have f352 := e32.ext f286.2
                          have A351 := A350.getS (pc' := 124) (host := "") d12_121 (Or.inl (hw _ (List.mem_of_getElem? (i := 109) rfl))) Via.refl f352 rfl
                          have f353 := ((((((((e15.wr w7).ext E20).wr w39).ext E52).wr w73).keep K218).wr w240).wr w260)
                          obtain ⟨r355, h357, ⟨K358, g359, z360, f361, f362, q356⟩, A354⟩ := W.kA (A351.callV (a := s1) (argsL := [(.ref iso)]) (rest := [(.int (1 : Int32)), (.ref b17)]) (C' := 4) (S' := 9) (pc' := 127) d12_124 f282 (hw _ (List.mem_of_getElem? (i := 111) rfl)) (hw _ (List.mem_of_getElem? (i := 112) rfl)) (fun hZ => notFace_of_selects (args := #[]) (mvT hZ (hw _ (List.mem_of_getElem? (i := 114) rfl)))) (hw _ (List.mem_of_getElem? (i := 114) rfl)) (hw _ (List.mem_of_getElem? (i := 113) rfl)) (hw _ (List.mem_of_getElem? (i := 9) rfl)) (hw _ (List.mem_of_getElem? (i := 115) rfl)) (rm22_1 l Z a0 hw n0 [] (s1) (iso) (b1) ((upd (fun _ => (.int (0 : Int32))) 0 (.int x2.toInt8.toInt32.toInt8.toInt32))) (_) (_) h259 A351.size f282 f283 f284 f285 f353 f286 e25 (by assumption) e29 e30 e31) rfl rfl pd_17 rfl rfl (by decide) (by decide) (Nat.le_of_ble_eq_true rfl) (by decide) (by decide) rfl rfl rfl)
                          have f363 := (((f223.keep K218).wr w240).wr w260)
                          have ne364 : m ≠ r355 := Nat.ne_of_lt (Nat.lt_of_lt_of_le f363.lt z360)
                          have ne365 : a ≠ r355 := Nat.ne_of_lt (Nat.lt_of_lt_of_le f267.lt z360)
                          have f366 := (((f94.keep K218).wr w240).wr w260)
                          have ne367 : s0 ≠ r355 := Nat.ne_of_lt (Nat.lt_of_lt_of_le f366.lt z360)
                          have f368 := (((f97.keep K218 nin0).other w240 ne30).other w260 ne62)
                          have ne369 : b0 ≠ r355 := Nat.ne_of_lt (Nat.lt_of_lt_of_le f368.lt z360)
                          have ne370 : s1 ≠ r355 := Nat.ne_of_lt (Nat.lt_of_lt_of_le f282.lt z360)
                          have ne371 : b1 ≠ r355 := Nat.ne_of_lt (Nat.lt_of_lt_of_le f285.lt z360)
                          have f372 := (X241.other w260 ne68)
                          have ne373 : b17 ≠ r355 := Nat.ne_of_lt (Nat.lt_of_lt_of_le f372.lt z360)
                          have ne374 : b49 ≠ r355 := Nat.ne_of_lt (Nat.lt_of_lt_of_le X261.lt z360)
                          have f375 := (f255.other w260 (Ne.symm ne235))
                          have ne376 : r215 ≠ r355 := Nat.ne_of_lt (Nat.lt_of_lt_of_le f375.lt z360)
                          have A377 := A354.goto (pc' := 133) d12_127 (by decide) (by decide)
                          have f378 := (f372.keep K358 nin0)
                          have f379 := (((f238.wr w240).wr w260).keep K358)
                          obtain ⟨h380, w381, X382, A383⟩ := A377.aastore (i := 1) (pc' := 134) d12_133 rfl f378 (sto_x f378 f379 (hw _ (List.mem_of_getElem? (i := 60) rfl)) rfl rfl (Ins.self f362)) rfl rfl (by decide) g19 rfl
                          have A384 := A383.aloadN (v := (.ref m)) (pc' := 135) d12_134 rfl rfl rfl
                          have f386 := (((f245.other w260 (Or.inl ne57)).keep K358 nin0).other w381 (Or.inl ne25))
                          have A385 := A384.getF (pc' := 138) (host := "") d12_135 (Or.inl (hw _ (List.mem_of_getElem? (i := 64) rfl))) Via.refl f386 rfl
                          have A387 := A385.iloadN (v := (1 : Int32)) (pc' := 139) d12_138 rfl rfl
                          have A388 := A387.iloadN (v := (1 : Int32)) (pc' := 140) d12_139 rfl rfl
                          have A390 := A388.ifNo (pc' := 143) d12_140 (feq (ine (x := (1 : Int32)) (y := (0 : Int32)) rfl rfl (by decide : ¬ ((1 : Int) = 0)))).1 rfl
                          have A391 := A390.aloadN (v := (.ref m)) (pc' := 144) d12_143 rfl rfl rfl
                          have f393 := ((f343.keep K358 nin0).other w381 (Or.inl ne25))
                          have A392 := A391.getF (pc' := 147) (host := "") d12_144 (Or.inl (hw _ (List.mem_of_getElem? (i := 61) rfl))) Via.refl f393 rfl
                          have A394 := A392.iloadN (v := (1 : Int32)) (pc' := 148) d12_147 rfl rfl
                          have A395 := A394.aaload (i := 1) (v := (.ref r355)) (pc' := 149) d12_148 rfl X382 rfl (by decide) rfl rfl
                          have f396 := (f361.other w381 (Ne.symm ne373))
                          have A397 := A395.alen (z := (1 : Int32)) (pc' := 150) d12_149 f396 rfl rfl
                          have A398 := A397.goto (pc' := 155) d12_150 (by decide) (by decide)
                          have f399 := ((X261.keep K358 nin0).other w381 (Ne.symm ne68))
                          obtain ⟨h400, w401, X402, A403⟩ := A398.iastore (i := 1) (pc' := 156) d12_155 f399 rfl (by decide) g51 rfl
                          have A404 := A403.iinc (v := (1 : Int32)) (z := (2 : Int32)) (Ls' := #[.val (.ref m), .val (.ref a), .val (.int (2 : Int32)), .val (.int (1 : Int32)), .val (.int (1 : Int32)), .val (.int r298)]) (pc' := 159) d12_156 rfl (by decide) rfl rfl
                          have A405 := A404.goto (pc' := 32) d12_159 (by decide) (by decide)
                          have A406 := A405.iloadN (v := (2 : Int32)) (pc' := 33) d12_32 rfl rfl
                          have A407 := A406.aloadN (v := (.ref a)) (pc' := 34) d12_33 rfl rfl rfl
                          have f408 := (((f267.keep K358 nin0).other w381 ne26).other w401 ne58)
                          have A409 := A407.alen (z := (2 : Int32)) (pc' := 35) d12_34 f408 rfl rfl
                          have A411 := A409.icmpYes (pc' := 162) d12_35 (flt (inlt (x := (2 : Int32)) (y := (2 : Int32)) rfl rfl (by decide : ¬ ((2 : Int) < 2)))).2.1 (by decide) (by decide)
                          have A412 := A411.aloadN (v := (.ref m)) (pc' := 163) d12_162 rfl rfl rfl
                          have f414 := (f393.other w401 (Or.inl ne57))
                          have A413 := A412.getF (pc' := 166) (host := "") d12_163 (Or.inl (hw _ (List.mem_of_getElem? (i := 61) rfl))) Via.refl f414 rfl
                          have A415 := A413.aloadN (v := (.ref a)) (pc' := 167) d12_166 rfl rfl rfl
                          have A416 := A415.alen (z := (2 : Int32)) (pc' := 168) d12_167 f408 rfl rfl
                          have f418 := (((f286.keep K358 all0).wr w381 g19).wr w401 g51)
                          have f419 := e33.ext f418.2
                          have A417 := A416.getS (pc' := 171) (host := "") d12_168 (Or.inl (hw _ (List.mem_of_getElem? (i := 97) rfl))) Via.refl f419 rfl
                          have f420 := (X382.other w401 ne68)
                          have f421 := ((f379.wr w381).wr w401)
                          have f426 := e34.ext f418.2
                          obtain ⟨h422, w423, X424, A425⟩ := A417.aastore (i := 2) (pc' := 172) d12_171 rfl f420 (sto_x f420 f421 (hw _ (List.mem_of_getElem? (i := 60) rfl)) rfl rfl (Ins.self f426)) rfl rfl (by decide) g19 rfl
                          have A427 := A425.aloadN (v := (.ref m)) (pc' := 173) d12_172 rfl rfl rfl
                          have f429 := ((f386.other w401 (Or.inl ne57)).other w423 (Or.inl ne25))
                          have A428 := A427.getF (pc' := 176) (host := "") d12_173 (Or.inl (hw _ (List.mem_of_getElem? (i := 64) rfl))) Via.refl f429 rfl
                          have A430 := A428.aloadN (v := (.ref a)) (pc' := 177) d12_176 rfl rfl rfl
                          have f431 := (f408.other w423 ne26)
                          have A432 := A430.alen (z := (2 : Int32)) (pc' := 178) d12_177 f431 rfl rfl
                          have A433 := A432.ldc (z := (2147483647 : Int32)) (pc' := 180) d12_178 (hw _ (List.mem_of_getElem? (i := 100) rfl)) rfl
                          have f434 := (X402.other w423 (Ne.symm ne68))
                          obtain ⟨h435, w436, X437, A438⟩ := A433.iastore (i := 2) (pc' := 181) d12_180 f434 rfl (by decide) g51 rfl
                          have z439 : h0.size ≤ b17 := Nat.le_trans (Nat.le_trans (Nat.le_refl _) (Nat.le_of_eq w7.size.symm)) (Nat.le_of_eq eb18.symm)
                          have z440 : h0.size ≤ b49 := Nat.le_trans (Nat.le_trans (Nat.le_trans (Nat.le_trans (Nat.le_refl _) (Nat.le_of_eq w7.size.symm)) E20.1) (Nat.le_of_eq w39.size.symm)) (Nat.le_of_eq eb50.symm)
                          have K441 : Keep h0 h435 [m] := ((((((((((((((Keep.refl h0 [m]).wr w7 (Or.inl (List.mem_of_getElem? (i := 0) rfl))).ext E20).wr w39 (Or.inl (List.mem_of_getElem? (i := 0) rfl))).ext E52).wr w73 (Or.inl (List.mem_of_getElem? (i := 0) rfl))).trans K218 all0).wr w240 (Or.inr z439)).wr w260 (Or.inr z440)).trans K358 all0).wr w381 (Or.inr z439)).wr w401 (Or.inr z440)).wr w423 (Or.inr z439)).wr w436 (Or.inr z440))
                          have z442 : h0.size ≤ r215 := Nat.le_trans (Nat.le_trans (Nat.le_trans (Nat.le_trans (Nat.le_trans (Nat.le_trans (Nat.le_refl _) (Nat.le_of_eq w7.size.symm)) E20.1) (Nat.le_of_eq w39.size.symm)) E52.1) (Nat.le_of_eq w73.size.symm)) z220
                          have z443 : h0.size ≤ r355 := Nat.le_trans (Nat.le_trans (Nat.le_trans (Nat.le_trans (Nat.le_trans (Nat.le_trans (Nat.le_trans (Nat.le_trans (Nat.le_trans (Nat.le_refl _) (Nat.le_of_eq w7.size.symm)) E20.1) (Nat.le_of_eq w39.size.symm)) E52.1) (Nat.le_of_eq w73.size.symm)) K218.1) (Nat.le_of_eq w240.size.symm)) (Nat.le_of_eq w260.size.symm)) z360
                          have f444 := ((f414.other w423 (Or.inl ne25)).other w436 (Or.inl ne57))
                          have f445 := (f429.other w436 (Or.inl ne57))
                          have f446 := (X424.other w436 ne68)
                          have f447 := (((((f375.keep K358 nin0).other w381 (Ne.symm ne233)).other w401 (Ne.symm ne235)).other w423 (Ne.symm ne233)).other w436 (Ne.symm ne235))
                          have f448 := (((f396.other w401 (Ne.symm ne374)).other w423 (Ne.symm ne373)).other w436 (Ne.symm ne374))
                          refine A438.retV d12_181 (by decide) (by decide) ⟨rfl, ⟨b17, b49, r215, r355, K441, g19, z439, g51, z440, g219, z442, g359, z443, f444, f445, f446, X437, f447, f448, ?_⟩⟩
                          trivial
                    · exfalso
                      omega
            · exfalso
              omega
    · exfalso
      omega
theorem pn20 : plainFor (⟨"com/example/dialekt/dialekt/json/MemberNames", "endOf", "(I[BII)I"⟩ : MethodName) = true := by first | exact plainFor_of_name (by first | (simp [plainName, overriddenIn]; done) | decide +kernel) | exact Jvm.Free.JP.mathPlain rfl (by decide +kernel) | decide +kernel
theorem d20_0 : decode prog_32_method_6_code 0 = .ok (.aload_n 0, 1) := by decide +kernel
theorem d20_1 : decode prog_32_method_6_code 1 = .ok (.getfield 15, 3) := by decide +kernel
theorem d20_4 : decode prog_32_method_6_code 4 = .ok (.iload_n 1, 1) := by decide +kernel
theorem d20_5 : decode prog_32_method_6_code 5 = .ok (.aaload, 1) := by decide +kernel
theorem d20_6 : decode prog_32_method_6_code 6 = .ok (.astore 5, 2) := by decide +kernel
theorem d20_8 : decode prog_32_method_6_code 8 = .ok (.aload_n 0, 1) := by decide +kernel
theorem d20_9 : decode prog_32_method_6_code 9 = .ok (.getfield 19, 3) := by decide +kernel
theorem d20_12 : decode prog_32_method_6_code 12 = .ok (.iload_n 1, 1) := by decide +kernel
theorem d20_13 : decode prog_32_method_6_code 13 = .ok (.iaload, 1) := by decide +kernel
theorem d20_14 : decode prog_32_method_6_code 14 = .ok (.istore 6, 2) := by decide +kernel
theorem d20_16 : decode prog_32_method_6_code 16 = .ok (.iload 6, 2) := by decide +kernel
theorem d20_18 : decode prog_32_method_6_code 18 = .ok (.iload 4, 2) := by decide +kernel
theorem d20_20 : decode prog_32_method_6_code 20 = .ok (.iload_n 3, 1) := by decide +kernel
theorem d20_21 : decode prog_32_method_6_code 21 = .ok (.isub, 1) := by decide +kernel
theorem d20_22 : decode prog_32_method_6_code 22 = .ok (.if_icmp .ge 15, 3) := by decide +kernel
theorem d20_37 : decode prog_32_method_6_code 37 = .ok (.iconst 1, 1) := by decide +kernel
theorem d20_38 : decode prog_32_method_6_code 38 = .ok (.istore 7, 2) := by decide +kernel
theorem d20_40 : decode prog_32_method_6_code 40 = .ok (.iconst 0, 1) := by decide +kernel
theorem d20_41 : decode prog_32_method_6_code 41 = .ok (.istore 8, 2) := by decide +kernel
theorem d20_43 : decode prog_32_method_6_code 43 = .ok (.iload 7, 2) := by decide +kernel
theorem d20_45 : decode prog_32_method_6_code 45 = .ok (.ifCond .ne 31, 3) := by decide +kernel
theorem d20_76 : decode prog_32_method_6_code 76 = .ok (.iload 7, 2) := by decide +kernel
theorem d20_78 : decode prog_32_method_6_code 78 = .ok (.ifCond .ne 12, 3) := by decide +kernel
theorem d20_90 : decode prog_32_method_6_code 90 = .ok (.iconst (-1), 1) := by decide +kernel
theorem d20_91 : decode prog_32_method_6_code 91 = .ok (.ireturn, 1) := by decide +kernel
abbrev y20_N0 : MethodName := (⟨"com/example/dialekt/dialekt/json/MemberNames", "endOf", "(I[BII)I"⟩ : MethodName)
abbrev R20_N0 : Room := { frames := 0, cells := 0, slots := 0, locals := 0 }
set_option maxRecDepth 65536 in
set_option maxHeartbeats 4000000 in
theorem ef20_N0 (m : Addr) (t : Addr) (sa : Int32) (li : Int32)  (mid : MethodId) : entryFrame mid #[(.ref m), (.int (0 : Int32)), (.ref t), (.int sa), (.int li)] 9 = mkF mid 0 #[.val (.ref m), .val (.int (0 : Int32)), .val (.ref t), .val (.int sa), .val (.int li), .unset, .unset, .unset, .unset] [] := by first | (simp [entryFrame, mkF, argsToLocals, Value.category]; done) | rfl
set_option maxRecDepth 65536 in
set_option maxHeartbeats 40000000 in
theorem rm20_N0 (l : Launch) (Z : State) (a0 : Array Value) (hw : ∀ d ∈ tables_1, d.before a0 Z = true) (n0 : Nat) (ws : List Jvm.Cond) (m : Addr) (t : Addr) (sa : Int32) (li : Int32) (pl : Addr) (lns : Addr) (q : Addr) (fp : Nat → Value) (fl : Nat → Value) (f : Nat → Value) (T : Nat → Int32) (h0 : Heap) (hn0 : n0 ≤ h0.size) (e0 : Ars Z h0 t .byte 6 f) (e1 : ∀ j : Nat, f j = .int (T j)) (e2 : 0 ≤ sa.toInt ∧ sa.toInt ≤ 6 ∧ 0 ≤ li.toInt ∧ li.toInt ≤ 6) (e3 : Fld Z h0 m "com/example/dialekt/dialekt/json/MemberNames" "plain" "[[B" (.ref pl)) (e4 : Fld Z h0 m "com/example/dialekt/dialekt/json/MemberNames" "plainLengths" "[I" (.ref lns)) (e5 : Ars Z h0 pl (.array .byte) 3 fp) (e6 : Ars Z h0 lns .int 3 fl) (e7 : fp 0 = .ref q) (e8 : fl 0 = .int (2147483647 : Int32)) :
    Ctr l Z n0 y20_N0 prog_32_method_6_code 9 (some .int) ws R20_N0 #[(.ref m), (.int (0 : Int32)), (.ref t), (.int sa), (.int li)] h0 (QI fun r h => (h0 = h) ∧ (r = (-1 : Int32))) := by
  refine ctr_of pn20 hn0 (ef20_N0 m t sa li) fun G A0 => ?_
  have t1 := sub32 li sa (by omega) (by omega)
  have A1 := A0.aloadN (v := (.ref m)) (pc' := 1) d20_0 rfl rfl rfl
  have A2 := A1.getF (pc' := 4) (host := "") d20_1 (Or.inl (hw _ (List.mem_of_getElem? (i := 61) rfl))) Via.refl e3 rfl
  have A3 := A2.iloadN (v := (0 : Int32)) (pc' := 5) d20_4 rfl rfl
  have A4 := A3.aaload (i := 0) (v := (.ref q)) (pc' := 6) d20_5 rfl e5 rfl (by decide) e7 rfl
  have A5 := A4.astore (Ls' := #[.val (.ref m), .val (.int (0 : Int32)), .val (.ref t), .val (.int sa), .val (.int li), .val (.ref q), .unset, .unset, .unset]) (pc' := 8) d20_6 rfl rfl rfl
  have A6 := A5.aloadN (v := (.ref m)) (pc' := 9) d20_8 rfl rfl rfl
  have A7 := A6.getF (pc' := 12) (host := "") d20_9 (Or.inl (hw _ (List.mem_of_getElem? (i := 64) rfl))) Via.refl e4 rfl
  have A8 := A7.iloadN (v := (0 : Int32)) (pc' := 13) d20_12 rfl rfl
  have A9 := A8.iaload (i := 0) (v := (.int (2147483647 : Int32))) (pc' := 14) d20_13 e6 rfl (by decide) e8 rfl
  have A10 := A9.istore (Ls' := #[.val (.ref m), .val (.int (0 : Int32)), .val (.ref t), .val (.int sa), .val (.int li), .val (.ref q), .val (.int (2147483647 : Int32)), .unset, .unset]) (pc' := 16) d20_14 rfl rfl
  have A11 := A10.iload (v := (2147483647 : Int32)) (pc' := 18) d20_16 rfl rfl
  have A12 := A11.iload (v := li) (pc' := 20) d20_18 rfl rfl
  have A13 := A12.iloadN (v := sa) (pc' := 21) d20_20 rfl rfl
  have A14 := A13.isub (pc' := 22) d20_21 rfl
  by_cases c15 : 2147483647 < (li - sa).toInt
  · exfalso
    omega
  · have A17 := A14.icmpYes (pc' := 37) d20_22 (flt (inlt (x := (2147483647 : Int32)) (y := (li - sa)) rfl rfl c15)).2.1 (by decide) (by decide)
    have A18 := A17.iconst (z := (1 : Int32)) (pc' := 38) d20_37 rfl rfl
    have A19 := A18.istore (Ls' := #[.val (.ref m), .val (.int (0 : Int32)), .val (.ref t), .val (.int sa), .val (.int li), .val (.ref q), .val (.int (2147483647 : Int32)), .val (.int (1 : Int32)), .unset]) (pc' := 40) d20_38 rfl rfl
    have A20 := A19.iconst (z := (0 : Int32)) (pc' := 41) d20_40 rfl rfl
    have A21 := A20.istore (Ls' := #[.val (.ref m), .val (.int (0 : Int32)), .val (.ref t), .val (.int sa), .val (.int li), .val (.ref q), .val (.int (2147483647 : Int32)), .val (.int (1 : Int32)), .val (.int (0 : Int32))]) (pc' := 43) d20_41 rfl rfl
    have A22 := A21.iload (v := (1 : Int32)) (pc' := 45) d20_43 rfl rfl
    have A24 := A22.ifYes (pc' := 76) d20_45 (feq (ine (x := (1 : Int32)) (y := (0 : Int32)) rfl rfl (by decide : ¬ ((1 : Int) = 0)))).2 (by decide) (by decide)
    have A25 := A24.iload (v := (1 : Int32)) (pc' := 78) d20_76 rfl rfl
    have A27 := A25.ifYes (pc' := 90) d20_78 (feq (ine (x := (1 : Int32)) (y := (0 : Int32)) rfl rfl (by decide : ¬ ((1 : Int) = 0)))).2 (by decide) (by decide)
    have A28 := A27.iconst (z := (-1 : Int32)) (pc' := 91) d20_90 rfl rfl
    refine A28.retI d20_91 (by decide) (by decide) ⟨_, rfl, ⟨rfl, ?_⟩⟩
    have elit : (-1 : Int32).toInt = (-1) := rfl
    rfl
abbrev y20_N1 : MethodName := (⟨"com/example/dialekt/dialekt/json/MemberNames", "endOf", "(I[BII)I"⟩ : MethodName)
abbrev R20_N1 : Room := { frames := 0, cells := 0, slots := 0, locals := 0 }
set_option maxRecDepth 65536 in
set_option maxHeartbeats 4000000 in
theorem ef20_N1 (m : Addr) (t : Addr) (sa : Int32) (li : Int32)  (mid : MethodId) : entryFrame mid #[(.ref m), (.int (1 : Int32)), (.ref t), (.int sa), (.int li)] 9 = mkF mid 0 #[.val (.ref m), .val (.int (1 : Int32)), .val (.ref t), .val (.int sa), .val (.int li), .unset, .unset, .unset, .unset] [] := by first | (simp [entryFrame, mkF, argsToLocals, Value.category]; done) | rfl
set_option maxRecDepth 65536 in
set_option maxHeartbeats 40000000 in
theorem rm20_N1 (l : Launch) (Z : State) (a0 : Array Value) (hw : ∀ d ∈ tables_1, d.before a0 Z = true) (n0 : Nat) (ws : List Jvm.Cond) (m : Addr) (t : Addr) (sa : Int32) (li : Int32) (pl : Addr) (lns : Addr) (q : Addr) (fp : Nat → Value) (fl : Nat → Value) (f : Nat → Value) (T : Nat → Int32) (h0 : Heap) (hn0 : n0 ≤ h0.size) (e0 : Ars Z h0 t .byte 6 f) (e1 : ∀ j : Nat, f j = .int (T j)) (e2 : 0 ≤ sa.toInt ∧ sa.toInt ≤ 6 ∧ 0 ≤ li.toInt ∧ li.toInt ≤ 6) (e3 : Fld Z h0 m "com/example/dialekt/dialekt/json/MemberNames" "plain" "[[B" (.ref pl)) (e4 : Fld Z h0 m "com/example/dialekt/dialekt/json/MemberNames" "plainLengths" "[I" (.ref lns)) (e5 : Ars Z h0 pl (.array .byte) 3 fp) (e6 : Ars Z h0 lns .int 3 fl) (e7 : fp 1 = .ref q) (e8 : fl 1 = .int (2147483647 : Int32)) :
    Ctr l Z n0 y20_N1 prog_32_method_6_code 9 (some .int) ws R20_N1 #[(.ref m), (.int (1 : Int32)), (.ref t), (.int sa), (.int li)] h0 (QI fun r h => (h0 = h) ∧ (r = (-1 : Int32))) := by
  refine ctr_of pn20 hn0 (ef20_N1 m t sa li) fun G A0 => ?_
  have t1 := sub32 li sa (by omega) (by omega)
  have A1 := A0.aloadN (v := (.ref m)) (pc' := 1) d20_0 rfl rfl rfl
  have A2 := A1.getF (pc' := 4) (host := "") d20_1 (Or.inl (hw _ (List.mem_of_getElem? (i := 61) rfl))) Via.refl e3 rfl
  have A3 := A2.iloadN (v := (1 : Int32)) (pc' := 5) d20_4 rfl rfl
  have A4 := A3.aaload (i := 1) (v := (.ref q)) (pc' := 6) d20_5 rfl e5 rfl (by decide) e7 rfl
  have A5 := A4.astore (Ls' := #[.val (.ref m), .val (.int (1 : Int32)), .val (.ref t), .val (.int sa), .val (.int li), .val (.ref q), .unset, .unset, .unset]) (pc' := 8) d20_6 rfl rfl rfl
  have A6 := A5.aloadN (v := (.ref m)) (pc' := 9) d20_8 rfl rfl rfl
  have A7 := A6.getF (pc' := 12) (host := "") d20_9 (Or.inl (hw _ (List.mem_of_getElem? (i := 64) rfl))) Via.refl e4 rfl
  have A8 := A7.iloadN (v := (1 : Int32)) (pc' := 13) d20_12 rfl rfl
  have A9 := A8.iaload (i := 1) (v := (.int (2147483647 : Int32))) (pc' := 14) d20_13 e6 rfl (by decide) e8 rfl
  have A10 := A9.istore (Ls' := #[.val (.ref m), .val (.int (1 : Int32)), .val (.ref t), .val (.int sa), .val (.int li), .val (.ref q), .val (.int (2147483647 : Int32)), .unset, .unset]) (pc' := 16) d20_14 rfl rfl
  have A11 := A10.iload (v := (2147483647 : Int32)) (pc' := 18) d20_16 rfl rfl
  have A12 := A11.iload (v := li) (pc' := 20) d20_18 rfl rfl
  have A13 := A12.iloadN (v := sa) (pc' := 21) d20_20 rfl rfl
  have A14 := A13.isub (pc' := 22) d20_21 rfl
  by_cases c15 : 2147483647 < (li - sa).toInt
  · exfalso
    omega
  · have A17 := A14.icmpYes (pc' := 37) d20_22 (flt (inlt (x := (2147483647 : Int32)) (y := (li - sa)) rfl rfl c15)).2.1 (by decide) (by decide)
    have A18 := A17.iconst (z := (1 : Int32)) (pc' := 38) d20_37 rfl rfl
    have A19 := A18.istore (Ls' := #[.val (.ref m), .val (.int (1 : Int32)), .val (.ref t), .val (.int sa), .val (.int li), .val (.ref q), .val (.int (2147483647 : Int32)), .val (.int (1 : Int32)), .unset]) (pc' := 40) d20_38 rfl rfl
    have A20 := A19.iconst (z := (0 : Int32)) (pc' := 41) d20_40 rfl rfl
    have A21 := A20.istore (Ls' := #[.val (.ref m), .val (.int (1 : Int32)), .val (.ref t), .val (.int sa), .val (.int li), .val (.ref q), .val (.int (2147483647 : Int32)), .val (.int (1 : Int32)), .val (.int (0 : Int32))]) (pc' := 43) d20_41 rfl rfl
    have A22 := A21.iload (v := (1 : Int32)) (pc' := 45) d20_43 rfl rfl
    have A24 := A22.ifYes (pc' := 76) d20_45 (feq (ine (x := (1 : Int32)) (y := (0 : Int32)) rfl rfl (by decide : ¬ ((1 : Int) = 0)))).2 (by decide) (by decide)
    have A25 := A24.iload (v := (1 : Int32)) (pc' := 78) d20_76 rfl rfl
    have A27 := A25.ifYes (pc' := 90) d20_78 (feq (ine (x := (1 : Int32)) (y := (0 : Int32)) rfl rfl (by decide : ¬ ((1 : Int) = 0)))).2 (by decide) (by decide)
    have A28 := A27.iconst (z := (-1 : Int32)) (pc' := 91) d20_90 rfl rfl
    refine A28.retI d20_91 (by decide) (by decide) ⟨_, rfl, ⟨rfl, ?_⟩⟩
    have elit : (-1 : Int32).toInt = (-1) := rfl
    rfl
abbrev y20_N2 : MethodName := (⟨"com/example/dialekt/dialekt/json/MemberNames", "endOf", "(I[BII)I"⟩ : MethodName)
abbrev R20_N2 : Room := { frames := 0, cells := 0, slots := 0, locals := 0 }
set_option maxRecDepth 65536 in
set_option maxHeartbeats 4000000 in
theorem ef20_N2 (m : Addr) (t : Addr) (sa : Int32) (li : Int32)  (mid : MethodId) : entryFrame mid #[(.ref m), (.int (2 : Int32)), (.ref t), (.int sa), (.int li)] 9 = mkF mid 0 #[.val (.ref m), .val (.int (2 : Int32)), .val (.ref t), .val (.int sa), .val (.int li), .unset, .unset, .unset, .unset] [] := by first | (simp [entryFrame, mkF, argsToLocals, Value.category]; done) | rfl
set_option maxRecDepth 65536 in
set_option maxHeartbeats 40000000 in
theorem rm20_N2 (l : Launch) (Z : State) (a0 : Array Value) (hw : ∀ d ∈ tables_1, d.before a0 Z = true) (n0 : Nat) (ws : List Jvm.Cond) (m : Addr) (t : Addr) (sa : Int32) (li : Int32) (pl : Addr) (lns : Addr) (q : Addr) (fp : Nat → Value) (fl : Nat → Value) (f : Nat → Value) (T : Nat → Int32) (h0 : Heap) (hn0 : n0 ≤ h0.size) (e0 : Ars Z h0 t .byte 6 f) (e1 : ∀ j : Nat, f j = .int (T j)) (e2 : 0 ≤ sa.toInt ∧ sa.toInt ≤ 6 ∧ 0 ≤ li.toInt ∧ li.toInt ≤ 6) (e3 : Fld Z h0 m "com/example/dialekt/dialekt/json/MemberNames" "plain" "[[B" (.ref pl)) (e4 : Fld Z h0 m "com/example/dialekt/dialekt/json/MemberNames" "plainLengths" "[I" (.ref lns)) (e5 : Ars Z h0 pl (.array .byte) 3 fp) (e6 : Ars Z h0 lns .int 3 fl) (e7 : fp 2 = .ref q) (e8 : fl 2 = .int (2147483647 : Int32)) :
    Ctr l Z n0 y20_N2 prog_32_method_6_code 9 (some .int) ws R20_N2 #[(.ref m), (.int (2 : Int32)), (.ref t), (.int sa), (.int li)] h0 (QI fun r h => (h0 = h) ∧ (r = (-1 : Int32))) := by
  refine ctr_of pn20 hn0 (ef20_N2 m t sa li) fun G A0 => ?_
  have t1 := sub32 li sa (by omega) (by omega)
  have A1 := A0.aloadN (v := (.ref m)) (pc' := 1) d20_0 rfl rfl rfl
  have A2 := A1.getF (pc' := 4) (host := "") d20_1 (Or.inl (hw _ (List.mem_of_getElem? (i := 61) rfl))) Via.refl e3 rfl
  have A3 := A2.iloadN (v := (2 : Int32)) (pc' := 5) d20_4 rfl rfl
  have A4 := A3.aaload (i := 2) (v := (.ref q)) (pc' := 6) d20_5 rfl e5 rfl (by decide) e7 rfl
  have A5 := A4.astore (Ls' := #[.val (.ref m), .val (.int (2 : Int32)), .val (.ref t), .val (.int sa), .val (.int li), .val (.ref q), .unset, .unset, .unset]) (pc' := 8) d20_6 rfl rfl rfl
  have A6 := A5.aloadN (v := (.ref m)) (pc' := 9) d20_8 rfl rfl rfl
  have A7 := A6.getF (pc' := 12) (host := "") d20_9 (Or.inl (hw _ (List.mem_of_getElem? (i := 64) rfl))) Via.refl e4 rfl
  have A8 := A7.iloadN (v := (2 : Int32)) (pc' := 13) d20_12 rfl rfl
  have A9 := A8.iaload (i := 2) (v := (.int (2147483647 : Int32))) (pc' := 14) d20_13 e6 rfl (by decide) e8 rfl
  have A10 := A9.istore (Ls' := #[.val (.ref m), .val (.int (2 : Int32)), .val (.ref t), .val (.int sa), .val (.int li), .val (.ref q), .val (.int (2147483647 : Int32)), .unset, .unset]) (pc' := 16) d20_14 rfl rfl
  have A11 := A10.iload (v := (2147483647 : Int32)) (pc' := 18) d20_16 rfl rfl
  have A12 := A11.iload (v := li) (pc' := 20) d20_18 rfl rfl
  have A13 := A12.iloadN (v := sa) (pc' := 21) d20_20 rfl rfl
  have A14 := A13.isub (pc' := 22) d20_21 rfl
  by_cases c15 : 2147483647 < (li - sa).toInt
  · exfalso
    omega
  · have A17 := A14.icmpYes (pc' := 37) d20_22 (flt (inlt (x := (2147483647 : Int32)) (y := (li - sa)) rfl rfl c15)).2.1 (by decide) (by decide)
    have A18 := A17.iconst (z := (1 : Int32)) (pc' := 38) d20_37 rfl rfl
    have A19 := A18.istore (Ls' := #[.val (.ref m), .val (.int (2 : Int32)), .val (.ref t), .val (.int sa), .val (.int li), .val (.ref q), .val (.int (2147483647 : Int32)), .val (.int (1 : Int32)), .unset]) (pc' := 40) d20_38 rfl rfl
    have A20 := A19.iconst (z := (0 : Int32)) (pc' := 41) d20_40 rfl rfl
    have A21 := A20.istore (Ls' := #[.val (.ref m), .val (.int (2 : Int32)), .val (.ref t), .val (.int sa), .val (.int li), .val (.ref q), .val (.int (2147483647 : Int32)), .val (.int (1 : Int32)), .val (.int (0 : Int32))]) (pc' := 43) d20_41 rfl rfl
    have A22 := A21.iload (v := (1 : Int32)) (pc' := 45) d20_43 rfl rfl
    have A24 := A22.ifYes (pc' := 76) d20_45 (feq (ine (x := (1 : Int32)) (y := (0 : Int32)) rfl rfl (by decide : ¬ ((1 : Int) = 0)))).2 (by decide) (by decide)
    have A25 := A24.iload (v := (1 : Int32)) (pc' := 78) d20_76 rfl rfl
    have A27 := A25.ifYes (pc' := 90) d20_78 (feq (ine (x := (1 : Int32)) (y := (0 : Int32)) rfl rfl (by decide : ¬ ((1 : Int) = 0)))).2 (by decide) (by decide)
    have A28 := A27.iconst (z := (-1 : Int32)) (pc' := 91) d20_90 rfl rfl
    refine A28.retI d20_91 (by decide) (by decide) ⟨_, rfl, ⟨rfl, ?_⟩⟩
    have elit : (-1 : Int32).toInt = (-1) := rfl
    rfl
theorem d20_25 : decode prog_32_method_6_code 25 = .ok (.aload_n 2, 1) := by decide +kernel
theorem d20_26 : decode prog_32_method_6_code 26 = .ok (.iload_n 3, 1) := by decide +kernel
theorem d20_27 : decode prog_32_method_6_code 27 = .ok (.iload 6, 2) := by decide +kernel
theorem d20_29 : decode prog_32_method_6_code 29 = .ok (.iadd, 1) := by decide +kernel
theorem d20_30 : decode prog_32_method_6_code 30 = .ok (.baload, 1) := by decide +kernel
theorem d20_31 : decode prog_32_method_6_code 31 = .ok (.bipush 34, 2) := by decide +kernel
theorem d20_33 : decode prog_32_method_6_code 33 = .ok (.ixor, 1) := by decide +kernel
theorem d20_34 : decode prog_32_method_6_code 34 = .ok (.goto 4, 3) := by decide +kernel
theorem d20_48 : decode prog_32_method_6_code 48 = .ok (.iload 8, 2) := by decide +kernel
theorem d20_50 : decode prog_32_method_6_code 50 = .ok (.aload 5, 2) := by decide +kernel
theorem d20_52 : decode prog_32_method_6_code 52 = .ok (.arraylength, 1) := by decide +kernel
theorem d20_53 : decode prog_32_method_6_code 53 = .ok (.if_icmp .ge 23, 3) := by decide +kernel
theorem d20_56 : decode prog_32_method_6_code 56 = .ok (.aload_n 2, 1) := by decide +kernel
theorem d20_57 : decode prog_32_method_6_code 57 = .ok (.iload_n 3, 1) := by decide +kernel
theorem d20_58 : decode prog_32_method_6_code 58 = .ok (.iload 8, 2) := by decide +kernel
theorem d20_60 : decode prog_32_method_6_code 60 = .ok (.iadd, 1) := by decide +kernel
theorem d20_61 : decode prog_32_method_6_code 61 = .ok (.baload, 1) := by decide +kernel
theorem d20_62 : decode prog_32_method_6_code 62 = .ok (.aload 5, 2) := by decide +kernel
theorem d20_64 : decode prog_32_method_6_code 64 = .ok (.iload 8, 2) := by decide +kernel
theorem d20_66 : decode prog_32_method_6_code 66 = .ok (.baload, 1) := by decide +kernel
theorem d20_67 : decode prog_32_method_6_code 67 = .ok (.ixor, 1) := by decide +kernel
theorem d20_68 : decode prog_32_method_6_code 68 = .ok (.istore 7, 2) := by decide +kernel
theorem d20_70 : decode prog_32_method_6_code 70 = .ok (.iinc 8 1, 3) := by decide +kernel
theorem d20_73 : decode prog_32_method_6_code 73 = .ok (.goto (-30), 3) := by decide +kernel
theorem d20_81 : decode prog_32_method_6_code 81 = .ok (.iload_n 3, 1) := by decide +kernel
theorem d20_82 : decode prog_32_method_6_code 82 = .ok (.iload 6, 2) := by decide +kernel
theorem d20_84 : decode prog_32_method_6_code 84 = .ok (.iadd, 1) := by decide +kernel
theorem d20_85 : decode prog_32_method_6_code 85 = .ok (.iconst 1, 1) := by decide +kernel
theorem d20_86 : decode prog_32_method_6_code 86 = .ok (.iadd, 1) := by decide +kernel
theorem d20_87 : decode prog_32_method_6_code 87 = .ok (.goto 4, 3) := by decide +kernel
abbrev y20_P0 : MethodName := (⟨"com/example/dialekt/dialekt/json/MemberNames", "endOf", "(I[BII)I"⟩ : MethodName)
abbrev R20_P0 : Room := { frames := 0, cells := 0, slots := 0, locals := 0 }
set_option maxRecDepth 65536 in
set_option maxHeartbeats 4000000 in
theorem ef20_P0 (m : Addr) (t : Addr) (sa : Int32) (li : Int32)  (mid : MethodId) : entryFrame mid #[(.ref m), (.int (0 : Int32)), (.ref t), (.int sa), (.int li)] 9 = mkF mid 0 #[.val (.ref m), .val (.int (0 : Int32)), .val (.ref t), .val (.int sa), .val (.int li), .unset, .unset, .unset, .unset] [] := by first | (simp [entryFrame, mkF, argsToLocals, Value.category]; done) | rfl
set_option maxRecDepth 65536 in
set_option maxHeartbeats 40000000 in
theorem rm20_P0 (l : Launch) (Z : State) (a0 : Array Value) (hw : ∀ d ∈ tables_1, d.before a0 Z = true) (n0 : Nat) (ws : List Jvm.Cond) (m : Addr) (t : Addr) (sa : Int32) (li : Int32) (pl : Addr) (lns : Addr) (q : Addr) (fp : Nat → Value) (fl : Nat → Value) (g : Nat → Value) (f : Nat → Value) (T : Nat → Int32) (u0 : Int32) (u1 : Int32) (h0 : Heap) (hn0 : n0 ≤ h0.size) (e0 : Ars Z h0 t .byte 6 f) (e1 : ∀ j : Nat, f j = .int (T j)) (e2 : 0 ≤ sa.toInt ∧ sa.toInt ≤ 6 ∧ 0 ≤ li.toInt ∧ li.toInt ≤ 6) (e3 : Fld Z h0 m "com/example/dialekt/dialekt/json/MemberNames" "plain" "[[B" (.ref pl)) (e4 : Fld Z h0 m "com/example/dialekt/dialekt/json/MemberNames" "plainLengths" "[I" (.ref lns)) (e5 : Ars Z h0 pl (.array .byte) 3 fp) (e6 : Ars Z h0 lns .int 3 fl) (e7 : fp 0 = .ref q) (e8 : fl 0 = .int (2 : Int32)) (e9 : Ars Z h0 q .byte 2 g) (e10 : g 0 = .int u0) (e11 : g 1 = .int u1) :
    Ctr l Z n0 y20_P0 prog_32_method_6_code 9 (some .int) ws R20_P0 #[(.ref m), (.int (0 : Int32)), (.ref t), (.int sa), (.int li)] h0 (QI fun r h => (h0 = h) ∧ ((r.toInt = sa.toInt + 3 ∧ (sa.toInt + 2 < li.toInt ∧ (T (sa.toInt.toNat + 0)).toInt = u0.toInt ∧ (T (sa.toInt.toNat + 1)).toInt = u1.toInt ∧ (T (sa.toInt.toNat + 2)).toInt = 34)) ∨ (r.toInt = -1 ∧ ¬ (sa.toInt + 2 < li.toInt ∧ (T (sa.toInt.toNat + 0)).toInt = u0.toInt ∧ (T (sa.toInt.toNat + 1)).toInt = u1.toInt ∧ (T (sa.toInt.toNat + 2)).toInt = 34)))) := by
  refine ctr_of pn20 hn0 (ef20_P0 m t sa li) fun G A0 => ?_
  have t1 := sub32 li sa (by omega) (by omega)
  have a0_ := addc32 sa (0 : Int32) 0 rfl (by omega) (by omega)
  have a1_ := addc32 sa (1 : Int32) 1 rfl (by omega) (by omega)
  have a2_ := addc32 sa (2 : Int32) 2 rfl (by omega) (by omega)
  have z1 := addc32 (sa + (2 : Int32)) (1 : Int32) 1 rfl (by omega) (by omega)
  have xr0 := own_xor (T (sa.toInt.toNat + 0)) u0
  have xr1 := own_xor (T (sa.toInt.toNat + 1)) u1
  have xrq := own_xor (T (sa.toInt.toNat + 2)) (34 : Int32)
  have l34 : (34 : Int32).toInt = 34 := rfl
  have A1 := A0.aloadN (v := (.ref m)) (pc' := 1) d20_0 rfl rfl rfl
  have A2 := A1.getF (pc' := 4) (host := "") d20_1 (Or.inl (hw _ (List.mem_of_getElem? (i := 61) rfl))) Via.refl e3 rfl
  have A3 := A2.iloadN (v := (0 : Int32)) (pc' := 5) d20_4 rfl rfl
  have A4 := A3.aaload (i := 0) (v := (.ref q)) (pc' := 6) d20_5 rfl e5 rfl (by decide) e7 rfl
  have A5 := A4.astore (Ls' := #[.val (.ref m), .val (.int (0 : Int32)), .val (.ref t), .val (.int sa), .val (.int li), .val (.ref q), .unset, .unset, .unset]) (pc' := 8) d20_6 rfl rfl rfl
  have A6 := A5.aloadN (v := (.ref m)) (pc' := 9) d20_8 rfl rfl rfl
  have A7 := A6.getF (pc' := 12) (host := "") d20_9 (Or.inl (hw _ (List.mem_of_getElem? (i := 64) rfl))) Via.refl e4 rfl
  have A8 := A7.iloadN (v := (0 : Int32)) (pc' := 13) d20_12 rfl rfl
  have A9 := A8.iaload (i := 0) (v := (.int (2 : Int32))) (pc' := 14) d20_13 e6 rfl (by decide) e8 rfl
  have A10 := A9.istore (Ls' := #[.val (.ref m), .val (.int (0 : Int32)), .val (.ref t), .val (.int sa), .val (.int li), .val (.ref q), .val (.int (2 : Int32)), .unset, .unset]) (pc' := 16) d20_14 rfl rfl
  have A11 := A10.iload (v := (2 : Int32)) (pc' := 18) d20_16 rfl rfl
  have A12 := A11.iload (v := li) (pc' := 20) d20_18 rfl rfl
  have A13 := A12.iloadN (v := sa) (pc' := 21) d20_20 rfl rfl
  have A14 := A13.isub (pc' := 22) d20_21 rfl
  by_cases c15 : 2 < (li - sa).toInt
  · have A16 := A14.icmpNo (pc' := 25) d20_22 (tlt (ilt (x := (2 : Int32)) (y := (li - sa)) rfl rfl c15)).2.1 rfl
    have A17 := A16.aloadN (v := (.ref t)) (pc' := 26) d20_25 rfl rfl rfl
    have A18 := A17.iloadN (v := sa) (pc' := 27) d20_26 rfl rfl
    have A19 := A18.iload (v := (2 : Int32)) (pc' := 29) d20_27 rfl rfl
    have A20 := A19.iadd (pc' := 30) d20_29 rfl
    have A21 := A20.baload (i := (sa.toInt.toNat + 2)) (v := (.int (T (sa.toInt.toNat + 2)))) (pc' := 31) d20_30 e0 (by omega) (by omega) (e1 _) rfl
    have A22 := A21.bipush (z := (34 : Int32)) (pc' := 33) d20_31 rfl rfl
    have A23 := A22.ixor (pc' := 34) d20_33 rfl
    have A24 := A23.goto (pc' := 38) d20_34 (by decide) (by decide)
    have A25 := A24.istore (Ls' := #[.val (.ref m), .val (.int (0 : Int32)), .val (.ref t), .val (.int sa), .val (.int li), .val (.ref q), .val (.int (2 : Int32)), .val (.int ((T (sa.toInt.toNat + 2)) ^^^ (34 : Int32))), .unset]) (pc' := 40) d20_38 rfl rfl
    have A26 := A25.iconst (z := (0 : Int32)) (pc' := 41) d20_40 rfl rfl
    have A27 := A26.istore (Ls' := #[.val (.ref m), .val (.int (0 : Int32)), .val (.ref t), .val (.int sa), .val (.int li), .val (.ref q), .val (.int (2 : Int32)), .val (.int ((T (sa.toInt.toNat + 2)) ^^^ (34 : Int32))), .val (.int (0 : Int32))]) (pc' := 43) d20_41 rfl rfl
    have A28 := A27.iload (v := ((T (sa.toInt.toNat + 2)) ^^^ (34 : Int32))) (pc' := 45) d20_43 rfl rfl
    by_cases c29 : ((T (sa.toInt.toNat + 2)) ^^^ (34 : Int32)).toInt = 0
    · have A30 := A28.ifNo (pc' := 48) d20_45 (teq (ieq (x := ((T (sa.toInt.toNat + 2)) ^^^ (34 : Int32))) (y := (0 : Int32)) rfl rfl c29)).2 rfl
      have A31 := A30.iload (v := (0 : Int32)) (pc' := 50) d20_48 rfl rfl
      have A32 := A31.aload (v := (.ref q)) (pc' := 52) d20_50 rfl rfl rfl
      have A33 := A32.alen (z := (2 : Int32)) (pc' := 53) d20_52 e9 rfl rfl
      have A35 := A33.icmpNo (pc' := 56) d20_53 (tlt (ilt (x := (0 : Int32)) (y := (2 : Int32)) rfl rfl (by decide : (0 : Int) < 2))).2.1 rfl
      have A36 := A35.aloadN (v := (.ref t)) (pc' := 57) d20_56 rfl rfl rfl
      have A37 := A36.iloadN (v := sa) (pc' := 58) d20_57 rfl rfl
      have A38 := A37.iload (v := (0 : Int32)) (pc' := 60) d20_58 rfl rfl
      have A39 := A38.iadd (pc' := 61) d20_60 rfl
      have A40 := A39.baload (i := (sa.toInt.toNat + 0)) (v := (.int (T (sa.toInt.toNat + 0)))) (pc' := 62) d20_61 e0 (by omega) (by omega) (e1 _) rfl
      have A41 := A40.aload (v := (.ref q)) (pc' := 64) d20_62 rfl rfl rfl
      have A42 := A41.iload (v := (0 : Int32)) (pc' := 66) d20_64 rfl rfl
      have A43 := A42.baload (i := 0) (v := (.int u0)) (pc' := 67) d20_66 e9 rfl (by decide) e10 rfl
      have A44 := A43.ixor (pc' := 68) d20_67 rfl
      have A45 := A44.istore (Ls' := #[.val (.ref m), .val (.int (0 : Int32)), .val (.ref t), .val (.int sa), .val (.int li), .val (.ref q), .val (.int (2 : Int32)), .val (.int ((T (sa.toInt.toNat + 0)) ^^^ u0)), .val (.int (0 : Int32))]) (pc' := 70) d20_68 rfl rfl
      have A46 := A45.iinc (v := (0 : Int32)) (z := (1 : Int32)) (Ls' := #[.val (.ref m), .val (.int (0 : Int32)), .val (.ref t), .val (.int sa), .val (.int li), .val (.ref q), .val (.int (2 : Int32)), .val (.int ((T (sa.toInt.toNat + 0)) ^^^ u0)), .val (.int (1 : Int32))]) (pc' := 73) d20_70 rfl (by decide) rfl rfl
      have A47 := A46.goto (pc' := 43) d20_73 (by decide) (by decide)
      have A48 := A47.iload (v := ((T (sa.toInt.toNat + 0)) ^^^ u0)) (pc' := 45) d20_43 rfl rfl
      by_cases c49 : ((T (sa.toInt.toNat + 0)) ^^^ u0).toInt = 0
      · have A50 := A48.ifNo (pc' := 48) d20_45 (teq (ieq (x := ((T (sa.toInt.toNat + 0)) ^^^ u0)) (y := (0 : Int32)) rfl rfl c49)).2 rfl
        have A51 := A50.iload (v := (1 : Int32)) (pc' := 50) d20_48 rfl rfl
        have A52 := A51.aload (v := (.ref q)) (pc' := 52) d20_50 rfl rfl rfl
        have A53 := A52.alen (z := (2 : Int32)) (pc' := 53) d20_52 e9 rfl rfl
        have A55 := A53.icmpNo (pc' := 56) d20_53 (tlt (ilt (x := (1 : Int32)) (y := (2 : Int32)) rfl rfl (by decide : (1 : Int) < 2))).2.1 rfl
        have A56 := A55.aloadN (v := (.ref t)) (pc' := 57) d20_56 rfl rfl rfl
        have A57 := A56.iloadN (v := sa) (pc' := 58) d20_57 rfl rfl
        have A58 := A57.iload (v := (1 : Int32)) (pc' := 60) d20_58 rfl rfl
        have A59 := A58.iadd (pc' := 61) d20_60 rfl
        have A60 := A59.baload (i := (sa.toInt.toNat + 1)) (v := (.int (T (sa.toInt.toNat + 1)))) (pc' := 62) d20_61 e0 (by omega) (by omega) (e1 _) rfl
        have A61 := A60.aload (v := (.ref q)) (pc' := 64) d20_62 rfl rfl rfl
        have A62 := A61.iload (v := (1 : Int32)) (pc' := 66) d20_64 rfl rfl
        have A63 := A62.baload (i := 1) (v := (.int u1)) (pc' := 67) d20_66 e9 rfl (by decide) e11 rfl
        have A64 := A63.ixor (pc' := 68) d20_67 rfl
        have A65 := A64.istore (Ls' := #[.val (.ref m), .val (.int (0 : Int32)), .val (.ref t), .val (.int sa), .val (.int li), .val (.ref q), .val (.int (2 : Int32)), .val (.int ((T (sa.toInt.toNat + 1)) ^^^ u1)), .val (.int (1 : Int32))]) (pc' := 70) d20_68 rfl rfl
        have A66 := A65.iinc (v := (1 : Int32)) (z := (2 : Int32)) (Ls' := #[.val (.ref m), .val (.int (0 : Int32)), .val (.ref t), .val (.int sa), .val (.int li), .val (.ref q), .val (.int (2 : Int32)), .val (.int ((T (sa.toInt.toNat + 1)) ^^^ u1)), .val (.int (2 : Int32))]) (pc' := 73) d20_70 rfl (by decide) rfl rfl
        have A67 := A66.goto (pc' := 43) d20_73 (by decide) (by decide)
        have A68 := A67.iload (v := ((T (sa.toInt.toNat + 1)) ^^^ u1)) (pc' := 45) d20_43 rfl rfl
        by_cases c69 : ((T (sa.toInt.toNat + 1)) ^^^ u1).toInt = 0
        · have A70 := A68.ifNo (pc' := 48) d20_45 (teq (ieq (x := ((T (sa.toInt.toNat + 1)) ^^^ u1)) (y := (0 : Int32)) rfl rfl c69)).2 rfl
          have A71 := A70.iload (v := (2 : Int32)) (pc' := 50) d20_48 rfl rfl
          have A72 := A71.aload (v := (.ref q)) (pc' := 52) d20_50 rfl rfl rfl
          have A73 := A72.alen (z := (2 : Int32)) (pc' := 53) d20_52 e9 rfl rfl
          have A75 := A73.icmpYes (pc' := 76) d20_53 (flt (inlt (x := (2 : Int32)) (y := (2 : Int32)) rfl rfl (by decide : ¬ ((2 : Int) < 2)))).2.1 (by decide) (by decide)
          have A76 := A75.iload (v := ((T (sa.toInt.toNat + 1)) ^^^ u1)) (pc' := 78) d20_76 rfl rfl
          by_cases c77 : ((T (sa.toInt.toNat + 1)) ^^^ u1).toInt = 0
          · have A78 := A76.ifNo (pc' := 81) d20_78 (teq (ieq (x := ((T (sa.toInt.toNat + 1)) ^^^ u1)) (y := (0 : Int32)) rfl rfl c77)).2 rfl
            have A79 := A78.iloadN (v := sa) (pc' := 82) d20_81 rfl rfl
            have A80 := A79.iload (v := (2 : Int32)) (pc' := 84) d20_82 rfl rfl
            have A81 := A80.iadd (pc' := 85) d20_84 rfl
            have A82 := A81.iconst (z := (1 : Int32)) (pc' := 86) d20_85 rfl rfl
            have A83 := A82.iadd (pc' := 87) d20_86 rfl
            have A84 := A83.goto (pc' := 91) d20_87 (by decide) (by decide)
            refine A84.retI d20_91 (by decide) (by decide) ⟨_, rfl, ⟨rfl, ?_⟩⟩
            omega
          · have A85 := A76.ifYes (pc' := 90) d20_78 (feq (ine (x := ((T (sa.toInt.toNat + 1)) ^^^ u1)) (y := (0 : Int32)) rfl rfl c77)).2 (by decide) (by decide)
            have A86 := A85.iconst (z := (-1 : Int32)) (pc' := 91) d20_90 rfl rfl
            refine A86.retI d20_91 (by decide) (by decide) ⟨_, rfl, ⟨rfl, ?_⟩⟩
            have elit : (-1 : Int32).toInt = (-1) := rfl
            omega
        · have A87 := A68.ifYes (pc' := 76) d20_45 (feq (ine (x := ((T (sa.toInt.toNat + 1)) ^^^ u1)) (y := (0 : Int32)) rfl rfl c69)).2 (by decide) (by decide)
          have A88 := A87.iload (v := ((T (sa.toInt.toNat + 1)) ^^^ u1)) (pc' := 78) d20_76 rfl rfl
          by_cases c89 : ((T (sa.toInt.toNat + 1)) ^^^ u1).toInt = 0
          · have A90 := A88.ifNo (pc' := 81) d20_78 (teq (ieq (x := ((T (sa.toInt.toNat + 1)) ^^^ u1)) (y := (0 : Int32)) rfl rfl c89)).2 rfl
            have A91 := A90.iloadN (v := sa) (pc' := 82) d20_81 rfl rfl
            have A92 := A91.iload (v := (2 : Int32)) (pc' := 84) d20_82 rfl rfl
            have A93 := A92.iadd (pc' := 85) d20_84 rfl
            have A94 := A93.iconst (z := (1 : Int32)) (pc' := 86) d20_85 rfl rfl
            have A95 := A94.iadd (pc' := 87) d20_86 rfl
            have A96 := A95.goto (pc' := 91) d20_87 (by decide) (by decide)
            refine A96.retI d20_91 (by decide) (by decide) ⟨_, rfl, ⟨rfl, ?_⟩⟩
            omega
          · have A97 := A88.ifYes (pc' := 90) d20_78 (feq (ine (x := ((T (sa.toInt.toNat + 1)) ^^^ u1)) (y := (0 : Int32)) rfl rfl c89)).2 (by decide) (by decide)
            have A98 := A97.iconst (z := (-1 : Int32)) (pc' := 91) d20_90 rfl rfl
            refine A98.retI d20_91 (by decide) (by decide) ⟨_, rfl, ⟨rfl, ?_⟩⟩
            have elit : (-1 : Int32).toInt = (-1) := rfl
            omega
      · have A99 := A48.ifYes (pc' := 76) d20_45 (feq (ine (x := ((T (sa.toInt.toNat + 0)) ^^^ u0)) (y := (0 : Int32)) rfl rfl c49)).2 (by decide) (by decide)
        have A100 := A99.iload (v := ((T (sa.toInt.toNat + 0)) ^^^ u0)) (pc' := 78) d20_76 rfl rfl
        by_cases c101 : ((T (sa.toInt.toNat + 0)) ^^^ u0).toInt = 0
        · have A102 := A100.ifNo (pc' := 81) d20_78 (teq (ieq (x := ((T (sa.toInt.toNat + 0)) ^^^ u0)) (y := (0 : Int32)) rfl rfl c101)).2 rfl
          have A103 := A102.iloadN (v := sa) (pc' := 82) d20_81 rfl rfl
          have A104 := A103.iload (v := (2 : Int32)) (pc' := 84) d20_82 rfl rfl
          have A105 := A104.iadd (pc' := 85) d20_84 rfl
          have A106 := A105.iconst (z := (1 : Int32)) (pc' := 86) d20_85 rfl rfl
          have A107 := A106.iadd (pc' := 87) d20_86 rfl
          have A108 := A107.goto (pc' := 91) d20_87 (by decide) (by decide)
          refine A108.retI d20_91 (by decide) (by decide) ⟨_, rfl, ⟨rfl, ?_⟩⟩
          omega
        · have A109 := A100.ifYes (pc' := 90) d20_78 (feq (ine (x := ((T (sa.toInt.toNat + 0)) ^^^ u0)) (y := (0 : Int32)) rfl rfl c101)).2 (by decide) (by decide)
          have A110 := A109.iconst (z := (-1 : Int32)) (pc' := 91) d20_90 rfl rfl
          refine A110.retI d20_91 (by decide) (by decide) ⟨_, rfl, ⟨rfl, ?_⟩⟩
          have elit : (-1 : Int32).toInt = (-1) := rfl
          omega
    · have A111 := A28.ifYes (pc' := 76) d20_45 (feq (ine (x := ((T (sa.toInt.toNat + 2)) ^^^ (34 : Int32))) (y := (0 : Int32)) rfl rfl c29)).2 (by decide) (by decide)
      have A112 := A111.iload (v := ((T (sa.toInt.toNat + 2)) ^^^ (34 : Int32))) (pc' := 78) d20_76 rfl rfl
      by_cases c113 : ((T (sa.toInt.toNat + 2)) ^^^ (34 : Int32)).toInt = 0
      · have A114 := A112.ifNo (pc' := 81) d20_78 (teq (ieq (x := ((T (sa.toInt.toNat + 2)) ^^^ (34 : Int32))) (y := (0 : Int32)) rfl rfl c113)).2 rfl
        have A115 := A114.iloadN (v := sa) (pc' := 82) d20_81 rfl rfl
        have A116 := A115.iload (v := (2 : Int32)) (pc' := 84) d20_82 rfl rfl
        have A117 := A116.iadd (pc' := 85) d20_84 rfl
        have A118 := A117.iconst (z := (1 : Int32)) (pc' := 86) d20_85 rfl rfl
        have A119 := A118.iadd (pc' := 87) d20_86 rfl
        have A120 := A119.goto (pc' := 91) d20_87 (by decide) (by decide)
        refine A120.retI d20_91 (by decide) (by decide) ⟨_, rfl, ⟨rfl, ?_⟩⟩
        omega
      · have A121 := A112.ifYes (pc' := 90) d20_78 (feq (ine (x := ((T (sa.toInt.toNat + 2)) ^^^ (34 : Int32))) (y := (0 : Int32)) rfl rfl c113)).2 (by decide) (by decide)
        have A122 := A121.iconst (z := (-1 : Int32)) (pc' := 91) d20_90 rfl rfl
        refine A122.retI d20_91 (by decide) (by decide) ⟨_, rfl, ⟨rfl, ?_⟩⟩
        have elit : (-1 : Int32).toInt = (-1) := rfl
        omega
  · have A123 := A14.icmpYes (pc' := 37) d20_22 (flt (inlt (x := (2 : Int32)) (y := (li - sa)) rfl rfl c15)).2.1 (by decide) (by decide)
    have A124 := A123.iconst (z := (1 : Int32)) (pc' := 38) d20_37 rfl rfl
    have A125 := A124.istore (Ls' := #[.val (.ref m), .val (.int (0 : Int32)), .val (.ref t), .val (.int sa), .val (.int li), .val (.ref q), .val (.int (2 : Int32)), .val (.int (1 : Int32)), .unset]) (pc' := 40) d20_38 rfl rfl
    have A126 := A125.iconst (z := (0 : Int32)) (pc' := 41) d20_40 rfl rfl
    have A127 := A126.istore (Ls' := #[.val (.ref m), .val (.int (0 : Int32)), .val (.ref t), .val (.int sa), .val (.int li), .val (.ref q), .val (.int (2 : Int32)), .val (.int (1 : Int32)), .val (.int (0 : Int32))]) (pc' := 43) d20_41 rfl rfl
    have A128 := A127.iload (v := (1 : Int32)) (pc' := 45) d20_43 rfl rfl
    have A130 := A128.ifYes (pc' := 76) d20_45 (feq (ine (x := (1 : Int32)) (y := (0 : Int32)) rfl rfl (by decide : ¬ ((1 : Int) = 0)))).2 (by decide) (by decide)
    have A131 := A130.iload (v := (1 : Int32)) (pc' := 78) d20_76 rfl rfl
    have A133 := A131.ifYes (pc' := 90) d20_78 (feq (ine (x := (1 : Int32)) (y := (0 : Int32)) rfl rfl (by decide : ¬ ((1 : Int) = 0)))).2 (by decide) (by decide)
    have A134 := A133.iconst (z := (-1 : Int32)) (pc' := 91) d20_90 rfl rfl
    refine A134.retI d20_91 (by decide) (by decide) ⟨_, rfl, ⟨rfl, ?_⟩⟩
    have elit : (-1 : Int32).toInt = (-1) := rfl
    omega
abbrev y20_P1 : MethodName := (⟨"com/example/dialekt/dialekt/json/MemberNames", "endOf", "(I[BII)I"⟩ : MethodName)
abbrev R20_P1 : Room := { frames := 0, cells := 0, slots := 0, locals := 0 }
set_option maxRecDepth 65536 in
set_option maxHeartbeats 4000000 in
theorem ef20_P1 (m : Addr) (t : Addr) (sa : Int32) (li : Int32)  (mid : MethodId) : entryFrame mid #[(.ref m), (.int (1 : Int32)), (.ref t), (.int sa), (.int li)] 9 = mkF mid 0 #[.val (.ref m), .val (.int (1 : Int32)), .val (.ref t), .val (.int sa), .val (.int li), .unset, .unset, .unset, .unset] [] := by first | (simp [entryFrame, mkF, argsToLocals, Value.category]; done) | rfl
set_option maxRecDepth 65536 in
set_option maxHeartbeats 40000000 in
theorem rm20_P1 (l : Launch) (Z : State) (a0 : Array Value) (hw : ∀ d ∈ tables_1, d.before a0 Z = true) (n0 : Nat) (ws : List Jvm.Cond) (m : Addr) (t : Addr) (sa : Int32) (li : Int32) (pl : Addr) (lns : Addr) (q : Addr) (fp : Nat → Value) (fl : Nat → Value) (g : Nat → Value) (f : Nat → Value) (T : Nat → Int32) (u0 : Int32) (h0 : Heap) (hn0 : n0 ≤ h0.size) (e0 : Ars Z h0 t .byte 6 f) (e1 : ∀ j : Nat, f j = .int (T j)) (e2 : 0 ≤ sa.toInt ∧ sa.toInt ≤ 6 ∧ 0 ≤ li.toInt ∧ li.toInt ≤ 6) (e3 : Fld Z h0 m "com/example/dialekt/dialekt/json/MemberNames" "plain" "[[B" (.ref pl)) (e4 : Fld Z h0 m "com/example/dialekt/dialekt/json/MemberNames" "plainLengths" "[I" (.ref lns)) (e5 : Ars Z h0 pl (.array .byte) 3 fp) (e6 : Ars Z h0 lns .int 3 fl) (e7 : fp 1 = .ref q) (e8 : fl 1 = .int (1 : Int32)) (e9 : Ars Z h0 q .byte 1 g) (e10 : g 0 = .int u0) :
    Ctr l Z n0 y20_P1 prog_32_method_6_code 9 (some .int) ws R20_P1 #[(.ref m), (.int (1 : Int32)), (.ref t), (.int sa), (.int li)] h0 (QI fun r h => (h0 = h) ∧ ((r.toInt = sa.toInt + 2 ∧ (sa.toInt + 1 < li.toInt ∧ (T (sa.toInt.toNat + 0)).toInt = u0.toInt ∧ (T (sa.toInt.toNat + 1)).toInt = 34)) ∨ (r.toInt = -1 ∧ ¬ (sa.toInt + 1 < li.toInt ∧ (T (sa.toInt.toNat + 0)).toInt = u0.toInt ∧ (T (sa.toInt.toNat + 1)).toInt = 34)))) := by
  refine ctr_of pn20 hn0 (ef20_P1 m t sa li) fun G A0 => ?_
  have t1 := sub32 li sa (by omega) (by omega)
  have a0_ := addc32 sa (0 : Int32) 0 rfl (by omega) (by omega)
  have a1_ := addc32 sa (1 : Int32) 1 rfl (by omega) (by omega)
  have z1 := addc32 (sa + (1 : Int32)) (1 : Int32) 1 rfl (by omega) (by omega)
  have xr0 := own_xor (T (sa.toInt.toNat + 0)) u0
  have xrq := own_xor (T (sa.toInt.toNat + 1)) (34 : Int32)
  have l34 : (34 : Int32).toInt = 34 := rfl
  have A1 := A0.aloadN (v := (.ref m)) (pc' := 1) d20_0 rfl rfl rfl
  have A2 := A1.getF (pc' := 4) (host := "") d20_1 (Or.inl (hw _ (List.mem_of_getElem? (i := 61) rfl))) Via.refl e3 rfl
  have A3 := A2.iloadN (v := (1 : Int32)) (pc' := 5) d20_4 rfl rfl
  have A4 := A3.aaload (i := 1) (v := (.ref q)) (pc' := 6) d20_5 rfl e5 rfl (by decide) e7 rfl
  have A5 := A4.astore (Ls' := #[.val (.ref m), .val (.int (1 : Int32)), .val (.ref t), .val (.int sa), .val (.int li), .val (.ref q), .unset, .unset, .unset]) (pc' := 8) d20_6 rfl rfl rfl
  have A6 := A5.aloadN (v := (.ref m)) (pc' := 9) d20_8 rfl rfl rfl
  have A7 := A6.getF (pc' := 12) (host := "") d20_9 (Or.inl (hw _ (List.mem_of_getElem? (i := 64) rfl))) Via.refl e4 rfl
  have A8 := A7.iloadN (v := (1 : Int32)) (pc' := 13) d20_12 rfl rfl
  have A9 := A8.iaload (i := 1) (v := (.int (1 : Int32))) (pc' := 14) d20_13 e6 rfl (by decide) e8 rfl
  have A10 := A9.istore (Ls' := #[.val (.ref m), .val (.int (1 : Int32)), .val (.ref t), .val (.int sa), .val (.int li), .val (.ref q), .val (.int (1 : Int32)), .unset, .unset]) (pc' := 16) d20_14 rfl rfl
  have A11 := A10.iload (v := (1 : Int32)) (pc' := 18) d20_16 rfl rfl
  have A12 := A11.iload (v := li) (pc' := 20) d20_18 rfl rfl
  have A13 := A12.iloadN (v := sa) (pc' := 21) d20_20 rfl rfl
  have A14 := A13.isub (pc' := 22) d20_21 rfl
  by_cases c15 : 1 < (li - sa).toInt
  · have A16 := A14.icmpNo (pc' := 25) d20_22 (tlt (ilt (x := (1 : Int32)) (y := (li - sa)) rfl rfl c15)).2.1 rfl
    have A17 := A16.aloadN (v := (.ref t)) (pc' := 26) d20_25 rfl rfl rfl
    have A18 := A17.iloadN (v := sa) (pc' := 27) d20_26 rfl rfl
    have A19 := A18.iload (v := (1 : Int32)) (pc' := 29) d20_27 rfl rfl
    have A20 := A19.iadd (pc' := 30) d20_29 rfl
    have A21 := A20.baload (i := (sa.toInt.toNat + 1)) (v := (.int (T (sa.toInt.toNat + 1)))) (pc' := 31) d20_30 e0 (by omega) (by omega) (e1 _) rfl
    have A22 := A21.bipush (z := (34 : Int32)) (pc' := 33) d20_31 rfl rfl
    have A23 := A22.ixor (pc' := 34) d20_33 rfl
    have A24 := A23.goto (pc' := 38) d20_34 (by decide) (by decide)
    have A25 := A24.istore (Ls' := #[.val (.ref m), .val (.int (1 : Int32)), .val (.ref t), .val (.int sa), .val (.int li), .val (.ref q), .val (.int (1 : Int32)), .val (.int ((T (sa.toInt.toNat + 1)) ^^^ (34 : Int32))), .unset]) (pc' := 40) d20_38 rfl rfl
    have A26 := A25.iconst (z := (0 : Int32)) (pc' := 41) d20_40 rfl rfl
    have A27 := A26.istore (Ls' := #[.val (.ref m), .val (.int (1 : Int32)), .val (.ref t), .val (.int sa), .val (.int li), .val (.ref q), .val (.int (1 : Int32)), .val (.int ((T (sa.toInt.toNat + 1)) ^^^ (34 : Int32))), .val (.int (0 : Int32))]) (pc' := 43) d20_41 rfl rfl
    have A28 := A27.iload (v := ((T (sa.toInt.toNat + 1)) ^^^ (34 : Int32))) (pc' := 45) d20_43 rfl rfl
    by_cases c29 : ((T (sa.toInt.toNat + 1)) ^^^ (34 : Int32)).toInt = 0
    · have A30 := A28.ifNo (pc' := 48) d20_45 (teq (ieq (x := ((T (sa.toInt.toNat + 1)) ^^^ (34 : Int32))) (y := (0 : Int32)) rfl rfl c29)).2 rfl
      have A31 := A30.iload (v := (0 : Int32)) (pc' := 50) d20_48 rfl rfl
      have A32 := A31.aload (v := (.ref q)) (pc' := 52) d20_50 rfl rfl rfl
      have A33 := A32.alen (z := (1 : Int32)) (pc' := 53) d20_52 e9 rfl rfl
      have A35 := A33.icmpNo (pc' := 56) d20_53 (tlt (ilt (x := (0 : Int32)) (y := (1 : Int32)) rfl rfl (by decide : (0 : Int) < 1))).2.1 rfl
      have A36 := A35.aloadN (v := (.ref t)) (pc' := 57) d20_56 rfl rfl rfl
      have A37 := A36.iloadN (v := sa) (pc' := 58) d20_57 rfl rfl
      have A38 := A37.iload (v := (0 : Int32)) (pc' := 60) d20_58 rfl rfl
      have A39 := A38.iadd (pc' := 61) d20_60 rfl
      have A40 := A39.baload (i := (sa.toInt.toNat + 0)) (v := (.int (T (sa.toInt.toNat + 0)))) (pc' := 62) d20_61 e0 (by omega) (by omega) (e1 _) rfl
      have A41 := A40.aload (v := (.ref q)) (pc' := 64) d20_62 rfl rfl rfl
      have A42 := A41.iload (v := (0 : Int32)) (pc' := 66) d20_64 rfl rfl
      have A43 := A42.baload (i := 0) (v := (.int u0)) (pc' := 67) d20_66 e9 rfl (by decide) e10 rfl
      have A44 := A43.ixor (pc' := 68) d20_67 rfl
      have A45 := A44.istore (Ls' := #[.val (.ref m), .val (.int (1 : Int32)), .val (.ref t), .val (.int sa), .val (.int li), .val (.ref q), .val (.int (1 : Int32)), .val (.int ((T (sa.toInt.toNat + 0)) ^^^ u0)), .val (.int (0 : Int32))]) (pc' := 70) d20_68 rfl rfl
      have A46 := A45.iinc (v := (0 : Int32)) (z := (1 : Int32)) (Ls' := #[.val (.ref m), .val (.int (1 : Int32)), .val (.ref t), .val (.int sa), .val (.int li), .val (.ref q), .val (.int (1 : Int32)), .val (.int ((T (sa.toInt.toNat + 0)) ^^^ u0)), .val (.int (1 : Int32))]) (pc' := 73) d20_70 rfl (by decide) rfl rfl
      have A47 := A46.goto (pc' := 43) d20_73 (by decide) (by decide)
      have A48 := A47.iload (v := ((T (sa.toInt.toNat + 0)) ^^^ u0)) (pc' := 45) d20_43 rfl rfl
      by_cases c49 : ((T (sa.toInt.toNat + 0)) ^^^ u0).toInt = 0
      · have A50 := A48.ifNo (pc' := 48) d20_45 (teq (ieq (x := ((T (sa.toInt.toNat + 0)) ^^^ u0)) (y := (0 : Int32)) rfl rfl c49)).2 rfl
        have A51 := A50.iload (v := (1 : Int32)) (pc' := 50) d20_48 rfl rfl
        have A52 := A51.aload (v := (.ref q)) (pc' := 52) d20_50 rfl rfl rfl
        have A53 := A52.alen (z := (1 : Int32)) (pc' := 53) d20_52 e9 rfl rfl
        have A55 := A53.icmpYes (pc' := 76) d20_53 (flt (inlt (x := (1 : Int32)) (y := (1 : Int32)) rfl rfl (by decide : ¬ ((1 : Int) < 1)))).2.1 (by decide) (by decide)
        have A56 := A55.iload (v := ((T (sa.toInt.toNat + 0)) ^^^ u0)) (pc' := 78) d20_76 rfl rfl
        by_cases c57 : ((T (sa.toInt.toNat + 0)) ^^^ u0).toInt = 0
        · have A58 := A56.ifNo (pc' := 81) d20_78 (teq (ieq (x := ((T (sa.toInt.toNat + 0)) ^^^ u0)) (y := (0 : Int32)) rfl rfl c57)).2 rfl
          have A59 := A58.iloadN (v := sa) (pc' := 82) d20_81 rfl rfl
          have A60 := A59.iload (v := (1 : Int32)) (pc' := 84) d20_82 rfl rfl
          have A61 := A60.iadd (pc' := 85) d20_84 rfl
          have A62 := A61.iconst (z := (1 : Int32)) (pc' := 86) d20_85 rfl rfl
          have A63 := A62.iadd (pc' := 87) d20_86 rfl
          have A64 := A63.goto (pc' := 91) d20_87 (by decide) (by decide)
          refine A64.retI d20_91 (by decide) (by decide) ⟨_, rfl, ⟨rfl, ?_⟩⟩
          omega
        · have A65 := A56.ifYes (pc' := 90) d20_78 (feq (ine (x := ((T (sa.toInt.toNat + 0)) ^^^ u0)) (y := (0 : Int32)) rfl rfl c57)).2 (by decide) (by decide)
          have A66 := A65.iconst (z := (-1 : Int32)) (pc' := 91) d20_90 rfl rfl
          refine A66.retI d20_91 (by decide) (by decide) ⟨_, rfl, ⟨rfl, ?_⟩⟩
          have elit : (-1 : Int32).toInt = (-1) := rfl
          omega
      · have A67 := A48.ifYes (pc' := 76) d20_45 (feq (ine (x := ((T (sa.toInt.toNat + 0)) ^^^ u0)) (y := (0 : Int32)) rfl rfl c49)).2 (by decide) (by decide)
        have A68 := A67.iload (v := ((T (sa.toInt.toNat + 0)) ^^^ u0)) (pc' := 78) d20_76 rfl rfl
        by_cases c69 : ((T (sa.toInt.toNat + 0)) ^^^ u0).toInt = 0
        · have A70 := A68.ifNo (pc' := 81) d20_78 (teq (ieq (x := ((T (sa.toInt.toNat + 0)) ^^^ u0)) (y := (0 : Int32)) rfl rfl c69)).2 rfl
          have A71 := A70.iloadN (v := sa) (pc' := 82) d20_81 rfl rfl
          have A72 := A71.iload (v := (1 : Int32)) (pc' := 84) d20_82 rfl rfl
          have A73 := A72.iadd (pc' := 85) d20_84 rfl
          have A74 := A73.iconst (z := (1 : Int32)) (pc' := 86) d20_85 rfl rfl
          have A75 := A74.iadd (pc' := 87) d20_86 rfl
          have A76 := A75.goto (pc' := 91) d20_87 (by decide) (by decide)
          refine A76.retI d20_91 (by decide) (by decide) ⟨_, rfl, ⟨rfl, ?_⟩⟩
          omega
        · have A77 := A68.ifYes (pc' := 90) d20_78 (feq (ine (x := ((T (sa.toInt.toNat + 0)) ^^^ u0)) (y := (0 : Int32)) rfl rfl c69)).2 (by decide) (by decide)
          have A78 := A77.iconst (z := (-1 : Int32)) (pc' := 91) d20_90 rfl rfl
          refine A78.retI d20_91 (by decide) (by decide) ⟨_, rfl, ⟨rfl, ?_⟩⟩
          have elit : (-1 : Int32).toInt = (-1) := rfl
          omega
    · have A79 := A28.ifYes (pc' := 76) d20_45 (feq (ine (x := ((T (sa.toInt.toNat + 1)) ^^^ (34 : Int32))) (y := (0 : Int32)) rfl rfl c29)).2 (by decide) (by decide)
      have A80 := A79.iload (v := ((T (sa.toInt.toNat + 1)) ^^^ (34 : Int32))) (pc' := 78) d20_76 rfl rfl
      by_cases c81 : ((T (sa.toInt.toNat + 1)) ^^^ (34 : Int32)).toInt = 0
      · have A82 := A80.ifNo (pc' := 81) d20_78 (teq (ieq (x := ((T (sa.toInt.toNat + 1)) ^^^ (34 : Int32))) (y := (0 : Int32)) rfl rfl c81)).2 rfl
        have A83 := A82.iloadN (v := sa) (pc' := 82) d20_81 rfl rfl
        have A84 := A83.iload (v := (1 : Int32)) (pc' := 84) d20_82 rfl rfl
        have A85 := A84.iadd (pc' := 85) d20_84 rfl
        have A86 := A85.iconst (z := (1 : Int32)) (pc' := 86) d20_85 rfl rfl
        have A87 := A86.iadd (pc' := 87) d20_86 rfl
        have A88 := A87.goto (pc' := 91) d20_87 (by decide) (by decide)
        refine A88.retI d20_91 (by decide) (by decide) ⟨_, rfl, ⟨rfl, ?_⟩⟩
        omega
      · have A89 := A80.ifYes (pc' := 90) d20_78 (feq (ine (x := ((T (sa.toInt.toNat + 1)) ^^^ (34 : Int32))) (y := (0 : Int32)) rfl rfl c81)).2 (by decide) (by decide)
        have A90 := A89.iconst (z := (-1 : Int32)) (pc' := 91) d20_90 rfl rfl
        refine A90.retI d20_91 (by decide) (by decide) ⟨_, rfl, ⟨rfl, ?_⟩⟩
        have elit : (-1 : Int32).toInt = (-1) := rfl
        omega
  · have A91 := A14.icmpYes (pc' := 37) d20_22 (flt (inlt (x := (1 : Int32)) (y := (li - sa)) rfl rfl c15)).2.1 (by decide) (by decide)
    have A92 := A91.iconst (z := (1 : Int32)) (pc' := 38) d20_37 rfl rfl
    have A93 := A92.istore (Ls' := #[.val (.ref m), .val (.int (1 : Int32)), .val (.ref t), .val (.int sa), .val (.int li), .val (.ref q), .val (.int (1 : Int32)), .val (.int (1 : Int32)), .unset]) (pc' := 40) d20_38 rfl rfl
    have A94 := A93.iconst (z := (0 : Int32)) (pc' := 41) d20_40 rfl rfl
    have A95 := A94.istore (Ls' := #[.val (.ref m), .val (.int (1 : Int32)), .val (.ref t), .val (.int sa), .val (.int li), .val (.ref q), .val (.int (1 : Int32)), .val (.int (1 : Int32)), .val (.int (0 : Int32))]) (pc' := 43) d20_41 rfl rfl
    have A96 := A95.iload (v := (1 : Int32)) (pc' := 45) d20_43 rfl rfl
    have A98 := A96.ifYes (pc' := 76) d20_45 (feq (ine (x := (1 : Int32)) (y := (0 : Int32)) rfl rfl (by decide : ¬ ((1 : Int) = 0)))).2 (by decide) (by decide)
    have A99 := A98.iload (v := (1 : Int32)) (pc' := 78) d20_76 rfl rfl
    have A101 := A99.ifYes (pc' := 90) d20_78 (feq (ine (x := (1 : Int32)) (y := (0 : Int32)) rfl rfl (by decide : ¬ ((1 : Int) = 0)))).2 (by decide) (by decide)
    have A102 := A101.iconst (z := (-1 : Int32)) (pc' := 91) d20_90 rfl rfl
    refine A102.retI d20_91 (by decide) (by decide) ⟨_, rfl, ⟨rfl, ?_⟩⟩
    have elit : (-1 : Int32).toInt = (-1) := rfl
    omega
theorem pn0 : plainFor x = true := plainFor_of_name (by first | (simp [plainName, overriddenIn, x]; done) | decide +kernel)
abbrev y0 : MethodName := x
abbrev R0 : Room := room_1
set_option maxRecDepth 65536 in
set_option maxHeartbeats 4000000 in
theorem ef0 (a : Int64) (x : Int64) (z : Int64) (p : Int32)  (mid : MethodId) : entryFrame mid #[(.long a), (.long x), (.long z), (.int p)] maxLocals = mkF mid 0 #[.val (.long a), .second, .val (.long x), .second, .val (.long z), .second, .val (.int p), .unset, .unset, .unset, .unset, .unset, .unset, .unset, .unset, .unset, .unset, .unset, .unset, .unset, .unset, .unset, .unset] [] := by first | (simp [entryFrame, mkF, argsToLocals, Value.category, maxLocals]; done) | rfl
set_option maxRecDepth 65536 in
set_option maxHeartbeats 40000000 in
theorem rm0 (l : Launch) (Z : State) (a0 : Array Value) (hw : ∀ d ∈ tables_1, d.before a0 Z = true) (n0 : Nat) (ws : List Jvm.Cond) (a : Int64) (x : Int64) (z : Int64) (p : Int32) (cs : Int32) (fm : Value) (iso : Addr) (u8 : Addr) (nb : Addr) (h0 : Heap) (hn0 : n0 ≤ h0.size) (e0 : Old Z n0 h0) (e1 : Sta Z Z.heap "java/lang/String" "COMPACT_STRINGS" "Z" (.int cs)) (e2 : cs.toInt ≠ 0) (e3 : Sta Z Z.heap "jdk/internal/util/Preconditions" "SIOOBE_FORMATTER" "Ljava/util/function/BiFunction;" fm) (e4 : fm.isRef = true) (e5 : Sta Z Z.heap "sun/nio/cs/UTF_8" "INSTANCE" "Lsun/nio/cs/UTF_8;" (.ref u8)) (e6 : Sta Z Z.heap "sun/nio/cs/ISO_8859_1" "INSTANCE" "Lsun/nio/cs/ISO_8859_1;" (.ref iso)) (e7 : iso ≠ u8) (e8 : Sta Z Z.heap "java/nio/charset/StandardCharsets" "ISO_8859_1" "Ljava/nio/charset/Charset;" (.ref iso)) (e9 : Sta Z Z.heap "com/example/dialekt/dialekt/json/MemberNames" "NO_BYTES" "[B" (.ref nb)) (e10 : Exa Z Z.heap nb "[B") (e11 : Ars Z Z.heap nb .byte 0 (fun _ => (.int (0 : Int32)))) :
    Ctr l Z n0 y0 code maxLocals ret ws R0 #[(.long a), (.long x), (.long z), (.int p)] h0 (QI fun r h => (True) ∧ (r = 1)) := by
  refine ctr_of pn0 hn0 (ef0 a x z p) fun G A0 => ?_
  have A1 := A0.lloadN (v := a) (pc' := 1) at_0 rfl rfl
  have A2 := A1.ldc2 (z := (255 : Int64)) (pc' := 4) at_1 (hw _ (List.mem_of_getElem? (i := 0) rfl)) rfl
  have A3 := A2.land (pc' := 5) at_4 rfl
  have A4 := A3.l2i (pc' := 6) at_5 rfl
  have A5 := A4.i2c (pc' := 7) at_6 rfl
  have A6 := A5.istore (Ls' := #[.val (.long a), .second, .val (.long x), .second, .val (.long z), .second, .val (.int p), .val (.int (a &&& (255 : Int64)).toInt32.toUInt32.toUInt16.toUInt32.toInt32), .unset, .unset, .unset, .unset, .unset, .unset, .unset, .unset, .unset, .unset, .unset, .unset, .unset, .unset, .unset]) (pc' := 9) at_7 rfl rfl
  obtain ⟨x0, e_x0⟩ : ∃ z : Int32, z = (a &&& (255 : Int64)).toInt32.toUInt32.toUInt16.toUInt32.toInt32 := ⟨_, rfl⟩
  have A7 := A6.cast (Ls' := #[.val (.long a), .second, .val (.long x), .second, .val (.long z), .second, .val (.int p), .val (.int x0), .unset, .unset, .unset, .unset, .unset, .unset, .unset, .unset, .unset, .unset, .unset, .unset, .unset, .unset, .unset]) rfl (by rw [e_x0]) rfl
  have kx0 : 0 ≤ x0.toInt ∧ x0.toInt ≤ 255 := by rw [e_x0]; exact own_c8 _
  have A8 := A7.lloadN (v := a) (pc' := 10) at_9 rfl rfl
  have A9 := A8.bipush (z := (8 : Int32)) (pc' := 12) at_10 rfl rfl
  have A10 := A9.lushr (pc' := 13) at_12 rfl
  have A11 := A10.ldc2 (z := (255 : Int64)) (pc' := 16) at_13 (hw _ (List.mem_of_getElem? (i := 0) rfl)) rfl
  have A12 := A11.land (pc' := 17) at_16 rfl
  have A13 := A12.l2i (pc' := 18) at_17 rfl
  have A14 := A13.i2c (pc' := 19) at_18 rfl
  have A15 := A14.istore (Ls' := #[.val (.long a), .second, .val (.long x), .second, .val (.long z), .second, .val (.int p), .val (.int x0), .val (.int (((a.toUInt64 >>> ((8 : Int32) &&& 0x3f).toInt64.toUInt64).toInt64) &&& (255 : Int64)).toInt32.toUInt32.toUInt16.toUInt32.toInt32), .unset, .unset, .unset, .unset, .unset, .unset, .unset, .unset, .unset, .unset, .unset, .unset, .unset, .unset]) (pc' := 21) at_19 rfl rfl
  obtain ⟨x1, e_x1⟩ : ∃ z : Int32, z = (((a.toUInt64 >>> ((8 : Int32) &&& 0x3f).toInt64.toUInt64).toInt64) &&& (255 : Int64)).toInt32.toUInt32.toUInt16.toUInt32.toInt32 := ⟨_, rfl⟩
  have A16 := A15.cast (Ls' := #[.val (.long a), .second, .val (.long x), .second, .val (.long z), .second, .val (.int p), .val (.int x0), .val (.int x1), .unset, .unset, .unset, .unset, .unset, .unset, .unset, .unset, .unset, .unset, .unset, .unset, .unset, .unset]) rfl (by rw [e_x1]) rfl
  have kx1 : 0 ≤ x1.toInt ∧ x1.toInt ≤ 255 := by rw [e_x1]; exact own_c8 _
  have A17 := A16.lloadN (v := a) (pc' := 22) at_21 rfl rfl
  have A18 := A17.bipush (z := (16 : Int32)) (pc' := 24) at_22 rfl rfl
  have A19 := A18.lushr (pc' := 25) at_24 rfl
  have A20 := A19.ldc2 (z := (255 : Int64)) (pc' := 28) at_25 (hw _ (List.mem_of_getElem? (i := 0) rfl)) rfl
  have A21 := A20.land (pc' := 29) at_28 rfl
  have A22 := A21.l2i (pc' := 30) at_29 rfl
  have A23 := A22.i2c (pc' := 31) at_30 rfl
  have A24 := A23.istore (Ls' := #[.val (.long a), .second, .val (.long x), .second, .val (.long z), .second, .val (.int p), .val (.int x0), .val (.int x1), .val (.int (((a.toUInt64 >>> ((16 : Int32) &&& 0x3f).toInt64.toUInt64).toInt64) &&& (255 : Int64)).toInt32.toUInt32.toUInt16.toUInt32.toInt32), .unset, .unset, .unset, .unset, .unset, .unset, .unset, .unset, .unset, .unset, .unset, .unset, .unset]) (pc' := 33) at_31 rfl rfl
  obtain ⟨x2, e_x2⟩ : ∃ z : Int32, z = (((a.toUInt64 >>> ((16 : Int32) &&& 0x3f).toInt64.toUInt64).toInt64) &&& (255 : Int64)).toInt32.toUInt32.toUInt16.toUInt32.toInt32 := ⟨_, rfl⟩
  have A25 := A24.cast (Ls' := #[.val (.long a), .second, .val (.long x), .second, .val (.long z), .second, .val (.int p), .val (.int x0), .val (.int x1), .val (.int x2), .unset, .unset, .unset, .unset, .unset, .unset, .unset, .unset, .unset, .unset, .unset, .unset, .unset]) rfl (by rw [e_x2]) rfl
  have kx2 : 0 ≤ x2.toInt ∧ x2.toInt ≤ 255 := by rw [e_x2]; exact own_c8 _
  have A26 := A25.lloadN (v := a) (pc' := 34) at_33 rfl rfl
  have A27 := A26.bipush (z := (24 : Int32)) (pc' := 36) at_34 rfl rfl
  have A28 := A27.lushr (pc' := 37) at_36 rfl
  have A29 := A28.ldc2 (z := (255 : Int64)) (pc' := 40) at_37 (hw _ (List.mem_of_getElem? (i := 0) rfl)) rfl
  have A30 := A29.land (pc' := 41) at_40 rfl
  have A31 := A30.l2i (pc' := 42) at_41 rfl
  have A32 := A31.iconst (z := (3 : Int32)) (pc' := 43) at_42 rfl rfl
  have A33 := A32.irem (pc' := 44) at_43 (by decide) rfl
  have A34 := A33.istore (Ls' := #[.val (.long a), .second, .val (.long x), .second, .val (.long z), .second, .val (.int p), .val (.int x0), .val (.int x1), .val (.int x2), .val (.int ((((a.toUInt64 >>> ((24 : Int32) &&& 0x3f).toInt64.toUInt64).toInt64) &&& (255 : Int64)).toInt32 % (3 : Int32))), .unset, .unset, .unset, .unset, .unset, .unset, .unset, .unset, .unset, .unset, .unset, .unset]) (pc' := 46) at_44 rfl rfl
  obtain ⟨ix, e_ix⟩ : ∃ z : Int32, z = ((((a.toUInt64 >>> ((24 : Int32) &&& 0x3f).toInt64.toUInt64).toInt64) &&& (255 : Int64)).toInt32 % (3 : Int32)) := ⟨_, rfl⟩
  have A35 := A34.cast (Ls' := #[.val (.long a), .second, .val (.long x), .second, .val (.long z), .second, .val (.int p), .val (.int x0), .val (.int x1), .val (.int x2), .val (.int ix), .unset, .unset, .unset, .unset, .unset, .unset, .unset, .unset, .unset, .unset, .unset, .unset]) rfl (by rw [e_ix]) rfl
  have kix : 0 ≤ ix.toInt ∧ ix.toInt ≤ 2 := by rw [e_ix]; exact own_i3 _
  have A36 := A35.iload (v := p) (pc' := 48) at_46 rfl rfl
  have A37 := A36.sipush (z := (255 : Int32)) (pc' := 51) at_48 rfl rfl
  have A38 := A37.iand (pc' := 52) at_51 rfl
  have A39 := A38.bipush (z := (7 : Int32)) (pc' := 54) at_52 rfl rfl
  have A40 := A39.irem (pc' := 55) at_54 (by decide) rfl
  have A41 := A40.istore (Ls' := #[.val (.long a), .second, .val (.long x), .second, .val (.long z), .second, .val (.int p), .val (.int x0), .val (.int x1), .val (.int x2), .val (.int ix), .val (.int ((p &&& (255 : Int32)) % (7 : Int32))), .unset, .unset, .unset, .unset, .unset, .unset, .unset, .unset, .unset, .unset, .unset]) (pc' := 57) at_55 rfl rfl
  obtain ⟨sa, e_sa⟩ : ∃ z : Int32, z = ((p &&& (255 : Int32)) % (7 : Int32)) := ⟨_, rfl⟩
  have A42 := A41.cast (Ls' := #[.val (.long a), .second, .val (.long x), .second, .val (.long z), .second, .val (.int p), .val (.int x0), .val (.int x1), .val (.int x2), .val (.int ix), .val (.int sa), .unset, .unset, .unset, .unset, .unset, .unset, .unset, .unset, .unset, .unset, .unset]) rfl (by rw [e_sa]) rfl
  have ksa : 0 ≤ sa.toInt ∧ sa.toInt ≤ 6 := by rw [e_sa]; exact own_i7 _
  have A43 := A42.iload (v := p) (pc' := 59) at_57 rfl rfl
  have A44 := A43.bipush (z := (8 : Int32)) (pc' := 61) at_59 rfl rfl
  have A45 := A44.iushr (pc' := 62) at_61 rfl
  have A46 := A45.sipush (z := (255 : Int32)) (pc' := 65) at_62 rfl rfl
  have A47 := A46.iand (pc' := 66) at_65 rfl
  have A48 := A47.bipush (z := (7 : Int32)) (pc' := 68) at_66 rfl rfl
  have A49 := A48.irem (pc' := 69) at_68 (by decide) rfl
  have A50 := A49.istore (Ls' := #[.val (.long a), .second, .val (.long x), .second, .val (.long z), .second, .val (.int p), .val (.int x0), .val (.int x1), .val (.int x2), .val (.int ix), .val (.int sa), .val (.int ((((p.toUInt32 >>> ((8 : Int32) &&& 31).toUInt32).toInt32) &&& (255 : Int32)) % (7 : Int32))), .unset, .unset, .unset, .unset, .unset, .unset, .unset, .unset, .unset, .unset]) (pc' := 71) at_69 rfl rfl
  obtain ⟨li, e_li⟩ : ∃ z : Int32, z = ((((p.toUInt32 >>> ((8 : Int32) &&& 31).toUInt32).toInt32) &&& (255 : Int32)) % (7 : Int32)) := ⟨_, rfl⟩
  have A51 := A50.cast (Ls' := #[.val (.long a), .second, .val (.long x), .second, .val (.long z), .second, .val (.int p), .val (.int x0), .val (.int x1), .val (.int x2), .val (.int ix), .val (.int sa), .val (.int li), .unset, .unset, .unset, .unset, .unset, .unset, .unset, .unset, .unset, .unset]) rfl (by rw [e_li]) rfl
  have kli : 0 ≤ li.toInt ∧ li.toInt ≤ 6 := by rw [e_li]; exact own_i7 _
  have A52 := A51.bipush (z := (6 : Int32)) (pc' := 73) at_71 rfl rfl
  obtain ⟨h53, b54, eb55, g56, E57, X58, XE60, A59⟩ := A52.newP (z := (6 : Int32)) (N := 6) (cap := 6) (C' := 1) (S' := 6) (pc' := 75) at_73 (hw _ (List.mem_of_getElem? (i := 1) rfl)) rfl (by decide) (by decide) (by decide) (by decide) rfl rfl rfl rfl
  change Exa Z h53 b54 "[B" at XE60
  change Ars Z h53 b54 .byte 6 (fun _ => (.int (0 : Int32))) at X58
  have A61 := A59.astore (Ls' := #[.val (.long a), .second, .val (.long x), .second, .val (.long z), .second, .val (.int p), .val (.int x0), .val (.int x1), .val (.int x2), .val (.int ix), .val (.int sa), .val (.int li), .val (.ref b54), .unset, .unset, .unset, .unset, .unset, .unset, .unset, .unset, .unset]) (pc' := 77) at_75 rfl rfl rfl
  have A62 := A61.aload (v := (.ref b54)) (pc' := 79) at_77 rfl rfl rfl
  have A63 := A62.iconst (z := (0 : Int32)) (pc' := 80) at_79 rfl rfl
  have A64 := A63.lloadN (v := x) (pc' := 81) at_80 rfl rfl
  have A65 := A64.lload (v := z) (pc' := 83) at_81 rfl rfl
  have A66 := A65.iconst (z := (0 : Int32)) (pc' := 84) at_83 rfl rfl
  have A67 := A66.iload (v := x0) (pc' := 86) at_84 rfl rfl
  have A68 := A67.iload (v := x1) (pc' := 88) at_86 rfl rfl
  have A69 := A68.iload (v := x2) (pc' := 90) at_88 rfl rfl
  obtain ⟨r71, _, ⟨rfl, q72⟩, A70⟩ := W.kI (A69.callS (argsL := [(.long x), (.long z), (.int (0 : Int32)), (.int x0), (.int x1), (.int x2)]) (rest := [(.int (0 : Int32)), (.ref b54)]) (C' := 1) (S' := 6) (pc' := 93) at_90 (hw _ (List.mem_of_getElem? (i := 2) rfl)) (hw _ (List.mem_of_getElem? (i := 3) rfl)) (hw _ (List.mem_of_getElem? (i := 4) rfl)) (hw _ (List.mem_of_getElem? (i := 5) rfl)) (rm1 l Z a0 hw n0 [] (x) (z) ((0 : Int32)) (x0) (x1) (x2)  h53 A69.size ) rfl rfl pd_18 rfl rfl (by decide) (by decide) (Nat.le_of_ble_eq_true rfl) (by decide) (by decide) rfl rfl rfl)
  obtain ⟨h74, w75, X76, A77⟩ := A70.bastore (i := 0) (pc' := 94) at_93 X58 rfl (by decide) g56 rfl
  have A78 := A77.aload (v := (.ref b54)) (pc' := 96) at_94 rfl rfl rfl
  have A79 := A78.iconst (z := (1 : Int32)) (pc' := 97) at_96 rfl rfl
  have A80 := A79.lloadN (v := x) (pc' := 98) at_97 rfl rfl
  have A81 := A80.lload (v := z) (pc' := 100) at_98 rfl rfl
  have A82 := A81.iconst (z := (1 : Int32)) (pc' := 101) at_100 rfl rfl
  have A83 := A82.iload (v := x0) (pc' := 103) at_101 rfl rfl
  have A84 := A83.iload (v := x1) (pc' := 105) at_103 rfl rfl
  have A85 := A84.iload (v := x2) (pc' := 107) at_105 rfl rfl
  obtain ⟨r87, _, ⟨rfl, q88⟩, A86⟩ := W.kI (A85.callS (argsL := [(.long x), (.long z), (.int (1 : Int32)), (.int x0), (.int x1), (.int x2)]) (rest := [(.int (1 : Int32)), (.ref b54)]) (C' := 1) (S' := 6) (pc' := 110) at_107 (hw _ (List.mem_of_getElem? (i := 2) rfl)) (hw _ (List.mem_of_getElem? (i := 3) rfl)) (hw _ (List.mem_of_getElem? (i := 4) rfl)) (hw _ (List.mem_of_getElem? (i := 5) rfl)) (rm1 l Z a0 hw n0 [] (x) (z) ((1 : Int32)) (x0) (x1) (x2)  h74 A85.size ) rfl rfl pd_18 rfl rfl (by decide) (by decide) (Nat.le_of_ble_eq_true rfl) (by decide) (by decide) rfl rfl rfl)
  obtain ⟨h90, w91, X92, A93⟩ := A86.bastore (i := 1) (pc' := 111) at_110 X76 rfl (by decide) g56 rfl
  have A94 := A93.aload (v := (.ref b54)) (pc' := 113) at_111 rfl rfl rfl
  have A95 := A94.iconst (z := (2 : Int32)) (pc' := 114) at_113 rfl rfl
  have A96 := A95.lloadN (v := x) (pc' := 115) at_114 rfl rfl
  have A97 := A96.lload (v := z) (pc' := 117) at_115 rfl rfl
  have A98 := A97.iconst (z := (2 : Int32)) (pc' := 118) at_117 rfl rfl
  have A99 := A98.iload (v := x0) (pc' := 120) at_118 rfl rfl
  have A100 := A99.iload (v := x1) (pc' := 122) at_120 rfl rfl
  have A101 := A100.iload (v := x2) (pc' := 124) at_122 rfl rfl
  obtain ⟨r103, _, ⟨rfl, q104⟩, A102⟩ := W.kI (A101.callS (argsL := [(.long x), (.long z), (.int (2 : Int32)), (.int x0), (.int x1), (.int x2)]) (rest := [(.int (2 : Int32)), (.ref b54)]) (C' := 1) (S' := 6) (pc' := 127) at_124 (hw _ (List.mem_of_getElem? (i := 2) rfl)) (hw _ (List.mem_of_getElem? (i := 3) rfl)) (hw _ (List.mem_of_getElem? (i := 4) rfl)) (hw _ (List.mem_of_getElem? (i := 5) rfl)) (rm1 l Z a0 hw n0 [] (x) (z) ((2 : Int32)) (x0) (x1) (x2)  h90 A101.size ) rfl rfl pd_18 rfl rfl (by decide) (by decide) (Nat.le_of_ble_eq_true rfl) (by decide) (by decide) rfl rfl rfl)
  obtain ⟨h106, w107, X108, A109⟩ := A102.bastore (i := 2) (pc' := 128) at_127 X92 rfl (by decide) g56 rfl
  have A110 := A109.aload (v := (.ref b54)) (pc' := 130) at_128 rfl rfl rfl
  have A111 := A110.iconst (z := (3 : Int32)) (pc' := 131) at_130 rfl rfl
  have A112 := A111.lloadN (v := x) (pc' := 132) at_131 rfl rfl
  have A113 := A112.lload (v := z) (pc' := 134) at_132 rfl rfl
  have A114 := A113.iconst (z := (3 : Int32)) (pc' := 135) at_134 rfl rfl
  have A115 := A114.iload (v := x0) (pc' := 137) at_135 rfl rfl
  have A116 := A115.iload (v := x1) (pc' := 139) at_137 rfl rfl
  have A117 := A116.iload (v := x2) (pc' := 141) at_139 rfl rfl
  obtain ⟨r119, _, ⟨rfl, q120⟩, A118⟩ := W.kI (A117.callS (argsL := [(.long x), (.long z), (.int (3 : Int32)), (.int x0), (.int x1), (.int x2)]) (rest := [(.int (3 : Int32)), (.ref b54)]) (C' := 1) (S' := 6) (pc' := 144) at_141 (hw _ (List.mem_of_getElem? (i := 2) rfl)) (hw _ (List.mem_of_getElem? (i := 3) rfl)) (hw _ (List.mem_of_getElem? (i := 4) rfl)) (hw _ (List.mem_of_getElem? (i := 5) rfl)) (rm1 l Z a0 hw n0 [] (x) (z) ((3 : Int32)) (x0) (x1) (x2)  h106 A117.size ) rfl rfl pd_18 rfl rfl (by decide) (by decide) (Nat.le_of_ble_eq_true rfl) (by decide) (by decide) rfl rfl rfl)
  obtain ⟨h122, w123, X124, A125⟩ := A118.bastore (i := 3) (pc' := 145) at_144 X108 rfl (by decide) g56 rfl
  have A126 := A125.aload (v := (.ref b54)) (pc' := 147) at_145 rfl rfl rfl
  have A127 := A126.iconst (z := (4 : Int32)) (pc' := 148) at_147 rfl rfl
  have A128 := A127.lloadN (v := x) (pc' := 149) at_148 rfl rfl
  have A129 := A128.lload (v := z) (pc' := 151) at_149 rfl rfl
  have A130 := A129.iconst (z := (4 : Int32)) (pc' := 152) at_151 rfl rfl
  have A131 := A130.iload (v := x0) (pc' := 154) at_152 rfl rfl
  have A132 := A131.iload (v := x1) (pc' := 156) at_154 rfl rfl
  have A133 := A132.iload (v := x2) (pc' := 158) at_156 rfl rfl
  obtain ⟨r135, _, ⟨rfl, q136⟩, A134⟩ := W.kI (A133.callS (argsL := [(.long x), (.long z), (.int (4 : Int32)), (.int x0), (.int x1), (.int x2)]) (rest := [(.int (4 : Int32)), (.ref b54)]) (C' := 1) (S' := 6) (pc' := 161) at_158 (hw _ (List.mem_of_getElem? (i := 2) rfl)) (hw _ (List.mem_of_getElem? (i := 3) rfl)) (hw _ (List.mem_of_getElem? (i := 4) rfl)) (hw _ (List.mem_of_getElem? (i := 5) rfl)) (rm1 l Z a0 hw n0 [] (x) (z) ((4 : Int32)) (x0) (x1) (x2)  h122 A133.size ) rfl rfl pd_18 rfl rfl (by decide) (by decide) (Nat.le_of_ble_eq_true rfl) (by decide) (by decide) rfl rfl rfl)
  obtain ⟨h138, w139, X140, A141⟩ := A134.bastore (i := 4) (pc' := 162) at_161 X124 rfl (by decide) g56 rfl
  have A142 := A141.aload (v := (.ref b54)) (pc' := 164) at_162 rfl rfl rfl
  have A143 := A142.iconst (z := (5 : Int32)) (pc' := 165) at_164 rfl rfl
  have A144 := A143.lloadN (v := x) (pc' := 166) at_165 rfl rfl
  have A145 := A144.lload (v := z) (pc' := 168) at_166 rfl rfl
  have A146 := A145.iconst (z := (5 : Int32)) (pc' := 169) at_168 rfl rfl
  have A147 := A146.iload (v := x0) (pc' := 171) at_169 rfl rfl
  have A148 := A147.iload (v := x1) (pc' := 173) at_171 rfl rfl
  have A149 := A148.iload (v := x2) (pc' := 175) at_173 rfl rfl
  obtain ⟨r151, _, ⟨rfl, q152⟩, A150⟩ := W.kI (A149.callS (argsL := [(.long x), (.long z), (.int (5 : Int32)), (.int x0), (.int x1), (.int x2)]) (rest := [(.int (5 : Int32)), (.ref b54)]) (C' := 1) (S' := 6) (pc' := 178) at_175 (hw _ (List.mem_of_getElem? (i := 2) rfl)) (hw _ (List.mem_of_getElem? (i := 3) rfl)) (hw _ (List.mem_of_getElem? (i := 4) rfl)) (hw _ (List.mem_of_getElem? (i := 5) rfl)) (rm1 l Z a0 hw n0 [] (x) (z) ((5 : Int32)) (x0) (x1) (x2)  h138 A149.size ) rfl rfl pd_18 rfl rfl (by decide) (by decide) (Nat.le_of_ble_eq_true rfl) (by decide) (by decide) rfl rfl rfl)
  obtain ⟨h154, w155, X156, A157⟩ := A150.bastore (i := 5) (pc' := 179) at_178 X140 rfl (by decide) g56 rfl
  obtain ⟨T, hT⟩ : ∃ T : Nat → Int32, ∀ j, (upd (upd (upd (upd (upd (upd (fun _ => (.int (0 : Int32))) 0 (.int r71.toInt8.toInt32)) 1 (.int r87.toInt8.toInt32)) 2 (.int r103.toInt8.toInt32)) 3 (.int r119.toInt8.toInt32)) 4 (.int r135.toInt8.toInt32)) 5 (.int r151.toInt8.toInt32)) j = .int (T j) := own_u (own_u (own_u (own_u (own_u (own_u ⟨fun _ => 0, fun _ => rfl⟩)))))
  have A158 := A157.iconst (z := (2 : Int32)) (pc' := 180) at_179 rfl rfl
  obtain ⟨h159, b160, eb161, g162, E163, X164, XE166, A165⟩ := A158.newRO (z := (2 : Int32)) (N := 2) (cap := 2) (C' := 2) (S' := 8) (pc' := 183) (ad := "[Ljava/lang/String;") at_180 (hw _ (List.mem_of_getElem? (i := 6) rfl)) (hw _ (List.mem_of_getElem? (i := 7) rfl)) rfl (by decide) (by decide) (by decide) (by decide) rfl rfl rfl (by decide)
  have ne167 : b54 ≠ b160 := Nat.ne_of_lt (Nat.lt_of_lt_of_le X156.lt (Nat.le_of_eq eb161.symm))
  have A168 := A165.astore (Ls' := #[.val (.long a), .second, .val (.long x), .second, .val (.long z), .second, .val (.int p), .val (.int x0), .val (.int x1), .val (.int x2), .val (.int ix), .val (.int sa), .val (.int li), .val (.ref b54), .val (.ref b160), .unset, .unset, .unset, .unset, .unset, .unset, .unset, .unset]) (pc' := 185) at_183 rfl rfl rfl
  have A169 := A168.aload (v := (.ref b160)) (pc' := 187) at_185 rfl rfl rfl
  have A170 := A169.iconst (z := (0 : Int32)) (pc' := 188) at_187 rfl rfl
  obtain ⟨h171, b172, eb173, g174, E175, X176, D177, A178⟩ := A170.newO (C' := 3) (S' := 12) (pc' := 191) at_188 (hw _ (List.mem_of_getElem? (i := 6) rfl)) (hw _ (List.mem_of_getElem? (i := 8) rfl)) (hw _ (List.mem_of_getElem? (i := 9) rfl)) (by decide) (by decide) rfl rfl rfl
  have f179 := (X156.ext E163)
  have ne180 : b54 ≠ b172 := Nat.ne_of_lt (Nat.lt_of_lt_of_le f179.lt (Nat.le_of_eq eb173.symm))
  have ne181 : b160 ≠ b172 := Nat.ne_of_lt (Nat.lt_of_lt_of_le X164.lt (Nat.le_of_eq eb173.symm))
  have f182 : Fld Z h171 b172 "java/lang/String" "coder" "B" (.int (0 : Int32)) := D177 (Or.inr (hw _ (List.mem_of_getElem? (i := 33) rfl))) (ty := .byte) (by decide)
  have f183 : Fld Z h171 b172 "java/lang/String" "value" "[B" .null := D177 (Or.inr (hw _ (List.mem_of_getElem? (i := 35) rfl))) (ty := (.array .byte)) (by decide)
  have A184 := A178.dup (pc' := 192) at_191 rfl rfl
  have A185 := A184.iconst (z := (2 : Int32)) (pc' := 193) at_192 rfl rfl
  obtain ⟨h186, b187, eb188, g189, E190, X191, XE193, A192⟩ := A185.newP (z := (2 : Int32)) (N := 2) (cap := 2) (C' := 4) (S' := 14) (pc' := 195) at_193 (hw _ (List.mem_of_getElem? (i := 10) rfl)) rfl (by decide) (by decide) (by decide) (by decide) rfl rfl rfl rfl
  have f194 := (f179.ext E175)
  have ne195 : b54 ≠ b187 := Nat.ne_of_lt (Nat.lt_of_lt_of_le f194.lt (Nat.le_of_eq eb188.symm))
  have f196 := (X164.ext E175)
  have ne197 : b160 ≠ b187 := Nat.ne_of_lt (Nat.lt_of_lt_of_le f196.lt (Nat.le_of_eq eb188.symm))
  have ne198 : b172 ≠ b187 := Nat.ne_of_lt (Nat.lt_of_lt_of_le X176.lt (Nat.le_of_eq eb188.symm))
  change Exa Z h186 b187 "[C" at XE193
  change Ars Z h186 b187 .char 2 (fun _ => (.int (0 : Int32))) at X191
  have A199 := A192.dup (pc' := 196) at_195 rfl rfl
  have A200 := A199.iconst (z := (0 : Int32)) (pc' := 197) at_196 rfl rfl
  have A201 := A200.iload (v := x0) (pc' := 199) at_197 rfl rfl
  obtain ⟨h202, w203, X204, A205⟩ := A201.castore (i := 0) (pc' := 200) at_199 X191 rfl (by decide) g189 rfl
  have A206 := A205.dup (pc' := 201) at_200 rfl rfl
  have A207 := A206.iconst (z := (1 : Int32)) (pc' := 202) at_201 rfl rfl
  have A208 := A207.iload (v := x1) (pc' := 204) at_202 rfl rfl
  obtain ⟨h209, w210, X211, A212⟩ := A208.castore (i := 1) (pc' := 205) at_204 X204 rfl (by decide) g189 rfl
  have f213 := (((X176.ext E190).wr w203).wr w210)
  have f214 := (((f183.ext E190).other w203 (Or.inl ne198)).other w210 (Or.inl ne198))
  have f215 := (((f182.ext E190).other w203 (Or.inl ne198)).other w210 (Or.inl ne198))
  have f216 := ((((((((((((e0.ext E57).wr w75 g56).wr w91 g56).wr w107 g56).wr w123 g56).wr w139 g56).wr w155 g56).ext E163).ext E175).ext E190).wr w203 g189).wr w210 g189)
  obtain ⟨h220, ⟨b222, K221, g223, z224, f225, f226, f227, f228, q219⟩, A217⟩ := W.kV (A212.callI (a := b172) (argsL := [(.ref b187)]) (rest := [(.ref b172), (.int (0 : Int32)), (.ref b160)]) (C' := 5) (S' := 16) (pc' := 208) at_205 rfl (hw _ (List.mem_of_getElem? (i := 11) rfl)) (hw _ (List.mem_of_getElem? (i := 12) rfl)) (hw _ (List.mem_of_getElem? (i := 9) rfl)) (hw _ (List.mem_of_getElem? (i := 13) rfl)) (rm2 l Z a0 hw n0 [] (b172) (b187) ((upd (upd (fun _ => (.int (0 : Int32))) 0 (.int (nar .char x0))) 1 (.int (nar .char x1)))) (x0) (x1) (_) h209 A212.size X211 (by first | assumption | omega | exact congrArg Value.int (own_nch _ (by omega) (by omega))) (by first | assumption | omega | exact congrArg Value.int (own_nch _ (by omega) (by omega))) (by first | assumption | omega | exact congrArg Value.int (own_nch _ (by omega) (by omega))) (by first | assumption | omega | exact congrArg Value.int (own_nch _ (by omega) (by omega))) f213 g174 f214 f215 ne198 f216 e1 (by first | assumption | omega | exact congrArg Value.int (own_nch _ (by omega) (by omega)))) rfl rfl pd_19 rfl rfl (by decide) (by decide) (Nat.le_of_ble_eq_true rfl) (by decide) (by decide) rfl rfl rfl)
  have f229 := (((f194.ext E190).other w203 ne195).other w210 ne195)
  have ne230 : b54 ≠ b222 := Nat.ne_of_lt (Nat.lt_of_lt_of_le f229.lt z224)
  have f231 := (((f196.ext E190).other w203 ne197).other w210 ne197)
  have ne232 : b160 ≠ b222 := Nat.ne_of_lt (Nat.lt_of_lt_of_le f231.lt z224)
  have ne233 : b172 ≠ b222 := Nat.ne_of_lt (Nat.lt_of_lt_of_le f213.lt z224)
  have ne234 : b187 ≠ b222 := Nat.ne_of_lt (Nat.lt_of_lt_of_le X211.lt z224)
  have f235 := (f231.keep K221 (ninS ne181 nin0))
  have f236 := (((((XE166.ext E175).ext E190).wr w203).wr w210).keep K221)
  have f241 := (f213.keep K221)
  obtain ⟨h237, w238, X239, A240⟩ := A217.aastore (i := 0) (pc' := 209) at_208 rfl f235 (sto_o f235 f236 (hw _ (List.mem_of_getElem? (i := 7) rfl)) rfl (Ins.self f241)) rfl rfl (by decide) g162 rfl
  have A242 := A240.aload (v := (.ref b160)) (pc' := 211) at_209 rfl rfl rfl
  have A243 := A242.iconst (z := (1 : Int32)) (pc' := 212) at_211 rfl rfl
  have A244 := A243.iload (v := x2) (pc' := 214) at_212 rfl rfl
  have f245 := ((f216.keep K221 (allS g174 all0)).wr w238 g162)
  obtain ⟨r247, h249, ⟨b251, K250, g252, z253, g254, z255, f256, f257, f258, f259, f260, q248⟩, A246⟩ := W.kA (A244.callS (argsL := [(.int x2)]) (rest := [(.int (1 : Int32)), (.ref b160)]) (C' := 7) (S' := 21) (pc' := 217) at_214 (hw _ (List.mem_of_getElem? (i := 36) rfl)) (hw _ (List.mem_of_getElem? (i := 37) rfl)) (hw _ (List.mem_of_getElem? (i := 9) rfl)) (hw _ (List.mem_of_getElem? (i := 38) rfl)) (rm8 l Z a0 hw n0 [] (x2) (_) h237 A244.size (by first | assumption | omega) f245 e1 (by first | assumption | omega)) rfl rfl pd_20 rfl rfl (by decide) (by decide) (Nat.le_of_ble_eq_true rfl) (by decide) (by decide) rfl rfl rfl)
  have f261 := ((f229.keep K221 (ninS ne180 nin0)).other w238 ne167)
  have ne262 : b54 ≠ r247 := Nat.ne_of_lt (Nat.lt_of_lt_of_le f261.lt z253)
  have ne263 : b160 ≠ r247 := Nat.ne_of_lt (Nat.lt_of_lt_of_le X239.lt z253)
  have f264 := (f241.wr w238)
  have ne265 : b172 ≠ r247 := Nat.ne_of_lt (Nat.lt_of_lt_of_le f264.lt z253)
  have f266 := ((X211.keep K221 (ninS (Ne.symm ne198) nin0)).other w238 (Ne.symm ne197))
  have ne267 : b187 ≠ r247 := Nat.ne_of_lt (Nat.lt_of_lt_of_le f266.lt z253)
  have f268 := (f227.other w238 (Ne.symm ne232))
  have ne269 : b222 ≠ r247 := Nat.ne_of_lt (Nat.lt_of_lt_of_le f268.lt z253)
  have ne270 : b54 ≠ b251 := Nat.ne_of_lt (Nat.lt_of_lt_of_le f261.lt z255)
  have ne271 : b160 ≠ b251 := Nat.ne_of_lt (Nat.lt_of_lt_of_le X239.lt z255)
  have ne272 : b172 ≠ b251 := Nat.ne_of_lt (Nat.lt_of_lt_of_le f264.lt z255)
  have ne273 : b187 ≠ b251 := Nat.ne_of_lt (Nat.lt_of_lt_of_le f266.lt z255)
  have ne274 : b222 ≠ b251 := Nat.ne_of_lt (Nat.lt_of_lt_of_le f268.lt z255)
  have f275 := (X239.keep K250 nin0)
  have f276 := ((f236.wr w238).keep K250)
  obtain ⟨h277, w278, X279, A280⟩ := A246.aastore (i := 1) (pc' := 218) at_217 rfl f275 (sto_o f275 f276 (hw _ (List.mem_of_getElem? (i := 7) rfl)) rfl (Ins.self f256)) rfl rfl (by decide) g162 rfl
  by_cases p2 : 32 ≤ x2.toInt ∧ x2.toInt < 128 ∧ ¬ (x2.toInt = 34) ∧ ¬ (x2.toInt = 92)
  · by_cases p0 : 32 ≤ x0.toInt ∧ x0.toInt < 128 ∧ ¬ (x0.toInt = 34) ∧ ¬ (x0.toInt = 92)
    · by_cases p1 : 32 ≤ x1.toInt ∧ x1.toInt < 128 ∧ ¬ (x1.toInt = 34) ∧ ¬ (x1.toInt = 92)
      · have kp : (32 ≤ x0.toInt ∧ x0.toInt < 128 ∧ ¬ (x0.toInt = 34) ∧ ¬ (x0.toInt = 92)) ∧ (32 ≤ x1.toInt ∧ x1.toInt < 128 ∧ ¬ (x1.toInt = 34) ∧ ¬ (x1.toInt = 92)) := ⟨p0, p1⟩
        obtain ⟨h281, b282, eb283, g284, E285, X286, D287, A288⟩ := A280.newO (C' := 8) (S' := 25) (pc' := 221) at_218 (hw _ (List.mem_of_getElem? (i := 50) rfl)) (hw _ (List.mem_of_getElem? (i := 51) rfl)) (hw _ (List.mem_of_getElem? (i := 52) rfl)) (by decide) (by decide) rfl rfl rfl
        have f289 := ((f261.keep K250 nin0).other w278 ne167)
        have ne290 : b54 ≠ b282 := Nat.ne_of_lt (Nat.lt_of_lt_of_le f289.lt (Nat.le_of_eq eb283.symm))
        have ne291 : b160 ≠ b282 := Nat.ne_of_lt (Nat.lt_of_lt_of_le X279.lt (Nat.le_of_eq eb283.symm))
        have f292 := ((f264.keep K250).wr w278)
        have ne293 : b172 ≠ b282 := Nat.ne_of_lt (Nat.lt_of_lt_of_le f292.lt (Nat.le_of_eq eb283.symm))
        have f294 := ((f266.keep K250 nin0).other w278 (Ne.symm ne197))
        have ne295 : b187 ≠ b282 := Nat.ne_of_lt (Nat.lt_of_lt_of_le f294.lt (Nat.le_of_eq eb283.symm))
        have f296 := ((f268.keep K250 nin0).other w278 (Ne.symm ne232))
        have ne297 : b222 ≠ b282 := Nat.ne_of_lt (Nat.lt_of_lt_of_le f296.lt (Nat.le_of_eq eb283.symm))
        have f298 := (f256.wr w278)
        have ne299 : r247 ≠ b282 := Nat.ne_of_lt (Nat.lt_of_lt_of_le f298.lt (Nat.le_of_eq eb283.symm))
        have f300 := (f259.other w278 (Ne.symm ne271))
        have ne301 : b251 ≠ b282 := Nat.ne_of_lt (Nat.lt_of_lt_of_le f300.lt (Nat.le_of_eq eb283.symm))
        have f302 : Fld Z h281 b282 "com/example/dialekt/dialekt/json/MemberNames" "names" "[Ljava/lang/String;" .null := D287 (Or.inr (hw _ (List.mem_of_getElem? (i := 58) rfl))) (ty := (.array (.object "java/lang/String"))) (by decide)
        have f303 : Fld Z h281 b282 "com/example/dialekt/dialekt/json/MemberNames" "plain" "[[B" .null := D287 (Or.inr (hw _ (List.mem_of_getElem? (i := 62) rfl))) (ty := (.array (.array .byte))) (by decide)
        have f304 : Fld Z h281 b282 "com/example/dialekt/dialekt/json/MemberNames" "plainLengths" "[I" .null := D287 (Or.inr (hw _ (List.mem_of_getElem? (i := 65) rfl))) (ty := (.array .int)) (by decide)
        have A305 := A288.dup (pc' := 222) at_221 rfl rfl
        have A306 := A305.aload (v := (.ref b160)) (pc' := 224) at_222 rfl rfl rfl
        have f307 := (X279.ext E285)
        have f308 := (f292.ext E285)
        have f309 := ((((f226.other w238 (Or.inl (Ne.symm ne181))).keep K250 nin0).other w278 (Or.inl (Ne.symm ne181))).ext E285)
        have f310 := ((((f225.other w238 (Or.inl (Ne.symm ne181))).keep K250 nin0).other w278 (Or.inl (Ne.symm ne181))).ext E285)
        have f311 := (f296.ext E285)
        have f312 := ((((f228.wr w238).keep K250).wr w278).ext E285)
        have f313 := (f298.ext E285)
        have f314 := ((f258.other w278 (Or.inl (Ne.symm ne263))).ext E285)
        have f315 := ((f257.other w278 (Or.inl (Ne.symm ne263))).ext E285)
        have f316 := (f300.ext E285)
        have f317 := ((f260.wr w278).ext E285)
        have f318 := (((f245.keep K250 all0).wr w278 g162).ext E285)
        obtain ⟨h322, ⟨b324, b325, b326, b327, K323, g328, z329, g330, z331, g332, z333, g334, z335, f336, f337, f338, f339, f340, f341, q321⟩, A319⟩ := W.kV (A306.callI (a := b282) (argsL := [(.ref b160)]) (rest := [(.ref b282)]) (C' := 12) (S' := 34) (pc' := 227) at_224 rfl (hw _ (List.mem_of_getElem? (i := 53) rfl)) (hw _ (List.mem_of_getElem? (i := 54) rfl)) (hw _ (List.mem_of_getElem? (i := 52) rfl)) (hw _ (List.mem_of_getElem? (i := 55) rfl)) (rm12_PP l Z a0 hw n0 [] (b282) (b160) (b172) (r247) (b222) (b251) (iso) (u8) (nb) (x0) (x1) (x2) (_) (_) h281 A306.size X286 g284 f302 f303 f304 f307 f308 f309 f310 f311 f312 f313 f314 f315 f316 f317 ne291 ne293 ne297 ne299 ne301 (by assumption) (by assumption) (by assumption) f318 e1 (by assumption) e3 (by assumption) e5 e6 e7 e8 e9 e10 e11 (by assumption) (by assumption)) rfl rfl pd_21 rfl rfl (by decide) (by decide) (Nat.le_of_ble_eq_true rfl) (by decide) (by decide) rfl rfl rfl)
        have f342 := (f289.ext E285)
        have ne343 : b54 ≠ b324 := Nat.ne_of_lt (Nat.lt_of_lt_of_le f342.lt z329)
        have ne344 : b160 ≠ b324 := Nat.ne_of_lt (Nat.lt_of_lt_of_le f307.lt z329)
        have ne345 : b172 ≠ b324 := Nat.ne_of_lt (Nat.lt_of_lt_of_le f308.lt z329)
        have f346 := (f294.ext E285)
        have ne347 : b187 ≠ b324 := Nat.ne_of_lt (Nat.lt_of_lt_of_le f346.lt z329)
        have ne348 : b222 ≠ b324 := Nat.ne_of_lt (Nat.lt_of_lt_of_le f311.lt z329)
        have ne349 : r247 ≠ b324 := Nat.ne_of_lt (Nat.lt_of_lt_of_le f313.lt z329)
        have ne350 : b251 ≠ b324 := Nat.ne_of_lt (Nat.lt_of_lt_of_le f316.lt z329)
        have ne351 : b282 ≠ b324 := Nat.ne_of_lt (Nat.lt_of_lt_of_le X286.lt z329)
        have ne352 : b54 ≠ b325 := Nat.ne_of_lt (Nat.lt_of_lt_of_le f342.lt z331)
        have ne353 : b160 ≠ b325 := Nat.ne_of_lt (Nat.lt_of_lt_of_le f307.lt z331)
        have ne354 : b172 ≠ b325 := Nat.ne_of_lt (Nat.lt_of_lt_of_le f308.lt z331)
        have ne355 : b187 ≠ b325 := Nat.ne_of_lt (Nat.lt_of_lt_of_le f346.lt z331)
        have ne356 : b222 ≠ b325 := Nat.ne_of_lt (Nat.lt_of_lt_of_le f311.lt z331)
        have ne357 : r247 ≠ b325 := Nat.ne_of_lt (Nat.lt_of_lt_of_le f313.lt z331)
        have ne358 : b251 ≠ b325 := Nat.ne_of_lt (Nat.lt_of_lt_of_le f316.lt z331)
        have ne359 : b282 ≠ b325 := Nat.ne_of_lt (Nat.lt_of_lt_of_le X286.lt z331)
        have ne360 : b54 ≠ b326 := Nat.ne_of_lt (Nat.lt_of_lt_of_le f342.lt z333)
        have ne361 : b160 ≠ b326 := Nat.ne_of_lt (Nat.lt_of_lt_of_le f307.lt z333)
        have ne362 : b172 ≠ b326 := Nat.ne_of_lt (Nat.lt_of_lt_of_le f308.lt z333)
        have ne363 : b187 ≠ b326 := Nat.ne_of_lt (Nat.lt_of_lt_of_le f346.lt z333)
        have ne364 : b222 ≠ b326 := Nat.ne_of_lt (Nat.lt_of_lt_of_le f311.lt z333)
        have ne365 : r247 ≠ b326 := Nat.ne_of_lt (Nat.lt_of_lt_of_le f313.lt z333)
        have ne366 : b251 ≠ b326 := Nat.ne_of_lt (Nat.lt_of_lt_of_le f316.lt z333)
        have ne367 : b282 ≠ b326 := Nat.ne_of_lt (Nat.lt_of_lt_of_le X286.lt z333)
        have ne368 : b54 ≠ b327 := Nat.ne_of_lt (Nat.lt_of_lt_of_le f342.lt z335)
        have ne369 : b160 ≠ b327 := Nat.ne_of_lt (Nat.lt_of_lt_of_le f307.lt z335)
        have ne370 : b172 ≠ b327 := Nat.ne_of_lt (Nat.lt_of_lt_of_le f308.lt z335)
        have ne371 : b187 ≠ b327 := Nat.ne_of_lt (Nat.lt_of_lt_of_le f346.lt z335)
        have ne372 : b222 ≠ b327 := Nat.ne_of_lt (Nat.lt_of_lt_of_le f311.lt z335)
        have ne373 : r247 ≠ b327 := Nat.ne_of_lt (Nat.lt_of_lt_of_le f313.lt z335)
        have ne374 : b251 ≠ b327 := Nat.ne_of_lt (Nat.lt_of_lt_of_le f316.lt z335)
        have ne375 : b282 ≠ b327 := Nat.ne_of_lt (Nat.lt_of_lt_of_le X286.lt z335)
        have A376 := A319.astore (Ls' := #[.val (.long a), .second, .val (.long x), .second, .val (.long z), .second, .val (.int p), .val (.int x0), .val (.int x1), .val (.int x2), .val (.int ix), .val (.int sa), .val (.int li), .val (.ref b54), .val (.ref b160), .val (.ref b282), .unset, .unset, .unset, .unset, .unset, .unset, .unset]) (pc' := 229) at_227 rfl rfl rfl
        obtain hi | hi | hi := own_three ix kix
        · have A377 := A376.cast (Ls' := #[.val (.long a), .second, .val (.long x), .second, .val (.long z), .second, .val (.int p), .val (.int x0), .val (.int x1), .val (.int x2), .val (.int (0 : Int32)), .val (.int sa), .val (.int li), .val (.ref b54), .val (.ref b160), .val (.ref b282), .unset, .unset, .unset, .unset, .unset, .unset, .unset]) rfl (by rw [hi]) rfl
          have A378 := A377.aload (v := (.ref b282)) (pc' := 231) at_229 rfl rfl rfl
          have A379 := A378.iload (v := (0 : Int32)) (pc' := 233) at_231 rfl rfl
          have A380 := A379.aload (v := (.ref b54)) (pc' := 235) at_233 rfl rfl rfl
          have A381 := A380.iload (v := sa) (pc' := 237) at_235 rfl rfl
          have A382 := A381.iload (v := li) (pc' := 239) at_237 rfl rfl
          have f383 := (f342.keep K323 (ninS ne290 nin0))
          have f386 := (X286.keep K323)
          obtain ⟨r385, _, ⟨rfl, q387⟩, A384⟩ := W.kI (A382.callV (a := b282) (argsL := [(.int (0 : Int32)), (.ref b54), (.int sa), (.int li)]) (rest := []) (C' := 12) (S' := 34) (pc' := 242) at_239 f386 (hw _ (List.mem_of_getElem? (i := 101) rfl)) (hw _ (List.mem_of_getElem? (i := 102) rfl)) (fun hZ => notFace_of_selects (args := #[]) (mvT hZ (hw _ (List.mem_of_getElem? (i := 104) rfl)))) (hw _ (List.mem_of_getElem? (i := 104) rfl)) (hw _ (List.mem_of_getElem? (i := 103) rfl)) (hw _ (List.mem_of_getElem? (i := 52) rfl)) (hw _ (List.mem_of_getElem? (i := 105) rfl)) (rm20_P0 l Z a0 hw n0 [] (b282) (b54) (sa) (li) (b324) (b325) (b326) ((upd (upd (upd (fun _ => .null) 0 (.ref b326)) 1 (.ref b327)) 2 (.ref nb))) ((upd (upd (upd (fun _ => (.int (0 : Int32))) 0 (.int (2 : Int32))) 1 (.int (1 : Int32))) 2 (.int (2147483647 : Int32)))) ((upd (upd (fun _ => (.int (0 : Int32))) 0 (.int x0.toInt8.toInt32.toInt8.toInt32)) 1 (.int x1.toInt8.toInt32.toInt8.toInt32))) ((upd (upd (upd (upd (upd (upd (fun _ => (.int (0 : Int32))) 0 (.int r71.toInt8.toInt32)) 1 (.int r87.toInt8.toInt32)) 2 (.int r103.toInt8.toInt32)) 3 (.int r119.toInt8.toInt32)) 4 (.int r135.toInt8.toInt32)) 5 (.int r151.toInt8.toInt32))) (T) (x0.toInt8.toInt32) (x1.toInt8.toInt32) h322 A382.size f383 (by exact hT) (by exact ⟨ksa.1, ksa.2, kli.1, kli.2⟩) f336 f337 f338 f339 (by rfl) (by rfl) f340 (by exact congrArg Value.int (own_bb _)) (by exact congrArg Value.int (own_bb _))) rfl rfl pd_22 rfl rfl (by decide) (by decide) (Nat.le_of_ble_eq_true rfl) (by decide) (by decide) rfl rfl rfl)
          have hE := own_hid q387
          clear q387
          have A389 := A384.istore (Ls' := #[.val (.long a), .second, .val (.long x), .second, .val (.long z), .second, .val (.int p), .val (.int x0), .val (.int x1), .val (.int x2), .val (.int (0 : Int32)), .val (.int sa), .val (.int li), .val (.ref b54), .val (.ref b160), .val (.ref b282), .val (.int r385), .unset, .unset, .unset, .unset, .unset, .unset]) (pc' := 244) at_242 rfl rfl
          clear e7 ne167 ne180 ne181 ne195 ne197 ne198 ne230 ne232 ne233 ne234 ne262 ne263 ne265 ne267 ne269 ne270 ne271 ne272 ne273 ne274 ne290 ne291 ne293 ne295 ne297 ne299 ne301 ne343 ne344 ne345 ne347 ne348 ne349 ne350 ne351 ne352 ne353 ne354 ne355 ne356 ne357 ne358 ne359 ne360 ne361 ne362 ne363 ne364 ne365 ne366 ne367 ne368 ne369 ne370 ne371 ne372 ne373 ne374 ne375
          have a0_ := addc32 sa (0 : Int32) 0 rfl (by omega) (by omega)
          have a1_ := addc32 sa (1 : Int32) 1 rfl (by omega) (by omega)
          have a2_ := addc32 sa (2 : Int32) 2 rfl (by omega) (by omega)
          have z1_ := addc32 (sa + (1 : Int32)) (1 : Int32) 1 rfl (by omega) (by omega)
          have z2_ := addc32 (sa + (2 : Int32)) (1 : Int32) 1 rfl (by omega) (by omega)
          have A390 := A389.iload (v := (0 : Int32)) (pc' := 246) at_244 rfl rfl
          have A392 := A390.ifNo (pc' := 249) at_246 (teq (ieq (x := (0 : Int32)) (y := (0 : Int32)) rfl rfl (by decide : (0 : Int) = 0))).2 rfl
          have A393 := A392.iload (v := x0) (pc' := 251) at_249 rfl rfl
          obtain ⟨r395, _, ⟨rfl, q396⟩, A394⟩ := W.kI (A393.callS (argsL := [(.int x0)]) (rest := []) (C' := 12) (S' := 34) (pc' := 254) at_251 (hw _ (List.mem_of_getElem? (i := 106) rfl)) (hw _ (List.mem_of_getElem? (i := 107) rfl)) (hw _ (List.mem_of_getElem? (i := 4) rfl)) (hw _ (List.mem_of_getElem? (i := 108) rfl)) (rm21 l Z a0 hw n0 [] (x0)  h322 A393.size ) rfl rfl pd_4 rfl rfl (by decide) (by decide) (Nat.le_of_ble_eq_true rfl) (by decide) (by decide) rfl rfl rfl)
          by_cases c398 : r395.toInt = 0
          · exfalso
            omega
          · have A400 := A394.ifNo (pc' := 257) at_254 (feq (ine (x := r395) (y := (0 : Int32)) rfl rfl c398)).1 rfl
            have A401 := A400.iload (v := x1) (pc' := 259) at_257 rfl rfl
            obtain ⟨r403, _, ⟨rfl, q404⟩, A402⟩ := W.kI (A401.callS (argsL := [(.int x1)]) (rest := []) (C' := 12) (S' := 34) (pc' := 262) at_259 (hw _ (List.mem_of_getElem? (i := 106) rfl)) (hw _ (List.mem_of_getElem? (i := 107) rfl)) (hw _ (List.mem_of_getElem? (i := 4) rfl)) (hw _ (List.mem_of_getElem? (i := 108) rfl)) (rm21 l Z a0 hw n0 [] (x1)  h322 A401.size ) rfl rfl pd_4 rfl rfl (by decide) (by decide) (Nat.le_of_ble_eq_true rfl) (by decide) (by decide) rfl rfl rfl)
            by_cases c406 : r403.toInt = 0
            · exfalso
              omega
            · have A408 := A402.ifNo (pc' := 265) at_262 (feq (ine (x := r403) (y := (0 : Int32)) rfl rfl c406)).1 rfl
              have A409 := A408.iconst (z := (1 : Int32)) (pc' := 266) at_265 rfl rfl
              have A410 := A409.goto (pc' := 270) at_266 (by decide) (by decide)
              have A411 := A410.istore (Ls' := #[.val (.long a), .second, .val (.long x), .second, .val (.long z), .second, .val (.int p), .val (.int x0), .val (.int x1), .val (.int x2), .val (.int (0 : Int32)), .val (.int sa), .val (.int li), .val (.ref b54), .val (.ref b160), .val (.ref b282), .val (.int r385), .val (.int (1 : Int32)), .unset, .unset, .unset, .unset, .unset]) (pc' := 272) at_270 rfl rfl
              have A412 := A411.iconst (z := (2 : Int32)) (pc' := 273) at_272 rfl rfl
              have A413 := A412.istore (Ls' := #[.val (.long a), .second, .val (.long x), .second, .val (.long z), .second, .val (.int p), .val (.int x0), .val (.int x1), .val (.int x2), .val (.int (0 : Int32)), .val (.int sa), .val (.int li), .val (.ref b54), .val (.ref b160), .val (.ref b282), .val (.int r385), .val (.int (1 : Int32)), .val (.int (2 : Int32)), .unset, .unset, .unset, .unset]) (pc' := 275) at_273 rfl rfl
              have A414 := A413.iload (v := x0) (pc' := 277) at_275 rfl rfl
              have A415 := A414.istore (Ls' := #[.val (.long a), .second, .val (.long x), .second, .val (.long z), .second, .val (.int p), .val (.int x0), .val (.int x1), .val (.int x2), .val (.int (0 : Int32)), .val (.int sa), .val (.int li), .val (.ref b54), .val (.ref b160), .val (.ref b282), .val (.int r385), .val (.int (1 : Int32)), .val (.int (2 : Int32)), .val (.int x0), .unset, .unset, .unset]) (pc' := 279) at_277 rfl rfl
              have A416 := A415.iload (v := x1) (pc' := 281) at_279 rfl rfl
              have A417 := A416.istore (Ls' := #[.val (.long a), .second, .val (.long x), .second, .val (.long z), .second, .val (.int p), .val (.int x0), .val (.int x1), .val (.int x2), .val (.int (0 : Int32)), .val (.int sa), .val (.int li), .val (.ref b54), .val (.ref b160), .val (.ref b282), .val (.int r385), .val (.int (1 : Int32)), .val (.int (2 : Int32)), .val (.int x0), .val (.int x1), .unset, .unset]) (pc' := 283) at_281 rfl rfl
              have A418 := A417.goto (pc' := 325) at_283 (by decide) (by decide)
              have A419 := A418.iload (v := (1 : Int32)) (pc' := 327) at_325 rfl rfl
              have A421 := A419.ifNo (pc' := 330) at_327 (feq (ine (x := (1 : Int32)) (y := (0 : Int32)) rfl rfl (by decide : ¬ ((1 : Int) = 0)))).1 rfl
              clear q396 q404 kp p0 p2 p1
              have A422 := A421.iload (v := sa) (pc' := 332) at_330 rfl rfl
              have A423 := A422.iload (v := (2 : Int32)) (pc' := 334) at_332 rfl rfl
              have A424 := A423.iadd (pc' := 335) at_334 rfl
              have A425 := A424.iload (v := li) (pc' := 337) at_335 rfl rfl
              by_cases c426 : (sa + (2 : Int32)).toInt < li.toInt
              · have A427 := A425.icmpNo (pc' := 340) at_337 (tlt (ilt (x := (sa + (2 : Int32))) (y := li) rfl rfl c426)).2.1 rfl
                have A428 := A427.aload (v := (.ref b54)) (pc' := 342) at_340 rfl rfl rfl
                have A429 := A428.iload (v := sa) (pc' := 344) at_342 rfl rfl
                have A430 := A429.baload (i := (sa.toInt.toNat + 0)) (v := (.int (T (sa.toInt.toNat + 0)))) (pc' := 345) at_344 f383 (by omega) (by omega) (hT _) rfl
                have A431 := A430.iload (v := x0) (pc' := 347) at_345 rfl rfl
                have A432 := A431.i2b (pc' := 348) at_347 rfl
                by_cases c433 : (T (sa.toInt.toNat + 0)).toInt = x0.toInt8.toInt32.toInt
                · have A434 := A432.icmpNo (pc' := 351) at_348 (teq (ieq (x := (T (sa.toInt.toNat + 0))) (y := x0.toInt8.toInt32) rfl rfl c433)).2 rfl
                  have A435 := A434.iload (v := (2 : Int32)) (pc' := 353) at_351 rfl rfl
                  have A436 := A435.iconst (z := (2 : Int32)) (pc' := 354) at_353 rfl rfl
                  have A438 := A436.icmpNo (pc' := 357) at_354 (flt (inlt (x := (2 : Int32)) (y := (2 : Int32)) rfl rfl (by decide : ¬ ((2 : Int) < 2)))).1 rfl
                  have A439 := A438.aload (v := (.ref b54)) (pc' := 359) at_357 rfl rfl rfl
                  have A440 := A439.iload (v := sa) (pc' := 361) at_359 rfl rfl
                  have A441 := A440.iconst (z := (1 : Int32)) (pc' := 362) at_361 rfl rfl
                  have A442 := A441.iadd (pc' := 363) at_362 rfl
                  have A443 := A442.baload (i := (sa.toInt.toNat + 1)) (v := (.int (T (sa.toInt.toNat + 1)))) (pc' := 364) at_363 f383 (by omega) (by omega) (hT _) rfl
                  have A444 := A443.iload (v := x1) (pc' := 366) at_364 rfl rfl
                  have A445 := A444.i2b (pc' := 367) at_366 rfl
                  by_cases c446 : (T (sa.toInt.toNat + 1)).toInt = x1.toInt8.toInt32.toInt
                  · have A447 := A445.icmpNo (pc' := 370) at_367 (teq (ieq (x := (T (sa.toInt.toNat + 1))) (y := x1.toInt8.toInt32) rfl rfl c446)).2 rfl
                    have A448 := A447.aload (v := (.ref b54)) (pc' := 372) at_370 rfl rfl rfl
                    have A449 := A448.iload (v := sa) (pc' := 374) at_372 rfl rfl
                    have A450 := A449.iload (v := (2 : Int32)) (pc' := 376) at_374 rfl rfl
                    have A451 := A450.iadd (pc' := 377) at_376 rfl
                    have A452 := A451.baload (i := (sa.toInt.toNat + 2)) (v := (.int (T (sa.toInt.toNat + 2)))) (pc' := 378) at_377 f383 (by omega) (by omega) (hT _) rfl
                    have A453 := A452.bipush (z := (34 : Int32)) (pc' := 380) at_378 rfl rfl
                    by_cases c454 : (T (sa.toInt.toNat + 2)).toInt = 34
                    · have A455 := A453.icmpNo (pc' := 383) at_380 (teq (ieq (x := (T (sa.toInt.toNat + 2))) (y := (34 : Int32)) rfl rfl c454)).2 rfl
                      have A456 := A455.iconst (z := (1 : Int32)) (pc' := 384) at_383 rfl rfl
                      have A457 := A456.goto (pc' := 388) at_384 (by decide) (by decide)
                      have A458 := A457.istore (Ls' := #[.val (.long a), .second, .val (.long x), .second, .val (.long z), .second, .val (.int p), .val (.int x0), .val (.int x1), .val (.int x2), .val (.int (0 : Int32)), .val (.int sa), .val (.int li), .val (.ref b54), .val (.ref b160), .val (.ref b282), .val (.int r385), .val (.int (1 : Int32)), .val (.int (2 : Int32)), .val (.int x0), .val (.int x1), .val (.int (1 : Int32)), .unset]) (pc' := 390) at_388 rfl rfl
                      have A459 := A458.iload (v := (1 : Int32)) (pc' := 392) at_390 rfl rfl
                      have A461 := A459.ifNo (pc' := 395) at_392 (feq (ine (x := (1 : Int32)) (y := (0 : Int32)) rfl rfl (by decide : ¬ ((1 : Int) = 0)))).1 rfl
                      have A462 := A461.iload (v := sa) (pc' := 397) at_395 rfl rfl
                      have A463 := A462.iload (v := (2 : Int32)) (pc' := 399) at_397 rfl rfl
                      have A464 := A463.iadd (pc' := 400) at_399 rfl
                      have A465 := A464.iconst (z := (1 : Int32)) (pc' := 401) at_400 rfl rfl
                      have A466 := A465.iadd (pc' := 402) at_401 rfl
                      have A467 := A466.goto (pc' := 406) at_402 (by decide) (by decide)
                      have A468 := A467.istore (Ls' := #[.val (.long a), .second, .val (.long x), .second, .val (.long z), .second, .val (.int p), .val (.int x0), .val (.int x1), .val (.int x2), .val (.int (0 : Int32)), .val (.int sa), .val (.int li), .val (.ref b54), .val (.ref b160), .val (.ref b282), .val (.int r385), .val (.int (1 : Int32)), .val (.int (2 : Int32)), .val (.int x0), .val (.int x1), .val (.int (1 : Int32)), .val (.int ((sa + (2 : Int32)) + (1 : Int32)))]) (pc' := 408) at_406 rfl rfl
                      have A469 := A468.iload (v := r385) (pc' := 410) at_408 rfl rfl
                      have A470 := A469.iload (v := ((sa + (2 : Int32)) + (1 : Int32))) (pc' := 412) at_410 rfl rfl
                      by_cases c471 : r385.toInt = ((sa + (2 : Int32)) + (1 : Int32)).toInt
                      · have A472 := A470.icmpNo (pc' := 415) at_412 (teq (ieq (x := r385) (y := ((sa + (2 : Int32)) + (1 : Int32))) rfl rfl c471)).2 rfl
                        have A473 := A472.iconst (z := (1 : Int32)) (pc' := 416) at_415 rfl rfl
                        have A474 := A473.goto (pc' := 420) at_416 (by decide) (by decide)
                        refine A474.retN (t := .boolean) (z' := (1 : Int32)) at_420 (by decide) (by decide) (by simp) rfl ⟨_, rfl, ⟨trivial, ?_⟩⟩
                        have elit : (1 : Int32).toInt = 1 := rfl
                        rfl
                      · have A475 := A470.icmpYes (pc' := 419) at_412 (feq (ine (x := r385) (y := ((sa + (2 : Int32)) + (1 : Int32))) rfl rfl c471)).2 (by decide) (by decide)
                        have A476 := A475.iconst (z := (0 : Int32)) (pc' := 420) at_419 rfl rfl
                        refine A476.retN (t := .boolean) (z' := (0 : Int32)) at_420 (by decide) (by decide) (by simp) rfl ⟨_, rfl, ⟨trivial, ?_⟩⟩
                        have elit : (0 : Int32).toInt = 0 := rfl
                        exfalso
                        unfold Hid at hE
                        omega
                    · have A477 := A453.icmpYes (pc' := 387) at_380 (feq (ine (x := (T (sa.toInt.toNat + 2))) (y := (34 : Int32)) rfl rfl c454)).2 (by decide) (by decide)
                      have A478 := A477.iconst (z := (0 : Int32)) (pc' := 388) at_387 rfl rfl
                      have A479 := A478.istore (Ls' := #[.val (.long a), .second, .val (.long x), .second, .val (.long z), .second, .val (.int p), .val (.int x0), .val (.int x1), .val (.int x2), .val (.int (0 : Int32)), .val (.int sa), .val (.int li), .val (.ref b54), .val (.ref b160), .val (.ref b282), .val (.int r385), .val (.int (1 : Int32)), .val (.int (2 : Int32)), .val (.int x0), .val (.int x1), .val (.int (0 : Int32)), .unset]) (pc' := 390) at_388 rfl rfl
                      have A480 := A479.iload (v := (0 : Int32)) (pc' := 392) at_390 rfl rfl
                      have A482 := A480.ifYes (pc' := 405) at_392 (teq (ieq (x := (0 : Int32)) (y := (0 : Int32)) rfl rfl (by decide : (0 : Int) = 0))).1 (by decide) (by decide)
                      have A483 := A482.iconst (z := (-1 : Int32)) (pc' := 406) at_405 rfl rfl
                      have A484 := A483.istore (Ls' := #[.val (.long a), .second, .val (.long x), .second, .val (.long z), .second, .val (.int p), .val (.int x0), .val (.int x1), .val (.int x2), .val (.int (0 : Int32)), .val (.int sa), .val (.int li), .val (.ref b54), .val (.ref b160), .val (.ref b282), .val (.int r385), .val (.int (1 : Int32)), .val (.int (2 : Int32)), .val (.int x0), .val (.int x1), .val (.int (0 : Int32)), .val (.int (-1 : Int32))]) (pc' := 408) at_406 rfl rfl
                      have A485 := A484.iload (v := r385) (pc' := 410) at_408 rfl rfl
                      have A486 := A485.iload (v := (-1 : Int32)) (pc' := 412) at_410 rfl rfl
                      by_cases c487 : r385.toInt = (-1)
                      · have A488 := A486.icmpNo (pc' := 415) at_412 (teq (ieq (x := r385) (y := (-1 : Int32)) rfl rfl c487)).2 rfl
                        have A489 := A488.iconst (z := (1 : Int32)) (pc' := 416) at_415 rfl rfl
                        have A490 := A489.goto (pc' := 420) at_416 (by decide) (by decide)
                        refine A490.retN (t := .boolean) (z' := (1 : Int32)) at_420 (by decide) (by decide) (by simp) rfl ⟨_, rfl, ⟨trivial, ?_⟩⟩
                        have elit : (1 : Int32).toInt = 1 := rfl
                        rfl
                      · have A491 := A486.icmpYes (pc' := 419) at_412 (feq (ine (x := r385) (y := (-1 : Int32)) rfl rfl c487)).2 (by decide) (by decide)
                        have A492 := A491.iconst (z := (0 : Int32)) (pc' := 420) at_419 rfl rfl
                        refine A492.retN (t := .boolean) (z' := (0 : Int32)) at_420 (by decide) (by decide) (by simp) rfl ⟨_, rfl, ⟨trivial, ?_⟩⟩
                        have elit : (0 : Int32).toInt = 0 := rfl
                        exfalso
                        unfold Hid at hE
                        omega
                  · have A493 := A445.icmpYes (pc' := 387) at_367 (feq (ine (x := (T (sa.toInt.toNat + 1))) (y := x1.toInt8.toInt32) rfl rfl c446)).2 (by decide) (by decide)
                    have A494 := A493.iconst (z := (0 : Int32)) (pc' := 388) at_387 rfl rfl
                    have A495 := A494.istore (Ls' := #[.val (.long a), .second, .val (.long x), .second, .val (.long z), .second, .val (.int p), .val (.int x0), .val (.int x1), .val (.int x2), .val (.int (0 : Int32)), .val (.int sa), .val (.int li), .val (.ref b54), .val (.ref b160), .val (.ref b282), .val (.int r385), .val (.int (1 : Int32)), .val (.int (2 : Int32)), .val (.int x0), .val (.int x1), .val (.int (0 : Int32)), .unset]) (pc' := 390) at_388 rfl rfl
                    have A496 := A495.iload (v := (0 : Int32)) (pc' := 392) at_390 rfl rfl
                    have A498 := A496.ifYes (pc' := 405) at_392 (teq (ieq (x := (0 : Int32)) (y := (0 : Int32)) rfl rfl (by decide : (0 : Int) = 0))).1 (by decide) (by decide)
                    have A499 := A498.iconst (z := (-1 : Int32)) (pc' := 406) at_405 rfl rfl
                    have A500 := A499.istore (Ls' := #[.val (.long a), .second, .val (.long x), .second, .val (.long z), .second, .val (.int p), .val (.int x0), .val (.int x1), .val (.int x2), .val (.int (0 : Int32)), .val (.int sa), .val (.int li), .val (.ref b54), .val (.ref b160), .val (.ref b282), .val (.int r385), .val (.int (1 : Int32)), .val (.int (2 : Int32)), .val (.int x0), .val (.int x1), .val (.int (0 : Int32)), .val (.int (-1 : Int32))]) (pc' := 408) at_406 rfl rfl
                    have A501 := A500.iload (v := r385) (pc' := 410) at_408 rfl rfl
                    have A502 := A501.iload (v := (-1 : Int32)) (pc' := 412) at_410 rfl rfl
                    by_cases c503 : r385.toInt = (-1)
                    · have A504 := A502.icmpNo (pc' := 415) at_412 (teq (ieq (x := r385) (y := (-1 : Int32)) rfl rfl c503)).2 rfl
                      have A505 := A504.iconst (z := (1 : Int32)) (pc' := 416) at_415 rfl rfl
                      have A506 := A505.goto (pc' := 420) at_416 (by decide) (by decide)
                      refine A506.retN (t := .boolean) (z' := (1 : Int32)) at_420 (by decide) (by decide) (by simp) rfl ⟨_, rfl, ⟨trivial, ?_⟩⟩
                      have elit : (1 : Int32).toInt = 1 := rfl
                      rfl
                    · have A507 := A502.icmpYes (pc' := 419) at_412 (feq (ine (x := r385) (y := (-1 : Int32)) rfl rfl c503)).2 (by decide) (by decide)
                      have A508 := A507.iconst (z := (0 : Int32)) (pc' := 420) at_419 rfl rfl
                      refine A508.retN (t := .boolean) (z' := (0 : Int32)) at_420 (by decide) (by decide) (by simp) rfl ⟨_, rfl, ⟨trivial, ?_⟩⟩
                      have elit : (0 : Int32).toInt = 0 := rfl
                      exfalso
                      unfold Hid at hE
                      omega
                · have A509 := A432.icmpYes (pc' := 387) at_348 (feq (ine (x := (T (sa.toInt.toNat + 0))) (y := x0.toInt8.toInt32) rfl rfl c433)).2 (by decide) (by decide)
                  have A510 := A509.iconst (z := (0 : Int32)) (pc' := 388) at_387 rfl rfl
                  have A511 := A510.istore (Ls' := #[.val (.long a), .second, .val (.long x), .second, .val (.long z), .second, .val (.int p), .val (.int x0), .val (.int x1), .val (.int x2), .val (.int (0 : Int32)), .val (.int sa), .val (.int li), .val (.ref b54), .val (.ref b160), .val (.ref b282), .val (.int r385), .val (.int (1 : Int32)), .val (.int (2 : Int32)), .val (.int x0), .val (.int x1), .val (.int (0 : Int32)), .unset]) (pc' := 390) at_388 rfl rfl
                  have A512 := A511.iload (v := (0 : Int32)) (pc' := 392) at_390 rfl rfl
                  have A514 := A512.ifYes (pc' := 405) at_392 (teq (ieq (x := (0 : Int32)) (y := (0 : Int32)) rfl rfl (by decide : (0 : Int) = 0))).1 (by decide) (by decide)
                  have A515 := A514.iconst (z := (-1 : Int32)) (pc' := 406) at_405 rfl rfl
                  have A516 := A515.istore (Ls' := #[.val (.long a), .second, .val (.long x), .second, .val (.long z), .second, .val (.int p), .val (.int x0), .val (.int x1), .val (.int x2), .val (.int (0 : Int32)), .val (.int sa), .val (.int li), .val (.ref b54), .val (.ref b160), .val (.ref b282), .val (.int r385), .val (.int (1 : Int32)), .val (.int (2 : Int32)), .val (.int x0), .val (.int x1), .val (.int (0 : Int32)), .val (.int (-1 : Int32))]) (pc' := 408) at_406 rfl rfl
                  have A517 := A516.iload (v := r385) (pc' := 410) at_408 rfl rfl
                  have A518 := A517.iload (v := (-1 : Int32)) (pc' := 412) at_410 rfl rfl
                  by_cases c519 : r385.toInt = (-1)
                  · have A520 := A518.icmpNo (pc' := 415) at_412 (teq (ieq (x := r385) (y := (-1 : Int32)) rfl rfl c519)).2 rfl
                    have A521 := A520.iconst (z := (1 : Int32)) (pc' := 416) at_415 rfl rfl
                    have A522 := A521.goto (pc' := 420) at_416 (by decide) (by decide)
                    refine A522.retN (t := .boolean) (z' := (1 : Int32)) at_420 (by decide) (by decide) (by simp) rfl ⟨_, rfl, ⟨trivial, ?_⟩⟩
                    have elit : (1 : Int32).toInt = 1 := rfl
                    rfl
                  · have A523 := A518.icmpYes (pc' := 419) at_412 (feq (ine (x := r385) (y := (-1 : Int32)) rfl rfl c519)).2 (by decide) (by decide)
                    have A524 := A523.iconst (z := (0 : Int32)) (pc' := 420) at_419 rfl rfl
                    refine A524.retN (t := .boolean) (z' := (0 : Int32)) at_420 (by decide) (by decide) (by simp) rfl ⟨_, rfl, ⟨trivial, ?_⟩⟩
                    have elit : (0 : Int32).toInt = 0 := rfl
                    exfalso
                    unfold Hid at hE
                    omega
              · have A525 := A425.icmpYes (pc' := 387) at_337 (flt (inlt (x := (sa + (2 : Int32))) (y := li) rfl rfl c426)).2.1 (by decide) (by decide)
                have A526 := A525.iconst (z := (0 : Int32)) (pc' := 388) at_387 rfl rfl
                have A527 := A526.istore (Ls' := #[.val (.long a), .second, .val (.long x), .second, .val (.long z), .second, .val (.int p), .val (.int x0), .val (.int x1), .val (.int x2), .val (.int (0 : Int32)), .val (.int sa), .val (.int li), .val (.ref b54), .val (.ref b160), .val (.ref b282), .val (.int r385), .val (.int (1 : Int32)), .val (.int (2 : Int32)), .val (.int x0), .val (.int x1), .val (.int (0 : Int32)), .unset]) (pc' := 390) at_388 rfl rfl
                have A528 := A527.iload (v := (0 : Int32)) (pc' := 392) at_390 rfl rfl
                have A530 := A528.ifYes (pc' := 405) at_392 (teq (ieq (x := (0 : Int32)) (y := (0 : Int32)) rfl rfl (by decide : (0 : Int) = 0))).1 (by decide) (by decide)
                have A531 := A530.iconst (z := (-1 : Int32)) (pc' := 406) at_405 rfl rfl
                have A532 := A531.istore (Ls' := #[.val (.long a), .second, .val (.long x), .second, .val (.long z), .second, .val (.int p), .val (.int x0), .val (.int x1), .val (.int x2), .val (.int (0 : Int32)), .val (.int sa), .val (.int li), .val (.ref b54), .val (.ref b160), .val (.ref b282), .val (.int r385), .val (.int (1 : Int32)), .val (.int (2 : Int32)), .val (.int x0), .val (.int x1), .val (.int (0 : Int32)), .val (.int (-1 : Int32))]) (pc' := 408) at_406 rfl rfl
                have A533 := A532.iload (v := r385) (pc' := 410) at_408 rfl rfl
                have A534 := A533.iload (v := (-1 : Int32)) (pc' := 412) at_410 rfl rfl
                by_cases c535 : r385.toInt = (-1)
                · have A536 := A534.icmpNo (pc' := 415) at_412 (teq (ieq (x := r385) (y := (-1 : Int32)) rfl rfl c535)).2 rfl
                  have A537 := A536.iconst (z := (1 : Int32)) (pc' := 416) at_415 rfl rfl
                  have A538 := A537.goto (pc' := 420) at_416 (by decide) (by decide)
                  refine A538.retN (t := .boolean) (z' := (1 : Int32)) at_420 (by decide) (by decide) (by simp) rfl ⟨_, rfl, ⟨trivial, ?_⟩⟩
                  have elit : (1 : Int32).toInt = 1 := rfl
                  rfl
                · have A539 := A534.icmpYes (pc' := 419) at_412 (feq (ine (x := r385) (y := (-1 : Int32)) rfl rfl c535)).2 (by decide) (by decide)
                  have A540 := A539.iconst (z := (0 : Int32)) (pc' := 420) at_419 rfl rfl
                  refine A540.retN (t := .boolean) (z' := (0 : Int32)) at_420 (by decide) (by decide) (by simp) rfl ⟨_, rfl, ⟨trivial, ?_⟩⟩
                  have elit : (0 : Int32).toInt = 0 := rfl
                  exfalso
                  unfold Hid at hE
                  omega
        · have A541 := A376.cast (Ls' := #[.val (.long a), .second, .val (.long x), .second, .val (.long z), .second, .val (.int p), .val (.int x0), .val (.int x1), .val (.int x2), .val (.int (1 : Int32)), .val (.int sa), .val (.int li), .val (.ref b54), .val (.ref b160), .val (.ref b282), .unset, .unset, .unset, .unset, .unset, .unset, .unset]) rfl (by rw [hi]) rfl
          have A542 := A541.aload (v := (.ref b282)) (pc' := 231) at_229 rfl rfl rfl
          have A543 := A542.iload (v := (1 : Int32)) (pc' := 233) at_231 rfl rfl
          have A544 := A543.aload (v := (.ref b54)) (pc' := 235) at_233 rfl rfl rfl
          have A545 := A544.iload (v := sa) (pc' := 237) at_235 rfl rfl
          have A546 := A545.iload (v := li) (pc' := 239) at_237 rfl rfl
          have f547 := (f342.keep K323 (ninS ne290 nin0))
          have f550 := (X286.keep K323)
          obtain ⟨r549, _, ⟨rfl, q551⟩, A548⟩ := W.kI (A546.callV (a := b282) (argsL := [(.int (1 : Int32)), (.ref b54), (.int sa), (.int li)]) (rest := []) (C' := 12) (S' := 34) (pc' := 242) at_239 f550 (hw _ (List.mem_of_getElem? (i := 101) rfl)) (hw _ (List.mem_of_getElem? (i := 102) rfl)) (fun hZ => notFace_of_selects (args := #[]) (mvT hZ (hw _ (List.mem_of_getElem? (i := 104) rfl)))) (hw _ (List.mem_of_getElem? (i := 104) rfl)) (hw _ (List.mem_of_getElem? (i := 103) rfl)) (hw _ (List.mem_of_getElem? (i := 52) rfl)) (hw _ (List.mem_of_getElem? (i := 105) rfl)) (rm20_P1 l Z a0 hw n0 [] (b282) (b54) (sa) (li) (b324) (b325) (b327) ((upd (upd (upd (fun _ => .null) 0 (.ref b326)) 1 (.ref b327)) 2 (.ref nb))) ((upd (upd (upd (fun _ => (.int (0 : Int32))) 0 (.int (2 : Int32))) 1 (.int (1 : Int32))) 2 (.int (2147483647 : Int32)))) ((upd (fun _ => (.int (0 : Int32))) 0 (.int x2.toInt8.toInt32.toInt8.toInt32))) ((upd (upd (upd (upd (upd (upd (fun _ => (.int (0 : Int32))) 0 (.int r71.toInt8.toInt32)) 1 (.int r87.toInt8.toInt32)) 2 (.int r103.toInt8.toInt32)) 3 (.int r119.toInt8.toInt32)) 4 (.int r135.toInt8.toInt32)) 5 (.int r151.toInt8.toInt32))) (T) (x2.toInt8.toInt32) h322 A546.size f547 (by exact hT) (by exact ⟨ksa.1, ksa.2, kli.1, kli.2⟩) f336 f337 f338 f339 (by rfl) (by rfl) f341 (by exact congrArg Value.int (own_bb _))) rfl rfl pd_22 rfl rfl (by decide) (by decide) (Nat.le_of_ble_eq_true rfl) (by decide) (by decide) rfl rfl rfl)
          have hE := own_hid q551
          clear q551
          have A553 := A548.istore (Ls' := #[.val (.long a), .second, .val (.long x), .second, .val (.long z), .second, .val (.int p), .val (.int x0), .val (.int x1), .val (.int x2), .val (.int (1 : Int32)), .val (.int sa), .val (.int li), .val (.ref b54), .val (.ref b160), .val (.ref b282), .val (.int r549), .unset, .unset, .unset, .unset, .unset, .unset]) (pc' := 244) at_242 rfl rfl
          clear e7 ne167 ne180 ne181 ne195 ne197 ne198 ne230 ne232 ne233 ne234 ne262 ne263 ne265 ne267 ne269 ne270 ne271 ne272 ne273 ne274 ne290 ne291 ne293 ne295 ne297 ne299 ne301 ne343 ne344 ne345 ne347 ne348 ne349 ne350 ne351 ne352 ne353 ne354 ne355 ne356 ne357 ne358 ne359 ne360 ne361 ne362 ne363 ne364 ne365 ne366 ne367 ne368 ne369 ne370 ne371 ne372 ne373 ne374 ne375
          have a0_ := addc32 sa (0 : Int32) 0 rfl (by omega) (by omega)
          have a1_ := addc32 sa (1 : Int32) 1 rfl (by omega) (by omega)
          have a2_ := addc32 sa (2 : Int32) 2 rfl (by omega) (by omega)
          have z1_ := addc32 (sa + (1 : Int32)) (1 : Int32) 1 rfl (by omega) (by omega)
          have z2_ := addc32 (sa + (2 : Int32)) (1 : Int32) 1 rfl (by omega) (by omega)
          have A554 := A553.iload (v := (1 : Int32)) (pc' := 246) at_244 rfl rfl
          have A556 := A554.ifYes (pc' := 286) at_246 (feq (ine (x := (1 : Int32)) (y := (0 : Int32)) rfl rfl (by decide : ¬ ((1 : Int) = 0)))).2 (by decide) (by decide)
          have A557 := A556.iload (v := (1 : Int32)) (pc' := 288) at_286 rfl rfl
          have A558 := A557.iconst (z := (1 : Int32)) (pc' := 289) at_288 rfl rfl
          have A560 := A558.icmpNo (pc' := 292) at_289 (teq (ieq (x := (1 : Int32)) (y := (1 : Int32)) rfl rfl (by decide : (1 : Int) = 1))).2 rfl
          have A561 := A560.iload (v := x2) (pc' := 294) at_292 rfl rfl
          obtain ⟨r563, _, ⟨rfl, q564⟩, A562⟩ := W.kI (A561.callS (argsL := [(.int x2)]) (rest := []) (C' := 12) (S' := 34) (pc' := 297) at_294 (hw _ (List.mem_of_getElem? (i := 106) rfl)) (hw _ (List.mem_of_getElem? (i := 107) rfl)) (hw _ (List.mem_of_getElem? (i := 4) rfl)) (hw _ (List.mem_of_getElem? (i := 108) rfl)) (rm21 l Z a0 hw n0 [] (x2)  h322 A561.size ) rfl rfl pd_4 rfl rfl (by decide) (by decide) (Nat.le_of_ble_eq_true rfl) (by decide) (by decide) rfl rfl rfl)
          have A566 := A562.istore (Ls' := #[.val (.long a), .second, .val (.long x), .second, .val (.long z), .second, .val (.int p), .val (.int x0), .val (.int x1), .val (.int x2), .val (.int (1 : Int32)), .val (.int sa), .val (.int li), .val (.ref b54), .val (.ref b160), .val (.ref b282), .val (.int r549), .val (.int r563), .unset, .unset, .unset, .unset, .unset]) (pc' := 299) at_297 rfl rfl
          have A567 := A566.iconst (z := (1 : Int32)) (pc' := 300) at_299 rfl rfl
          have A568 := A567.istore (Ls' := #[.val (.long a), .second, .val (.long x), .second, .val (.long z), .second, .val (.int p), .val (.int x0), .val (.int x1), .val (.int x2), .val (.int (1 : Int32)), .val (.int sa), .val (.int li), .val (.ref b54), .val (.ref b160), .val (.ref b282), .val (.int r549), .val (.int r563), .val (.int (1 : Int32)), .unset, .unset, .unset, .unset]) (pc' := 302) at_300 rfl rfl
          have A569 := A568.iload (v := x2) (pc' := 304) at_302 rfl rfl
          have A570 := A569.istore (Ls' := #[.val (.long a), .second, .val (.long x), .second, .val (.long z), .second, .val (.int p), .val (.int x0), .val (.int x1), .val (.int x2), .val (.int (1 : Int32)), .val (.int sa), .val (.int li), .val (.ref b54), .val (.ref b160), .val (.ref b282), .val (.int r549), .val (.int r563), .val (.int (1 : Int32)), .val (.int x2), .unset, .unset, .unset]) (pc' := 306) at_304 rfl rfl
          have A571 := A570.iload (v := x2) (pc' := 308) at_306 rfl rfl
          have A572 := A571.istore (Ls' := #[.val (.long a), .second, .val (.long x), .second, .val (.long z), .second, .val (.int p), .val (.int x0), .val (.int x1), .val (.int x2), .val (.int (1 : Int32)), .val (.int sa), .val (.int li), .val (.ref b54), .val (.ref b160), .val (.ref b282), .val (.int r549), .val (.int r563), .val (.int (1 : Int32)), .val (.int x2), .val (.int x2), .unset, .unset]) (pc' := 310) at_308 rfl rfl
          have A573 := A572.goto (pc' := 325) at_310 (by decide) (by decide)
          have A574 := A573.iload (v := r563) (pc' := 327) at_325 rfl rfl
          by_cases c575 : r563.toInt = 0
          · exfalso
            omega
          · have A577 := A574.ifNo (pc' := 330) at_327 (feq (ine (x := r563) (y := (0 : Int32)) rfl rfl c575)).1 rfl
            clear q564 kp p0 p2 p1
            have A578 := A577.iload (v := sa) (pc' := 332) at_330 rfl rfl
            have A579 := A578.iload (v := (1 : Int32)) (pc' := 334) at_332 rfl rfl
            have A580 := A579.iadd (pc' := 335) at_334 rfl
            have A581 := A580.iload (v := li) (pc' := 337) at_335 rfl rfl
            by_cases c582 : (sa + (1 : Int32)).toInt < li.toInt
            · have A583 := A581.icmpNo (pc' := 340) at_337 (tlt (ilt (x := (sa + (1 : Int32))) (y := li) rfl rfl c582)).2.1 rfl
              have A584 := A583.aload (v := (.ref b54)) (pc' := 342) at_340 rfl rfl rfl
              have A585 := A584.iload (v := sa) (pc' := 344) at_342 rfl rfl
              have A586 := A585.baload (i := (sa.toInt.toNat + 0)) (v := (.int (T (sa.toInt.toNat + 0)))) (pc' := 345) at_344 f547 (by omega) (by omega) (hT _) rfl
              have A587 := A586.iload (v := x2) (pc' := 347) at_345 rfl rfl
              have A588 := A587.i2b (pc' := 348) at_347 rfl
              by_cases c589 : (T (sa.toInt.toNat + 0)).toInt = x2.toInt8.toInt32.toInt
              · have A590 := A588.icmpNo (pc' := 351) at_348 (teq (ieq (x := (T (sa.toInt.toNat + 0))) (y := x2.toInt8.toInt32) rfl rfl c589)).2 rfl
                have A591 := A590.iload (v := (1 : Int32)) (pc' := 353) at_351 rfl rfl
                have A592 := A591.iconst (z := (2 : Int32)) (pc' := 354) at_353 rfl rfl
                have A594 := A592.icmpYes (pc' := 370) at_354 (tlt (ilt (x := (1 : Int32)) (y := (2 : Int32)) rfl rfl (by decide : (1 : Int) < 2))).1 (by decide) (by decide)
                have A595 := A594.aload (v := (.ref b54)) (pc' := 372) at_370 rfl rfl rfl
                have A596 := A595.iload (v := sa) (pc' := 374) at_372 rfl rfl
                have A597 := A596.iload (v := (1 : Int32)) (pc' := 376) at_374 rfl rfl
                have A598 := A597.iadd (pc' := 377) at_376 rfl
                have A599 := A598.baload (i := (sa.toInt.toNat + 1)) (v := (.int (T (sa.toInt.toNat + 1)))) (pc' := 378) at_377 f547 (by omega) (by omega) (hT _) rfl
                have A600 := A599.bipush (z := (34 : Int32)) (pc' := 380) at_378 rfl rfl
                by_cases c601 : (T (sa.toInt.toNat + 1)).toInt = 34
                · have A602 := A600.icmpNo (pc' := 383) at_380 (teq (ieq (x := (T (sa.toInt.toNat + 1))) (y := (34 : Int32)) rfl rfl c601)).2 rfl
                  have A603 := A602.iconst (z := (1 : Int32)) (pc' := 384) at_383 rfl rfl
                  have A604 := A603.goto (pc' := 388) at_384 (by decide) (by decide)
                  have A605 := A604.istore (Ls' := #[.val (.long a), .second, .val (.long x), .second, .val (.long z), .second, .val (.int p), .val (.int x0), .val (.int x1), .val (.int x2), .val (.int (1 : Int32)), .val (.int sa), .val (.int li), .val (.ref b54), .val (.ref b160), .val (.ref b282), .val (.int r549), .val (.int r563), .val (.int (1 : Int32)), .val (.int x2), .val (.int x2), .val (.int (1 : Int32)), .unset]) (pc' := 390) at_388 rfl rfl
                  have A606 := A605.iload (v := (1 : Int32)) (pc' := 392) at_390 rfl rfl
                  have A608 := A606.ifNo (pc' := 395) at_392 (feq (ine (x := (1 : Int32)) (y := (0 : Int32)) rfl rfl (by decide : ¬ ((1 : Int) = 0)))).1 rfl
                  have A609 := A608.iload (v := sa) (pc' := 397) at_395 rfl rfl
                  have A610 := A609.iload (v := (1 : Int32)) (pc' := 399) at_397 rfl rfl
                  have A611 := A610.iadd (pc' := 400) at_399 rfl
                  have A612 := A611.iconst (z := (1 : Int32)) (pc' := 401) at_400 rfl rfl
                  have A613 := A612.iadd (pc' := 402) at_401 rfl
                  have A614 := A613.goto (pc' := 406) at_402 (by decide) (by decide)
                  have A615 := A614.istore (Ls' := #[.val (.long a), .second, .val (.long x), .second, .val (.long z), .second, .val (.int p), .val (.int x0), .val (.int x1), .val (.int x2), .val (.int (1 : Int32)), .val (.int sa), .val (.int li), .val (.ref b54), .val (.ref b160), .val (.ref b282), .val (.int r549), .val (.int r563), .val (.int (1 : Int32)), .val (.int x2), .val (.int x2), .val (.int (1 : Int32)), .val (.int ((sa + (1 : Int32)) + (1 : Int32)))]) (pc' := 408) at_406 rfl rfl
                  have A616 := A615.iload (v := r549) (pc' := 410) at_408 rfl rfl
                  have A617 := A616.iload (v := ((sa + (1 : Int32)) + (1 : Int32))) (pc' := 412) at_410 rfl rfl
                  by_cases c618 : r549.toInt = ((sa + (1 : Int32)) + (1 : Int32)).toInt
                  · have A619 := A617.icmpNo (pc' := 415) at_412 (teq (ieq (x := r549) (y := ((sa + (1 : Int32)) + (1 : Int32))) rfl rfl c618)).2 rfl
                    have A620 := A619.iconst (z := (1 : Int32)) (pc' := 416) at_415 rfl rfl
                    have A621 := A620.goto (pc' := 420) at_416 (by decide) (by decide)
                    refine A621.retN (t := .boolean) (z' := (1 : Int32)) at_420 (by decide) (by decide) (by simp) rfl ⟨_, rfl, ⟨trivial, ?_⟩⟩
                    have elit : (1 : Int32).toInt = 1 := rfl
                    rfl
                  · have A622 := A617.icmpYes (pc' := 419) at_412 (feq (ine (x := r549) (y := ((sa + (1 : Int32)) + (1 : Int32))) rfl rfl c618)).2 (by decide) (by decide)
                    have A623 := A622.iconst (z := (0 : Int32)) (pc' := 420) at_419 rfl rfl
                    refine A623.retN (t := .boolean) (z' := (0 : Int32)) at_420 (by decide) (by decide) (by simp) rfl ⟨_, rfl, ⟨trivial, ?_⟩⟩
                    have elit : (0 : Int32).toInt = 0 := rfl
                    exfalso
                    unfold Hid at hE
                    omega
                · have A624 := A600.icmpYes (pc' := 387) at_380 (feq (ine (x := (T (sa.toInt.toNat + 1))) (y := (34 : Int32)) rfl rfl c601)).2 (by decide) (by decide)
                  have A625 := A624.iconst (z := (0 : Int32)) (pc' := 388) at_387 rfl rfl
                  have A626 := A625.istore (Ls' := #[.val (.long a), .second, .val (.long x), .second, .val (.long z), .second, .val (.int p), .val (.int x0), .val (.int x1), .val (.int x2), .val (.int (1 : Int32)), .val (.int sa), .val (.int li), .val (.ref b54), .val (.ref b160), .val (.ref b282), .val (.int r549), .val (.int r563), .val (.int (1 : Int32)), .val (.int x2), .val (.int x2), .val (.int (0 : Int32)), .unset]) (pc' := 390) at_388 rfl rfl
                  have A627 := A626.iload (v := (0 : Int32)) (pc' := 392) at_390 rfl rfl
                  have A629 := A627.ifYes (pc' := 405) at_392 (teq (ieq (x := (0 : Int32)) (y := (0 : Int32)) rfl rfl (by decide : (0 : Int) = 0))).1 (by decide) (by decide)
                  have A630 := A629.iconst (z := (-1 : Int32)) (pc' := 406) at_405 rfl rfl
                  have A631 := A630.istore (Ls' := #[.val (.long a), .second, .val (.long x), .second, .val (.long z), .second, .val (.int p), .val (.int x0), .val (.int x1), .val (.int x2), .val (.int (1 : Int32)), .val (.int sa), .val (.int li), .val (.ref b54), .val (.ref b160), .val (.ref b282), .val (.int r549), .val (.int r563), .val (.int (1 : Int32)), .val (.int x2), .val (.int x2), .val (.int (0 : Int32)), .val (.int (-1 : Int32))]) (pc' := 408) at_406 rfl rfl
                  have A632 := A631.iload (v := r549) (pc' := 410) at_408 rfl rfl
                  have A633 := A632.iload (v := (-1 : Int32)) (pc' := 412) at_410 rfl rfl
                  by_cases c634 : r549.toInt = (-1)
                  · have A635 := A633.icmpNo (pc' := 415) at_412 (teq (ieq (x := r549) (y := (-1 : Int32)) rfl rfl c634)).2 rfl
                    have A636 := A635.iconst (z := (1 : Int32)) (pc' := 416) at_415 rfl rfl
                    have A637 := A636.goto (pc' := 420) at_416 (by decide) (by decide)
                    refine A637.retN (t := .boolean) (z' := (1 : Int32)) at_420 (by decide) (by decide) (by simp) rfl ⟨_, rfl, ⟨trivial, ?_⟩⟩
                    have elit : (1 : Int32).toInt = 1 := rfl
                    rfl
                  · have A638 := A633.icmpYes (pc' := 419) at_412 (feq (ine (x := r549) (y := (-1 : Int32)) rfl rfl c634)).2 (by decide) (by decide)
                    have A639 := A638.iconst (z := (0 : Int32)) (pc' := 420) at_419 rfl rfl
                    refine A639.retN (t := .boolean) (z' := (0 : Int32)) at_420 (by decide) (by decide) (by simp) rfl ⟨_, rfl, ⟨trivial, ?_⟩⟩
                    have elit : (0 : Int32).toInt = 0 := rfl
                    exfalso
                    unfold Hid at hE
                    omega
              · have A640 := A588.icmpYes (pc' := 387) at_348 (feq (ine (x := (T (sa.toInt.toNat + 0))) (y := x2.toInt8.toInt32) rfl rfl c589)).2 (by decide) (by decide)
                have A641 := A640.iconst (z := (0 : Int32)) (pc' := 388) at_387 rfl rfl
                have A642 := A641.istore (Ls' := #[.val (.long a), .second, .val (.long x), .second, .val (.long z), .second, .val (.int p), .val (.int x0), .val (.int x1), .val (.int x2), .val (.int (1 : Int32)), .val (.int sa), .val (.int li), .val (.ref b54), .val (.ref b160), .val (.ref b282), .val (.int r549), .val (.int r563), .val (.int (1 : Int32)), .val (.int x2), .val (.int x2), .val (.int (0 : Int32)), .unset]) (pc' := 390) at_388 rfl rfl
                have A643 := A642.iload (v := (0 : Int32)) (pc' := 392) at_390 rfl rfl
                have A645 := A643.ifYes (pc' := 405) at_392 (teq (ieq (x := (0 : Int32)) (y := (0 : Int32)) rfl rfl (by decide : (0 : Int) = 0))).1 (by decide) (by decide)
                have A646 := A645.iconst (z := (-1 : Int32)) (pc' := 406) at_405 rfl rfl
                have A647 := A646.istore (Ls' := #[.val (.long a), .second, .val (.long x), .second, .val (.long z), .second, .val (.int p), .val (.int x0), .val (.int x1), .val (.int x2), .val (.int (1 : Int32)), .val (.int sa), .val (.int li), .val (.ref b54), .val (.ref b160), .val (.ref b282), .val (.int r549), .val (.int r563), .val (.int (1 : Int32)), .val (.int x2), .val (.int x2), .val (.int (0 : Int32)), .val (.int (-1 : Int32))]) (pc' := 408) at_406 rfl rfl
                have A648 := A647.iload (v := r549) (pc' := 410) at_408 rfl rfl
                have A649 := A648.iload (v := (-1 : Int32)) (pc' := 412) at_410 rfl rfl
                by_cases c650 : r549.toInt = (-1)
                · have A651 := A649.icmpNo (pc' := 415) at_412 (teq (ieq (x := r549) (y := (-1 : Int32)) rfl rfl c650)).2 rfl
                  have A652 := A651.iconst (z := (1 : Int32)) (pc' := 416) at_415 rfl rfl
                  have A653 := A652.goto (pc' := 420) at_416 (by decide) (by decide)
                  refine A653.retN (t := .boolean) (z' := (1 : Int32)) at_420 (by decide) (by decide) (by simp) rfl ⟨_, rfl, ⟨trivial, ?_⟩⟩
                  have elit : (1 : Int32).toInt = 1 := rfl
                  rfl
                · have A654 := A649.icmpYes (pc' := 419) at_412 (feq (ine (x := r549) (y := (-1 : Int32)) rfl rfl c650)).2 (by decide) (by decide)
                  have A655 := A654.iconst (z := (0 : Int32)) (pc' := 420) at_419 rfl rfl
                  refine A655.retN (t := .boolean) (z' := (0 : Int32)) at_420 (by decide) (by decide) (by simp) rfl ⟨_, rfl, ⟨trivial, ?_⟩⟩
                  have elit : (0 : Int32).toInt = 0 := rfl
                  exfalso
                  unfold Hid at hE
                  omega
            · have A656 := A581.icmpYes (pc' := 387) at_337 (flt (inlt (x := (sa + (1 : Int32))) (y := li) rfl rfl c582)).2.1 (by decide) (by decide)
              have A657 := A656.iconst (z := (0 : Int32)) (pc' := 388) at_387 rfl rfl
              have A658 := A657.istore (Ls' := #[.val (.long a), .second, .val (.long x), .second, .val (.long z), .second, .val (.int p), .val (.int x0), .val (.int x1), .val (.int x2), .val (.int (1 : Int32)), .val (.int sa), .val (.int li), .val (.ref b54), .val (.ref b160), .val (.ref b282), .val (.int r549), .val (.int r563), .val (.int (1 : Int32)), .val (.int x2), .val (.int x2), .val (.int (0 : Int32)), .unset]) (pc' := 390) at_388 rfl rfl
              have A659 := A658.iload (v := (0 : Int32)) (pc' := 392) at_390 rfl rfl
              have A661 := A659.ifYes (pc' := 405) at_392 (teq (ieq (x := (0 : Int32)) (y := (0 : Int32)) rfl rfl (by decide : (0 : Int) = 0))).1 (by decide) (by decide)
              have A662 := A661.iconst (z := (-1 : Int32)) (pc' := 406) at_405 rfl rfl
              have A663 := A662.istore (Ls' := #[.val (.long a), .second, .val (.long x), .second, .val (.long z), .second, .val (.int p), .val (.int x0), .val (.int x1), .val (.int x2), .val (.int (1 : Int32)), .val (.int sa), .val (.int li), .val (.ref b54), .val (.ref b160), .val (.ref b282), .val (.int r549), .val (.int r563), .val (.int (1 : Int32)), .val (.int x2), .val (.int x2), .val (.int (0 : Int32)), .val (.int (-1 : Int32))]) (pc' := 408) at_406 rfl rfl
              have A664 := A663.iload (v := r549) (pc' := 410) at_408 rfl rfl
              have A665 := A664.iload (v := (-1 : Int32)) (pc' := 412) at_410 rfl rfl
              by_cases c666 : r549.toInt = (-1)
              · have A667 := A665.icmpNo (pc' := 415) at_412 (teq (ieq (x := r549) (y := (-1 : Int32)) rfl rfl c666)).2 rfl
                have A668 := A667.iconst (z := (1 : Int32)) (pc' := 416) at_415 rfl rfl
                have A669 := A668.goto (pc' := 420) at_416 (by decide) (by decide)
                refine A669.retN (t := .boolean) (z' := (1 : Int32)) at_420 (by decide) (by decide) (by simp) rfl ⟨_, rfl, ⟨trivial, ?_⟩⟩
                have elit : (1 : Int32).toInt = 1 := rfl
                rfl
              · have A670 := A665.icmpYes (pc' := 419) at_412 (feq (ine (x := r549) (y := (-1 : Int32)) rfl rfl c666)).2 (by decide) (by decide)
                have A671 := A670.iconst (z := (0 : Int32)) (pc' := 420) at_419 rfl rfl
                refine A671.retN (t := .boolean) (z' := (0 : Int32)) at_420 (by decide) (by decide) (by simp) rfl ⟨_, rfl, ⟨trivial, ?_⟩⟩
                have elit : (0 : Int32).toInt = 0 := rfl
                exfalso
                unfold Hid at hE
                omega
        · have A672 := A376.cast (Ls' := #[.val (.long a), .second, .val (.long x), .second, .val (.long z), .second, .val (.int p), .val (.int x0), .val (.int x1), .val (.int x2), .val (.int (2 : Int32)), .val (.int sa), .val (.int li), .val (.ref b54), .val (.ref b160), .val (.ref b282), .unset, .unset, .unset, .unset, .unset, .unset, .unset]) rfl (by rw [hi]) rfl
          have A673 := A672.aload (v := (.ref b282)) (pc' := 231) at_229 rfl rfl rfl
          have A674 := A673.iload (v := (2 : Int32)) (pc' := 233) at_231 rfl rfl
          have A675 := A674.aload (v := (.ref b54)) (pc' := 235) at_233 rfl rfl rfl
          have A676 := A675.iload (v := sa) (pc' := 237) at_235 rfl rfl
          have A677 := A676.iload (v := li) (pc' := 239) at_237 rfl rfl
          have f678 := (f342.keep K323 (ninS ne290 nin0))
          have f681 := (X286.keep K323)
          obtain ⟨r680, _, ⟨rfl, q682⟩, A679⟩ := W.kI (A677.callV (a := b282) (argsL := [(.int (2 : Int32)), (.ref b54), (.int sa), (.int li)]) (rest := []) (C' := 12) (S' := 34) (pc' := 242) at_239 f681 (hw _ (List.mem_of_getElem? (i := 101) rfl)) (hw _ (List.mem_of_getElem? (i := 102) rfl)) (fun hZ => notFace_of_selects (args := #[]) (mvT hZ (hw _ (List.mem_of_getElem? (i := 104) rfl)))) (hw _ (List.mem_of_getElem? (i := 104) rfl)) (hw _ (List.mem_of_getElem? (i := 103) rfl)) (hw _ (List.mem_of_getElem? (i := 52) rfl)) (hw _ (List.mem_of_getElem? (i := 105) rfl)) (rm20_N2 l Z a0 hw n0 [] (b282) (b54) (sa) (li) (b324) (b325) (nb) ((upd (upd (upd (fun _ => .null) 0 (.ref b326)) 1 (.ref b327)) 2 (.ref nb))) ((upd (upd (upd (fun _ => (.int (0 : Int32))) 0 (.int (2 : Int32))) 1 (.int (1 : Int32))) 2 (.int (2147483647 : Int32)))) ((upd (upd (upd (upd (upd (upd (fun _ => (.int (0 : Int32))) 0 (.int r71.toInt8.toInt32)) 1 (.int r87.toInt8.toInt32)) 2 (.int r103.toInt8.toInt32)) 3 (.int r119.toInt8.toInt32)) 4 (.int r135.toInt8.toInt32)) 5 (.int r151.toInt8.toInt32))) (T) h322 A677.size f678 (by exact hT) (by exact ⟨ksa.1, ksa.2, kli.1, kli.2⟩) f336 f337 f338 f339 (by rfl) (by rfl)) rfl rfl pd_22 rfl rfl (by decide) (by decide) (Nat.le_of_ble_eq_true rfl) (by decide) (by decide) rfl rfl rfl)
          subst q682
          have A684 := A679.istore (Ls' := #[.val (.long a), .second, .val (.long x), .second, .val (.long z), .second, .val (.int p), .val (.int x0), .val (.int x1), .val (.int x2), .val (.int (2 : Int32)), .val (.int sa), .val (.int li), .val (.ref b54), .val (.ref b160), .val (.ref b282), .val (.int (-1 : Int32)), .unset, .unset, .unset, .unset, .unset, .unset]) (pc' := 244) at_242 rfl rfl
          clear e7 ne167 ne180 ne181 ne195 ne197 ne198 ne230 ne232 ne233 ne234 ne262 ne263 ne265 ne267 ne269 ne270 ne271 ne272 ne273 ne274 ne290 ne291 ne293 ne295 ne297 ne299 ne301 ne343 ne344 ne345 ne347 ne348 ne349 ne350 ne351 ne352 ne353 ne354 ne355 ne356 ne357 ne358 ne359 ne360 ne361 ne362 ne363 ne364 ne365 ne366 ne367 ne368 ne369 ne370 ne371 ne372 ne373 ne374 ne375
          have a0_ := addc32 sa (0 : Int32) 0 rfl (by omega) (by omega)
          have a1_ := addc32 sa (1 : Int32) 1 rfl (by omega) (by omega)
          have a2_ := addc32 sa (2 : Int32) 2 rfl (by omega) (by omega)
          have z1_ := addc32 (sa + (1 : Int32)) (1 : Int32) 1 rfl (by omega) (by omega)
          have z2_ := addc32 (sa + (2 : Int32)) (1 : Int32) 1 rfl (by omega) (by omega)
          have A685 := A684.iload (v := (2 : Int32)) (pc' := 246) at_244 rfl rfl
          have A687 := A685.ifYes (pc' := 286) at_246 (feq (ine (x := (2 : Int32)) (y := (0 : Int32)) rfl rfl (by decide : ¬ ((2 : Int) = 0)))).2 (by decide) (by decide)
          have A688 := A687.iload (v := (2 : Int32)) (pc' := 288) at_286 rfl rfl
          have A689 := A688.iconst (z := (1 : Int32)) (pc' := 289) at_288 rfl rfl
          have A691 := A689.icmpYes (pc' := 313) at_289 (feq (ine (x := (2 : Int32)) (y := (1 : Int32)) rfl rfl (by decide : ¬ ((2 : Int) = 1)))).2 (by decide) (by decide)
          have A692 := A691.iconst (z := (0 : Int32)) (pc' := 314) at_313 rfl rfl
          have A693 := A692.istore (Ls' := #[.val (.long a), .second, .val (.long x), .second, .val (.long z), .second, .val (.int p), .val (.int x0), .val (.int x1), .val (.int x2), .val (.int (2 : Int32)), .val (.int sa), .val (.int li), .val (.ref b54), .val (.ref b160), .val (.ref b282), .val (.int (-1 : Int32)), .val (.int (0 : Int32)), .unset, .unset, .unset, .unset, .unset]) (pc' := 316) at_314 rfl rfl
          have A694 := A693.iconst (z := (0 : Int32)) (pc' := 317) at_316 rfl rfl
          have A695 := A694.istore (Ls' := #[.val (.long a), .second, .val (.long x), .second, .val (.long z), .second, .val (.int p), .val (.int x0), .val (.int x1), .val (.int x2), .val (.int (2 : Int32)), .val (.int sa), .val (.int li), .val (.ref b54), .val (.ref b160), .val (.ref b282), .val (.int (-1 : Int32)), .val (.int (0 : Int32)), .val (.int (0 : Int32)), .unset, .unset, .unset, .unset]) (pc' := 319) at_317 rfl rfl
          have A696 := A695.iconst (z := (0 : Int32)) (pc' := 320) at_319 rfl rfl
          have A697 := A696.istore (Ls' := #[.val (.long a), .second, .val (.long x), .second, .val (.long z), .second, .val (.int p), .val (.int x0), .val (.int x1), .val (.int x2), .val (.int (2 : Int32)), .val (.int sa), .val (.int li), .val (.ref b54), .val (.ref b160), .val (.ref b282), .val (.int (-1 : Int32)), .val (.int (0 : Int32)), .val (.int (0 : Int32)), .val (.int (0 : Int32)), .unset, .unset, .unset]) (pc' := 322) at_320 rfl rfl
          have A698 := A697.iconst (z := (0 : Int32)) (pc' := 323) at_322 rfl rfl
          have A699 := A698.istore (Ls' := #[.val (.long a), .second, .val (.long x), .second, .val (.long z), .second, .val (.int p), .val (.int x0), .val (.int x1), .val (.int x2), .val (.int (2 : Int32)), .val (.int sa), .val (.int li), .val (.ref b54), .val (.ref b160), .val (.ref b282), .val (.int (-1 : Int32)), .val (.int (0 : Int32)), .val (.int (0 : Int32)), .val (.int (0 : Int32)), .val (.int (0 : Int32)), .unset, .unset]) (pc' := 325) at_323 rfl rfl
          have A700 := A699.iload (v := (0 : Int32)) (pc' := 327) at_325 rfl rfl
          have A702 := A700.ifYes (pc' := 387) at_327 (teq (ieq (x := (0 : Int32)) (y := (0 : Int32)) rfl rfl (by decide : (0 : Int) = 0))).1 (by decide) (by decide)
          clear kp p0 p2 p1
          have A703 := A702.iconst (z := (0 : Int32)) (pc' := 388) at_387 rfl rfl
          have A704 := A703.istore (Ls' := #[.val (.long a), .second, .val (.long x), .second, .val (.long z), .second, .val (.int p), .val (.int x0), .val (.int x1), .val (.int x2), .val (.int (2 : Int32)), .val (.int sa), .val (.int li), .val (.ref b54), .val (.ref b160), .val (.ref b282), .val (.int (-1 : Int32)), .val (.int (0 : Int32)), .val (.int (0 : Int32)), .val (.int (0 : Int32)), .val (.int (0 : Int32)), .val (.int (0 : Int32)), .unset]) (pc' := 390) at_388 rfl rfl
          have A705 := A704.iload (v := (0 : Int32)) (pc' := 392) at_390 rfl rfl
          have A707 := A705.ifYes (pc' := 405) at_392 (teq (ieq (x := (0 : Int32)) (y := (0 : Int32)) rfl rfl (by decide : (0 : Int) = 0))).1 (by decide) (by decide)
          have A708 := A707.iconst (z := (-1 : Int32)) (pc' := 406) at_405 rfl rfl
          have A709 := A708.istore (Ls' := #[.val (.long a), .second, .val (.long x), .second, .val (.long z), .second, .val (.int p), .val (.int x0), .val (.int x1), .val (.int x2), .val (.int (2 : Int32)), .val (.int sa), .val (.int li), .val (.ref b54), .val (.ref b160), .val (.ref b282), .val (.int (-1 : Int32)), .val (.int (0 : Int32)), .val (.int (0 : Int32)), .val (.int (0 : Int32)), .val (.int (0 : Int32)), .val (.int (0 : Int32)), .val (.int (-1 : Int32))]) (pc' := 408) at_406 rfl rfl
          have A710 := A709.iload (v := (-1 : Int32)) (pc' := 410) at_408 rfl rfl
          have A711 := A710.iload (v := (-1 : Int32)) (pc' := 412) at_410 rfl rfl
          have A713 := A711.icmpNo (pc' := 415) at_412 (teq (ieq (x := (-1 : Int32)) (y := (-1 : Int32)) rfl rfl (by decide : ((-1) : Int) = (-1)))).2 rfl
          have A714 := A713.iconst (z := (1 : Int32)) (pc' := 416) at_415 rfl rfl
          have A715 := A714.goto (pc' := 420) at_416 (by decide) (by decide)
          refine A715.retN (t := .boolean) (z' := (1 : Int32)) at_420 (by decide) (by decide) (by simp) rfl ⟨_, rfl, ⟨trivial, ?_⟩⟩
          have elit : (1 : Int32).toInt = 1 := rfl
          rfl
      · have kp : (32 ≤ x0.toInt ∧ x0.toInt < 128 ∧ ¬ (x0.toInt = 34) ∧ ¬ (x0.toInt = 92)) ∧ ¬ (32 ≤ x1.toInt ∧ x1.toInt < 128 ∧ ¬ (x1.toInt = 34) ∧ ¬ (x1.toInt = 92)) := ⟨p0, p1⟩
        obtain ⟨h716, b717, eb718, g719, E720, X721, D722, A723⟩ := A280.newO (C' := 8) (S' := 25) (pc' := 221) at_218 (hw _ (List.mem_of_getElem? (i := 50) rfl)) (hw _ (List.mem_of_getElem? (i := 51) rfl)) (hw _ (List.mem_of_getElem? (i := 52) rfl)) (by decide) (by decide) rfl rfl rfl
        have f724 := ((f261.keep K250 nin0).other w278 ne167)
        have ne725 : b54 ≠ b717 := Nat.ne_of_lt (Nat.lt_of_lt_of_le f724.lt (Nat.le_of_eq eb718.symm))
        have ne726 : b160 ≠ b717 := Nat.ne_of_lt (Nat.lt_of_lt_of_le X279.lt (Nat.le_of_eq eb718.symm))
        have f727 := ((f264.keep K250).wr w278)
        have ne728 : b172 ≠ b717 := Nat.ne_of_lt (Nat.lt_of_lt_of_le f727.lt (Nat.le_of_eq eb718.symm))
        have f729 := ((f266.keep K250 nin0).other w278 (Ne.symm ne197))
        have ne730 : b187 ≠ b717 := Nat.ne_of_lt (Nat.lt_of_lt_of_le f729.lt (Nat.le_of_eq eb718.symm))
        have f731 := ((f268.keep K250 nin0).other w278 (Ne.symm ne232))
        have ne732 : b222 ≠ b717 := Nat.ne_of_lt (Nat.lt_of_lt_of_le f731.lt (Nat.le_of_eq eb718.symm))
        have f733 := (f256.wr w278)
        have ne734 : r247 ≠ b717 := Nat.ne_of_lt (Nat.lt_of_lt_of_le f733.lt (Nat.le_of_eq eb718.symm))
        have f735 := (f259.other w278 (Ne.symm ne271))
        have ne736 : b251 ≠ b717 := Nat.ne_of_lt (Nat.lt_of_lt_of_le f735.lt (Nat.le_of_eq eb718.symm))
        have f737 : Fld Z h716 b717 "com/example/dialekt/dialekt/json/MemberNames" "names" "[Ljava/lang/String;" .null := D722 (Or.inr (hw _ (List.mem_of_getElem? (i := 58) rfl))) (ty := (.array (.object "java/lang/String"))) (by decide)
        have f738 : Fld Z h716 b717 "com/example/dialekt/dialekt/json/MemberNames" "plain" "[[B" .null := D722 (Or.inr (hw _ (List.mem_of_getElem? (i := 62) rfl))) (ty := (.array (.array .byte))) (by decide)
        have f739 : Fld Z h716 b717 "com/example/dialekt/dialekt/json/MemberNames" "plainLengths" "[I" .null := D722 (Or.inr (hw _ (List.mem_of_getElem? (i := 65) rfl))) (ty := (.array .int)) (by decide)
        have A740 := A723.dup (pc' := 222) at_221 rfl rfl
        have A741 := A740.aload (v := (.ref b160)) (pc' := 224) at_222 rfl rfl rfl
        have f742 := (X279.ext E720)
        have f743 := (f727.ext E720)
        have f744 := ((((f226.other w238 (Or.inl (Ne.symm ne181))).keep K250 nin0).other w278 (Or.inl (Ne.symm ne181))).ext E720)
        have f745 := ((((f225.other w238 (Or.inl (Ne.symm ne181))).keep K250 nin0).other w278 (Or.inl (Ne.symm ne181))).ext E720)
        have f746 := (f731.ext E720)
        have f747 := ((((f228.wr w238).keep K250).wr w278).ext E720)
        have f748 := (f733.ext E720)
        have f749 := ((f258.other w278 (Or.inl (Ne.symm ne263))).ext E720)
        have f750 := ((f257.other w278 (Or.inl (Ne.symm ne263))).ext E720)
        have f751 := (f735.ext E720)
        have f752 := ((f260.wr w278).ext E720)
        have f753 := (((f245.keep K250 all0).wr w278 g162).ext E720)
        obtain ⟨h757, ⟨b759, b760, b761, K758, g762, z763, g764, z765, g766, z767, f768, f769, f770, f771, f772, q756⟩, A754⟩ := W.kV (A741.callI (a := b717) (argsL := [(.ref b160)]) (rest := [(.ref b717)]) (C' := 11) (S' := 32) (pc' := 227) at_224 rfl (hw _ (List.mem_of_getElem? (i := 53) rfl)) (hw _ (List.mem_of_getElem? (i := 54) rfl)) (hw _ (List.mem_of_getElem? (i := 52) rfl)) (hw _ (List.mem_of_getElem? (i := 55) rfl)) (rm12_MP l Z a0 hw n0 [] (b717) (b160) (b172) (r247) (b222) (b251) (iso) (u8) (nb) (x0) (x1) (x2) (_) (_) h716 A741.size X721 g719 f737 f738 f739 f742 f743 f744 f745 f746 f747 f748 f749 f750 f751 f752 ne726 ne728 ne732 ne734 ne736 (by assumption) (by assumption) (by assumption) f753 e1 (by assumption) e3 (by assumption) e5 e6 e7 e8 e9 e10 e11 (by assumption) (by assumption)) rfl rfl pd_21 rfl rfl (by decide) (by decide) (Nat.le_of_ble_eq_true rfl) (by decide) (by decide) rfl rfl rfl)
        have f773 := (f724.ext E720)
        have ne774 : b54 ≠ b759 := Nat.ne_of_lt (Nat.lt_of_lt_of_le f773.lt z763)
        have ne775 : b160 ≠ b759 := Nat.ne_of_lt (Nat.lt_of_lt_of_le f742.lt z763)
        have ne776 : b172 ≠ b759 := Nat.ne_of_lt (Nat.lt_of_lt_of_le f743.lt z763)
        have f777 := (f729.ext E720)
        have ne778 : b187 ≠ b759 := Nat.ne_of_lt (Nat.lt_of_lt_of_le f777.lt z763)
        have ne779 : b222 ≠ b759 := Nat.ne_of_lt (Nat.lt_of_lt_of_le f746.lt z763)
        have ne780 : r247 ≠ b759 := Nat.ne_of_lt (Nat.lt_of_lt_of_le f748.lt z763)
        have ne781 : b251 ≠ b759 := Nat.ne_of_lt (Nat.lt_of_lt_of_le f751.lt z763)
        have ne782 : b717 ≠ b759 := Nat.ne_of_lt (Nat.lt_of_lt_of_le X721.lt z763)
        have ne783 : b54 ≠ b760 := Nat.ne_of_lt (Nat.lt_of_lt_of_le f773.lt z765)
        have ne784 : b160 ≠ b760 := Nat.ne_of_lt (Nat.lt_of_lt_of_le f742.lt z765)
        have ne785 : b172 ≠ b760 := Nat.ne_of_lt (Nat.lt_of_lt_of_le f743.lt z765)
        have ne786 : b187 ≠ b760 := Nat.ne_of_lt (Nat.lt_of_lt_of_le f777.lt z765)
        have ne787 : b222 ≠ b760 := Nat.ne_of_lt (Nat.lt_of_lt_of_le f746.lt z765)
        have ne788 : r247 ≠ b760 := Nat.ne_of_lt (Nat.lt_of_lt_of_le f748.lt z765)
        have ne789 : b251 ≠ b760 := Nat.ne_of_lt (Nat.lt_of_lt_of_le f751.lt z765)
        have ne790 : b717 ≠ b760 := Nat.ne_of_lt (Nat.lt_of_lt_of_le X721.lt z765)
        have ne791 : b54 ≠ b761 := Nat.ne_of_lt (Nat.lt_of_lt_of_le f773.lt z767)
        have ne792 : b160 ≠ b761 := Nat.ne_of_lt (Nat.lt_of_lt_of_le f742.lt z767)
        have ne793 : b172 ≠ b761 := Nat.ne_of_lt (Nat.lt_of_lt_of_le f743.lt z767)
        have ne794 : b187 ≠ b761 := Nat.ne_of_lt (Nat.lt_of_lt_of_le f777.lt z767)
        have ne795 : b222 ≠ b761 := Nat.ne_of_lt (Nat.lt_of_lt_of_le f746.lt z767)
        have ne796 : r247 ≠ b761 := Nat.ne_of_lt (Nat.lt_of_lt_of_le f748.lt z767)
        have ne797 : b251 ≠ b761 := Nat.ne_of_lt (Nat.lt_of_lt_of_le f751.lt z767)
        have ne798 : b717 ≠ b761 := Nat.ne_of_lt (Nat.lt_of_lt_of_le X721.lt z767)
        have A799 := A754.astore (Ls' := #[.val (.long a), .second, .val (.long x), .second, .val (.long z), .second, .val (.int p), .val (.int x0), .val (.int x1), .val (.int x2), .val (.int ix), .val (.int sa), .val (.int li), .val (.ref b54), .val (.ref b160), .val (.ref b717), .unset, .unset, .unset, .unset, .unset, .unset, .unset]) (pc' := 229) at_227 rfl rfl rfl
        obtain hi | hi | hi := own_three ix kix
        · have A800 := A799.cast (Ls' := #[.val (.long a), .second, .val (.long x), .second, .val (.long z), .second, .val (.int p), .val (.int x0), .val (.int x1), .val (.int x2), .val (.int (0 : Int32)), .val (.int sa), .val (.int li), .val (.ref b54), .val (.ref b160), .val (.ref b717), .unset, .unset, .unset, .unset, .unset, .unset, .unset]) rfl (by rw [hi]) rfl
          have A801 := A800.aload (v := (.ref b717)) (pc' := 231) at_229 rfl rfl rfl
          have A802 := A801.iload (v := (0 : Int32)) (pc' := 233) at_231 rfl rfl
          have A803 := A802.aload (v := (.ref b54)) (pc' := 235) at_233 rfl rfl rfl
          have A804 := A803.iload (v := sa) (pc' := 237) at_235 rfl rfl
          have A805 := A804.iload (v := li) (pc' := 239) at_237 rfl rfl
          have f806 := (f773.keep K758 (ninS ne725 nin0))
          have f809 := (X721.keep K758)
          obtain ⟨r808, _, ⟨rfl, q810⟩, A807⟩ := W.kI (A805.callV (a := b717) (argsL := [(.int (0 : Int32)), (.ref b54), (.int sa), (.int li)]) (rest := []) (C' := 11) (S' := 32) (pc' := 242) at_239 f809 (hw _ (List.mem_of_getElem? (i := 101) rfl)) (hw _ (List.mem_of_getElem? (i := 102) rfl)) (fun hZ => notFace_of_selects (args := #[]) (mvT hZ (hw _ (List.mem_of_getElem? (i := 104) rfl)))) (hw _ (List.mem_of_getElem? (i := 104) rfl)) (hw _ (List.mem_of_getElem? (i := 103) rfl)) (hw _ (List.mem_of_getElem? (i := 52) rfl)) (hw _ (List.mem_of_getElem? (i := 105) rfl)) (rm20_N0 l Z a0 hw n0 [] (b717) (b54) (sa) (li) (b759) (b760) (nb) ((upd (upd (upd (fun _ => .null) 0 (.ref nb)) 1 (.ref b761)) 2 (.ref nb))) ((upd (upd (upd (fun _ => (.int (0 : Int32))) 0 (.int (2147483647 : Int32))) 1 (.int (1 : Int32))) 2 (.int (2147483647 : Int32)))) ((upd (upd (upd (upd (upd (upd (fun _ => (.int (0 : Int32))) 0 (.int r71.toInt8.toInt32)) 1 (.int r87.toInt8.toInt32)) 2 (.int r103.toInt8.toInt32)) 3 (.int r119.toInt8.toInt32)) 4 (.int r135.toInt8.toInt32)) 5 (.int r151.toInt8.toInt32))) (T) h757 A805.size f806 (by exact hT) (by exact ⟨ksa.1, ksa.2, kli.1, kli.2⟩) f768 f769 f770 f771 (by rfl) (by rfl)) rfl rfl pd_22 rfl rfl (by decide) (by decide) (Nat.le_of_ble_eq_true rfl) (by decide) (by decide) rfl rfl rfl)
          subst q810
          have A812 := A807.istore (Ls' := #[.val (.long a), .second, .val (.long x), .second, .val (.long z), .second, .val (.int p), .val (.int x0), .val (.int x1), .val (.int x2), .val (.int (0 : Int32)), .val (.int sa), .val (.int li), .val (.ref b54), .val (.ref b160), .val (.ref b717), .val (.int (-1 : Int32)), .unset, .unset, .unset, .unset, .unset, .unset]) (pc' := 244) at_242 rfl rfl
          clear e7 ne167 ne180 ne181 ne195 ne197 ne198 ne230 ne232 ne233 ne234 ne262 ne263 ne265 ne267 ne269 ne270 ne271 ne272 ne273 ne274 ne725 ne726 ne728 ne730 ne732 ne734 ne736 ne774 ne775 ne776 ne778 ne779 ne780 ne781 ne782 ne783 ne784 ne785 ne786 ne787 ne788 ne789 ne790 ne791 ne792 ne793 ne794 ne795 ne796 ne797 ne798
          have a0_ := addc32 sa (0 : Int32) 0 rfl (by omega) (by omega)
          have a1_ := addc32 sa (1 : Int32) 1 rfl (by omega) (by omega)
          have a2_ := addc32 sa (2 : Int32) 2 rfl (by omega) (by omega)
          have z1_ := addc32 (sa + (1 : Int32)) (1 : Int32) 1 rfl (by omega) (by omega)
          have z2_ := addc32 (sa + (2 : Int32)) (1 : Int32) 1 rfl (by omega) (by omega)
          have A813 := A812.iload (v := (0 : Int32)) (pc' := 246) at_244 rfl rfl
          have A815 := A813.ifNo (pc' := 249) at_246 (teq (ieq (x := (0 : Int32)) (y := (0 : Int32)) rfl rfl (by decide : (0 : Int) = 0))).2 rfl
          have A816 := A815.iload (v := x0) (pc' := 251) at_249 rfl rfl
          obtain ⟨r818, _, ⟨rfl, q819⟩, A817⟩ := W.kI (A816.callS (argsL := [(.int x0)]) (rest := []) (C' := 11) (S' := 32) (pc' := 254) at_251 (hw _ (List.mem_of_getElem? (i := 106) rfl)) (hw _ (List.mem_of_getElem? (i := 107) rfl)) (hw _ (List.mem_of_getElem? (i := 4) rfl)) (hw _ (List.mem_of_getElem? (i := 108) rfl)) (rm21 l Z a0 hw n0 [] (x0)  h757 A816.size ) rfl rfl pd_4 rfl rfl (by decide) (by decide) (Nat.le_of_ble_eq_true rfl) (by decide) (by decide) rfl rfl rfl)
          by_cases c821 : r818.toInt = 0
          · exfalso
            omega
          · have A823 := A817.ifNo (pc' := 257) at_254 (feq (ine (x := r818) (y := (0 : Int32)) rfl rfl c821)).1 rfl
            have A824 := A823.iload (v := x1) (pc' := 259) at_257 rfl rfl
            obtain ⟨r826, _, ⟨rfl, q827⟩, A825⟩ := W.kI (A824.callS (argsL := [(.int x1)]) (rest := []) (C' := 11) (S' := 32) (pc' := 262) at_259 (hw _ (List.mem_of_getElem? (i := 106) rfl)) (hw _ (List.mem_of_getElem? (i := 107) rfl)) (hw _ (List.mem_of_getElem? (i := 4) rfl)) (hw _ (List.mem_of_getElem? (i := 108) rfl)) (rm21 l Z a0 hw n0 [] (x1)  h757 A824.size ) rfl rfl pd_4 rfl rfl (by decide) (by decide) (Nat.le_of_ble_eq_true rfl) (by decide) (by decide) rfl rfl rfl)
            by_cases c829 : r826.toInt = 0
            · have A830 := A825.ifYes (pc' := 269) at_262 (teq (ieq (x := r826) (y := (0 : Int32)) rfl rfl c829)).1 (by decide) (by decide)
              have A831 := A830.iconst (z := (0 : Int32)) (pc' := 270) at_269 rfl rfl
              have A832 := A831.istore (Ls' := #[.val (.long a), .second, .val (.long x), .second, .val (.long z), .second, .val (.int p), .val (.int x0), .val (.int x1), .val (.int x2), .val (.int (0 : Int32)), .val (.int sa), .val (.int li), .val (.ref b54), .val (.ref b160), .val (.ref b717), .val (.int (-1 : Int32)), .val (.int (0 : Int32)), .unset, .unset, .unset, .unset, .unset]) (pc' := 272) at_270 rfl rfl
              have A833 := A832.iconst (z := (2 : Int32)) (pc' := 273) at_272 rfl rfl
              have A834 := A833.istore (Ls' := #[.val (.long a), .second, .val (.long x), .second, .val (.long z), .second, .val (.int p), .val (.int x0), .val (.int x1), .val (.int x2), .val (.int (0 : Int32)), .val (.int sa), .val (.int li), .val (.ref b54), .val (.ref b160), .val (.ref b717), .val (.int (-1 : Int32)), .val (.int (0 : Int32)), .val (.int (2 : Int32)), .unset, .unset, .unset, .unset]) (pc' := 275) at_273 rfl rfl
              have A835 := A834.iload (v := x0) (pc' := 277) at_275 rfl rfl
              have A836 := A835.istore (Ls' := #[.val (.long a), .second, .val (.long x), .second, .val (.long z), .second, .val (.int p), .val (.int x0), .val (.int x1), .val (.int x2), .val (.int (0 : Int32)), .val (.int sa), .val (.int li), .val (.ref b54), .val (.ref b160), .val (.ref b717), .val (.int (-1 : Int32)), .val (.int (0 : Int32)), .val (.int (2 : Int32)), .val (.int x0), .unset, .unset, .unset]) (pc' := 279) at_277 rfl rfl
              have A837 := A836.iload (v := x1) (pc' := 281) at_279 rfl rfl
              have A838 := A837.istore (Ls' := #[.val (.long a), .second, .val (.long x), .second, .val (.long z), .second, .val (.int p), .val (.int x0), .val (.int x1), .val (.int x2), .val (.int (0 : Int32)), .val (.int sa), .val (.int li), .val (.ref b54), .val (.ref b160), .val (.ref b717), .val (.int (-1 : Int32)), .val (.int (0 : Int32)), .val (.int (2 : Int32)), .val (.int x0), .val (.int x1), .unset, .unset]) (pc' := 283) at_281 rfl rfl
              have A839 := A838.goto (pc' := 325) at_283 (by decide) (by decide)
              have A840 := A839.iload (v := (0 : Int32)) (pc' := 327) at_325 rfl rfl
              have A842 := A840.ifYes (pc' := 387) at_327 (teq (ieq (x := (0 : Int32)) (y := (0 : Int32)) rfl rfl (by decide : (0 : Int) = 0))).1 (by decide) (by decide)
              clear q819 q827 kp p0 p2 p1
              have A843 := A842.iconst (z := (0 : Int32)) (pc' := 388) at_387 rfl rfl
              have A844 := A843.istore (Ls' := #[.val (.long a), .second, .val (.long x), .second, .val (.long z), .second, .val (.int p), .val (.int x0), .val (.int x1), .val (.int x2), .val (.int (0 : Int32)), .val (.int sa), .val (.int li), .val (.ref b54), .val (.ref b160), .val (.ref b717), .val (.int (-1 : Int32)), .val (.int (0 : Int32)), .val (.int (2 : Int32)), .val (.int x0), .val (.int x1), .val (.int (0 : Int32)), .unset]) (pc' := 390) at_388 rfl rfl
              have A845 := A844.iload (v := (0 : Int32)) (pc' := 392) at_390 rfl rfl
              have A847 := A845.ifYes (pc' := 405) at_392 (teq (ieq (x := (0 : Int32)) (y := (0 : Int32)) rfl rfl (by decide : (0 : Int) = 0))).1 (by decide) (by decide)
              have A848 := A847.iconst (z := (-1 : Int32)) (pc' := 406) at_405 rfl rfl
              have A849 := A848.istore (Ls' := #[.val (.long a), .second, .val (.long x), .second, .val (.long z), .second, .val (.int p), .val (.int x0), .val (.int x1), .val (.int x2), .val (.int (0 : Int32)), .val (.int sa), .val (.int li), .val (.ref b54), .val (.ref b160), .val (.ref b717), .val (.int (-1 : Int32)), .val (.int (0 : Int32)), .val (.int (2 : Int32)), .val (.int x0), .val (.int x1), .val (.int (0 : Int32)), .val (.int (-1 : Int32))]) (pc' := 408) at_406 rfl rfl
              have A850 := A849.iload (v := (-1 : Int32)) (pc' := 410) at_408 rfl rfl
              have A851 := A850.iload (v := (-1 : Int32)) (pc' := 412) at_410 rfl rfl
              have A853 := A851.icmpNo (pc' := 415) at_412 (teq (ieq (x := (-1 : Int32)) (y := (-1 : Int32)) rfl rfl (by decide : ((-1) : Int) = (-1)))).2 rfl
              have A854 := A853.iconst (z := (1 : Int32)) (pc' := 416) at_415 rfl rfl
              have A855 := A854.goto (pc' := 420) at_416 (by decide) (by decide)
              refine A855.retN (t := .boolean) (z' := (1 : Int32)) at_420 (by decide) (by decide) (by simp) rfl ⟨_, rfl, ⟨trivial, ?_⟩⟩
              have elit : (1 : Int32).toInt = 1 := rfl
              rfl
            · exfalso
              omega
        · have A857 := A799.cast (Ls' := #[.val (.long a), .second, .val (.long x), .second, .val (.long z), .second, .val (.int p), .val (.int x0), .val (.int x1), .val (.int x2), .val (.int (1 : Int32)), .val (.int sa), .val (.int li), .val (.ref b54), .val (.ref b160), .val (.ref b717), .unset, .unset, .unset, .unset, .unset, .unset, .unset]) rfl (by rw [hi]) rfl
          have A858 := A857.aload (v := (.ref b717)) (pc' := 231) at_229 rfl rfl rfl
          have A859 := A858.iload (v := (1 : Int32)) (pc' := 233) at_231 rfl rfl
          have A860 := A859.aload (v := (.ref b54)) (pc' := 235) at_233 rfl rfl rfl
          have A861 := A860.iload (v := sa) (pc' := 237) at_235 rfl rfl
          have A862 := A861.iload (v := li) (pc' := 239) at_237 rfl rfl
          have f863 := (f773.keep K758 (ninS ne725 nin0))
          have f866 := (X721.keep K758)
          obtain ⟨r865, _, ⟨rfl, q867⟩, A864⟩ := W.kI (A862.callV (a := b717) (argsL := [(.int (1 : Int32)), (.ref b54), (.int sa), (.int li)]) (rest := []) (C' := 11) (S' := 32) (pc' := 242) at_239 f866 (hw _ (List.mem_of_getElem? (i := 101) rfl)) (hw _ (List.mem_of_getElem? (i := 102) rfl)) (fun hZ => notFace_of_selects (args := #[]) (mvT hZ (hw _ (List.mem_of_getElem? (i := 104) rfl)))) (hw _ (List.mem_of_getElem? (i := 104) rfl)) (hw _ (List.mem_of_getElem? (i := 103) rfl)) (hw _ (List.mem_of_getElem? (i := 52) rfl)) (hw _ (List.mem_of_getElem? (i := 105) rfl)) (rm20_P1 l Z a0 hw n0 [] (b717) (b54) (sa) (li) (b759) (b760) (b761) ((upd (upd (upd (fun _ => .null) 0 (.ref nb)) 1 (.ref b761)) 2 (.ref nb))) ((upd (upd (upd (fun _ => (.int (0 : Int32))) 0 (.int (2147483647 : Int32))) 1 (.int (1 : Int32))) 2 (.int (2147483647 : Int32)))) ((upd (fun _ => (.int (0 : Int32))) 0 (.int x2.toInt8.toInt32.toInt8.toInt32))) ((upd (upd (upd (upd (upd (upd (fun _ => (.int (0 : Int32))) 0 (.int r71.toInt8.toInt32)) 1 (.int r87.toInt8.toInt32)) 2 (.int r103.toInt8.toInt32)) 3 (.int r119.toInt8.toInt32)) 4 (.int r135.toInt8.toInt32)) 5 (.int r151.toInt8.toInt32))) (T) (x2.toInt8.toInt32) h757 A862.size f863 (by exact hT) (by exact ⟨ksa.1, ksa.2, kli.1, kli.2⟩) f768 f769 f770 f771 (by rfl) (by rfl) f772 (by exact congrArg Value.int (own_bb _))) rfl rfl pd_22 rfl rfl (by decide) (by decide) (Nat.le_of_ble_eq_true rfl) (by decide) (by decide) rfl rfl rfl)
          have hE := own_hid q867
          clear q867
          have A869 := A864.istore (Ls' := #[.val (.long a), .second, .val (.long x), .second, .val (.long z), .second, .val (.int p), .val (.int x0), .val (.int x1), .val (.int x2), .val (.int (1 : Int32)), .val (.int sa), .val (.int li), .val (.ref b54), .val (.ref b160), .val (.ref b717), .val (.int r865), .unset, .unset, .unset, .unset, .unset, .unset]) (pc' := 244) at_242 rfl rfl
          clear e7 ne167 ne180 ne181 ne195 ne197 ne198 ne230 ne232 ne233 ne234 ne262 ne263 ne265 ne267 ne269 ne270 ne271 ne272 ne273 ne274 ne725 ne726 ne728 ne730 ne732 ne734 ne736 ne774 ne775 ne776 ne778 ne779 ne780 ne781 ne782 ne783 ne784 ne785 ne786 ne787 ne788 ne789 ne790 ne791 ne792 ne793 ne794 ne795 ne796 ne797 ne798
          have a0_ := addc32 sa (0 : Int32) 0 rfl (by omega) (by omega)
          have a1_ := addc32 sa (1 : Int32) 1 rfl (by omega) (by omega)
          have a2_ := addc32 sa (2 : Int32) 2 rfl (by omega) (by omega)
          have z1_ := addc32 (sa + (1 : Int32)) (1 : Int32) 1 rfl (by omega) (by omega)
          have z2_ := addc32 (sa + (2 : Int32)) (1 : Int32) 1 rfl (by omega) (by omega)
          have A870 := A869.iload (v := (1 : Int32)) (pc' := 246) at_244 rfl rfl
          have A872 := A870.ifYes (pc' := 286) at_246 (feq (ine (x := (1 : Int32)) (y := (0 : Int32)) rfl rfl (by decide : ¬ ((1 : Int) = 0)))).2 (by decide) (by decide)
          have A873 := A872.iload (v := (1 : Int32)) (pc' := 288) at_286 rfl rfl
          have A874 := A873.iconst (z := (1 : Int32)) (pc' := 289) at_288 rfl rfl
          have A876 := A874.icmpNo (pc' := 292) at_289 (teq (ieq (x := (1 : Int32)) (y := (1 : Int32)) rfl rfl (by decide : (1 : Int) = 1))).2 rfl
          have A877 := A876.iload (v := x2) (pc' := 294) at_292 rfl rfl
          obtain ⟨r879, _, ⟨rfl, q880⟩, A878⟩ := W.kI (A877.callS (argsL := [(.int x2)]) (rest := []) (C' := 11) (S' := 32) (pc' := 297) at_294 (hw _ (List.mem_of_getElem? (i := 106) rfl)) (hw _ (List.mem_of_getElem? (i := 107) rfl)) (hw _ (List.mem_of_getElem? (i := 4) rfl)) (hw _ (List.mem_of_getElem? (i := 108) rfl)) (rm21 l Z a0 hw n0 [] (x2)  h757 A877.size ) rfl rfl pd_4 rfl rfl (by decide) (by decide) (Nat.le_of_ble_eq_true rfl) (by decide) (by decide) rfl rfl rfl)
          have A882 := A878.istore (Ls' := #[.val (.long a), .second, .val (.long x), .second, .val (.long z), .second, .val (.int p), .val (.int x0), .val (.int x1), .val (.int x2), .val (.int (1 : Int32)), .val (.int sa), .val (.int li), .val (.ref b54), .val (.ref b160), .val (.ref b717), .val (.int r865), .val (.int r879), .unset, .unset, .unset, .unset, .unset]) (pc' := 299) at_297 rfl rfl
          have A883 := A882.iconst (z := (1 : Int32)) (pc' := 300) at_299 rfl rfl
          have A884 := A883.istore (Ls' := #[.val (.long a), .second, .val (.long x), .second, .val (.long z), .second, .val (.int p), .val (.int x0), .val (.int x1), .val (.int x2), .val (.int (1 : Int32)), .val (.int sa), .val (.int li), .val (.ref b54), .val (.ref b160), .val (.ref b717), .val (.int r865), .val (.int r879), .val (.int (1 : Int32)), .unset, .unset, .unset, .unset]) (pc' := 302) at_300 rfl rfl
          have A885 := A884.iload (v := x2) (pc' := 304) at_302 rfl rfl
          have A886 := A885.istore (Ls' := #[.val (.long a), .second, .val (.long x), .second, .val (.long z), .second, .val (.int p), .val (.int x0), .val (.int x1), .val (.int x2), .val (.int (1 : Int32)), .val (.int sa), .val (.int li), .val (.ref b54), .val (.ref b160), .val (.ref b717), .val (.int r865), .val (.int r879), .val (.int (1 : Int32)), .val (.int x2), .unset, .unset, .unset]) (pc' := 306) at_304 rfl rfl
          have A887 := A886.iload (v := x2) (pc' := 308) at_306 rfl rfl
          have A888 := A887.istore (Ls' := #[.val (.long a), .second, .val (.long x), .second, .val (.long z), .second, .val (.int p), .val (.int x0), .val (.int x1), .val (.int x2), .val (.int (1 : Int32)), .val (.int sa), .val (.int li), .val (.ref b54), .val (.ref b160), .val (.ref b717), .val (.int r865), .val (.int r879), .val (.int (1 : Int32)), .val (.int x2), .val (.int x2), .unset, .unset]) (pc' := 310) at_308 rfl rfl
          have A889 := A888.goto (pc' := 325) at_310 (by decide) (by decide)
          have A890 := A889.iload (v := r879) (pc' := 327) at_325 rfl rfl
          by_cases c891 : r879.toInt = 0
          · exfalso
            omega
          · have A893 := A890.ifNo (pc' := 330) at_327 (feq (ine (x := r879) (y := (0 : Int32)) rfl rfl c891)).1 rfl
            clear q880 kp p0 p2 p1
            have A894 := A893.iload (v := sa) (pc' := 332) at_330 rfl rfl
            have A895 := A894.iload (v := (1 : Int32)) (pc' := 334) at_332 rfl rfl
            have A896 := A895.iadd (pc' := 335) at_334 rfl
            have A897 := A896.iload (v := li) (pc' := 337) at_335 rfl rfl
            by_cases c898 : (sa + (1 : Int32)).toInt < li.toInt
            · have A899 := A897.icmpNo (pc' := 340) at_337 (tlt (ilt (x := (sa + (1 : Int32))) (y := li) rfl rfl c898)).2.1 rfl
              have A900 := A899.aload (v := (.ref b54)) (pc' := 342) at_340 rfl rfl rfl
              have A901 := A900.iload (v := sa) (pc' := 344) at_342 rfl rfl
              have A902 := A901.baload (i := (sa.toInt.toNat + 0)) (v := (.int (T (sa.toInt.toNat + 0)))) (pc' := 345) at_344 f863 (by omega) (by omega) (hT _) rfl
              have A903 := A902.iload (v := x2) (pc' := 347) at_345 rfl rfl
              have A904 := A903.i2b (pc' := 348) at_347 rfl
              by_cases c905 : (T (sa.toInt.toNat + 0)).toInt = x2.toInt8.toInt32.toInt
              · have A906 := A904.icmpNo (pc' := 351) at_348 (teq (ieq (x := (T (sa.toInt.toNat + 0))) (y := x2.toInt8.toInt32) rfl rfl c905)).2 rfl
                have A907 := A906.iload (v := (1 : Int32)) (pc' := 353) at_351 rfl rfl
                have A908 := A907.iconst (z := (2 : Int32)) (pc' := 354) at_353 rfl rfl
                have A910 := A908.icmpYes (pc' := 370) at_354 (tlt (ilt (x := (1 : Int32)) (y := (2 : Int32)) rfl rfl (by decide : (1 : Int) < 2))).1 (by decide) (by decide)
                have A911 := A910.aload (v := (.ref b54)) (pc' := 372) at_370 rfl rfl rfl
                have A912 := A911.iload (v := sa) (pc' := 374) at_372 rfl rfl
                have A913 := A912.iload (v := (1 : Int32)) (pc' := 376) at_374 rfl rfl
                have A914 := A913.iadd (pc' := 377) at_376 rfl
                have A915 := A914.baload (i := (sa.toInt.toNat + 1)) (v := (.int (T (sa.toInt.toNat + 1)))) (pc' := 378) at_377 f863 (by omega) (by omega) (hT _) rfl
                have A916 := A915.bipush (z := (34 : Int32)) (pc' := 380) at_378 rfl rfl
                by_cases c917 : (T (sa.toInt.toNat + 1)).toInt = 34
                · have A918 := A916.icmpNo (pc' := 383) at_380 (teq (ieq (x := (T (sa.toInt.toNat + 1))) (y := (34 : Int32)) rfl rfl c917)).2 rfl
                  have A919 := A918.iconst (z := (1 : Int32)) (pc' := 384) at_383 rfl rfl
                  have A920 := A919.goto (pc' := 388) at_384 (by decide) (by decide)
                  have A921 := A920.istore (Ls' := #[.val (.long a), .second, .val (.long x), .second, .val (.long z), .second, .val (.int p), .val (.int x0), .val (.int x1), .val (.int x2), .val (.int (1 : Int32)), .val (.int sa), .val (.int li), .val (.ref b54), .val (.ref b160), .val (.ref b717), .val (.int r865), .val (.int r879), .val (.int (1 : Int32)), .val (.int x2), .val (.int x2), .val (.int (1 : Int32)), .unset]) (pc' := 390) at_388 rfl rfl
                  have A922 := A921.iload (v := (1 : Int32)) (pc' := 392) at_390 rfl rfl
                  have A924 := A922.ifNo (pc' := 395) at_392 (feq (ine (x := (1 : Int32)) (y := (0 : Int32)) rfl rfl (by decide : ¬ ((1 : Int) = 0)))).1 rfl
                  have A925 := A924.iload (v := sa) (pc' := 397) at_395 rfl rfl
                  have A926 := A925.iload (v := (1 : Int32)) (pc' := 399) at_397 rfl rfl
                  have A927 := A926.iadd (pc' := 400) at_399 rfl
                  have A928 := A927.iconst (z := (1 : Int32)) (pc' := 401) at_400 rfl rfl
                  have A929 := A928.iadd (pc' := 402) at_401 rfl
                  have A930 := A929.goto (pc' := 406) at_402 (by decide) (by decide)
                  have A931 := A930.istore (Ls' := #[.val (.long a), .second, .val (.long x), .second, .val (.long z), .second, .val (.int p), .val (.int x0), .val (.int x1), .val (.int x2), .val (.int (1 : Int32)), .val (.int sa), .val (.int li), .val (.ref b54), .val (.ref b160), .val (.ref b717), .val (.int r865), .val (.int r879), .val (.int (1 : Int32)), .val (.int x2), .val (.int x2), .val (.int (1 : Int32)), .val (.int ((sa + (1 : Int32)) + (1 : Int32)))]) (pc' := 408) at_406 rfl rfl
                  have A932 := A931.iload (v := r865) (pc' := 410) at_408 rfl rfl
                  have A933 := A932.iload (v := ((sa + (1 : Int32)) + (1 : Int32))) (pc' := 412) at_410 rfl rfl
                  by_cases c934 : r865.toInt = ((sa + (1 : Int32)) + (1 : Int32)).toInt
                  · have A935 := A933.icmpNo (pc' := 415) at_412 (teq (ieq (x := r865) (y := ((sa + (1 : Int32)) + (1 : Int32))) rfl rfl c934)).2 rfl
                    have A936 := A935.iconst (z := (1 : Int32)) (pc' := 416) at_415 rfl rfl
                    have A937 := A936.goto (pc' := 420) at_416 (by decide) (by decide)
                    refine A937.retN (t := .boolean) (z' := (1 : Int32)) at_420 (by decide) (by decide) (by simp) rfl ⟨_, rfl, ⟨trivial, ?_⟩⟩
                    have elit : (1 : Int32).toInt = 1 := rfl
                    rfl
                  · have A938 := A933.icmpYes (pc' := 419) at_412 (feq (ine (x := r865) (y := ((sa + (1 : Int32)) + (1 : Int32))) rfl rfl c934)).2 (by decide) (by decide)
                    have A939 := A938.iconst (z := (0 : Int32)) (pc' := 420) at_419 rfl rfl
                    refine A939.retN (t := .boolean) (z' := (0 : Int32)) at_420 (by decide) (by decide) (by simp) rfl ⟨_, rfl, ⟨trivial, ?_⟩⟩
                    have elit : (0 : Int32).toInt = 0 := rfl
                    exfalso
                    unfold Hid at hE
                    omega
                · have A940 := A916.icmpYes (pc' := 387) at_380 (feq (ine (x := (T (sa.toInt.toNat + 1))) (y := (34 : Int32)) rfl rfl c917)).2 (by decide) (by decide)
                  have A941 := A940.iconst (z := (0 : Int32)) (pc' := 388) at_387 rfl rfl
                  have A942 := A941.istore (Ls' := #[.val (.long a), .second, .val (.long x), .second, .val (.long z), .second, .val (.int p), .val (.int x0), .val (.int x1), .val (.int x2), .val (.int (1 : Int32)), .val (.int sa), .val (.int li), .val (.ref b54), .val (.ref b160), .val (.ref b717), .val (.int r865), .val (.int r879), .val (.int (1 : Int32)), .val (.int x2), .val (.int x2), .val (.int (0 : Int32)), .unset]) (pc' := 390) at_388 rfl rfl
                  have A943 := A942.iload (v := (0 : Int32)) (pc' := 392) at_390 rfl rfl
                  have A945 := A943.ifYes (pc' := 405) at_392 (teq (ieq (x := (0 : Int32)) (y := (0 : Int32)) rfl rfl (by decide : (0 : Int) = 0))).1 (by decide) (by decide)
                  have A946 := A945.iconst (z := (-1 : Int32)) (pc' := 406) at_405 rfl rfl
                  have A947 := A946.istore (Ls' := #[.val (.long a), .second, .val (.long x), .second, .val (.long z), .second, .val (.int p), .val (.int x0), .val (.int x1), .val (.int x2), .val (.int (1 : Int32)), .val (.int sa), .val (.int li), .val (.ref b54), .val (.ref b160), .val (.ref b717), .val (.int r865), .val (.int r879), .val (.int (1 : Int32)), .val (.int x2), .val (.int x2), .val (.int (0 : Int32)), .val (.int (-1 : Int32))]) (pc' := 408) at_406 rfl rfl
                  have A948 := A947.iload (v := r865) (pc' := 410) at_408 rfl rfl
                  have A949 := A948.iload (v := (-1 : Int32)) (pc' := 412) at_410 rfl rfl
                  by_cases c950 : r865.toInt = (-1)
                  · have A951 := A949.icmpNo (pc' := 415) at_412 (teq (ieq (x := r865) (y := (-1 : Int32)) rfl rfl c950)).2 rfl
                    have A952 := A951.iconst (z := (1 : Int32)) (pc' := 416) at_415 rfl rfl
                    have A953 := A952.goto (pc' := 420) at_416 (by decide) (by decide)
                    refine A953.retN (t := .boolean) (z' := (1 : Int32)) at_420 (by decide) (by decide) (by simp) rfl ⟨_, rfl, ⟨trivial, ?_⟩⟩
                    have elit : (1 : Int32).toInt = 1 := rfl
                    rfl
                  · have A954 := A949.icmpYes (pc' := 419) at_412 (feq (ine (x := r865) (y := (-1 : Int32)) rfl rfl c950)).2 (by decide) (by decide)
                    have A955 := A954.iconst (z := (0 : Int32)) (pc' := 420) at_419 rfl rfl
                    refine A955.retN (t := .boolean) (z' := (0 : Int32)) at_420 (by decide) (by decide) (by simp) rfl ⟨_, rfl, ⟨trivial, ?_⟩⟩
                    have elit : (0 : Int32).toInt = 0 := rfl
                    exfalso
                    unfold Hid at hE
                    omega
              · have A956 := A904.icmpYes (pc' := 387) at_348 (feq (ine (x := (T (sa.toInt.toNat + 0))) (y := x2.toInt8.toInt32) rfl rfl c905)).2 (by decide) (by decide)
                have A957 := A956.iconst (z := (0 : Int32)) (pc' := 388) at_387 rfl rfl
                have A958 := A957.istore (Ls' := #[.val (.long a), .second, .val (.long x), .second, .val (.long z), .second, .val (.int p), .val (.int x0), .val (.int x1), .val (.int x2), .val (.int (1 : Int32)), .val (.int sa), .val (.int li), .val (.ref b54), .val (.ref b160), .val (.ref b717), .val (.int r865), .val (.int r879), .val (.int (1 : Int32)), .val (.int x2), .val (.int x2), .val (.int (0 : Int32)), .unset]) (pc' := 390) at_388 rfl rfl
                have A959 := A958.iload (v := (0 : Int32)) (pc' := 392) at_390 rfl rfl
                have A961 := A959.ifYes (pc' := 405) at_392 (teq (ieq (x := (0 : Int32)) (y := (0 : Int32)) rfl rfl (by decide : (0 : Int) = 0))).1 (by decide) (by decide)
                have A962 := A961.iconst (z := (-1 : Int32)) (pc' := 406) at_405 rfl rfl
                have A963 := A962.istore (Ls' := #[.val (.long a), .second, .val (.long x), .second, .val (.long z), .second, .val (.int p), .val (.int x0), .val (.int x1), .val (.int x2), .val (.int (1 : Int32)), .val (.int sa), .val (.int li), .val (.ref b54), .val (.ref b160), .val (.ref b717), .val (.int r865), .val (.int r879), .val (.int (1 : Int32)), .val (.int x2), .val (.int x2), .val (.int (0 : Int32)), .val (.int (-1 : Int32))]) (pc' := 408) at_406 rfl rfl
                have A964 := A963.iload (v := r865) (pc' := 410) at_408 rfl rfl
                have A965 := A964.iload (v := (-1 : Int32)) (pc' := 412) at_410 rfl rfl
                by_cases c966 : r865.toInt = (-1)
                · have A967 := A965.icmpNo (pc' := 415) at_412 (teq (ieq (x := r865) (y := (-1 : Int32)) rfl rfl c966)).2 rfl
                  have A968 := A967.iconst (z := (1 : Int32)) (pc' := 416) at_415 rfl rfl
                  have A969 := A968.goto (pc' := 420) at_416 (by decide) (by decide)
                  refine A969.retN (t := .boolean) (z' := (1 : Int32)) at_420 (by decide) (by decide) (by simp) rfl ⟨_, rfl, ⟨trivial, ?_⟩⟩
                  have elit : (1 : Int32).toInt = 1 := rfl
                  rfl
                · have A970 := A965.icmpYes (pc' := 419) at_412 (feq (ine (x := r865) (y := (-1 : Int32)) rfl rfl c966)).2 (by decide) (by decide)
                  have A971 := A970.iconst (z := (0 : Int32)) (pc' := 420) at_419 rfl rfl
                  refine A971.retN (t := .boolean) (z' := (0 : Int32)) at_420 (by decide) (by decide) (by simp) rfl ⟨_, rfl, ⟨trivial, ?_⟩⟩
                  have elit : (0 : Int32).toInt = 0 := rfl
                  exfalso
                  unfold Hid at hE
                  omega
            · have A972 := A897.icmpYes (pc' := 387) at_337 (flt (inlt (x := (sa + (1 : Int32))) (y := li) rfl rfl c898)).2.1 (by decide) (by decide)
              have A973 := A972.iconst (z := (0 : Int32)) (pc' := 388) at_387 rfl rfl
              have A974 := A973.istore (Ls' := #[.val (.long a), .second, .val (.long x), .second, .val (.long z), .second, .val (.int p), .val (.int x0), .val (.int x1), .val (.int x2), .val (.int (1 : Int32)), .val (.int sa), .val (.int li), .val (.ref b54), .val (.ref b160), .val (.ref b717), .val (.int r865), .val (.int r879), .val (.int (1 : Int32)), .val (.int x2), .val (.int x2), .val (.int (0 : Int32)), .unset]) (pc' := 390) at_388 rfl rfl
              have A975 := A974.iload (v := (0 : Int32)) (pc' := 392) at_390 rfl rfl
              have A977 := A975.ifYes (pc' := 405) at_392 (teq (ieq (x := (0 : Int32)) (y := (0 : Int32)) rfl rfl (by decide : (0 : Int) = 0))).1 (by decide) (by decide)
              have A978 := A977.iconst (z := (-1 : Int32)) (pc' := 406) at_405 rfl rfl
              have A979 := A978.istore (Ls' := #[.val (.long a), .second, .val (.long x), .second, .val (.long z), .second, .val (.int p), .val (.int x0), .val (.int x1), .val (.int x2), .val (.int (1 : Int32)), .val (.int sa), .val (.int li), .val (.ref b54), .val (.ref b160), .val (.ref b717), .val (.int r865), .val (.int r879), .val (.int (1 : Int32)), .val (.int x2), .val (.int x2), .val (.int (0 : Int32)), .val (.int (-1 : Int32))]) (pc' := 408) at_406 rfl rfl
              have A980 := A979.iload (v := r865) (pc' := 410) at_408 rfl rfl
              have A981 := A980.iload (v := (-1 : Int32)) (pc' := 412) at_410 rfl rfl
              by_cases c982 : r865.toInt = (-1)
              · have A983 := A981.icmpNo (pc' := 415) at_412 (teq (ieq (x := r865) (y := (-1 : Int32)) rfl rfl c982)).2 rfl
                have A984 := A983.iconst (z := (1 : Int32)) (pc' := 416) at_415 rfl rfl
                have A985 := A984.goto (pc' := 420) at_416 (by decide) (by decide)
                refine A985.retN (t := .boolean) (z' := (1 : Int32)) at_420 (by decide) (by decide) (by simp) rfl ⟨_, rfl, ⟨trivial, ?_⟩⟩
                have elit : (1 : Int32).toInt = 1 := rfl
                rfl
              · have A986 := A981.icmpYes (pc' := 419) at_412 (feq (ine (x := r865) (y := (-1 : Int32)) rfl rfl c982)).2 (by decide) (by decide)
                have A987 := A986.iconst (z := (0 : Int32)) (pc' := 420) at_419 rfl rfl
                refine A987.retN (t := .boolean) (z' := (0 : Int32)) at_420 (by decide) (by decide) (by simp) rfl ⟨_, rfl, ⟨trivial, ?_⟩⟩
                have elit : (0 : Int32).toInt = 0 := rfl
                exfalso
                unfold Hid at hE
                omega
        · have A988 := A799.cast (Ls' := #[.val (.long a), .second, .val (.long x), .second, .val (.long z), .second, .val (.int p), .val (.int x0), .val (.int x1), .val (.int x2), .val (.int (2 : Int32)), .val (.int sa), .val (.int li), .val (.ref b54), .val (.ref b160), .val (.ref b717), .unset, .unset, .unset, .unset, .unset, .unset, .unset]) rfl (by rw [hi]) rfl
          have A989 := A988.aload (v := (.ref b717)) (pc' := 231) at_229 rfl rfl rfl
          have A990 := A989.iload (v := (2 : Int32)) (pc' := 233) at_231 rfl rfl
          have A991 := A990.aload (v := (.ref b54)) (pc' := 235) at_233 rfl rfl rfl
          have A992 := A991.iload (v := sa) (pc' := 237) at_235 rfl rfl
          have A993 := A992.iload (v := li) (pc' := 239) at_237 rfl rfl
          have f994 := (f773.keep K758 (ninS ne725 nin0))
          have f997 := (X721.keep K758)
          obtain ⟨r996, _, ⟨rfl, q998⟩, A995⟩ := W.kI (A993.callV (a := b717) (argsL := [(.int (2 : Int32)), (.ref b54), (.int sa), (.int li)]) (rest := []) (C' := 11) (S' := 32) (pc' := 242) at_239 f997 (hw _ (List.mem_of_getElem? (i := 101) rfl)) (hw _ (List.mem_of_getElem? (i := 102) rfl)) (fun hZ => notFace_of_selects (args := #[]) (mvT hZ (hw _ (List.mem_of_getElem? (i := 104) rfl)))) (hw _ (List.mem_of_getElem? (i := 104) rfl)) (hw _ (List.mem_of_getElem? (i := 103) rfl)) (hw _ (List.mem_of_getElem? (i := 52) rfl)) (hw _ (List.mem_of_getElem? (i := 105) rfl)) (rm20_N2 l Z a0 hw n0 [] (b717) (b54) (sa) (li) (b759) (b760) (nb) ((upd (upd (upd (fun _ => .null) 0 (.ref nb)) 1 (.ref b761)) 2 (.ref nb))) ((upd (upd (upd (fun _ => (.int (0 : Int32))) 0 (.int (2147483647 : Int32))) 1 (.int (1 : Int32))) 2 (.int (2147483647 : Int32)))) ((upd (upd (upd (upd (upd (upd (fun _ => (.int (0 : Int32))) 0 (.int r71.toInt8.toInt32)) 1 (.int r87.toInt8.toInt32)) 2 (.int r103.toInt8.toInt32)) 3 (.int r119.toInt8.toInt32)) 4 (.int r135.toInt8.toInt32)) 5 (.int r151.toInt8.toInt32))) (T) h757 A993.size f994 (by exact hT) (by exact ⟨ksa.1, ksa.2, kli.1, kli.2⟩) f768 f769 f770 f771 (by rfl) (by rfl)) rfl rfl pd_22 rfl rfl (by decide) (by decide) (Nat.le_of_ble_eq_true rfl) (by decide) (by decide) rfl rfl rfl)
          subst q998
          have A1000 := A995.istore (Ls' := #[.val (.long a), .second, .val (.long x), .second, .val (.long z), .second, .val (.int p), .val (.int x0), .val (.int x1), .val (.int x2), .val (.int (2 : Int32)), .val (.int sa), .val (.int li), .val (.ref b54), .val (.ref b160), .val (.ref b717), .val (.int (-1 : Int32)), .unset, .unset, .unset, .unset, .unset, .unset]) (pc' := 244) at_242 rfl rfl
          clear e7 ne167 ne180 ne181 ne195 ne197 ne198 ne230 ne232 ne233 ne234 ne262 ne263 ne265 ne267 ne269 ne270 ne271 ne272 ne273 ne274 ne725 ne726 ne728 ne730 ne732 ne734 ne736 ne774 ne775 ne776 ne778 ne779 ne780 ne781 ne782 ne783 ne784 ne785 ne786 ne787 ne788 ne789 ne790 ne791 ne792 ne793 ne794 ne795 ne796 ne797 ne798
          have a0_ := addc32 sa (0 : Int32) 0 rfl (by omega) (by omega)
          have a1_ := addc32 sa (1 : Int32) 1 rfl (by omega) (by omega)
          have a2_ := addc32 sa (2 : Int32) 2 rfl (by omega) (by omega)
          have z1_ := addc32 (sa + (1 : Int32)) (1 : Int32) 1 rfl (by omega) (by omega)
          have z2_ := addc32 (sa + (2 : Int32)) (1 : Int32) 1 rfl (by omega) (by omega)
          have A1001 := A1000.iload (v := (2 : Int32)) (pc' := 246) at_244 rfl rfl
          have A1003 := A1001.ifYes (pc' := 286) at_246 (feq (ine (x := (2 : Int32)) (y := (0 : Int32)) rfl rfl (by decide : ¬ ((2 : Int) = 0)))).2 (by decide) (by decide)
          have A1004 := A1003.iload (v := (2 : Int32)) (pc' := 288) at_286 rfl rfl
          have A1005 := A1004.iconst (z := (1 : Int32)) (pc' := 289) at_288 rfl rfl
          have A1007 := A1005.icmpYes (pc' := 313) at_289 (feq (ine (x := (2 : Int32)) (y := (1 : Int32)) rfl rfl (by decide : ¬ ((2 : Int) = 1)))).2 (by decide) (by decide)
          have A1008 := A1007.iconst (z := (0 : Int32)) (pc' := 314) at_313 rfl rfl
          have A1009 := A1008.istore (Ls' := #[.val (.long a), .second, .val (.long x), .second, .val (.long z), .second, .val (.int p), .val (.int x0), .val (.int x1), .val (.int x2), .val (.int (2 : Int32)), .val (.int sa), .val (.int li), .val (.ref b54), .val (.ref b160), .val (.ref b717), .val (.int (-1 : Int32)), .val (.int (0 : Int32)), .unset, .unset, .unset, .unset, .unset]) (pc' := 316) at_314 rfl rfl
          have A1010 := A1009.iconst (z := (0 : Int32)) (pc' := 317) at_316 rfl rfl
          have A1011 := A1010.istore (Ls' := #[.val (.long a), .second, .val (.long x), .second, .val (.long z), .second, .val (.int p), .val (.int x0), .val (.int x1), .val (.int x2), .val (.int (2 : Int32)), .val (.int sa), .val (.int li), .val (.ref b54), .val (.ref b160), .val (.ref b717), .val (.int (-1 : Int32)), .val (.int (0 : Int32)), .val (.int (0 : Int32)), .unset, .unset, .unset, .unset]) (pc' := 319) at_317 rfl rfl
          have A1012 := A1011.iconst (z := (0 : Int32)) (pc' := 320) at_319 rfl rfl
          have A1013 := A1012.istore (Ls' := #[.val (.long a), .second, .val (.long x), .second, .val (.long z), .second, .val (.int p), .val (.int x0), .val (.int x1), .val (.int x2), .val (.int (2 : Int32)), .val (.int sa), .val (.int li), .val (.ref b54), .val (.ref b160), .val (.ref b717), .val (.int (-1 : Int32)), .val (.int (0 : Int32)), .val (.int (0 : Int32)), .val (.int (0 : Int32)), .unset, .unset, .unset]) (pc' := 322) at_320 rfl rfl
          have A1014 := A1013.iconst (z := (0 : Int32)) (pc' := 323) at_322 rfl rfl
          have A1015 := A1014.istore (Ls' := #[.val (.long a), .second, .val (.long x), .second, .val (.long z), .second, .val (.int p), .val (.int x0), .val (.int x1), .val (.int x2), .val (.int (2 : Int32)), .val (.int sa), .val (.int li), .val (.ref b54), .val (.ref b160), .val (.ref b717), .val (.int (-1 : Int32)), .val (.int (0 : Int32)), .val (.int (0 : Int32)), .val (.int (0 : Int32)), .val (.int (0 : Int32)), .unset, .unset]) (pc' := 325) at_323 rfl rfl
          have A1016 := A1015.iload (v := (0 : Int32)) (pc' := 327) at_325 rfl rfl
          have A1018 := A1016.ifYes (pc' := 387) at_327 (teq (ieq (x := (0 : Int32)) (y := (0 : Int32)) rfl rfl (by decide : (0 : Int) = 0))).1 (by decide) (by decide)
          clear kp p0 p2 p1
          have A1019 := A1018.iconst (z := (0 : Int32)) (pc' := 388) at_387 rfl rfl
          have A1020 := A1019.istore (Ls' := #[.val (.long a), .second, .val (.long x), .second, .val (.long z), .second, .val (.int p), .val (.int x0), .val (.int x1), .val (.int x2), .val (.int (2 : Int32)), .val (.int sa), .val (.int li), .val (.ref b54), .val (.ref b160), .val (.ref b717), .val (.int (-1 : Int32)), .val (.int (0 : Int32)), .val (.int (0 : Int32)), .val (.int (0 : Int32)), .val (.int (0 : Int32)), .val (.int (0 : Int32)), .unset]) (pc' := 390) at_388 rfl rfl
          have A1021 := A1020.iload (v := (0 : Int32)) (pc' := 392) at_390 rfl rfl
          have A1023 := A1021.ifYes (pc' := 405) at_392 (teq (ieq (x := (0 : Int32)) (y := (0 : Int32)) rfl rfl (by decide : (0 : Int) = 0))).1 (by decide) (by decide)
          have A1024 := A1023.iconst (z := (-1 : Int32)) (pc' := 406) at_405 rfl rfl
          have A1025 := A1024.istore (Ls' := #[.val (.long a), .second, .val (.long x), .second, .val (.long z), .second, .val (.int p), .val (.int x0), .val (.int x1), .val (.int x2), .val (.int (2 : Int32)), .val (.int sa), .val (.int li), .val (.ref b54), .val (.ref b160), .val (.ref b717), .val (.int (-1 : Int32)), .val (.int (0 : Int32)), .val (.int (0 : Int32)), .val (.int (0 : Int32)), .val (.int (0 : Int32)), .val (.int (0 : Int32)), .val (.int (-1 : Int32))]) (pc' := 408) at_406 rfl rfl
          have A1026 := A1025.iload (v := (-1 : Int32)) (pc' := 410) at_408 rfl rfl
          have A1027 := A1026.iload (v := (-1 : Int32)) (pc' := 412) at_410 rfl rfl
          have A1029 := A1027.icmpNo (pc' := 415) at_412 (teq (ieq (x := (-1 : Int32)) (y := (-1 : Int32)) rfl rfl (by decide : ((-1) : Int) = (-1)))).2 rfl
          have A1030 := A1029.iconst (z := (1 : Int32)) (pc' := 416) at_415 rfl rfl
          have A1031 := A1030.goto (pc' := 420) at_416 (by decide) (by decide)
          refine A1031.retN (t := .boolean) (z' := (1 : Int32)) at_420 (by decide) (by decide) (by simp) rfl ⟨_, rfl, ⟨trivial, ?_⟩⟩
          have elit : (1 : Int32).toInt = 1 := rfl
          rfl
    · have kp := p0
      obtain ⟨h1032, b1033, eb1034, g1035, E1036, X1037, D1038, A1039⟩ := A280.newO (C' := 8) (S' := 25) (pc' := 221) at_218 (hw _ (List.mem_of_getElem? (i := 50) rfl)) (hw _ (List.mem_of_getElem? (i := 51) rfl)) (hw _ (List.mem_of_getElem? (i := 52) rfl)) (by decide) (by decide) rfl rfl rfl
      have f1040 := ((f261.keep K250 nin0).other w278 ne167)
      have ne1041 : b54 ≠ b1033 := Nat.ne_of_lt (Nat.lt_of_lt_of_le f1040.lt (Nat.le_of_eq eb1034.symm))
      have ne1042 : b160 ≠ b1033 := Nat.ne_of_lt (Nat.lt_of_lt_of_le X279.lt (Nat.le_of_eq eb1034.symm))
      have f1043 := ((f264.keep K250).wr w278)
      have ne1044 : b172 ≠ b1033 := Nat.ne_of_lt (Nat.lt_of_lt_of_le f1043.lt (Nat.le_of_eq eb1034.symm))
      have f1045 := ((f266.keep K250 nin0).other w278 (Ne.symm ne197))
      have ne1046 : b187 ≠ b1033 := Nat.ne_of_lt (Nat.lt_of_lt_of_le f1045.lt (Nat.le_of_eq eb1034.symm))
      have f1047 := ((f268.keep K250 nin0).other w278 (Ne.symm ne232))
      have ne1048 : b222 ≠ b1033 := Nat.ne_of_lt (Nat.lt_of_lt_of_le f1047.lt (Nat.le_of_eq eb1034.symm))
      have f1049 := (f256.wr w278)
      have ne1050 : r247 ≠ b1033 := Nat.ne_of_lt (Nat.lt_of_lt_of_le f1049.lt (Nat.le_of_eq eb1034.symm))
      have f1051 := (f259.other w278 (Ne.symm ne271))
      have ne1052 : b251 ≠ b1033 := Nat.ne_of_lt (Nat.lt_of_lt_of_le f1051.lt (Nat.le_of_eq eb1034.symm))
      have f1053 : Fld Z h1032 b1033 "com/example/dialekt/dialekt/json/MemberNames" "names" "[Ljava/lang/String;" .null := D1038 (Or.inr (hw _ (List.mem_of_getElem? (i := 58) rfl))) (ty := (.array (.object "java/lang/String"))) (by decide)
      have f1054 : Fld Z h1032 b1033 "com/example/dialekt/dialekt/json/MemberNames" "plain" "[[B" .null := D1038 (Or.inr (hw _ (List.mem_of_getElem? (i := 62) rfl))) (ty := (.array (.array .byte))) (by decide)
      have f1055 : Fld Z h1032 b1033 "com/example/dialekt/dialekt/json/MemberNames" "plainLengths" "[I" .null := D1038 (Or.inr (hw _ (List.mem_of_getElem? (i := 65) rfl))) (ty := (.array .int)) (by decide)
      have A1056 := A1039.dup (pc' := 222) at_221 rfl rfl
      have A1057 := A1056.aload (v := (.ref b160)) (pc' := 224) at_222 rfl rfl rfl
      have f1058 := (X279.ext E1036)
      have f1059 := (f1043.ext E1036)
      have f1060 := ((((f226.other w238 (Or.inl (Ne.symm ne181))).keep K250 nin0).other w278 (Or.inl (Ne.symm ne181))).ext E1036)
      have f1061 := ((((f225.other w238 (Or.inl (Ne.symm ne181))).keep K250 nin0).other w278 (Or.inl (Ne.symm ne181))).ext E1036)
      have f1062 := (f1047.ext E1036)
      have f1063 := ((((f228.wr w238).keep K250).wr w278).ext E1036)
      have f1064 := (f1049.ext E1036)
      have f1065 := ((f258.other w278 (Or.inl (Ne.symm ne263))).ext E1036)
      have f1066 := ((f257.other w278 (Or.inl (Ne.symm ne263))).ext E1036)
      have f1067 := (f1051.ext E1036)
      have f1068 := ((f260.wr w278).ext E1036)
      have f1069 := (((f245.keep K250 all0).wr w278 g162).ext E1036)
      obtain ⟨h1073, ⟨b1075, b1076, b1077, K1074, g1078, z1079, g1080, z1081, g1082, z1083, f1084, f1085, f1086, f1087, f1088, q1072⟩, A1070⟩ := W.kV (A1057.callI (a := b1033) (argsL := [(.ref b160)]) (rest := [(.ref b1033)]) (C' := 11) (S' := 32) (pc' := 227) at_224 rfl (hw _ (List.mem_of_getElem? (i := 53) rfl)) (hw _ (List.mem_of_getElem? (i := 54) rfl)) (hw _ (List.mem_of_getElem? (i := 52) rfl)) (hw _ (List.mem_of_getElem? (i := 55) rfl)) (rm12_NP l Z a0 hw n0 [] (b1033) (b160) (b172) (r247) (b222) (b251) (iso) (u8) (nb) (x0) (x1) (x2) (_) (_) h1032 A1057.size X1037 g1035 f1053 f1054 f1055 f1058 f1059 f1060 f1061 f1062 f1063 f1064 f1065 f1066 f1067 f1068 ne1042 ne1044 ne1048 ne1050 ne1052 (by assumption) (by assumption) (by assumption) f1069 e1 (by assumption) e3 (by assumption) e5 e6 e7 e8 e9 e10 e11 (by assumption) (by assumption)) rfl rfl pd_21 rfl rfl (by decide) (by decide) (Nat.le_of_ble_eq_true rfl) (by decide) (by decide) rfl rfl rfl)
      have f1089 := (f1040.ext E1036)
      have ne1090 : b54 ≠ b1075 := Nat.ne_of_lt (Nat.lt_of_lt_of_le f1089.lt z1079)
      have ne1091 : b160 ≠ b1075 := Nat.ne_of_lt (Nat.lt_of_lt_of_le f1058.lt z1079)
      have ne1092 : b172 ≠ b1075 := Nat.ne_of_lt (Nat.lt_of_lt_of_le f1059.lt z1079)
      have f1093 := (f1045.ext E1036)
      have ne1094 : b187 ≠ b1075 := Nat.ne_of_lt (Nat.lt_of_lt_of_le f1093.lt z1079)
      have ne1095 : b222 ≠ b1075 := Nat.ne_of_lt (Nat.lt_of_lt_of_le f1062.lt z1079)
      have ne1096 : r247 ≠ b1075 := Nat.ne_of_lt (Nat.lt_of_lt_of_le f1064.lt z1079)
      have ne1097 : b251 ≠ b1075 := Nat.ne_of_lt (Nat.lt_of_lt_of_le f1067.lt z1079)
      have ne1098 : b1033 ≠ b1075 := Nat.ne_of_lt (Nat.lt_of_lt_of_le X1037.lt z1079)
      have ne1099 : b54 ≠ b1076 := Nat.ne_of_lt (Nat.lt_of_lt_of_le f1089.lt z1081)
      have ne1100 : b160 ≠ b1076 := Nat.ne_of_lt (Nat.lt_of_lt_of_le f1058.lt z1081)
      have ne1101 : b172 ≠ b1076 := Nat.ne_of_lt (Nat.lt_of_lt_of_le f1059.lt z1081)
      have ne1102 : b187 ≠ b1076 := Nat.ne_of_lt (Nat.lt_of_lt_of_le f1093.lt z1081)
      have ne1103 : b222 ≠ b1076 := Nat.ne_of_lt (Nat.lt_of_lt_of_le f1062.lt z1081)
      have ne1104 : r247 ≠ b1076 := Nat.ne_of_lt (Nat.lt_of_lt_of_le f1064.lt z1081)
      have ne1105 : b251 ≠ b1076 := Nat.ne_of_lt (Nat.lt_of_lt_of_le f1067.lt z1081)
      have ne1106 : b1033 ≠ b1076 := Nat.ne_of_lt (Nat.lt_of_lt_of_le X1037.lt z1081)
      have ne1107 : b54 ≠ b1077 := Nat.ne_of_lt (Nat.lt_of_lt_of_le f1089.lt z1083)
      have ne1108 : b160 ≠ b1077 := Nat.ne_of_lt (Nat.lt_of_lt_of_le f1058.lt z1083)
      have ne1109 : b172 ≠ b1077 := Nat.ne_of_lt (Nat.lt_of_lt_of_le f1059.lt z1083)
      have ne1110 : b187 ≠ b1077 := Nat.ne_of_lt (Nat.lt_of_lt_of_le f1093.lt z1083)
      have ne1111 : b222 ≠ b1077 := Nat.ne_of_lt (Nat.lt_of_lt_of_le f1062.lt z1083)
      have ne1112 : r247 ≠ b1077 := Nat.ne_of_lt (Nat.lt_of_lt_of_le f1064.lt z1083)
      have ne1113 : b251 ≠ b1077 := Nat.ne_of_lt (Nat.lt_of_lt_of_le f1067.lt z1083)
      have ne1114 : b1033 ≠ b1077 := Nat.ne_of_lt (Nat.lt_of_lt_of_le X1037.lt z1083)
      have A1115 := A1070.astore (Ls' := #[.val (.long a), .second, .val (.long x), .second, .val (.long z), .second, .val (.int p), .val (.int x0), .val (.int x1), .val (.int x2), .val (.int ix), .val (.int sa), .val (.int li), .val (.ref b54), .val (.ref b160), .val (.ref b1033), .unset, .unset, .unset, .unset, .unset, .unset, .unset]) (pc' := 229) at_227 rfl rfl rfl
      obtain hi | hi | hi := own_three ix kix
      · have A1116 := A1115.cast (Ls' := #[.val (.long a), .second, .val (.long x), .second, .val (.long z), .second, .val (.int p), .val (.int x0), .val (.int x1), .val (.int x2), .val (.int (0 : Int32)), .val (.int sa), .val (.int li), .val (.ref b54), .val (.ref b160), .val (.ref b1033), .unset, .unset, .unset, .unset, .unset, .unset, .unset]) rfl (by rw [hi]) rfl
        have A1117 := A1116.aload (v := (.ref b1033)) (pc' := 231) at_229 rfl rfl rfl
        have A1118 := A1117.iload (v := (0 : Int32)) (pc' := 233) at_231 rfl rfl
        have A1119 := A1118.aload (v := (.ref b54)) (pc' := 235) at_233 rfl rfl rfl
        have A1120 := A1119.iload (v := sa) (pc' := 237) at_235 rfl rfl
        have A1121 := A1120.iload (v := li) (pc' := 239) at_237 rfl rfl
        have f1122 := (f1089.keep K1074 (ninS ne1041 nin0))
        have f1125 := (X1037.keep K1074)
        obtain ⟨r1124, _, ⟨rfl, q1126⟩, A1123⟩ := W.kI (A1121.callV (a := b1033) (argsL := [(.int (0 : Int32)), (.ref b54), (.int sa), (.int li)]) (rest := []) (C' := 11) (S' := 32) (pc' := 242) at_239 f1125 (hw _ (List.mem_of_getElem? (i := 101) rfl)) (hw _ (List.mem_of_getElem? (i := 102) rfl)) (fun hZ => notFace_of_selects (args := #[]) (mvT hZ (hw _ (List.mem_of_getElem? (i := 104) rfl)))) (hw _ (List.mem_of_getElem? (i := 104) rfl)) (hw _ (List.mem_of_getElem? (i := 103) rfl)) (hw _ (List.mem_of_getElem? (i := 52) rfl)) (hw _ (List.mem_of_getElem? (i := 105) rfl)) (rm20_N0 l Z a0 hw n0 [] (b1033) (b54) (sa) (li) (b1075) (b1076) (nb) ((upd (upd (upd (fun _ => .null) 0 (.ref nb)) 1 (.ref b1077)) 2 (.ref nb))) ((upd (upd (upd (fun _ => (.int (0 : Int32))) 0 (.int (2147483647 : Int32))) 1 (.int (1 : Int32))) 2 (.int (2147483647 : Int32)))) ((upd (upd (upd (upd (upd (upd (fun _ => (.int (0 : Int32))) 0 (.int r71.toInt8.toInt32)) 1 (.int r87.toInt8.toInt32)) 2 (.int r103.toInt8.toInt32)) 3 (.int r119.toInt8.toInt32)) 4 (.int r135.toInt8.toInt32)) 5 (.int r151.toInt8.toInt32))) (T) h1073 A1121.size f1122 (by exact hT) (by exact ⟨ksa.1, ksa.2, kli.1, kli.2⟩) f1084 f1085 f1086 f1087 (by rfl) (by rfl)) rfl rfl pd_22 rfl rfl (by decide) (by decide) (Nat.le_of_ble_eq_true rfl) (by decide) (by decide) rfl rfl rfl)
        subst q1126
        have A1128 := A1123.istore (Ls' := #[.val (.long a), .second, .val (.long x), .second, .val (.long z), .second, .val (.int p), .val (.int x0), .val (.int x1), .val (.int x2), .val (.int (0 : Int32)), .val (.int sa), .val (.int li), .val (.ref b54), .val (.ref b160), .val (.ref b1033), .val (.int (-1 : Int32)), .unset, .unset, .unset, .unset, .unset, .unset]) (pc' := 244) at_242 rfl rfl
        clear e7 ne167 ne180 ne181 ne195 ne197 ne198 ne230 ne232 ne233 ne234 ne262 ne263 ne265 ne267 ne269 ne270 ne271 ne272 ne273 ne274 ne1041 ne1042 ne1044 ne1046 ne1048 ne1050 ne1052 ne1090 ne1091 ne1092 ne1094 ne1095 ne1096 ne1097 ne1098 ne1099 ne1100 ne1101 ne1102 ne1103 ne1104 ne1105 ne1106 ne1107 ne1108 ne1109 ne1110 ne1111 ne1112 ne1113 ne1114
        have a0_ := addc32 sa (0 : Int32) 0 rfl (by omega) (by omega)
        have a1_ := addc32 sa (1 : Int32) 1 rfl (by omega) (by omega)
        have a2_ := addc32 sa (2 : Int32) 2 rfl (by omega) (by omega)
        have z1_ := addc32 (sa + (1 : Int32)) (1 : Int32) 1 rfl (by omega) (by omega)
        have z2_ := addc32 (sa + (2 : Int32)) (1 : Int32) 1 rfl (by omega) (by omega)
        have A1129 := A1128.iload (v := (0 : Int32)) (pc' := 246) at_244 rfl rfl
        have A1131 := A1129.ifNo (pc' := 249) at_246 (teq (ieq (x := (0 : Int32)) (y := (0 : Int32)) rfl rfl (by decide : (0 : Int) = 0))).2 rfl
        have A1132 := A1131.iload (v := x0) (pc' := 251) at_249 rfl rfl
        obtain ⟨r1134, _, ⟨rfl, q1135⟩, A1133⟩ := W.kI (A1132.callS (argsL := [(.int x0)]) (rest := []) (C' := 11) (S' := 32) (pc' := 254) at_251 (hw _ (List.mem_of_getElem? (i := 106) rfl)) (hw _ (List.mem_of_getElem? (i := 107) rfl)) (hw _ (List.mem_of_getElem? (i := 4) rfl)) (hw _ (List.mem_of_getElem? (i := 108) rfl)) (rm21 l Z a0 hw n0 [] (x0)  h1073 A1132.size ) rfl rfl pd_4 rfl rfl (by decide) (by decide) (Nat.le_of_ble_eq_true rfl) (by decide) (by decide) rfl rfl rfl)
        by_cases c1137 : r1134.toInt = 0
        · have A1138 := A1133.ifYes (pc' := 269) at_254 (teq (ieq (x := r1134) (y := (0 : Int32)) rfl rfl c1137)).1 (by decide) (by decide)
          have A1139 := A1138.iconst (z := (0 : Int32)) (pc' := 270) at_269 rfl rfl
          have A1140 := A1139.istore (Ls' := #[.val (.long a), .second, .val (.long x), .second, .val (.long z), .second, .val (.int p), .val (.int x0), .val (.int x1), .val (.int x2), .val (.int (0 : Int32)), .val (.int sa), .val (.int li), .val (.ref b54), .val (.ref b160), .val (.ref b1033), .val (.int (-1 : Int32)), .val (.int (0 : Int32)), .unset, .unset, .unset, .unset, .unset]) (pc' := 272) at_270 rfl rfl
          have A1141 := A1140.iconst (z := (2 : Int32)) (pc' := 273) at_272 rfl rfl
          have A1142 := A1141.istore (Ls' := #[.val (.long a), .second, .val (.long x), .second, .val (.long z), .second, .val (.int p), .val (.int x0), .val (.int x1), .val (.int x2), .val (.int (0 : Int32)), .val (.int sa), .val (.int li), .val (.ref b54), .val (.ref b160), .val (.ref b1033), .val (.int (-1 : Int32)), .val (.int (0 : Int32)), .val (.int (2 : Int32)), .unset, .unset, .unset, .unset]) (pc' := 275) at_273 rfl rfl
          have A1143 := A1142.iload (v := x0) (pc' := 277) at_275 rfl rfl
          have A1144 := A1143.istore (Ls' := #[.val (.long a), .second, .val (.long x), .second, .val (.long z), .second, .val (.int p), .val (.int x0), .val (.int x1), .val (.int x2), .val (.int (0 : Int32)), .val (.int sa), .val (.int li), .val (.ref b54), .val (.ref b160), .val (.ref b1033), .val (.int (-1 : Int32)), .val (.int (0 : Int32)), .val (.int (2 : Int32)), .val (.int x0), .unset, .unset, .unset]) (pc' := 279) at_277 rfl rfl
          have A1145 := A1144.iload (v := x1) (pc' := 281) at_279 rfl rfl
          have A1146 := A1145.istore (Ls' := #[.val (.long a), .second, .val (.long x), .second, .val (.long z), .second, .val (.int p), .val (.int x0), .val (.int x1), .val (.int x2), .val (.int (0 : Int32)), .val (.int sa), .val (.int li), .val (.ref b54), .val (.ref b160), .val (.ref b1033), .val (.int (-1 : Int32)), .val (.int (0 : Int32)), .val (.int (2 : Int32)), .val (.int x0), .val (.int x1), .unset, .unset]) (pc' := 283) at_281 rfl rfl
          have A1147 := A1146.goto (pc' := 325) at_283 (by decide) (by decide)
          have A1148 := A1147.iload (v := (0 : Int32)) (pc' := 327) at_325 rfl rfl
          have A1150 := A1148.ifYes (pc' := 387) at_327 (teq (ieq (x := (0 : Int32)) (y := (0 : Int32)) rfl rfl (by decide : (0 : Int) = 0))).1 (by decide) (by decide)
          clear q1135 kp p0 p2
          have A1151 := A1150.iconst (z := (0 : Int32)) (pc' := 388) at_387 rfl rfl
          have A1152 := A1151.istore (Ls' := #[.val (.long a), .second, .val (.long x), .second, .val (.long z), .second, .val (.int p), .val (.int x0), .val (.int x1), .val (.int x2), .val (.int (0 : Int32)), .val (.int sa), .val (.int li), .val (.ref b54), .val (.ref b160), .val (.ref b1033), .val (.int (-1 : Int32)), .val (.int (0 : Int32)), .val (.int (2 : Int32)), .val (.int x0), .val (.int x1), .val (.int (0 : Int32)), .unset]) (pc' := 390) at_388 rfl rfl
          have A1153 := A1152.iload (v := (0 : Int32)) (pc' := 392) at_390 rfl rfl
          have A1155 := A1153.ifYes (pc' := 405) at_392 (teq (ieq (x := (0 : Int32)) (y := (0 : Int32)) rfl rfl (by decide : (0 : Int) = 0))).1 (by decide) (by decide)
          have A1156 := A1155.iconst (z := (-1 : Int32)) (pc' := 406) at_405 rfl rfl
          have A1157 := A1156.istore (Ls' := #[.val (.long a), .second, .val (.long x), .second, .val (.long z), .second, .val (.int p), .val (.int x0), .val (.int x1), .val (.int x2), .val (.int (0 : Int32)), .val (.int sa), .val (.int li), .val (.ref b54), .val (.ref b160), .val (.ref b1033), .val (.int (-1 : Int32)), .val (.int (0 : Int32)), .val (.int (2 : Int32)), .val (.int x0), .val (.int x1), .val (.int (0 : Int32)), .val (.int (-1 : Int32))]) (pc' := 408) at_406 rfl rfl
          have A1158 := A1157.iload (v := (-1 : Int32)) (pc' := 410) at_408 rfl rfl
          have A1159 := A1158.iload (v := (-1 : Int32)) (pc' := 412) at_410 rfl rfl
          have A1161 := A1159.icmpNo (pc' := 415) at_412 (teq (ieq (x := (-1 : Int32)) (y := (-1 : Int32)) rfl rfl (by decide : ((-1) : Int) = (-1)))).2 rfl
          have A1162 := A1161.iconst (z := (1 : Int32)) (pc' := 416) at_415 rfl rfl
          have A1163 := A1162.goto (pc' := 420) at_416 (by decide) (by decide)
          refine A1163.retN (t := .boolean) (z' := (1 : Int32)) at_420 (by decide) (by decide) (by simp) rfl ⟨_, rfl, ⟨trivial, ?_⟩⟩
          have elit : (1 : Int32).toInt = 1 := rfl
          rfl
        · exfalso
          omega
      · have A1165 := A1115.cast (Ls' := #[.val (.long a), .second, .val (.long x), .second, .val (.long z), .second, .val (.int p), .val (.int x0), .val (.int x1), .val (.int x2), .val (.int (1 : Int32)), .val (.int sa), .val (.int li), .val (.ref b54), .val (.ref b160), .val (.ref b1033), .unset, .unset, .unset, .unset, .unset, .unset, .unset]) rfl (by rw [hi]) rfl
        have A1166 := A1165.aload (v := (.ref b1033)) (pc' := 231) at_229 rfl rfl rfl
        have A1167 := A1166.iload (v := (1 : Int32)) (pc' := 233) at_231 rfl rfl
        have A1168 := A1167.aload (v := (.ref b54)) (pc' := 235) at_233 rfl rfl rfl
        have A1169 := A1168.iload (v := sa) (pc' := 237) at_235 rfl rfl
        have A1170 := A1169.iload (v := li) (pc' := 239) at_237 rfl rfl
        have f1171 := (f1089.keep K1074 (ninS ne1041 nin0))
        have f1174 := (X1037.keep K1074)
        obtain ⟨r1173, _, ⟨rfl, q1175⟩, A1172⟩ := W.kI (A1170.callV (a := b1033) (argsL := [(.int (1 : Int32)), (.ref b54), (.int sa), (.int li)]) (rest := []) (C' := 11) (S' := 32) (pc' := 242) at_239 f1174 (hw _ (List.mem_of_getElem? (i := 101) rfl)) (hw _ (List.mem_of_getElem? (i := 102) rfl)) (fun hZ => notFace_of_selects (args := #[]) (mvT hZ (hw _ (List.mem_of_getElem? (i := 104) rfl)))) (hw _ (List.mem_of_getElem? (i := 104) rfl)) (hw _ (List.mem_of_getElem? (i := 103) rfl)) (hw _ (List.mem_of_getElem? (i := 52) rfl)) (hw _ (List.mem_of_getElem? (i := 105) rfl)) (rm20_P1 l Z a0 hw n0 [] (b1033) (b54) (sa) (li) (b1075) (b1076) (b1077) ((upd (upd (upd (fun _ => .null) 0 (.ref nb)) 1 (.ref b1077)) 2 (.ref nb))) ((upd (upd (upd (fun _ => (.int (0 : Int32))) 0 (.int (2147483647 : Int32))) 1 (.int (1 : Int32))) 2 (.int (2147483647 : Int32)))) ((upd (fun _ => (.int (0 : Int32))) 0 (.int x2.toInt8.toInt32.toInt8.toInt32))) ((upd (upd (upd (upd (upd (upd (fun _ => (.int (0 : Int32))) 0 (.int r71.toInt8.toInt32)) 1 (.int r87.toInt8.toInt32)) 2 (.int r103.toInt8.toInt32)) 3 (.int r119.toInt8.toInt32)) 4 (.int r135.toInt8.toInt32)) 5 (.int r151.toInt8.toInt32))) (T) (x2.toInt8.toInt32) h1073 A1170.size f1171 (by exact hT) (by exact ⟨ksa.1, ksa.2, kli.1, kli.2⟩) f1084 f1085 f1086 f1087 (by rfl) (by rfl) f1088 (by exact congrArg Value.int (own_bb _))) rfl rfl pd_22 rfl rfl (by decide) (by decide) (Nat.le_of_ble_eq_true rfl) (by decide) (by decide) rfl rfl rfl)
        have hE := own_hid q1175
        clear q1175
        have A1177 := A1172.istore (Ls' := #[.val (.long a), .second, .val (.long x), .second, .val (.long z), .second, .val (.int p), .val (.int x0), .val (.int x1), .val (.int x2), .val (.int (1 : Int32)), .val (.int sa), .val (.int li), .val (.ref b54), .val (.ref b160), .val (.ref b1033), .val (.int r1173), .unset, .unset, .unset, .unset, .unset, .unset]) (pc' := 244) at_242 rfl rfl
        clear e7 ne167 ne180 ne181 ne195 ne197 ne198 ne230 ne232 ne233 ne234 ne262 ne263 ne265 ne267 ne269 ne270 ne271 ne272 ne273 ne274 ne1041 ne1042 ne1044 ne1046 ne1048 ne1050 ne1052 ne1090 ne1091 ne1092 ne1094 ne1095 ne1096 ne1097 ne1098 ne1099 ne1100 ne1101 ne1102 ne1103 ne1104 ne1105 ne1106 ne1107 ne1108 ne1109 ne1110 ne1111 ne1112 ne1113 ne1114
        have a0_ := addc32 sa (0 : Int32) 0 rfl (by omega) (by omega)
        have a1_ := addc32 sa (1 : Int32) 1 rfl (by omega) (by omega)
        have a2_ := addc32 sa (2 : Int32) 2 rfl (by omega) (by omega)
        have z1_ := addc32 (sa + (1 : Int32)) (1 : Int32) 1 rfl (by omega) (by omega)
        have z2_ := addc32 (sa + (2 : Int32)) (1 : Int32) 1 rfl (by omega) (by omega)
        have A1178 := A1177.iload (v := (1 : Int32)) (pc' := 246) at_244 rfl rfl
        have A1180 := A1178.ifYes (pc' := 286) at_246 (feq (ine (x := (1 : Int32)) (y := (0 : Int32)) rfl rfl (by decide : ¬ ((1 : Int) = 0)))).2 (by decide) (by decide)
        have A1181 := A1180.iload (v := (1 : Int32)) (pc' := 288) at_286 rfl rfl
        have A1182 := A1181.iconst (z := (1 : Int32)) (pc' := 289) at_288 rfl rfl
        have A1184 := A1182.icmpNo (pc' := 292) at_289 (teq (ieq (x := (1 : Int32)) (y := (1 : Int32)) rfl rfl (by decide : (1 : Int) = 1))).2 rfl
        have A1185 := A1184.iload (v := x2) (pc' := 294) at_292 rfl rfl
        obtain ⟨r1187, _, ⟨rfl, q1188⟩, A1186⟩ := W.kI (A1185.callS (argsL := [(.int x2)]) (rest := []) (C' := 11) (S' := 32) (pc' := 297) at_294 (hw _ (List.mem_of_getElem? (i := 106) rfl)) (hw _ (List.mem_of_getElem? (i := 107) rfl)) (hw _ (List.mem_of_getElem? (i := 4) rfl)) (hw _ (List.mem_of_getElem? (i := 108) rfl)) (rm21 l Z a0 hw n0 [] (x2)  h1073 A1185.size ) rfl rfl pd_4 rfl rfl (by decide) (by decide) (Nat.le_of_ble_eq_true rfl) (by decide) (by decide) rfl rfl rfl)
        have A1190 := A1186.istore (Ls' := #[.val (.long a), .second, .val (.long x), .second, .val (.long z), .second, .val (.int p), .val (.int x0), .val (.int x1), .val (.int x2), .val (.int (1 : Int32)), .val (.int sa), .val (.int li), .val (.ref b54), .val (.ref b160), .val (.ref b1033), .val (.int r1173), .val (.int r1187), .unset, .unset, .unset, .unset, .unset]) (pc' := 299) at_297 rfl rfl
        have A1191 := A1190.iconst (z := (1 : Int32)) (pc' := 300) at_299 rfl rfl
        have A1192 := A1191.istore (Ls' := #[.val (.long a), .second, .val (.long x), .second, .val (.long z), .second, .val (.int p), .val (.int x0), .val (.int x1), .val (.int x2), .val (.int (1 : Int32)), .val (.int sa), .val (.int li), .val (.ref b54), .val (.ref b160), .val (.ref b1033), .val (.int r1173), .val (.int r1187), .val (.int (1 : Int32)), .unset, .unset, .unset, .unset]) (pc' := 302) at_300 rfl rfl
        have A1193 := A1192.iload (v := x2) (pc' := 304) at_302 rfl rfl
        have A1194 := A1193.istore (Ls' := #[.val (.long a), .second, .val (.long x), .second, .val (.long z), .second, .val (.int p), .val (.int x0), .val (.int x1), .val (.int x2), .val (.int (1 : Int32)), .val (.int sa), .val (.int li), .val (.ref b54), .val (.ref b160), .val (.ref b1033), .val (.int r1173), .val (.int r1187), .val (.int (1 : Int32)), .val (.int x2), .unset, .unset, .unset]) (pc' := 306) at_304 rfl rfl
        have A1195 := A1194.iload (v := x2) (pc' := 308) at_306 rfl rfl
        have A1196 := A1195.istore (Ls' := #[.val (.long a), .second, .val (.long x), .second, .val (.long z), .second, .val (.int p), .val (.int x0), .val (.int x1), .val (.int x2), .val (.int (1 : Int32)), .val (.int sa), .val (.int li), .val (.ref b54), .val (.ref b160), .val (.ref b1033), .val (.int r1173), .val (.int r1187), .val (.int (1 : Int32)), .val (.int x2), .val (.int x2), .unset, .unset]) (pc' := 310) at_308 rfl rfl
        have A1197 := A1196.goto (pc' := 325) at_310 (by decide) (by decide)
        have A1198 := A1197.iload (v := r1187) (pc' := 327) at_325 rfl rfl
        by_cases c1199 : r1187.toInt = 0
        · exfalso
          omega
        · have A1201 := A1198.ifNo (pc' := 330) at_327 (feq (ine (x := r1187) (y := (0 : Int32)) rfl rfl c1199)).1 rfl
          clear q1188 kp p0 p2
          have A1202 := A1201.iload (v := sa) (pc' := 332) at_330 rfl rfl
          have A1203 := A1202.iload (v := (1 : Int32)) (pc' := 334) at_332 rfl rfl
          have A1204 := A1203.iadd (pc' := 335) at_334 rfl
          have A1205 := A1204.iload (v := li) (pc' := 337) at_335 rfl rfl
          by_cases c1206 : (sa + (1 : Int32)).toInt < li.toInt
          · have A1207 := A1205.icmpNo (pc' := 340) at_337 (tlt (ilt (x := (sa + (1 : Int32))) (y := li) rfl rfl c1206)).2.1 rfl
            have A1208 := A1207.aload (v := (.ref b54)) (pc' := 342) at_340 rfl rfl rfl
            have A1209 := A1208.iload (v := sa) (pc' := 344) at_342 rfl rfl
            have A1210 := A1209.baload (i := (sa.toInt.toNat + 0)) (v := (.int (T (sa.toInt.toNat + 0)))) (pc' := 345) at_344 f1171 (by omega) (by omega) (hT _) rfl
            have A1211 := A1210.iload (v := x2) (pc' := 347) at_345 rfl rfl
            have A1212 := A1211.i2b (pc' := 348) at_347 rfl
            by_cases c1213 : (T (sa.toInt.toNat + 0)).toInt = x2.toInt8.toInt32.toInt
            · have A1214 := A1212.icmpNo (pc' := 351) at_348 (teq (ieq (x := (T (sa.toInt.toNat + 0))) (y := x2.toInt8.toInt32) rfl rfl c1213)).2 rfl
              have A1215 := A1214.iload (v := (1 : Int32)) (pc' := 353) at_351 rfl rfl
              have A1216 := A1215.iconst (z := (2 : Int32)) (pc' := 354) at_353 rfl rfl
              have A1218 := A1216.icmpYes (pc' := 370) at_354 (tlt (ilt (x := (1 : Int32)) (y := (2 : Int32)) rfl rfl (by decide : (1 : Int) < 2))).1 (by decide) (by decide)
              have A1219 := A1218.aload (v := (.ref b54)) (pc' := 372) at_370 rfl rfl rfl
              have A1220 := A1219.iload (v := sa) (pc' := 374) at_372 rfl rfl
              have A1221 := A1220.iload (v := (1 : Int32)) (pc' := 376) at_374 rfl rfl
              have A1222 := A1221.iadd (pc' := 377) at_376 rfl
              have A1223 := A1222.baload (i := (sa.toInt.toNat + 1)) (v := (.int (T (sa.toInt.toNat + 1)))) (pc' := 378) at_377 f1171 (by omega) (by omega) (hT _) rfl
              have A1224 := A1223.bipush (z := (34 : Int32)) (pc' := 380) at_378 rfl rfl
              by_cases c1225 : (T (sa.toInt.toNat + 1)).toInt = 34
              · have A1226 := A1224.icmpNo (pc' := 383) at_380 (teq (ieq (x := (T (sa.toInt.toNat + 1))) (y := (34 : Int32)) rfl rfl c1225)).2 rfl
                have A1227 := A1226.iconst (z := (1 : Int32)) (pc' := 384) at_383 rfl rfl
                have A1228 := A1227.goto (pc' := 388) at_384 (by decide) (by decide)
                have A1229 := A1228.istore (Ls' := #[.val (.long a), .second, .val (.long x), .second, .val (.long z), .second, .val (.int p), .val (.int x0), .val (.int x1), .val (.int x2), .val (.int (1 : Int32)), .val (.int sa), .val (.int li), .val (.ref b54), .val (.ref b160), .val (.ref b1033), .val (.int r1173), .val (.int r1187), .val (.int (1 : Int32)), .val (.int x2), .val (.int x2), .val (.int (1 : Int32)), .unset]) (pc' := 390) at_388 rfl rfl
                have A1230 := A1229.iload (v := (1 : Int32)) (pc' := 392) at_390 rfl rfl
                have A1232 := A1230.ifNo (pc' := 395) at_392 (feq (ine (x := (1 : Int32)) (y := (0 : Int32)) rfl rfl (by decide : ¬ ((1 : Int) = 0)))).1 rfl
                have A1233 := A1232.iload (v := sa) (pc' := 397) at_395 rfl rfl
                have A1234 := A1233.iload (v := (1 : Int32)) (pc' := 399) at_397 rfl rfl
                have A1235 := A1234.iadd (pc' := 400) at_399 rfl
                have A1236 := A1235.iconst (z := (1 : Int32)) (pc' := 401) at_400 rfl rfl
                have A1237 := A1236.iadd (pc' := 402) at_401 rfl
                have A1238 := A1237.goto (pc' := 406) at_402 (by decide) (by decide)
                have A1239 := A1238.istore (Ls' := #[.val (.long a), .second, .val (.long x), .second, .val (.long z), .second, .val (.int p), .val (.int x0), .val (.int x1), .val (.int x2), .val (.int (1 : Int32)), .val (.int sa), .val (.int li), .val (.ref b54), .val (.ref b160), .val (.ref b1033), .val (.int r1173), .val (.int r1187), .val (.int (1 : Int32)), .val (.int x2), .val (.int x2), .val (.int (1 : Int32)), .val (.int ((sa + (1 : Int32)) + (1 : Int32)))]) (pc' := 408) at_406 rfl rfl
                have A1240 := A1239.iload (v := r1173) (pc' := 410) at_408 rfl rfl
                have A1241 := A1240.iload (v := ((sa + (1 : Int32)) + (1 : Int32))) (pc' := 412) at_410 rfl rfl
                by_cases c1242 : r1173.toInt = ((sa + (1 : Int32)) + (1 : Int32)).toInt
                · have A1243 := A1241.icmpNo (pc' := 415) at_412 (teq (ieq (x := r1173) (y := ((sa + (1 : Int32)) + (1 : Int32))) rfl rfl c1242)).2 rfl
                  have A1244 := A1243.iconst (z := (1 : Int32)) (pc' := 416) at_415 rfl rfl
                  have A1245 := A1244.goto (pc' := 420) at_416 (by decide) (by decide)
                  refine A1245.retN (t := .boolean) (z' := (1 : Int32)) at_420 (by decide) (by decide) (by simp) rfl ⟨_, rfl, ⟨trivial, ?_⟩⟩
                  have elit : (1 : Int32).toInt = 1 := rfl
                  rfl
                · have A1246 := A1241.icmpYes (pc' := 419) at_412 (feq (ine (x := r1173) (y := ((sa + (1 : Int32)) + (1 : Int32))) rfl rfl c1242)).2 (by decide) (by decide)
                  have A1247 := A1246.iconst (z := (0 : Int32)) (pc' := 420) at_419 rfl rfl
                  refine A1247.retN (t := .boolean) (z' := (0 : Int32)) at_420 (by decide) (by decide) (by simp) rfl ⟨_, rfl, ⟨trivial, ?_⟩⟩
                  have elit : (0 : Int32).toInt = 0 := rfl
                  exfalso
                  unfold Hid at hE
                  omega
              · have A1248 := A1224.icmpYes (pc' := 387) at_380 (feq (ine (x := (T (sa.toInt.toNat + 1))) (y := (34 : Int32)) rfl rfl c1225)).2 (by decide) (by decide)
                have A1249 := A1248.iconst (z := (0 : Int32)) (pc' := 388) at_387 rfl rfl
                have A1250 := A1249.istore (Ls' := #[.val (.long a), .second, .val (.long x), .second, .val (.long z), .second, .val (.int p), .val (.int x0), .val (.int x1), .val (.int x2), .val (.int (1 : Int32)), .val (.int sa), .val (.int li), .val (.ref b54), .val (.ref b160), .val (.ref b1033), .val (.int r1173), .val (.int r1187), .val (.int (1 : Int32)), .val (.int x2), .val (.int x2), .val (.int (0 : Int32)), .unset]) (pc' := 390) at_388 rfl rfl
                have A1251 := A1250.iload (v := (0 : Int32)) (pc' := 392) at_390 rfl rfl
                have A1253 := A1251.ifYes (pc' := 405) at_392 (teq (ieq (x := (0 : Int32)) (y := (0 : Int32)) rfl rfl (by decide : (0 : Int) = 0))).1 (by decide) (by decide)
                have A1254 := A1253.iconst (z := (-1 : Int32)) (pc' := 406) at_405 rfl rfl
                have A1255 := A1254.istore (Ls' := #[.val (.long a), .second, .val (.long x), .second, .val (.long z), .second, .val (.int p), .val (.int x0), .val (.int x1), .val (.int x2), .val (.int (1 : Int32)), .val (.int sa), .val (.int li), .val (.ref b54), .val (.ref b160), .val (.ref b1033), .val (.int r1173), .val (.int r1187), .val (.int (1 : Int32)), .val (.int x2), .val (.int x2), .val (.int (0 : Int32)), .val (.int (-1 : Int32))]) (pc' := 408) at_406 rfl rfl
                have A1256 := A1255.iload (v := r1173) (pc' := 410) at_408 rfl rfl
                have A1257 := A1256.iload (v := (-1 : Int32)) (pc' := 412) at_410 rfl rfl
                by_cases c1258 : r1173.toInt = (-1)
                · have A1259 := A1257.icmpNo (pc' := 415) at_412 (teq (ieq (x := r1173) (y := (-1 : Int32)) rfl rfl c1258)).2 rfl
                  have A1260 := A1259.iconst (z := (1 : Int32)) (pc' := 416) at_415 rfl rfl
                  have A1261 := A1260.goto (pc' := 420) at_416 (by decide) (by decide)
                  refine A1261.retN (t := .boolean) (z' := (1 : Int32)) at_420 (by decide) (by decide) (by simp) rfl ⟨_, rfl, ⟨trivial, ?_⟩⟩
                  have elit : (1 : Int32).toInt = 1 := rfl
                  rfl
                · have A1262 := A1257.icmpYes (pc' := 419) at_412 (feq (ine (x := r1173) (y := (-1 : Int32)) rfl rfl c1258)).2 (by decide) (by decide)
                  have A1263 := A1262.iconst (z := (0 : Int32)) (pc' := 420) at_419 rfl rfl
                  refine A1263.retN (t := .boolean) (z' := (0 : Int32)) at_420 (by decide) (by decide) (by simp) rfl ⟨_, rfl, ⟨trivial, ?_⟩⟩
                  have elit : (0 : Int32).toInt = 0 := rfl
                  exfalso
                  unfold Hid at hE
                  omega
            · have A1264 := A1212.icmpYes (pc' := 387) at_348 (feq (ine (x := (T (sa.toInt.toNat + 0))) (y := x2.toInt8.toInt32) rfl rfl c1213)).2 (by decide) (by decide)
              have A1265 := A1264.iconst (z := (0 : Int32)) (pc' := 388) at_387 rfl rfl
              have A1266 := A1265.istore (Ls' := #[.val (.long a), .second, .val (.long x), .second, .val (.long z), .second, .val (.int p), .val (.int x0), .val (.int x1), .val (.int x2), .val (.int (1 : Int32)), .val (.int sa), .val (.int li), .val (.ref b54), .val (.ref b160), .val (.ref b1033), .val (.int r1173), .val (.int r1187), .val (.int (1 : Int32)), .val (.int x2), .val (.int x2), .val (.int (0 : Int32)), .unset]) (pc' := 390) at_388 rfl rfl
              have A1267 := A1266.iload (v := (0 : Int32)) (pc' := 392) at_390 rfl rfl
              have A1269 := A1267.ifYes (pc' := 405) at_392 (teq (ieq (x := (0 : Int32)) (y := (0 : Int32)) rfl rfl (by decide : (0 : Int) = 0))).1 (by decide) (by decide)
              have A1270 := A1269.iconst (z := (-1 : Int32)) (pc' := 406) at_405 rfl rfl
              have A1271 := A1270.istore (Ls' := #[.val (.long a), .second, .val (.long x), .second, .val (.long z), .second, .val (.int p), .val (.int x0), .val (.int x1), .val (.int x2), .val (.int (1 : Int32)), .val (.int sa), .val (.int li), .val (.ref b54), .val (.ref b160), .val (.ref b1033), .val (.int r1173), .val (.int r1187), .val (.int (1 : Int32)), .val (.int x2), .val (.int x2), .val (.int (0 : Int32)), .val (.int (-1 : Int32))]) (pc' := 408) at_406 rfl rfl
              have A1272 := A1271.iload (v := r1173) (pc' := 410) at_408 rfl rfl
              have A1273 := A1272.iload (v := (-1 : Int32)) (pc' := 412) at_410 rfl rfl
              by_cases c1274 : r1173.toInt = (-1)
              · have A1275 := A1273.icmpNo (pc' := 415) at_412 (teq (ieq (x := r1173) (y := (-1 : Int32)) rfl rfl c1274)).2 rfl
                have A1276 := A1275.iconst (z := (1 : Int32)) (pc' := 416) at_415 rfl rfl
                have A1277 := A1276.goto (pc' := 420) at_416 (by decide) (by decide)
                refine A1277.retN (t := .boolean) (z' := (1 : Int32)) at_420 (by decide) (by decide) (by simp) rfl ⟨_, rfl, ⟨trivial, ?_⟩⟩
                have elit : (1 : Int32).toInt = 1 := rfl
                rfl
              · have A1278 := A1273.icmpYes (pc' := 419) at_412 (feq (ine (x := r1173) (y := (-1 : Int32)) rfl rfl c1274)).2 (by decide) (by decide)
                have A1279 := A1278.iconst (z := (0 : Int32)) (pc' := 420) at_419 rfl rfl
                refine A1279.retN (t := .boolean) (z' := (0 : Int32)) at_420 (by decide) (by decide) (by simp) rfl ⟨_, rfl, ⟨trivial, ?_⟩⟩
                have elit : (0 : Int32).toInt = 0 := rfl
                exfalso
                unfold Hid at hE
                omega
          · have A1280 := A1205.icmpYes (pc' := 387) at_337 (flt (inlt (x := (sa + (1 : Int32))) (y := li) rfl rfl c1206)).2.1 (by decide) (by decide)
            have A1281 := A1280.iconst (z := (0 : Int32)) (pc' := 388) at_387 rfl rfl
            have A1282 := A1281.istore (Ls' := #[.val (.long a), .second, .val (.long x), .second, .val (.long z), .second, .val (.int p), .val (.int x0), .val (.int x1), .val (.int x2), .val (.int (1 : Int32)), .val (.int sa), .val (.int li), .val (.ref b54), .val (.ref b160), .val (.ref b1033), .val (.int r1173), .val (.int r1187), .val (.int (1 : Int32)), .val (.int x2), .val (.int x2), .val (.int (0 : Int32)), .unset]) (pc' := 390) at_388 rfl rfl
            have A1283 := A1282.iload (v := (0 : Int32)) (pc' := 392) at_390 rfl rfl
            have A1285 := A1283.ifYes (pc' := 405) at_392 (teq (ieq (x := (0 : Int32)) (y := (0 : Int32)) rfl rfl (by decide : (0 : Int) = 0))).1 (by decide) (by decide)
            have A1286 := A1285.iconst (z := (-1 : Int32)) (pc' := 406) at_405 rfl rfl
            have A1287 := A1286.istore (Ls' := #[.val (.long a), .second, .val (.long x), .second, .val (.long z), .second, .val (.int p), .val (.int x0), .val (.int x1), .val (.int x2), .val (.int (1 : Int32)), .val (.int sa), .val (.int li), .val (.ref b54), .val (.ref b160), .val (.ref b1033), .val (.int r1173), .val (.int r1187), .val (.int (1 : Int32)), .val (.int x2), .val (.int x2), .val (.int (0 : Int32)), .val (.int (-1 : Int32))]) (pc' := 408) at_406 rfl rfl
            have A1288 := A1287.iload (v := r1173) (pc' := 410) at_408 rfl rfl
            have A1289 := A1288.iload (v := (-1 : Int32)) (pc' := 412) at_410 rfl rfl
            by_cases c1290 : r1173.toInt = (-1)
            · have A1291 := A1289.icmpNo (pc' := 415) at_412 (teq (ieq (x := r1173) (y := (-1 : Int32)) rfl rfl c1290)).2 rfl
              have A1292 := A1291.iconst (z := (1 : Int32)) (pc' := 416) at_415 rfl rfl
              have A1293 := A1292.goto (pc' := 420) at_416 (by decide) (by decide)
              refine A1293.retN (t := .boolean) (z' := (1 : Int32)) at_420 (by decide) (by decide) (by simp) rfl ⟨_, rfl, ⟨trivial, ?_⟩⟩
              have elit : (1 : Int32).toInt = 1 := rfl
              rfl
            · have A1294 := A1289.icmpYes (pc' := 419) at_412 (feq (ine (x := r1173) (y := (-1 : Int32)) rfl rfl c1290)).2 (by decide) (by decide)
              have A1295 := A1294.iconst (z := (0 : Int32)) (pc' := 420) at_419 rfl rfl
              refine A1295.retN (t := .boolean) (z' := (0 : Int32)) at_420 (by decide) (by decide) (by simp) rfl ⟨_, rfl, ⟨trivial, ?_⟩⟩
              have elit : (0 : Int32).toInt = 0 := rfl
              exfalso
              unfold Hid at hE
              omega
      · have A1296 := A1115.cast (Ls' := #[.val (.long a), .second, .val (.long x), .second, .val (.long z), .second, .val (.int p), .val (.int x0), .val (.int x1), .val (.int x2), .val (.int (2 : Int32)), .val (.int sa), .val (.int li), .val (.ref b54), .val (.ref b160), .val (.ref b1033), .unset, .unset, .unset, .unset, .unset, .unset, .unset]) rfl (by rw [hi]) rfl
        have A1297 := A1296.aload (v := (.ref b1033)) (pc' := 231) at_229 rfl rfl rfl
        have A1298 := A1297.iload (v := (2 : Int32)) (pc' := 233) at_231 rfl rfl
        have A1299 := A1298.aload (v := (.ref b54)) (pc' := 235) at_233 rfl rfl rfl
        have A1300 := A1299.iload (v := sa) (pc' := 237) at_235 rfl rfl
        have A1301 := A1300.iload (v := li) (pc' := 239) at_237 rfl rfl
        have f1302 := (f1089.keep K1074 (ninS ne1041 nin0))
        have f1305 := (X1037.keep K1074)
        obtain ⟨r1304, _, ⟨rfl, q1306⟩, A1303⟩ := W.kI (A1301.callV (a := b1033) (argsL := [(.int (2 : Int32)), (.ref b54), (.int sa), (.int li)]) (rest := []) (C' := 11) (S' := 32) (pc' := 242) at_239 f1305 (hw _ (List.mem_of_getElem? (i := 101) rfl)) (hw _ (List.mem_of_getElem? (i := 102) rfl)) (fun hZ => notFace_of_selects (args := #[]) (mvT hZ (hw _ (List.mem_of_getElem? (i := 104) rfl)))) (hw _ (List.mem_of_getElem? (i := 104) rfl)) (hw _ (List.mem_of_getElem? (i := 103) rfl)) (hw _ (List.mem_of_getElem? (i := 52) rfl)) (hw _ (List.mem_of_getElem? (i := 105) rfl)) (rm20_N2 l Z a0 hw n0 [] (b1033) (b54) (sa) (li) (b1075) (b1076) (nb) ((upd (upd (upd (fun _ => .null) 0 (.ref nb)) 1 (.ref b1077)) 2 (.ref nb))) ((upd (upd (upd (fun _ => (.int (0 : Int32))) 0 (.int (2147483647 : Int32))) 1 (.int (1 : Int32))) 2 (.int (2147483647 : Int32)))) ((upd (upd (upd (upd (upd (upd (fun _ => (.int (0 : Int32))) 0 (.int r71.toInt8.toInt32)) 1 (.int r87.toInt8.toInt32)) 2 (.int r103.toInt8.toInt32)) 3 (.int r119.toInt8.toInt32)) 4 (.int r135.toInt8.toInt32)) 5 (.int r151.toInt8.toInt32))) (T) h1073 A1301.size f1302 (by exact hT) (by exact ⟨ksa.1, ksa.2, kli.1, kli.2⟩) f1084 f1085 f1086 f1087 (by rfl) (by rfl)) rfl rfl pd_22 rfl rfl (by decide) (by decide) (Nat.le_of_ble_eq_true rfl) (by decide) (by decide) rfl rfl rfl)
        subst q1306
        have A1308 := A1303.istore (Ls' := #[.val (.long a), .second, .val (.long x), .second, .val (.long z), .second, .val (.int p), .val (.int x0), .val (.int x1), .val (.int x2), .val (.int (2 : Int32)), .val (.int sa), .val (.int li), .val (.ref b54), .val (.ref b160), .val (.ref b1033), .val (.int (-1 : Int32)), .unset, .unset, .unset, .unset, .unset, .unset]) (pc' := 244) at_242 rfl rfl
        clear e7 ne167 ne180 ne181 ne195 ne197 ne198 ne230 ne232 ne233 ne234 ne262 ne263 ne265 ne267 ne269 ne270 ne271 ne272 ne273 ne274 ne1041 ne1042 ne1044 ne1046 ne1048 ne1050 ne1052 ne1090 ne1091 ne1092 ne1094 ne1095 ne1096 ne1097 ne1098 ne1099 ne1100 ne1101 ne1102 ne1103 ne1104 ne1105 ne1106 ne1107 ne1108 ne1109 ne1110 ne1111 ne1112 ne1113 ne1114
        have a0_ := addc32 sa (0 : Int32) 0 rfl (by omega) (by omega)
        have a1_ := addc32 sa (1 : Int32) 1 rfl (by omega) (by omega)
        have a2_ := addc32 sa (2 : Int32) 2 rfl (by omega) (by omega)
        have z1_ := addc32 (sa + (1 : Int32)) (1 : Int32) 1 rfl (by omega) (by omega)
        have z2_ := addc32 (sa + (2 : Int32)) (1 : Int32) 1 rfl (by omega) (by omega)
        have A1309 := A1308.iload (v := (2 : Int32)) (pc' := 246) at_244 rfl rfl
        have A1311 := A1309.ifYes (pc' := 286) at_246 (feq (ine (x := (2 : Int32)) (y := (0 : Int32)) rfl rfl (by decide : ¬ ((2 : Int) = 0)))).2 (by decide) (by decide)
        have A1312 := A1311.iload (v := (2 : Int32)) (pc' := 288) at_286 rfl rfl
        have A1313 := A1312.iconst (z := (1 : Int32)) (pc' := 289) at_288 rfl rfl
        have A1315 := A1313.icmpYes (pc' := 313) at_289 (feq (ine (x := (2 : Int32)) (y := (1 : Int32)) rfl rfl (by decide : ¬ ((2 : Int) = 1)))).2 (by decide) (by decide)
        have A1316 := A1315.iconst (z := (0 : Int32)) (pc' := 314) at_313 rfl rfl
        have A1317 := A1316.istore (Ls' := #[.val (.long a), .second, .val (.long x), .second, .val (.long z), .second, .val (.int p), .val (.int x0), .val (.int x1), .val (.int x2), .val (.int (2 : Int32)), .val (.int sa), .val (.int li), .val (.ref b54), .val (.ref b160), .val (.ref b1033), .val (.int (-1 : Int32)), .val (.int (0 : Int32)), .unset, .unset, .unset, .unset, .unset]) (pc' := 316) at_314 rfl rfl
        have A1318 := A1317.iconst (z := (0 : Int32)) (pc' := 317) at_316 rfl rfl
        have A1319 := A1318.istore (Ls' := #[.val (.long a), .second, .val (.long x), .second, .val (.long z), .second, .val (.int p), .val (.int x0), .val (.int x1), .val (.int x2), .val (.int (2 : Int32)), .val (.int sa), .val (.int li), .val (.ref b54), .val (.ref b160), .val (.ref b1033), .val (.int (-1 : Int32)), .val (.int (0 : Int32)), .val (.int (0 : Int32)), .unset, .unset, .unset, .unset]) (pc' := 319) at_317 rfl rfl
        have A1320 := A1319.iconst (z := (0 : Int32)) (pc' := 320) at_319 rfl rfl
        have A1321 := A1320.istore (Ls' := #[.val (.long a), .second, .val (.long x), .second, .val (.long z), .second, .val (.int p), .val (.int x0), .val (.int x1), .val (.int x2), .val (.int (2 : Int32)), .val (.int sa), .val (.int li), .val (.ref b54), .val (.ref b160), .val (.ref b1033), .val (.int (-1 : Int32)), .val (.int (0 : Int32)), .val (.int (0 : Int32)), .val (.int (0 : Int32)), .unset, .unset, .unset]) (pc' := 322) at_320 rfl rfl
        have A1322 := A1321.iconst (z := (0 : Int32)) (pc' := 323) at_322 rfl rfl
        have A1323 := A1322.istore (Ls' := #[.val (.long a), .second, .val (.long x), .second, .val (.long z), .second, .val (.int p), .val (.int x0), .val (.int x1), .val (.int x2), .val (.int (2 : Int32)), .val (.int sa), .val (.int li), .val (.ref b54), .val (.ref b160), .val (.ref b1033), .val (.int (-1 : Int32)), .val (.int (0 : Int32)), .val (.int (0 : Int32)), .val (.int (0 : Int32)), .val (.int (0 : Int32)), .unset, .unset]) (pc' := 325) at_323 rfl rfl
        have A1324 := A1323.iload (v := (0 : Int32)) (pc' := 327) at_325 rfl rfl
        have A1326 := A1324.ifYes (pc' := 387) at_327 (teq (ieq (x := (0 : Int32)) (y := (0 : Int32)) rfl rfl (by decide : (0 : Int) = 0))).1 (by decide) (by decide)
        clear kp p0 p2
        have A1327 := A1326.iconst (z := (0 : Int32)) (pc' := 388) at_387 rfl rfl
        have A1328 := A1327.istore (Ls' := #[.val (.long a), .second, .val (.long x), .second, .val (.long z), .second, .val (.int p), .val (.int x0), .val (.int x1), .val (.int x2), .val (.int (2 : Int32)), .val (.int sa), .val (.int li), .val (.ref b54), .val (.ref b160), .val (.ref b1033), .val (.int (-1 : Int32)), .val (.int (0 : Int32)), .val (.int (0 : Int32)), .val (.int (0 : Int32)), .val (.int (0 : Int32)), .val (.int (0 : Int32)), .unset]) (pc' := 390) at_388 rfl rfl
        have A1329 := A1328.iload (v := (0 : Int32)) (pc' := 392) at_390 rfl rfl
        have A1331 := A1329.ifYes (pc' := 405) at_392 (teq (ieq (x := (0 : Int32)) (y := (0 : Int32)) rfl rfl (by decide : (0 : Int) = 0))).1 (by decide) (by decide)
        have A1332 := A1331.iconst (z := (-1 : Int32)) (pc' := 406) at_405 rfl rfl
        have A1333 := A1332.istore (Ls' := #[.val (.long a), .second, .val (.long x), .second, .val (.long z), .second, .val (.int p), .val (.int x0), .val (.int x1), .val (.int x2), .val (.int (2 : Int32)), .val (.int sa), .val (.int li), .val (.ref b54), .val (.ref b160), .val (.ref b1033), .val (.int (-1 : Int32)), .val (.int (0 : Int32)), .val (.int (0 : Int32)), .val (.int (0 : Int32)), .val (.int (0 : Int32)), .val (.int (0 : Int32)), .val (.int (-1 : Int32))]) (pc' := 408) at_406 rfl rfl
        have A1334 := A1333.iload (v := (-1 : Int32)) (pc' := 410) at_408 rfl rfl
        have A1335 := A1334.iload (v := (-1 : Int32)) (pc' := 412) at_410 rfl rfl
        have A1337 := A1335.icmpNo (pc' := 415) at_412 (teq (ieq (x := (-1 : Int32)) (y := (-1 : Int32)) rfl rfl (by decide : ((-1) : Int) = (-1)))).2 rfl
        have A1338 := A1337.iconst (z := (1 : Int32)) (pc' := 416) at_415 rfl rfl
        have A1339 := A1338.goto (pc' := 420) at_416 (by decide) (by decide)
        refine A1339.retN (t := .boolean) (z' := (1 : Int32)) at_420 (by decide) (by decide) (by simp) rfl ⟨_, rfl, ⟨trivial, ?_⟩⟩
        have elit : (1 : Int32).toInt = 1 := rfl
        rfl
  · by_cases p0 : 32 ≤ x0.toInt ∧ x0.toInt < 128 ∧ ¬ (x0.toInt = 34) ∧ ¬ (x0.toInt = 92)
    · by_cases p1 : 32 ≤ x1.toInt ∧ x1.toInt < 128 ∧ ¬ (x1.toInt = 34) ∧ ¬ (x1.toInt = 92)
      · have kp : (32 ≤ x0.toInt ∧ x0.toInt < 128 ∧ ¬ (x0.toInt = 34) ∧ ¬ (x0.toInt = 92)) ∧ (32 ≤ x1.toInt ∧ x1.toInt < 128 ∧ ¬ (x1.toInt = 34) ∧ ¬ (x1.toInt = 92)) := ⟨p0, p1⟩
        obtain ⟨h1340, b1341, eb1342, g1343, E1344, X1345, D1346, A1347⟩ := A280.newO (C' := 8) (S' := 25) (pc' := 221) at_218 (hw _ (List.mem_of_getElem? (i := 50) rfl)) (hw _ (List.mem_of_getElem? (i := 51) rfl)) (hw _ (List.mem_of_getElem? (i := 52) rfl)) (by decide) (by decide) rfl rfl rfl
        have f1348 := ((f261.keep K250 nin0).other w278 ne167)
        have ne1349 : b54 ≠ b1341 := Nat.ne_of_lt (Nat.lt_of_lt_of_le f1348.lt (Nat.le_of_eq eb1342.symm))
        have ne1350 : b160 ≠ b1341 := Nat.ne_of_lt (Nat.lt_of_lt_of_le X279.lt (Nat.le_of_eq eb1342.symm))
        have f1351 := ((f264.keep K250).wr w278)
        have ne1352 : b172 ≠ b1341 := Nat.ne_of_lt (Nat.lt_of_lt_of_le f1351.lt (Nat.le_of_eq eb1342.symm))
        have f1353 := ((f266.keep K250 nin0).other w278 (Ne.symm ne197))
        have ne1354 : b187 ≠ b1341 := Nat.ne_of_lt (Nat.lt_of_lt_of_le f1353.lt (Nat.le_of_eq eb1342.symm))
        have f1355 := ((f268.keep K250 nin0).other w278 (Ne.symm ne232))
        have ne1356 : b222 ≠ b1341 := Nat.ne_of_lt (Nat.lt_of_lt_of_le f1355.lt (Nat.le_of_eq eb1342.symm))
        have f1357 := (f256.wr w278)
        have ne1358 : r247 ≠ b1341 := Nat.ne_of_lt (Nat.lt_of_lt_of_le f1357.lt (Nat.le_of_eq eb1342.symm))
        have f1359 := (f259.other w278 (Ne.symm ne271))
        have ne1360 : b251 ≠ b1341 := Nat.ne_of_lt (Nat.lt_of_lt_of_le f1359.lt (Nat.le_of_eq eb1342.symm))
        have f1361 : Fld Z h1340 b1341 "com/example/dialekt/dialekt/json/MemberNames" "names" "[Ljava/lang/String;" .null := D1346 (Or.inr (hw _ (List.mem_of_getElem? (i := 58) rfl))) (ty := (.array (.object "java/lang/String"))) (by decide)
        have f1362 : Fld Z h1340 b1341 "com/example/dialekt/dialekt/json/MemberNames" "plain" "[[B" .null := D1346 (Or.inr (hw _ (List.mem_of_getElem? (i := 62) rfl))) (ty := (.array (.array .byte))) (by decide)
        have f1363 : Fld Z h1340 b1341 "com/example/dialekt/dialekt/json/MemberNames" "plainLengths" "[I" .null := D1346 (Or.inr (hw _ (List.mem_of_getElem? (i := 65) rfl))) (ty := (.array .int)) (by decide)
        have A1364 := A1347.dup (pc' := 222) at_221 rfl rfl
        have A1365 := A1364.aload (v := (.ref b160)) (pc' := 224) at_222 rfl rfl rfl
        have f1366 := (X279.ext E1344)
        have f1367 := (f1351.ext E1344)
        have f1368 := ((((f226.other w238 (Or.inl (Ne.symm ne181))).keep K250 nin0).other w278 (Or.inl (Ne.symm ne181))).ext E1344)
        have f1369 := ((((f225.other w238 (Or.inl (Ne.symm ne181))).keep K250 nin0).other w278 (Or.inl (Ne.symm ne181))).ext E1344)
        have f1370 := (f1355.ext E1344)
        have f1371 := ((((f228.wr w238).keep K250).wr w278).ext E1344)
        have f1372 := (f1357.ext E1344)
        have f1373 := ((f258.other w278 (Or.inl (Ne.symm ne263))).ext E1344)
        have f1374 := ((f257.other w278 (Or.inl (Ne.symm ne263))).ext E1344)
        have f1375 := (f1359.ext E1344)
        have f1376 := ((f260.wr w278).ext E1344)
        have f1377 := (((f245.keep K250 all0).wr w278 g162).ext E1344)
        obtain ⟨h1381, ⟨b1383, b1384, b1385, K1382, g1386, z1387, g1388, z1389, g1390, z1391, f1392, f1393, f1394, f1395, f1396, q1380⟩, A1378⟩ := W.kV (A1365.callI (a := b1341) (argsL := [(.ref b160)]) (rest := [(.ref b1341)]) (C' := 11) (S' := 33) (pc' := 227) at_224 rfl (hw _ (List.mem_of_getElem? (i := 53) rfl)) (hw _ (List.mem_of_getElem? (i := 54) rfl)) (hw _ (List.mem_of_getElem? (i := 52) rfl)) (hw _ (List.mem_of_getElem? (i := 55) rfl)) (rm12_PN l Z a0 hw n0 [] (b1341) (b160) (b172) (r247) (b222) (b251) (iso) (u8) (nb) (x0) (x1) (x2) (_) (_) h1340 A1365.size X1345 g1343 f1361 f1362 f1363 f1366 f1367 f1368 f1369 f1370 f1371 f1372 f1373 f1374 f1375 f1376 ne1350 ne1352 ne1356 ne1358 ne1360 (by assumption) (by assumption) (by assumption) f1377 e1 (by assumption) e3 (by assumption) e5 e6 e7 e8 e9 e10 e11 (by assumption) (by assumption)) rfl rfl pd_21 rfl rfl (by decide) (by decide) (Nat.le_of_ble_eq_true rfl) (by decide) (by decide) rfl rfl rfl)
        have f1397 := (f1348.ext E1344)
        have ne1398 : b54 ≠ b1383 := Nat.ne_of_lt (Nat.lt_of_lt_of_le f1397.lt z1387)
        have ne1399 : b160 ≠ b1383 := Nat.ne_of_lt (Nat.lt_of_lt_of_le f1366.lt z1387)
        have ne1400 : b172 ≠ b1383 := Nat.ne_of_lt (Nat.lt_of_lt_of_le f1367.lt z1387)
        have f1401 := (f1353.ext E1344)
        have ne1402 : b187 ≠ b1383 := Nat.ne_of_lt (Nat.lt_of_lt_of_le f1401.lt z1387)
        have ne1403 : b222 ≠ b1383 := Nat.ne_of_lt (Nat.lt_of_lt_of_le f1370.lt z1387)
        have ne1404 : r247 ≠ b1383 := Nat.ne_of_lt (Nat.lt_of_lt_of_le f1372.lt z1387)
        have ne1405 : b251 ≠ b1383 := Nat.ne_of_lt (Nat.lt_of_lt_of_le f1375.lt z1387)
        have ne1406 : b1341 ≠ b1383 := Nat.ne_of_lt (Nat.lt_of_lt_of_le X1345.lt z1387)
        have ne1407 : b54 ≠ b1384 := Nat.ne_of_lt (Nat.lt_of_lt_of_le f1397.lt z1389)
        have ne1408 : b160 ≠ b1384 := Nat.ne_of_lt (Nat.lt_of_lt_of_le f1366.lt z1389)
        have ne1409 : b172 ≠ b1384 := Nat.ne_of_lt (Nat.lt_of_lt_of_le f1367.lt z1389)
        have ne1410 : b187 ≠ b1384 := Nat.ne_of_lt (Nat.lt_of_lt_of_le f1401.lt z1389)
        have ne1411 : b222 ≠ b1384 := Nat.ne_of_lt (Nat.lt_of_lt_of_le f1370.lt z1389)
        have ne1412 : r247 ≠ b1384 := Nat.ne_of_lt (Nat.lt_of_lt_of_le f1372.lt z1389)
        have ne1413 : b251 ≠ b1384 := Nat.ne_of_lt (Nat.lt_of_lt_of_le f1375.lt z1389)
        have ne1414 : b1341 ≠ b1384 := Nat.ne_of_lt (Nat.lt_of_lt_of_le X1345.lt z1389)
        have ne1415 : b54 ≠ b1385 := Nat.ne_of_lt (Nat.lt_of_lt_of_le f1397.lt z1391)
        have ne1416 : b160 ≠ b1385 := Nat.ne_of_lt (Nat.lt_of_lt_of_le f1366.lt z1391)
        have ne1417 : b172 ≠ b1385 := Nat.ne_of_lt (Nat.lt_of_lt_of_le f1367.lt z1391)
        have ne1418 : b187 ≠ b1385 := Nat.ne_of_lt (Nat.lt_of_lt_of_le f1401.lt z1391)
        have ne1419 : b222 ≠ b1385 := Nat.ne_of_lt (Nat.lt_of_lt_of_le f1370.lt z1391)
        have ne1420 : r247 ≠ b1385 := Nat.ne_of_lt (Nat.lt_of_lt_of_le f1372.lt z1391)
        have ne1421 : b251 ≠ b1385 := Nat.ne_of_lt (Nat.lt_of_lt_of_le f1375.lt z1391)
        have ne1422 : b1341 ≠ b1385 := Nat.ne_of_lt (Nat.lt_of_lt_of_le X1345.lt z1391)
        have A1423 := A1378.astore (Ls' := #[.val (.long a), .second, .val (.long x), .second, .val (.long z), .second, .val (.int p), .val (.int x0), .val (.int x1), .val (.int x2), .val (.int ix), .val (.int sa), .val (.int li), .val (.ref b54), .val (.ref b160), .val (.ref b1341), .unset, .unset, .unset, .unset, .unset, .unset, .unset]) (pc' := 229) at_227 rfl rfl rfl
        obtain hi | hi | hi := own_three ix kix
        · have A1424 := A1423.cast (Ls' := #[.val (.long a), .second, .val (.long x), .second, .val (.long z), .second, .val (.int p), .val (.int x0), .val (.int x1), .val (.int x2), .val (.int (0 : Int32)), .val (.int sa), .val (.int li), .val (.ref b54), .val (.ref b160), .val (.ref b1341), .unset, .unset, .unset, .unset, .unset, .unset, .unset]) rfl (by rw [hi]) rfl
          have A1425 := A1424.aload (v := (.ref b1341)) (pc' := 231) at_229 rfl rfl rfl
          have A1426 := A1425.iload (v := (0 : Int32)) (pc' := 233) at_231 rfl rfl
          have A1427 := A1426.aload (v := (.ref b54)) (pc' := 235) at_233 rfl rfl rfl
          have A1428 := A1427.iload (v := sa) (pc' := 237) at_235 rfl rfl
          have A1429 := A1428.iload (v := li) (pc' := 239) at_237 rfl rfl
          have f1430 := (f1397.keep K1382 (ninS ne1349 nin0))
          have f1433 := (X1345.keep K1382)
          obtain ⟨r1432, _, ⟨rfl, q1434⟩, A1431⟩ := W.kI (A1429.callV (a := b1341) (argsL := [(.int (0 : Int32)), (.ref b54), (.int sa), (.int li)]) (rest := []) (C' := 11) (S' := 33) (pc' := 242) at_239 f1433 (hw _ (List.mem_of_getElem? (i := 101) rfl)) (hw _ (List.mem_of_getElem? (i := 102) rfl)) (fun hZ => notFace_of_selects (args := #[]) (mvT hZ (hw _ (List.mem_of_getElem? (i := 104) rfl)))) (hw _ (List.mem_of_getElem? (i := 104) rfl)) (hw _ (List.mem_of_getElem? (i := 103) rfl)) (hw _ (List.mem_of_getElem? (i := 52) rfl)) (hw _ (List.mem_of_getElem? (i := 105) rfl)) (rm20_P0 l Z a0 hw n0 [] (b1341) (b54) (sa) (li) (b1383) (b1384) (b1385) ((upd (upd (upd (fun _ => .null) 0 (.ref b1385)) 1 (.ref nb)) 2 (.ref nb))) ((upd (upd (upd (fun _ => (.int (0 : Int32))) 0 (.int (2 : Int32))) 1 (.int (2147483647 : Int32))) 2 (.int (2147483647 : Int32)))) ((upd (upd (fun _ => (.int (0 : Int32))) 0 (.int x0.toInt8.toInt32.toInt8.toInt32)) 1 (.int x1.toInt8.toInt32.toInt8.toInt32))) ((upd (upd (upd (upd (upd (upd (fun _ => (.int (0 : Int32))) 0 (.int r71.toInt8.toInt32)) 1 (.int r87.toInt8.toInt32)) 2 (.int r103.toInt8.toInt32)) 3 (.int r119.toInt8.toInt32)) 4 (.int r135.toInt8.toInt32)) 5 (.int r151.toInt8.toInt32))) (T) (x0.toInt8.toInt32) (x1.toInt8.toInt32) h1381 A1429.size f1430 (by exact hT) (by exact ⟨ksa.1, ksa.2, kli.1, kli.2⟩) f1392 f1393 f1394 f1395 (by rfl) (by rfl) f1396 (by exact congrArg Value.int (own_bb _)) (by exact congrArg Value.int (own_bb _))) rfl rfl pd_22 rfl rfl (by decide) (by decide) (Nat.le_of_ble_eq_true rfl) (by decide) (by decide) rfl rfl rfl)
          have hE := own_hid q1434
          clear q1434
          have A1436 := A1431.istore (Ls' := #[.val (.long a), .second, .val (.long x), .second, .val (.long z), .second, .val (.int p), .val (.int x0), .val (.int x1), .val (.int x2), .val (.int (0 : Int32)), .val (.int sa), .val (.int li), .val (.ref b54), .val (.ref b160), .val (.ref b1341), .val (.int r1432), .unset, .unset, .unset, .unset, .unset, .unset]) (pc' := 244) at_242 rfl rfl
          clear e7 ne167 ne180 ne181 ne195 ne197 ne198 ne230 ne232 ne233 ne234 ne262 ne263 ne265 ne267 ne269 ne270 ne271 ne272 ne273 ne274 ne1349 ne1350 ne1352 ne1354 ne1356 ne1358 ne1360 ne1398 ne1399 ne1400 ne1402 ne1403 ne1404 ne1405 ne1406 ne1407 ne1408 ne1409 ne1410 ne1411 ne1412 ne1413 ne1414 ne1415 ne1416 ne1417 ne1418 ne1419 ne1420 ne1421 ne1422
          have a0_ := addc32 sa (0 : Int32) 0 rfl (by omega) (by omega)
          have a1_ := addc32 sa (1 : Int32) 1 rfl (by omega) (by omega)
          have a2_ := addc32 sa (2 : Int32) 2 rfl (by omega) (by omega)
          have z1_ := addc32 (sa + (1 : Int32)) (1 : Int32) 1 rfl (by omega) (by omega)
          have z2_ := addc32 (sa + (2 : Int32)) (1 : Int32) 1 rfl (by omega) (by omega)
          have A1437 := A1436.iload (v := (0 : Int32)) (pc' := 246) at_244 rfl rfl
          have A1439 := A1437.ifNo (pc' := 249) at_246 (teq (ieq (x := (0 : Int32)) (y := (0 : Int32)) rfl rfl (by decide : (0 : Int) = 0))).2 rfl
          have A1440 := A1439.iload (v := x0) (pc' := 251) at_249 rfl rfl
          obtain ⟨r1442, _, ⟨rfl, q1443⟩, A1441⟩ := W.kI (A1440.callS (argsL := [(.int x0)]) (rest := []) (C' := 11) (S' := 33) (pc' := 254) at_251 (hw _ (List.mem_of_getElem? (i := 106) rfl)) (hw _ (List.mem_of_getElem? (i := 107) rfl)) (hw _ (List.mem_of_getElem? (i := 4) rfl)) (hw _ (List.mem_of_getElem? (i := 108) rfl)) (rm21 l Z a0 hw n0 [] (x0)  h1381 A1440.size ) rfl rfl pd_4 rfl rfl (by decide) (by decide) (Nat.le_of_ble_eq_true rfl) (by decide) (by decide) rfl rfl rfl)
          by_cases c1445 : r1442.toInt = 0
          · exfalso
            omega
          · have A1447 := A1441.ifNo (pc' := 257) at_254 (feq (ine (x := r1442) (y := (0 : Int32)) rfl rfl c1445)).1 rfl
            have A1448 := A1447.iload (v := x1) (pc' := 259) at_257 rfl rfl
            obtain ⟨r1450, _, ⟨rfl, q1451⟩, A1449⟩ := W.kI (A1448.callS (argsL := [(.int x1)]) (rest := []) (C' := 11) (S' := 33) (pc' := 262) at_259 (hw _ (List.mem_of_getElem? (i := 106) rfl)) (hw _ (List.mem_of_getElem? (i := 107) rfl)) (hw _ (List.mem_of_getElem? (i := 4) rfl)) (hw _ (List.mem_of_getElem? (i := 108) rfl)) (rm21 l Z a0 hw n0 [] (x1)  h1381 A1448.size ) rfl rfl pd_4 rfl rfl (by decide) (by decide) (Nat.le_of_ble_eq_true rfl) (by decide) (by decide) rfl rfl rfl)
            by_cases c1453 : r1450.toInt = 0
            · exfalso
              omega
            · have A1455 := A1449.ifNo (pc' := 265) at_262 (feq (ine (x := r1450) (y := (0 : Int32)) rfl rfl c1453)).1 rfl
              have A1456 := A1455.iconst (z := (1 : Int32)) (pc' := 266) at_265 rfl rfl
              have A1457 := A1456.goto (pc' := 270) at_266 (by decide) (by decide)
              have A1458 := A1457.istore (Ls' := #[.val (.long a), .second, .val (.long x), .second, .val (.long z), .second, .val (.int p), .val (.int x0), .val (.int x1), .val (.int x2), .val (.int (0 : Int32)), .val (.int sa), .val (.int li), .val (.ref b54), .val (.ref b160), .val (.ref b1341), .val (.int r1432), .val (.int (1 : Int32)), .unset, .unset, .unset, .unset, .unset]) (pc' := 272) at_270 rfl rfl
              have A1459 := A1458.iconst (z := (2 : Int32)) (pc' := 273) at_272 rfl rfl
              have A1460 := A1459.istore (Ls' := #[.val (.long a), .second, .val (.long x), .second, .val (.long z), .second, .val (.int p), .val (.int x0), .val (.int x1), .val (.int x2), .val (.int (0 : Int32)), .val (.int sa), .val (.int li), .val (.ref b54), .val (.ref b160), .val (.ref b1341), .val (.int r1432), .val (.int (1 : Int32)), .val (.int (2 : Int32)), .unset, .unset, .unset, .unset]) (pc' := 275) at_273 rfl rfl
              have A1461 := A1460.iload (v := x0) (pc' := 277) at_275 rfl rfl
              have A1462 := A1461.istore (Ls' := #[.val (.long a), .second, .val (.long x), .second, .val (.long z), .second, .val (.int p), .val (.int x0), .val (.int x1), .val (.int x2), .val (.int (0 : Int32)), .val (.int sa), .val (.int li), .val (.ref b54), .val (.ref b160), .val (.ref b1341), .val (.int r1432), .val (.int (1 : Int32)), .val (.int (2 : Int32)), .val (.int x0), .unset, .unset, .unset]) (pc' := 279) at_277 rfl rfl
              have A1463 := A1462.iload (v := x1) (pc' := 281) at_279 rfl rfl
              have A1464 := A1463.istore (Ls' := #[.val (.long a), .second, .val (.long x), .second, .val (.long z), .second, .val (.int p), .val (.int x0), .val (.int x1), .val (.int x2), .val (.int (0 : Int32)), .val (.int sa), .val (.int li), .val (.ref b54), .val (.ref b160), .val (.ref b1341), .val (.int r1432), .val (.int (1 : Int32)), .val (.int (2 : Int32)), .val (.int x0), .val (.int x1), .unset, .unset]) (pc' := 283) at_281 rfl rfl
              have A1465 := A1464.goto (pc' := 325) at_283 (by decide) (by decide)
              have A1466 := A1465.iload (v := (1 : Int32)) (pc' := 327) at_325 rfl rfl
              have A1468 := A1466.ifNo (pc' := 330) at_327 (feq (ine (x := (1 : Int32)) (y := (0 : Int32)) rfl rfl (by decide : ¬ ((1 : Int) = 0)))).1 rfl
              clear q1443 q1451 kp p0 p2 p1
              have A1469 := A1468.iload (v := sa) (pc' := 332) at_330 rfl rfl
              have A1470 := A1469.iload (v := (2 : Int32)) (pc' := 334) at_332 rfl rfl
              have A1471 := A1470.iadd (pc' := 335) at_334 rfl
              have A1472 := A1471.iload (v := li) (pc' := 337) at_335 rfl rfl
              by_cases c1473 : (sa + (2 : Int32)).toInt < li.toInt
              · have A1474 := A1472.icmpNo (pc' := 340) at_337 (tlt (ilt (x := (sa + (2 : Int32))) (y := li) rfl rfl c1473)).2.1 rfl
                have A1475 := A1474.aload (v := (.ref b54)) (pc' := 342) at_340 rfl rfl rfl
                have A1476 := A1475.iload (v := sa) (pc' := 344) at_342 rfl rfl
                have A1477 := A1476.baload (i := (sa.toInt.toNat + 0)) (v := (.int (T (sa.toInt.toNat + 0)))) (pc' := 345) at_344 f1430 (by omega) (by omega) (hT _) rfl
                have A1478 := A1477.iload (v := x0) (pc' := 347) at_345 rfl rfl
                have A1479 := A1478.i2b (pc' := 348) at_347 rfl
                by_cases c1480 : (T (sa.toInt.toNat + 0)).toInt = x0.toInt8.toInt32.toInt
                · have A1481 := A1479.icmpNo (pc' := 351) at_348 (teq (ieq (x := (T (sa.toInt.toNat + 0))) (y := x0.toInt8.toInt32) rfl rfl c1480)).2 rfl
                  have A1482 := A1481.iload (v := (2 : Int32)) (pc' := 353) at_351 rfl rfl
                  have A1483 := A1482.iconst (z := (2 : Int32)) (pc' := 354) at_353 rfl rfl
                  have A1485 := A1483.icmpNo (pc' := 357) at_354 (flt (inlt (x := (2 : Int32)) (y := (2 : Int32)) rfl rfl (by decide : ¬ ((2 : Int) < 2)))).1 rfl
                  have A1486 := A1485.aload (v := (.ref b54)) (pc' := 359) at_357 rfl rfl rfl
                  have A1487 := A1486.iload (v := sa) (pc' := 361) at_359 rfl rfl
                  have A1488 := A1487.iconst (z := (1 : Int32)) (pc' := 362) at_361 rfl rfl
                  have A1489 := A1488.iadd (pc' := 363) at_362 rfl
                  have A1490 := A1489.baload (i := (sa.toInt.toNat + 1)) (v := (.int (T (sa.toInt.toNat + 1)))) (pc' := 364) at_363 f1430 (by omega) (by omega) (hT _) rfl
                  have A1491 := A1490.iload (v := x1) (pc' := 366) at_364 rfl rfl
                  have A1492 := A1491.i2b (pc' := 367) at_366 rfl
                  by_cases c1493 : (T (sa.toInt.toNat + 1)).toInt = x1.toInt8.toInt32.toInt
                  · have A1494 := A1492.icmpNo (pc' := 370) at_367 (teq (ieq (x := (T (sa.toInt.toNat + 1))) (y := x1.toInt8.toInt32) rfl rfl c1493)).2 rfl
                    have A1495 := A1494.aload (v := (.ref b54)) (pc' := 372) at_370 rfl rfl rfl
                    have A1496 := A1495.iload (v := sa) (pc' := 374) at_372 rfl rfl
                    have A1497 := A1496.iload (v := (2 : Int32)) (pc' := 376) at_374 rfl rfl
                    have A1498 := A1497.iadd (pc' := 377) at_376 rfl
                    have A1499 := A1498.baload (i := (sa.toInt.toNat + 2)) (v := (.int (T (sa.toInt.toNat + 2)))) (pc' := 378) at_377 f1430 (by omega) (by omega) (hT _) rfl
                    have A1500 := A1499.bipush (z := (34 : Int32)) (pc' := 380) at_378 rfl rfl
                    by_cases c1501 : (T (sa.toInt.toNat + 2)).toInt = 34
                    · have A1502 := A1500.icmpNo (pc' := 383) at_380 (teq (ieq (x := (T (sa.toInt.toNat + 2))) (y := (34 : Int32)) rfl rfl c1501)).2 rfl
                      have A1503 := A1502.iconst (z := (1 : Int32)) (pc' := 384) at_383 rfl rfl
                      have A1504 := A1503.goto (pc' := 388) at_384 (by decide) (by decide)
                      have A1505 := A1504.istore (Ls' := #[.val (.long a), .second, .val (.long x), .second, .val (.long z), .second, .val (.int p), .val (.int x0), .val (.int x1), .val (.int x2), .val (.int (0 : Int32)), .val (.int sa), .val (.int li), .val (.ref b54), .val (.ref b160), .val (.ref b1341), .val (.int r1432), .val (.int (1 : Int32)), .val (.int (2 : Int32)), .val (.int x0), .val (.int x1), .val (.int (1 : Int32)), .unset]) (pc' := 390) at_388 rfl rfl
                      have A1506 := A1505.iload (v := (1 : Int32)) (pc' := 392) at_390 rfl rfl
                      have A1508 := A1506.ifNo (pc' := 395) at_392 (feq (ine (x := (1 : Int32)) (y := (0 : Int32)) rfl rfl (by decide : ¬ ((1 : Int) = 0)))).1 rfl
                      have A1509 := A1508.iload (v := sa) (pc' := 397) at_395 rfl rfl
                      have A1510 := A1509.iload (v := (2 : Int32)) (pc' := 399) at_397 rfl rfl
                      have A1511 := A1510.iadd (pc' := 400) at_399 rfl
                      have A1512 := A1511.iconst (z := (1 : Int32)) (pc' := 401) at_400 rfl rfl
                      have A1513 := A1512.iadd (pc' := 402) at_401 rfl
                      have A1514 := A1513.goto (pc' := 406) at_402 (by decide) (by decide)
                      have A1515 := A1514.istore (Ls' := #[.val (.long a), .second, .val (.long x), .second, .val (.long z), .second, .val (.int p), .val (.int x0), .val (.int x1), .val (.int x2), .val (.int (0 : Int32)), .val (.int sa), .val (.int li), .val (.ref b54), .val (.ref b160), .val (.ref b1341), .val (.int r1432), .val (.int (1 : Int32)), .val (.int (2 : Int32)), .val (.int x0), .val (.int x1), .val (.int (1 : Int32)), .val (.int ((sa + (2 : Int32)) + (1 : Int32)))]) (pc' := 408) at_406 rfl rfl
                      have A1516 := A1515.iload (v := r1432) (pc' := 410) at_408 rfl rfl
                      have A1517 := A1516.iload (v := ((sa + (2 : Int32)) + (1 : Int32))) (pc' := 412) at_410 rfl rfl
                      by_cases c1518 : r1432.toInt = ((sa + (2 : Int32)) + (1 : Int32)).toInt
                      · have A1519 := A1517.icmpNo (pc' := 415) at_412 (teq (ieq (x := r1432) (y := ((sa + (2 : Int32)) + (1 : Int32))) rfl rfl c1518)).2 rfl
                        have A1520 := A1519.iconst (z := (1 : Int32)) (pc' := 416) at_415 rfl rfl
                        have A1521 := A1520.goto (pc' := 420) at_416 (by decide) (by decide)
                        refine A1521.retN (t := .boolean) (z' := (1 : Int32)) at_420 (by decide) (by decide) (by simp) rfl ⟨_, rfl, ⟨trivial, ?_⟩⟩
                        have elit : (1 : Int32).toInt = 1 := rfl
                        rfl
                      · have A1522 := A1517.icmpYes (pc' := 419) at_412 (feq (ine (x := r1432) (y := ((sa + (2 : Int32)) + (1 : Int32))) rfl rfl c1518)).2 (by decide) (by decide)
                        have A1523 := A1522.iconst (z := (0 : Int32)) (pc' := 420) at_419 rfl rfl
                        refine A1523.retN (t := .boolean) (z' := (0 : Int32)) at_420 (by decide) (by decide) (by simp) rfl ⟨_, rfl, ⟨trivial, ?_⟩⟩
                        have elit : (0 : Int32).toInt = 0 := rfl
                        exfalso
                        unfold Hid at hE
                        omega
                    · have A1524 := A1500.icmpYes (pc' := 387) at_380 (feq (ine (x := (T (sa.toInt.toNat + 2))) (y := (34 : Int32)) rfl rfl c1501)).2 (by decide) (by decide)
                      have A1525 := A1524.iconst (z := (0 : Int32)) (pc' := 388) at_387 rfl rfl
                      have A1526 := A1525.istore (Ls' := #[.val (.long a), .second, .val (.long x), .second, .val (.long z), .second, .val (.int p), .val (.int x0), .val (.int x1), .val (.int x2), .val (.int (0 : Int32)), .val (.int sa), .val (.int li), .val (.ref b54), .val (.ref b160), .val (.ref b1341), .val (.int r1432), .val (.int (1 : Int32)), .val (.int (2 : Int32)), .val (.int x0), .val (.int x1), .val (.int (0 : Int32)), .unset]) (pc' := 390) at_388 rfl rfl
                      have A1527 := A1526.iload (v := (0 : Int32)) (pc' := 392) at_390 rfl rfl
                      have A1529 := A1527.ifYes (pc' := 405) at_392 (teq (ieq (x := (0 : Int32)) (y := (0 : Int32)) rfl rfl (by decide : (0 : Int) = 0))).1 (by decide) (by decide)
                      have A1530 := A1529.iconst (z := (-1 : Int32)) (pc' := 406) at_405 rfl rfl
                      have A1531 := A1530.istore (Ls' := #[.val (.long a), .second, .val (.long x), .second, .val (.long z), .second, .val (.int p), .val (.int x0), .val (.int x1), .val (.int x2), .val (.int (0 : Int32)), .val (.int sa), .val (.int li), .val (.ref b54), .val (.ref b160), .val (.ref b1341), .val (.int r1432), .val (.int (1 : Int32)), .val (.int (2 : Int32)), .val (.int x0), .val (.int x1), .val (.int (0 : Int32)), .val (.int (-1 : Int32))]) (pc' := 408) at_406 rfl rfl
                      have A1532 := A1531.iload (v := r1432) (pc' := 410) at_408 rfl rfl
                      have A1533 := A1532.iload (v := (-1 : Int32)) (pc' := 412) at_410 rfl rfl
                      by_cases c1534 : r1432.toInt = (-1)
                      · have A1535 := A1533.icmpNo (pc' := 415) at_412 (teq (ieq (x := r1432) (y := (-1 : Int32)) rfl rfl c1534)).2 rfl
                        have A1536 := A1535.iconst (z := (1 : Int32)) (pc' := 416) at_415 rfl rfl
                        have A1537 := A1536.goto (pc' := 420) at_416 (by decide) (by decide)
                        refine A1537.retN (t := .boolean) (z' := (1 : Int32)) at_420 (by decide) (by decide) (by simp) rfl ⟨_, rfl, ⟨trivial, ?_⟩⟩
                        have elit : (1 : Int32).toInt = 1 := rfl
                        rfl
                      · have A1538 := A1533.icmpYes (pc' := 419) at_412 (feq (ine (x := r1432) (y := (-1 : Int32)) rfl rfl c1534)).2 (by decide) (by decide)
                        have A1539 := A1538.iconst (z := (0 : Int32)) (pc' := 420) at_419 rfl rfl
                        refine A1539.retN (t := .boolean) (z' := (0 : Int32)) at_420 (by decide) (by decide) (by simp) rfl ⟨_, rfl, ⟨trivial, ?_⟩⟩
                        have elit : (0 : Int32).toInt = 0 := rfl
                        exfalso
                        unfold Hid at hE
                        omega
                  · have A1540 := A1492.icmpYes (pc' := 387) at_367 (feq (ine (x := (T (sa.toInt.toNat + 1))) (y := x1.toInt8.toInt32) rfl rfl c1493)).2 (by decide) (by decide)
                    have A1541 := A1540.iconst (z := (0 : Int32)) (pc' := 388) at_387 rfl rfl
                    have A1542 := A1541.istore (Ls' := #[.val (.long a), .second, .val (.long x), .second, .val (.long z), .second, .val (.int p), .val (.int x0), .val (.int x1), .val (.int x2), .val (.int (0 : Int32)), .val (.int sa), .val (.int li), .val (.ref b54), .val (.ref b160), .val (.ref b1341), .val (.int r1432), .val (.int (1 : Int32)), .val (.int (2 : Int32)), .val (.int x0), .val (.int x1), .val (.int (0 : Int32)), .unset]) (pc' := 390) at_388 rfl rfl
                    have A1543 := A1542.iload (v := (0 : Int32)) (pc' := 392) at_390 rfl rfl
                    have A1545 := A1543.ifYes (pc' := 405) at_392 (teq (ieq (x := (0 : Int32)) (y := (0 : Int32)) rfl rfl (by decide : (0 : Int) = 0))).1 (by decide) (by decide)
                    have A1546 := A1545.iconst (z := (-1 : Int32)) (pc' := 406) at_405 rfl rfl
                    have A1547 := A1546.istore (Ls' := #[.val (.long a), .second, .val (.long x), .second, .val (.long z), .second, .val (.int p), .val (.int x0), .val (.int x1), .val (.int x2), .val (.int (0 : Int32)), .val (.int sa), .val (.int li), .val (.ref b54), .val (.ref b160), .val (.ref b1341), .val (.int r1432), .val (.int (1 : Int32)), .val (.int (2 : Int32)), .val (.int x0), .val (.int x1), .val (.int (0 : Int32)), .val (.int (-1 : Int32))]) (pc' := 408) at_406 rfl rfl
                    have A1548 := A1547.iload (v := r1432) (pc' := 410) at_408 rfl rfl
                    have A1549 := A1548.iload (v := (-1 : Int32)) (pc' := 412) at_410 rfl rfl
                    by_cases c1550 : r1432.toInt = (-1)
                    · have A1551 := A1549.icmpNo (pc' := 415) at_412 (teq (ieq (x := r1432) (y := (-1 : Int32)) rfl rfl c1550)).2 rfl
                      have A1552 := A1551.iconst (z := (1 : Int32)) (pc' := 416) at_415 rfl rfl
                      have A1553 := A1552.goto (pc' := 420) at_416 (by decide) (by decide)
                      refine A1553.retN (t := .boolean) (z' := (1 : Int32)) at_420 (by decide) (by decide) (by simp) rfl ⟨_, rfl, ⟨trivial, ?_⟩⟩
                      have elit : (1 : Int32).toInt = 1 := rfl
                      rfl
                    · have A1554 := A1549.icmpYes (pc' := 419) at_412 (feq (ine (x := r1432) (y := (-1 : Int32)) rfl rfl c1550)).2 (by decide) (by decide)
                      have A1555 := A1554.iconst (z := (0 : Int32)) (pc' := 420) at_419 rfl rfl
                      refine A1555.retN (t := .boolean) (z' := (0 : Int32)) at_420 (by decide) (by decide) (by simp) rfl ⟨_, rfl, ⟨trivial, ?_⟩⟩
                      have elit : (0 : Int32).toInt = 0 := rfl
                      exfalso
                      unfold Hid at hE
                      omega
                · have A1556 := A1479.icmpYes (pc' := 387) at_348 (feq (ine (x := (T (sa.toInt.toNat + 0))) (y := x0.toInt8.toInt32) rfl rfl c1480)).2 (by decide) (by decide)
                  have A1557 := A1556.iconst (z := (0 : Int32)) (pc' := 388) at_387 rfl rfl
                  have A1558 := A1557.istore (Ls' := #[.val (.long a), .second, .val (.long x), .second, .val (.long z), .second, .val (.int p), .val (.int x0), .val (.int x1), .val (.int x2), .val (.int (0 : Int32)), .val (.int sa), .val (.int li), .val (.ref b54), .val (.ref b160), .val (.ref b1341), .val (.int r1432), .val (.int (1 : Int32)), .val (.int (2 : Int32)), .val (.int x0), .val (.int x1), .val (.int (0 : Int32)), .unset]) (pc' := 390) at_388 rfl rfl
                  have A1559 := A1558.iload (v := (0 : Int32)) (pc' := 392) at_390 rfl rfl
                  have A1561 := A1559.ifYes (pc' := 405) at_392 (teq (ieq (x := (0 : Int32)) (y := (0 : Int32)) rfl rfl (by decide : (0 : Int) = 0))).1 (by decide) (by decide)
                  have A1562 := A1561.iconst (z := (-1 : Int32)) (pc' := 406) at_405 rfl rfl
                  have A1563 := A1562.istore (Ls' := #[.val (.long a), .second, .val (.long x), .second, .val (.long z), .second, .val (.int p), .val (.int x0), .val (.int x1), .val (.int x2), .val (.int (0 : Int32)), .val (.int sa), .val (.int li), .val (.ref b54), .val (.ref b160), .val (.ref b1341), .val (.int r1432), .val (.int (1 : Int32)), .val (.int (2 : Int32)), .val (.int x0), .val (.int x1), .val (.int (0 : Int32)), .val (.int (-1 : Int32))]) (pc' := 408) at_406 rfl rfl
                  have A1564 := A1563.iload (v := r1432) (pc' := 410) at_408 rfl rfl
                  have A1565 := A1564.iload (v := (-1 : Int32)) (pc' := 412) at_410 rfl rfl
                  by_cases c1566 : r1432.toInt = (-1)
                  · have A1567 := A1565.icmpNo (pc' := 415) at_412 (teq (ieq (x := r1432) (y := (-1 : Int32)) rfl rfl c1566)).2 rfl
                    have A1568 := A1567.iconst (z := (1 : Int32)) (pc' := 416) at_415 rfl rfl
                    have A1569 := A1568.goto (pc' := 420) at_416 (by decide) (by decide)
                    refine A1569.retN (t := .boolean) (z' := (1 : Int32)) at_420 (by decide) (by decide) (by simp) rfl ⟨_, rfl, ⟨trivial, ?_⟩⟩
                    have elit : (1 : Int32).toInt = 1 := rfl
                    rfl
                  · have A1570 := A1565.icmpYes (pc' := 419) at_412 (feq (ine (x := r1432) (y := (-1 : Int32)) rfl rfl c1566)).2 (by decide) (by decide)
                    have A1571 := A1570.iconst (z := (0 : Int32)) (pc' := 420) at_419 rfl rfl
                    refine A1571.retN (t := .boolean) (z' := (0 : Int32)) at_420 (by decide) (by decide) (by simp) rfl ⟨_, rfl, ⟨trivial, ?_⟩⟩
                    have elit : (0 : Int32).toInt = 0 := rfl
                    exfalso
                    unfold Hid at hE
                    omega
              · have A1572 := A1472.icmpYes (pc' := 387) at_337 (flt (inlt (x := (sa + (2 : Int32))) (y := li) rfl rfl c1473)).2.1 (by decide) (by decide)
                have A1573 := A1572.iconst (z := (0 : Int32)) (pc' := 388) at_387 rfl rfl
                have A1574 := A1573.istore (Ls' := #[.val (.long a), .second, .val (.long x), .second, .val (.long z), .second, .val (.int p), .val (.int x0), .val (.int x1), .val (.int x2), .val (.int (0 : Int32)), .val (.int sa), .val (.int li), .val (.ref b54), .val (.ref b160), .val (.ref b1341), .val (.int r1432), .val (.int (1 : Int32)), .val (.int (2 : Int32)), .val (.int x0), .val (.int x1), .val (.int (0 : Int32)), .unset]) (pc' := 390) at_388 rfl rfl
                have A1575 := A1574.iload (v := (0 : Int32)) (pc' := 392) at_390 rfl rfl
                have A1577 := A1575.ifYes (pc' := 405) at_392 (teq (ieq (x := (0 : Int32)) (y := (0 : Int32)) rfl rfl (by decide : (0 : Int) = 0))).1 (by decide) (by decide)
                have A1578 := A1577.iconst (z := (-1 : Int32)) (pc' := 406) at_405 rfl rfl
                have A1579 := A1578.istore (Ls' := #[.val (.long a), .second, .val (.long x), .second, .val (.long z), .second, .val (.int p), .val (.int x0), .val (.int x1), .val (.int x2), .val (.int (0 : Int32)), .val (.int sa), .val (.int li), .val (.ref b54), .val (.ref b160), .val (.ref b1341), .val (.int r1432), .val (.int (1 : Int32)), .val (.int (2 : Int32)), .val (.int x0), .val (.int x1), .val (.int (0 : Int32)), .val (.int (-1 : Int32))]) (pc' := 408) at_406 rfl rfl
                have A1580 := A1579.iload (v := r1432) (pc' := 410) at_408 rfl rfl
                have A1581 := A1580.iload (v := (-1 : Int32)) (pc' := 412) at_410 rfl rfl
                by_cases c1582 : r1432.toInt = (-1)
                · have A1583 := A1581.icmpNo (pc' := 415) at_412 (teq (ieq (x := r1432) (y := (-1 : Int32)) rfl rfl c1582)).2 rfl
                  have A1584 := A1583.iconst (z := (1 : Int32)) (pc' := 416) at_415 rfl rfl
                  have A1585 := A1584.goto (pc' := 420) at_416 (by decide) (by decide)
                  refine A1585.retN (t := .boolean) (z' := (1 : Int32)) at_420 (by decide) (by decide) (by simp) rfl ⟨_, rfl, ⟨trivial, ?_⟩⟩
                  have elit : (1 : Int32).toInt = 1 := rfl
                  rfl
                · have A1586 := A1581.icmpYes (pc' := 419) at_412 (feq (ine (x := r1432) (y := (-1 : Int32)) rfl rfl c1582)).2 (by decide) (by decide)
                  have A1587 := A1586.iconst (z := (0 : Int32)) (pc' := 420) at_419 rfl rfl
                  refine A1587.retN (t := .boolean) (z' := (0 : Int32)) at_420 (by decide) (by decide) (by simp) rfl ⟨_, rfl, ⟨trivial, ?_⟩⟩
                  have elit : (0 : Int32).toInt = 0 := rfl
                  exfalso
                  unfold Hid at hE
                  omega
        · have A1588 := A1423.cast (Ls' := #[.val (.long a), .second, .val (.long x), .second, .val (.long z), .second, .val (.int p), .val (.int x0), .val (.int x1), .val (.int x2), .val (.int (1 : Int32)), .val (.int sa), .val (.int li), .val (.ref b54), .val (.ref b160), .val (.ref b1341), .unset, .unset, .unset, .unset, .unset, .unset, .unset]) rfl (by rw [hi]) rfl
          have A1589 := A1588.aload (v := (.ref b1341)) (pc' := 231) at_229 rfl rfl rfl
          have A1590 := A1589.iload (v := (1 : Int32)) (pc' := 233) at_231 rfl rfl
          have A1591 := A1590.aload (v := (.ref b54)) (pc' := 235) at_233 rfl rfl rfl
          have A1592 := A1591.iload (v := sa) (pc' := 237) at_235 rfl rfl
          have A1593 := A1592.iload (v := li) (pc' := 239) at_237 rfl rfl
          have f1594 := (f1397.keep K1382 (ninS ne1349 nin0))
          have f1597 := (X1345.keep K1382)
          obtain ⟨r1596, _, ⟨rfl, q1598⟩, A1595⟩ := W.kI (A1593.callV (a := b1341) (argsL := [(.int (1 : Int32)), (.ref b54), (.int sa), (.int li)]) (rest := []) (C' := 11) (S' := 33) (pc' := 242) at_239 f1597 (hw _ (List.mem_of_getElem? (i := 101) rfl)) (hw _ (List.mem_of_getElem? (i := 102) rfl)) (fun hZ => notFace_of_selects (args := #[]) (mvT hZ (hw _ (List.mem_of_getElem? (i := 104) rfl)))) (hw _ (List.mem_of_getElem? (i := 104) rfl)) (hw _ (List.mem_of_getElem? (i := 103) rfl)) (hw _ (List.mem_of_getElem? (i := 52) rfl)) (hw _ (List.mem_of_getElem? (i := 105) rfl)) (rm20_N1 l Z a0 hw n0 [] (b1341) (b54) (sa) (li) (b1383) (b1384) (nb) ((upd (upd (upd (fun _ => .null) 0 (.ref b1385)) 1 (.ref nb)) 2 (.ref nb))) ((upd (upd (upd (fun _ => (.int (0 : Int32))) 0 (.int (2 : Int32))) 1 (.int (2147483647 : Int32))) 2 (.int (2147483647 : Int32)))) ((upd (upd (upd (upd (upd (upd (fun _ => (.int (0 : Int32))) 0 (.int r71.toInt8.toInt32)) 1 (.int r87.toInt8.toInt32)) 2 (.int r103.toInt8.toInt32)) 3 (.int r119.toInt8.toInt32)) 4 (.int r135.toInt8.toInt32)) 5 (.int r151.toInt8.toInt32))) (T) h1381 A1593.size f1594 (by exact hT) (by exact ⟨ksa.1, ksa.2, kli.1, kli.2⟩) f1392 f1393 f1394 f1395 (by rfl) (by rfl)) rfl rfl pd_22 rfl rfl (by decide) (by decide) (Nat.le_of_ble_eq_true rfl) (by decide) (by decide) rfl rfl rfl)
          subst q1598
          have A1600 := A1595.istore (Ls' := #[.val (.long a), .second, .val (.long x), .second, .val (.long z), .second, .val (.int p), .val (.int x0), .val (.int x1), .val (.int x2), .val (.int (1 : Int32)), .val (.int sa), .val (.int li), .val (.ref b54), .val (.ref b160), .val (.ref b1341), .val (.int (-1 : Int32)), .unset, .unset, .unset, .unset, .unset, .unset]) (pc' := 244) at_242 rfl rfl
          clear e7 ne167 ne180 ne181 ne195 ne197 ne198 ne230 ne232 ne233 ne234 ne262 ne263 ne265 ne267 ne269 ne270 ne271 ne272 ne273 ne274 ne1349 ne1350 ne1352 ne1354 ne1356 ne1358 ne1360 ne1398 ne1399 ne1400 ne1402 ne1403 ne1404 ne1405 ne1406 ne1407 ne1408 ne1409 ne1410 ne1411 ne1412 ne1413 ne1414 ne1415 ne1416 ne1417 ne1418 ne1419 ne1420 ne1421 ne1422
          have a0_ := addc32 sa (0 : Int32) 0 rfl (by omega) (by omega)
          have a1_ := addc32 sa (1 : Int32) 1 rfl (by omega) (by omega)
          have a2_ := addc32 sa (2 : Int32) 2 rfl (by omega) (by omega)
          have z1_ := addc32 (sa + (1 : Int32)) (1 : Int32) 1 rfl (by omega) (by omega)
          have z2_ := addc32 (sa + (2 : Int32)) (1 : Int32) 1 rfl (by omega) (by omega)
          have A1601 := A1600.iload (v := (1 : Int32)) (pc' := 246) at_244 rfl rfl
          have A1603 := A1601.ifYes (pc' := 286) at_246 (feq (ine (x := (1 : Int32)) (y := (0 : Int32)) rfl rfl (by decide : ¬ ((1 : Int) = 0)))).2 (by decide) (by decide)
          have A1604 := A1603.iload (v := (1 : Int32)) (pc' := 288) at_286 rfl rfl
          have A1605 := A1604.iconst (z := (1 : Int32)) (pc' := 289) at_288 rfl rfl
          have A1607 := A1605.icmpNo (pc' := 292) at_289 (teq (ieq (x := (1 : Int32)) (y := (1 : Int32)) rfl rfl (by decide : (1 : Int) = 1))).2 rfl
          have A1608 := A1607.iload (v := x2) (pc' := 294) at_292 rfl rfl
          obtain ⟨r1610, _, ⟨rfl, q1611⟩, A1609⟩ := W.kI (A1608.callS (argsL := [(.int x2)]) (rest := []) (C' := 11) (S' := 33) (pc' := 297) at_294 (hw _ (List.mem_of_getElem? (i := 106) rfl)) (hw _ (List.mem_of_getElem? (i := 107) rfl)) (hw _ (List.mem_of_getElem? (i := 4) rfl)) (hw _ (List.mem_of_getElem? (i := 108) rfl)) (rm21 l Z a0 hw n0 [] (x2)  h1381 A1608.size ) rfl rfl pd_4 rfl rfl (by decide) (by decide) (Nat.le_of_ble_eq_true rfl) (by decide) (by decide) rfl rfl rfl)
          have A1613 := A1609.istore (Ls' := #[.val (.long a), .second, .val (.long x), .second, .val (.long z), .second, .val (.int p), .val (.int x0), .val (.int x1), .val (.int x2), .val (.int (1 : Int32)), .val (.int sa), .val (.int li), .val (.ref b54), .val (.ref b160), .val (.ref b1341), .val (.int (-1 : Int32)), .val (.int r1610), .unset, .unset, .unset, .unset, .unset]) (pc' := 299) at_297 rfl rfl
          have A1614 := A1613.iconst (z := (1 : Int32)) (pc' := 300) at_299 rfl rfl
          have A1615 := A1614.istore (Ls' := #[.val (.long a), .second, .val (.long x), .second, .val (.long z), .second, .val (.int p), .val (.int x0), .val (.int x1), .val (.int x2), .val (.int (1 : Int32)), .val (.int sa), .val (.int li), .val (.ref b54), .val (.ref b160), .val (.ref b1341), .val (.int (-1 : Int32)), .val (.int r1610), .val (.int (1 : Int32)), .unset, .unset, .unset, .unset]) (pc' := 302) at_300 rfl rfl
          have A1616 := A1615.iload (v := x2) (pc' := 304) at_302 rfl rfl
          have A1617 := A1616.istore (Ls' := #[.val (.long a), .second, .val (.long x), .second, .val (.long z), .second, .val (.int p), .val (.int x0), .val (.int x1), .val (.int x2), .val (.int (1 : Int32)), .val (.int sa), .val (.int li), .val (.ref b54), .val (.ref b160), .val (.ref b1341), .val (.int (-1 : Int32)), .val (.int r1610), .val (.int (1 : Int32)), .val (.int x2), .unset, .unset, .unset]) (pc' := 306) at_304 rfl rfl
          have A1618 := A1617.iload (v := x2) (pc' := 308) at_306 rfl rfl
          have A1619 := A1618.istore (Ls' := #[.val (.long a), .second, .val (.long x), .second, .val (.long z), .second, .val (.int p), .val (.int x0), .val (.int x1), .val (.int x2), .val (.int (1 : Int32)), .val (.int sa), .val (.int li), .val (.ref b54), .val (.ref b160), .val (.ref b1341), .val (.int (-1 : Int32)), .val (.int r1610), .val (.int (1 : Int32)), .val (.int x2), .val (.int x2), .unset, .unset]) (pc' := 310) at_308 rfl rfl
          have A1620 := A1619.goto (pc' := 325) at_310 (by decide) (by decide)
          have A1621 := A1620.iload (v := r1610) (pc' := 327) at_325 rfl rfl
          by_cases c1622 : r1610.toInt = 0
          · have A1623 := A1621.ifYes (pc' := 387) at_327 (teq (ieq (x := r1610) (y := (0 : Int32)) rfl rfl c1622)).1 (by decide) (by decide)
            clear q1611 kp p0 p2 p1
            have A1624 := A1623.iconst (z := (0 : Int32)) (pc' := 388) at_387 rfl rfl
            have A1625 := A1624.istore (Ls' := #[.val (.long a), .second, .val (.long x), .second, .val (.long z), .second, .val (.int p), .val (.int x0), .val (.int x1), .val (.int x2), .val (.int (1 : Int32)), .val (.int sa), .val (.int li), .val (.ref b54), .val (.ref b160), .val (.ref b1341), .val (.int (-1 : Int32)), .val (.int r1610), .val (.int (1 : Int32)), .val (.int x2), .val (.int x2), .val (.int (0 : Int32)), .unset]) (pc' := 390) at_388 rfl rfl
            have A1626 := A1625.iload (v := (0 : Int32)) (pc' := 392) at_390 rfl rfl
            have A1628 := A1626.ifYes (pc' := 405) at_392 (teq (ieq (x := (0 : Int32)) (y := (0 : Int32)) rfl rfl (by decide : (0 : Int) = 0))).1 (by decide) (by decide)
            have A1629 := A1628.iconst (z := (-1 : Int32)) (pc' := 406) at_405 rfl rfl
            have A1630 := A1629.istore (Ls' := #[.val (.long a), .second, .val (.long x), .second, .val (.long z), .second, .val (.int p), .val (.int x0), .val (.int x1), .val (.int x2), .val (.int (1 : Int32)), .val (.int sa), .val (.int li), .val (.ref b54), .val (.ref b160), .val (.ref b1341), .val (.int (-1 : Int32)), .val (.int r1610), .val (.int (1 : Int32)), .val (.int x2), .val (.int x2), .val (.int (0 : Int32)), .val (.int (-1 : Int32))]) (pc' := 408) at_406 rfl rfl
            have A1631 := A1630.iload (v := (-1 : Int32)) (pc' := 410) at_408 rfl rfl
            have A1632 := A1631.iload (v := (-1 : Int32)) (pc' := 412) at_410 rfl rfl
            have A1634 := A1632.icmpNo (pc' := 415) at_412 (teq (ieq (x := (-1 : Int32)) (y := (-1 : Int32)) rfl rfl (by decide : ((-1) : Int) = (-1)))).2 rfl
            have A1635 := A1634.iconst (z := (1 : Int32)) (pc' := 416) at_415 rfl rfl
            have A1636 := A1635.goto (pc' := 420) at_416 (by decide) (by decide)
            refine A1636.retN (t := .boolean) (z' := (1 : Int32)) at_420 (by decide) (by decide) (by simp) rfl ⟨_, rfl, ⟨trivial, ?_⟩⟩
            have elit : (1 : Int32).toInt = 1 := rfl
            rfl
          · exfalso
            omega
        · have A1638 := A1423.cast (Ls' := #[.val (.long a), .second, .val (.long x), .second, .val (.long z), .second, .val (.int p), .val (.int x0), .val (.int x1), .val (.int x2), .val (.int (2 : Int32)), .val (.int sa), .val (.int li), .val (.ref b54), .val (.ref b160), .val (.ref b1341), .unset, .unset, .unset, .unset, .unset, .unset, .unset]) rfl (by rw [hi]) rfl
          have A1639 := A1638.aload (v := (.ref b1341)) (pc' := 231) at_229 rfl rfl rfl
          have A1640 := A1639.iload (v := (2 : Int32)) (pc' := 233) at_231 rfl rfl
          have A1641 := A1640.aload (v := (.ref b54)) (pc' := 235) at_233 rfl rfl rfl
          have A1642 := A1641.iload (v := sa) (pc' := 237) at_235 rfl rfl
          have A1643 := A1642.iload (v := li) (pc' := 239) at_237 rfl rfl
          have f1644 := (f1397.keep K1382 (ninS ne1349 nin0))
          have f1647 := (X1345.keep K1382)
          obtain ⟨r1646, _, ⟨rfl, q1648⟩, A1645⟩ := W.kI (A1643.callV (a := b1341) (argsL := [(.int (2 : Int32)), (.ref b54), (.int sa), (.int li)]) (rest := []) (C' := 11) (S' := 33) (pc' := 242) at_239 f1647 (hw _ (List.mem_of_getElem? (i := 101) rfl)) (hw _ (List.mem_of_getElem? (i := 102) rfl)) (fun hZ => notFace_of_selects (args := #[]) (mvT hZ (hw _ (List.mem_of_getElem? (i := 104) rfl)))) (hw _ (List.mem_of_getElem? (i := 104) rfl)) (hw _ (List.mem_of_getElem? (i := 103) rfl)) (hw _ (List.mem_of_getElem? (i := 52) rfl)) (hw _ (List.mem_of_getElem? (i := 105) rfl)) (rm20_N2 l Z a0 hw n0 [] (b1341) (b54) (sa) (li) (b1383) (b1384) (nb) ((upd (upd (upd (fun _ => .null) 0 (.ref b1385)) 1 (.ref nb)) 2 (.ref nb))) ((upd (upd (upd (fun _ => (.int (0 : Int32))) 0 (.int (2 : Int32))) 1 (.int (2147483647 : Int32))) 2 (.int (2147483647 : Int32)))) ((upd (upd (upd (upd (upd (upd (fun _ => (.int (0 : Int32))) 0 (.int r71.toInt8.toInt32)) 1 (.int r87.toInt8.toInt32)) 2 (.int r103.toInt8.toInt32)) 3 (.int r119.toInt8.toInt32)) 4 (.int r135.toInt8.toInt32)) 5 (.int r151.toInt8.toInt32))) (T) h1381 A1643.size f1644 (by exact hT) (by exact ⟨ksa.1, ksa.2, kli.1, kli.2⟩) f1392 f1393 f1394 f1395 (by rfl) (by rfl)) rfl rfl pd_22 rfl rfl (by decide) (by decide) (Nat.le_of_ble_eq_true rfl) (by decide) (by decide) rfl rfl rfl)
          subst q1648
          have A1650 := A1645.istore (Ls' := #[.val (.long a), .second, .val (.long x), .second, .val (.long z), .second, .val (.int p), .val (.int x0), .val (.int x1), .val (.int x2), .val (.int (2 : Int32)), .val (.int sa), .val (.int li), .val (.ref b54), .val (.ref b160), .val (.ref b1341), .val (.int (-1 : Int32)), .unset, .unset, .unset, .unset, .unset, .unset]) (pc' := 244) at_242 rfl rfl
          clear e7 ne167 ne180 ne181 ne195 ne197 ne198 ne230 ne232 ne233 ne234 ne262 ne263 ne265 ne267 ne269 ne270 ne271 ne272 ne273 ne274 ne1349 ne1350 ne1352 ne1354 ne1356 ne1358 ne1360 ne1398 ne1399 ne1400 ne1402 ne1403 ne1404 ne1405 ne1406 ne1407 ne1408 ne1409 ne1410 ne1411 ne1412 ne1413 ne1414 ne1415 ne1416 ne1417 ne1418 ne1419 ne1420 ne1421 ne1422
          have a0_ := addc32 sa (0 : Int32) 0 rfl (by omega) (by omega)
          have a1_ := addc32 sa (1 : Int32) 1 rfl (by omega) (by omega)
          have a2_ := addc32 sa (2 : Int32) 2 rfl (by omega) (by omega)
          have z1_ := addc32 (sa + (1 : Int32)) (1 : Int32) 1 rfl (by omega) (by omega)
          have z2_ := addc32 (sa + (2 : Int32)) (1 : Int32) 1 rfl (by omega) (by omega)
          have A1651 := A1650.iload (v := (2 : Int32)) (pc' := 246) at_244 rfl rfl
          have A1653 := A1651.ifYes (pc' := 286) at_246 (feq (ine (x := (2 : Int32)) (y := (0 : Int32)) rfl rfl (by decide : ¬ ((2 : Int) = 0)))).2 (by decide) (by decide)
          have A1654 := A1653.iload (v := (2 : Int32)) (pc' := 288) at_286 rfl rfl
          have A1655 := A1654.iconst (z := (1 : Int32)) (pc' := 289) at_288 rfl rfl
          have A1657 := A1655.icmpYes (pc' := 313) at_289 (feq (ine (x := (2 : Int32)) (y := (1 : Int32)) rfl rfl (by decide : ¬ ((2 : Int) = 1)))).2 (by decide) (by decide)
          have A1658 := A1657.iconst (z := (0 : Int32)) (pc' := 314) at_313 rfl rfl
          have A1659 := A1658.istore (Ls' := #[.val (.long a), .second, .val (.long x), .second, .val (.long z), .second, .val (.int p), .val (.int x0), .val (.int x1), .val (.int x2), .val (.int (2 : Int32)), .val (.int sa), .val (.int li), .val (.ref b54), .val (.ref b160), .val (.ref b1341), .val (.int (-1 : Int32)), .val (.int (0 : Int32)), .unset, .unset, .unset, .unset, .unset]) (pc' := 316) at_314 rfl rfl
          have A1660 := A1659.iconst (z := (0 : Int32)) (pc' := 317) at_316 rfl rfl
          have A1661 := A1660.istore (Ls' := #[.val (.long a), .second, .val (.long x), .second, .val (.long z), .second, .val (.int p), .val (.int x0), .val (.int x1), .val (.int x2), .val (.int (2 : Int32)), .val (.int sa), .val (.int li), .val (.ref b54), .val (.ref b160), .val (.ref b1341), .val (.int (-1 : Int32)), .val (.int (0 : Int32)), .val (.int (0 : Int32)), .unset, .unset, .unset, .unset]) (pc' := 319) at_317 rfl rfl
          have A1662 := A1661.iconst (z := (0 : Int32)) (pc' := 320) at_319 rfl rfl
          have A1663 := A1662.istore (Ls' := #[.val (.long a), .second, .val (.long x), .second, .val (.long z), .second, .val (.int p), .val (.int x0), .val (.int x1), .val (.int x2), .val (.int (2 : Int32)), .val (.int sa), .val (.int li), .val (.ref b54), .val (.ref b160), .val (.ref b1341), .val (.int (-1 : Int32)), .val (.int (0 : Int32)), .val (.int (0 : Int32)), .val (.int (0 : Int32)), .unset, .unset, .unset]) (pc' := 322) at_320 rfl rfl
          have A1664 := A1663.iconst (z := (0 : Int32)) (pc' := 323) at_322 rfl rfl
          have A1665 := A1664.istore (Ls' := #[.val (.long a), .second, .val (.long x), .second, .val (.long z), .second, .val (.int p), .val (.int x0), .val (.int x1), .val (.int x2), .val (.int (2 : Int32)), .val (.int sa), .val (.int li), .val (.ref b54), .val (.ref b160), .val (.ref b1341), .val (.int (-1 : Int32)), .val (.int (0 : Int32)), .val (.int (0 : Int32)), .val (.int (0 : Int32)), .val (.int (0 : Int32)), .unset, .unset]) (pc' := 325) at_323 rfl rfl
          have A1666 := A1665.iload (v := (0 : Int32)) (pc' := 327) at_325 rfl rfl
          have A1668 := A1666.ifYes (pc' := 387) at_327 (teq (ieq (x := (0 : Int32)) (y := (0 : Int32)) rfl rfl (by decide : (0 : Int) = 0))).1 (by decide) (by decide)
          clear kp p0 p2 p1
          have A1669 := A1668.iconst (z := (0 : Int32)) (pc' := 388) at_387 rfl rfl
          have A1670 := A1669.istore (Ls' := #[.val (.long a), .second, .val (.long x), .second, .val (.long z), .second, .val (.int p), .val (.int x0), .val (.int x1), .val (.int x2), .val (.int (2 : Int32)), .val (.int sa), .val (.int li), .val (.ref b54), .val (.ref b160), .val (.ref b1341), .val (.int (-1 : Int32)), .val (.int (0 : Int32)), .val (.int (0 : Int32)), .val (.int (0 : Int32)), .val (.int (0 : Int32)), .val (.int (0 : Int32)), .unset]) (pc' := 390) at_388 rfl rfl
          have A1671 := A1670.iload (v := (0 : Int32)) (pc' := 392) at_390 rfl rfl
          have A1673 := A1671.ifYes (pc' := 405) at_392 (teq (ieq (x := (0 : Int32)) (y := (0 : Int32)) rfl rfl (by decide : (0 : Int) = 0))).1 (by decide) (by decide)
          have A1674 := A1673.iconst (z := (-1 : Int32)) (pc' := 406) at_405 rfl rfl
          have A1675 := A1674.istore (Ls' := #[.val (.long a), .second, .val (.long x), .second, .val (.long z), .second, .val (.int p), .val (.int x0), .val (.int x1), .val (.int x2), .val (.int (2 : Int32)), .val (.int sa), .val (.int li), .val (.ref b54), .val (.ref b160), .val (.ref b1341), .val (.int (-1 : Int32)), .val (.int (0 : Int32)), .val (.int (0 : Int32)), .val (.int (0 : Int32)), .val (.int (0 : Int32)), .val (.int (0 : Int32)), .val (.int (-1 : Int32))]) (pc' := 408) at_406 rfl rfl
          have A1676 := A1675.iload (v := (-1 : Int32)) (pc' := 410) at_408 rfl rfl
          have A1677 := A1676.iload (v := (-1 : Int32)) (pc' := 412) at_410 rfl rfl
          have A1679 := A1677.icmpNo (pc' := 415) at_412 (teq (ieq (x := (-1 : Int32)) (y := (-1 : Int32)) rfl rfl (by decide : ((-1) : Int) = (-1)))).2 rfl
          have A1680 := A1679.iconst (z := (1 : Int32)) (pc' := 416) at_415 rfl rfl
          have A1681 := A1680.goto (pc' := 420) at_416 (by decide) (by decide)
          refine A1681.retN (t := .boolean) (z' := (1 : Int32)) at_420 (by decide) (by decide) (by simp) rfl ⟨_, rfl, ⟨trivial, ?_⟩⟩
          have elit : (1 : Int32).toInt = 1 := rfl
          rfl
      · have kp : (32 ≤ x0.toInt ∧ x0.toInt < 128 ∧ ¬ (x0.toInt = 34) ∧ ¬ (x0.toInt = 92)) ∧ ¬ (32 ≤ x1.toInt ∧ x1.toInt < 128 ∧ ¬ (x1.toInt = 34) ∧ ¬ (x1.toInt = 92)) := ⟨p0, p1⟩
        obtain ⟨h1682, b1683, eb1684, g1685, E1686, X1687, D1688, A1689⟩ := A280.newO (C' := 8) (S' := 25) (pc' := 221) at_218 (hw _ (List.mem_of_getElem? (i := 50) rfl)) (hw _ (List.mem_of_getElem? (i := 51) rfl)) (hw _ (List.mem_of_getElem? (i := 52) rfl)) (by decide) (by decide) rfl rfl rfl
        have f1690 := ((f261.keep K250 nin0).other w278 ne167)
        have ne1691 : b54 ≠ b1683 := Nat.ne_of_lt (Nat.lt_of_lt_of_le f1690.lt (Nat.le_of_eq eb1684.symm))
        have ne1692 : b160 ≠ b1683 := Nat.ne_of_lt (Nat.lt_of_lt_of_le X279.lt (Nat.le_of_eq eb1684.symm))
        have f1693 := ((f264.keep K250).wr w278)
        have ne1694 : b172 ≠ b1683 := Nat.ne_of_lt (Nat.lt_of_lt_of_le f1693.lt (Nat.le_of_eq eb1684.symm))
        have f1695 := ((f266.keep K250 nin0).other w278 (Ne.symm ne197))
        have ne1696 : b187 ≠ b1683 := Nat.ne_of_lt (Nat.lt_of_lt_of_le f1695.lt (Nat.le_of_eq eb1684.symm))
        have f1697 := ((f268.keep K250 nin0).other w278 (Ne.symm ne232))
        have ne1698 : b222 ≠ b1683 := Nat.ne_of_lt (Nat.lt_of_lt_of_le f1697.lt (Nat.le_of_eq eb1684.symm))
        have f1699 := (f256.wr w278)
        have ne1700 : r247 ≠ b1683 := Nat.ne_of_lt (Nat.lt_of_lt_of_le f1699.lt (Nat.le_of_eq eb1684.symm))
        have f1701 := (f259.other w278 (Ne.symm ne271))
        have ne1702 : b251 ≠ b1683 := Nat.ne_of_lt (Nat.lt_of_lt_of_le f1701.lt (Nat.le_of_eq eb1684.symm))
        have f1703 : Fld Z h1682 b1683 "com/example/dialekt/dialekt/json/MemberNames" "names" "[Ljava/lang/String;" .null := D1688 (Or.inr (hw _ (List.mem_of_getElem? (i := 58) rfl))) (ty := (.array (.object "java/lang/String"))) (by decide)
        have f1704 : Fld Z h1682 b1683 "com/example/dialekt/dialekt/json/MemberNames" "plain" "[[B" .null := D1688 (Or.inr (hw _ (List.mem_of_getElem? (i := 62) rfl))) (ty := (.array (.array .byte))) (by decide)
        have f1705 : Fld Z h1682 b1683 "com/example/dialekt/dialekt/json/MemberNames" "plainLengths" "[I" .null := D1688 (Or.inr (hw _ (List.mem_of_getElem? (i := 65) rfl))) (ty := (.array .int)) (by decide)
        have A1706 := A1689.dup (pc' := 222) at_221 rfl rfl
        have A1707 := A1706.aload (v := (.ref b160)) (pc' := 224) at_222 rfl rfl rfl
        have f1708 := (X279.ext E1686)
        have f1709 := (f1693.ext E1686)
        have f1710 := ((((f226.other w238 (Or.inl (Ne.symm ne181))).keep K250 nin0).other w278 (Or.inl (Ne.symm ne181))).ext E1686)
        have f1711 := ((((f225.other w238 (Or.inl (Ne.symm ne181))).keep K250 nin0).other w278 (Or.inl (Ne.symm ne181))).ext E1686)
        have f1712 := (f1697.ext E1686)
        have f1713 := ((((f228.wr w238).keep K250).wr w278).ext E1686)
        have f1714 := (f1699.ext E1686)
        have f1715 := ((f258.other w278 (Or.inl (Ne.symm ne263))).ext E1686)
        have f1716 := ((f257.other w278 (Or.inl (Ne.symm ne263))).ext E1686)
        have f1717 := (f1701.ext E1686)
        have f1718 := ((f260.wr w278).ext E1686)
        have f1719 := (((f245.keep K250 all0).wr w278 g162).ext E1686)
        obtain ⟨h1723, ⟨b1725, b1726, K1724, g1727, z1728, g1729, z1730, f1731, f1732, f1733, f1734, q1722⟩, A1720⟩ := W.kV (A1707.callI (a := b1683) (argsL := [(.ref b160)]) (rest := [(.ref b1683)]) (C' := 10) (S' := 31) (pc' := 227) at_224 rfl (hw _ (List.mem_of_getElem? (i := 53) rfl)) (hw _ (List.mem_of_getElem? (i := 54) rfl)) (hw _ (List.mem_of_getElem? (i := 52) rfl)) (hw _ (List.mem_of_getElem? (i := 55) rfl)) (rm12_MN l Z a0 hw n0 [] (b1683) (b160) (b172) (r247) (b222) (b251) (iso) (u8) (nb) (x0) (x1) (x2) (_) (_) h1682 A1707.size X1687 g1685 f1703 f1704 f1705 f1708 f1709 f1710 f1711 f1712 f1713 f1714 f1715 f1716 f1717 f1718 ne1692 ne1694 ne1698 ne1700 ne1702 (by assumption) (by assumption) (by assumption) f1719 e1 (by assumption) e3 (by assumption) e5 e6 e7 e8 e9 e10 e11 (by assumption) (by assumption)) rfl rfl pd_21 rfl rfl (by decide) (by decide) (Nat.le_of_ble_eq_true rfl) (by decide) (by decide) rfl rfl rfl)
        have f1735 := (f1690.ext E1686)
        have ne1736 : b54 ≠ b1725 := Nat.ne_of_lt (Nat.lt_of_lt_of_le f1735.lt z1728)
        have ne1737 : b160 ≠ b1725 := Nat.ne_of_lt (Nat.lt_of_lt_of_le f1708.lt z1728)
        have ne1738 : b172 ≠ b1725 := Nat.ne_of_lt (Nat.lt_of_lt_of_le f1709.lt z1728)
        have f1739 := (f1695.ext E1686)
        have ne1740 : b187 ≠ b1725 := Nat.ne_of_lt (Nat.lt_of_lt_of_le f1739.lt z1728)
        have ne1741 : b222 ≠ b1725 := Nat.ne_of_lt (Nat.lt_of_lt_of_le f1712.lt z1728)
        have ne1742 : r247 ≠ b1725 := Nat.ne_of_lt (Nat.lt_of_lt_of_le f1714.lt z1728)
        have ne1743 : b251 ≠ b1725 := Nat.ne_of_lt (Nat.lt_of_lt_of_le f1717.lt z1728)
        have ne1744 : b1683 ≠ b1725 := Nat.ne_of_lt (Nat.lt_of_lt_of_le X1687.lt z1728)
        have ne1745 : b54 ≠ b1726 := Nat.ne_of_lt (Nat.lt_of_lt_of_le f1735.lt z1730)
        have ne1746 : b160 ≠ b1726 := Nat.ne_of_lt (Nat.lt_of_lt_of_le f1708.lt z1730)
        have ne1747 : b172 ≠ b1726 := Nat.ne_of_lt (Nat.lt_of_lt_of_le f1709.lt z1730)
        have ne1748 : b187 ≠ b1726 := Nat.ne_of_lt (Nat.lt_of_lt_of_le f1739.lt z1730)
        have ne1749 : b222 ≠ b1726 := Nat.ne_of_lt (Nat.lt_of_lt_of_le f1712.lt z1730)
        have ne1750 : r247 ≠ b1726 := Nat.ne_of_lt (Nat.lt_of_lt_of_le f1714.lt z1730)
        have ne1751 : b251 ≠ b1726 := Nat.ne_of_lt (Nat.lt_of_lt_of_le f1717.lt z1730)
        have ne1752 : b1683 ≠ b1726 := Nat.ne_of_lt (Nat.lt_of_lt_of_le X1687.lt z1730)
        have A1753 := A1720.astore (Ls' := #[.val (.long a), .second, .val (.long x), .second, .val (.long z), .second, .val (.int p), .val (.int x0), .val (.int x1), .val (.int x2), .val (.int ix), .val (.int sa), .val (.int li), .val (.ref b54), .val (.ref b160), .val (.ref b1683), .unset, .unset, .unset, .unset, .unset, .unset, .unset]) (pc' := 229) at_227 rfl rfl rfl
        obtain hi | hi | hi := own_three ix kix
        · have A1754 := A1753.cast (Ls' := #[.val (.long a), .second, .val (.long x), .second, .val (.long z), .second, .val (.int p), .val (.int x0), .val (.int x1), .val (.int x2), .val (.int (0 : Int32)), .val (.int sa), .val (.int li), .val (.ref b54), .val (.ref b160), .val (.ref b1683), .unset, .unset, .unset, .unset, .unset, .unset, .unset]) rfl (by rw [hi]) rfl
          have A1755 := A1754.aload (v := (.ref b1683)) (pc' := 231) at_229 rfl rfl rfl
          have A1756 := A1755.iload (v := (0 : Int32)) (pc' := 233) at_231 rfl rfl
          have A1757 := A1756.aload (v := (.ref b54)) (pc' := 235) at_233 rfl rfl rfl
          have A1758 := A1757.iload (v := sa) (pc' := 237) at_235 rfl rfl
          have A1759 := A1758.iload (v := li) (pc' := 239) at_237 rfl rfl
          have f1760 := (f1735.keep K1724 (ninS ne1691 nin0))
          have f1763 := (X1687.keep K1724)
          obtain ⟨r1762, _, ⟨rfl, q1764⟩, A1761⟩ := W.kI (A1759.callV (a := b1683) (argsL := [(.int (0 : Int32)), (.ref b54), (.int sa), (.int li)]) (rest := []) (C' := 10) (S' := 31) (pc' := 242) at_239 f1763 (hw _ (List.mem_of_getElem? (i := 101) rfl)) (hw _ (List.mem_of_getElem? (i := 102) rfl)) (fun hZ => notFace_of_selects (args := #[]) (mvT hZ (hw _ (List.mem_of_getElem? (i := 104) rfl)))) (hw _ (List.mem_of_getElem? (i := 104) rfl)) (hw _ (List.mem_of_getElem? (i := 103) rfl)) (hw _ (List.mem_of_getElem? (i := 52) rfl)) (hw _ (List.mem_of_getElem? (i := 105) rfl)) (rm20_N0 l Z a0 hw n0 [] (b1683) (b54) (sa) (li) (b1725) (b1726) (nb) ((upd (upd (upd (fun _ => .null) 0 (.ref nb)) 1 (.ref nb)) 2 (.ref nb))) ((upd (upd (upd (fun _ => (.int (0 : Int32))) 0 (.int (2147483647 : Int32))) 1 (.int (2147483647 : Int32))) 2 (.int (2147483647 : Int32)))) ((upd (upd (upd (upd (upd (upd (fun _ => (.int (0 : Int32))) 0 (.int r71.toInt8.toInt32)) 1 (.int r87.toInt8.toInt32)) 2 (.int r103.toInt8.toInt32)) 3 (.int r119.toInt8.toInt32)) 4 (.int r135.toInt8.toInt32)) 5 (.int r151.toInt8.toInt32))) (T) h1723 A1759.size f1760 (by exact hT) (by exact ⟨ksa.1, ksa.2, kli.1, kli.2⟩) f1731 f1732 f1733 f1734 (by rfl) (by rfl)) rfl rfl pd_22 rfl rfl (by decide) (by decide) (Nat.le_of_ble_eq_true rfl) (by decide) (by decide) rfl rfl rfl)
          subst q1764
          have A1766 := A1761.istore (Ls' := #[.val (.long a), .second, .val (.long x), .second, .val (.long z), .second, .val (.int p), .val (.int x0), .val (.int x1), .val (.int x2), .val (.int (0 : Int32)), .val (.int sa), .val (.int li), .val (.ref b54), .val (.ref b160), .val (.ref b1683), .val (.int (-1 : Int32)), .unset, .unset, .unset, .unset, .unset, .unset]) (pc' := 244) at_242 rfl rfl
          clear e7 ne167 ne180 ne181 ne195 ne197 ne198 ne230 ne232 ne233 ne234 ne262 ne263 ne265 ne267 ne269 ne270 ne271 ne272 ne273 ne274 ne1691 ne1692 ne1694 ne1696 ne1698 ne1700 ne1702 ne1736 ne1737 ne1738 ne1740 ne1741 ne1742 ne1743 ne1744 ne1745 ne1746 ne1747 ne1748 ne1749 ne1750 ne1751 ne1752
          have a0_ := addc32 sa (0 : Int32) 0 rfl (by omega) (by omega)
          have a1_ := addc32 sa (1 : Int32) 1 rfl (by omega) (by omega)
          have a2_ := addc32 sa (2 : Int32) 2 rfl (by omega) (by omega)
          have z1_ := addc32 (sa + (1 : Int32)) (1 : Int32) 1 rfl (by omega) (by omega)
          have z2_ := addc32 (sa + (2 : Int32)) (1 : Int32) 1 rfl (by omega) (by omega)
          have A1767 := A1766.iload (v := (0 : Int32)) (pc' := 246) at_244 rfl rfl
          have A1769 := A1767.ifNo (pc' := 249) at_246 (teq (ieq (x := (0 : Int32)) (y := (0 : Int32)) rfl rfl (by decide : (0 : Int) = 0))).2 rfl
          have A1770 := A1769.iload (v := x0) (pc' := 251) at_249 rfl rfl
          obtain ⟨r1772, _, ⟨rfl, q1773⟩, A1771⟩ := W.kI (A1770.callS (argsL := [(.int x0)]) (rest := []) (C' := 10) (S' := 31) (pc' := 254) at_251 (hw _ (List.mem_of_getElem? (i := 106) rfl)) (hw _ (List.mem_of_getElem? (i := 107) rfl)) (hw _ (List.mem_of_getElem? (i := 4) rfl)) (hw _ (List.mem_of_getElem? (i := 108) rfl)) (rm21 l Z a0 hw n0 [] (x0)  h1723 A1770.size ) rfl rfl pd_4 rfl rfl (by decide) (by decide) (Nat.le_of_ble_eq_true rfl) (by decide) (by decide) rfl rfl rfl)
          by_cases c1775 : r1772.toInt = 0
          · exfalso
            omega
          · have A1777 := A1771.ifNo (pc' := 257) at_254 (feq (ine (x := r1772) (y := (0 : Int32)) rfl rfl c1775)).1 rfl
            have A1778 := A1777.iload (v := x1) (pc' := 259) at_257 rfl rfl
            obtain ⟨r1780, _, ⟨rfl, q1781⟩, A1779⟩ := W.kI (A1778.callS (argsL := [(.int x1)]) (rest := []) (C' := 10) (S' := 31) (pc' := 262) at_259 (hw _ (List.mem_of_getElem? (i := 106) rfl)) (hw _ (List.mem_of_getElem? (i := 107) rfl)) (hw _ (List.mem_of_getElem? (i := 4) rfl)) (hw _ (List.mem_of_getElem? (i := 108) rfl)) (rm21 l Z a0 hw n0 [] (x1)  h1723 A1778.size ) rfl rfl pd_4 rfl rfl (by decide) (by decide) (Nat.le_of_ble_eq_true rfl) (by decide) (by decide) rfl rfl rfl)
            by_cases c1783 : r1780.toInt = 0
            · have A1784 := A1779.ifYes (pc' := 269) at_262 (teq (ieq (x := r1780) (y := (0 : Int32)) rfl rfl c1783)).1 (by decide) (by decide)
              have A1785 := A1784.iconst (z := (0 : Int32)) (pc' := 270) at_269 rfl rfl
              have A1786 := A1785.istore (Ls' := #[.val (.long a), .second, .val (.long x), .second, .val (.long z), .second, .val (.int p), .val (.int x0), .val (.int x1), .val (.int x2), .val (.int (0 : Int32)), .val (.int sa), .val (.int li), .val (.ref b54), .val (.ref b160), .val (.ref b1683), .val (.int (-1 : Int32)), .val (.int (0 : Int32)), .unset, .unset, .unset, .unset, .unset]) (pc' := 272) at_270 rfl rfl
              have A1787 := A1786.iconst (z := (2 : Int32)) (pc' := 273) at_272 rfl rfl
              have A1788 := A1787.istore (Ls' := #[.val (.long a), .second, .val (.long x), .second, .val (.long z), .second, .val (.int p), .val (.int x0), .val (.int x1), .val (.int x2), .val (.int (0 : Int32)), .val (.int sa), .val (.int li), .val (.ref b54), .val (.ref b160), .val (.ref b1683), .val (.int (-1 : Int32)), .val (.int (0 : Int32)), .val (.int (2 : Int32)), .unset, .unset, .unset, .unset]) (pc' := 275) at_273 rfl rfl
              have A1789 := A1788.iload (v := x0) (pc' := 277) at_275 rfl rfl
              have A1790 := A1789.istore (Ls' := #[.val (.long a), .second, .val (.long x), .second, .val (.long z), .second, .val (.int p), .val (.int x0), .val (.int x1), .val (.int x2), .val (.int (0 : Int32)), .val (.int sa), .val (.int li), .val (.ref b54), .val (.ref b160), .val (.ref b1683), .val (.int (-1 : Int32)), .val (.int (0 : Int32)), .val (.int (2 : Int32)), .val (.int x0), .unset, .unset, .unset]) (pc' := 279) at_277 rfl rfl
              have A1791 := A1790.iload (v := x1) (pc' := 281) at_279 rfl rfl
              have A1792 := A1791.istore (Ls' := #[.val (.long a), .second, .val (.long x), .second, .val (.long z), .second, .val (.int p), .val (.int x0), .val (.int x1), .val (.int x2), .val (.int (0 : Int32)), .val (.int sa), .val (.int li), .val (.ref b54), .val (.ref b160), .val (.ref b1683), .val (.int (-1 : Int32)), .val (.int (0 : Int32)), .val (.int (2 : Int32)), .val (.int x0), .val (.int x1), .unset, .unset]) (pc' := 283) at_281 rfl rfl
              have A1793 := A1792.goto (pc' := 325) at_283 (by decide) (by decide)
              have A1794 := A1793.iload (v := (0 : Int32)) (pc' := 327) at_325 rfl rfl
              have A1796 := A1794.ifYes (pc' := 387) at_327 (teq (ieq (x := (0 : Int32)) (y := (0 : Int32)) rfl rfl (by decide : (0 : Int) = 0))).1 (by decide) (by decide)
              clear q1773 q1781 kp p0 p2 p1
              have A1797 := A1796.iconst (z := (0 : Int32)) (pc' := 388) at_387 rfl rfl
              have A1798 := A1797.istore (Ls' := #[.val (.long a), .second, .val (.long x), .second, .val (.long z), .second, .val (.int p), .val (.int x0), .val (.int x1), .val (.int x2), .val (.int (0 : Int32)), .val (.int sa), .val (.int li), .val (.ref b54), .val (.ref b160), .val (.ref b1683), .val (.int (-1 : Int32)), .val (.int (0 : Int32)), .val (.int (2 : Int32)), .val (.int x0), .val (.int x1), .val (.int (0 : Int32)), .unset]) (pc' := 390) at_388 rfl rfl
              have A1799 := A1798.iload (v := (0 : Int32)) (pc' := 392) at_390 rfl rfl
              have A1801 := A1799.ifYes (pc' := 405) at_392 (teq (ieq (x := (0 : Int32)) (y := (0 : Int32)) rfl rfl (by decide : (0 : Int) = 0))).1 (by decide) (by decide)
              have A1802 := A1801.iconst (z := (-1 : Int32)) (pc' := 406) at_405 rfl rfl
              have A1803 := A1802.istore (Ls' := #[.val (.long a), .second, .val (.long x), .second, .val (.long z), .second, .val (.int p), .val (.int x0), .val (.int x1), .val (.int x2), .val (.int (0 : Int32)), .val (.int sa), .val (.int li), .val (.ref b54), .val (.ref b160), .val (.ref b1683), .val (.int (-1 : Int32)), .val (.int (0 : Int32)), .val (.int (2 : Int32)), .val (.int x0), .val (.int x1), .val (.int (0 : Int32)), .val (.int (-1 : Int32))]) (pc' := 408) at_406 rfl rfl
              have A1804 := A1803.iload (v := (-1 : Int32)) (pc' := 410) at_408 rfl rfl
              have A1805 := A1804.iload (v := (-1 : Int32)) (pc' := 412) at_410 rfl rfl
              have A1807 := A1805.icmpNo (pc' := 415) at_412 (teq (ieq (x := (-1 : Int32)) (y := (-1 : Int32)) rfl rfl (by decide : ((-1) : Int) = (-1)))).2 rfl
              have A1808 := A1807.iconst (z := (1 : Int32)) (pc' := 416) at_415 rfl rfl
              have A1809 := A1808.goto (pc' := 420) at_416 (by decide) (by decide)
              refine A1809.retN (t := .boolean) (z' := (1 : Int32)) at_420 (by decide) (by decide) (by simp) rfl ⟨_, rfl, ⟨trivial, ?_⟩⟩
              have elit : (1 : Int32).toInt = 1 := rfl
              rfl
            · exfalso
              omega
        · have A1811 := A1753.cast (Ls' := #[.val (.long a), .second, .val (.long x), .second, .val (.long z), .second, .val (.int p), .val (.int x0), .val (.int x1), .val (.int x2), .val (.int (1 : Int32)), .val (.int sa), .val (.int li), .val (.ref b54), .val (.ref b160), .val (.ref b1683), .unset, .unset, .unset, .unset, .unset, .unset, .unset]) rfl (by rw [hi]) rfl
          have A1812 := A1811.aload (v := (.ref b1683)) (pc' := 231) at_229 rfl rfl rfl
          have A1813 := A1812.iload (v := (1 : Int32)) (pc' := 233) at_231 rfl rfl
          have A1814 := A1813.aload (v := (.ref b54)) (pc' := 235) at_233 rfl rfl rfl
          have A1815 := A1814.iload (v := sa) (pc' := 237) at_235 rfl rfl
          have A1816 := A1815.iload (v := li) (pc' := 239) at_237 rfl rfl
          have f1817 := (f1735.keep K1724 (ninS ne1691 nin0))
          have f1820 := (X1687.keep K1724)
          obtain ⟨r1819, _, ⟨rfl, q1821⟩, A1818⟩ := W.kI (A1816.callV (a := b1683) (argsL := [(.int (1 : Int32)), (.ref b54), (.int sa), (.int li)]) (rest := []) (C' := 10) (S' := 31) (pc' := 242) at_239 f1820 (hw _ (List.mem_of_getElem? (i := 101) rfl)) (hw _ (List.mem_of_getElem? (i := 102) rfl)) (fun hZ => notFace_of_selects (args := #[]) (mvT hZ (hw _ (List.mem_of_getElem? (i := 104) rfl)))) (hw _ (List.mem_of_getElem? (i := 104) rfl)) (hw _ (List.mem_of_getElem? (i := 103) rfl)) (hw _ (List.mem_of_getElem? (i := 52) rfl)) (hw _ (List.mem_of_getElem? (i := 105) rfl)) (rm20_N1 l Z a0 hw n0 [] (b1683) (b54) (sa) (li) (b1725) (b1726) (nb) ((upd (upd (upd (fun _ => .null) 0 (.ref nb)) 1 (.ref nb)) 2 (.ref nb))) ((upd (upd (upd (fun _ => (.int (0 : Int32))) 0 (.int (2147483647 : Int32))) 1 (.int (2147483647 : Int32))) 2 (.int (2147483647 : Int32)))) ((upd (upd (upd (upd (upd (upd (fun _ => (.int (0 : Int32))) 0 (.int r71.toInt8.toInt32)) 1 (.int r87.toInt8.toInt32)) 2 (.int r103.toInt8.toInt32)) 3 (.int r119.toInt8.toInt32)) 4 (.int r135.toInt8.toInt32)) 5 (.int r151.toInt8.toInt32))) (T) h1723 A1816.size f1817 (by exact hT) (by exact ⟨ksa.1, ksa.2, kli.1, kli.2⟩) f1731 f1732 f1733 f1734 (by rfl) (by rfl)) rfl rfl pd_22 rfl rfl (by decide) (by decide) (Nat.le_of_ble_eq_true rfl) (by decide) (by decide) rfl rfl rfl)
          subst q1821
          have A1823 := A1818.istore (Ls' := #[.val (.long a), .second, .val (.long x), .second, .val (.long z), .second, .val (.int p), .val (.int x0), .val (.int x1), .val (.int x2), .val (.int (1 : Int32)), .val (.int sa), .val (.int li), .val (.ref b54), .val (.ref b160), .val (.ref b1683), .val (.int (-1 : Int32)), .unset, .unset, .unset, .unset, .unset, .unset]) (pc' := 244) at_242 rfl rfl
          clear e7 ne167 ne180 ne181 ne195 ne197 ne198 ne230 ne232 ne233 ne234 ne262 ne263 ne265 ne267 ne269 ne270 ne271 ne272 ne273 ne274 ne1691 ne1692 ne1694 ne1696 ne1698 ne1700 ne1702 ne1736 ne1737 ne1738 ne1740 ne1741 ne1742 ne1743 ne1744 ne1745 ne1746 ne1747 ne1748 ne1749 ne1750 ne1751 ne1752
          have a0_ := addc32 sa (0 : Int32) 0 rfl (by omega) (by omega)
          have a1_ := addc32 sa (1 : Int32) 1 rfl (by omega) (by omega)
          have a2_ := addc32 sa (2 : Int32) 2 rfl (by omega) (by omega)
          have z1_ := addc32 (sa + (1 : Int32)) (1 : Int32) 1 rfl (by omega) (by omega)
          have z2_ := addc32 (sa + (2 : Int32)) (1 : Int32) 1 rfl (by omega) (by omega)
          have A1824 := A1823.iload (v := (1 : Int32)) (pc' := 246) at_244 rfl rfl
          have A1826 := A1824.ifYes (pc' := 286) at_246 (feq (ine (x := (1 : Int32)) (y := (0 : Int32)) rfl rfl (by decide : ¬ ((1 : Int) = 0)))).2 (by decide) (by decide)
          have A1827 := A1826.iload (v := (1 : Int32)) (pc' := 288) at_286 rfl rfl
          have A1828 := A1827.iconst (z := (1 : Int32)) (pc' := 289) at_288 rfl rfl
          have A1830 := A1828.icmpNo (pc' := 292) at_289 (teq (ieq (x := (1 : Int32)) (y := (1 : Int32)) rfl rfl (by decide : (1 : Int) = 1))).2 rfl
          have A1831 := A1830.iload (v := x2) (pc' := 294) at_292 rfl rfl
          obtain ⟨r1833, _, ⟨rfl, q1834⟩, A1832⟩ := W.kI (A1831.callS (argsL := [(.int x2)]) (rest := []) (C' := 10) (S' := 31) (pc' := 297) at_294 (hw _ (List.mem_of_getElem? (i := 106) rfl)) (hw _ (List.mem_of_getElem? (i := 107) rfl)) (hw _ (List.mem_of_getElem? (i := 4) rfl)) (hw _ (List.mem_of_getElem? (i := 108) rfl)) (rm21 l Z a0 hw n0 [] (x2)  h1723 A1831.size ) rfl rfl pd_4 rfl rfl (by decide) (by decide) (Nat.le_of_ble_eq_true rfl) (by decide) (by decide) rfl rfl rfl)
          have A1836 := A1832.istore (Ls' := #[.val (.long a), .second, .val (.long x), .second, .val (.long z), .second, .val (.int p), .val (.int x0), .val (.int x1), .val (.int x2), .val (.int (1 : Int32)), .val (.int sa), .val (.int li), .val (.ref b54), .val (.ref b160), .val (.ref b1683), .val (.int (-1 : Int32)), .val (.int r1833), .unset, .unset, .unset, .unset, .unset]) (pc' := 299) at_297 rfl rfl
          have A1837 := A1836.iconst (z := (1 : Int32)) (pc' := 300) at_299 rfl rfl
          have A1838 := A1837.istore (Ls' := #[.val (.long a), .second, .val (.long x), .second, .val (.long z), .second, .val (.int p), .val (.int x0), .val (.int x1), .val (.int x2), .val (.int (1 : Int32)), .val (.int sa), .val (.int li), .val (.ref b54), .val (.ref b160), .val (.ref b1683), .val (.int (-1 : Int32)), .val (.int r1833), .val (.int (1 : Int32)), .unset, .unset, .unset, .unset]) (pc' := 302) at_300 rfl rfl
          have A1839 := A1838.iload (v := x2) (pc' := 304) at_302 rfl rfl
          have A1840 := A1839.istore (Ls' := #[.val (.long a), .second, .val (.long x), .second, .val (.long z), .second, .val (.int p), .val (.int x0), .val (.int x1), .val (.int x2), .val (.int (1 : Int32)), .val (.int sa), .val (.int li), .val (.ref b54), .val (.ref b160), .val (.ref b1683), .val (.int (-1 : Int32)), .val (.int r1833), .val (.int (1 : Int32)), .val (.int x2), .unset, .unset, .unset]) (pc' := 306) at_304 rfl rfl
          have A1841 := A1840.iload (v := x2) (pc' := 308) at_306 rfl rfl
          have A1842 := A1841.istore (Ls' := #[.val (.long a), .second, .val (.long x), .second, .val (.long z), .second, .val (.int p), .val (.int x0), .val (.int x1), .val (.int x2), .val (.int (1 : Int32)), .val (.int sa), .val (.int li), .val (.ref b54), .val (.ref b160), .val (.ref b1683), .val (.int (-1 : Int32)), .val (.int r1833), .val (.int (1 : Int32)), .val (.int x2), .val (.int x2), .unset, .unset]) (pc' := 310) at_308 rfl rfl
          have A1843 := A1842.goto (pc' := 325) at_310 (by decide) (by decide)
          have A1844 := A1843.iload (v := r1833) (pc' := 327) at_325 rfl rfl
          by_cases c1845 : r1833.toInt = 0
          · have A1846 := A1844.ifYes (pc' := 387) at_327 (teq (ieq (x := r1833) (y := (0 : Int32)) rfl rfl c1845)).1 (by decide) (by decide)
            clear q1834 kp p0 p2 p1
            have A1847 := A1846.iconst (z := (0 : Int32)) (pc' := 388) at_387 rfl rfl
            have A1848 := A1847.istore (Ls' := #[.val (.long a), .second, .val (.long x), .second, .val (.long z), .second, .val (.int p), .val (.int x0), .val (.int x1), .val (.int x2), .val (.int (1 : Int32)), .val (.int sa), .val (.int li), .val (.ref b54), .val (.ref b160), .val (.ref b1683), .val (.int (-1 : Int32)), .val (.int r1833), .val (.int (1 : Int32)), .val (.int x2), .val (.int x2), .val (.int (0 : Int32)), .unset]) (pc' := 390) at_388 rfl rfl
            have A1849 := A1848.iload (v := (0 : Int32)) (pc' := 392) at_390 rfl rfl
            have A1851 := A1849.ifYes (pc' := 405) at_392 (teq (ieq (x := (0 : Int32)) (y := (0 : Int32)) rfl rfl (by decide : (0 : Int) = 0))).1 (by decide) (by decide)
            have A1852 := A1851.iconst (z := (-1 : Int32)) (pc' := 406) at_405 rfl rfl
            have A1853 := A1852.istore (Ls' := #[.val (.long a), .second, .val (.long x), .second, .val (.long z), .second, .val (.int p), .val (.int x0), .val (.int x1), .val (.int x2), .val (.int (1 : Int32)), .val (.int sa), .val (.int li), .val (.ref b54), .val (.ref b160), .val (.ref b1683), .val (.int (-1 : Int32)), .val (.int r1833), .val (.int (1 : Int32)), .val (.int x2), .val (.int x2), .val (.int (0 : Int32)), .val (.int (-1 : Int32))]) (pc' := 408) at_406 rfl rfl
            have A1854 := A1853.iload (v := (-1 : Int32)) (pc' := 410) at_408 rfl rfl
            have A1855 := A1854.iload (v := (-1 : Int32)) (pc' := 412) at_410 rfl rfl
            have A1857 := A1855.icmpNo (pc' := 415) at_412 (teq (ieq (x := (-1 : Int32)) (y := (-1 : Int32)) rfl rfl (by decide : ((-1) : Int) = (-1)))).2 rfl
            have A1858 := A1857.iconst (z := (1 : Int32)) (pc' := 416) at_415 rfl rfl
            have A1859 := A1858.goto (pc' := 420) at_416 (by decide) (by decide)
            refine A1859.retN (t := .boolean) (z' := (1 : Int32)) at_420 (by decide) (by decide) (by simp) rfl ⟨_, rfl, ⟨trivial, ?_⟩⟩
            have elit : (1 : Int32).toInt = 1 := rfl
            rfl
          · exfalso
            omega
        · have A1861 := A1753.cast (Ls' := #[.val (.long a), .second, .val (.long x), .second, .val (.long z), .second, .val (.int p), .val (.int x0), .val (.int x1), .val (.int x2), .val (.int (2 : Int32)), .val (.int sa), .val (.int li), .val (.ref b54), .val (.ref b160), .val (.ref b1683), .unset, .unset, .unset, .unset, .unset, .unset, .unset]) rfl (by rw [hi]) rfl
          have A1862 := A1861.aload (v := (.ref b1683)) (pc' := 231) at_229 rfl rfl rfl
          have A1863 := A1862.iload (v := (2 : Int32)) (pc' := 233) at_231 rfl rfl
          have A1864 := A1863.aload (v := (.ref b54)) (pc' := 235) at_233 rfl rfl rfl
          have A1865 := A1864.iload (v := sa) (pc' := 237) at_235 rfl rfl
          have A1866 := A1865.iload (v := li) (pc' := 239) at_237 rfl rfl
          have f1867 := (f1735.keep K1724 (ninS ne1691 nin0))
          have f1870 := (X1687.keep K1724)
          obtain ⟨r1869, _, ⟨rfl, q1871⟩, A1868⟩ := W.kI (A1866.callV (a := b1683) (argsL := [(.int (2 : Int32)), (.ref b54), (.int sa), (.int li)]) (rest := []) (C' := 10) (S' := 31) (pc' := 242) at_239 f1870 (hw _ (List.mem_of_getElem? (i := 101) rfl)) (hw _ (List.mem_of_getElem? (i := 102) rfl)) (fun hZ => notFace_of_selects (args := #[]) (mvT hZ (hw _ (List.mem_of_getElem? (i := 104) rfl)))) (hw _ (List.mem_of_getElem? (i := 104) rfl)) (hw _ (List.mem_of_getElem? (i := 103) rfl)) (hw _ (List.mem_of_getElem? (i := 52) rfl)) (hw _ (List.mem_of_getElem? (i := 105) rfl)) (rm20_N2 l Z a0 hw n0 [] (b1683) (b54) (sa) (li) (b1725) (b1726) (nb) ((upd (upd (upd (fun _ => .null) 0 (.ref nb)) 1 (.ref nb)) 2 (.ref nb))) ((upd (upd (upd (fun _ => (.int (0 : Int32))) 0 (.int (2147483647 : Int32))) 1 (.int (2147483647 : Int32))) 2 (.int (2147483647 : Int32)))) ((upd (upd (upd (upd (upd (upd (fun _ => (.int (0 : Int32))) 0 (.int r71.toInt8.toInt32)) 1 (.int r87.toInt8.toInt32)) 2 (.int r103.toInt8.toInt32)) 3 (.int r119.toInt8.toInt32)) 4 (.int r135.toInt8.toInt32)) 5 (.int r151.toInt8.toInt32))) (T) h1723 A1866.size f1867 (by exact hT) (by exact ⟨ksa.1, ksa.2, kli.1, kli.2⟩) f1731 f1732 f1733 f1734 (by rfl) (by rfl)) rfl rfl pd_22 rfl rfl (by decide) (by decide) (Nat.le_of_ble_eq_true rfl) (by decide) (by decide) rfl rfl rfl)
          subst q1871
          have A1873 := A1868.istore (Ls' := #[.val (.long a), .second, .val (.long x), .second, .val (.long z), .second, .val (.int p), .val (.int x0), .val (.int x1), .val (.int x2), .val (.int (2 : Int32)), .val (.int sa), .val (.int li), .val (.ref b54), .val (.ref b160), .val (.ref b1683), .val (.int (-1 : Int32)), .unset, .unset, .unset, .unset, .unset, .unset]) (pc' := 244) at_242 rfl rfl
          clear e7 ne167 ne180 ne181 ne195 ne197 ne198 ne230 ne232 ne233 ne234 ne262 ne263 ne265 ne267 ne269 ne270 ne271 ne272 ne273 ne274 ne1691 ne1692 ne1694 ne1696 ne1698 ne1700 ne1702 ne1736 ne1737 ne1738 ne1740 ne1741 ne1742 ne1743 ne1744 ne1745 ne1746 ne1747 ne1748 ne1749 ne1750 ne1751 ne1752
          have a0_ := addc32 sa (0 : Int32) 0 rfl (by omega) (by omega)
          have a1_ := addc32 sa (1 : Int32) 1 rfl (by omega) (by omega)
          have a2_ := addc32 sa (2 : Int32) 2 rfl (by omega) (by omega)
          have z1_ := addc32 (sa + (1 : Int32)) (1 : Int32) 1 rfl (by omega) (by omega)
          have z2_ := addc32 (sa + (2 : Int32)) (1 : Int32) 1 rfl (by omega) (by omega)
          have A1874 := A1873.iload (v := (2 : Int32)) (pc' := 246) at_244 rfl rfl
          have A1876 := A1874.ifYes (pc' := 286) at_246 (feq (ine (x := (2 : Int32)) (y := (0 : Int32)) rfl rfl (by decide : ¬ ((2 : Int) = 0)))).2 (by decide) (by decide)
          have A1877 := A1876.iload (v := (2 : Int32)) (pc' := 288) at_286 rfl rfl
          have A1878 := A1877.iconst (z := (1 : Int32)) (pc' := 289) at_288 rfl rfl
          have A1880 := A1878.icmpYes (pc' := 313) at_289 (feq (ine (x := (2 : Int32)) (y := (1 : Int32)) rfl rfl (by decide : ¬ ((2 : Int) = 1)))).2 (by decide) (by decide)
          have A1881 := A1880.iconst (z := (0 : Int32)) (pc' := 314) at_313 rfl rfl
          have A1882 := A1881.istore (Ls' := #[.val (.long a), .second, .val (.long x), .second, .val (.long z), .second, .val (.int p), .val (.int x0), .val (.int x1), .val (.int x2), .val (.int (2 : Int32)), .val (.int sa), .val (.int li), .val (.ref b54), .val (.ref b160), .val (.ref b1683), .val (.int (-1 : Int32)), .val (.int (0 : Int32)), .unset, .unset, .unset, .unset, .unset]) (pc' := 316) at_314 rfl rfl
          have A1883 := A1882.iconst (z := (0 : Int32)) (pc' := 317) at_316 rfl rfl
          have A1884 := A1883.istore (Ls' := #[.val (.long a), .second, .val (.long x), .second, .val (.long z), .second, .val (.int p), .val (.int x0), .val (.int x1), .val (.int x2), .val (.int (2 : Int32)), .val (.int sa), .val (.int li), .val (.ref b54), .val (.ref b160), .val (.ref b1683), .val (.int (-1 : Int32)), .val (.int (0 : Int32)), .val (.int (0 : Int32)), .unset, .unset, .unset, .unset]) (pc' := 319) at_317 rfl rfl
          have A1885 := A1884.iconst (z := (0 : Int32)) (pc' := 320) at_319 rfl rfl
          have A1886 := A1885.istore (Ls' := #[.val (.long a), .second, .val (.long x), .second, .val (.long z), .second, .val (.int p), .val (.int x0), .val (.int x1), .val (.int x2), .val (.int (2 : Int32)), .val (.int sa), .val (.int li), .val (.ref b54), .val (.ref b160), .val (.ref b1683), .val (.int (-1 : Int32)), .val (.int (0 : Int32)), .val (.int (0 : Int32)), .val (.int (0 : Int32)), .unset, .unset, .unset]) (pc' := 322) at_320 rfl rfl
          have A1887 := A1886.iconst (z := (0 : Int32)) (pc' := 323) at_322 rfl rfl
          have A1888 := A1887.istore (Ls' := #[.val (.long a), .second, .val (.long x), .second, .val (.long z), .second, .val (.int p), .val (.int x0), .val (.int x1), .val (.int x2), .val (.int (2 : Int32)), .val (.int sa), .val (.int li), .val (.ref b54), .val (.ref b160), .val (.ref b1683), .val (.int (-1 : Int32)), .val (.int (0 : Int32)), .val (.int (0 : Int32)), .val (.int (0 : Int32)), .val (.int (0 : Int32)), .unset, .unset]) (pc' := 325) at_323 rfl rfl
          have A1889 := A1888.iload (v := (0 : Int32)) (pc' := 327) at_325 rfl rfl
          have A1891 := A1889.ifYes (pc' := 387) at_327 (teq (ieq (x := (0 : Int32)) (y := (0 : Int32)) rfl rfl (by decide : (0 : Int) = 0))).1 (by decide) (by decide)
          clear kp p0 p2 p1
          have A1892 := A1891.iconst (z := (0 : Int32)) (pc' := 388) at_387 rfl rfl
          have A1893 := A1892.istore (Ls' := #[.val (.long a), .second, .val (.long x), .second, .val (.long z), .second, .val (.int p), .val (.int x0), .val (.int x1), .val (.int x2), .val (.int (2 : Int32)), .val (.int sa), .val (.int li), .val (.ref b54), .val (.ref b160), .val (.ref b1683), .val (.int (-1 : Int32)), .val (.int (0 : Int32)), .val (.int (0 : Int32)), .val (.int (0 : Int32)), .val (.int (0 : Int32)), .val (.int (0 : Int32)), .unset]) (pc' := 390) at_388 rfl rfl
          have A1894 := A1893.iload (v := (0 : Int32)) (pc' := 392) at_390 rfl rfl
          have A1896 := A1894.ifYes (pc' := 405) at_392 (teq (ieq (x := (0 : Int32)) (y := (0 : Int32)) rfl rfl (by decide : (0 : Int) = 0))).1 (by decide) (by decide)
          have A1897 := A1896.iconst (z := (-1 : Int32)) (pc' := 406) at_405 rfl rfl
          have A1898 := A1897.istore (Ls' := #[.val (.long a), .second, .val (.long x), .second, .val (.long z), .second, .val (.int p), .val (.int x0), .val (.int x1), .val (.int x2), .val (.int (2 : Int32)), .val (.int sa), .val (.int li), .val (.ref b54), .val (.ref b160), .val (.ref b1683), .val (.int (-1 : Int32)), .val (.int (0 : Int32)), .val (.int (0 : Int32)), .val (.int (0 : Int32)), .val (.int (0 : Int32)), .val (.int (0 : Int32)), .val (.int (-1 : Int32))]) (pc' := 408) at_406 rfl rfl
          have A1899 := A1898.iload (v := (-1 : Int32)) (pc' := 410) at_408 rfl rfl
          have A1900 := A1899.iload (v := (-1 : Int32)) (pc' := 412) at_410 rfl rfl
          have A1902 := A1900.icmpNo (pc' := 415) at_412 (teq (ieq (x := (-1 : Int32)) (y := (-1 : Int32)) rfl rfl (by decide : ((-1) : Int) = (-1)))).2 rfl
          have A1903 := A1902.iconst (z := (1 : Int32)) (pc' := 416) at_415 rfl rfl
          have A1904 := A1903.goto (pc' := 420) at_416 (by decide) (by decide)
          refine A1904.retN (t := .boolean) (z' := (1 : Int32)) at_420 (by decide) (by decide) (by simp) rfl ⟨_, rfl, ⟨trivial, ?_⟩⟩
          have elit : (1 : Int32).toInt = 1 := rfl
          rfl
    · have kp := p0
      obtain ⟨h1905, b1906, eb1907, g1908, E1909, X1910, D1911, A1912⟩ := A280.newO (C' := 8) (S' := 25) (pc' := 221) at_218 (hw _ (List.mem_of_getElem? (i := 50) rfl)) (hw _ (List.mem_of_getElem? (i := 51) rfl)) (hw _ (List.mem_of_getElem? (i := 52) rfl)) (by decide) (by decide) rfl rfl rfl
      have f1913 := ((f261.keep K250 nin0).other w278 ne167)
      have ne1914 : b54 ≠ b1906 := Nat.ne_of_lt (Nat.lt_of_lt_of_le f1913.lt (Nat.le_of_eq eb1907.symm))
      have ne1915 : b160 ≠ b1906 := Nat.ne_of_lt (Nat.lt_of_lt_of_le X279.lt (Nat.le_of_eq eb1907.symm))
      have f1916 := ((f264.keep K250).wr w278)
      have ne1917 : b172 ≠ b1906 := Nat.ne_of_lt (Nat.lt_of_lt_of_le f1916.lt (Nat.le_of_eq eb1907.symm))
      have f1918 := ((f266.keep K250 nin0).other w278 (Ne.symm ne197))
      have ne1919 : b187 ≠ b1906 := Nat.ne_of_lt (Nat.lt_of_lt_of_le f1918.lt (Nat.le_of_eq eb1907.symm))
      have f1920 := ((f268.keep K250 nin0).other w278 (Ne.symm ne232))
      have ne1921 : b222 ≠ b1906 := Nat.ne_of_lt (Nat.lt_of_lt_of_le f1920.lt (Nat.le_of_eq eb1907.symm))
      have f1922 := (f256.wr w278)
      have ne1923 : r247 ≠ b1906 := Nat.ne_of_lt (Nat.lt_of_lt_of_le f1922.lt (Nat.le_of_eq eb1907.symm))
      have f1924 := (f259.other w278 (Ne.symm ne271))
      have ne1925 : b251 ≠ b1906 := Nat.ne_of_lt (Nat.lt_of_lt_of_le f1924.lt (Nat.le_of_eq eb1907.symm))
      have f1926 : Fld Z h1905 b1906 "com/example/dialekt/dialekt/json/MemberNames" "names" "[Ljava/lang/String;" .null := D1911 (Or.inr (hw _ (List.mem_of_getElem? (i := 58) rfl))) (ty := (.array (.object "java/lang/String"))) (by decide)
      have f1927 : Fld Z h1905 b1906 "com/example/dialekt/dialekt/json/MemberNames" "plain" "[[B" .null := D1911 (Or.inr (hw _ (List.mem_of_getElem? (i := 62) rfl))) (ty := (.array (.array .byte))) (by decide)
      have f1928 : Fld Z h1905 b1906 "com/example/dialekt/dialekt/json/MemberNames" "plainLengths" "[I" .null := D1911 (Or.inr (hw _ (List.mem_of_getElem? (i := 65) rfl))) (ty := (.array .int)) (by decide)
      have A1929 := A1912.dup (pc' := 222) at_221 rfl rfl
      have A1930 := A1929.aload (v := (.ref b160)) (pc' := 224) at_222 rfl rfl rfl
      have f1931 := (X279.ext E1909)
      have f1932 := (f1916.ext E1909)
      have f1933 := ((((f226.other w238 (Or.inl (Ne.symm ne181))).keep K250 nin0).other w278 (Or.inl (Ne.symm ne181))).ext E1909)
      have f1934 := ((((f225.other w238 (Or.inl (Ne.symm ne181))).keep K250 nin0).other w278 (Or.inl (Ne.symm ne181))).ext E1909)
      have f1935 := (f1920.ext E1909)
      have f1936 := ((((f228.wr w238).keep K250).wr w278).ext E1909)
      have f1937 := (f1922.ext E1909)
      have f1938 := ((f258.other w278 (Or.inl (Ne.symm ne263))).ext E1909)
      have f1939 := ((f257.other w278 (Or.inl (Ne.symm ne263))).ext E1909)
      have f1940 := (f1924.ext E1909)
      have f1941 := ((f260.wr w278).ext E1909)
      have f1942 := (((f245.keep K250 all0).wr w278 g162).ext E1909)
      obtain ⟨h1946, ⟨b1948, b1949, K1947, g1950, z1951, g1952, z1953, f1954, f1955, f1956, f1957, q1945⟩, A1943⟩ := W.kV (A1930.callI (a := b1906) (argsL := [(.ref b160)]) (rest := [(.ref b1906)]) (C' := 10) (S' := 31) (pc' := 227) at_224 rfl (hw _ (List.mem_of_getElem? (i := 53) rfl)) (hw _ (List.mem_of_getElem? (i := 54) rfl)) (hw _ (List.mem_of_getElem? (i := 52) rfl)) (hw _ (List.mem_of_getElem? (i := 55) rfl)) (rm12_NN l Z a0 hw n0 [] (b1906) (b160) (b172) (r247) (b222) (b251) (iso) (u8) (nb) (x0) (x1) (x2) (_) (_) h1905 A1930.size X1910 g1908 f1926 f1927 f1928 f1931 f1932 f1933 f1934 f1935 f1936 f1937 f1938 f1939 f1940 f1941 ne1915 ne1917 ne1921 ne1923 ne1925 (by assumption) (by assumption) (by assumption) f1942 e1 (by assumption) e3 (by assumption) e5 e6 e7 e8 e9 e10 e11 (by assumption) (by assumption)) rfl rfl pd_21 rfl rfl (by decide) (by decide) (Nat.le_of_ble_eq_true rfl) (by decide) (by decide) rfl rfl rfl)
      have f1958 := (f1913.ext E1909)
      have ne1959 : b54 ≠ b1948 := Nat.ne_of_lt (Nat.lt_of_lt_of_le f1958.lt z1951)
      have ne1960 : b160 ≠ b1948 := Nat.ne_of_lt (Nat.lt_of_lt_of_le f1931.lt z1951)
      have ne1961 : b172 ≠ b1948 := Nat.ne_of_lt (Nat.lt_of_lt_of_le f1932.lt z1951)
      have f1962 := (f1918.ext E1909)
      have ne1963 : b187 ≠ b1948 := Nat.ne_of_lt (Nat.lt_of_lt_of_le f1962.lt z1951)
      have ne1964 : b222 ≠ b1948 := Nat.ne_of_lt (Nat.lt_of_lt_of_le f1935.lt z1951)
      have ne1965 : r247 ≠ b1948 := Nat.ne_of_lt (Nat.lt_of_lt_of_le f1937.lt z1951)
      have ne1966 : b251 ≠ b1948 := Nat.ne_of_lt (Nat.lt_of_lt_of_le f1940.lt z1951)
      have ne1967 : b1906 ≠ b1948 := Nat.ne_of_lt (Nat.lt_of_lt_of_le X1910.lt z1951)
      have ne1968 : b54 ≠ b1949 := Nat.ne_of_lt (Nat.lt_of_lt_of_le f1958.lt z1953)
      have ne1969 : b160 ≠ b1949 := Nat.ne_of_lt (Nat.lt_of_lt_of_le f1931.lt z1953)
      have ne1970 : b172 ≠ b1949 := Nat.ne_of_lt (Nat.lt_of_lt_of_le f1932.lt z1953)
      have ne1971 : b187 ≠ b1949 := Nat.ne_of_lt (Nat.lt_of_lt_of_le f1962.lt z1953)
      have ne1972 : b222 ≠ b1949 := Nat.ne_of_lt (Nat.lt_of_lt_of_le f1935.lt z1953)
      have ne1973 : r247 ≠ b1949 := Nat.ne_of_lt (Nat.lt_of_lt_of_le f1937.lt z1953)
      have ne1974 : b251 ≠ b1949 := Nat.ne_of_lt (Nat.lt_of_lt_of_le f1940.lt z1953)
      have ne1975 : b1906 ≠ b1949 := Nat.ne_of_lt (Nat.lt_of_lt_of_le X1910.lt z1953)
      have A1976 := A1943.astore (Ls' := #[.val (.long a), .second, .val (.long x), .second, .val (.long z), .second, .val (.int p), .val (.int x0), .val (.int x1), .val (.int x2), .val (.int ix), .val (.int sa), .val (.int li), .val (.ref b54), .val (.ref b160), .val (.ref b1906), .unset, .unset, .unset, .unset, .unset, .unset, .unset]) (pc' := 229) at_227 rfl rfl rfl
      obtain hi | hi | hi := own_three ix kix
      · have A1977 := A1976.cast (Ls' := #[.val (.long a), .second, .val (.long x), .second, .val (.long z), .second, .val (.int p), .val (.int x0), .val (.int x1), .val (.int x2), .val (.int (0 : Int32)), .val (.int sa), .val (.int li), .val (.ref b54), .val (.ref b160), .val (.ref b1906), .unset, .unset, .unset, .unset, .unset, .unset, .unset]) rfl (by rw [hi]) rfl
        have A1978 := A1977.aload (v := (.ref b1906)) (pc' := 231) at_229 rfl rfl rfl
        have A1979 := A1978.iload (v := (0 : Int32)) (pc' := 233) at_231 rfl rfl
        have A1980 := A1979.aload (v := (.ref b54)) (pc' := 235) at_233 rfl rfl rfl
        have A1981 := A1980.iload (v := sa) (pc' := 237) at_235 rfl rfl
        have A1982 := A1981.iload (v := li) (pc' := 239) at_237 rfl rfl
        have f1983 := (f1958.keep K1947 (ninS ne1914 nin0))
        have f1986 := (X1910.keep K1947)
        obtain ⟨r1985, _, ⟨rfl, q1987⟩, A1984⟩ := W.kI (A1982.callV (a := b1906) (argsL := [(.int (0 : Int32)), (.ref b54), (.int sa), (.int li)]) (rest := []) (C' := 10) (S' := 31) (pc' := 242) at_239 f1986 (hw _ (List.mem_of_getElem? (i := 101) rfl)) (hw _ (List.mem_of_getElem? (i := 102) rfl)) (fun hZ => notFace_of_selects (args := #[]) (mvT hZ (hw _ (List.mem_of_getElem? (i := 104) rfl)))) (hw _ (List.mem_of_getElem? (i := 104) rfl)) (hw _ (List.mem_of_getElem? (i := 103) rfl)) (hw _ (List.mem_of_getElem? (i := 52) rfl)) (hw _ (List.mem_of_getElem? (i := 105) rfl)) (rm20_N0 l Z a0 hw n0 [] (b1906) (b54) (sa) (li) (b1948) (b1949) (nb) ((upd (upd (upd (fun _ => .null) 0 (.ref nb)) 1 (.ref nb)) 2 (.ref nb))) ((upd (upd (upd (fun _ => (.int (0 : Int32))) 0 (.int (2147483647 : Int32))) 1 (.int (2147483647 : Int32))) 2 (.int (2147483647 : Int32)))) ((upd (upd (upd (upd (upd (upd (fun _ => (.int (0 : Int32))) 0 (.int r71.toInt8.toInt32)) 1 (.int r87.toInt8.toInt32)) 2 (.int r103.toInt8.toInt32)) 3 (.int r119.toInt8.toInt32)) 4 (.int r135.toInt8.toInt32)) 5 (.int r151.toInt8.toInt32))) (T) h1946 A1982.size f1983 (by exact hT) (by exact ⟨ksa.1, ksa.2, kli.1, kli.2⟩) f1954 f1955 f1956 f1957 (by rfl) (by rfl)) rfl rfl pd_22 rfl rfl (by decide) (by decide) (Nat.le_of_ble_eq_true rfl) (by decide) (by decide) rfl rfl rfl)
        subst q1987
        have A1989 := A1984.istore (Ls' := #[.val (.long a), .second, .val (.long x), .second, .val (.long z), .second, .val (.int p), .val (.int x0), .val (.int x1), .val (.int x2), .val (.int (0 : Int32)), .val (.int sa), .val (.int li), .val (.ref b54), .val (.ref b160), .val (.ref b1906), .val (.int (-1 : Int32)), .unset, .unset, .unset, .unset, .unset, .unset]) (pc' := 244) at_242 rfl rfl
        clear e7 ne167 ne180 ne181 ne195 ne197 ne198 ne230 ne232 ne233 ne234 ne262 ne263 ne265 ne267 ne269 ne270 ne271 ne272 ne273 ne274 ne1914 ne1915 ne1917 ne1919 ne1921 ne1923 ne1925 ne1959 ne1960 ne1961 ne1963 ne1964 ne1965 ne1966 ne1967 ne1968 ne1969 ne1970 ne1971 ne1972 ne1973 ne1974 ne1975
        have a0_ := addc32 sa (0 : Int32) 0 rfl (by omega) (by omega)
        have a1_ := addc32 sa (1 : Int32) 1 rfl (by omega) (by omega)
        have a2_ := addc32 sa (2 : Int32) 2 rfl (by omega) (by omega)
        have z1_ := addc32 (sa + (1 : Int32)) (1 : Int32) 1 rfl (by omega) (by omega)
        have z2_ := addc32 (sa + (2 : Int32)) (1 : Int32) 1 rfl (by omega) (by omega)
        have A1990 := A1989.iload (v := (0 : Int32)) (pc' := 246) at_244 rfl rfl
        have A1992 := A1990.ifNo (pc' := 249) at_246 (teq (ieq (x := (0 : Int32)) (y := (0 : Int32)) rfl rfl (by decide : (0 : Int) = 0))).2 rfl
        have A1993 := A1992.iload (v := x0) (pc' := 251) at_249 rfl rfl
        obtain ⟨r1995, _, ⟨rfl, q1996⟩, A1994⟩ := W.kI (A1993.callS (argsL := [(.int x0)]) (rest := []) (C' := 10) (S' := 31) (pc' := 254) at_251 (hw _ (List.mem_of_getElem? (i := 106) rfl)) (hw _ (List.mem_of_getElem? (i := 107) rfl)) (hw _ (List.mem_of_getElem? (i := 4) rfl)) (hw _ (List.mem_of_getElem? (i := 108) rfl)) (rm21 l Z a0 hw n0 [] (x0)  h1946 A1993.size ) rfl rfl pd_4 rfl rfl (by decide) (by decide) (Nat.le_of_ble_eq_true rfl) (by decide) (by decide) rfl rfl rfl)
        by_cases c1998 : r1995.toInt = 0
        · have A1999 := A1994.ifYes (pc' := 269) at_254 (teq (ieq (x := r1995) (y := (0 : Int32)) rfl rfl c1998)).1 (by decide) (by decide)
          have A2000 := A1999.iconst (z := (0 : Int32)) (pc' := 270) at_269 rfl rfl
          have A2001 := A2000.istore (Ls' := #[.val (.long a), .second, .val (.long x), .second, .val (.long z), .second, .val (.int p), .val (.int x0), .val (.int x1), .val (.int x2), .val (.int (0 : Int32)), .val (.int sa), .val (.int li), .val (.ref b54), .val (.ref b160), .val (.ref b1906), .val (.int (-1 : Int32)), .val (.int (0 : Int32)), .unset, .unset, .unset, .unset, .unset]) (pc' := 272) at_270 rfl rfl
          have A2002 := A2001.iconst (z := (2 : Int32)) (pc' := 273) at_272 rfl rfl
          have A2003 := A2002.istore (Ls' := #[.val (.long a), .second, .val (.long x), .second, .val (.long z), .second, .val (.int p), .val (.int x0), .val (.int x1), .val (.int x2), .val (.int (0 : Int32)), .val (.int sa), .val (.int li), .val (.ref b54), .val (.ref b160), .val (.ref b1906), .val (.int (-1 : Int32)), .val (.int (0 : Int32)), .val (.int (2 : Int32)), .unset, .unset, .unset, .unset]) (pc' := 275) at_273 rfl rfl
          have A2004 := A2003.iload (v := x0) (pc' := 277) at_275 rfl rfl
          have A2005 := A2004.istore (Ls' := #[.val (.long a), .second, .val (.long x), .second, .val (.long z), .second, .val (.int p), .val (.int x0), .val (.int x1), .val (.int x2), .val (.int (0 : Int32)), .val (.int sa), .val (.int li), .val (.ref b54), .val (.ref b160), .val (.ref b1906), .val (.int (-1 : Int32)), .val (.int (0 : Int32)), .val (.int (2 : Int32)), .val (.int x0), .unset, .unset, .unset]) (pc' := 279) at_277 rfl rfl
          have A2006 := A2005.iload (v := x1) (pc' := 281) at_279 rfl rfl
          have A2007 := A2006.istore (Ls' := #[.val (.long a), .second, .val (.long x), .second, .val (.long z), .second, .val (.int p), .val (.int x0), .val (.int x1), .val (.int x2), .val (.int (0 : Int32)), .val (.int sa), .val (.int li), .val (.ref b54), .val (.ref b160), .val (.ref b1906), .val (.int (-1 : Int32)), .val (.int (0 : Int32)), .val (.int (2 : Int32)), .val (.int x0), .val (.int x1), .unset, .unset]) (pc' := 283) at_281 rfl rfl
          have A2008 := A2007.goto (pc' := 325) at_283 (by decide) (by decide)
          have A2009 := A2008.iload (v := (0 : Int32)) (pc' := 327) at_325 rfl rfl
          have A2011 := A2009.ifYes (pc' := 387) at_327 (teq (ieq (x := (0 : Int32)) (y := (0 : Int32)) rfl rfl (by decide : (0 : Int) = 0))).1 (by decide) (by decide)
          clear q1996 kp p0 p2
          have A2012 := A2011.iconst (z := (0 : Int32)) (pc' := 388) at_387 rfl rfl
          have A2013 := A2012.istore (Ls' := #[.val (.long a), .second, .val (.long x), .second, .val (.long z), .second, .val (.int p), .val (.int x0), .val (.int x1), .val (.int x2), .val (.int (0 : Int32)), .val (.int sa), .val (.int li), .val (.ref b54), .val (.ref b160), .val (.ref b1906), .val (.int (-1 : Int32)), .val (.int (0 : Int32)), .val (.int (2 : Int32)), .val (.int x0), .val (.int x1), .val (.int (0 : Int32)), .unset]) (pc' := 390) at_388 rfl rfl
          have A2014 := A2013.iload (v := (0 : Int32)) (pc' := 392) at_390 rfl rfl
          have A2016 := A2014.ifYes (pc' := 405) at_392 (teq (ieq (x := (0 : Int32)) (y := (0 : Int32)) rfl rfl (by decide : (0 : Int) = 0))).1 (by decide) (by decide)
          have A2017 := A2016.iconst (z := (-1 : Int32)) (pc' := 406) at_405 rfl rfl
          have A2018 := A2017.istore (Ls' := #[.val (.long a), .second, .val (.long x), .second, .val (.long z), .second, .val (.int p), .val (.int x0), .val (.int x1), .val (.int x2), .val (.int (0 : Int32)), .val (.int sa), .val (.int li), .val (.ref b54), .val (.ref b160), .val (.ref b1906), .val (.int (-1 : Int32)), .val (.int (0 : Int32)), .val (.int (2 : Int32)), .val (.int x0), .val (.int x1), .val (.int (0 : Int32)), .val (.int (-1 : Int32))]) (pc' := 408) at_406 rfl rfl
          have A2019 := A2018.iload (v := (-1 : Int32)) (pc' := 410) at_408 rfl rfl
          have A2020 := A2019.iload (v := (-1 : Int32)) (pc' := 412) at_410 rfl rfl
          have A2022 := A2020.icmpNo (pc' := 415) at_412 (teq (ieq (x := (-1 : Int32)) (y := (-1 : Int32)) rfl rfl (by decide : ((-1) : Int) = (-1)))).2 rfl
          have A2023 := A2022.iconst (z := (1 : Int32)) (pc' := 416) at_415 rfl rfl
          have A2024 := A2023.goto (pc' := 420) at_416 (by decide) (by decide)
          refine A2024.retN (t := .boolean) (z' := (1 : Int32)) at_420 (by decide) (by decide) (by simp) rfl ⟨_, rfl, ⟨trivial, ?_⟩⟩
          have elit : (1 : Int32).toInt = 1 := rfl
          rfl
        · exfalso
          omega
      · have A2026 := A1976.cast (Ls' := #[.val (.long a), .second, .val (.long x), .second, .val (.long z), .second, .val (.int p), .val (.int x0), .val (.int x1), .val (.int x2), .val (.int (1 : Int32)), .val (.int sa), .val (.int li), .val (.ref b54), .val (.ref b160), .val (.ref b1906), .unset, .unset, .unset, .unset, .unset, .unset, .unset]) rfl (by rw [hi]) rfl
        have A2027 := A2026.aload (v := (.ref b1906)) (pc' := 231) at_229 rfl rfl rfl
        have A2028 := A2027.iload (v := (1 : Int32)) (pc' := 233) at_231 rfl rfl
        have A2029 := A2028.aload (v := (.ref b54)) (pc' := 235) at_233 rfl rfl rfl
        have A2030 := A2029.iload (v := sa) (pc' := 237) at_235 rfl rfl
        have A2031 := A2030.iload (v := li) (pc' := 239) at_237 rfl rfl
        have f2032 := (f1958.keep K1947 (ninS ne1914 nin0))
        have f2035 := (X1910.keep K1947)
        obtain ⟨r2034, _, ⟨rfl, q2036⟩, A2033⟩ := W.kI (A2031.callV (a := b1906) (argsL := [(.int (1 : Int32)), (.ref b54), (.int sa), (.int li)]) (rest := []) (C' := 10) (S' := 31) (pc' := 242) at_239 f2035 (hw _ (List.mem_of_getElem? (i := 101) rfl)) (hw _ (List.mem_of_getElem? (i := 102) rfl)) (fun hZ => notFace_of_selects (args := #[]) (mvT hZ (hw _ (List.mem_of_getElem? (i := 104) rfl)))) (hw _ (List.mem_of_getElem? (i := 104) rfl)) (hw _ (List.mem_of_getElem? (i := 103) rfl)) (hw _ (List.mem_of_getElem? (i := 52) rfl)) (hw _ (List.mem_of_getElem? (i := 105) rfl)) (rm20_N1 l Z a0 hw n0 [] (b1906) (b54) (sa) (li) (b1948) (b1949) (nb) ((upd (upd (upd (fun _ => .null) 0 (.ref nb)) 1 (.ref nb)) 2 (.ref nb))) ((upd (upd (upd (fun _ => (.int (0 : Int32))) 0 (.int (2147483647 : Int32))) 1 (.int (2147483647 : Int32))) 2 (.int (2147483647 : Int32)))) ((upd (upd (upd (upd (upd (upd (fun _ => (.int (0 : Int32))) 0 (.int r71.toInt8.toInt32)) 1 (.int r87.toInt8.toInt32)) 2 (.int r103.toInt8.toInt32)) 3 (.int r119.toInt8.toInt32)) 4 (.int r135.toInt8.toInt32)) 5 (.int r151.toInt8.toInt32))) (T) h1946 A2031.size f2032 (by exact hT) (by exact ⟨ksa.1, ksa.2, kli.1, kli.2⟩) f1954 f1955 f1956 f1957 (by rfl) (by rfl)) rfl rfl pd_22 rfl rfl (by decide) (by decide) (Nat.le_of_ble_eq_true rfl) (by decide) (by decide) rfl rfl rfl)
        subst q2036
        have A2038 := A2033.istore (Ls' := #[.val (.long a), .second, .val (.long x), .second, .val (.long z), .second, .val (.int p), .val (.int x0), .val (.int x1), .val (.int x2), .val (.int (1 : Int32)), .val (.int sa), .val (.int li), .val (.ref b54), .val (.ref b160), .val (.ref b1906), .val (.int (-1 : Int32)), .unset, .unset, .unset, .unset, .unset, .unset]) (pc' := 244) at_242 rfl rfl
        clear e7 ne167 ne180 ne181 ne195 ne197 ne198 ne230 ne232 ne233 ne234 ne262 ne263 ne265 ne267 ne269 ne270 ne271 ne272 ne273 ne274 ne1914 ne1915 ne1917 ne1919 ne1921 ne1923 ne1925 ne1959 ne1960 ne1961 ne1963 ne1964 ne1965 ne1966 ne1967 ne1968 ne1969 ne1970 ne1971 ne1972 ne1973 ne1974 ne1975
        have a0_ := addc32 sa (0 : Int32) 0 rfl (by omega) (by omega)
        have a1_ := addc32 sa (1 : Int32) 1 rfl (by omega) (by omega)
        have a2_ := addc32 sa (2 : Int32) 2 rfl (by omega) (by omega)
        have z1_ := addc32 (sa + (1 : Int32)) (1 : Int32) 1 rfl (by omega) (by omega)
        have z2_ := addc32 (sa + (2 : Int32)) (1 : Int32) 1 rfl (by omega) (by omega)
        have A2039 := A2038.iload (v := (1 : Int32)) (pc' := 246) at_244 rfl rfl
        have A2041 := A2039.ifYes (pc' := 286) at_246 (feq (ine (x := (1 : Int32)) (y := (0 : Int32)) rfl rfl (by decide : ¬ ((1 : Int) = 0)))).2 (by decide) (by decide)
        have A2042 := A2041.iload (v := (1 : Int32)) (pc' := 288) at_286 rfl rfl
        have A2043 := A2042.iconst (z := (1 : Int32)) (pc' := 289) at_288 rfl rfl
        have A2045 := A2043.icmpNo (pc' := 292) at_289 (teq (ieq (x := (1 : Int32)) (y := (1 : Int32)) rfl rfl (by decide : (1 : Int) = 1))).2 rfl
        have A2046 := A2045.iload (v := x2) (pc' := 294) at_292 rfl rfl
        obtain ⟨r2048, _, ⟨rfl, q2049⟩, A2047⟩ := W.kI (A2046.callS (argsL := [(.int x2)]) (rest := []) (C' := 10) (S' := 31) (pc' := 297) at_294 (hw _ (List.mem_of_getElem? (i := 106) rfl)) (hw _ (List.mem_of_getElem? (i := 107) rfl)) (hw _ (List.mem_of_getElem? (i := 4) rfl)) (hw _ (List.mem_of_getElem? (i := 108) rfl)) (rm21 l Z a0 hw n0 [] (x2)  h1946 A2046.size ) rfl rfl pd_4 rfl rfl (by decide) (by decide) (Nat.le_of_ble_eq_true rfl) (by decide) (by decide) rfl rfl rfl)
        have A2051 := A2047.istore (Ls' := #[.val (.long a), .second, .val (.long x), .second, .val (.long z), .second, .val (.int p), .val (.int x0), .val (.int x1), .val (.int x2), .val (.int (1 : Int32)), .val (.int sa), .val (.int li), .val (.ref b54), .val (.ref b160), .val (.ref b1906), .val (.int (-1 : Int32)), .val (.int r2048), .unset, .unset, .unset, .unset, .unset]) (pc' := 299) at_297 rfl rfl
        have A2052 := A2051.iconst (z := (1 : Int32)) (pc' := 300) at_299 rfl rfl
        have A2053 := A2052.istore (Ls' := #[.val (.long a), .second, .val (.long x), .second, .val (.long z), .second, .val (.int p), .val (.int x0), .val (.int x1), .val (.int x2), .val (.int (1 : Int32)), .val (.int sa), .val (.int li), .val (.ref b54), .val (.ref b160), .val (.ref b1906), .val (.int (-1 : Int32)), .val (.int r2048), .val (.int (1 : Int32)), .unset, .unset, .unset, .unset]) (pc' := 302) at_300 rfl rfl
        have A2054 := A2053.iload (v := x2) (pc' := 304) at_302 rfl rfl
        have A2055 := A2054.istore (Ls' := #[.val (.long a), .second, .val (.long x), .second, .val (.long z), .second, .val (.int p), .val (.int x0), .val (.int x1), .val (.int x2), .val (.int (1 : Int32)), .val (.int sa), .val (.int li), .val (.ref b54), .val (.ref b160), .val (.ref b1906), .val (.int (-1 : Int32)), .val (.int r2048), .val (.int (1 : Int32)), .val (.int x2), .unset, .unset, .unset]) (pc' := 306) at_304 rfl rfl
        have A2056 := A2055.iload (v := x2) (pc' := 308) at_306 rfl rfl
        have A2057 := A2056.istore (Ls' := #[.val (.long a), .second, .val (.long x), .second, .val (.long z), .second, .val (.int p), .val (.int x0), .val (.int x1), .val (.int x2), .val (.int (1 : Int32)), .val (.int sa), .val (.int li), .val (.ref b54), .val (.ref b160), .val (.ref b1906), .val (.int (-1 : Int32)), .val (.int r2048), .val (.int (1 : Int32)), .val (.int x2), .val (.int x2), .unset, .unset]) (pc' := 310) at_308 rfl rfl
        have A2058 := A2057.goto (pc' := 325) at_310 (by decide) (by decide)
        have A2059 := A2058.iload (v := r2048) (pc' := 327) at_325 rfl rfl
        by_cases c2060 : r2048.toInt = 0
        · have A2061 := A2059.ifYes (pc' := 387) at_327 (teq (ieq (x := r2048) (y := (0 : Int32)) rfl rfl c2060)).1 (by decide) (by decide)
          clear q2049 kp p0 p2
          have A2062 := A2061.iconst (z := (0 : Int32)) (pc' := 388) at_387 rfl rfl
          have A2063 := A2062.istore (Ls' := #[.val (.long a), .second, .val (.long x), .second, .val (.long z), .second, .val (.int p), .val (.int x0), .val (.int x1), .val (.int x2), .val (.int (1 : Int32)), .val (.int sa), .val (.int li), .val (.ref b54), .val (.ref b160), .val (.ref b1906), .val (.int (-1 : Int32)), .val (.int r2048), .val (.int (1 : Int32)), .val (.int x2), .val (.int x2), .val (.int (0 : Int32)), .unset]) (pc' := 390) at_388 rfl rfl
          have A2064 := A2063.iload (v := (0 : Int32)) (pc' := 392) at_390 rfl rfl
          have A2066 := A2064.ifYes (pc' := 405) at_392 (teq (ieq (x := (0 : Int32)) (y := (0 : Int32)) rfl rfl (by decide : (0 : Int) = 0))).1 (by decide) (by decide)
          have A2067 := A2066.iconst (z := (-1 : Int32)) (pc' := 406) at_405 rfl rfl
          have A2068 := A2067.istore (Ls' := #[.val (.long a), .second, .val (.long x), .second, .val (.long z), .second, .val (.int p), .val (.int x0), .val (.int x1), .val (.int x2), .val (.int (1 : Int32)), .val (.int sa), .val (.int li), .val (.ref b54), .val (.ref b160), .val (.ref b1906), .val (.int (-1 : Int32)), .val (.int r2048), .val (.int (1 : Int32)), .val (.int x2), .val (.int x2), .val (.int (0 : Int32)), .val (.int (-1 : Int32))]) (pc' := 408) at_406 rfl rfl
          have A2069 := A2068.iload (v := (-1 : Int32)) (pc' := 410) at_408 rfl rfl
          have A2070 := A2069.iload (v := (-1 : Int32)) (pc' := 412) at_410 rfl rfl
          have A2072 := A2070.icmpNo (pc' := 415) at_412 (teq (ieq (x := (-1 : Int32)) (y := (-1 : Int32)) rfl rfl (by decide : ((-1) : Int) = (-1)))).2 rfl
          have A2073 := A2072.iconst (z := (1 : Int32)) (pc' := 416) at_415 rfl rfl
          have A2074 := A2073.goto (pc' := 420) at_416 (by decide) (by decide)
          refine A2074.retN (t := .boolean) (z' := (1 : Int32)) at_420 (by decide) (by decide) (by simp) rfl ⟨_, rfl, ⟨trivial, ?_⟩⟩
          have elit : (1 : Int32).toInt = 1 := rfl
          rfl
        · exfalso
          omega
      · have A2076 := A1976.cast (Ls' := #[.val (.long a), .second, .val (.long x), .second, .val (.long z), .second, .val (.int p), .val (.int x0), .val (.int x1), .val (.int x2), .val (.int (2 : Int32)), .val (.int sa), .val (.int li), .val (.ref b54), .val (.ref b160), .val (.ref b1906), .unset, .unset, .unset, .unset, .unset, .unset, .unset]) rfl (by rw [hi]) rfl
        have A2077 := A2076.aload (v := (.ref b1906)) (pc' := 231) at_229 rfl rfl rfl
        have A2078 := A2077.iload (v := (2 : Int32)) (pc' := 233) at_231 rfl rfl
        have A2079 := A2078.aload (v := (.ref b54)) (pc' := 235) at_233 rfl rfl rfl
        have A2080 := A2079.iload (v := sa) (pc' := 237) at_235 rfl rfl
        have A2081 := A2080.iload (v := li) (pc' := 239) at_237 rfl rfl
        have f2082 := (f1958.keep K1947 (ninS ne1914 nin0))
        have f2085 := (X1910.keep K1947)
        obtain ⟨r2084, _, ⟨rfl, q2086⟩, A2083⟩ := W.kI (A2081.callV (a := b1906) (argsL := [(.int (2 : Int32)), (.ref b54), (.int sa), (.int li)]) (rest := []) (C' := 10) (S' := 31) (pc' := 242) at_239 f2085 (hw _ (List.mem_of_getElem? (i := 101) rfl)) (hw _ (List.mem_of_getElem? (i := 102) rfl)) (fun hZ => notFace_of_selects (args := #[]) (mvT hZ (hw _ (List.mem_of_getElem? (i := 104) rfl)))) (hw _ (List.mem_of_getElem? (i := 104) rfl)) (hw _ (List.mem_of_getElem? (i := 103) rfl)) (hw _ (List.mem_of_getElem? (i := 52) rfl)) (hw _ (List.mem_of_getElem? (i := 105) rfl)) (rm20_N2 l Z a0 hw n0 [] (b1906) (b54) (sa) (li) (b1948) (b1949) (nb) ((upd (upd (upd (fun _ => .null) 0 (.ref nb)) 1 (.ref nb)) 2 (.ref nb))) ((upd (upd (upd (fun _ => (.int (0 : Int32))) 0 (.int (2147483647 : Int32))) 1 (.int (2147483647 : Int32))) 2 (.int (2147483647 : Int32)))) ((upd (upd (upd (upd (upd (upd (fun _ => (.int (0 : Int32))) 0 (.int r71.toInt8.toInt32)) 1 (.int r87.toInt8.toInt32)) 2 (.int r103.toInt8.toInt32)) 3 (.int r119.toInt8.toInt32)) 4 (.int r135.toInt8.toInt32)) 5 (.int r151.toInt8.toInt32))) (T) h1946 A2081.size f2082 (by exact hT) (by exact ⟨ksa.1, ksa.2, kli.1, kli.2⟩) f1954 f1955 f1956 f1957 (by rfl) (by rfl)) rfl rfl pd_22 rfl rfl (by decide) (by decide) (Nat.le_of_ble_eq_true rfl) (by decide) (by decide) rfl rfl rfl)
        subst q2086
        have A2088 := A2083.istore (Ls' := #[.val (.long a), .second, .val (.long x), .second, .val (.long z), .second, .val (.int p), .val (.int x0), .val (.int x1), .val (.int x2), .val (.int (2 : Int32)), .val (.int sa), .val (.int li), .val (.ref b54), .val (.ref b160), .val (.ref b1906), .val (.int (-1 : Int32)), .unset, .unset, .unset, .unset, .unset, .unset]) (pc' := 244) at_242 rfl rfl
        clear e7 ne167 ne180 ne181 ne195 ne197 ne198 ne230 ne232 ne233 ne234 ne262 ne263 ne265 ne267 ne269 ne270 ne271 ne272 ne273 ne274 ne1914 ne1915 ne1917 ne1919 ne1921 ne1923 ne1925 ne1959 ne1960 ne1961 ne1963 ne1964 ne1965 ne1966 ne1967 ne1968 ne1969 ne1970 ne1971 ne1972 ne1973 ne1974 ne1975
        have a0_ := addc32 sa (0 : Int32) 0 rfl (by omega) (by omega)
        have a1_ := addc32 sa (1 : Int32) 1 rfl (by omega) (by omega)
        have a2_ := addc32 sa (2 : Int32) 2 rfl (by omega) (by omega)
        have z1_ := addc32 (sa + (1 : Int32)) (1 : Int32) 1 rfl (by omega) (by omega)
        have z2_ := addc32 (sa + (2 : Int32)) (1 : Int32) 1 rfl (by omega) (by omega)
        have A2089 := A2088.iload (v := (2 : Int32)) (pc' := 246) at_244 rfl rfl
        have A2091 := A2089.ifYes (pc' := 286) at_246 (feq (ine (x := (2 : Int32)) (y := (0 : Int32)) rfl rfl (by decide : ¬ ((2 : Int) = 0)))).2 (by decide) (by decide)
        have A2092 := A2091.iload (v := (2 : Int32)) (pc' := 288) at_286 rfl rfl
        have A2093 := A2092.iconst (z := (1 : Int32)) (pc' := 289) at_288 rfl rfl
        have A2095 := A2093.icmpYes (pc' := 313) at_289 (feq (ine (x := (2 : Int32)) (y := (1 : Int32)) rfl rfl (by decide : ¬ ((2 : Int) = 1)))).2 (by decide) (by decide)
        have A2096 := A2095.iconst (z := (0 : Int32)) (pc' := 314) at_313 rfl rfl
        have A2097 := A2096.istore (Ls' := #[.val (.long a), .second, .val (.long x), .second, .val (.long z), .second, .val (.int p), .val (.int x0), .val (.int x1), .val (.int x2), .val (.int (2 : Int32)), .val (.int sa), .val (.int li), .val (.ref b54), .val (.ref b160), .val (.ref b1906), .val (.int (-1 : Int32)), .val (.int (0 : Int32)), .unset, .unset, .unset, .unset, .unset]) (pc' := 316) at_314 rfl rfl
        have A2098 := A2097.iconst (z := (0 : Int32)) (pc' := 317) at_316 rfl rfl
        have A2099 := A2098.istore (Ls' := #[.val (.long a), .second, .val (.long x), .second, .val (.long z), .second, .val (.int p), .val (.int x0), .val (.int x1), .val (.int x2), .val (.int (2 : Int32)), .val (.int sa), .val (.int li), .val (.ref b54), .val (.ref b160), .val (.ref b1906), .val (.int (-1 : Int32)), .val (.int (0 : Int32)), .val (.int (0 : Int32)), .unset, .unset, .unset, .unset]) (pc' := 319) at_317 rfl rfl
        have A2100 := A2099.iconst (z := (0 : Int32)) (pc' := 320) at_319 rfl rfl
        have A2101 := A2100.istore (Ls' := #[.val (.long a), .second, .val (.long x), .second, .val (.long z), .second, .val (.int p), .val (.int x0), .val (.int x1), .val (.int x2), .val (.int (2 : Int32)), .val (.int sa), .val (.int li), .val (.ref b54), .val (.ref b160), .val (.ref b1906), .val (.int (-1 : Int32)), .val (.int (0 : Int32)), .val (.int (0 : Int32)), .val (.int (0 : Int32)), .unset, .unset, .unset]) (pc' := 322) at_320 rfl rfl
        have A2102 := A2101.iconst (z := (0 : Int32)) (pc' := 323) at_322 rfl rfl
        have A2103 := A2102.istore (Ls' := #[.val (.long a), .second, .val (.long x), .second, .val (.long z), .second, .val (.int p), .val (.int x0), .val (.int x1), .val (.int x2), .val (.int (2 : Int32)), .val (.int sa), .val (.int li), .val (.ref b54), .val (.ref b160), .val (.ref b1906), .val (.int (-1 : Int32)), .val (.int (0 : Int32)), .val (.int (0 : Int32)), .val (.int (0 : Int32)), .val (.int (0 : Int32)), .unset, .unset]) (pc' := 325) at_323 rfl rfl
        have A2104 := A2103.iload (v := (0 : Int32)) (pc' := 327) at_325 rfl rfl
        have A2106 := A2104.ifYes (pc' := 387) at_327 (teq (ieq (x := (0 : Int32)) (y := (0 : Int32)) rfl rfl (by decide : (0 : Int) = 0))).1 (by decide) (by decide)
        clear kp p0 p2
        have A2107 := A2106.iconst (z := (0 : Int32)) (pc' := 388) at_387 rfl rfl
        have A2108 := A2107.istore (Ls' := #[.val (.long a), .second, .val (.long x), .second, .val (.long z), .second, .val (.int p), .val (.int x0), .val (.int x1), .val (.int x2), .val (.int (2 : Int32)), .val (.int sa), .val (.int li), .val (.ref b54), .val (.ref b160), .val (.ref b1906), .val (.int (-1 : Int32)), .val (.int (0 : Int32)), .val (.int (0 : Int32)), .val (.int (0 : Int32)), .val (.int (0 : Int32)), .val (.int (0 : Int32)), .unset]) (pc' := 390) at_388 rfl rfl
        have A2109 := A2108.iload (v := (0 : Int32)) (pc' := 392) at_390 rfl rfl
        have A2111 := A2109.ifYes (pc' := 405) at_392 (teq (ieq (x := (0 : Int32)) (y := (0 : Int32)) rfl rfl (by decide : (0 : Int) = 0))).1 (by decide) (by decide)
        have A2112 := A2111.iconst (z := (-1 : Int32)) (pc' := 406) at_405 rfl rfl
        have A2113 := A2112.istore (Ls' := #[.val (.long a), .second, .val (.long x), .second, .val (.long z), .second, .val (.int p), .val (.int x0), .val (.int x1), .val (.int x2), .val (.int (2 : Int32)), .val (.int sa), .val (.int li), .val (.ref b54), .val (.ref b160), .val (.ref b1906), .val (.int (-1 : Int32)), .val (.int (0 : Int32)), .val (.int (0 : Int32)), .val (.int (0 : Int32)), .val (.int (0 : Int32)), .val (.int (0 : Int32)), .val (.int (-1 : Int32))]) (pc' := 408) at_406 rfl rfl
        have A2114 := A2113.iload (v := (-1 : Int32)) (pc' := 410) at_408 rfl rfl
        have A2115 := A2114.iload (v := (-1 : Int32)) (pc' := 412) at_410 rfl rfl
        have A2117 := A2115.icmpNo (pc' := 415) at_412 (teq (ieq (x := (-1 : Int32)) (y := (-1 : Int32)) rfl rfl (by decide : ((-1) : Int) = (-1)))).2 rfl
        have A2118 := A2117.iconst (z := (1 : Int32)) (pc' := 416) at_415 rfl rfl
        have A2119 := A2118.goto (pc' := 420) at_416 (by decide) (by decide)
        refine A2119.retN (t := .boolean) (z' := (1 : Int32)) at_420 (by decide) (by decide) (by simp) rfl ⟨_, rfl, ⟨trivial, ?_⟩⟩
        have elit : (1 : Int32).toInt = 1 := rfl
        rfl
set_option maxRecDepth 65536 in
set_option maxHeartbeats 40000000 in
theorem comes_1 {Post : Tables → Env → Array Value → State → Outcome → State → Prop} (hpost : ∀ tb e args s v u, (limb_1_1.after args s (.returned v) u = true ∧ limb_1_2.after args s (.returned v) u = true ∧ True) → FrameEnd s (.returned v) u (Jvm.fieldLocs frame_1_writes args s ++ Jvm.arrayLocs frame_1_arrays args s ++ Jvm.staticLocs frame_1_statics s) 32 192 → Post tb e args s (.returned v) u) :
    ArmFor flags0 classFile x code maxLocals ret World_1 tables_1 room_1 Calls_1 rest_1 Pre_1 Post := by
  intro l hfl _ _ p e ha hc hk s m args below hf hA hF happ hP
  obtain ⟨hcalls, hrest, hpre⟩ := hP
  obtain ⟨-, -, -, hnamed, -, -, -, hat⟩ := (Spec.applies_iff hf).mp happ
  obtain ⟨hg, hn⟩ := and_e (Cond.before_iff.mp (show (Jvm.Cond.and given_1 narrow_1).before args s = true from hpre))
  obtain ⟨g1a, g1b⟩ := and_e hg
  obtain ⟨g2a, g2b⟩ := and_e g1b
  obtain ⟨g3a, g3b⟩ := and_e g2b
  obtain ⟨g4a, g4b⟩ := and_e g3b
  obtain ⟨w0, w1, w2, w3, rfl⟩ : ∃ w0 w1 w2 w3 : Value, args = #[w0, w1, w2, w3] := by
    have hs : args.size = 4 := by simpa [Cond.value, given_1] using g1a
    obtain ⟨L⟩ := args
    match L, hs with
    | [w0, w1, w2, w3], _ => exact ⟨w0, w1, w2, w3, rfl⟩
  have hw := fun d (hd : d ∈ tables_1) => atoms_spec (ws := Jvm.Cond.code x code maxLocals ret :: tables_1) hat d (List.mem_cons_of_mem _ hd)
  obtain ⟨i0, ei0⟩ := isL_v g2a
  obtain rfl : w0 = (.long i0) := Option.some.inj ei0
  obtain ⟨i1, ei1⟩ := isL_v g3a
  obtain rfl : w1 = (.long i1) := Option.some.inj ei1
  obtain ⟨i2, ei2⟩ := isL_v g4a
  obtain rfl : w2 = (.long i2) := Option.some.inj ei2
  obtain ⟨i3, ei3⟩ := is_v g4b
  obtain rfl : w3 = (.int i3) := Option.some.inj ei3
  obtain ⟨hsets, hown0⟩ := atoms_of _ (rest_1_c_eq ▸ (show rest_1_c.before _ s = true from hrest))
  have hs := fun k (w : Jvm.Cond) (e : jdkStatics_1[k]? = some w) => hsets w (List.mem_of_getElem? e)
  obtain ⟨cs, vcs⟩ := is_v (Cond.before_iff.mp (hs 1 _ rfl))
  have Tc := Sta.start vcs (Or.inl (hs 0 _ rfl))
  have ncs : cs.toInt ≠ 0 := own_csne vcs (Cond.before_iff.mp (hs 2 _ rfl))
  obtain ⟨fm, vfm, rfm⟩ := isR_v (Cond.before_iff.mp (hs 8 _ rfl))
  have Tf := Sta.start vfm (Or.inl (hs 7 _ rfl))
  obtain ⟨iso, vi⟩ := exa_v (Cond.before_iff.mp (hs 14 _ rfl))
  obtain ⟨is2, vi2⟩ := exa_v (Cond.before_iff.mp (hs 20 _ rfl))
  obtain ⟨u8, vu⟩ := exa_v (Cond.before_iff.mp (hs 17 _ rfl))
  obtain rfl : is2 = iso := own_same vi vi2 (Cond.before_iff.mp (hs 13 _ rfl))
  have Ti := Sta.start vi (Or.inl (hs 10 _ rfl))
  have Ti2 := Sta.start vi2 (Or.inl (hs 12 _ rfl))
  have Tu := Sta.start vu (Or.inl (hs 16 _ rfl))
  have nu := (Exa.start vi (Cond.before_iff.mp (hs 14 _ rfl))).ne (Exa.start vu (Cond.before_iff.mp (hs 17 _ rfl))) (by decide)
  obtain ⟨n1, hn1⟩ := and_e hn
  obtain ⟨n2, n3⟩ := and_e hn1
  obtain ⟨nb, vn⟩ := exa_v n2
  obtain ⟨cl, An⟩ := Arr.start vn n1
  have En := Exa.start vn n2
  have Tn := Sta.start vn (Or.inr ⟨(hw _ (List.mem_of_getElem? (i := 52) rfl)), (hw _ (List.mem_of_getElem? (i := 98) rfl))⟩)
  have Fn : Ars s s.heap nb .byte 0 (fun _ => (.int (0 : Int32))) := ⟨cl, An, own_len0 vn An n3, by decide, fun j hj => absurd hj (Nat.not_lt_zero j)⟩
  obtain ⟨n, o, h1, h2, h3, _, L, rfl, ⟨N, ⟨r, rfl, hr⟩⟩, hq⟩ := rm0 l s _ hw s.heap.size tables_1 i0 i1 i2 i3 cs fm _ u8 nb s.heap (Nat.le_refl _) (Old.start s) Tc ncs Tf rfm Tu Ti2 nu Ti Tn En Fn p e ha hc hk s m _ below hf ((Spec.applies_iff_loose hf).mp happ).1 ⟨rfl, State.Warmed39.refl s, rfl⟩ trivial
  have hr1 : r = 1 := hr.2
  subst hr1
  refine ⟨n, _, h1, h2, h3, hpost _ _ _ _ _ _ ⟨Cond.after_iff.mpr rfl, Cond.after_iff.mpr (eq_i res_at (Term.int_eval (1)) rfl), trivial⟩ ⟨hq.1, hq.2.1, (hq.2.2.sift fun y hy => Or.inr (N y hy)).mono (by decide) (by decide)⟩⟩
theorem main_1_1 : Claimed_1_1 := comes_1 fun _ _ _ _ _ _ h hF => ⟨h.1, hF⟩
theorem main_1_2 : Claimed_1_2 := comes_1 fun _ _ _ _ _ _ h hF => ⟨h.2.1, hF⟩
end Jvm.Pilot.@@N@@
namespace Jvm.Pilot.@@N@@
open Jvm Jvm.ClassFile Sem Op Lib Jvm.Free Jvm.Stand Jvm.Pilot.@@N@@.Jvm.D
/-! MADE BY PROGRAM (witnessworld.py) out of the Statement's table words and the real class files: 27 classes; the members and pool entries that the words name. The judged class is class 1, her method 3. -/
namespace start1
open Jvm.ClassFile
def u (s : String) : CpInfo := .utf8 (stringToUtf16 s)
/-- a pool by its gaps: so many unusable entries, then the entry; so many at the end -/
def gap : Nat → List CpInfo → List CpInfo
  | 0, r => r
  | n + 1, r => .unusable :: gap n r
def poolList (es : List (Nat × CpInfo)) (last : Nat) : List CpInfo := es.foldr (fun e r => gap e.1 (e.2 :: r)) (gap last [])
def pool (es : List (Nat × CpInfo)) (last : Nat) : Array CpInfo := ⟨poolList es last⟩
def fileOf (pool : Array CpInfo) (this : Nat) (attrs : Array Attribute := #[]) (ms : Array MethodInfo := #[]) (fl : Nat := 33) (sup : Nat := 0) (ifs : Array Nat := #[]) (fds : Array FieldInfo := #[]) : ClassFile where
  minorVersion := 0
  majorVersion := 65
  constantPool := pool
  accessFlags := fl
  thisClass := this
  superClass := sup
  interfaces := ifs
  fields := fds
  methods := ms
  attributes := attrs
def plain (name : String) (sup : Option ClassId) : Class where
  name := name
  kind := .ordinary
  loader := none
  accessFlags := 33
  super := sup
  interfaces := #[]
  cf := none
  fields := #[]
  methods := #[]
  instanceTypes := #[]
  staticTypes := #[]
  resolved := #[]
  callSites := []
  init := .initialized
  statics := none
  mirror := none

def pool0 : Array CpInfo := pool [(5, u "<init>"), (0, u "()V"), (1, .class_ 10), (1, u "java/lang/Object"), (85, u "clone"), (0, u "()Ljava/lang/Object;")] 26

def k0c0 : Code := { maxStack := 0, maxLocals := 1, code := object_method_1_code, exceptionTable := #[], attributes := #[] }
def k0m0 : Method := { name := "<init>", desc := "()V", sig := { parameters := [], returnType := none }, accessFlags := 1, code := some k0c0 }
def k0m1 : Method := { name := "clone", desc := "()Ljava/lang/Object;", sig := { parameters := [], returnType := some (.object "java/lang/Object") }, accessFlags := 260, code := none }
/-- java/lang/Object -/
def k0 : Class := { plain "java/lang/Object" none with
  accessFlags := 33
  interfaces := #[]
  cf := some (fileOf pool0 8 #[] #[{ accessFlags := 1, nameIndex := 5, descriptorIndex := 6, attributes := #[] }, { accessFlags := 260, nameIndex := 96, descriptorIndex := 97, attributes := #[] }] 33 0 #[] #[])
  fields := #[]
  methods := #[k0m0, k0m1]
  instanceTypes := #[]
  staticTypes := #[]
  resolved := Array.replicate 124 none
  statics := none }

def pool1 : Array CpInfo := pool [(2, .class_ 4), (1, u "java/lang/Object"), (0, u "<init>"), (0, u "()V"), (0, .long 255), (1, .methodref 10 11), (0, .class_ 12), (0, .nameAndType 13 14), (0, u "com/example/dialekt/dialekt/json/MemberNamesEndOfPinLaw"), (0, u "pick"), (0, u "(JJICCC)B"), (0, .class_ 16), (0, u "java/lang/String"), (0, .methodref 15 18), (0, .nameAndType 5 19), (0, u "([C)V"), (0, .methodref 15 21), (0, .nameAndType 22 23), (0, u "valueOf"), (0, u "(C)Ljava/lang/String;"), (0, .class_ 25), (0, u "com/example/dialekt/dialekt/json/MemberNames"), (0, .methodref 24 27), (0, .nameAndType 5 28), (0, u "([Ljava/lang/String;)V"), (0, .methodref 24 30), (0, .nameAndType 31 32), (0, u "endOf"), (0, u "(I[BII)I"), (0, .methodref 10 34), (0, .nameAndType 35 36), (0, u "plainChar"), (0, u "(C)Z"), (3, u "law"), (0, u "(JJJI)Z")] 6

def k1m0 : Method := { name := "<init>", desc := "()V", sig := { parameters := [], returnType := none }, accessFlags := 1, code := none }
def k1c1 : Code := { maxStack := 2, maxLocals := 1, code := method_2_code, exceptionTable := #[], attributes := #[] }
def k1m1 : Method := { name := "plainChar", desc := "(C)Z", sig := { parameters := [.char], returnType := some .boolean }, accessFlags := 10, code := some k1c1 }
def k1c2 : Code := { maxStack := 4, maxLocals := 9, code := method_3_code, exceptionTable := #[], attributes := #[] }
def k1m2 : Method := { name := "pick", desc := "(JJICCC)B", sig := { parameters := [.long, .long, .int, .char, .char, .char], returnType := some .byte }, accessFlags := 10, code := some k1c2 }
def k1c3 : Code := { maxStack := 10, maxLocals := 23, code := code, exceptionTable := #[], attributes := #[] }
def k1m3 : Method := { name := "law", desc := "(JJJI)Z", sig := { parameters := [.long, .long, .long, .int], returnType := some .boolean }, accessFlags := 9, code := some k1c3 }
/-- com/example/dialekt/dialekt/json/MemberNamesEndOfPinLaw -/
def k1 : Class := { plain "com/example/dialekt/dialekt/json/MemberNamesEndOfPinLaw" (some 0) with
  accessFlags := 49
  interfaces := #[]
  cf := some (fileOf pool1 10 #[] #[{ accessFlags := 1, nameIndex := 5, descriptorIndex := 6, attributes := #[] }, { accessFlags := 10, nameIndex := 35, descriptorIndex := 36, attributes := #[] }, { accessFlags := 10, nameIndex := 13, descriptorIndex := 14, attributes := #[] }, { accessFlags := 9, nameIndex := 40, descriptorIndex := 41, attributes := #[] }] 49 2 #[] #[])
  fields := #[]
  methods := #[k1m0, k1m1, k1m2, k1m3]
  instanceTypes := #[]
  staticTypes := #[]
  resolved := Array.replicate 48 none
  statics := none }

def pool2 : Array CpInfo := pool [(1, .class_ 2), (0, u "java/io/Serializable"), (0, .class_ 4), (0, u "java/lang/Object")] 2

/-- java/io/Serializable -/
def k2 : Class := { plain "java/io/Serializable" (some 0) with
  accessFlags := 1537
  interfaces := #[]
  cf := some (fileOf pool2 1 #[] #[] 1537 3 #[] #[])
  fields := #[]
  methods := #[]
  instanceTypes := #[]
  staticTypes := #[]
  resolved := Array.replicate 7 none
  statics := none }

def pool3 : Array CpInfo := pool [(1, .class_ 2), (0, u "java/lang/Comparable"), (0, .class_ 4), (0, u "java/lang/Object")] 7

/-- java/lang/Comparable -/
def k3 : Class := { plain "java/lang/Comparable" (some 0) with
  accessFlags := 1537
  interfaces := #[]
  cf := some (fileOf pool3 1 #[] #[] 1537 3 #[] #[])
  fields := #[]
  methods := #[]
  instanceTypes := #[]
  staticTypes := #[]
  resolved := Array.replicate 12 none
  statics := none }

def pool4 : Array CpInfo := pool [(2, .class_ 4), (1, u "java/lang/CharSequence"), (42, .class_ 48), (0, u "java/lang/CharSequence$1CodePointIterator"), (10, .class_ 60), (0, u "java/lang/CharSequence$1CharIterator"), (5, .class_ 67), (0, u "java/lang/Object")] 63

/-- java/lang/CharSequence -/
def k4 : Class := { plain "java/lang/CharSequence" (some 0) with
  accessFlags := 1537
  interfaces := #[]
  cf := some (fileOf pool4 2 #[.nestMembers #[47, 59]] #[] 1537 66 #[] #[])
  fields := #[]
  methods := #[]
  instanceTypes := #[]
  staticTypes := #[]
  resolved := Array.replicate 131 none
  statics := none }

def pool5 : Array CpInfo := pool [(1, .class_ 2), (0, u "java/lang/constant/Constable"), (0, .class_ 4), (0, u "java/lang/Object")] 6

/-- java/lang/constant/Constable -/
def k5 : Class := { plain "java/lang/constant/Constable" (some 0) with
  accessFlags := 1537
  interfaces := #[]
  cf := some (fileOf pool5 1 #[] #[] 1537 3 #[] #[])
  fields := #[]
  methods := #[]
  instanceTypes := #[]
  staticTypes := #[]
  resolved := Array.replicate 11 none
  statics := none }

def pool6 : Array CpInfo := pool [(1, .class_ 2), (0, u "java/lang/constant/ConstantDesc"), (0, .class_ 4), (0, u "java/lang/Object")] 32

/-- java/lang/constant/ConstantDesc -/
def k6 : Class := { plain "java/lang/constant/ConstantDesc" (some 0) with
  accessFlags := 1537
  interfaces := #[]
  cf := some (fileOf pool6 1 #[] #[] 1537 3 #[] #[])
  fields := #[]
  methods := #[]
  instanceTypes := #[]
  staticTypes := #[]
  resolved := Array.replicate 37 none
  statics := none }

def pool7 : Array CpInfo := pool [(1, .methodref 2 3), (0, .class_ 4), (0, .nameAndType 5 6), (0, u "java/lang/Object"), (0, u "<init>"), (0, u "()V"), (2, .fieldref 10 11), (0, .class_ 12), (0, .nameAndType 13 14), (0, u "java/lang/String"), (0, u "value"), (0, u "[B"), (0, .fieldref 10 16), (0, .nameAndType 17 18), (0, u "coder"), (0, u "B"), (2, u "hash"), (0, u "I"), (2, u "hashIsZero"), (0, u "Z"), (0, .methodref 10 28), (0, .nameAndType 5 29), (0, u "([CIILjava/lang/Void;)V"), (8, .fieldref 10 39), (0, .nameAndType 40 26), (0, u "COMPACT_STRINGS"), (1, .class_ 44), (1, u "java/lang/StringUTF16"), (0, u "compress"), (1, .methodref 42 48), (0, .nameAndType 49 50), (0, u "coderFromArrayLen"), (0, u "([BI)B"), (2, u "toBytes"), (32, .fieldref 87 88), (0, .class_ 89), (0, .nameAndType 90 91), (0, u "sun/nio/cs/UTF_8"), (0, u "INSTANCE"), (0, u "Lsun/nio/cs/UTF_8;"), (15, .class_ 109), (1, u "java/lang/StringLatin1"), (6, .fieldref 117 118), (0, .class_ 119), (0, .nameAndType 90 120), (0, u "sun/nio/cs/ISO_8859_1"), (0, u "Lsun/nio/cs/ISO_8859_1;"), (21, u "()Z"), (34, .methodref 42 178), (0, .nameAndType 45 179), (0, u "([CII)[B"), (29, .methodref 10 210), (0, .nameAndType 5 211), (0, u "([BB)V"), (43, u "(B[BZ)[B"), (0, .methodref 10 257), (0, .nameAndType 258 259), (0, u "encode8859_1"), (0, u "(B[B)[B"), (19, .methodref 280 281), (0, .class_ 14), (0, .nameAndType 282 283), (0, u "clone"), (0, u "()Ljava/lang/Object;"), (33, u "encode"), (16, u "()I"), (0, .methodref 10 336), (0, .nameAndType 17 337), (0, u "()B"), (13, .methodref 10 352), (0, .nameAndType 258 255), (10, u "([BI)C"), (5, u "(C)Z"), (21, u "(II)V"), (35, u "(I)C"), (64, .methodref 10 493), (0, .nameAndType 494 142), (0, u "isLatin1"), (0, .methodref 107 496), (0, .nameAndType 497 363), (0, u "charAt"), (3, u "checkIndex"), (5, u "length"), (24, u "getBytes"), (2, .methodref 10 536), (0, .nameAndType 317 537), (0, u "(Ljava/nio/charset/Charset;B[B)[B"), (37, .class_ 576), (0, u "java/lang/CharSequence"), (22, u "CASE_INSENSITIVE_ORDER"), (0, u "Ljava/util/Comparator;"), (181, u "valueOf"), (0, u "(C)Ljava/lang/String;"), (226, u "([C)V"), (4, .methodref 107 1016), (0, .nameAndType 1017 369), (0, u "canEncode"), (0, .methodref 107 1019), (0, .nameAndType 53 1020), (0, u "(C)[B"), (32, .fieldref 1054 1055), (0, .class_ 1056), (0, .nameAndType 1057 1058), (0, u "jdk/internal/util/Preconditions"), (0, u "SIOOBE_FORMATTER"), (0, u "Ljava/util/function/BiFunction;"), (0, .methodref 1054 1060), (0, .nameAndType 501 1061), (0, u "(IILjava/util/function/BiFunction;)I"), (39, u "serialPersistentFields"), (0, u "[Ljava/io/ObjectStreamField;"), (0, .class_ 1104), (0, u "java/lang/String$CaseInsensitiveComparator"), (1, .class_ 1107), (0, u "java/io/Serializable"), (0, .class_ 1109), (0, u "java/lang/Comparable"), (0, .class_ 1111), (0, u "java/lang/constant/Constable"), (0, .class_ 1113), (0, u "java/lang/constant/ConstantDesc"), (2, u "serialVersionUID"), (0, u "J"), (3, u "REPL"), (0, u "C"), (2, u "LATIN1"), (1, u "UTF16"), (117, u "(Ljava/nio/charset/Charset;)[B")] 205

def k7m0 : Method := { name := "<init>", desc := "()V", sig := { parameters := [], returnType := none }, accessFlags := 1, code := none }
def k7c1 : Code := { maxStack := 5, maxLocals := 2, code := jdk_42_method_3_code, exceptionTable := #[], attributes := #[] }
def k7m1 : Method := { name := "<init>", desc := "([C)V", sig := { parameters := [(.array .char)], returnType := none }, accessFlags := 1, code := some k7c1 }
def k7c2 : Code := { maxStack := 4, maxLocals := 3, code := jdk_42_method_18_code, exceptionTable := #[], attributes := #[] }
def k7m2 : Method := { name := "encode", desc := "(Ljava/nio/charset/Charset;B[B)[B", sig := { parameters := [(.object "java/nio/charset/Charset"), .byte, (.array .byte)], returnType := some (.array .byte) }, accessFlags := 10, code := some k7c2 }
def k7c3 : Code := { maxStack := 3, maxLocals := 2, code := jdk_42_method_26_code, exceptionTable := #[], attributes := #[] }
def k7m3 : Method := { name := "encode8859_1", desc := "(B[B)[B", sig := { parameters := [.byte, (.array .byte)], returnType := some (.array .byte) }, accessFlags := 10, code := some k7c3 }
def k7c4 : Code := { maxStack := 5, maxLocals := 10, code := jdk_42_method_27_code, exceptionTable := #[], attributes := #[] }
def k7m4 : Method := { name := "encode8859_1", desc := "(B[BZ)[B", sig := { parameters := [.byte, (.array .byte), .boolean], returnType := some (.array .byte) }, accessFlags := 10, code := some k7c4 }
def k7c5 : Code := { maxStack := 2, maxLocals := 1, code := jdk_42_method_54_code, exceptionTable := #[], attributes := #[] }
def k7m5 : Method := { name := "length", desc := "()I", sig := { parameters := [], returnType := some .int }, accessFlags := 1, code := some k7c5 }
def k7c6 : Code := { maxStack := 2, maxLocals := 2, code := jdk_42_method_56_code, exceptionTable := #[], attributes := #[] }
def k7m6 : Method := { name := "charAt", desc := "(I)C", sig := { parameters := [.int], returnType := some .char }, accessFlags := 1, code := some k7c6 }
def k7c7 : Code := { maxStack := 3, maxLocals := 2, code := jdk_42_method_64_code, exceptionTable := #[], attributes := #[] }
def k7m7 : Method := { name := "getBytes", desc := "(Ljava/nio/charset/Charset;)[B", sig := { parameters := [(.object "java/nio/charset/Charset")], returnType := some (.array .byte) }, accessFlags := 1, code := some k7c7 }
def k7c8 : Code := { maxStack := 4, maxLocals := 1, code := jdk_42_method_139_code, exceptionTable := #[], attributes := #[] }
def k7m8 : Method := { name := "valueOf", desc := "(C)Ljava/lang/String;", sig := { parameters := [.char], returnType := some (.object "java/lang/String") }, accessFlags := 9, code := some k7c8 }
def k7c9 : Code := { maxStack := 4, maxLocals := 6, code := jdk_42_method_149_code, exceptionTable := #[], attributes := #[] }
def k7m9 : Method := { name := "<init>", desc := "([CIILjava/lang/Void;)V", sig := { parameters := [(.array .char), .int, .int, (.object "java/lang/Void")], returnType := none }, accessFlags := 2, code := some k7c9 }
def k7c10 : Code := { maxStack := 2, maxLocals := 3, code := jdk_42_method_151_code, exceptionTable := #[], attributes := #[] }
def k7m10 : Method := { name := "<init>", desc := "([BB)V", sig := { parameters := [(.array .byte), .byte], returnType := none }, accessFlags := 0, code := some k7c10 }
def k7c11 : Code := { maxStack := 1, maxLocals := 1, code := jdk_42_method_152_code, exceptionTable := #[], attributes := #[] }
def k7m11 : Method := { name := "coder", desc := "()B", sig := { parameters := [], returnType := some .byte }, accessFlags := 0, code := some k7c11 }
def k7c12 : Code := { maxStack := 1, maxLocals := 1, code := jdk_42_method_154_code, exceptionTable := #[], attributes := #[] }
def k7m12 : Method := { name := "isLatin1", desc := "()Z", sig := { parameters := [], returnType := some .boolean }, accessFlags := 0, code := some k7c12 }
def k7c13 : Code := { maxStack := 3, maxLocals := 2, code := jdk_42_method_155_code, exceptionTable := #[], attributes := #[] }
def k7m13 : Method := { name := "checkIndex", desc := "(II)V", sig := { parameters := [.int, .int], returnType := none }, accessFlags := 8, code := some k7c13 }
/-- java/lang/String -/
def k7 : Class := { plain "java/lang/String" (some 0) with
  accessFlags := 49
  interfaces := #[2, 3, 4, 5, 6]
  cf := some (fileOf pool7 10 #[.nestMembers #[1103]] #[{ accessFlags := 1, nameIndex := 5, descriptorIndex := 6, attributes := #[] }, { accessFlags := 1, nameIndex := 5, descriptorIndex := 1010, attributes := #[] }, { accessFlags := 10, nameIndex := 317, descriptorIndex := 537, attributes := #[] }, { accessFlags := 10, nameIndex := 258, descriptorIndex := 259, attributes := #[] }, { accessFlags := 10, nameIndex := 258, descriptorIndex := 255, attributes := #[] }, { accessFlags := 1, nameIndex := 507, descriptorIndex := 334, attributes := #[] }, { accessFlags := 1, nameIndex := 497, descriptorIndex := 427, attributes := #[] }, { accessFlags := 1, nameIndex := 532, descriptorIndex := 1245, attributes := #[] }, { accessFlags := 9, nameIndex := 782, descriptorIndex := 783, attributes := #[] }, { accessFlags := 2, nameIndex := 5, descriptorIndex := 29, attributes := #[] }, { accessFlags := 0, nameIndex := 5, descriptorIndex := 211, attributes := #[] }, { accessFlags := 0, nameIndex := 17, descriptorIndex := 337, attributes := #[] }, { accessFlags := 0, nameIndex := 494, descriptorIndex := 142, attributes := #[] }, { accessFlags := 8, nameIndex := 501, descriptorIndex := 391, attributes := #[] }] 49 2 #[1106, 1108, 575, 1110, 1112] #[{ accessFlags := 18, nameIndex := 13, descriptorIndex := 14, attributes := #[] }, { accessFlags := 18, nameIndex := 17, descriptorIndex := 18, attributes := #[] }, { accessFlags := 2, nameIndex := 21, descriptorIndex := 22, attributes := #[] }, { accessFlags := 2, nameIndex := 25, descriptorIndex := 26, attributes := #[] }, { accessFlags := 26, nameIndex := 1116, descriptorIndex := 1117, attributes := #[] }, { accessFlags := 24, nameIndex := 40, descriptorIndex := 26, attributes := #[] }, { accessFlags := 26, nameIndex := 1101, descriptorIndex := 1102, attributes := #[] }, { accessFlags := 26, nameIndex := 1121, descriptorIndex := 1122, attributes := #[] }, { accessFlags := 25, nameIndex := 599, descriptorIndex := 600, attributes := #[] }, { accessFlags := 24, nameIndex := 1125, descriptorIndex := 18, attributes := #[] }, { accessFlags := 24, nameIndex := 1127, descriptorIndex := 18, attributes := #[] }])
  fields := #[{ name := "value", type := (.array .byte), accessFlags := 18, slot := 0, constantValue := 0 }, { name := "coder", type := .byte, accessFlags := 18, slot := 1, constantValue := 0 }, { name := "hash", type := .int, accessFlags := 2, slot := 2, constantValue := 0 }, { name := "hashIsZero", type := .boolean, accessFlags := 2, slot := 3, constantValue := 0 }, { name := "serialVersionUID", type := .long, accessFlags := 26, slot := 0, constantValue := 0 }, { name := "COMPACT_STRINGS", type := .boolean, accessFlags := 24, slot := 1, constantValue := 0 }, { name := "serialPersistentFields", type := (.array (.object "java/io/ObjectStreamField")), accessFlags := 26, slot := 2, constantValue := 0 }, { name := "REPL", type := .char, accessFlags := 26, slot := 3, constantValue := 0 }, { name := "CASE_INSENSITIVE_ORDER", type := (.object "java/util/Comparator"), accessFlags := 25, slot := 4, constantValue := 0 }, { name := "LATIN1", type := .byte, accessFlags := 24, slot := 5, constantValue := 0 }, { name := "UTF16", type := .byte, accessFlags := 24, slot := 6, constantValue := 0 }]
  methods := #[k7m0, k7m1, k7m2, k7m3, k7m4, k7m5, k7m6, k7m7, k7m8, k7m9, k7m10, k7m11, k7m12, k7m13]
  instanceTypes := #[(.array .byte), .byte, .int, .boolean]
  staticTypes := #[.long, .boolean, (.array (.object "java/io/ObjectStreamField")), .char, (.object "java/util/Comparator"), .byte, .byte]
  resolved := Array.replicate 1451 none
  statics := some 0 }

def pool8 : Array CpInfo := pool [(6, .class_ 8), (1, u "java/lang/Object"), (0, u "<init>"), (0, u "()V"), (1, .class_ 14), (1, u "java/lang/StringUTF16"), (31, u "$assertionsDisabled"), (0, u "Z"), (13, u "HI_BYTE_SHIFT"), (0, u "I"), (2, u "LO_BYTE_SHIFT"), (49, .methodref 12 116), (0, .nameAndType 117 118), (0, u "compress"), (0, u "([CI[BII)I"), (3, u "([CII)[B"), (138, u "coderFromArrayLen"), (0, u "([BI)B"), (106, .class_ 371), (1, u "java/lang/StringUTF16$LinesSpliterator"), (58, u "MAX_LENGTH"), (196, .class_ 628), (0, u "java/lang/StringUTF16$CodePointsSpliterator"), (0, .class_ 630), (0, u "java/lang/StringUTF16$CharsSpliterator")] 4

def k8m0 : Method := { name := "<init>", desc := "()V", sig := { parameters := [], returnType := none }, accessFlags := 0, code := none }
def k8c1 : Code := { maxStack := 2, maxLocals := 2, code := jdk_52_method_15_code, exceptionTable := #[], attributes := #[] }
def k8m1 : Method := { name := "coderFromArrayLen", desc := "([BI)B", sig := { parameters := [(.array .byte), .int], returnType := some .byte }, accessFlags := 8, code := some k8c1 }
def k8c2 : Code := { maxStack := 5, maxLocals := 6, code := jdk_52_method_16_code, exceptionTable := #[], attributes := #[] }
def k8m2 : Method := { name := "compress", desc := "([CII)[B", sig := { parameters := [(.array .char), .int, .int], returnType := some (.array .byte) }, accessFlags := 9, code := some k8c2 }
def k8c3 : Code := { maxStack := 3, maxLocals := 7, code := jdk_52_method_21_code, exceptionTable := #[], attributes := #[] }
def k8m3 : Method := { name := "compress", desc := "([CI[BII)I", sig := { parameters := [(.array .char), .int, (.array .byte), .int, .int], returnType := some .int }, accessFlags := 9, code := some k8c3 }
/-- java/lang/StringUTF16 -/
def k8 : Class := { plain "java/lang/StringUTF16" (some 0) with
  accessFlags := 48
  interfaces := #[]
  cf := some (fileOf pool8 12 #[.nestMembers #[627, 629, 369]] #[{ accessFlags := 0, nameIndex := 9, descriptorIndex := 10, attributes := #[] }, { accessFlags := 8, nameIndex := 261, descriptorIndex := 262, attributes := #[] }, { accessFlags := 9, nameIndex := 117, descriptorIndex := 122, attributes := #[] }, { accessFlags := 9, nameIndex := 117, descriptorIndex := 118, attributes := #[] }] 48 6 #[] #[{ accessFlags := 26, nameIndex := 61, descriptorIndex := 62, attributes := #[] }, { accessFlags := 26, nameIndex := 65, descriptorIndex := 62, attributes := #[] }, { accessFlags := 24, nameIndex := 430, descriptorIndex := 62, attributes := #[] }, { accessFlags := 4120, nameIndex := 46, descriptorIndex := 47, attributes := #[] }])
  fields := #[{ name := "HI_BYTE_SHIFT", type := .int, accessFlags := 26, slot := 0, constantValue := 0 }, { name := "LO_BYTE_SHIFT", type := .int, accessFlags := 26, slot := 1, constantValue := 0 }, { name := "MAX_LENGTH", type := .int, accessFlags := 24, slot := 2, constantValue := 0 }, { name := "$assertionsDisabled", type := .boolean, accessFlags := 4120, slot := 3, constantValue := 0 }]
  methods := #[k8m0, k8m1, k8m2, k8m3]
  instanceTypes := #[]
  staticTypes := #[.int, .int, .int, .boolean]
  resolved := Array.replicate 635 none
  statics := none }

def pool9 : Array CpInfo := pool [(1, .class_ 2), (0, u "java/lang/String"), (1, .class_ 6), (1, u "java/lang/Object"), (0, u "<init>"), (0, u "()V"), (0, .methodref 1 10), (0, .nameAndType 11 12), (0, u "checkIndex"), (0, u "(II)V"), (1, .class_ 16), (1, u "java/lang/StringLatin1"), (36, u "([BI)C"), (36, u "canEncode"), (14, u "(C)Z"), (15, u "$assertionsDisabled"), (0, u "Z"), (98, .class_ 223), (1, u "java/lang/StringLatin1$LinesSpliterator"), (28, u "charAt"), (127, u "toBytes"), (1, u "(C)[B"), (7, .class_ 391), (0, u "java/lang/StringLatin1$CharsSpliterator")] 3

def k9m0 : Method := { name := "<init>", desc := "()V", sig := { parameters := [], returnType := none }, accessFlags := 0, code := none }
def k9c1 : Code := { maxStack := 2, maxLocals := 2, code := jdk_43_method_2_code, exceptionTable := #[], attributes := #[] }
def k9m1 : Method := { name := "charAt", desc := "([BI)C", sig := { parameters := [(.array .byte), .int], returnType := some .char }, accessFlags := 9, code := some k9c1 }
def k9c2 : Code := { maxStack := 2, maxLocals := 1, code := jdk_43_method_3_code, exceptionTable := #[], attributes := #[] }
def k9m2 : Method := { name := "canEncode", desc := "(C)Z", sig := { parameters := [.char], returnType := some .boolean }, accessFlags := 9, code := some k9c2 }
def k9c3 : Code := { maxStack := 4, maxLocals := 1, code := jdk_43_method_46_code, exceptionTable := #[], attributes := #[] }
def k9m3 : Method := { name := "toBytes", desc := "(C)[B", sig := { parameters := [.char], returnType := some (.array .byte) }, accessFlags := 9, code := some k9c3 }
/-- java/lang/StringLatin1 -/
def k9 : Class := { plain "java/lang/StringLatin1" (some 0) with
  accessFlags := 48
  interfaces := #[]
  cf := some (fileOf pool9 14 #[.nestMembers #[390, 221]] #[{ accessFlags := 0, nameIndex := 7, descriptorIndex := 8, attributes := #[] }, { accessFlags := 9, nameIndex := 252, descriptorIndex := 53, attributes := #[] }, { accessFlags := 9, nameIndex := 90, descriptorIndex := 105, attributes := #[] }, { accessFlags := 9, nameIndex := 380, descriptorIndex := 382, attributes := #[] }] 48 4 #[] #[{ accessFlags := 4120, nameIndex := 121, descriptorIndex := 122, attributes := #[] }])
  fields := #[{ name := "$assertionsDisabled", type := .boolean, accessFlags := 4120, slot := 0, constantValue := 0 }]
  methods := #[k9m0, k9m1, k9m2, k9m3]
  instanceTypes := #[]
  staticTypes := #[.boolean]
  resolved := Array.replicate 395 none
  statics := none }

def pool10 : Array CpInfo := pool [(1, .methodref 2 3), (0, .class_ 4), (0, .nameAndType 5 6), (0, u "java/lang/Object"), (0, u "<init>"), (0, u "()V"), (0, .fieldref 8 9), (0, .class_ 10), (0, .nameAndType 11 12), (0, u "com/example/dialekt/dialekt/json/MemberNames"), (0, u "names"), (0, u "[Ljava/lang/String;"), (0, .class_ 14), (0, u "[B"), (0, .fieldref 8 16), (0, .nameAndType 17 18), (0, u "plain"), (0, u "[[B"), (0, .fieldref 8 20), (0, .nameAndType 21 22), (0, u "plainLengths"), (0, u "[I"), (0, .methodref 24 25), (0, .class_ 26), (0, .nameAndType 27 28), (0, u "java/lang/String"), (0, u "length"), (0, u "()I"), (0, .methodref 24 30), (0, .nameAndType 31 32), (0, u "charAt"), (0, u "(I)C"), (0, .fieldref 34 35), (0, .class_ 36), (0, .nameAndType 37 38), (0, u "java/nio/charset/StandardCharsets"), (0, u "ISO_8859_1"), (0, u "Ljava/nio/charset/Charset;"), (0, .methodref 24 40), (0, .nameAndType 41 42), (0, u "getBytes"), (0, u "(Ljava/nio/charset/Charset;)[B"), (0, .fieldref 8 44), (0, .nameAndType 45 14), (0, u "NO_BYTES"), (2, .integer 2147483647), (6, u "positions"), (0, u "Lcom/example/dialekt/dialekt/json/MemberNames$Positions;"), (0, .class_ 58), (0, u "com/example/dialekt/dialekt/json/MemberNames$Positions"), (2, u "([Ljava/lang/String;)V"), (30, u "NONE"), (0, u "Lcom/example/dialekt/dialekt/json/MemberNames;"), (0, u "SEARCHED"), (0, u "I"), (12, u "endOf"), (0, u "(I[BII)I")] 10

def k10c0 : Code := { maxStack := 4, maxLocals := 6, code := prog_32_method_1_code, exceptionTable := #[], attributes := #[] }
def k10m0 : Method := { name := "<init>", desc := "([Ljava/lang/String;)V", sig := { parameters := [(.array (.object "java/lang/String"))], returnType := none }, accessFlags := 0, code := some k10c0 }
def k10c1 : Code := { maxStack := 3, maxLocals := 9, code := prog_32_method_6_code, exceptionTable := #[], attributes := #[] }
def k10m1 : Method := { name := "endOf", desc := "(I[BII)I", sig := { parameters := [.int, (.array .byte), .int, .int], returnType := some .int }, accessFlags := 0, code := some k10c1 }
/-- com/example/dialekt/dialekt/json/MemberNames -/
def k10 : Class := { plain "com/example/dialekt/dialekt/json/MemberNames" (some 0) with
  accessFlags := 48
  interfaces := #[]
  cf := some (fileOf pool10 8 #[.nestMembers #[57]] #[{ accessFlags := 0, nameIndex := 5, descriptorIndex := 61, attributes := #[] }, { accessFlags := 0, nameIndex := 108, descriptorIndex := 109, attributes := #[] }] 48 2 #[] #[{ accessFlags := 24, nameIndex := 92, descriptorIndex := 93, attributes := #[] }, { accessFlags := 26, nameIndex := 94, descriptorIndex := 95, attributes := #[] }, { accessFlags := 26, nameIndex := 45, descriptorIndex := 14, attributes := #[] }, { accessFlags := 18, nameIndex := 11, descriptorIndex := 12, attributes := #[] }, { accessFlags := 18, nameIndex := 17, descriptorIndex := 18, attributes := #[] }, { accessFlags := 18, nameIndex := 21, descriptorIndex := 22, attributes := #[] }, { accessFlags := 2, nameIndex := 55, descriptorIndex := 56, attributes := #[] }])
  fields := #[{ name := "NONE", type := (.object "com/example/dialekt/dialekt/json/MemberNames"), accessFlags := 24, slot := 0, constantValue := 0 }, { name := "SEARCHED", type := .int, accessFlags := 26, slot := 1, constantValue := 0 }, { name := "NO_BYTES", type := (.array .byte), accessFlags := 26, slot := 2, constantValue := 0 }, { name := "names", type := (.array (.object "java/lang/String")), accessFlags := 18, slot := 0, constantValue := 0 }, { name := "plain", type := (.array (.array .byte)), accessFlags := 18, slot := 1, constantValue := 0 }, { name := "plainLengths", type := (.array .int), accessFlags := 18, slot := 2, constantValue := 0 }, { name := "positions", type := (.object "com/example/dialekt/dialekt/json/MemberNames$Positions"), accessFlags := 2, slot := 3, constantValue := 0 }]
  methods := #[k10m0, k10m1]
  instanceTypes := #[(.array (.object "java/lang/String")), (.array (.array .byte)), (.array .int), (.object "com/example/dialekt/dialekt/json/MemberNames$Positions")]
  staticTypes := #[(.object "com/example/dialekt/dialekt/json/MemberNames"), .int, (.array .byte)]
  resolved := Array.replicate 120 none
  statics := some 7 }

def pool11 : Array CpInfo := pool [(2, .class_ 4), (1, u "java/lang/Object"), (0, u "<init>"), (0, u "()V"), (17, .class_ 26), (1, u "jdk/internal/util/Preconditions"), (6, u "checkIndex"), (21, .class_ 56), (0, u "jdk/internal/util/Preconditions$4"), (57, .class_ 115), (0, u "jdk/internal/util/Preconditions$1"), (7, u "SIOOBE_FORMATTER"), (0, u "Ljava/util/function/BiFunction;"), (0, .class_ 126), (0, u "jdk/internal/util/Preconditions$2"), (3, u "AIOOBE_FORMATTER"), (0, .class_ 132), (0, u "jdk/internal/util/Preconditions$3"), (3, u "IOOBE_FORMATTER"), (41, u "(IILjava/util/function/BiFunction;)I")] 15

def k11m0 : Method := { name := "<init>", desc := "()V", sig := { parameters := [], returnType := none }, accessFlags := 1, code := none }
def k11c1 : Code := { maxStack := 3, maxLocals := 3, code := jdk_41_method_11_code, exceptionTable := #[], attributes := #[] }
def k11m1 : Method := { name := "checkIndex", desc := "(IILjava/util/function/BiFunction;)I", sig := { parameters := [.int, .int, (.object "java/util/function/BiFunction")], returnType := some .int }, accessFlags := 9, code := some k11c1 }
/-- jdk/internal/util/Preconditions -/
def k11 : Class := { plain "jdk/internal/util/Preconditions" (some 0) with
  accessFlags := 33
  interfaces := #[]
  cf := some (fileOf pool11 24 #[.nestMembers #[55, 131, 125, 114]] #[{ accessFlags := 1, nameIndex := 5, descriptorIndex := 6, attributes := #[] }, { accessFlags := 9, nameIndex := 33, descriptorIndex := 178, attributes := #[] }] 33 2 #[] #[{ accessFlags := 25, nameIndex := 123, descriptorIndex := 124, attributes := #[] }, { accessFlags := 25, nameIndex := 130, descriptorIndex := 124, attributes := #[] }, { accessFlags := 25, nameIndex := 136, descriptorIndex := 124, attributes := #[] }])
  fields := #[{ name := "SIOOBE_FORMATTER", type := (.object "java/util/function/BiFunction"), accessFlags := 25, slot := 0, constantValue := 0 }, { name := "AIOOBE_FORMATTER", type := (.object "java/util/function/BiFunction"), accessFlags := 25, slot := 1, constantValue := 0 }, { name := "IOOBE_FORMATTER", type := (.object "java/util/function/BiFunction"), accessFlags := 25, slot := 2, constantValue := 0 }]
  methods := #[k11m0, k11m1]
  instanceTypes := #[]
  staticTypes := #[(.object "java/util/function/BiFunction"), (.object "java/util/function/BiFunction"), (.object "java/util/function/BiFunction")]
  resolved := Array.replicate 194 none
  statics := some 1 }

def pool12 : Array CpInfo := pool [(2, .class_ 4), (1, u "java/lang/Object"), (0, u "<init>"), (0, u "()V"), (14, .class_ 23), (1, u "java/nio/charset/StandardCharsets"), (0, u "US_ASCII"), (0, u "Ljava/nio/charset/Charset;"), (7, u "ISO_8859_1"), (7, u "UTF_8"), (5, u "UTF_16BE"), (5, u "UTF_16LE"), (5, u "UTF_16")] 8

def k12m0 : Method := { name := "<init>", desc := "()V", sig := { parameters := [], returnType := none }, accessFlags := 2, code := none }
/-- java/nio/charset/StandardCharsets -/
def k12 : Class := { plain "java/nio/charset/StandardCharsets" (some 0) with
  accessFlags := 49
  interfaces := #[]
  cf := some (fileOf pool12 21 #[] #[{ accessFlags := 2, nameIndex := 5, descriptorIndex := 6, attributes := #[] }] 49 2 #[] #[{ accessFlags := 25, nameIndex := 24, descriptorIndex := 25, attributes := #[] }, { accessFlags := 25, nameIndex := 33, descriptorIndex := 25, attributes := #[] }, { accessFlags := 25, nameIndex := 41, descriptorIndex := 25, attributes := #[] }, { accessFlags := 25, nameIndex := 47, descriptorIndex := 25, attributes := #[] }, { accessFlags := 25, nameIndex := 53, descriptorIndex := 25, attributes := #[] }, { accessFlags := 25, nameIndex := 59, descriptorIndex := 25, attributes := #[] }])
  fields := #[{ name := "US_ASCII", type := (.object "java/nio/charset/Charset"), accessFlags := 25, slot := 0, constantValue := 0 }, { name := "ISO_8859_1", type := (.object "java/nio/charset/Charset"), accessFlags := 25, slot := 1, constantValue := 0 }, { name := "UTF_8", type := (.object "java/nio/charset/Charset"), accessFlags := 25, slot := 2, constantValue := 0 }, { name := "UTF_16BE", type := (.object "java/nio/charset/Charset"), accessFlags := 25, slot := 3, constantValue := 0 }, { name := "UTF_16LE", type := (.object "java/nio/charset/Charset"), accessFlags := 25, slot := 4, constantValue := 0 }, { name := "UTF_16", type := (.object "java/nio/charset/Charset"), accessFlags := 25, slot := 5, constantValue := 0 }]
  methods := #[k12m0]
  instanceTypes := #[]
  staticTypes := #[(.object "java/nio/charset/Charset"), (.object "java/nio/charset/Charset"), (.object "java/nio/charset/Charset"), (.object "java/nio/charset/Charset"), (.object "java/nio/charset/Charset"), (.object "java/nio/charset/Charset")]
  resolved := Array.replicate 68 none
  statics := some 2 }

def pool13 : Array CpInfo := pool [(18, .class_ 20), (1, u "java/nio/charset/Charset"), (0, u "cache1"), (0, u "[Ljava/lang/Object;"), (2, u "cache2"), (0, .class_ 27), (0, u "java/lang/Object"), (0, .class_ 29), (0, u "java/nio/charset/Charset$1"), (4, .class_ 36), (1, u "java/nio/charset/Charset$ThreadTrackHolder"), (21, .class_ 59), (0, u "java/nio/charset/Charset$2"), (11, .class_ 73), (1, u "java/nio/charset/Charset$ExtendedProviderHolder"), (22, u "standardProvider"), (0, u "Ljava/nio/charset/spi/CharsetProvider;"), (29, u "name"), (7, .class_ 136), (0, u "java/nio/charset/Charset$3"), (5, u "defaultCharset"), (0, u "Ljava/nio/charset/Charset;"), (14, u "zeroAliases"), (0, u "[Ljava/lang/String;"), (29, u "Ljava/lang/String;"), (2, u "aliases"), (2, u "aliasSet"), (0, u "Ljava/util/Set;"), (82, .class_ 280), (0, u "java/lang/Comparable"), (84, .class_ 366), (0, u "java/nio/charset/Charset$ExtendedProviderHolder$1")] 3

/-- java/nio/charset/Charset -/
def k13 : Class := { plain "java/nio/charset/Charset" (some 0) with
  accessFlags := 1057
  interfaces := #[3]
  cf := some (fileOf pool13 18 #[.nestMembers #[71, 365, 34, 135, 58, 28]] #[] 1057 26 #[279] #[{ accessFlags := 26, nameIndex := 96, descriptorIndex := 97, attributes := #[] }, { accessFlags := 26, nameIndex := 158, descriptorIndex := 159, attributes := #[] }, { accessFlags := 74, nameIndex := 21, descriptorIndex := 22, attributes := #[] }, { accessFlags := 74, nameIndex := 25, descriptorIndex := 22, attributes := #[] }, { accessFlags := 10, nameIndex := 142, descriptorIndex := 143, attributes := #[] }, { accessFlags := 18, nameIndex := 127, descriptorIndex := 189, attributes := #[] }, { accessFlags := 18, nameIndex := 192, descriptorIndex := 159, attributes := #[] }, { accessFlags := 2, nameIndex := 195, descriptorIndex := 196, attributes := #[] }])
  fields := #[{ name := "standardProvider", type := (.object "java/nio/charset/spi/CharsetProvider"), accessFlags := 26, slot := 0, constantValue := 0 }, { name := "zeroAliases", type := (.array (.object "java/lang/String")), accessFlags := 26, slot := 1, constantValue := 0 }, { name := "cache1", type := (.array (.object "java/lang/Object")), accessFlags := 74, slot := 2, constantValue := 0 }, { name := "cache2", type := (.array (.object "java/lang/Object")), accessFlags := 74, slot := 3, constantValue := 0 }, { name := "defaultCharset", type := (.object "java/nio/charset/Charset"), accessFlags := 10, slot := 4, constantValue := 0 }, { name := "name", type := (.object "java/lang/String"), accessFlags := 18, slot := 0, constantValue := 0 }, { name := "aliases", type := (.array (.object "java/lang/String")), accessFlags := 18, slot := 1, constantValue := 0 }, { name := "aliasSet", type := (.object "java/util/Set"), accessFlags := 2, slot := 2, constantValue := 0 }]
  methods := #[]
  instanceTypes := #[(.object "java/lang/String"), (.array (.object "java/lang/String")), (.object "java/util/Set")]
  staticTypes := #[(.object "java/nio/charset/spi/CharsetProvider"), (.array (.object "java/lang/String")), (.array (.object "java/lang/Object")), (.array (.object "java/lang/Object")), (.object "java/nio/charset/Charset")]
  resolved := Array.replicate 370 none
  statics := none }

def pool14 : Array CpInfo := pool [(1, .class_ 2), (0, u "sun/nio/cs/HistoricallyNamedCharset"), (0, .class_ 4), (0, u "java/lang/Object")] 4

/-- sun/nio/cs/HistoricallyNamedCharset -/
def k14 : Class := { plain "sun/nio/cs/HistoricallyNamedCharset" (some 0) with
  accessFlags := 1537
  interfaces := #[]
  cf := some (fileOf pool14 1 #[] #[] 1537 3 #[] #[])
  fields := #[]
  methods := #[]
  instanceTypes := #[]
  staticTypes := #[]
  resolved := Array.replicate 9 none
  statics := none }

def pool15 : Array CpInfo := pool [(2, .class_ 4), (1, u "java/nio/charset/Charset"), (130, .class_ 136), (0, u "sun/nio/cs/Unicode"), (0, .class_ 138), (0, u "sun/nio/cs/HistoricallyNamedCharset")] 15

/-- sun/nio/cs/Unicode -/
def k15 : Class := { plain "sun/nio/cs/Unicode" (some 13) with
  accessFlags := 1056
  interfaces := #[14]
  cf := some (fileOf pool15 135 #[] #[] 1056 2 #[137] #[])
  fields := #[]
  methods := #[]
  instanceTypes := #[(.object "java/lang/String"), (.array (.object "java/lang/String")), (.object "java/util/Set")]
  staticTypes := #[]
  resolved := Array.replicate 154 none
  statics := none }

def pool16 : Array CpInfo := pool [(10, .class_ 12), (1, u "sun/nio/cs/Unicode"), (0, u "<init>"), (3, .class_ 18), (0, u "sun/nio/cs/UTF_8$Decoder"), (3, .class_ 23), (0, u "sun/nio/cs/UTF_8$Encoder"), (15, .class_ 40), (0, u "sun/nio/cs/UTF_8"), (2, u "()V"), (2, u "INSTANCE"), (0, u "Lsun/nio/cs/UTF_8;"), (8, u "JLA"), (0, u "Ljdk/internal/access/JavaLangAccess;")] 26

def k16m0 : Method := { name := "<init>", desc := "()V", sig := { parameters := [], returnType := none }, accessFlags := 1, code := none }
/-- sun/nio/cs/UTF_8 -/
def k16 : Class := { plain "sun/nio/cs/UTF_8" (some 15) with
  accessFlags := 49
  interfaces := #[]
  cf := some (fileOf pool16 39 #[.nestMembers #[22, 17]] #[{ accessFlags := 1, nameIndex := 13, descriptorIndex := 43, attributes := #[] }] 49 10 #[] #[{ accessFlags := 25, nameIndex := 46, descriptorIndex := 47, attributes := #[] }, { accessFlags := 26, nameIndex := 56, descriptorIndex := 57, attributes := #[] }])
  fields := #[{ name := "INSTANCE", type := (.object "sun/nio/cs/UTF_8"), accessFlags := 25, slot := 0, constantValue := 0 }, { name := "JLA", type := (.object "jdk/internal/access/JavaLangAccess"), accessFlags := 26, slot := 1, constantValue := 0 }]
  methods := #[k16m0]
  instanceTypes := #[(.object "java/lang/String"), (.array (.object "java/lang/String")), (.object "java/util/Set")]
  staticTypes := #[(.object "sun/nio/cs/UTF_8"), (.object "jdk/internal/access/JavaLangAccess")]
  resolved := Array.replicate 84 none
  statics := some 3 }

def pool17 : Array CpInfo := pool [(10, .class_ 12), (1, u "java/nio/charset/Charset"), (0, u "<init>"), (5, .class_ 20), (0, u "sun/nio/cs/ISO_8859_1"), (0, .class_ 22), (0, u "sun/nio/cs/ISO_8859_1$Decoder"), (3, .class_ 27), (0, u "sun/nio/cs/ISO_8859_1$Encoder"), (3, u "()V"), (2, u "INSTANCE"), (0, u "Lsun/nio/cs/ISO_8859_1;"), (0, .class_ 37), (0, u "sun/nio/cs/HistoricallyNamedCharset")] 22

def k17m0 : Method := { name := "<init>", desc := "()V", sig := { parameters := [], returnType := none }, accessFlags := 1, code := none }
/-- sun/nio/cs/ISO_8859_1 -/
def k17 : Class := { plain "sun/nio/cs/ISO_8859_1" (some 13) with
  accessFlags := 33
  interfaces := #[14]
  cf := some (fileOf pool17 19 #[.nestMembers #[26, 21]] #[{ accessFlags := 1, nameIndex := 13, descriptorIndex := 31, attributes := #[] }] 33 10 #[36] #[{ accessFlags := 25, nameIndex := 34, descriptorIndex := 35, attributes := #[] }])
  fields := #[{ name := "INSTANCE", type := (.object "sun/nio/cs/ISO_8859_1"), accessFlags := 25, slot := 0, constantValue := 0 }]
  methods := #[k17m0]
  instanceTypes := #[(.object "java/lang/String"), (.array (.object "java/lang/String")), (.object "java/util/Set")]
  staticTypes := #[(.object "sun/nio/cs/ISO_8859_1")]
  resolved := Array.replicate 60 none
  statics := some 4 }

def pool18 : Array CpInfo := pool [(1, .class_ 2), (0, u "java/lang/Cloneable"), (0, .class_ 4), (0, u "java/lang/Object")] 2

/-- java/lang/Cloneable -/
def k18 : Class := { plain "java/lang/Cloneable" (some 0) with
  accessFlags := 1537
  interfaces := #[]
  cf := some (fileOf pool18 1 #[] #[] 1537 3 #[] #[])
  fields := #[]
  methods := #[]
  instanceTypes := #[]
  staticTypes := #[]
  resolved := Array.replicate 7 none
  statics := none }

def pool19 : Array CpInfo := pool [(9, u "<init>"), (6, .class_ 18), (1, u "java/lang/Object"), (0, u "()V"), (1, .class_ 23), (1, u "jdk/internal/util/ArraysSupport"), (0, u "LOG2_ARRAY_LONG_INDEX_SCALE"), (0, u "I"), (2, u "U"), (0, u "Ljdk/internal/misc/Unsafe;"), (8, u "BIG_ENDIAN"), (0, u "Z"), (8, u "LOG2_BYTE_BIT_SIZE"), (4, u "LOG2_ARRAY_INT_INDEX_SCALE"), (54, u "JLA"), (0, u "Ljdk/internal/access/JavaLangAccess;"), (11, u "LOG2_ARRAY_BOOLEAN_INDEX_SCALE"), (9, u "LOG2_ARRAY_BYTE_INDEX_SCALE"), (5, u "LOG2_ARRAY_CHAR_INDEX_SCALE"), (5, u "LOG2_ARRAY_SHORT_INDEX_SCALE"), (18, u "LOG2_ARRAY_FLOAT_INDEX_SCALE"), (24, u "LOG2_ARRAY_DOUBLE_INDEX_SCALE"), (89, u "T_BOOLEAN"), (2, u "T_CHAR"), (1, u "T_FLOAT"), (1, u "T_DOUBLE"), (1, u "T_BYTE"), (1, u "T_SHORT"), (1, u "T_INT"), (1, u "T_LONG"), (1, u "SOFT_MAX_ARRAY_LENGTH")] 83

def k19m0 : Method := { name := "<init>", desc := "()V", sig := { parameters := [], returnType := none }, accessFlags := 2, code := none }
/-- jdk/internal/util/ArraysSupport -/
def k19 : Class := { plain "jdk/internal/util/ArraysSupport" (some 0) with
  accessFlags := 33
  interfaces := #[]
  cf := some (fileOf pool19 21 #[] #[{ accessFlags := 2, nameIndex := 9, descriptorIndex := 19, attributes := #[] }] 33 16 #[] #[{ accessFlags := 24, nameIndex := 28, descriptorIndex := 29, attributes := #[] }, { accessFlags := 26, nameIndex := 38, descriptorIndex := 39, attributes := #[] }, { accessFlags := 25, nameIndex := 121, descriptorIndex := 25, attributes := #[] }, { accessFlags := 25, nameIndex := 131, descriptorIndex := 25, attributes := #[] }, { accessFlags := 25, nameIndex := 137, descriptorIndex := 25, attributes := #[] }, { accessFlags := 25, nameIndex := 143, descriptorIndex := 25, attributes := #[] }, { accessFlags := 25, nameIndex := 53, descriptorIndex := 25, attributes := #[] }, { accessFlags := 25, nameIndex := 24, descriptorIndex := 25, attributes := #[] }, { accessFlags := 25, nameIndex := 162, descriptorIndex := 25, attributes := #[] }, { accessFlags := 25, nameIndex := 187, descriptorIndex := 25, attributes := #[] }, { accessFlags := 26, nameIndex := 48, descriptorIndex := 25, attributes := #[] }, { accessFlags := 25, nameIndex := 277, descriptorIndex := 25, attributes := #[] }, { accessFlags := 25, nameIndex := 280, descriptorIndex := 25, attributes := #[] }, { accessFlags := 25, nameIndex := 282, descriptorIndex := 25, attributes := #[] }, { accessFlags := 25, nameIndex := 284, descriptorIndex := 25, attributes := #[] }, { accessFlags := 25, nameIndex := 286, descriptorIndex := 25, attributes := #[] }, { accessFlags := 25, nameIndex := 288, descriptorIndex := 25, attributes := #[] }, { accessFlags := 25, nameIndex := 290, descriptorIndex := 25, attributes := #[] }, { accessFlags := 25, nameIndex := 292, descriptorIndex := 25, attributes := #[] }, { accessFlags := 26, nameIndex := 108, descriptorIndex := 109, attributes := #[] }, { accessFlags := 25, nameIndex := 294, descriptorIndex := 25, attributes := #[] }])
  fields := #[{ name := "U", type := (.object "jdk/internal/misc/Unsafe"), accessFlags := 24, slot := 0, constantValue := 0 }, { name := "BIG_ENDIAN", type := .boolean, accessFlags := 26, slot := 1, constantValue := 0 }, { name := "LOG2_ARRAY_BOOLEAN_INDEX_SCALE", type := .int, accessFlags := 25, slot := 2, constantValue := 0 }, { name := "LOG2_ARRAY_BYTE_INDEX_SCALE", type := .int, accessFlags := 25, slot := 3, constantValue := 0 }, { name := "LOG2_ARRAY_CHAR_INDEX_SCALE", type := .int, accessFlags := 25, slot := 4, constantValue := 0 }, { name := "LOG2_ARRAY_SHORT_INDEX_SCALE", type := .int, accessFlags := 25, slot := 5, constantValue := 0 }, { name := "LOG2_ARRAY_INT_INDEX_SCALE", type := .int, accessFlags := 25, slot := 6, constantValue := 0 }, { name := "LOG2_ARRAY_LONG_INDEX_SCALE", type := .int, accessFlags := 25, slot := 7, constantValue := 0 }, { name := "LOG2_ARRAY_FLOAT_INDEX_SCALE", type := .int, accessFlags := 25, slot := 8, constantValue := 0 }, { name := "LOG2_ARRAY_DOUBLE_INDEX_SCALE", type := .int, accessFlags := 25, slot := 9, constantValue := 0 }, { name := "LOG2_BYTE_BIT_SIZE", type := .int, accessFlags := 26, slot := 10, constantValue := 0 }, { name := "T_BOOLEAN", type := .int, accessFlags := 25, slot := 11, constantValue := 0 }, { name := "T_CHAR", type := .int, accessFlags := 25, slot := 12, constantValue := 0 }, { name := "T_FLOAT", type := .int, accessFlags := 25, slot := 13, constantValue := 0 }, { name := "T_DOUBLE", type := .int, accessFlags := 25, slot := 14, constantValue := 0 }, { name := "T_BYTE", type := .int, accessFlags := 25, slot := 15, constantValue := 0 }, { name := "T_SHORT", type := .int, accessFlags := 25, slot := 16, constantValue := 0 }, { name := "T_INT", type := .int, accessFlags := 25, slot := 17, constantValue := 0 }, { name := "T_LONG", type := .int, accessFlags := 25, slot := 18, constantValue := 0 }, { name := "JLA", type := (.object "jdk/internal/access/JavaLangAccess"), accessFlags := 26, slot := 19, constantValue := 0 }, { name := "SOFT_MAX_ARRAY_LENGTH", type := .int, accessFlags := 25, slot := 20, constantValue := 0 }]
  methods := #[k19m0]
  instanceTypes := #[]
  staticTypes := #[(.object "jdk/internal/misc/Unsafe"), .boolean, .int, .int, .int, .int, .int, .int, .int, .int, .int, .int, .int, .int, .int, .int, .int, .int, .int, (.object "jdk/internal/access/JavaLangAccess"), .int]
  resolved := Array.replicate 378 none
  statics := none }

/-- the primitive byte -/
def k20 : Class := { plain "byte" none with kind := .primitive 'B', accessFlags := 0x411 }
/-- [B -/
def k21 : Class := { plain "[B" (some 0) with kind := .array 20 .byte, interfaces := #[18, 2], accessFlags := 1041 }

/-- the primitive char -/
def k22 : Class := { plain "char" none with kind := .primitive 'C', accessFlags := 0x411 }
/-- [C -/
def k23 : Class := { plain "[C" (some 0) with kind := .array 22 .char, interfaces := #[18, 2], accessFlags := 1041 }

/-- the primitive int -/
def k24 : Class := { plain "int" none with kind := .primitive 'I', accessFlags := 0x411 }
/-- [I -/
def k25 : Class := { plain "[I" (some 0) with kind := .array 24 .int, interfaces := #[18, 2], accessFlags := 1041 }

/-- [Ljava/lang/String; -/
def k26 : Class := { plain "[Ljava/lang/String;" (some 0) with kind := .array 7 (.object "java/lang/String"), interfaces := #[18, 2], accessFlags := 1041 }

/-- [[B -/
def k27 : Class := { plain "[[B" (some 0) with kind := .array 21 (.array .byte), interfaces := #[18, 2], accessFlags := 1041 }

def heap : Heap := #[{ cls := 7, slots := #[.long 0, .int 1, .null, .int 0, .null, .int 0, .int 0], vm := .statics 7 },
  { cls := 11, slots := #[.null, .null, .null], vm := .statics 11 },
  { cls := 12, slots := #[.null, .ref 5, .null, .null, .null, .null], vm := .statics 12 },
  { cls := 16, slots := #[.ref 6, .null], vm := .statics 16 },
  { cls := 17, slots := #[.ref 5], vm := .statics 17 },
  { cls := 17, slots := #[.null, .null, .null], vm := .none },
  { cls := 16, slots := #[.null, .null, .null], vm := .none },
  { cls := 10, slots := #[.null, .int 0, .ref 8], vm := .statics 10 },
  { cls := 21, slots := #[], vm := .none }]
def classes : Array Class := #[k0, k1, k2, k3, k4, k5, k6, k7, k8, k9, k10, k11, k12, k13, k14, k15, k16, k17, k18, k19, k20, k21, k22, k23, k24, k25, k26, k27]
def interned : List (Array UInt16 × Addr) := []
def slotsUsed : Nat := 28
def theMethod : MethodId := ⟨1, 3⟩
def args0 : Array Value := #[.long 5, .long 5, .long 5, .int 5]
def aboutOver (below : List Frame) : State where
  vm := { classes := classes, interned := interned.toArray }
  heap := heap
  slotsUsed := slotsUsed
  threads := #[{ frames := .invoking theMethod args0 :: below }]
def below0 : List Frame := [.native { method := ⟨0, 0⟩, args := #[] }]
def about1 : State := aboutOver below0
def p0 : Program := .bare "" "" ""
def e0 : Env := launch0.env 0 0 0
theorem w_frames : about1.frames = Frame.invoking theMethod args0 :: below0 := rfl
set_option maxRecDepth 65536 in
theorem w_args : argsFit about1.vm theMethod args0 = true := by decide +kernel
set_option maxRecDepth 65536 in
theorem w_heap : heapFits about1 = true := by decide +kernel
set_option maxRecDepth 65536 in
theorem w_runnable : about1.curStatus? = some .runnable := by decide +kernel
set_option maxRecDepth 65536 in
theorem w_alone : about1.alone = true := by decide +kernel
set_option maxRecDepth 65536 in
theorem w_named : about1.methodNamed? x = some theMethod := by decide +kernel
set_option maxRecDepth 65536 in
theorem w_hears : about1.hears theMethod below0 = true := by decide +kernel
set_option maxRecDepth 65536 in
theorem w_ripe : about1.ripe theMethod args0 below0 = true := by decide +kernel
theorem w_running : about1.status = .running := rfl
set_option maxRecDepth 65536 in
theorem w_room : about1.hasRoom e0.platform room_1 = true :=
  launch0.hasRoom_least _ room_1 (by decide +kernel) (by decide +kernel) (by decide +kernel) (by decide +kernel) (by decide +kernel) (by decide +kernel)
theorem allAtoms_all (ts : List Jvm.Cond) (a : Array Jvm.Value) (st : Jvm.State) : (allAtoms ts).before a st = ts.all (fun c => c.before a st) := by
  induction ts with
  | nil => rfl
  | cons c t ih =>
    show (Jvm.Cond.and c (allAtoms t)).before a st = _
    rw [Jvm.Cond.before_and, ih, List.all_cons]
def words1 : List Jvm.Cond := Jvm.Cond.code x code maxLocals ret :: tables_1
/-- a 'code' word, met by the world's own term for the bytes: nothing is compared byte by byte -/
theorem code_word {y : MethodName} {bytes : ByteArray} {mx : Nat} {rt : Option FieldType} {a : Array Value} {s : State} {m : MethodId} {meth : Method} {c : Code} (h1 : s.methodNamed? y = some m) (h2 : s.vm.method? m = some meth) (h3 : meth.code = some c) (h4 : c.code = bytes)
    (h5 : (c.maxLocals == mx && c.exceptionTable.isEmpty && decide (c.maxStack ≤ mostOperands) && decide (meth.sig.returnType = rt) && !meth.locks && decide (parseMethodDescriptor y.desc = some meth.sig)) = true) : (Jvm.Cond.code y bytes mx rt).before a s = true := by
  simp only [Bool.and_eq_true, beq_iff_eq, Bool.not_eq_true', decide_eq_true_eq] at h5
  obtain ⟨⟨⟨⟨⟨g1, g2⟩, g3⟩, g4⟩, g5⟩, g6⟩ := h5
  simp [Cond.before, Cond.holds, Cond.value, h1, h2, h3, h4, g1, g2, g3, g4, g5, g6]
def isCode : Jvm.Cond → Bool
  | .code _ _ _ _ => true
  | _ => false
theorem all_split {L : List Jvm.Cond} {P : Jvm.Cond → Bool} (h1 : L.all (fun c => isCode c || P c) = true) (h2 : ∀ c ∈ L.filter isCode, P c = true) : L.all P = true := by
  refine List.all_eq_true.mpr fun c hc => ?_
  have h := List.all_eq_true.mp h1 c hc
  rcases Bool.eq_false_or_eq_true (isCode c) with hi | hi
  · exact h2 c (List.mem_filter.mpr ⟨hc, hi⟩)
  · simpa [hi] using h
set_option maxRecDepth 65536 in
theorem w_c0 : (Jvm.Cond.code x code maxLocals ret).before args0 about1 = true := code_word (m := ⟨1, 3⟩) (meth := k1m3) (c := k1c3) (by decide +kernel) rfl rfl rfl (by decide +kernel)
set_option maxRecDepth 65536 in
theorem w_c1 : (Jvm.Cond.code ({ cls := "com/example/dialekt/dialekt/json/MemberNamesEndOfPinLaw", name := "pick", desc := "(JJICCC)B" } : Jvm.MethodName) method_3_code (9 : Nat) (Option.some Jvm.ClassFile.FieldType.byte)).before args0 about1 = true := code_word (m := ⟨1, 2⟩) (meth := k1m2) (c := k1c2) (by decide +kernel) rfl rfl rfl (by decide +kernel)
set_option maxRecDepth 65536 in
theorem w_c2 : (Jvm.Cond.code ({ cls := "java/lang/String", name := "<init>", desc := "([C)V" } : Jvm.MethodName) jdk_42_method_3_code (2 : Nat) (Option.none : Option Jvm.ClassFile.FieldType)).before args0 about1 = true := code_word (m := ⟨7, 1⟩) (meth := k7m1) (c := k7c1) (by decide +kernel) rfl rfl rfl (by decide +kernel)
set_option maxRecDepth 65536 in
theorem w_c3 : (Jvm.Cond.code ({ cls := "java/lang/String", name := "<init>", desc := "([CIILjava/lang/Void;)V" } : Jvm.MethodName) jdk_42_method_149_code (6 : Nat) (Option.none : Option Jvm.ClassFile.FieldType)).before args0 about1 = true := code_word (m := ⟨7, 9⟩) (meth := k7m9) (c := k7c9) (by decide +kernel) rfl rfl rfl (by decide +kernel)
set_option maxRecDepth 65536 in
theorem w_c4 : (Jvm.Cond.code ({ cls := "java/lang/Object", name := "<init>", desc := "()V" } : Jvm.MethodName) object_method_1_code (1 : Nat) (Option.none : Option Jvm.ClassFile.FieldType)).before args0 about1 = true := code_word (m := ⟨0, 0⟩) (meth := k0m0) (c := k0c0) (by decide +kernel) rfl rfl rfl (by decide +kernel)
set_option maxRecDepth 65536 in
theorem w_c5 : (Jvm.Cond.code ({ cls := "java/lang/StringUTF16", name := "compress", desc := "([CII)[B" } : Jvm.MethodName) jdk_52_method_16_code (6 : Nat) (Option.some (Jvm.ClassFile.FieldType.array Jvm.ClassFile.FieldType.byte))).before args0 about1 = true := code_word (m := ⟨8, 2⟩) (meth := k8m2) (c := k8c2) (by decide +kernel) rfl rfl rfl (by decide +kernel)
set_option maxRecDepth 65536 in
theorem w_c6 : (Jvm.Cond.code ({ cls := "java/lang/StringUTF16", name := "compress", desc := "([CI[BII)I" } : Jvm.MethodName) jdk_52_method_21_code (7 : Nat) (Option.some Jvm.ClassFile.FieldType.int)).before args0 about1 = true := code_word (m := ⟨8, 3⟩) (meth := k8m3) (c := k8c3) (by decide +kernel) rfl rfl rfl (by decide +kernel)
set_option maxRecDepth 65536 in
theorem w_c7 : (Jvm.Cond.code ({ cls := "java/lang/StringUTF16", name := "coderFromArrayLen", desc := "([BI)B" } : Jvm.MethodName) jdk_52_method_15_code (2 : Nat) (Option.some Jvm.ClassFile.FieldType.byte)).before args0 about1 = true := code_word (m := ⟨8, 1⟩) (meth := k8m1) (c := k8c1) (by decide +kernel) rfl rfl rfl (by decide +kernel)
set_option maxRecDepth 65536 in
theorem w_c8 : (Jvm.Cond.code ({ cls := "java/lang/String", name := "valueOf", desc := "(C)Ljava/lang/String;" } : Jvm.MethodName) jdk_42_method_139_code (1 : Nat) (Option.some (Jvm.ClassFile.FieldType.object "java/lang/String"))).before args0 about1 = true := code_word (m := ⟨7, 8⟩) (meth := k7m8) (c := k7c8) (by decide +kernel) rfl rfl rfl (by decide +kernel)
set_option maxRecDepth 65536 in
theorem w_c9 : (Jvm.Cond.code ({ cls := "java/lang/StringLatin1", name := "canEncode", desc := "(C)Z" } : Jvm.MethodName) jdk_43_method_3_code (1 : Nat) (Option.some Jvm.ClassFile.FieldType.boolean)).before args0 about1 = true := code_word (m := ⟨9, 2⟩) (meth := k9m2) (c := k9c2) (by decide +kernel) rfl rfl rfl (by decide +kernel)
set_option maxRecDepth 65536 in
theorem w_c10 : (Jvm.Cond.code ({ cls := "java/lang/StringLatin1", name := "toBytes", desc := "(C)[B" } : Jvm.MethodName) jdk_43_method_46_code (1 : Nat) (Option.some (Jvm.ClassFile.FieldType.array Jvm.ClassFile.FieldType.byte))).before args0 about1 = true := code_word (m := ⟨9, 3⟩) (meth := k9m3) (c := k9c3) (by decide +kernel) rfl rfl rfl (by decide +kernel)
set_option maxRecDepth 65536 in
theorem w_c11 : (Jvm.Cond.code ({ cls := "java/lang/String", name := "<init>", desc := "([BB)V" } : Jvm.MethodName) jdk_42_method_151_code (3 : Nat) (Option.none : Option Jvm.ClassFile.FieldType)).before args0 about1 = true := code_word (m := ⟨7, 10⟩) (meth := k7m10) (c := k7c10) (by decide +kernel) rfl rfl rfl (by decide +kernel)
set_option maxRecDepth 65536 in
theorem w_c12 : (Jvm.Cond.code ({ cls := "com/example/dialekt/dialekt/json/MemberNames", name := "<init>", desc := "([Ljava/lang/String;)V" } : Jvm.MethodName) prog_32_method_1_code (6 : Nat) (Option.none : Option Jvm.ClassFile.FieldType)).before args0 about1 = true := code_word (m := ⟨10, 0⟩) (meth := k10m0) (c := k10c0) (by decide +kernel) rfl rfl rfl (by decide +kernel)
set_option maxRecDepth 65536 in
theorem w_c13 : (Jvm.Cond.code ({ cls := "java/lang/String", name := "length", desc := "()I" } : Jvm.MethodName) jdk_42_method_54_code (1 : Nat) (Option.some Jvm.ClassFile.FieldType.int)).before args0 about1 = true := code_word (m := ⟨7, 5⟩) (meth := k7m5) (c := k7c5) (by decide +kernel) rfl rfl rfl (by decide +kernel)
set_option maxRecDepth 65536 in
theorem w_c14 : (Jvm.Cond.code ({ cls := "java/lang/String", name := "coder", desc := "()B" } : Jvm.MethodName) jdk_42_method_152_code (1 : Nat) (Option.some Jvm.ClassFile.FieldType.byte)).before args0 about1 = true := code_word (m := ⟨7, 11⟩) (meth := k7m11) (c := k7c11) (by decide +kernel) rfl rfl rfl (by decide +kernel)
set_option maxRecDepth 65536 in
theorem w_c15 : (Jvm.Cond.code ({ cls := "java/lang/String", name := "charAt", desc := "(I)C" } : Jvm.MethodName) jdk_42_method_56_code (2 : Nat) (Option.some Jvm.ClassFile.FieldType.char)).before args0 about1 = true := code_word (m := ⟨7, 6⟩) (meth := k7m6) (c := k7c6) (by decide +kernel) rfl rfl rfl (by decide +kernel)
set_option maxRecDepth 65536 in
theorem w_c16 : (Jvm.Cond.code ({ cls := "java/lang/String", name := "isLatin1", desc := "()Z" } : Jvm.MethodName) jdk_42_method_154_code (1 : Nat) (Option.some Jvm.ClassFile.FieldType.boolean)).before args0 about1 = true := code_word (m := ⟨7, 12⟩) (meth := k7m12) (c := k7c12) (by decide +kernel) rfl rfl rfl (by decide +kernel)
set_option maxRecDepth 65536 in
theorem w_c17 : (Jvm.Cond.code ({ cls := "java/lang/StringLatin1", name := "charAt", desc := "([BI)C" } : Jvm.MethodName) jdk_43_method_2_code (2 : Nat) (Option.some Jvm.ClassFile.FieldType.char)).before args0 about1 = true := code_word (m := ⟨9, 1⟩) (meth := k9m1) (c := k9c1) (by decide +kernel) rfl rfl rfl (by decide +kernel)
set_option maxRecDepth 65536 in
theorem w_c18 : (Jvm.Cond.code ({ cls := "java/lang/String", name := "checkIndex", desc := "(II)V" } : Jvm.MethodName) jdk_42_method_155_code (2 : Nat) (Option.none : Option Jvm.ClassFile.FieldType)).before args0 about1 = true := code_word (m := ⟨7, 13⟩) (meth := k7m13) (c := k7c13) (by decide +kernel) rfl rfl rfl (by decide +kernel)
set_option maxRecDepth 65536 in
theorem w_c19 : (Jvm.Cond.code ({ cls := "jdk/internal/util/Preconditions", name := "checkIndex", desc := "(IILjava/util/function/BiFunction;)I" } : Jvm.MethodName) jdk_41_method_11_code (3 : Nat) (Option.some Jvm.ClassFile.FieldType.int)).before args0 about1 = true := code_word (m := ⟨11, 1⟩) (meth := k11m1) (c := k11c1) (by decide +kernel) rfl rfl rfl (by decide +kernel)
set_option maxRecDepth 65536 in
theorem w_c20 : (Jvm.Cond.code ({ cls := "com/example/dialekt/dialekt/json/MemberNames", name := "endOf", desc := "(I[BII)I" } : Jvm.MethodName) prog_32_method_6_code (9 : Nat) (Option.some Jvm.ClassFile.FieldType.int)).before args0 about1 = true := code_word (m := ⟨10, 1⟩) (meth := k10m1) (c := k10c1) (by decide +kernel) rfl rfl rfl (by decide +kernel)
set_option maxRecDepth 65536 in
theorem w_c21 : (Jvm.Cond.code ({ cls := "com/example/dialekt/dialekt/json/MemberNamesEndOfPinLaw", name := "plainChar", desc := "(C)Z" } : Jvm.MethodName) method_2_code (1 : Nat) (Option.some Jvm.ClassFile.FieldType.boolean)).before args0 about1 = true := code_word (m := ⟨1, 1⟩) (meth := k1m1) (c := k1c1) (by decide +kernel) rfl rfl rfl (by decide +kernel)
set_option maxRecDepth 65536 in
theorem w_c22 : (Jvm.Cond.code ({ cls := "java/lang/String", name := "getBytes", desc := "(Ljava/nio/charset/Charset;)[B" } : Jvm.MethodName) jdk_42_method_64_code (2 : Nat) (Option.some (Jvm.ClassFile.FieldType.array Jvm.ClassFile.FieldType.byte))).before args0 about1 = true := code_word (m := ⟨7, 7⟩) (meth := k7m7) (c := k7c7) (by decide +kernel) rfl rfl rfl (by decide +kernel)
set_option maxRecDepth 65536 in
theorem w_c23 : (Jvm.Cond.code ({ cls := "java/lang/String", name := "encode", desc := "(Ljava/nio/charset/Charset;B[B)[B" } : Jvm.MethodName) jdk_42_method_18_code (3 : Nat) (Option.some (Jvm.ClassFile.FieldType.array Jvm.ClassFile.FieldType.byte))).before args0 about1 = true := code_word (m := ⟨7, 2⟩) (meth := k7m2) (c := k7c2) (by decide +kernel) rfl rfl rfl (by decide +kernel)
set_option maxRecDepth 65536 in
theorem w_c24 : (Jvm.Cond.code ({ cls := "java/lang/String", name := "encode8859_1", desc := "(B[B)[B" } : Jvm.MethodName) jdk_42_method_26_code (2 : Nat) (Option.some (Jvm.ClassFile.FieldType.array Jvm.ClassFile.FieldType.byte))).before args0 about1 = true := code_word (m := ⟨7, 3⟩) (meth := k7m3) (c := k7c3) (by decide +kernel) rfl rfl rfl (by decide +kernel)
set_option maxRecDepth 65536 in
theorem w_c25 : (Jvm.Cond.code ({ cls := "java/lang/String", name := "encode8859_1", desc := "(B[BZ)[B" } : Jvm.MethodName) jdk_42_method_27_code (10 : Nat) (Option.some (Jvm.ClassFile.FieldType.array Jvm.ClassFile.FieldType.byte))).before args0 about1 = true := code_word (m := ⟨7, 4⟩) (meth := k7m4) (c := k7c4) (by decide +kernel) rfl rfl rfl (by decide +kernel)
def codes1 : List Jvm.Cond := [Jvm.Cond.code x code maxLocals ret, Jvm.Cond.code ({ cls := "com/example/dialekt/dialekt/json/MemberNamesEndOfPinLaw", name := "pick", desc := "(JJICCC)B" } : Jvm.MethodName) method_3_code (9 : Nat) (Option.some Jvm.ClassFile.FieldType.byte), Jvm.Cond.code ({ cls := "java/lang/String", name := "<init>", desc := "([C)V" } : Jvm.MethodName) jdk_42_method_3_code (2 : Nat) (Option.none : Option Jvm.ClassFile.FieldType), Jvm.Cond.code ({ cls := "java/lang/String", name := "<init>", desc := "([CIILjava/lang/Void;)V" } : Jvm.MethodName) jdk_42_method_149_code (6 : Nat) (Option.none : Option Jvm.ClassFile.FieldType), Jvm.Cond.code ({ cls := "java/lang/Object", name := "<init>", desc := "()V" } : Jvm.MethodName) object_method_1_code (1 : Nat) (Option.none : Option Jvm.ClassFile.FieldType), Jvm.Cond.code ({ cls := "java/lang/StringUTF16", name := "compress", desc := "([CII)[B" } : Jvm.MethodName) jdk_52_method_16_code (6 : Nat) (Option.some (Jvm.ClassFile.FieldType.array Jvm.ClassFile.FieldType.byte)), Jvm.Cond.code ({ cls := "java/lang/StringUTF16", name := "compress", desc := "([CI[BII)I" } : Jvm.MethodName) jdk_52_method_21_code (7 : Nat) (Option.some Jvm.ClassFile.FieldType.int), Jvm.Cond.code ({ cls := "java/lang/StringUTF16", name := "coderFromArrayLen", desc := "([BI)B" } : Jvm.MethodName) jdk_52_method_15_code (2 : Nat) (Option.some Jvm.ClassFile.FieldType.byte), Jvm.Cond.code ({ cls := "java/lang/String", name := "valueOf", desc := "(C)Ljava/lang/String;" } : Jvm.MethodName) jdk_42_method_139_code (1 : Nat) (Option.some (Jvm.ClassFile.FieldType.object "java/lang/String")), Jvm.Cond.code ({ cls := "java/lang/StringLatin1", name := "canEncode", desc := "(C)Z" } : Jvm.MethodName) jdk_43_method_3_code (1 : Nat) (Option.some Jvm.ClassFile.FieldType.boolean), Jvm.Cond.code ({ cls := "java/lang/StringLatin1", name := "toBytes", desc := "(C)[B" } : Jvm.MethodName) jdk_43_method_46_code (1 : Nat) (Option.some (Jvm.ClassFile.FieldType.array Jvm.ClassFile.FieldType.byte)), Jvm.Cond.code ({ cls := "java/lang/String", name := "<init>", desc := "([BB)V" } : Jvm.MethodName) jdk_42_method_151_code (3 : Nat) (Option.none : Option Jvm.ClassFile.FieldType), Jvm.Cond.code ({ cls := "com/example/dialekt/dialekt/json/MemberNames", name := "<init>", desc := "([Ljava/lang/String;)V" } : Jvm.MethodName) prog_32_method_1_code (6 : Nat) (Option.none : Option Jvm.ClassFile.FieldType), Jvm.Cond.code ({ cls := "java/lang/String", name := "length", desc := "()I" } : Jvm.MethodName) jdk_42_method_54_code (1 : Nat) (Option.some Jvm.ClassFile.FieldType.int), Jvm.Cond.code ({ cls := "java/lang/String", name := "coder", desc := "()B" } : Jvm.MethodName) jdk_42_method_152_code (1 : Nat) (Option.some Jvm.ClassFile.FieldType.byte), Jvm.Cond.code ({ cls := "java/lang/String", name := "charAt", desc := "(I)C" } : Jvm.MethodName) jdk_42_method_56_code (2 : Nat) (Option.some Jvm.ClassFile.FieldType.char), Jvm.Cond.code ({ cls := "java/lang/String", name := "isLatin1", desc := "()Z" } : Jvm.MethodName) jdk_42_method_154_code (1 : Nat) (Option.some Jvm.ClassFile.FieldType.boolean), Jvm.Cond.code ({ cls := "java/lang/StringLatin1", name := "charAt", desc := "([BI)C" } : Jvm.MethodName) jdk_43_method_2_code (2 : Nat) (Option.some Jvm.ClassFile.FieldType.char), Jvm.Cond.code ({ cls := "java/lang/String", name := "checkIndex", desc := "(II)V" } : Jvm.MethodName) jdk_42_method_155_code (2 : Nat) (Option.none : Option Jvm.ClassFile.FieldType), Jvm.Cond.code ({ cls := "jdk/internal/util/Preconditions", name := "checkIndex", desc := "(IILjava/util/function/BiFunction;)I" } : Jvm.MethodName) jdk_41_method_11_code (3 : Nat) (Option.some Jvm.ClassFile.FieldType.int), Jvm.Cond.code ({ cls := "com/example/dialekt/dialekt/json/MemberNames", name := "endOf", desc := "(I[BII)I" } : Jvm.MethodName) prog_32_method_6_code (9 : Nat) (Option.some Jvm.ClassFile.FieldType.int), Jvm.Cond.code ({ cls := "com/example/dialekt/dialekt/json/MemberNamesEndOfPinLaw", name := "plainChar", desc := "(C)Z" } : Jvm.MethodName) method_2_code (1 : Nat) (Option.some Jvm.ClassFile.FieldType.boolean), Jvm.Cond.code ({ cls := "java/lang/String", name := "getBytes", desc := "(Ljava/nio/charset/Charset;)[B" } : Jvm.MethodName) jdk_42_method_64_code (2 : Nat) (Option.some (Jvm.ClassFile.FieldType.array Jvm.ClassFile.FieldType.byte)), Jvm.Cond.code ({ cls := "java/lang/String", name := "encode", desc := "(Ljava/nio/charset/Charset;B[B)[B" } : Jvm.MethodName) jdk_42_method_18_code (3 : Nat) (Option.some (Jvm.ClassFile.FieldType.array Jvm.ClassFile.FieldType.byte)), Jvm.Cond.code ({ cls := "java/lang/String", name := "encode8859_1", desc := "(B[B)[B" } : Jvm.MethodName) jdk_42_method_26_code (2 : Nat) (Option.some (Jvm.ClassFile.FieldType.array Jvm.ClassFile.FieldType.byte)), Jvm.Cond.code ({ cls := "java/lang/String", name := "encode8859_1", desc := "(B[BZ)[B" } : Jvm.MethodName) jdk_42_method_27_code (10 : Nat) (Option.some (Jvm.ClassFile.FieldType.array Jvm.ClassFile.FieldType.byte))]
set_option maxRecDepth 65536 in
theorem codes_eq : words1.filter isCode = codes1 := rfl
theorem w_codes : ∀ c ∈ words1.filter isCode, c.before args0 about1 = true := by
  rw [codes_eq]
  intro c hc
  simp only [codes1, List.mem_cons, List.not_mem_nil, or_false] at hc
  rcases hc with rfl | rfl | rfl | rfl | rfl | rfl | rfl | rfl | rfl | rfl | rfl | rfl | rfl | rfl | rfl | rfl | rfl | rfl | rfl | rfl | rfl | rfl | rfl | rfl | rfl | rfl
  · exact w_c0
  · exact w_c1
  · exact w_c2
  · exact w_c3
  · exact w_c4
  · exact w_c5
  · exact w_c6
  · exact w_c7
  · exact w_c8
  · exact w_c9
  · exact w_c10
  · exact w_c11
  · exact w_c12
  · exact w_c13
  · exact w_c14
  · exact w_c15
  · exact w_c16
  · exact w_c17
  · exact w_c18
  · exact w_c19
  · exact w_c20
  · exact w_c21
  · exact w_c22
  · exact w_c23
  · exact w_c24
  · exact w_c25
set_option maxRecDepth 65536 in
theorem w_t1 : (words1.take 24).all (fun c => isCode c || c.before args0 about1) = true := by decide +kernel
set_option maxRecDepth 65536 in
theorem w_t2 : ((words1.drop 24).take 24).all (fun c => isCode c || c.before args0 about1) = true := by decide +kernel
set_option maxRecDepth 65536 in
theorem w_t3 : (((words1.drop 24).drop 24).take 24).all (fun c => isCode c || c.before args0 about1) = true := by decide +kernel
set_option maxRecDepth 65536 in
theorem w_t4 : ((((words1.drop 24).drop 24).drop 24).take 24).all (fun c => isCode c || c.before args0 about1) = true := by decide +kernel
set_option maxRecDepth 65536 in
theorem w_t5 : (((((words1.drop 24).drop 24).drop 24).drop 24).take 24).all (fun c => isCode c || c.before args0 about1) = true := by decide +kernel
set_option maxRecDepth 65536 in
theorem w_t6 : (((((words1.drop 24).drop 24).drop 24).drop 24).drop 24).all (fun c => isCode c || c.before args0 about1) = true := by decide +kernel
theorem w_tables : (allAtoms (Jvm.Cond.code x code maxLocals ret :: tables_1)).before args0 about1 = true := by
  rw [allAtoms_all]
  show words1.all (fun c => c.before args0 about1) = true
  refine all_split ?_ w_codes
  rw [← List.take_append_drop 24 words1, List.all_append, w_t1, ← List.take_append_drop 24 (words1.drop 24), List.all_append, w_t2, ← List.take_append_drop 24 ((words1.drop 24).drop 24), List.all_append, w_t3, ← List.take_append_drop 24 (((words1.drop 24).drop 24).drop 24), List.all_append, w_t4, ← List.take_append_drop 24 ((((words1.drop 24).drop 24).drop 24).drop 24), List.all_append, w_t5, w_t6]
  rfl
set_option maxRecDepth 65536 in
theorem w_rest : rest_1_c.before args0 about1 = true := by decide +kernel
set_option maxRecDepth 65536 in
theorem w_case : (Jvm.Cond.and given_1 narrow_1).before args0 about1 = true := by decide +kernel
theorem w_applies : (headSpec (Jvm.Cond.code x code maxLocals ret :: tables_1) room_1).applies x e0.platform about1 = true :=
  (Spec.applies_iff w_frames).mpr ⟨w_running, w_runnable, w_alone, w_named, w_hears, w_ripe, w_room, w_tables⟩
theorem atStart : AtStart classFile x code maxLocals ret World_1 tables_1 room_1 Calls_1 rest_1 Pre_1 launch0 p0 e0 about1 theMethod args0 below0 :=
  ⟨lists_1, trivial, launch0.admits_env _ _ _, launch0.least_env, fairChoices_fair.cas, fairChoices_fair.clock, w_frames, w_args, w_heap, w_applies, trivial, w_rest, w_case⟩
end start1
theorem witness_1 : WitnessClaimed_1 := ⟨start1.p0, start1.e0, start1.about1, start1.theMethod, start1.args0, start1.below0, start1.atStart⟩
end Jvm.Pilot.@@N@@
