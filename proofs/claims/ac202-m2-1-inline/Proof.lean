import JvmDerived
import JvmDerived.Pilot.@@N@@Statement
import JvmDerived.Pilot.@@N@@Code
set_option linter.unusedVariables false
set_option linter.unusedSimpArgs false
namespace Jvm.Pilot.@@N@@
open Jvm Jvm.ClassFile Sem Op Lib Jvm.Free Jvm.Stand Jvm.LawKit Jvm.RoadKit Bundle Jvm.Pilot.@@N@@.Jvm.D
/-! A. where a walk stands: W; what a body owes: Gl; a body's contract: Ctr -/
abbrev Cx := Program × Env × State × MethodId × Array Value × List Frame × Method × Code × State
def W (l : Launch) (Z : State) (n0 : Nat) (y : MethodName) (bytes : ByteArray) (maxl : Nat) (ret : Option FieldType) (R : Room) (G : Cx) (h : Heap) (pc : Nat) (Ls : Array Slot) (St : List Value) (cells slots : Nat) : Prop :=
  match G with
  | (p, e, s, m, args, below, meth, c, st) =>
    p.tables.exec = Jvm.exec ∧ Z.Warmed39 s.vm ∧ c.code = bytes ∧ c.maxLocals = maxl ∧ s.vm.findClass y.cls = some m.cls ∧ meth.name = y.name ∧ meth.sig.returnType = ret ∧ meth.locks = false ∧ n0 ≤ s.heap.size ∧
    ∃ (T : State) (locs : List Loc), Stand p l e R s m args below meth c T locs cells slots ∧ Fr n0 locs ∧ T.heap = h ∧ ∀ t, Steps p.tables e below (T.setTop (mkF m pc Ls St)) t → Steps p.tables e below st t
def Gl (R : Room) (n0 : Nat) (G : Cx) (Q : Option Value → Heap → Prop) : Prop :=
  match G with
  | (p, e, s, m, args, below, meth, c, st) => ∃ s₂ o, Steps p.tables e below st s₂ ∧ s₂.status = .running ∧ Ended s₂ below o ∧ ∃ v L, o = .returned v ∧ (Fr n0 L ∧ Q v s₂.heap) ∧ FrameEnd s o s₂ L R.cells R.slots
def Ctr (l : Launch) (Z : State) (n0 : Nat) (y : MethodName) (bytes : ByteArray) (maxl : Nat) (ret : Option FieldType) (ws : List Jvm.Cond) (R : Room) (as : Array Value) (h0 : Heap) (Q : Option Value → Heap → Prop) : Prop :=
  MetFree l y (head1 (Jvm.Cond.code y bytes maxl ret :: ws) R) (fun a U => a = as ∧ Z.Warmed39 U.vm ∧ U.heap = h0) (fun _ _ _ _ _ => True) (fun _ U o U' => ∃ v L, o = .returned v ∧ (Fr n0 L ∧ Q v U'.heap) ∧ FrameEnd U o U' L R.cells R.slots)
def QI (P : Int32 → Heap → Prop) (v : Option Value) (h : Heap) : Prop := ∃ r, v = some (.int r) ∧ P r h
def QJ (P : Int64 → Heap → Prop) (v : Option Value) (h : Heap) : Prop := ∃ r, v = some (.long r) ∧ P r h
def QA (P : Addr → Heap → Prop) (v : Option Value) (h : Heap) : Prop := ∃ r, v = some (.ref r) ∧ P r h
def QV (P : Heap → Prop) (v : Option Value) (h : Heap) : Prop := v = none ∧ P h
theorem ilt {x y : Int32} {a b : Int} (ha : x.toInt = a) (hb : y.toInt = b) (h : a < b) : x < y := by subst ha hb; exact Int32.lt_iff_toInt_lt.mpr h
theorem inlt {x y : Int32} {a b : Int} (ha : x.toInt = a) (hb : y.toInt = b) (h : ¬ a < b) : ¬ x < y := by subst ha hb; exact fun q => h (Int32.lt_iff_toInt_lt.mp q)
theorem igt {x y : Int32} {a b : Int} (ha : x.toInt = a) (hb : y.toInt = b) (h : b < a) : y < x := ilt hb ha h
theorem ingt {x y : Int32} {a b : Int} (ha : x.toInt = a) (hb : y.toInt = b) (h : ¬ b < a) : ¬ y < x := inlt hb ha h
theorem ieq {x y : Int32} {a b : Int} (ha : x.toInt = a) (hb : y.toInt = b) (h : a = b) : x = y := by subst ha hb; exact Int32.toInt_inj.mp h
theorem ine {x y : Int32} {a b : Int} (ha : x.toInt = a) (hb : y.toInt = b) (h : ¬ a = b) : ¬ x = y := by subst ha hb; exact fun q => h (Int32.toInt_inj.mpr q)
theorem llt {x y : Int64} {a b : Int} (ha : x.toInt = a) (hb : y.toInt = b) (h : a < b) : lcmpW x y < 0 := by subst ha hb; exact (lw_lt _ _).mpr (Int64.lt_iff_toInt_lt.mpr h)
theorem lnlt {x y : Int64} {a b : Int} (ha : x.toInt = a) (hb : y.toInt = b) (h : ¬ a < b) : ¬ lcmpW x y < 0 := by subst ha hb; exact fun q => h (Int64.lt_iff_toInt_lt.mp ((lw_lt _ _).mp q))
theorem lgt {x y : Int64} {a b : Int} (ha : x.toInt = a) (hb : y.toInt = b) (h : b < a) : 0 < lcmpW x y := by subst ha hb; exact (lw_gt _ _).mpr (Int64.lt_iff_toInt_lt.mpr h)
theorem lngt {x y : Int64} {a b : Int} (ha : x.toInt = a) (hb : y.toInt = b) (h : ¬ b < a) : ¬ 0 < lcmpW x y := by subst ha hb; exact fun q => h (Int64.lt_iff_toInt_lt.mp ((lw_gt _ _).mp q))
theorem leq {x y : Int64} {a b : Int} (ha : x.toInt = a) (hb : y.toInt = b) (h : a = b) : lcmpW x y = 0 := by subst ha hb; exact (lw_eq _ _).mpr (Int64.toInt_inj.mp h)
theorem lne {x y : Int64} {a b : Int} (ha : x.toInt = a) (hb : y.toInt = b) (h : ¬ a = b) : ¬ lcmpW x y = 0 := by subst ha hb; exact fun q => h (Int64.toInt_inj.mpr ((lw_eq _ _).mp q))
def Two (s t : Slot) : Prop := (s = .unset ∧ t = .unset) ∨ ∃ q : Int64, s = .val (.long q) ∧ t = .second
section Walk
variable {l : Launch} {Z : State} {n0 : Nat} {y : MethodName} {bytes : ByteArray} {maxl : Nat} {ret : Option FieldType} {R : Room} {G : Cx} {h : Heap} {pc pc' : Nat} {Ls : Array Slot} {St : List Value} {C S C' S' : Nat} {Q : Option Value → Heap → Prop} {a0 : Array Value}
theorem W.mk {p : Program} {e : Env} {s : State} {m : MethodId} {args : Array Value} {below : List Frame} {meth : Method} {c : Code} {st : State} {T : State} {locs : List Loc} (hx : p.tables.exec = Jvm.exec) (hZ : Z.Warmed39 s.vm) (hby : c.code = bytes) (hml : c.maxLocals = maxl) (hown : s.vm.findClass y.cls = some m.cls) (hnm : meth.name = y.name) (hrt : meth.sig.returnType = ret) (hlk : meth.locks = false) (hn0 : n0 ≤ s.heap.size)
    (X : Stand p l e R s m args below meth c T locs C S) (N : Fr n0 locs) (eT : T.heap = h) (k : ∀ t, Steps p.tables e below (T.setTop (mkF m pc Ls St)) t → Steps p.tables e below st t) : W l Z n0 y bytes maxl ret R (p, e, s, m, args, below, meth, c, st) h pc Ls St C S :=
  show _ ∧ _ from ⟨hx, hZ, hby, hml, hown, hnm, hrt, hlk, hn0, T, locs, X, N, eT, k⟩
theorem ctr_of {ws : List Jvm.Cond} {as : Array Value} (hpn : plainFor y = true) (hn0 : n0 ≤ h.size) (hef : ∀ m, entryFrame m as maxl = mkF m 0 Ls []) (body : ∀ G, W l Z n0 y bytes maxl ret R G h 0 Ls [] 0 0 → Gl R n0 G Q) : Ctr l Z n0 y bytes maxl ret ws R as h Q := by
  refine MetFree.of_bodySF hpn hisR ?_
  intro p e s m args below meth c s₁ Bd hml0 hP hK
  obtain ⟨rfl, hZ, hh⟩ := hP
  have e0 : s₁.heap = h := by rw [← hh, Bd.state]; rfl
  exact body (p, e, s, m, args, below, meth, c, s₁.setTop (entryFrame m args maxl)) (W.mk Bd.exec hZ Bd.bytes hml0 (findClass_of_methodNamed Bd.named) (name_of_methodNamed Bd.named Bd.method).1 Bd.returns (BodyLoose.notSynchronized Bd) (hh ▸ hn0) (Stand.of_body Bd) (Fr.nil n0) e0 (fun t k => castTop (hef m) k))
theorem W.size (A : W l Z n0 y bytes maxl ret R G h pc Ls St C S) : n0 ≤ h.size := by
  obtain ⟨p, e, s, m, args, below, meth, c, st⟩ := G
  obtain ⟨hx, hZ, hby, hml, hown, hnm, hrt, hlk, hn0, T, locs, X, N, eT, k⟩ := A
  exact Nat.le_trans hn0 (by rw [← eT]; exact X.same.2.1)
theorem W.more (A : W l Z n0 y bytes maxl ret R G h pc Ls St C S) (hC : C ≤ C') (hS : S ≤ S') : W l Z n0 y bytes maxl ret R G h pc Ls St C' S' := by
  obtain ⟨p, e, s, m, args, below, meth, c, st⟩ := G
  obtain ⟨hx, hZ, hby, hml, hown, hnm, hrt, hlk, hn0, T, locs, X, N, eT, k⟩ := A
  exact W.mk hx hZ hby hml hown hnm hrt hlk hn0 (X.more hC hS) N eT k
theorem W.cast {Ls' : Array Slot} {St' : List Value} (A : W l Z n0 y bytes maxl ret R G h pc Ls St C S) (hp : pc = pc') (hL : Ls = Ls') (hSt : St = St') : W l Z n0 y bytes maxl ret R G h pc' Ls' St' C S := by subst hp hL hSt; exact A
theorem W.topI {x z : Int32} (A : W l Z n0 y bytes maxl ret R G h pc Ls (.int x :: St) C S) (q : x = z) : W l Z n0 y bytes maxl ret R G h pc Ls (.int z :: St) C S := q ▸ A
theorem W.topJ {x z : Int64} (A : W l Z n0 y bytes maxl ret R G h pc Ls (.long x :: St) C S) (q : x = z) : W l Z n0 y bytes maxl ret R G h pc Ls (.long z :: St) C S := q ▸ A
/-- a plain step -/
theorem W.step (A : W l Z n0 y bytes maxl ret R G h pc Ls St C S) {Ls' : Array Slot} {St' : List Value}
    (f : ∀ {p : Program} {e : Env} {s : State} {m : MethodId} {args : Array Value} {below : List Frame} {meth : Method} {c : Code} {T t : State} {locs : List Loc}, Stand p l e R s m args below meth c T locs C S → p.tables.exec = Jvm.exec → Z.Warmed39 s.vm → s.vm.findClass y.cls = some m.cls → c.code = bytes → T.heap = h → Steps p.tables e below (T.setTop (mkF m pc' Ls' St')) t → Steps p.tables e below (T.setTop (mkF m pc Ls St)) t) : W l Z n0 y bytes maxl ret R G h pc' Ls' St' C S := by
  obtain ⟨p, e, s, m, args, below, meth, c, st⟩ := G
  obtain ⟨hx, hZ, hby, hml, hown, hnm, hrt, hlk, hn0, T, locs, X, N, eT, k⟩ := A
  exact W.mk hx hZ hby hml hown hnm hrt hlk hn0 X N eT (fun t q => k t (f X hx hZ hown hby eT q))
/-! B. plain instructions -/
theorem W.iloadN (A : W l Z n0 y bytes maxl ret R G h pc Ls St C S) {k : Fin 4} {v : Int32} (hd : decode bytes pc = .ok (.iload_n k, 1)) (hl : Ls[k.val]? = some (.val (.int v))) (hp : pc + 1 = pc') : W l Z n0 y bytes maxl ret R G h pc' Ls (.int v :: St) C S := by
  subst hp; exact A.step fun X hx _ _ q _ r => XS.iloadN X.here hx rfl (hb q hd) hl r
theorem W.iload (A : W l Z n0 y bytes maxl ret R G h pc Ls St C S) {k : Nat} {v : Int32} (hd : decode bytes pc = .ok (.iload k, 2)) (hl : Ls[k]? = some (.val (.int v))) (hp : pc + 2 = pc') : W l Z n0 y bytes maxl ret R G h pc' Ls (.int v :: St) C S := by
  subst hp; exact A.step fun X hx _ _ q _ r => XS.iload X.here hx rfl (hb q hd) hl r
theorem W.lloadN (A : W l Z n0 y bytes maxl ret R G h pc Ls St C S) {k : Fin 4} {v : Int64} (hd : decode bytes pc = .ok (.lload_n k, 1)) (hl : Ls[k.val]? = some (.val (.long v))) (hp : pc + 1 = pc') : W l Z n0 y bytes maxl ret R G h pc' Ls (.long v :: St) C S := by
  subst hp; exact A.step fun X hx _ _ q _ r => XS.lloadN X.here hx rfl (hb q hd) hl r
theorem W.lload (A : W l Z n0 y bytes maxl ret R G h pc Ls St C S) {k : Nat} {v : Int64} (hd : decode bytes pc = .ok (.lload k, 2)) (hl : Ls[k]? = some (.val (.long v))) (hp : pc + 2 = pc') : W l Z n0 y bytes maxl ret R G h pc' Ls (.long v :: St) C S := by
  subst hp; exact A.step fun X hx _ _ q _ r => XS.lload X.here hx rfl (hb q hd) hl r
theorem W.aloadN (A : W l Z n0 y bytes maxl ret R G h pc Ls St C S) {k : Fin 4} {v : Value} (hd : decode bytes pc = .ok (.aload_n k, 1)) (hl : Ls[k.val]? = some (.val v)) (hv : v.isRef = true) (hp : pc + 1 = pc') : W l Z n0 y bytes maxl ret R G h pc' Ls (v :: St) C S := by
  subst hp; exact A.step fun X hx _ _ q _ r => XS.aloadN X.here hx rfl (hb q hd) hl hv r
theorem W.aload (A : W l Z n0 y bytes maxl ret R G h pc Ls St C S) {k : Nat} {v : Value} (hd : decode bytes pc = .ok (.aload k, 2)) (hl : Ls[k]? = some (.val v)) (hv : v.isRef = true) (hp : pc + 2 = pc') : W l Z n0 y bytes maxl ret R G h pc' Ls (v :: St) C S := by
  subst hp; exact A.step fun X hx _ _ q _ r => XS.aload X.here hx rfl (hb q hd) hl hv r
theorem W.istoreN {v : Int32} (A : W l Z n0 y bytes maxl ret R G h pc Ls (.int v :: St) C S) {k : Fin 4} {Ls' : Array Slot} (hd : decode bytes pc = .ok (.istore_n k, 1)) (hl : storeLocals Ls k.val (.int v) = some Ls') (hp : pc + 1 = pc') : W l Z n0 y bytes maxl ret R G h pc' Ls' St C S := by
  subst hp; exact A.step fun X hx _ _ q _ r => XS.istoreN X.here hx rfl (hb q hd) rfl hl r
theorem W.istore {v : Int32} (A : W l Z n0 y bytes maxl ret R G h pc Ls (.int v :: St) C S) {k : Nat} {Ls' : Array Slot} (hd : decode bytes pc = .ok (.istore k, 2)) (hl : storeLocals Ls k (.int v) = some Ls') (hp : pc + 2 = pc') : W l Z n0 y bytes maxl ret R G h pc' Ls' St C S := by
  subst hp; exact A.step fun X hx _ _ q _ r => XS.istore X.here hx rfl (hb q hd) rfl hl r
theorem W.lstoreN {v : Int64} (A : W l Z n0 y bytes maxl ret R G h pc Ls (.long v :: St) C S) {k : Fin 4} {Ls' : Array Slot} (hd : decode bytes pc = .ok (.lstore_n k, 1)) (hl : storeLocals Ls k.val (.long v) = some Ls') (hp : pc + 1 = pc') : W l Z n0 y bytes maxl ret R G h pc' Ls' St C S := by
  subst hp; exact A.step fun X hx _ _ q _ r => XS.lstoreN X.here hx rfl (hb q hd) rfl hl r
theorem W.lstore {v : Int64} (A : W l Z n0 y bytes maxl ret R G h pc Ls (.long v :: St) C S) {k : Nat} {Ls' : Array Slot} (hd : decode bytes pc = .ok (.lstore k, 2)) (hl : storeLocals Ls k (.long v) = some Ls') (hp : pc + 2 = pc') : W l Z n0 y bytes maxl ret R G h pc' Ls' St C S := by
  subst hp; exact A.step fun X hx _ _ q _ r => XS.lstore X.here hx rfl (hb q hd) rfl hl r
theorem W.astoreN {v : Value} (A : W l Z n0 y bytes maxl ret R G h pc Ls (v :: St) C S) {k : Fin 4} {Ls' : Array Slot} (hd : decode bytes pc = .ok (.astore_n k, 1)) (hv : v.isRef = true) (hl : storeLocals Ls k.val v = some Ls') (hp : pc + 1 = pc') : W l Z n0 y bytes maxl ret R G h pc' Ls' St C S := by
  subst hp; exact A.step fun X hx _ _ q _ r => XS.astoreN X.here hx rfl (hb q hd) rfl hv hl r
theorem W.astore {v : Value} (A : W l Z n0 y bytes maxl ret R G h pc Ls (v :: St) C S) {k : Nat} {Ls' : Array Slot} (hd : decode bytes pc = .ok (.astore k, 2)) (hv : v.isRef = true) (hl : storeLocals Ls k v = some Ls') (hp : pc + 2 = pc') : W l Z n0 y bytes maxl ret R G h pc' Ls' St C S := by
  subst hp; exact A.step fun X hx _ _ q _ r => XS.astore X.here hx rfl (hb q hd) rfl hv hl r
theorem W.iconst (A : W l Z n0 y bytes maxl ret R G h pc Ls St C S) {i : Int} {z : Int32} (hd : decode bytes pc = .ok (.iconst i, 1)) (hz : Int32.ofInt i = z) (hp : pc + 1 = pc') : W l Z n0 y bytes maxl ret R G h pc' Ls (.int z :: St) C S := by
  subst hp hz; exact A.step fun X hx _ _ q _ r => XS.iconst X.here hx rfl (hb q hd) r
theorem W.bipush (A : W l Z n0 y bytes maxl ret R G h pc Ls St C S) {i : Int} {z : Int32} (hd : decode bytes pc = .ok (.bipush i, 2)) (hz : (Int8.ofInt i).toInt32 = z) (hp : pc + 2 = pc') : W l Z n0 y bytes maxl ret R G h pc' Ls (.int z :: St) C S := by
  subst hp hz; exact A.step fun X hx _ _ q _ r => XS.bipush X.here hx rfl (hb q hd) r
theorem W.sipush (A : W l Z n0 y bytes maxl ret R G h pc Ls St C S) {i : Int} {z : Int32} (hd : decode bytes pc = .ok (.sipush i, 3)) (hz : (Int16.ofInt i).toInt32 = z) (hp : pc + 3 = pc') : W l Z n0 y bytes maxl ret R G h pc' Ls (.int z :: St) C S := by
  subst hp hz; exact A.step fun X hx _ _ q _ r => XS.sipush X.here hx rfl (hb q hd) r
theorem W.lconst (A : W l Z n0 y bytes maxl ret R G h pc Ls St C S) {k : Fin 2} {z : Int64} (hd : decode bytes pc = .ok (.lconst k, 1)) (hz : Int64.ofNat k.val = z) (hp : pc + 1 = pc') : W l Z n0 y bytes maxl ret R G h pc' Ls (.long z :: St) C S := by
  subst hp hz; exact A.step fun X hx _ _ q _ r => XS.lconst X.here hx rfl (hb q hd) r
theorem W.aconstNull (A : W l Z n0 y bytes maxl ret R G h pc Ls St C S) (hd : decode bytes pc = .ok (.aconst_null, 1)) (hp : pc + 1 = pc') : W l Z n0 y bytes maxl ret R G h pc' Ls (.null :: St) C S := by
  subst hp; exact A.step fun X hx _ _ q _ r => XS.aconstNull X.here hx rfl (hb q hd) r
theorem W.ldc (A : W l Z n0 y bytes maxl ret R G h pc Ls St C S) {i : Nat} {z : Int32} (hd : decode bytes pc = .ok (.ldc i, 2)) (w : (Jvm.Cond.constant y.cls i z).before a0 Z = true) (hp : pc + 2 = pc') : W l Z n0 y bytes maxl ret R G h pc' Ls (.int z :: St) C S := by
  subst hp; exact A.step fun X hx hZ hown q _ r => X.ldcInt hx hown (mvT hZ w) (g := mkF _ pc Ls St) rfl (hb q hd) _ r
theorem W.ldcW (A : W l Z n0 y bytes maxl ret R G h pc Ls St C S) {i : Nat} {z : Int32} (hd : decode bytes pc = .ok (.ldc_w i, 3)) (w : (Jvm.Cond.constant y.cls i z).before a0 Z = true) (hp : pc + 3 = pc') : W l Z n0 y bytes maxl ret R G h pc' Ls (.int z :: St) C S := by
  subst hp; exact A.step fun X hx hZ hown q _ r => X.ldcwInt hx hown (mvT hZ w) (g := mkF _ pc Ls St) rfl (hb q hd) _ r
theorem W.ldc2 (A : W l Z n0 y bytes maxl ret R G h pc Ls St C S) {i : Nat} {z : Int64} (hd : decode bytes pc = .ok (.ldc2_w i, 3)) (w : (Jvm.Cond.constantLong y.cls i z).before a0 Z = true) (hp : pc + 3 = pc') : W l Z n0 y bytes maxl ret R G h pc' Ls (.long z :: St) C S := by
  subst hp; exact A.step fun X hx hZ hown q _ r => X.ldc2Long hx hown (mvT hZ w) (g := mkF _ pc Ls St) rfl (hb q hd) _ r
theorem W.iinc (A : W l Z n0 y bytes maxl ret R G h pc Ls St C S) {k : Nat} {i : Int} {v z : Int32} {Ls' : Array Slot} (hd : decode bytes pc = .ok (.iinc k i, 3)) (hl : Ls[k]? = some (.val (.int v))) (hz : v + Int32.ofInt i = z) (hl' : storeLocals Ls k (.int z) = some Ls') (hp : pc + 3 = pc') : W l Z n0 y bytes maxl ret R G h pc' Ls' St C S := by
  subst hp hz; exact A.step fun X hx _ _ q _ r => XS.iinc X.here hx rfl (hb q hd) hl hl' r
theorem W.iadd {x z : Int32} (A : W l Z n0 y bytes maxl ret R G h pc Ls (.int z :: .int x :: St) C S) (hd : decode bytes pc = .ok (.iadd, 1)) (hp : pc + 1 = pc') : W l Z n0 y bytes maxl ret R G h pc' Ls (.int (x + z) :: St) C S := by
  subst hp; exact A.step fun X hx _ _ q _ r => XS.iadd X.here hx rfl (hb q hd) rfl r
theorem W.ladd {x z : Int64} (A : W l Z n0 y bytes maxl ret R G h pc Ls (.long z :: .long x :: St) C S) (hd : decode bytes pc = .ok (.ladd, 1)) (hp : pc + 1 = pc') : W l Z n0 y bytes maxl ret R G h pc' Ls (.long (x + z) :: St) C S := by
  subst hp; exact A.step fun X hx _ _ q _ r => XS.ladd X.here hx rfl (hb q hd) rfl r
theorem W.isub {x z : Int32} (A : W l Z n0 y bytes maxl ret R G h pc Ls (.int z :: .int x :: St) C S) (hd : decode bytes pc = .ok (.isub, 1)) (hp : pc + 1 = pc') : W l Z n0 y bytes maxl ret R G h pc' Ls (.int (x - z) :: St) C S := by
  subst hp; exact A.step fun X hx _ _ q _ r => XS.isub X.here hx rfl (hb q hd) rfl r
theorem W.lsub {x z : Int64} (A : W l Z n0 y bytes maxl ret R G h pc Ls (.long z :: .long x :: St) C S) (hd : decode bytes pc = .ok (.lsub, 1)) (hp : pc + 1 = pc') : W l Z n0 y bytes maxl ret R G h pc' Ls (.long (x - z) :: St) C S := by
  subst hp; exact A.step fun X hx _ _ q _ r => XS.lsub X.here hx rfl (hb q hd) rfl r
theorem W.imul {x z : Int32} (A : W l Z n0 y bytes maxl ret R G h pc Ls (.int z :: .int x :: St) C S) (hd : decode bytes pc = .ok (.imul, 1)) (hp : pc + 1 = pc') : W l Z n0 y bytes maxl ret R G h pc' Ls (.int (x * z) :: St) C S := by
  subst hp; exact A.step fun X hx _ _ q _ r => XS.imul X.here hx rfl (hb q hd) rfl r
theorem W.lmul {x z : Int64} (A : W l Z n0 y bytes maxl ret R G h pc Ls (.long z :: .long x :: St) C S) (hd : decode bytes pc = .ok (.lmul, 1)) (hp : pc + 1 = pc') : W l Z n0 y bytes maxl ret R G h pc' Ls (.long (x * z) :: St) C S := by
  subst hp; exact A.step fun X hx _ _ q _ r => XS.lmul X.here hx rfl (hb q hd) rfl r
theorem W.iand {x z : Int32} (A : W l Z n0 y bytes maxl ret R G h pc Ls (.int z :: .int x :: St) C S) (hd : decode bytes pc = .ok (.iand, 1)) (hp : pc + 1 = pc') : W l Z n0 y bytes maxl ret R G h pc' Ls (.int (x &&& z) :: St) C S := by
  subst hp; exact A.step fun X hx _ _ q _ r => XS.iand X.here hx rfl (hb q hd) rfl r
theorem W.land {x z : Int64} (A : W l Z n0 y bytes maxl ret R G h pc Ls (.long z :: .long x :: St) C S) (hd : decode bytes pc = .ok (.land, 1)) (hp : pc + 1 = pc') : W l Z n0 y bytes maxl ret R G h pc' Ls (.long (x &&& z) :: St) C S := by
  subst hp; exact A.step fun X hx _ _ q _ r => XS.land X.here hx rfl (hb q hd) rfl r
theorem W.ior {x z : Int32} (A : W l Z n0 y bytes maxl ret R G h pc Ls (.int z :: .int x :: St) C S) (hd : decode bytes pc = .ok (.ior, 1)) (hp : pc + 1 = pc') : W l Z n0 y bytes maxl ret R G h pc' Ls (.int (x ||| z) :: St) C S := by
  subst hp; exact A.step fun X hx _ _ q _ r => XS.ior X.here hx rfl (hb q hd) rfl r
theorem W.lor {x z : Int64} (A : W l Z n0 y bytes maxl ret R G h pc Ls (.long z :: .long x :: St) C S) (hd : decode bytes pc = .ok (.lor, 1)) (hp : pc + 1 = pc') : W l Z n0 y bytes maxl ret R G h pc' Ls (.long (x ||| z) :: St) C S := by
  subst hp; exact A.step fun X hx _ _ q _ r => XS.lor X.here hx rfl (hb q hd) rfl r
theorem W.ixor {x z : Int32} (A : W l Z n0 y bytes maxl ret R G h pc Ls (.int z :: .int x :: St) C S) (hd : decode bytes pc = .ok (.ixor, 1)) (hp : pc + 1 = pc') : W l Z n0 y bytes maxl ret R G h pc' Ls (.int (x ^^^ z) :: St) C S := by
  subst hp; exact A.step fun X hx _ _ q _ r => XS.ixor X.here hx rfl (hb q hd) rfl r
theorem W.lxor {x z : Int64} (A : W l Z n0 y bytes maxl ret R G h pc Ls (.long z :: .long x :: St) C S) (hd : decode bytes pc = .ok (.lxor, 1)) (hp : pc + 1 = pc') : W l Z n0 y bytes maxl ret R G h pc' Ls (.long (x ^^^ z) :: St) C S := by
  subst hp; exact A.step fun X hx _ _ q _ r => XS.lxor X.here hx rfl (hb q hd) rfl r
theorem W.ineg {x : Int32} (A : W l Z n0 y bytes maxl ret R G h pc Ls (.int x :: St) C S) (hd : decode bytes pc = .ok (.ineg, 1)) (hp : pc + 1 = pc') : W l Z n0 y bytes maxl ret R G h pc' Ls (.int (-x) :: St) C S := by
  subst hp; exact A.step fun X hx _ _ q _ r => XS.ineg X.here hx rfl (hb q hd) rfl r
theorem W.lneg {x : Int64} (A : W l Z n0 y bytes maxl ret R G h pc Ls (.long x :: St) C S) (hd : decode bytes pc = .ok (.lneg, 1)) (hp : pc + 1 = pc') : W l Z n0 y bytes maxl ret R G h pc' Ls (.long (-x) :: St) C S := by
  subst hp; exact A.step fun X hx _ _ q _ r => XS.lneg X.here hx rfl (hb q hd) rfl r
theorem W.ishl {x z : Int32} (A : W l Z n0 y bytes maxl ret R G h pc Ls (.int z :: .int x :: St) C S) (hd : decode bytes pc = .ok (.ishl, 1)) (hp : pc + 1 = pc') : W l Z n0 y bytes maxl ret R G h pc' Ls (.int (x <<< (z &&& 31)) :: St) C S := by
  subst hp; exact A.step fun X hx _ _ q _ r => XS.ishl X.here hx rfl (hb q hd) rfl r
theorem W.ishr {x z : Int32} (A : W l Z n0 y bytes maxl ret R G h pc Ls (.int z :: .int x :: St) C S) (hd : decode bytes pc = .ok (.ishr, 1)) (hp : pc + 1 = pc') : W l Z n0 y bytes maxl ret R G h pc' Ls (.int (x >>> (z &&& 31)) :: St) C S := by
  subst hp; exact A.step fun X hx _ _ q _ r => XS.ishr X.here hx rfl (hb q hd) rfl r
theorem W.iushr {x z : Int32} (A : W l Z n0 y bytes maxl ret R G h pc Ls (.int z :: .int x :: St) C S) (hd : decode bytes pc = .ok (.iushr, 1)) (hp : pc + 1 = pc') : W l Z n0 y bytes maxl ret R G h pc' Ls (.int ((x.toUInt32 >>> (z &&& 31).toUInt32).toInt32) :: St) C S := by
  subst hp; exact A.step fun X hx _ _ q _ r => XS.iushr X.here hx rfl (hb q hd) rfl r
theorem W.lshl {x : Int64} {z : Int32} (A : W l Z n0 y bytes maxl ret R G h pc Ls (.int z :: .long x :: St) C S) (hd : decode bytes pc = .ok (.lshl, 1)) (hp : pc + 1 = pc') : W l Z n0 y bytes maxl ret R G h pc' Ls (.long (x <<< (z &&& 0x3f).toInt64) :: St) C S := by
  subst hp; exact A.step fun X hx _ _ q _ r => XS.lshl X.here hx rfl (hb q hd) rfl r
theorem W.lshr {x : Int64} {z : Int32} (A : W l Z n0 y bytes maxl ret R G h pc Ls (.int z :: .long x :: St) C S) (hd : decode bytes pc = .ok (.lshr, 1)) (hp : pc + 1 = pc') : W l Z n0 y bytes maxl ret R G h pc' Ls (.long (x >>> (z &&& 0x3f).toInt64) :: St) C S := by
  subst hp; exact A.step fun X hx _ _ q _ r => XS.lshr X.here hx rfl (hb q hd) rfl r
theorem W.lushr {x : Int64} {z : Int32} (A : W l Z n0 y bytes maxl ret R G h pc Ls (.int z :: .long x :: St) C S) (hd : decode bytes pc = .ok (.lushr, 1)) (hp : pc + 1 = pc') : W l Z n0 y bytes maxl ret R G h pc' Ls (.long ((x.toUInt64 >>> (z &&& 0x3f).toInt64.toUInt64).toInt64) :: St) C S := by
  subst hp; exact A.step fun X hx _ _ q _ r => XS.lushr X.here hx rfl (hb q hd) rfl r
theorem W.i2l {x : Int32} (A : W l Z n0 y bytes maxl ret R G h pc Ls (.int x :: St) C S) (hd : decode bytes pc = .ok (.i2l, 1)) (hp : pc + 1 = pc') : W l Z n0 y bytes maxl ret R G h pc' Ls (.long x.toInt64 :: St) C S := by
  subst hp; exact A.step fun X hx _ _ q _ r => XS.i2l X.here hx rfl (hb q hd) rfl r
theorem W.l2i {x : Int64} (A : W l Z n0 y bytes maxl ret R G h pc Ls (.long x :: St) C S) (hd : decode bytes pc = .ok (.l2i, 1)) (hp : pc + 1 = pc') : W l Z n0 y bytes maxl ret R G h pc' Ls (.int x.toInt32 :: St) C S := by
  subst hp; exact A.step fun X hx _ _ q _ r => XS.l2i X.here hx rfl (hb q hd) rfl r
theorem W.i2b {x : Int32} (A : W l Z n0 y bytes maxl ret R G h pc Ls (.int x :: St) C S) (hd : decode bytes pc = .ok (.i2b, 1)) (hp : pc + 1 = pc') : W l Z n0 y bytes maxl ret R G h pc' Ls (.int x.toInt8.toInt32 :: St) C S := by
  subst hp; exact A.step fun X hx _ _ q _ r => XS.i2b X.here hx rfl (hb q hd) rfl r
theorem W.i2s {x : Int32} (A : W l Z n0 y bytes maxl ret R G h pc Ls (.int x :: St) C S) (hd : decode bytes pc = .ok (.i2s, 1)) (hp : pc + 1 = pc') : W l Z n0 y bytes maxl ret R G h pc' Ls (.int x.toInt16.toInt32 :: St) C S := by
  subst hp; exact A.step fun X hx _ _ q _ r => XS.i2s X.here hx rfl (hb q hd) rfl r
theorem W.i2c {x : Int32} (A : W l Z n0 y bytes maxl ret R G h pc Ls (.int x :: St) C S) (hd : decode bytes pc = .ok (.i2c, 1)) (hp : pc + 1 = pc') : W l Z n0 y bytes maxl ret R G h pc' Ls (.int x.toUInt32.toUInt16.toUInt32.toInt32 :: St) C S := by
  subst hp; exact A.step fun X hx _ _ q _ r => XS.i2c X.here hx rfl (hb q hd) rfl r
theorem W.lcmp {x z : Int64} (A : W l Z n0 y bytes maxl ret R G h pc Ls (.long z :: .long x :: St) C S) (hd : decode bytes pc = .ok (.lcmp, 1)) (hp : pc + 1 = pc') : W l Z n0 y bytes maxl ret R G h pc' Ls (.int (lcmpW x z) :: St) C S := by
  subst hp; exact A.step fun X hx _ _ q _ r => XS.lcmp X.here hx rfl (hb q hd) rfl r
theorem W.idiv {x z : Int32} (A : W l Z n0 y bytes maxl ret R G h pc Ls (.int z :: .int x :: St) C S) (hd : decode bytes pc = .ok (.idiv, 1)) (hz : z ≠ 0) (hp : pc + 1 = pc') : W l Z n0 y bytes maxl ret R G h pc' Ls (.int (x / z) :: St) C S := by
  subst hp; exact A.step fun X hx _ _ q _ r => XS.idiv X.here hx rfl (hb q hd) rfl hz r
theorem W.irem {x z : Int32} (A : W l Z n0 y bytes maxl ret R G h pc Ls (.int z :: .int x :: St) C S) (hd : decode bytes pc = .ok (.irem, 1)) (hz : z ≠ 0) (hp : pc + 1 = pc') : W l Z n0 y bytes maxl ret R G h pc' Ls (.int (x % z) :: St) C S := by
  subst hp; exact A.step fun X hx _ _ q _ r => iremM (g := mkF _ _ _ _) X hx rfl (hb q hd) rfl hz r
theorem W.ldiv {x z : Int64} (A : W l Z n0 y bytes maxl ret R G h pc Ls (.long z :: .long x :: St) C S) (hd : decode bytes pc = .ok (.ldiv, 1)) (hz : z ≠ 0) (hp : pc + 1 = pc') : W l Z n0 y bytes maxl ret R G h pc' Ls (.long (x / z) :: St) C S := by
  subst hp; exact A.step fun X hx _ _ q _ r => XS.ldiv X.here hx rfl (hb q hd) rfl hz r
theorem W.lrem {x z : Int64} (A : W l Z n0 y bytes maxl ret R G h pc Ls (.long z :: .long x :: St) C S) (hd : decode bytes pc = .ok (.lrem, 1)) (hz : z ≠ 0) (hp : pc + 1 = pc') : W l Z n0 y bytes maxl ret R G h pc' Ls (.long (x % z) :: St) C S := by
  subst hp; exact A.step fun X hx _ _ q _ r => XS.lrem X.here hx rfl (hb q hd) rfl hz (by rw [lrem_mod]; exact r)
theorem W.dup {v : Value} (A : W l Z n0 y bytes maxl ret R G h pc Ls (v :: St) C S) (hd : decode bytes pc = .ok (.dup, 1)) (hc : v.category = 1) (hp : pc + 1 = pc') : W l Z n0 y bytes maxl ret R G h pc' Ls (v :: v :: St) C S := by
  subst hp; exact A.step fun X hx _ _ q _ r => XS.dup X.here hx rfl (hb q hd) rfl hc r
theorem W.pop {v : Value} (A : W l Z n0 y bytes maxl ret R G h pc Ls (v :: St) C S) (hd : decode bytes pc = .ok (.pop, 1)) (hc : v.category = 1) (hp : pc + 1 = pc') : W l Z n0 y bytes maxl ret R G h pc' Ls St C S := by
  subst hp; exact A.step fun X hx _ _ q _ r => XS.pop X.here hx rfl (hb q hd) rfl hc r
theorem W.dupX1 {v w : Value} (A : W l Z n0 y bytes maxl ret R G h pc Ls (v :: w :: St) C S) (hd : decode bytes pc = .ok (.dup_x1, 1)) (hc : v.category = 1) (hc' : w.category = 1) (hp : pc + 1 = pc') : W l Z n0 y bytes maxl ret R G h pc' Ls (v :: w :: v :: St) C S := by
  subst hp; exact A.step fun X hx _ _ q _ r => XS.dupX1 X.here hx rfl (hb q hd) rfl hc hc' r
theorem W.dup2 {v w : Value} (A : W l Z n0 y bytes maxl ret R G h pc Ls (v :: w :: St) C S) (hd : decode bytes pc = .ok (.dup2, 1)) (hc : v.category = 1) (hc' : w.category = 1) (hp : pc + 1 = pc') : W l Z n0 y bytes maxl ret R G h pc' Ls (v :: w :: v :: w :: St) C S := by
  subst hp; exact A.step fun X hx _ _ q _ r => XT.dup2 X.here hx rfl (hb q hd) rfl hc hc' r
theorem W.dup2L {x : Int64} (A : W l Z n0 y bytes maxl ret R G h pc Ls (.long x :: St) C S) (hd : decode bytes pc = .ok (.dup2, 1)) (hp : pc + 1 = pc') : W l Z n0 y bytes maxl ret R G h pc' Ls (.long x :: .long x :: St) C S := by
  subst hp; exact A.step fun X hx _ _ q _ r => XT.dup2L X.here hx rfl (hb q hd) rfl r
theorem W.goto (A : W l Z n0 y bytes maxl ret R G h pc Ls St C S) {o : Int} (hd : decode bytes pc = .ok (.goto o, 3)) (ho : 0 ≤ (pc : Int) + o) (hp : ((pc : Int) + o).toNat = pc') : W l Z n0 y bytes maxl ret R G h pc' Ls St C S :=
  A.step fun X hx _ _ q _ r => XS.goto X.here hx rfl rfl (hb q hd) ho hp r
theorem W.ifYes {x : Int32} (A : W l Z n0 y bytes maxl ret R G h pc Ls (.int x :: St) C S) {cd : ClassFile.Cond} {o : Int} (hd : decode bytes pc = .ok (.ifCond cd o, 3)) (hc : if_icmp.holds cd x 0 = true) (ho : 0 ≤ (pc : Int) + o) (hp : ((pc : Int) + o).toNat = pc') : W l Z n0 y bytes maxl ret R G h pc' Ls St C S :=
  A.step fun X hx _ _ q _ r => XS.ifYes X.here hx rfl rfl (hb q hd) rfl ((if0 _ _).trans hc) ho hp r
theorem W.ifNo {x : Int32} (A : W l Z n0 y bytes maxl ret R G h pc Ls (.int x :: St) C S) {cd : ClassFile.Cond} {o : Int} (hd : decode bytes pc = .ok (.ifCond cd o, 3)) (hc : if_icmp.holds cd x 0 = false) (hp : pc + 3 = pc') : W l Z n0 y bytes maxl ret R G h pc' Ls St C S := by
  subst hp; exact A.step fun X hx _ _ q _ r => XS.ifNo X.here hx rfl (hb q hd) rfl ((if0 _ _).trans hc) r
theorem W.icmpYes {x z : Int32} (A : W l Z n0 y bytes maxl ret R G h pc Ls (.int z :: .int x :: St) C S) {cd : ClassFile.Cond} {o : Int} (hd : decode bytes pc = .ok (.if_icmp cd o, 3)) (hc : if_icmp.holds cd x z = true) (ho : 0 ≤ (pc : Int) + o) (hp : ((pc : Int) + o).toNat = pc') : W l Z n0 y bytes maxl ret R G h pc' Ls St C S :=
  A.step fun X hx _ _ q _ r => XS.icmpYes X.here hx rfl rfl (hb q hd) rfl hc ho hp r
theorem W.icmpNo {x z : Int32} (A : W l Z n0 y bytes maxl ret R G h pc Ls (.int z :: .int x :: St) C S) {cd : ClassFile.Cond} {o : Int} (hd : decode bytes pc = .ok (.if_icmp cd o, 3)) (hc : if_icmp.holds cd x z = false) (hp : pc + 3 = pc') : W l Z n0 y bytes maxl ret R G h pc' Ls St C S := by
  subst hp; exact A.step fun X hx _ _ q _ r => XS.icmpNo X.here hx rfl (hb q hd) rfl hc r
theorem W.ifnullYes (A : W l Z n0 y bytes maxl ret R G h pc Ls (.null :: St) C S) {o : Int} (hd : decode bytes pc = .ok (.ifnull o, 3)) (ho : 0 ≤ (pc : Int) + o) (hp : ((pc : Int) + o).toNat = pc') : W l Z n0 y bytes maxl ret R G h pc' Ls St C S :=
  A.step fun X hx _ _ q _ r => XS.ifnullYes X.here hx rfl rfl (hb q hd) rfl ho hp r
theorem W.ifnullNo {a : Addr} (A : W l Z n0 y bytes maxl ret R G h pc Ls (.ref a :: St) C S) {o : Int} (hd : decode bytes pc = .ok (.ifnull o, 3)) (hp : pc + 3 = pc') : W l Z n0 y bytes maxl ret R G h pc' Ls St C S := by
  subst hp; exact A.step fun X hx _ _ q _ r => XS.ifnullNo X.here hx rfl (hb q hd) rfl r
theorem W.ifnonnullNo (A : W l Z n0 y bytes maxl ret R G h pc Ls (.null :: St) C S) {o : Int} (hd : decode bytes pc = .ok (.ifnonnull o, 3)) (hp : pc + 3 = pc') : W l Z n0 y bytes maxl ret R G h pc' Ls St C S := by
  subst hp; exact A.step fun X hx _ _ q _ r => XS.ifnonnullNo X.here hx rfl (hb q hd) rfl r
theorem W.ifnonnullYes {a : Addr} (A : W l Z n0 y bytes maxl ret R G h pc Ls (.ref a :: St) C S) {o : Int} (hd : decode bytes pc = .ok (.ifnonnull o, 3)) (ho : 0 ≤ (pc : Int) + o) (hp : ((pc : Int) + o).toNat = pc') : W l Z n0 y bytes maxl ret R G h pc' Ls St C S :=
  A.step fun X hx _ _ q _ r => XS.ifnonnullYes X.here hx rfl rfl (hb q hd) rfl ho hp r
/-! C. the returns -/
theorem W.fin {v : Option Value} (A : W l Z n0 y bytes maxl ret R G h pc Ls St C S) (hC : C ≤ R.cells) (hS : S ≤ R.slots) (hv : ret = none → v = none) (hQ : Q v h)
    (f : ∀ {p : Program} {e : Env} {s : State} {m : MethodId} {args : Array Value} {below : List Frame} {meth : Method} {c : Code} {T : State} {locs : List Loc} {fs : List Frame}, Stand p l e R s m args below meth c T locs C S → p.tables.exec = Jvm.exec → c.code = bytes → meth.sig.returnType = ret → (∀ (f : JFrame) (acts : List Action), f.method = m → f.locked = none → f.entered = [] → (doReturn e (T.setTop f) acts v).1 = T.setFrames fs) → Steps p.tables e below (T.setTop (mkF m pc Ls St)) (T.setFrames fs)) : Gl R n0 G Q := by
  obtain ⟨p, e, s, m, args, below, meth, c, st⟩ := G
  obtain ⟨hx, hZ, hby, hml, hown, hnm, hrt, hlk, hn0, T, locs, X, N, eT, k⟩ := A
  obtain ⟨fs, hr, hrun, hended, hW, hsame⟩ := X.leave (v := v) (fun q => hv (hrt.symm.trans q)) hlk
  show ∃ s₂ o, _
  refine ⟨_, _, k _ (f X hx hby hrt hr), hrun, hended, v, locs, rfl, ⟨N, ?_⟩, ⟨_, rfl⟩, hW, hsame.mono hC hS⟩
  show Q v T.heap
  rw [eT]; exact hQ
theorem W.retI {z : Int32} (A : W l Z n0 y bytes maxl (some .int) R G h pc Ls (.int z :: St) C S) (hd : decode bytes pc = .ok (.ireturn, 1)) (hC : C ≤ R.cells) (hS : S ≤ R.slots) (hQ : Q (some (.int z)) h) : Gl R n0 G Q :=
  A.fin hC hS (fun q => nomatch q) hQ fun X hx q hret hr => retOut X hx hret (t := .int) rfl (Or.inl ⟨rfl, Or.inl rfl, z, rfl⟩) (hb q hd) hr
theorem W.retN {z z' : Int32} {t : FieldType} (A : W l Z n0 y bytes maxl (some t) R G h pc Ls (.int z :: St) C S) (hd : decode bytes pc = .ok (.ireturn, 1)) (hC : C ≤ R.cells) (hS : S ≤ R.slots) (ht : t = .boolean ∨ t = .byte ∨ t = .char ∨ t = .short) (hz : nar t z = z') (hQ : Q (some (.int z')) h) : Gl R n0 G Q := by
  subst hz; exact A.fin hC hS (fun q => nomatch q) hQ fun X hx q hret hr => RoadKit.retN X hx hret ht (hb q hd) hr
theorem W.retJ {z : Int64} (A : W l Z n0 y bytes maxl (some .long) R G h pc Ls (.long z :: St) C S) (hd : decode bytes pc = .ok (.lreturn, 1)) (hC : C ≤ R.cells) (hS : S ≤ R.slots) (hQ : Q (some (.long z)) h) : Gl R n0 G Q :=
  A.fin hC hS (fun q => nomatch q) hQ fun X hx q hret hr => retOut X hx hret (t := .long) rfl (Or.inr (Or.inl ⟨rfl, rfl, z, rfl⟩)) (hb q hd) hr
theorem W.retA {v : Value} {t : FieldType} (A : W l Z n0 y bytes maxl (some t) R G h pc Ls (v :: St) C S) (hd : decode bytes pc = .ok (.areturn, 1)) (hC : C ≤ R.cells) (hS : S ≤ R.slots) (ht : t.isReference = true) (hv : v.isRef = true) (hn : narrow t v = v) (hQ : Q (some v) h) : Gl R n0 G Q :=
  A.fin hC hS (fun q => nomatch q) hQ fun X hx q hret hr => retOut X hx hret (t := t) hn (Or.inr (Or.inr (Or.inr (Or.inr ⟨rfl, ht, hv⟩)))) (hb q hd) hr
theorem W.retV (A : W l Z n0 y bytes maxl none R G h pc Ls [] C S) (hd : decode bytes pc = .ok (.return_, 1)) (hC : C ≤ R.cells) (hS : S ≤ R.slots) (hQ : Q none h) : Gl R n0 G Q :=
  A.fin hC hS (fun _ => rfl) hQ fun X hx q hret hr => X.returnOut hx hret (hb q hd) hr
/-! D. calls -/
theorem W.callS (A : W l Z n0 y bytes maxl ret R G h pc Ls St C S) {y' : MethodName} {bytes' : ByteArray} {maxl' : Nat} {ret' : Option FieldType} {R' : Room} {as : Array Value} {idx : Nat} {argsL rest : List Value} {ps : List FieldType} {rr : Option FieldType} (hd : decode bytes pc = .ok (.invokestatic idx, 3))
    (w1 : (Jvm.Cond.methodLink y.cls idx y').before a0 Z = true) (w2 : (Jvm.Cond.static y').before a0 Z = true) (w3 : (Jvm.Cond.initialized y'.cls).before a0 Z = true) (w4 : (Jvm.Cond.code y' bytes' maxl' ret').before a0 Z = true) (hM : Ctr l Z n0 y' bytes' maxl' ret' [] R' as h Q) (has : argsL.toArray = as) (hs : St = argsL.reverse ++ rest)
    (hpd : parseMethodDescriptor y'.desc = some ⟨ps, rr⟩) (hlen : argsL.length = ps.length) (hsz : Ls.size = maxl) (hy : y'.cls ≠ "java/lang/invoke/MethodHandle" ∧ y'.cls ≠ "java/lang/invoke/VarHandle") (hf : R'.frames + 1 ≤ R.frames) (hlo : (rest.map fun v => v.category).sum + (maxl' + 11) + R'.locals ≤ R.locals) (hC : C + R'.cells ≤ R.cells) (hS : S + R'.slots ≤ R.slots) (hC' : C + R'.cells = C') (hS' : S + R'.slots = S') (hp : pc + 3 = pc') :
    ∃ v h', Q v h' ∧ W l Z n0 y bytes maxl ret R G h' pc' Ls (v.toList ++ rest) C' S' := by
  subst hp hC' hS' has
  obtain ⟨p, e, s, m, args, below, meth, c, st⟩ := G
  obtain ⟨hx, hZ, hby, hml, hown, hnm, hrt, hlk, hn0, T, locs, X, N, eT, k⟩ := A
  obtain ⟨v, _, ⟨T', L', k', n'⟩, -, X', ⟨Lc, hQ, l1, y1, z1⟩, st'⟩ := Jvm.LawKit.callS X hx (y := y') hown (mvT hZ w1) (mvT hZ w2) (mvT hZ w3) (mvT hZ w4) hy (backOf (Q := fun v h L => Fr n0 L ∧ Q v h) (W := (rest.map fun v => v.category).sum) hM hZ w4 w3 hf hlo) (g := mkF m pc Ls St) rfl (by rw [hml]; exact hsz) (argsL := argsL) (rest := rest) (lenOf hpd hlen) hs (by show 2 * 0 + _ ≤ _; omega) (hb hby hd) (fun _ _ => ⟨rfl, eT, hC, hS⟩)
  dsimp only [Pt.U, Pt.locs, Pt.cells, Pt.slots] at X' l1 y1 z1 st' hQ
  subst l1 y1 z1
  exact ⟨v, T'.heap, hQ.2, W.mk hx hZ hby hml hown hnm hrt hlk hn0 X' (N.app hQ.1) rfl (fun t q => k t (st' t q))⟩
theorem W.callI (A : W l Z n0 y bytes maxl ret R G h pc Ls St C S) {a : Addr} {y' : MethodName} {bytes' : ByteArray} {maxl' : Nat} {R' : Room} {as : Array Value} {idx : Nat} {argsL rest : List Value} {ps : List FieldType} {rr : Option FieldType} (hd : decode bytes pc = .ok (.invokespecial idx, 3)) (hy1 : y'.name = "<init>")
    (w1 : (Jvm.Cond.methodLink y.cls idx y').before a0 Z = true) (w2 : (Jvm.Cond.instanceMethod y').before a0 Z = true) (w3 : (Jvm.Cond.initialized y'.cls).before a0 Z = true) (w4 : (Jvm.Cond.code y' bytes' maxl' none).before a0 Z = true) (hM : Ctr l Z n0 y' bytes' maxl' none [] R' as h Q) (has : (.ref a :: argsL).toArray = as) (hs : St = argsL.reverse ++ .ref a :: rest)
    (hpd : parseMethodDescriptor y'.desc = some ⟨ps, rr⟩) (hlen : argsL.length = ps.length) (hsz : Ls.size = maxl) (hy : y'.cls ≠ "java/lang/invoke/MethodHandle" ∧ y'.cls ≠ "java/lang/invoke/VarHandle") (hf : R'.frames + 1 ≤ R.frames) (hlo : (rest.map fun v => v.category).sum + (maxl' + 11) + R'.locals ≤ R.locals) (hC : C + R'.cells ≤ R.cells) (hS : S + R'.slots ≤ R.slots) (hC' : C + R'.cells = C') (hS' : S + R'.slots = S') (hp : pc + 3 = pc') :
    ∃ v h', Q v h' ∧ W l Z n0 y bytes maxl ret R G h' pc' Ls (v.toList ++ rest) C' S' := by
  subst hp hC' hS' has
  obtain ⟨p, e, s, m, args, below, meth, c, st⟩ := G
  obtain ⟨hx, hZ, hby, hml, hown, hnm, hrt, hlk, hn0, T, locs, X, N, eT, k⟩ := A
  obtain ⟨v, _, ⟨T', L', k', n'⟩, -, X', ⟨Lc, hQ, l1, y1, z1⟩, st'⟩ := X.specialBack hx (y := y') hy1 hown (mvT hZ w1) (mvT hZ w2) (mvT hZ w4) hy (backOf (Q := fun v h L => Fr n0 L ∧ Q v h) (W := (rest.map fun v => v.category).sum) hM hZ w4 w3 hf hlo) (g := mkF m pc Ls St) rfl (by rw [hml]; exact hsz) (Steps.refl _) (a := a) (argsL := argsL) (rest := rest) (lenOf hpd hlen) hs (by show 2 * 0 + _ ≤ _; omega) (hb hby hd) (fun _ _ => ⟨rfl, eT, hC, hS⟩)
  dsimp only [Pt.U, Pt.locs, Pt.cells, Pt.slots] at X' l1 y1 z1 st' hQ
  subst l1 y1 z1
  exact ⟨v, T'.heap, hQ.2, W.mk hx hZ hby hml hown hnm hrt hlk hn0 X' (N.app hQ.1) rfl (fun t q => k t (st'.trans q))⟩
theorem W.callV (A : W l Z n0 y bytes maxl ret R G h pc Ls St C S) {a : Addr} {K : String} {y' z' : MethodName} {bytes' : ByteArray} {maxl' : Nat} {ret' : Option FieldType} {R' : Room} {as : Array Value} {idx : Nat} {argsL rest : List Value} {ps : List FieldType} {rr : Option FieldType} (hd : decode bytes pc = .ok (.invokevirtual idx, 3)) (E : Exa Z h a K)
    (w1 : (Jvm.Cond.methodLink y.cls idx y').before a0 Z = true) (wd : (Jvm.Cond.declares y').before a0 Z = true) (hnf : ∀ {s : State}, Z.Warmed39 s.vm → NotFace s y') (ws : (Jvm.Cond.selects K y' z').before a0 Z = true) (w2 : (Jvm.Cond.instanceMethod z').before a0 Z = true) (w3 : (Jvm.Cond.initialized z'.cls).before a0 Z = true) (w4 : (Jvm.Cond.code z' bytes' maxl' ret').before a0 Z = true) (hM : Ctr l Z n0 z' bytes' maxl' ret' [] R' as h Q) (has : (.ref a :: argsL).toArray = as) (hs : St = argsL.reverse ++ .ref a :: rest)
    (hpd : parseMethodDescriptor y'.desc = some ⟨ps, rr⟩) (hlen : argsL.length = ps.length) (hsz : Ls.size = maxl) (hy : y'.cls ≠ "java/lang/invoke/MethodHandle" ∧ y'.cls ≠ "java/lang/invoke/VarHandle") (hf : R'.frames + 1 ≤ R.frames) (hlo : (rest.map fun v => v.category).sum + (maxl' + 11) + R'.locals ≤ R.locals) (hC : C + R'.cells ≤ R.cells) (hS : S + R'.slots ≤ R.slots) (hC' : C + R'.cells = C') (hS' : S + R'.slots = S') (hp : pc + 3 = pc') :
    ∃ v h', Q v h' ∧ W l Z n0 y bytes maxl ret R G h' pc' Ls (v.toList ++ rest) C' S' := by
  subst hp hC' hS' has
  obtain ⟨p, e, s, m, args, below, meth, c, st⟩ := G
  obtain ⟨hx, hZ, hby, hml, hown, hnm, hrt, hlk, hn0, T, locs, X, N, eT, k⟩ := A
  obtain ⟨cq, kq, qa, qb, qc⟩ := isOf hZ eT E
  obtain ⟨v, _, ⟨T', L', k', n'⟩, -, X', ⟨Lc, hQ, l1, y1, z1⟩, st'⟩ := X.virtualBack hx (y := y') (z := z') hown (mvT hZ w1) (mvT hZ wd) (hnf hZ) (mvT hZ ws) (mvT hZ w2) hy (backOf (Q := fun v h L => Fr n0 L ∧ Q v h) (W := (rest.map fun v => v.category).sum) hM hZ w4 w3 hf hlo) qa qc (g := mkF m pc Ls St) rfl (by rw [hml]; exact hsz) (Steps.refl _) (argsL := argsL) (rest := rest) (lenOf hpd hlen) hs (by show 2 * 0 + _ ≤ _; omega) (hb hby hd) (fun _ _ => ⟨rfl, eT, hC, hS⟩)
  dsimp only [Pt.U, Pt.locs, Pt.cells, Pt.slots] at X' l1 y1 z1 st' hQ
  subst l1 y1 z1
  exact ⟨v, T'.heap, hQ.2, W.mk hx hZ hby hml hown hnm hrt hlk hn0 X' (N.app hQ.1) rfl (fun t q => k t (st'.trans q))⟩
theorem W.callP (A : W l Z n0 y bytes maxl ret R G h pc Ls St C S) {a : Addr} {K : String} {kk : Nat} {y' : MethodName} {bytes' : ByteArray} {maxl' : Nat} {ret' : Option FieldType} {R' : Room} {as : Array Value} {idx : Nat} {argsL rest : List Value} {ps : List FieldType} {rr : Option FieldType} (hd : decode bytes pc = .ok (.invokevirtual idx, 3)) (E : Exa Z h a K)
    (w1 : (Jvm.Cond.methodLink y.cls idx y').before a0 Z = true) (w2 : (Jvm.Cond.instanceMethod y').before a0 Z = true) (wp : (Jvm.Cond.privateMethod y').before a0 Z = true) (wi : (Jvm.Cond.instantiable y'.cls kk).before a0 Z = true) (w3 : (Jvm.Cond.initialized y'.cls).before a0 Z = true) (w4 : (Jvm.Cond.code y' bytes' maxl' ret').before a0 Z = true) (hM : Ctr l Z n0 y' bytes' maxl' ret' [] R' as h Q) (has : (.ref a :: argsL).toArray = as) (hs : St = argsL.reverse ++ .ref a :: rest)
    (hpd : parseMethodDescriptor y'.desc = some ⟨ps, rr⟩) (hlen : argsL.length = ps.length) (hsz : Ls.size = maxl) (hy : y'.cls ≠ "java/lang/invoke/MethodHandle" ∧ y'.cls ≠ "java/lang/invoke/VarHandle") (hf : R'.frames + 1 ≤ R.frames) (hlo : (rest.map fun v => v.category).sum + (maxl' + 11) + R'.locals ≤ R.locals) (hC : C + R'.cells ≤ R.cells) (hS : S + R'.slots ≤ R.slots) (hC' : C + R'.cells = C') (hS' : S + R'.slots = S') (hp : pc + 3 = pc') :
    ∃ v h', Q v h' ∧ W l Z n0 y bytes maxl ret R G h' pc' Ls (v.toList ++ rest) C' S' := by
  subst hp hC' hS' has
  obtain ⟨p, e, s, m, args, below, meth, c, st⟩ := G
  obtain ⟨hx, hZ, hby, hml, hown, hnm, hrt, hlk, hn0, T, locs, X, N, eT, k⟩ := A
  obtain ⟨cq, q1, q2⟩ := E.cell
  have hpv := Cond.privateMethod_at (mvP (args := args) hZ wp)
  obtain ⟨ci, ki, i1, i2, -, i3, -, -⟩ := Cond.instantiable_spec (mvT (args := args) hZ wi)
  have hsel := selects_self_of_private (args := args) i1 i2 (Bool.or_eq_false_iff.mp i3).1 hpv (mvT hZ w2) hy
  obtain ⟨v, _, ⟨T', L', k', n'⟩, -, X', ⟨Lc, hQ, l1, y1, z1⟩, st'⟩ := X.privateBack hx (y := y') hown (mvT hZ w1) (mvT hZ w2) hsel hpv (mvT hZ w4) hy (backOf (Q := fun v h L => Fr n0 L ∧ Q v h) (W := (rest.map fun v => v.category).sum) hM hZ w4 w3 hf hlo) (g := mkF m pc Ls St) rfl (by rw [hml]; exact hsz) (Steps.refl _) (a := a) (by rw [eT]; exact q1) q2 (argsL := argsL) (rest := rest) (lenOf hpd hlen) hs (by show 2 * 0 + _ ≤ _; omega) (hb hby hd) (fun _ _ => ⟨rfl, eT, hC, hS⟩)
  dsimp only [Pt.U, Pt.locs, Pt.cells, Pt.slots] at X' l1 y1 z1 st' hQ
  subst l1 y1 z1
  exact ⟨v, T'.heap, hQ.2, W.mk hx hZ hby hml hown hnm hrt hlk hn0 X' (N.app hQ.1) rfl (fun t q => k t (st'.trans q))⟩
theorem W.kI {P : Int32 → Heap → Prop} {rest : List Value} (q : ∃ v h', QI P v h' ∧ W l Z n0 y bytes maxl ret R G h' pc Ls (v.toList ++ rest) C S) : ∃ r h', P r h' ∧ W l Z n0 y bytes maxl ret R G h' pc Ls (.int r :: rest) C S := by
  obtain ⟨v, h', ⟨r, rfl, hP⟩, A⟩ := q; exact ⟨r, h', hP, A⟩
theorem W.kJ {P : Int64 → Heap → Prop} {rest : List Value} (q : ∃ v h', QJ P v h' ∧ W l Z n0 y bytes maxl ret R G h' pc Ls (v.toList ++ rest) C S) : ∃ r h', P r h' ∧ W l Z n0 y bytes maxl ret R G h' pc Ls (.long r :: rest) C S := by
  obtain ⟨v, h', ⟨r, rfl, hP⟩, A⟩ := q; exact ⟨r, h', hP, A⟩
theorem W.kA {P : Addr → Heap → Prop} {rest : List Value} (q : ∃ v h', QA P v h' ∧ W l Z n0 y bytes maxl ret R G h' pc Ls (v.toList ++ rest) C S) : ∃ r h', P r h' ∧ W l Z n0 y bytes maxl ret R G h' pc Ls (.ref r :: rest) C S := by
  obtain ⟨v, h', ⟨r, rfl, hP⟩, A⟩ := q; exact ⟨r, h', hP, A⟩
theorem W.kV {P : Heap → Prop} {rest : List Value} (q : ∃ v h', QV P v h' ∧ W l Z n0 y bytes maxl ret R G h' pc Ls (v.toList ++ rest) C S) : ∃ h', P h' ∧ W l Z n0 y bytes maxl ret R G h' pc Ls rest C S := by
  obtain ⟨v, h', ⟨rfl, hP⟩, A⟩ := q; exact ⟨h', hP, A⟩
end Walk
end Jvm.Pilot.@@N@@
namespace Jvm.Pilot.@@N@@
open Jvm Jvm.ClassFile Sem Op Lib Jvm.Free Jvm.Stand Jvm.LawKit Jvm.RoadKit Bundle
/-! numbers -/
theorem rng32 (x : Int32) : -2147483648 ≤ x.toInt ∧ x.toInt < 2147483648 := ⟨x.le_toInt, x.toInt_lt⟩
theorem rng64 (x : Int64) : -9223372036854775808 ≤ x.toInt ∧ x.toInt < 9223372036854775808 := ⟨x.le_toInt, x.toInt_lt⟩
theorem add32 (x y : Int32) (h1 : -2147483648 ≤ x.toInt + y.toInt) (h2 : x.toInt + y.toInt < 2147483648) : (x + y).toInt = x.toInt + y.toInt := by
  have e := c_iadd x y; have r := rng32 (x + y); omega
theorem sub32 (x y : Int32) (h1 : -2147483648 ≤ x.toInt - y.toInt) (h2 : x.toInt - y.toInt < 2147483648) : (x - y).toInt = x.toInt - y.toInt := by
  have e := c_isub x y; have r := rng32 (x - y); omega
theorem mul32 (x y : Int32) (h1 : -2147483648 ≤ x.toInt * y.toInt) (h2 : x.toInt * y.toInt < 2147483648) : (x * y).toInt = x.toInt * y.toInt := by
  have e := c_imul x y; have r := rng32 (x * y); generalize x.toInt * y.toInt = z at *; omega
theorem add64 (x y : Int64) (h1 : -9223372036854775808 ≤ x.toInt + y.toInt) (h2 : x.toInt + y.toInt < 9223372036854775808) : (x + y).toInt = x.toInt + y.toInt := by
  have e := c_ladd x y; have r := rng64 (x + y); omega
theorem sub64 (x y : Int64) (h1 : -9223372036854775808 ≤ x.toInt - y.toInt) (h2 : x.toInt - y.toInt < 9223372036854775808) : (x - y).toInt = x.toInt - y.toInt := by
  have e := c_lsub x y; have r := rng64 (x - y); omega
theorem mul64 (x y : Int64) (h1 : -9223372036854775808 ≤ x.toInt * y.toInt) (h2 : x.toInt * y.toInt < 9223372036854775808) : (x * y).toInt = x.toInt * y.toInt := by
  have e := c_lmul x y; have r := rng64 (x * y); generalize x.toInt * y.toInt = z at *; omega
theorem mulc32 (x c : Int32) (k : Int) (hc : c.toInt = k) (h1 : -2147483648 ≤ x.toInt * k) (h2 : x.toInt * k < 2147483648) : (x * c).toInt = x.toInt * k := by
  subst hc; exact mul32 x c h1 h2
theorem mulc64 (x c : Int64) (k : Int) (hc : c.toInt = k) (h1 : -9223372036854775808 ≤ x.toInt * k) (h2 : x.toInt * k < 9223372036854775808) : (x * c).toInt = x.toInt * k := by
  subst hc; exact mul64 x c h1 h2
theorem addc32 (x c : Int32) (k : Int) (hc : c.toInt = k) (h1 : -2147483648 ≤ x.toInt + k) (h2 : x.toInt + k < 2147483648) : (x + c).toInt = x.toInt + k := by
  subst hc; exact add32 x c h1 h2
theorem subc32 (x c : Int32) (k : Int) (hc : c.toInt = k) (h1 : -2147483648 ≤ x.toInt - k) (h2 : x.toInt - k < 2147483648) : (x - c).toInt = x.toInt - k := by
  subst hc; exact sub32 x c h1 h2
theorem sta_int {args : Array Value} {s : State} {C n d : String} {v : Int32} (h : (Jvm.Cond.eq (Jvm.Term.static C n d) (Jvm.Term.int v)).value args s none s [] = some true) : (Jvm.Term.static C n d).eval args s none [] s = some (.int v) := by
  obtain ⟨a, b, h1, h2, -, -⟩ := cmp_v (Or.inl h)
  cases Option.some.inj (h2.symm.trans (rfl : (Jvm.Term.int v).eval args s none [] s = some (.int v)))
  rw [h1]; cases a <;> simp [Cond.value, h1, h2] at h ⊢; exact h
theorem sta_long {args : Array Value} {s : State} {C n d : String} {v : Int64} (h : (Jvm.Cond.eq (Jvm.Term.static C n d) (Jvm.Term.long v)).value args s none s [] = some true) : (Jvm.Term.static C n d).eval args s none [] s = some (.long v) := by
  obtain ⟨a, b, h1, h2, -, -⟩ := cmp_v (Or.inl h)
  cases Option.some.inj (h2.symm.trans (rfl : (Jvm.Term.long v).eval args s none [] s = some (.long v)))
  rw [h1]; cases a <;> simp [Cond.value, h1, h2] at h ⊢; exact h
/-- (y & 0x7fffffff) % m -/
theorem pmod32 (x m : Int32) (M : Int) (hm : m.toInt = M) (hM : 0 < M) : ((x &&& (2147483647 : Int32)) % m).toInt = (x.toInt % 2147483648) % M ∧ 0 ≤ ((x &&& (2147483647 : Int32)) % m).toInt ∧ ((x &&& (2147483647 : Int32)) % m).toInt < M := by
  have e : (x &&& (2147483647 : Int32)).toInt = x.toInt % 2147483648 := c_mask x 2147483647 31 (by decide) (by decide)
  have q := (c_irem (x &&& (2147483647 : Int32)) m M hm).1 (by omega)
  have := Int.emod_nonneg (x.toInt % 2147483648) (show M ≠ 0 by omega)
  have := Int.emod_lt_of_pos (x.toInt % 2147483648) hM
  rw [q, e]; omega
/-- (x & Long.MAX_VALUE) % m -/
theorem pmod64 (x m : Int64) (M : Int) (hm : m.toInt = M) (hM : 0 < M) : 0 ≤ ((x &&& (9223372036854775807 : Int64)) % m).toInt ∧ ((x &&& (9223372036854775807 : Int64)) % m).toInt < M := by
  have e : (x &&& (9223372036854775807 : Int64)).toInt = x.toInt % 9223372036854775808 := c_maskL x 9223372036854775807 63 (by decide) (by decide)
  have q := (c_lrem (x &&& (9223372036854775807 : Int64)) m M hm).1 (by omega)
  rw [lrem_mod] at q
  have := Int.emod_nonneg (x.toInt % 9223372036854775808) (show M ≠ 0 by omega)
  have := Int.emod_lt_of_pos (x.toInt % 9223372036854775808) hM
  rw [q, e]; omega
end Jvm.Pilot.@@N@@
namespace Jvm.Pilot.@@N@@
open Jvm Jvm.ClassFile Sem Op Lib Jvm.Free Jvm.Stand Jvm.LawKit Jvm.RoadKit Bundle Jvm.Pilot.@@N@@.Jvm.D
section Heaps
variable {l : Launch} {Z : State} {n0 : Nat} {y : MethodName} {bytes : ByteArray} {maxl : Nat} {ret : Option FieldType} {R : Room} {G : Cx} {h h' : Heap} {pc pc' : Nat} {Ls : Array Slot} {St : List Value} {C S C' S' : Nat} {Q : Option Value → Heap → Prop} {a0 : Array Value} {a b : Addr}
/-- a step that moves the state and keeps the heap -/
theorem W.stepT (A : W l Z n0 y bytes maxl ret R G h pc Ls St C S) {Ls' : Array Slot} {St' : List Value}
    (f : ∀ {p : Program} {e : Env} {s : State} {m : MethodId} {args : Array Value} {below : List Frame} {meth : Method} {c : Code} {T : State} {locs : List Loc}, Stand p l e R s m args below meth c T locs C S → p.tables.exec = Jvm.exec → Z.Warmed39 s.vm → s.vm.findClass y.cls = some m.cls → c.code = bytes → c.maxLocals = maxl → T.heap = h →
      ∃ T', Stand p l e R s m args below meth c T' locs C S ∧ T'.heap = h ∧ ∀ t, Steps p.tables e below (T'.setTop (mkF m pc' Ls' St')) t → Steps p.tables e below (T.setTop (mkF m pc Ls St)) t) : W l Z n0 y bytes maxl ret R G h pc' Ls' St' C S := by
  obtain ⟨p, e, s, m, args, below, meth, c, st⟩ := G
  obtain ⟨hx, hZ, hby, hml, hown, hnm, hrt, hlk, hn0, T, locs, X, N, eT, k⟩ := A
  obtain ⟨T', X', e', st'⟩ := f X hx hZ hown hby hml eT
  exact W.mk hx hZ hby hml hown hnm hrt hlk hn0 X' N e' (fun t q => k t (st' t q))
theorem W.getF (A : W l Z n0 y bytes maxl ret R G h pc Ls (.ref a :: St) C S) {index : Nat} {R0 O n d host : String} {v : Value} (hd : decode bytes pc = .ok (.getfield index, 3)) (w : (Jvm.Cond.fieldLink y.cls index R0 n d).before a0 Z = true ∨ (Jvm.Cond.fieldLinkNest y.cls index R0 n d host).before a0 Z = true) (via : Via Z R0 O n d) (F : Fld Z h a O n d v) (hp : pc + 3 = pc') : W l Z n0 y bytes maxl ret R G h pc' Ls (v :: St) C S := by
  subst hp; exact A.stepT fun X hx hZ hown q _ eT => RoadKit.getF X hx hZ hown w via eT F (g := mkF _ _ _ _) rfl rfl (hb q hd)
theorem W.getS (A : W l Z n0 y bytes maxl ret R G h pc Ls St C S) {index : Nat} {R0 O n d host : String} {v : Value} (hd : decode bytes pc = .ok (.getstatic index, 3)) (w : (Jvm.Cond.fieldLink y.cls index R0 n d).before a0 Z = true ∨ (Jvm.Cond.fieldLinkNest y.cls index R0 n d host).before a0 Z = true) (via : Via Z R0 O n d) (F : Sta Z h O n d v) (hp : pc + 3 = pc') : W l Z n0 y bytes maxl ret R G h pc' Ls (v :: St) C S := by
  subst hp; exact A.stepT fun X hx hZ hown q _ eT => getS2 X hx hZ hown w via eT F (g := mkF _ _ _ _) rfl (hb q hd)
theorem W.initO (A : W l Z n0 y bytes maxl ret R G h pc Ls (.ref a :: St) C S) {idx : Nat} (hd : decode bytes pc = .ok (.invokespecial idx, 3)) (w1 : (Jvm.Cond.methodLink y.cls idx Lib.objectInit).before a0 Z = true) (w2 : (Jvm.Cond.instanceMethod Lib.objectInit).before a0 Z = true) (w3 : (Jvm.Cond.code Lib.objectInit ⟨#[0xb1]⟩ 1 none).before a0 Z = true) (hsz : Ls.size = maxl) (hf : 1 ≤ R.frames) (hlo : (St.map fun v => v.category).sum + 12 ≤ R.locals) (hp : pc + 3 = pc') : W l Z n0 y bytes maxl ret R G h pc' Ls St C S := by
  subst hp; exact A.stepT fun X hx hZ hown q hml eT => RoadKit.initO X hx hZ hown w1 w2 w3 eT (g := mkF _ _ _ _) rfl (by rw [hml]; exact hsz) rfl (hb q hd) hf (W := (St.map fun v => v.category).sum) (by show 2 * 0 + _ ≤ _; omega) hlo
theorem W.cast0 (A : W l Z n0 y bytes maxl ret R G h pc Ls (.ref a :: St) C S) {index : Nat} {K : String} (hd : decode bytes pc = .ok (.checkcast index, 3)) (w : (Jvm.Cond.classLink y.cls index K).before a0 Z = true) (F : Ins Z h a K true) (hp : pc + 3 = pc') : W l Z n0 y bytes maxl ret R G h pc' Ls (.ref a :: St) C S := by
  subst hp; exact A.stepT fun X hx hZ hown q _ eT => castY X hx hZ hown w eT F (g := mkF _ _ _ _) rfl rfl (hb q hd)
theorem W.inst1 (A : W l Z n0 y bytes maxl ret R G h pc Ls (.ref a :: St) C S) {index : Nat} {K : String} (hd : decode bytes pc = .ok (.instanceof index, 3)) (w : (Jvm.Cond.classLink y.cls index K).before a0 Z = true) (F : Ins Z h a K true) (hp : pc + 3 = pc') : W l Z n0 y bytes maxl ret R G h pc' Ls (.int 1 :: St) C S := by
  subst hp; exact A.stepT fun X hx hZ hown q _ eT => instY X hx hZ hown w eT F (g := mkF _ _ _ _) rfl rfl (hb q hd)
theorem W.putF {v : Value} (A : W l Z n0 y bytes maxl ret R G h pc Ls (v :: .ref a :: St) C S) {index kk : Nat} {R0 O n d host K : String} {ty : FieldType} {old : Value} (hd : decode bytes pc = .ok (.putfield index, 3)) (w : (Jvm.Cond.fieldLink y.cls index R0 n d).before a0 Z = true ∨ (Jvm.Cond.fieldLinkNest y.cls index R0 n d host).before a0 Z = true) (via : Via Z R0 O n d)
    (F : Fld Z h a O n d old) (E : Exa Z h a K) (Lw : (Jvm.Cond.lays K O n d).before a0 Z = true ∨ ((Jvm.Cond.laysFinal K O n d).before a0 Z = true ∧ y.cls = O ∧ y.name = "<init>")) (wi : (Jvm.Cond.instantiable K kk).before a0 Z = true) (hty : parseFieldDescriptor d = some ty) (hn : narrow ty v = v) (hf : fits ty v = true) (ga : n0 ≤ a) (hp : pc + 3 = pc') :
    ∃ h', Wr h h' a (Jvm.RoadKit.slotOf Z O n d) v ∧ W l Z n0 y bytes maxl ret R G h' pc' Ls St C S := by
  subst hp
  obtain ⟨p, e, s, m, args, below, meth, c, st⟩ := G
  obtain ⟨hx, hZ, hby, hml, hown, hnm, hrt, hlk, hn0, T, locs, X, N, eT, k⟩ := A
  obtain ⟨T', h', X', e', W', st'⟩ := RoadKit.putF X hx hZ hown w via eT F E (Lw.imp id fun q => ⟨q.1, q.2.1, hnm.trans q.2.2⟩) wi hty hn hf (g := mkF m pc Ls _) rfl rfl (hb hby hd)
  exact ⟨h', W', W.mk hx hZ hby hml hown hnm hrt hlk hn0 X' (Fr.snoc X' N ga) e' (fun t q => k t (st' t q))⟩
theorem W.putFN {v v' : Value} (A : W l Z n0 y bytes maxl ret R G h pc Ls (v :: .ref a :: St) C S) {index kk : Nat} {R0 O n d K : String} {ty : FieldType} {old : Value} (hd : decode bytes pc = .ok (.putfield index, 3)) (w : (Jvm.Cond.fieldLink y.cls index R0 n d).before a0 Z = true) (via : Via Z R0 O n d)
    (F : Fld Z h a O n d old) (E : Exa Z h a K) (Lw : (Jvm.Cond.lays K O n d).before a0 Z = true ∨ ((Jvm.Cond.laysFinal K O n d).before a0 Z = true ∧ y.cls = O ∧ y.name = "<init>")) (wi : (Jvm.Cond.instantiable K kk).before a0 Z = true) (hty : parseFieldDescriptor d = some ty) (hn : narrow ty v = v') (hf : fits ty v' = true) (ga : n0 ≤ a) (hp : pc + 3 = pc') :
    ∃ h', Wr h h' a (Jvm.RoadKit.slotOf Z O n d) v' ∧ W l Z n0 y bytes maxl ret R G h' pc' Ls St C S := by
  subst hp
  obtain ⟨p, e, s, m, args, below, meth, c, st⟩ := G
  obtain ⟨hx, hZ, hby, hml, hown, hnm, hrt, hlk, hn0, T, locs, X, N, eT, k⟩ := A
  obtain ⟨T', h', X', e', W', st'⟩ := RoadKit.putFN X hx hZ hown w via eT F E (Lw.imp id fun q => ⟨q.1, q.2.1, hnm.trans q.2.2⟩) wi hty hn hf (g := mkF m pc Ls _) rfl rfl (hb hby hd)
  exact ⟨h', W', W.mk hx hZ hby hml hown hnm hrt hlk hn0 X' (Fr.snoc X' N ga) e' (fun t q => k t (st' t q))⟩
theorem W.newO (A : W l Z n0 y bytes maxl ret R G h pc Ls St C S) {index n : Nat} {K : String} (hd : decode bytes pc = .ok (.new index, 3)) (w : (Jvm.Cond.classLink y.cls index K).before a0 Z = true) (wi : (Jvm.Cond.instantiable K n).before a0 Z = true) (wz : (Jvm.Cond.initialized K).before a0 Z = true) (hC : C + 1 ≤ R.cells) (hS : S + n ≤ R.slots) (hC' : C + 1 = C') (hS' : S + n = S') (hp : pc + 3 = pc') :
    ∃ h' b, b = h.size ∧ n0 ≤ b ∧ Ext h h' ∧ Exa Z h' b K ∧ (∀ {O nm d : String} {ty : FieldType}, Laid Z a0 K O nm d → parseFieldDescriptor d = some ty → Fld Z h' b O nm d (defaultValue ty)) ∧ W l Z n0 y bytes maxl ret R G h' pc' Ls (.ref b :: St) C' S' := by
  subst hp hC' hS'
  have hsz := A.size
  obtain ⟨p, e, s, m, args, below, meth, c, st⟩ := G
  obtain ⟨hx, hZ, hby, hml, hown, hnm, hrt, hlk, hn0, T, locs, X, N, eT, k⟩ := A
  obtain ⟨T', h', X', e', E', A', D', -, st'⟩ := RoadKit.newO X hx hZ hown w wi wz eT (g := mkF m pc Ls St) rfl (hb hby hd) hC hS
  exact ⟨h', h.size, rfl, hsz, E', A', D', W.mk hx hZ hby hml hown hnm hrt hlk hn0 X' N e' (fun t q => k t (st' t q))⟩
/-! arrays: what each place holds, by a function of the place -/
def Ars (Z : State) (h : Heap) (a : Addr) (ty : FieldType) (N : Nat) (f : Nat → Value) : Prop := ∃ c : Cell, Arr Z h a c ty ∧ c.slots.size = N ∧ N < 2 ^ 31 ∧ ∀ j, j < N → c.slots[j]? = some (f j) ∧ fits ty (f j) = true
def upd (f : Nat → Value) (i : Nat) (v : Value) : Nat → Value := fun j => if j = i then v else f j
theorem upd_same (f : Nat → Value) (i : Nat) (v : Value) : upd f i v i = v := by simp [upd]
theorem upd_ne (f : Nat → Value) {i j : Nat} (v : Value) (q : j ≠ i) : upd f i v j = f j := by simp [upd, q]
variable {ty : FieldType} {N : Nat} {f : Nat → Value} {ws : List Addr} {sl : Nat} {v : Value}
theorem Ars.lt (F : Ars Z h a ty N f) : a < h.size := by obtain ⟨c, A, -⟩ := F; exact A.lt
theorem Ars.ext (F : Ars Z h a ty N f) (E : Ext h h') : Ars Z h' a ty N f := by obtain ⟨c, A, r⟩ := F; exact ⟨c, A.ext E, r⟩
theorem Ars.other (F : Ars Z h b ty N f) (V : Wr h h' a sl v) (q : b ≠ a) : Ars Z h' b ty N f := by obtain ⟨c, A, r⟩ := F; exact ⟨c, A.other V q, r⟩
theorem Ars.keep (F : Ars Z h a ty N f) (K : Keep h h' ws) (q : a ∉ ws) : Ars Z h' a ty N f := by obtain ⟨c, A, r⟩ := F; exact ⟨c, ⟨K.2.1 a c A.1 q, A.2⟩, r⟩
theorem Ars.same {i : Nat} (F : Ars Z h a ty N f) (V : Wr h h' a i v) (hi : i < N) (hf : fits ty v = true) : Ars Z h' a ty N (upd f i v) := by
  obtain ⟨c, A, hs, hN, hv⟩ := F
  refine ⟨_, A.same V, by rw [sz_set]; exact hs, hN, fun j hj => ?_⟩
  by_cases q : j = i
  · subst q; exact ⟨by simp [Cell.setSlot, upd, hs, hj], by simp only [upd, if_pos]; exact hf⟩
  · simp only [Cell.setSlot, upd, if_neg q]; rw [Array.getElem?_setIfInBounds_ne (Ne.symm q)]; exact hv j hj
theorem Ars.fn {g : Nat → Value} (F : Ars Z h a ty N f) (q : ∀ j, j < N → f j = g j) : Ars Z h a ty N g := by
  obtain ⟨c, A, hs, hN, hv⟩ := F; exact ⟨c, A, hs, hN, fun j hj => by rw [← q j hj]; exact hv j hj⟩
theorem Ars.size (F : Ars Z h a ty N f) : N < 2 ^ 31 := by obtain ⟨c, A, hs, hN, hv⟩ := F; exact hN
theorem inb {j : Int32} {i N : Nat} {c : Cell} (hs : c.slots.size = N) (hj : j.toInt = i) (hi : i < N) : ¬ (j < 0 ∨ c.slots.size ≤ j.toNatClampNeg) ∧ j.toNatClampNeg = i := by
  have e0 : (0 : Int32).toInt = 0 := rfl
  rw [hs, Int32.lt_iff_toInt_lt]; simp only [Int32.toNatClampNeg]; omega
theorem W.newP (A : W l Z n0 y bytes maxl ret R G h pc Ls (.int z :: St) C S) {aty : ArrayType} {N cap : Nat} (hd : decode bytes pc = .ok (.newarray aty, 2)) (w : (Jvm.Cond.arrayClass (newarray.typeOf aty)).before a0 Z = true) (hz : z.toInt = N) (hcap : N ≤ cap) (hcb : cap * 8 ≤ 536870912) (hC : C + 1 ≤ R.cells) (hS : S + cap ≤ R.slots) (hC' : C + 1 = C') (hS' : S + cap = S') (hp : pc + 2 = pc') {ad : String} (had : "[" ++ (newarray.typeOf aty).toString = ad) :
    ∃ h' b, b = h.size ∧ n0 ≤ b ∧ Ext h h' ∧ Ars Z h' b (newarray.typeOf aty) N (fun _ => defaultValue (newarray.typeOf aty)) ∧ Exa Z h' b ad ∧ W l Z n0 y bytes maxl ret R G h' pc' Ls (.ref b :: St) C' S' := by
  subst hp hC' hS'
  have hsz := A.size
  have e0 : (0 : Int32).toInt = 0 := rfl
  have hneg : ¬ z < 0 := by rw [Int32.lt_iff_toInt_lt]; omega
  have hcl : z.toNatClampNeg = N := by simp only [Int32.toNatClampNeg]; omega
  obtain ⟨p, e, s, m, args, below, meth, c, st⟩ := G
  obtain ⟨hx, hZ, hby, hml, hown, hnm, hrt, hlk, hn0, T, locs, X, Nf, eT, k⟩ := A
  obtain ⟨T', h', kA, X', e', E', A', Ex', st'⟩ := newPE X hx hZ w eT (g := mkF m pc Ls _) rfl (hb hby hd) rfl hneg (cap := cap) (by omega) hcb hC hS had
  refine ⟨h', h.size, rfl, hsz, E', ⟨_, A', by rw [sz_new, hcl], by omega, fun j hj => ?_⟩, Ex', W.mk hx hZ hby hml hown hnm hrt hlk hn0 X' Nf e' (fun t q => k t (st' t q))⟩
  exact ⟨by simp [newA, hcl, hj], by cases aty <;> rfl⟩
theorem W.alen (A : W l Z n0 y bytes maxl ret R G h pc Ls (.ref a :: St) C S) (hd : decode bytes pc = .ok (.arraylength, 1)) (F : Ars Z h a ty N f) {z : Int32} (hz : z.toInt = N) (hp : pc + 1 = pc') : W l Z n0 y bytes maxl ret R G h pc' Ls (.int z :: St) C S := by
  subst hp
  obtain ⟨cl, Ar, hs, hN, hv⟩ := F
  have e0 : (0 : Int32).toInt = 0 := rfl
  have hneg : ¬ z < 0 := by rw [Int32.lt_iff_toInt_lt]; omega
  have hcl : cl.slots.size = z.toNatClampNeg := by simp only [Int32.toNatClampNeg]; omega
  exact A.step fun X hx hZ hown q eT r => X.arraylength hx (by rw [eT]; exact Ar.1) (State.isArrayOf_alike hZ.alike Ar.2.1) (g := mkF _ _ _ _) rfl rfl (hb q hd) _ (by rw [len_of hcl hneg]; exact r)
theorem W.iaload {j : Int32} (A : W l Z n0 y bytes maxl ret R G h pc Ls (.int j :: .ref a :: St) C S) (hd : decode bytes pc = .ok (.iaload, 1)) (F : Ars Z h a .int N f) {i : Nat} (hj : j.toInt = i) (hi : i < N) {v : Value} (hv : f i = v) (hp : pc + 1 = pc') : W l Z n0 y bytes maxl ret R G h pc' Ls (v :: St) C S := by
  subst hp
  obtain ⟨cl, Ar, hs, hN, hf⟩ := F
  obtain ⟨q1, q2⟩ := inb hs hj hi
  exact A.step fun X hx hZ hown q eT r => X.iaload hx (by rw [eT]; exact Ar.1) (State.isArrayOf_alike hZ.alike Ar.2.1) Ar.2.2 q1 (by rw [q2, (hf i hi).1, hv]) (g := mkF _ _ _ _) rfl rfl (hb q hd) _ r
theorem W.laload {j : Int32} (A : W l Z n0 y bytes maxl ret R G h pc Ls (.int j :: .ref a :: St) C S) (hd : decode bytes pc = .ok (.laload, 1)) (F : Ars Z h a .long N f) {i : Nat} (hj : j.toInt = i) (hi : i < N) {v : Value} (hv : f i = v) (hp : pc + 1 = pc') : W l Z n0 y bytes maxl ret R G h pc' Ls (v :: St) C S := by
  subst hp
  obtain ⟨cl, Ar, hs, hN, hf⟩ := F
  obtain ⟨q1, q2⟩ := inb hs hj hi
  exact A.step fun X hx hZ hown q eT r => X.laload hx (by rw [eT]; exact Ar.1) (State.isArrayOf_alike hZ.alike Ar.2.1) Ar.2.2 q1 (by rw [q2, (hf i hi).1, hv]) (g := mkF _ _ _ _) rfl rfl (hb q hd) _ r
theorem W.baload {j : Int32} (A : W l Z n0 y bytes maxl ret R G h pc Ls (.int j :: .ref a :: St) C S) (hd : decode bytes pc = .ok (.baload, 1)) (F : Ars Z h a .byte N f) {i : Nat} (hj : j.toInt = i) (hi : i < N) {v : Value} (hv : f i = v) (hp : pc + 1 = pc') : W l Z n0 y bytes maxl ret R G h pc' Ls (v :: St) C S := by
  subst hp
  obtain ⟨cl, Ar, hs, hN, hf⟩ := F
  obtain ⟨q1, q2⟩ := inb hs hj hi
  exact A.step fun X hx hZ hown q eT r => X.baloadBytes hx (by rw [eT]; exact Ar.1) (State.isArrayOf_alike hZ.alike Ar.2.1) Ar.2.2 q1 (by rw [q2, (hf i hi).1, hv]) (g := mkF _ _ _ _) rfl rfl (hb q hd) _ r
theorem W.caload {j : Int32} (A : W l Z n0 y bytes maxl ret R G h pc Ls (.int j :: .ref a :: St) C S) (hd : decode bytes pc = .ok (.caload, 1)) (F : Ars Z h a .char N f) {i : Nat} (hj : j.toInt = i) (hi : i < N) {v : Value} (hv : f i = v) (hp : pc + 1 = pc') : W l Z n0 y bytes maxl ret R G h pc' Ls (v :: St) C S := by
  subst hp
  obtain ⟨cl, Ar, hs, hN, hf⟩ := F
  obtain ⟨q1, q2⟩ := inb hs hj hi
  exact A.step fun X hx hZ hown q eT r => X.caload hx (by rw [eT]; exact Ar.1) (State.isArrayOf_alike hZ.alike Ar.2.1) Ar.2.2 q1 (by rw [q2, (hf i hi).1, hv]) (g := mkF _ _ _ _) rfl rfl (hb q hd) _ r
theorem W.iastore {j x : Int32} (A : W l Z n0 y bytes maxl ret R G h pc Ls (.int x :: .int j :: .ref a :: St) C S) (hd : decode bytes pc = .ok (.iastore, 1)) (F : Ars Z h a .int N f) {i : Nat} (hj : j.toInt = i) (hi : i < N) (ga : n0 ≤ a) (hp : pc + 1 = pc') : ∃ h', Wr h h' a i (.int x) ∧ Ars Z h' a .int N (upd f i (.int x)) ∧ W l Z n0 y bytes maxl ret R G h' pc' Ls St C S := by
  subst hp
  have F0 := F
  obtain ⟨cl, Ar, hs, hN, hf⟩ := F
  obtain ⟨q1, q2⟩ := inb hs hj hi
  obtain ⟨p, e, s, m, args, below, meth, c, st⟩ := G
  obtain ⟨hx, hZ, hby, hml, hown, hnm, hrt, hlk, hn0, T, locs, X, Nf, eT, k⟩ := A
  have hfit : fits .int (.int x) = true := rfl
  obtain ⟨T', h', X', e', W', st'⟩ := stI X hx hZ eT Ar q1 (g := mkF m pc Ls _) rfl rfl (hb hby hd)
  rw [q2] at W'
  exact ⟨h', W', F0.same W' hi hfit, W.mk hx hZ hby hml hown hnm hrt hlk hn0 X' (Fr.snoc X' Nf ga) e' (fun t q => k t (st' t q))⟩
theorem W.lastore {j : Int32} {x : Int64} (A : W l Z n0 y bytes maxl ret R G h pc Ls (.long x :: .int j :: .ref a :: St) C S) (hd : decode bytes pc = .ok (.lastore, 1)) (F : Ars Z h a .long N f) {i : Nat} (hj : j.toInt = i) (hi : i < N) (ga : n0 ≤ a) (hp : pc + 1 = pc') : ∃ h', Wr h h' a i (.long x) ∧ Ars Z h' a .long N (upd f i (.long x)) ∧ W l Z n0 y bytes maxl ret R G h' pc' Ls St C S := by
  subst hp
  have F0 := F
  obtain ⟨cl, Ar, hs, hN, hf⟩ := F
  obtain ⟨q1, q2⟩ := inb hs hj hi
  obtain ⟨p, e, s, m, args, below, meth, c, st⟩ := G
  obtain ⟨hx, hZ, hby, hml, hown, hnm, hrt, hlk, hn0, T, locs, X, Nf, eT, k⟩ := A
  have hfit : fits .long (.long x) = true := rfl
  obtain ⟨T', h', X', e', W', st'⟩ := stJ X hx hZ eT Ar q1 (g := mkF m pc Ls _) rfl rfl (hb hby hd)
  rw [q2] at W'
  exact ⟨h', W', F0.same W' hi hfit, W.mk hx hZ hby hml hown hnm hrt hlk hn0 X' (Fr.snoc X' Nf ga) e' (fun t q => k t (st' t q))⟩
theorem W.bastore {j x : Int32} (A : W l Z n0 y bytes maxl ret R G h pc Ls (.int x :: .int j :: .ref a :: St) C S) (hd : decode bytes pc = .ok (.bastore, 1)) (F : Ars Z h a .byte N f) {i : Nat} (hj : j.toInt = i) (hi : i < N) (ga : n0 ≤ a) (hp : pc + 1 = pc') : ∃ h', Wr h h' a i (.int x.toInt8.toInt32) ∧ Ars Z h' a .byte N (upd f i (.int x.toInt8.toInt32)) ∧ W l Z n0 y bytes maxl ret R G h' pc' Ls St C S := by
  subst hp
  have F0 := F
  obtain ⟨cl, Ar, hs, hN, hf⟩ := F
  obtain ⟨q1, q2⟩ := inb hs hj hi
  obtain ⟨p, e, s, m, args, below, meth, c, st⟩ := G
  obtain ⟨hx, hZ, hby, hml, hown, hnm, hrt, hlk, hn0, T, locs, X, Nf, eT, k⟩ := A
  have hfit : fits .byte (.int x.toInt8.toInt32) = true := fits_nar_byte x
  obtain ⟨T', h', X', e', W', st'⟩ := stB X hx hZ eT Ar q1 (g := mkF m pc Ls _) rfl rfl (hb hby hd)
  rw [q2] at W'
  exact ⟨h', W', F0.same W' hi hfit, W.mk hx hZ hby hml hown hnm hrt hlk hn0 X' (Fr.snoc X' Nf ga) e' (fun t q => k t (st' t q))⟩
theorem W.castore {j x : Int32} (A : W l Z n0 y bytes maxl ret R G h pc Ls (.int x :: .int j :: .ref a :: St) C S) (hd : decode bytes pc = .ok (.castore, 1)) (F : Ars Z h a .char N f) {i : Nat} (hj : j.toInt = i) (hi : i < N) (ga : n0 ≤ a) (hp : pc + 1 = pc') : ∃ h', Wr h h' a i (.int (nar .char x)) ∧ Ars Z h' a .char N (upd f i (.int (nar .char x))) ∧ W l Z n0 y bytes maxl ret R G h' pc' Ls St C S := by
  subst hp
  have F0 := F
  obtain ⟨cl, Ar, hs, hN, hf⟩ := F
  obtain ⟨q1, q2⟩ := inb hs hj hi
  obtain ⟨p, e, s, m, args, below, meth, c, st⟩ := G
  obtain ⟨hx, hZ, hby, hml, hown, hnm, hrt, hlk, hn0, T, locs, X, Nf, eT, k⟩ := A
  have hfit : fits .char (.int (nar .char x)) = true := fits_nar_char x
  obtain ⟨T', h', X', e', W', st'⟩ := stC X hx hZ eT Ar q1 (g := mkF m pc Ls _) rfl rfl (hb hby hd)
  rw [q2] at W'
  exact ⟨h', W', F0.same W' hi hfit, W.mk hx hZ hby hml hown hnm hrt hlk hn0 X' (Fr.snoc X' Nf ga) e' (fun t q => k t (st' t q))⟩
theorem W.clone (A : W l Z n0 y bytes maxl ret R G h pc Ls (.ref a :: St) C S) {index cap : Nat} {ad : String} (hd : decode bytes pc = .ok (.invokevirtual index, 3)) (w1 : (Jvm.Cond.methodLink y.cls index ⟨ad, "clone", "()Ljava/lang/Object;"⟩).before a0 Z = true) (w2 : (Jvm.Cond.sameMethod ad "java/lang/Object" "clone" "()Ljava/lang/Object;").before a0 Z = true) (w3 : (Jvm.Cond.native ⟨"java/lang/Object", "clone", "()Ljava/lang/Object;"⟩).before a0 Z = true)
    (w4 : (Jvm.Cond.instanceMethod ⟨"java/lang/Object", "clone", "()Ljava/lang/Object;"⟩).before a0 Z = true) (w5 : (Jvm.Cond.selects ad ⟨ad, "clone", "()Ljava/lang/Object;"⟩ ⟨"java/lang/Object", "clone", "()Ljava/lang/Object;"⟩).before a0 Z = true) (w6 : (Jvm.Cond.castable ad "java/lang/Cloneable").before a0 Z = true) (F : Ars Z h a ty N f) (E : Exa Z h a ad) (hcap : N ≤ cap) (hsz : Ls.size = maxl) (hf : 1 ≤ R.frames) (hlo : (St.map fun v => v.category).sum + 14 ≤ R.locals) (hC : C + 1 ≤ R.cells) (hS : S + cap ≤ R.slots) (hC' : C + 1 = C') (hS' : S + cap = S') (hp : pc + 3 = pc') :
    ∃ h' b, b = h.size ∧ n0 ≤ b ∧ Ext h h' ∧ Ars Z h' b ty N f ∧ Exa Z h' b ad ∧ W l Z n0 y bytes maxl ret R G h' pc' Ls (.ref b :: St) C' S' := by
  subst hp hC' hS'
  have hs0 := A.size
  obtain ⟨cl, Ar, hs, hN, hv⟩ := F
  have FC : FitC Z cl := fitC_of Ar fun i hi v q => by rw [hs] at hi; rw [(hv i hi).1] at q; cases q; exact (hv i hi).2
  obtain ⟨p, e, s, m, args, below, meth, c, st⟩ := G
  obtain ⟨hx, hZ, hby, hml, hown, hnm, hrt, hlk, hn0, T, locs, X, Nf, eT, k⟩ := A
  obtain ⟨T', h', X', e', E', A', Ex', st'⟩ := cloneA X hx hZ hown w1 w2 w3 w4 w5 w6 eT Ar E FC (g := mkF m pc Ls (.ref a :: St)) rfl (by rw [hml]; exact hsz) rfl (hb hby hd) hf (W := (St.map fun v => v.category).sum) (by show 2 * 0 + _ ≤ _; omega) hlo (by rw [hs]; exact hcap) hC hS
  exact ⟨h', h.size, rfl, hs0, E', ⟨_, A', hs, hN, hv⟩, Ex', W.mk hx hZ hby hml hown hnm hrt hlk hn0 X' Nf e' (fun t q => k t (st' t q))⟩
/-! System.arraycopy -/
def cpy (f : Nat → Value) (i : Nat) (g : Nat → Value) (j k : Nat) : Nat → Value := fun x => if j ≤ x ∧ x < j + k then f (i + (x - j)) else g x
theorem Ars.toArv (F : Ars Z h a ty N f) : ∃ k, Arv Z h a k ty (Int32.ofNat N) ((List.range N).map f) (.int 0) := by
  obtain ⟨c, A, hs, hN, hv⟩ := F
  have e : (Int32.ofNat N).toInt = N := Int32.toInt_ofNat_of_lt hN
  have e0 : (0 : Int32).toInt = 0 := rfl
  have q : (Int32.ofNat N).toNatClampNeg = N := by simp only [Int32.toNatClampNeg]; omega
  have hd : ∀ i, i < N → ((List.range N).map f).getD i (.int 0) = f i := fun i hi => by simp [List.getD_eq_getElem?_getD, hi]
  refine ⟨c.cls, c, A, rfl, by rw [q]; exact hs, by rw [Int32.lt_iff_toInt_lt]; omega, fun i hi => ?_, fun i hi => ?_⟩
  · rw [hs] at hi; rw [hd i hi]; exact (hv i hi).1
  · rw [hs] at hi; rw [hd i hi]; exact (hv i hi).2
theorem W.acopy {b : Addr} {sp dp nn : Int32} (A : W l Z n0 y bytes maxl ret R G h pc Ls (.int nn :: .int dp :: .ref b :: .int sp :: .ref a :: St) C S) {idx i j k N' : Nat} {g : Nat → Value} (hd : decode bytes pc = .ok (.invokestatic idx, 3)) (w1 : (Jvm.Cond.methodLink y.cls idx Jvm.Stand.acN).before a0 Z = true) (w2 : (Jvm.Cond.native Jvm.Stand.acN).before a0 Z = true) (w3 : (Jvm.Cond.static Jvm.Stand.acN).before a0 Z = true) (w4 : (Jvm.Cond.initialized "java/lang/System").before a0 Z = true)
    (F : Ars Z h a ty N f) (D : Ars Z h b ty N' g) (hty : refKind ty = false) (hsp : sp.toInt = i) (hdp : dp.toInt = j) (hnn : nn.toInt = k) (h4 : i + k ≤ N) (h5 : j + k ≤ N') (gb : n0 ≤ b) (hsz : Ls.size = maxl) (hf : 1 ≤ R.frames) (hlo : (St.map fun v => v.category).sum + (nativeFrameWords "java/lang/System" "arraycopy" 5 + 11) ≤ R.locals) (hp : pc + 3 = pc') :
    ∃ h', Keep h h' [b] ∧ Ars Z h' b ty N' (cpy f i g j k) ∧ W l Z n0 y bytes maxl ret R G h' pc' Ls St C S := by
  subst hp
  have FN := F.size
  have DN := D.size
  obtain ⟨kF, VF⟩ := F.toArv
  obtain ⟨kD, VD⟩ := D.toArv
  have e0 : (0 : Int32).toInt = 0 := rfl
  have c1 : sp.toNatClampNeg = i := by simp only [Int32.toNatClampNeg]; omega
  have c2 : dp.toNatClampNeg = j := by simp only [Int32.toNatClampNeg]; omega
  have c3 : nn.toNatClampNeg = k := by simp only [Int32.toNatClampNeg]; omega
  have eN : (Int32.ofNat N).toNatClampNeg = N := by have := Int32.toInt_ofNat_of_lt FN; simp only [Int32.toNatClampNeg]; omega
  have eN' : (Int32.ofNat N').toNatClampNeg = N' := by have := Int32.toInt_ofNat_of_lt DN; simp only [Int32.toNatClampNeg]; omega
  have p1 : ¬ sp < 0 := by rw [Int32.lt_iff_toInt_lt]; omega
  have p2 : ¬ dp < 0 := by rw [Int32.lt_iff_toInt_lt]; omega
  have p3 : ¬ nn < 0 := by rw [Int32.lt_iff_toInt_lt]; omega
  obtain ⟨p, e, s, m, args, below, meth, c, st⟩ := G
  obtain ⟨hx, hZ, hby, hml, hown, hnm, hrt, hlk, hn0, T, locs, X, Nf, eT, kk⟩ := A
  obtain ⟨T', h', L', X', e', N2, K2, V2, st'⟩ := cpA X hx hZ hown w1 w2 w3 w4 eT VF VD (Or.inl ⟨rfl, hty⟩) (sp := sp) (dp := dp) (nn := nn) p1 p2 p3 (by rw [c1, c3, eN]; exact h4) (by rw [c2, c3, eN']; exact h5) rfl (by rw [c2, c3]; simpa using h5) Nf gb (g := mkF m pc Ls (.int nn :: .int dp :: .ref b :: .int sp :: .ref a :: St)) rfl (by rw [hml]; exact hsz) rfl (hb hby hd) hf (W := (St.map fun v => v.category).sum) (by show 2 * 0 + _ ≤ _; omega) hlo
  refine ⟨h', K2, ?_, W.mk hx hZ hby hml hown hnm hrt hlk hn0 X' N2 e' (fun t q => kk t (st' t q))⟩
  obtain ⟨cd, Ad, -, Sd, -, Hd, Gd⟩ := V2
  rw [eN'] at Sd
  rw [c1, c2, c3] at Hd Gd
  have key : ∀ x, x < N' → (List.take j ((List.range N').map g) ++ (List.map (fun i_1 => ((List.range N).map f).getD (i + i_1) (.int 0)) (List.range k)) ++ List.drop (j + k) ((List.range N').map g)).getD x (.int 0) = cpy f i g j k x := fun x hx' => by
    simp only [List.getD_eq_getElem?_getD, cpy]
    by_cases q1 : x < j
    · rw [List.getElem?_append_left (by simp; omega), List.getElem?_append_left (by simp; omega), if_neg (by omega)]
      simp [List.getElem?_take, q1, hx']
    · by_cases q2 : x < j + k
      · rw [List.getElem?_append_left (by simp; omega), List.getElem?_append_right (by simp; omega), if_pos (by omega)]
        have l1 : (List.take j ((List.range N').map g)).length = j := by simp; omega
        rw [l1]
        have q3 : x - j < k := by omega
        have q4 : i + (x - j) < N := by omega
        simp [List.getElem?_map, List.getElem?_range, q3, q4]
      · rw [List.getElem?_append_right (by simp; omega), if_neg (by omega)]
        have l1 : (List.take j ((List.range N').map g) ++ (List.map (fun i_1 => (((List.range N).map f)[i + i_1]?).getD (.int 0)) (List.range k))).length = j + k := by simp; omega
        rw [l1, List.getElem?_drop]
        have q3 : j + k + (x - (j + k)) = x := by omega
        rw [q3]; simp [hx']
  refine ⟨cd, Ad, Sd, DN, fun x hx' => ?_⟩
  have a1 := Hd x (by omega)
  have a2 := Gd x (by omega)
  rw [key x hx'] at a1 a2
  exact ⟨a1, a2⟩
end Heaps
end Jvm.Pilot.@@N@@
namespace Jvm.Pilot.@@N@@
open Jvm Jvm.ClassFile Sem Op Lib Jvm.Free Jvm.Stand Jvm.LawKit Jvm.RoadKit Bundle Jvm.Pilot.@@N@@.Jvm.D
/-! V: as W, where String constants may have been loaded since the start (its tables re-based) -/
def V (l : Launch) (Z : State) (n0 : Nat) (y : MethodName) (bytes : ByteArray) (maxl : Nat) (ret : Option FieldType) (R : Room) (G : Cx) (h : Heap) (pc : Nat) (Ls : Array Slot) (St : List Value) (cells slots : Nat) : Prop :=
  match G with
  | (p, e, s, m, args, below, meth, c, st) =>
    p.tables.exec = Jvm.exec ∧ c.code = bytes ∧ c.maxLocals = maxl ∧ meth.name = y.name ∧ meth.sig.returnType = ret ∧ meth.locks = false ∧ n0 ≤ s.heap.size ∧
    ∃ (vm0 : Vm) (k0 : Nat), s.Since vm0 k0 ∧ k0 ≤ h.size ∧ Z.Warmed39 (s.setVm vm0).vm ∧ (s.setVm vm0).vm.findClass y.cls = some m.cls ∧
    ∃ (T : State) (locs : List Loc), Stand p l e R (s.setVm vm0) m args below meth c T locs cells slots ∧ Fr n0 locs ∧ T.heap = h ∧ ∀ t, Steps p.tables e below (T.setTop (mkF m pc Ls St)) t → Steps p.tables e below st t
def GlV (R : Room) (n0 : Nat) (G : Cx) (Q : Option Value → Heap → Prop) : Prop :=
  match G with
  | (p, e, s, m, args, below, meth, c, st) => ∃ s₂ o, Steps p.tables e below st s₂ ∧ s₂.status = .running ∧ Ended s₂ below o ∧ ∃ v L, o = .returned v ∧ (Fr n0 L ∧ Q v s₂.heap) ∧ ReturnedEndW s o s₂ L R.cells R.slots
def CtrV (l : Launch) (Z : State) (n0 : Nat) (y : MethodName) (bytes : ByteArray) (maxl : Nat) (ret : Option FieldType) (ws : List Jvm.Cond) (R : Room) (as : Array Value) (h0 : Heap) (Q : Option Value → Heap → Prop) : Prop :=
  MetFree l y (head1 (Jvm.Cond.code y bytes maxl ret :: ws) R) (fun a U => a = as ∧ Z.Warmed39 U.vm ∧ U.heap = h0) (fun _ _ _ _ _ => True) (fun _ U o U' => ∃ v L, o = .returned v ∧ (Fr n0 L ∧ Q v U'.heap) ∧ ReturnedEndW U o U' L R.cells R.slots)
section WalkV
variable {l : Launch} {Z : State} {n0 : Nat} {y : MethodName} {bytes : ByteArray} {maxl : Nat} {ret : Option FieldType} {R : Room} {G : Cx} {h h' : Heap} {pc pc' : Nat} {Ls : Array Slot} {St : List Value} {C S C' S' : Nat} {Q : Option Value → Heap → Prop} {a0 : Array Value} {a b : Addr} {ty : FieldType} {N : Nat} {f : Nat → Value} {ws : List Addr} {sl : Nat} {v : Value}
theorem Ctr.wide {wc : List Jvm.Cond} {as : Array Value} (hM : Ctr l Z n0 y bytes maxl ret wc R as h Q) : CtrV l Z n0 y bytes maxl ret wc R as h Q := fun p e ha hc hk s m args below hf happ hP hK => by
  obtain ⟨n, o, h1, h2, h3, v, L, ho, hq, hF⟩ := hM p e ha hc hk s m args below hf happ hP hK
  exact ⟨n, o, h1, h2, h3, v, L, ho, hq, ReturnedEndW.of_narrow hF.1 hF.2.1 hF.2.2⟩
theorem V.mk {p : Program} {e : Env} {s : State} {m : MethodId} {args : Array Value} {below : List Frame} {meth : Method} {c : Code} {st : State} {T : State} {locs : List Loc} {vm0 : Vm} {k0 : Nat} (hx : p.tables.exec = Jvm.exec) (hZ : Z.Warmed39 (s.setVm vm0).vm) (hby : c.code = bytes) (hml : c.maxLocals = maxl) (hown : (s.setVm vm0).vm.findClass y.cls = some m.cls) (hnm : meth.name = y.name) (hrt : meth.sig.returnType = ret) (hlk : meth.locks = false) (hn0 : n0 ≤ s.heap.size) (hS : s.Since vm0 k0) (hk : k0 ≤ h.size)
    (X : Stand p l e R (s.setVm vm0) m args below meth c T locs C S) (N : Fr n0 locs) (eT : T.heap = h) (k : ∀ t, Steps p.tables e below (T.setTop (mkF m pc Ls St)) t → Steps p.tables e below st t) : V l Z n0 y bytes maxl ret R (p, e, s, m, args, below, meth, c, st) h pc Ls St C S :=
  show _ ∧ _ from ⟨hx, hby, hml, hnm, hrt, hlk, hn0, vm0, k0, hS, hk, hZ, hown, T, locs, X, N, eT, k⟩
theorem ctrV_of {wc : List Jvm.Cond} {as : Array Value} (hpn : plainFor y = true) (hn0 : n0 ≤ h.size) (hef : ∀ m, entryFrame m as maxl = mkF m 0 Ls []) (body : ∀ G, V l Z n0 y bytes maxl ret R G h 0 Ls [] 0 0 → GlV R n0 G Q) : CtrV l Z n0 y bytes maxl ret wc R as h Q := by
  refine MetFree.of_bodySF hpn hisR ?_
  intro p e s m args below meth c s₁ Bd hml0 hP hK
  obtain ⟨rfl, hZ, hh⟩ := hP
  have e0 : s₁.heap = h := by rw [← hh, Bd.state]; rfl
  have X0 : Stand p l e R (s.setVm s.vm) m args below meth c s₁ [] 0 0 := Stand.of_body Bd
  have hS : s.Since s.vm 0 := ⟨State.Warmed39.refl s, fun j q hj hp => by rw [Array.getElem?_eq_none hj] at hp; cases hp⟩
  exact body (p, e, s, m, args, below, meth, c, s₁.setTop (entryFrame m args maxl)) (V.mk Bd.exec hZ Bd.bytes hml0 (findClass_of_methodNamed Bd.named) (name_of_methodNamed Bd.named Bd.method).1 Bd.returns (BodyLoose.notSynchronized Bd) (hh ▸ hn0) hS (Nat.zero_le _) X0 (Fr.nil n0) e0 (fun t k => castTop (hef m) k))
theorem V.size (A : V l Z n0 y bytes maxl ret R G h pc Ls St C S) : n0 ≤ h.size := by
  obtain ⟨p, e, s, m, args, below, meth, c, st⟩ := G
  obtain ⟨hx, hby, hml, hnm, hrt, hlk, hn0, vm0, k0, hS, hk, hZ, hown, T, locs, X, N, eT, k⟩ := A
  exact Nat.le_trans hn0 (by rw [← eT]; exact X.same.2.1)
theorem V.more (A : V l Z n0 y bytes maxl ret R G h pc Ls St C S) (hC : C ≤ C') (hSl : S ≤ S') : V l Z n0 y bytes maxl ret R G h pc Ls St C' S' := by
  obtain ⟨p, e, s, m, args, below, meth, c, st⟩ := G
  obtain ⟨hx, hby, hml, hnm, hrt, hlk, hn0, vm0, k0, hS, hk, hZ, hown, T, locs, X, N, eT, k⟩ := A
  exact V.mk hx hZ hby hml hown hnm hrt hlk hn0 hS hk (X.more hC hSl) N eT k
theorem V.cast {Ls' : Array Slot} {St' : List Value} (A : V l Z n0 y bytes maxl ret R G h pc Ls St C S) (hp : pc = pc') (hL : Ls = Ls') (hSt : St = St') : V l Z n0 y bytes maxl ret R G h pc' Ls' St' C S := by subst hp hL hSt; exact A
theorem V.topI {x z : Int32} (A : V l Z n0 y bytes maxl ret R G h pc Ls (.int x :: St) C S) (q : x = z) : V l Z n0 y bytes maxl ret R G h pc Ls (.int z :: St) C S := q ▸ A
theorem V.topJ {x z : Int64} (A : V l Z n0 y bytes maxl ret R G h pc Ls (.long x :: St) C S) (q : x = z) : V l Z n0 y bytes maxl ret R G h pc Ls (.long z :: St) C S := q ▸ A
theorem V.step (A : V l Z n0 y bytes maxl ret R G h pc Ls St C S) {Ls' : Array Slot} {St' : List Value}
    (f : ∀ {p : Program} {e : Env} {s : State} {m : MethodId} {args : Array Value} {below : List Frame} {meth : Method} {c : Code} {T t : State} {locs : List Loc}, Stand p l e R s m args below meth c T locs C S → p.tables.exec = Jvm.exec → Z.Warmed39 s.vm → s.vm.findClass y.cls = some m.cls → c.code = bytes → T.heap = h → Steps p.tables e below (T.setTop (mkF m pc' Ls' St')) t → Steps p.tables e below (T.setTop (mkF m pc Ls St)) t) : V l Z n0 y bytes maxl ret R G h pc' Ls' St' C S := by
  obtain ⟨p, e, s, m, args, below, meth, c, st⟩ := G
  obtain ⟨hx, hby, hml, hnm, hrt, hlk, hn0, vm0, k0, hS, hk, hZ, hown, T, locs, X, N, eT, k⟩ := A
  exact V.mk hx hZ hby hml hown hnm hrt hlk hn0 hS hk X N eT (fun t q => k t (f X hx hZ hown hby eT q))
theorem V.stepT (A : V l Z n0 y bytes maxl ret R G h pc Ls St C S) {Ls' : Array Slot} {St' : List Value}
    (f : ∀ {p : Program} {e : Env} {s : State} {m : MethodId} {args : Array Value} {below : List Frame} {meth : Method} {c : Code} {T : State} {locs : List Loc}, Stand p l e R s m args below meth c T locs C S → p.tables.exec = Jvm.exec → Z.Warmed39 s.vm → s.vm.findClass y.cls = some m.cls → c.code = bytes → c.maxLocals = maxl → T.heap = h →
      ∃ T', Stand p l e R s m args below meth c T' locs C S ∧ T'.heap = h ∧ ∀ t, Steps p.tables e below (T'.setTop (mkF m pc' Ls' St')) t → Steps p.tables e below (T.setTop (mkF m pc Ls St)) t) : V l Z n0 y bytes maxl ret R G h pc' Ls' St' C S := by
  obtain ⟨p, e, s, m, args, below, meth, c, st⟩ := G
  obtain ⟨hx, hby, hml, hnm, hrt, hlk, hn0, vm0, k0, hS, hk, hZ, hown, T, locs, X, N, eT, k⟩ := A
  obtain ⟨T', X', e', st'⟩ := f X hx hZ hown hby hml eT
  exact V.mk hx hZ hby hml hown hnm hrt hlk hn0 hS hk X' N e' (fun t q => k t (st' t q))
theorem V.iloadN (A : V l Z n0 y bytes maxl ret R G h pc Ls St C S) {k : Fin 4} {v : Int32} (hd : decode bytes pc = .ok (.iload_n k, 1)) (hl : Ls[k.val]? = some (.val (.int v))) (hp : pc + 1 = pc') : V l Z n0 y bytes maxl ret R G h pc' Ls (.int v :: St) C S := by
  subst hp; exact A.step fun X hx _ _ q _ r => XS.iloadN X.here hx rfl (hb q hd) hl r
theorem V.iload (A : V l Z n0 y bytes maxl ret R G h pc Ls St C S) {k : Nat} {v : Int32} (hd : decode bytes pc = .ok (.iload k, 2)) (hl : Ls[k]? = some (.val (.int v))) (hp : pc + 2 = pc') : V l Z n0 y bytes maxl ret R G h pc' Ls (.int v :: St) C S := by
  subst hp; exact A.step fun X hx _ _ q _ r => XS.iload X.here hx rfl (hb q hd) hl r
theorem V.lloadN (A : V l Z n0 y bytes maxl ret R G h pc Ls St C S) {k : Fin 4} {v : Int64} (hd : decode bytes pc = .ok (.lload_n k, 1)) (hl : Ls[k.val]? = some (.val (.long v))) (hp : pc + 1 = pc') : V l Z n0 y bytes maxl ret R G h pc' Ls (.long v :: St) C S := by
  subst hp; exact A.step fun X hx _ _ q _ r => XS.lloadN X.here hx rfl (hb q hd) hl r
theorem V.lload (A : V l Z n0 y bytes maxl ret R G h pc Ls St C S) {k : Nat} {v : Int64} (hd : decode bytes pc = .ok (.lload k, 2)) (hl : Ls[k]? = some (.val (.long v))) (hp : pc + 2 = pc') : V l Z n0 y bytes maxl ret R G h pc' Ls (.long v :: St) C S := by
  subst hp; exact A.step fun X hx _ _ q _ r => XS.lload X.here hx rfl (hb q hd) hl r
theorem V.aloadN (A : V l Z n0 y bytes maxl ret R G h pc Ls St C S) {k : Fin 4} {v : Value} (hd : decode bytes pc = .ok (.aload_n k, 1)) (hl : Ls[k.val]? = some (.val v)) (hv : v.isRef = true) (hp : pc + 1 = pc') : V l Z n0 y bytes maxl ret R G h pc' Ls (v :: St) C S := by
  subst hp; exact A.step fun X hx _ _ q _ r => XS.aloadN X.here hx rfl (hb q hd) hl hv r
theorem V.aload (A : V l Z n0 y bytes maxl ret R G h pc Ls St C S) {k : Nat} {v : Value} (hd : decode bytes pc = .ok (.aload k, 2)) (hl : Ls[k]? = some (.val v)) (hv : v.isRef = true) (hp : pc + 2 = pc') : V l Z n0 y bytes maxl ret R G h pc' Ls (v :: St) C S := by
  subst hp; exact A.step fun X hx _ _ q _ r => XS.aload X.here hx rfl (hb q hd) hl hv r
theorem V.istoreN {v : Int32} (A : V l Z n0 y bytes maxl ret R G h pc Ls (.int v :: St) C S) {k : Fin 4} {Ls' : Array Slot} (hd : decode bytes pc = .ok (.istore_n k, 1)) (hl : storeLocals Ls k.val (.int v) = some Ls') (hp : pc + 1 = pc') : V l Z n0 y bytes maxl ret R G h pc' Ls' St C S := by
  subst hp; exact A.step fun X hx _ _ q _ r => XS.istoreN X.here hx rfl (hb q hd) rfl hl r
theorem V.istore {v : Int32} (A : V l Z n0 y bytes maxl ret R G h pc Ls (.int v :: St) C S) {k : Nat} {Ls' : Array Slot} (hd : decode bytes pc = .ok (.istore k, 2)) (hl : storeLocals Ls k (.int v) = some Ls') (hp : pc + 2 = pc') : V l Z n0 y bytes maxl ret R G h pc' Ls' St C S := by
  subst hp; exact A.step fun X hx _ _ q _ r => XS.istore X.here hx rfl (hb q hd) rfl hl r
theorem V.lstoreN {v : Int64} (A : V l Z n0 y bytes maxl ret R G h pc Ls (.long v :: St) C S) {k : Fin 4} {Ls' : Array Slot} (hd : decode bytes pc = .ok (.lstore_n k, 1)) (hl : storeLocals Ls k.val (.long v) = some Ls') (hp : pc + 1 = pc') : V l Z n0 y bytes maxl ret R G h pc' Ls' St C S := by
  subst hp; exact A.step fun X hx _ _ q _ r => XS.lstoreN X.here hx rfl (hb q hd) rfl hl r
theorem V.lstore {v : Int64} (A : V l Z n0 y bytes maxl ret R G h pc Ls (.long v :: St) C S) {k : Nat} {Ls' : Array Slot} (hd : decode bytes pc = .ok (.lstore k, 2)) (hl : storeLocals Ls k (.long v) = some Ls') (hp : pc + 2 = pc') : V l Z n0 y bytes maxl ret R G h pc' Ls' St C S := by
  subst hp; exact A.step fun X hx _ _ q _ r => XS.lstore X.here hx rfl (hb q hd) rfl hl r
theorem V.astoreN {v : Value} (A : V l Z n0 y bytes maxl ret R G h pc Ls (v :: St) C S) {k : Fin 4} {Ls' : Array Slot} (hd : decode bytes pc = .ok (.astore_n k, 1)) (hv : v.isRef = true) (hl : storeLocals Ls k.val v = some Ls') (hp : pc + 1 = pc') : V l Z n0 y bytes maxl ret R G h pc' Ls' St C S := by
  subst hp; exact A.step fun X hx _ _ q _ r => XS.astoreN X.here hx rfl (hb q hd) rfl hv hl r
theorem V.astore {v : Value} (A : V l Z n0 y bytes maxl ret R G h pc Ls (v :: St) C S) {k : Nat} {Ls' : Array Slot} (hd : decode bytes pc = .ok (.astore k, 2)) (hv : v.isRef = true) (hl : storeLocals Ls k v = some Ls') (hp : pc + 2 = pc') : V l Z n0 y bytes maxl ret R G h pc' Ls' St C S := by
  subst hp; exact A.step fun X hx _ _ q _ r => XS.astore X.here hx rfl (hb q hd) rfl hv hl r
theorem V.iconst (A : V l Z n0 y bytes maxl ret R G h pc Ls St C S) {i : Int} {z : Int32} (hd : decode bytes pc = .ok (.iconst i, 1)) (hz : Int32.ofInt i = z) (hp : pc + 1 = pc') : V l Z n0 y bytes maxl ret R G h pc' Ls (.int z :: St) C S := by
  subst hp hz; exact A.step fun X hx _ _ q _ r => XS.iconst X.here hx rfl (hb q hd) r
theorem V.bipush (A : V l Z n0 y bytes maxl ret R G h pc Ls St C S) {i : Int} {z : Int32} (hd : decode bytes pc = .ok (.bipush i, 2)) (hz : (Int8.ofInt i).toInt32 = z) (hp : pc + 2 = pc') : V l Z n0 y bytes maxl ret R G h pc' Ls (.int z :: St) C S := by
  subst hp hz; exact A.step fun X hx _ _ q _ r => XS.bipush X.here hx rfl (hb q hd) r
theorem V.sipush (A : V l Z n0 y bytes maxl ret R G h pc Ls St C S) {i : Int} {z : Int32} (hd : decode bytes pc = .ok (.sipush i, 3)) (hz : (Int16.ofInt i).toInt32 = z) (hp : pc + 3 = pc') : V l Z n0 y bytes maxl ret R G h pc' Ls (.int z :: St) C S := by
  subst hp hz; exact A.step fun X hx _ _ q _ r => XS.sipush X.here hx rfl (hb q hd) r
theorem V.lconst (A : V l Z n0 y bytes maxl ret R G h pc Ls St C S) {k : Fin 2} {z : Int64} (hd : decode bytes pc = .ok (.lconst k, 1)) (hz : Int64.ofNat k.val = z) (hp : pc + 1 = pc') : V l Z n0 y bytes maxl ret R G h pc' Ls (.long z :: St) C S := by
  subst hp hz; exact A.step fun X hx _ _ q _ r => XS.lconst X.here hx rfl (hb q hd) r
theorem V.aconstNull (A : V l Z n0 y bytes maxl ret R G h pc Ls St C S) (hd : decode bytes pc = .ok (.aconst_null, 1)) (hp : pc + 1 = pc') : V l Z n0 y bytes maxl ret R G h pc' Ls (.null :: St) C S := by
  subst hp; exact A.step fun X hx _ _ q _ r => XS.aconstNull X.here hx rfl (hb q hd) r
theorem V.ldc (A : V l Z n0 y bytes maxl ret R G h pc Ls St C S) {i : Nat} {z : Int32} (hd : decode bytes pc = .ok (.ldc i, 2)) (w : (Jvm.Cond.constant y.cls i z).before a0 Z = true) (hp : pc + 2 = pc') : V l Z n0 y bytes maxl ret R G h pc' Ls (.int z :: St) C S := by
  subst hp; exact A.step fun X hx hZ hown q _ r => X.ldcInt hx hown (mvT hZ w) (g := mkF _ pc Ls St) rfl (hb q hd) _ r
theorem V.ldcW (A : V l Z n0 y bytes maxl ret R G h pc Ls St C S) {i : Nat} {z : Int32} (hd : decode bytes pc = .ok (.ldc_w i, 3)) (w : (Jvm.Cond.constant y.cls i z).before a0 Z = true) (hp : pc + 3 = pc') : V l Z n0 y bytes maxl ret R G h pc' Ls (.int z :: St) C S := by
  subst hp; exact A.step fun X hx hZ hown q _ r => X.ldcwInt hx hown (mvT hZ w) (g := mkF _ pc Ls St) rfl (hb q hd) _ r
theorem V.ldc2 (A : V l Z n0 y bytes maxl ret R G h pc Ls St C S) {i : Nat} {z : Int64} (hd : decode bytes pc = .ok (.ldc2_w i, 3)) (w : (Jvm.Cond.constantLong y.cls i z).before a0 Z = true) (hp : pc + 3 = pc') : V l Z n0 y bytes maxl ret R G h pc' Ls (.long z :: St) C S := by
  subst hp; exact A.step fun X hx hZ hown q _ r => X.ldc2Long hx hown (mvT hZ w) (g := mkF _ pc Ls St) rfl (hb q hd) _ r
theorem V.iinc (A : V l Z n0 y bytes maxl ret R G h pc Ls St C S) {k : Nat} {i : Int} {v z : Int32} {Ls' : Array Slot} (hd : decode bytes pc = .ok (.iinc k i, 3)) (hl : Ls[k]? = some (.val (.int v))) (hz : v + Int32.ofInt i = z) (hl' : storeLocals Ls k (.int z) = some Ls') (hp : pc + 3 = pc') : V l Z n0 y bytes maxl ret R G h pc' Ls' St C S := by
  subst hp hz; exact A.step fun X hx _ _ q _ r => XS.iinc X.here hx rfl (hb q hd) hl hl' r
theorem V.iadd {x z : Int32} (A : V l Z n0 y bytes maxl ret R G h pc Ls (.int z :: .int x :: St) C S) (hd : decode bytes pc = .ok (.iadd, 1)) (hp : pc + 1 = pc') : V l Z n0 y bytes maxl ret R G h pc' Ls (.int (x + z) :: St) C S := by
  subst hp; exact A.step fun X hx _ _ q _ r => XS.iadd X.here hx rfl (hb q hd) rfl r
theorem V.ladd {x z : Int64} (A : V l Z n0 y bytes maxl ret R G h pc Ls (.long z :: .long x :: St) C S) (hd : decode bytes pc = .ok (.ladd, 1)) (hp : pc + 1 = pc') : V l Z n0 y bytes maxl ret R G h pc' Ls (.long (x + z) :: St) C S := by
  subst hp; exact A.step fun X hx _ _ q _ r => XS.ladd X.here hx rfl (hb q hd) rfl r
theorem V.isub {x z : Int32} (A : V l Z n0 y bytes maxl ret R G h pc Ls (.int z :: .int x :: St) C S) (hd : decode bytes pc = .ok (.isub, 1)) (hp : pc + 1 = pc') : V l Z n0 y bytes maxl ret R G h pc' Ls (.int (x - z) :: St) C S := by
  subst hp; exact A.step fun X hx _ _ q _ r => XS.isub X.here hx rfl (hb q hd) rfl r
theorem V.lsub {x z : Int64} (A : V l Z n0 y bytes maxl ret R G h pc Ls (.long z :: .long x :: St) C S) (hd : decode bytes pc = .ok (.lsub, 1)) (hp : pc + 1 = pc') : V l Z n0 y bytes maxl ret R G h pc' Ls (.long (x - z) :: St) C S := by
  subst hp; exact A.step fun X hx _ _ q _ r => XS.lsub X.here hx rfl (hb q hd) rfl r
theorem V.imul {x z : Int32} (A : V l Z n0 y bytes maxl ret R G h pc Ls (.int z :: .int x :: St) C S) (hd : decode bytes pc = .ok (.imul, 1)) (hp : pc + 1 = pc') : V l Z n0 y bytes maxl ret R G h pc' Ls (.int (x * z) :: St) C S := by
  subst hp; exact A.step fun X hx _ _ q _ r => XS.imul X.here hx rfl (hb q hd) rfl r
theorem V.lmul {x z : Int64} (A : V l Z n0 y bytes maxl ret R G h pc Ls (.long z :: .long x :: St) C S) (hd : decode bytes pc = .ok (.lmul, 1)) (hp : pc + 1 = pc') : V l Z n0 y bytes maxl ret R G h pc' Ls (.long (x * z) :: St) C S := by
  subst hp; exact A.step fun X hx _ _ q _ r => XS.lmul X.here hx rfl (hb q hd) rfl r
theorem V.iand {x z : Int32} (A : V l Z n0 y bytes maxl ret R G h pc Ls (.int z :: .int x :: St) C S) (hd : decode bytes pc = .ok (.iand, 1)) (hp : pc + 1 = pc') : V l Z n0 y bytes maxl ret R G h pc' Ls (.int (x &&& z) :: St) C S := by
  subst hp; exact A.step fun X hx _ _ q _ r => XS.iand X.here hx rfl (hb q hd) rfl r
theorem V.land {x z : Int64} (A : V l Z n0 y bytes maxl ret R G h pc Ls (.long z :: .long x :: St) C S) (hd : decode bytes pc = .ok (.land, 1)) (hp : pc + 1 = pc') : V l Z n0 y bytes maxl ret R G h pc' Ls (.long (x &&& z) :: St) C S := by
  subst hp; exact A.step fun X hx _ _ q _ r => XS.land X.here hx rfl (hb q hd) rfl r
theorem V.ior {x z : Int32} (A : V l Z n0 y bytes maxl ret R G h pc Ls (.int z :: .int x :: St) C S) (hd : decode bytes pc = .ok (.ior, 1)) (hp : pc + 1 = pc') : V l Z n0 y bytes maxl ret R G h pc' Ls (.int (x ||| z) :: St) C S := by
  subst hp; exact A.step fun X hx _ _ q _ r => XS.ior X.here hx rfl (hb q hd) rfl r
theorem V.lor {x z : Int64} (A : V l Z n0 y bytes maxl ret R G h pc Ls (.long z :: .long x :: St) C S) (hd : decode bytes pc = .ok (.lor, 1)) (hp : pc + 1 = pc') : V l Z n0 y bytes maxl ret R G h pc' Ls (.long (x ||| z) :: St) C S := by
  subst hp; exact A.step fun X hx _ _ q _ r => XS.lor X.here hx rfl (hb q hd) rfl r
theorem V.ixor {x z : Int32} (A : V l Z n0 y bytes maxl ret R G h pc Ls (.int z :: .int x :: St) C S) (hd : decode bytes pc = .ok (.ixor, 1)) (hp : pc + 1 = pc') : V l Z n0 y bytes maxl ret R G h pc' Ls (.int (x ^^^ z) :: St) C S := by
  subst hp; exact A.step fun X hx _ _ q _ r => XS.ixor X.here hx rfl (hb q hd) rfl r
theorem V.lxor {x z : Int64} (A : V l Z n0 y bytes maxl ret R G h pc Ls (.long z :: .long x :: St) C S) (hd : decode bytes pc = .ok (.lxor, 1)) (hp : pc + 1 = pc') : V l Z n0 y bytes maxl ret R G h pc' Ls (.long (x ^^^ z) :: St) C S := by
  subst hp; exact A.step fun X hx _ _ q _ r => XS.lxor X.here hx rfl (hb q hd) rfl r
theorem V.ineg {x : Int32} (A : V l Z n0 y bytes maxl ret R G h pc Ls (.int x :: St) C S) (hd : decode bytes pc = .ok (.ineg, 1)) (hp : pc + 1 = pc') : V l Z n0 y bytes maxl ret R G h pc' Ls (.int (-x) :: St) C S := by
  subst hp; exact A.step fun X hx _ _ q _ r => XS.ineg X.here hx rfl (hb q hd) rfl r
theorem V.lneg {x : Int64} (A : V l Z n0 y bytes maxl ret R G h pc Ls (.long x :: St) C S) (hd : decode bytes pc = .ok (.lneg, 1)) (hp : pc + 1 = pc') : V l Z n0 y bytes maxl ret R G h pc' Ls (.long (-x) :: St) C S := by
  subst hp; exact A.step fun X hx _ _ q _ r => XS.lneg X.here hx rfl (hb q hd) rfl r
theorem V.ishl {x z : Int32} (A : V l Z n0 y bytes maxl ret R G h pc Ls (.int z :: .int x :: St) C S) (hd : decode bytes pc = .ok (.ishl, 1)) (hp : pc + 1 = pc') : V l Z n0 y bytes maxl ret R G h pc' Ls (.int (x <<< (z &&& 31)) :: St) C S := by
  subst hp; exact A.step fun X hx _ _ q _ r => XS.ishl X.here hx rfl (hb q hd) rfl r
theorem V.ishr {x z : Int32} (A : V l Z n0 y bytes maxl ret R G h pc Ls (.int z :: .int x :: St) C S) (hd : decode bytes pc = .ok (.ishr, 1)) (hp : pc + 1 = pc') : V l Z n0 y bytes maxl ret R G h pc' Ls (.int (x >>> (z &&& 31)) :: St) C S := by
  subst hp; exact A.step fun X hx _ _ q _ r => XS.ishr X.here hx rfl (hb q hd) rfl r
theorem V.iushr {x z : Int32} (A : V l Z n0 y bytes maxl ret R G h pc Ls (.int z :: .int x :: St) C S) (hd : decode bytes pc = .ok (.iushr, 1)) (hp : pc + 1 = pc') : V l Z n0 y bytes maxl ret R G h pc' Ls (.int ((x.toUInt32 >>> (z &&& 31).toUInt32).toInt32) :: St) C S := by
  subst hp; exact A.step fun X hx _ _ q _ r => XS.iushr X.here hx rfl (hb q hd) rfl r
theorem V.lshl {x : Int64} {z : Int32} (A : V l Z n0 y bytes maxl ret R G h pc Ls (.int z :: .long x :: St) C S) (hd : decode bytes pc = .ok (.lshl, 1)) (hp : pc + 1 = pc') : V l Z n0 y bytes maxl ret R G h pc' Ls (.long (x <<< (z &&& 0x3f).toInt64) :: St) C S := by
  subst hp; exact A.step fun X hx _ _ q _ r => XS.lshl X.here hx rfl (hb q hd) rfl r
theorem V.lshr {x : Int64} {z : Int32} (A : V l Z n0 y bytes maxl ret R G h pc Ls (.int z :: .long x :: St) C S) (hd : decode bytes pc = .ok (.lshr, 1)) (hp : pc + 1 = pc') : V l Z n0 y bytes maxl ret R G h pc' Ls (.long (x >>> (z &&& 0x3f).toInt64) :: St) C S := by
  subst hp; exact A.step fun X hx _ _ q _ r => XS.lshr X.here hx rfl (hb q hd) rfl r
theorem V.lushr {x : Int64} {z : Int32} (A : V l Z n0 y bytes maxl ret R G h pc Ls (.int z :: .long x :: St) C S) (hd : decode bytes pc = .ok (.lushr, 1)) (hp : pc + 1 = pc') : V l Z n0 y bytes maxl ret R G h pc' Ls (.long ((x.toUInt64 >>> (z &&& 0x3f).toInt64.toUInt64).toInt64) :: St) C S := by
  subst hp; exact A.step fun X hx _ _ q _ r => XS.lushr X.here hx rfl (hb q hd) rfl r
theorem V.i2l {x : Int32} (A : V l Z n0 y bytes maxl ret R G h pc Ls (.int x :: St) C S) (hd : decode bytes pc = .ok (.i2l, 1)) (hp : pc + 1 = pc') : V l Z n0 y bytes maxl ret R G h pc' Ls (.long x.toInt64 :: St) C S := by
  subst hp; exact A.step fun X hx _ _ q _ r => XS.i2l X.here hx rfl (hb q hd) rfl r
theorem V.l2i {x : Int64} (A : V l Z n0 y bytes maxl ret R G h pc Ls (.long x :: St) C S) (hd : decode bytes pc = .ok (.l2i, 1)) (hp : pc + 1 = pc') : V l Z n0 y bytes maxl ret R G h pc' Ls (.int x.toInt32 :: St) C S := by
  subst hp; exact A.step fun X hx _ _ q _ r => XS.l2i X.here hx rfl (hb q hd) rfl r
theorem V.i2b {x : Int32} (A : V l Z n0 y bytes maxl ret R G h pc Ls (.int x :: St) C S) (hd : decode bytes pc = .ok (.i2b, 1)) (hp : pc + 1 = pc') : V l Z n0 y bytes maxl ret R G h pc' Ls (.int x.toInt8.toInt32 :: St) C S := by
  subst hp; exact A.step fun X hx _ _ q _ r => XS.i2b X.here hx rfl (hb q hd) rfl r
theorem V.i2s {x : Int32} (A : V l Z n0 y bytes maxl ret R G h pc Ls (.int x :: St) C S) (hd : decode bytes pc = .ok (.i2s, 1)) (hp : pc + 1 = pc') : V l Z n0 y bytes maxl ret R G h pc' Ls (.int x.toInt16.toInt32 :: St) C S := by
  subst hp; exact A.step fun X hx _ _ q _ r => XS.i2s X.here hx rfl (hb q hd) rfl r
theorem V.i2c {x : Int32} (A : V l Z n0 y bytes maxl ret R G h pc Ls (.int x :: St) C S) (hd : decode bytes pc = .ok (.i2c, 1)) (hp : pc + 1 = pc') : V l Z n0 y bytes maxl ret R G h pc' Ls (.int x.toUInt32.toUInt16.toUInt32.toInt32 :: St) C S := by
  subst hp; exact A.step fun X hx _ _ q _ r => XS.i2c X.here hx rfl (hb q hd) rfl r
theorem V.lcmp {x z : Int64} (A : V l Z n0 y bytes maxl ret R G h pc Ls (.long z :: .long x :: St) C S) (hd : decode bytes pc = .ok (.lcmp, 1)) (hp : pc + 1 = pc') : V l Z n0 y bytes maxl ret R G h pc' Ls (.int (lcmpW x z) :: St) C S := by
  subst hp; exact A.step fun X hx _ _ q _ r => XS.lcmp X.here hx rfl (hb q hd) rfl r
theorem V.idiv {x z : Int32} (A : V l Z n0 y bytes maxl ret R G h pc Ls (.int z :: .int x :: St) C S) (hd : decode bytes pc = .ok (.idiv, 1)) (hz : z ≠ 0) (hp : pc + 1 = pc') : V l Z n0 y bytes maxl ret R G h pc' Ls (.int (x / z) :: St) C S := by
  subst hp; exact A.step fun X hx _ _ q _ r => XS.idiv X.here hx rfl (hb q hd) rfl hz r
theorem V.irem {x z : Int32} (A : V l Z n0 y bytes maxl ret R G h pc Ls (.int z :: .int x :: St) C S) (hd : decode bytes pc = .ok (.irem, 1)) (hz : z ≠ 0) (hp : pc + 1 = pc') : V l Z n0 y bytes maxl ret R G h pc' Ls (.int (x % z) :: St) C S := by
  subst hp; exact A.step fun X hx _ _ q _ r => iremM (g := mkF _ _ _ _) X hx rfl (hb q hd) rfl hz r
theorem V.ldiv {x z : Int64} (A : V l Z n0 y bytes maxl ret R G h pc Ls (.long z :: .long x :: St) C S) (hd : decode bytes pc = .ok (.ldiv, 1)) (hz : z ≠ 0) (hp : pc + 1 = pc') : V l Z n0 y bytes maxl ret R G h pc' Ls (.long (x / z) :: St) C S := by
  subst hp; exact A.step fun X hx _ _ q _ r => XS.ldiv X.here hx rfl (hb q hd) rfl hz r
theorem V.lrem {x z : Int64} (A : V l Z n0 y bytes maxl ret R G h pc Ls (.long z :: .long x :: St) C S) (hd : decode bytes pc = .ok (.lrem, 1)) (hz : z ≠ 0) (hp : pc + 1 = pc') : V l Z n0 y bytes maxl ret R G h pc' Ls (.long (x % z) :: St) C S := by
  subst hp; exact A.step fun X hx _ _ q _ r => XS.lrem X.here hx rfl (hb q hd) rfl hz (by rw [lrem_mod]; exact r)
theorem V.dup {v : Value} (A : V l Z n0 y bytes maxl ret R G h pc Ls (v :: St) C S) (hd : decode bytes pc = .ok (.dup, 1)) (hc : v.category = 1) (hp : pc + 1 = pc') : V l Z n0 y bytes maxl ret R G h pc' Ls (v :: v :: St) C S := by
  subst hp; exact A.step fun X hx _ _ q _ r => XS.dup X.here hx rfl (hb q hd) rfl hc r
theorem V.pop {v : Value} (A : V l Z n0 y bytes maxl ret R G h pc Ls (v :: St) C S) (hd : decode bytes pc = .ok (.pop, 1)) (hc : v.category = 1) (hp : pc + 1 = pc') : V l Z n0 y bytes maxl ret R G h pc' Ls St C S := by
  subst hp; exact A.step fun X hx _ _ q _ r => XS.pop X.here hx rfl (hb q hd) rfl hc r
theorem V.dupX1 {v w : Value} (A : V l Z n0 y bytes maxl ret R G h pc Ls (v :: w :: St) C S) (hd : decode bytes pc = .ok (.dup_x1, 1)) (hc : v.category = 1) (hc' : w.category = 1) (hp : pc + 1 = pc') : V l Z n0 y bytes maxl ret R G h pc' Ls (v :: w :: v :: St) C S := by
  subst hp; exact A.step fun X hx _ _ q _ r => XS.dupX1 X.here hx rfl (hb q hd) rfl hc hc' r
theorem V.dup2 {v w : Value} (A : V l Z n0 y bytes maxl ret R G h pc Ls (v :: w :: St) C S) (hd : decode bytes pc = .ok (.dup2, 1)) (hc : v.category = 1) (hc' : w.category = 1) (hp : pc + 1 = pc') : V l Z n0 y bytes maxl ret R G h pc' Ls (v :: w :: v :: w :: St) C S := by
  subst hp; exact A.step fun X hx _ _ q _ r => XT.dup2 X.here hx rfl (hb q hd) rfl hc hc' r
theorem V.dup2L {x : Int64} (A : V l Z n0 y bytes maxl ret R G h pc Ls (.long x :: St) C S) (hd : decode bytes pc = .ok (.dup2, 1)) (hp : pc + 1 = pc') : V l Z n0 y bytes maxl ret R G h pc' Ls (.long x :: .long x :: St) C S := by
  subst hp; exact A.step fun X hx _ _ q _ r => XT.dup2L X.here hx rfl (hb q hd) rfl r
theorem V.goto (A : V l Z n0 y bytes maxl ret R G h pc Ls St C S) {o : Int} (hd : decode bytes pc = .ok (.goto o, 3)) (ho : 0 ≤ (pc : Int) + o) (hp : ((pc : Int) + o).toNat = pc') : V l Z n0 y bytes maxl ret R G h pc' Ls St C S :=
  A.step fun X hx _ _ q _ r => XS.goto X.here hx rfl rfl (hb q hd) ho hp r
theorem V.ifYes {x : Int32} (A : V l Z n0 y bytes maxl ret R G h pc Ls (.int x :: St) C S) {cd : ClassFile.Cond} {o : Int} (hd : decode bytes pc = .ok (.ifCond cd o, 3)) (hc : if_icmp.holds cd x 0 = true) (ho : 0 ≤ (pc : Int) + o) (hp : ((pc : Int) + o).toNat = pc') : V l Z n0 y bytes maxl ret R G h pc' Ls St C S :=
  A.step fun X hx _ _ q _ r => XS.ifYes X.here hx rfl rfl (hb q hd) rfl ((if0 _ _).trans hc) ho hp r
theorem V.ifNo {x : Int32} (A : V l Z n0 y bytes maxl ret R G h pc Ls (.int x :: St) C S) {cd : ClassFile.Cond} {o : Int} (hd : decode bytes pc = .ok (.ifCond cd o, 3)) (hc : if_icmp.holds cd x 0 = false) (hp : pc + 3 = pc') : V l Z n0 y bytes maxl ret R G h pc' Ls St C S := by
  subst hp; exact A.step fun X hx _ _ q _ r => XS.ifNo X.here hx rfl (hb q hd) rfl ((if0 _ _).trans hc) r
theorem V.icmpYes {x z : Int32} (A : V l Z n0 y bytes maxl ret R G h pc Ls (.int z :: .int x :: St) C S) {cd : ClassFile.Cond} {o : Int} (hd : decode bytes pc = .ok (.if_icmp cd o, 3)) (hc : if_icmp.holds cd x z = true) (ho : 0 ≤ (pc : Int) + o) (hp : ((pc : Int) + o).toNat = pc') : V l Z n0 y bytes maxl ret R G h pc' Ls St C S :=
  A.step fun X hx _ _ q _ r => XS.icmpYes X.here hx rfl rfl (hb q hd) rfl hc ho hp r
theorem V.icmpNo {x z : Int32} (A : V l Z n0 y bytes maxl ret R G h pc Ls (.int z :: .int x :: St) C S) {cd : ClassFile.Cond} {o : Int} (hd : decode bytes pc = .ok (.if_icmp cd o, 3)) (hc : if_icmp.holds cd x z = false) (hp : pc + 3 = pc') : V l Z n0 y bytes maxl ret R G h pc' Ls St C S := by
  subst hp; exact A.step fun X hx _ _ q _ r => XS.icmpNo X.here hx rfl (hb q hd) rfl hc r
theorem V.ifnullYes (A : V l Z n0 y bytes maxl ret R G h pc Ls (.null :: St) C S) {o : Int} (hd : decode bytes pc = .ok (.ifnull o, 3)) (ho : 0 ≤ (pc : Int) + o) (hp : ((pc : Int) + o).toNat = pc') : V l Z n0 y bytes maxl ret R G h pc' Ls St C S :=
  A.step fun X hx _ _ q _ r => XS.ifnullYes X.here hx rfl rfl (hb q hd) rfl ho hp r
theorem V.ifnullNo {a : Addr} (A : V l Z n0 y bytes maxl ret R G h pc Ls (.ref a :: St) C S) {o : Int} (hd : decode bytes pc = .ok (.ifnull o, 3)) (hp : pc + 3 = pc') : V l Z n0 y bytes maxl ret R G h pc' Ls St C S := by
  subst hp; exact A.step fun X hx _ _ q _ r => XS.ifnullNo X.here hx rfl (hb q hd) rfl r
theorem V.ifnonnullNo (A : V l Z n0 y bytes maxl ret R G h pc Ls (.null :: St) C S) {o : Int} (hd : decode bytes pc = .ok (.ifnonnull o, 3)) (hp : pc + 3 = pc') : V l Z n0 y bytes maxl ret R G h pc' Ls St C S := by
  subst hp; exact A.step fun X hx _ _ q _ r => XS.ifnonnullNo X.here hx rfl (hb q hd) rfl r
theorem V.ifnonnullYes {a : Addr} (A : V l Z n0 y bytes maxl ret R G h pc Ls (.ref a :: St) C S) {o : Int} (hd : decode bytes pc = .ok (.ifnonnull o, 3)) (ho : 0 ≤ (pc : Int) + o) (hp : ((pc : Int) + o).toNat = pc') : V l Z n0 y bytes maxl ret R G h pc' Ls St C S :=
  A.step fun X hx _ _ q _ r => XS.ifnonnullYes X.here hx rfl rfl (hb q hd) rfl ho hp r
theorem V.getF (A : V l Z n0 y bytes maxl ret R G h pc Ls (.ref a :: St) C S) {index : Nat} {R0 O n d host : String} {v : Value} (hd : decode bytes pc = .ok (.getfield index, 3)) (w : (Jvm.Cond.fieldLink y.cls index R0 n d).before a0 Z = true ∨ (Jvm.Cond.fieldLinkNest y.cls index R0 n d host).before a0 Z = true) (via : Via Z R0 O n d) (F : Fld Z h a O n d v) (hp : pc + 3 = pc') : V l Z n0 y bytes maxl ret R G h pc' Ls (v :: St) C S := by
  subst hp; exact A.stepT fun X hx hZ hown q _ eT => RoadKit.getF X hx hZ hown w via eT F (g := mkF _ _ _ _) rfl rfl (hb q hd)
theorem V.getS (A : V l Z n0 y bytes maxl ret R G h pc Ls St C S) {index : Nat} {R0 O n d host : String} {v : Value} (hd : decode bytes pc = .ok (.getstatic index, 3)) (w : (Jvm.Cond.fieldLink y.cls index R0 n d).before a0 Z = true ∨ (Jvm.Cond.fieldLinkNest y.cls index R0 n d host).before a0 Z = true) (via : Via Z R0 O n d) (F : Sta Z h O n d v) (hp : pc + 3 = pc') : V l Z n0 y bytes maxl ret R G h pc' Ls (v :: St) C S := by
  subst hp; exact A.stepT fun X hx hZ hown q _ eT => getS2 X hx hZ hown w via eT F (g := mkF _ _ _ _) rfl (hb q hd)
theorem V.initO (A : V l Z n0 y bytes maxl ret R G h pc Ls (.ref a :: St) C S) {idx : Nat} (hd : decode bytes pc = .ok (.invokespecial idx, 3)) (w1 : (Jvm.Cond.methodLink y.cls idx Lib.objectInit).before a0 Z = true) (w2 : (Jvm.Cond.instanceMethod Lib.objectInit).before a0 Z = true) (w3 : (Jvm.Cond.code Lib.objectInit ⟨#[0xb1]⟩ 1 none).before a0 Z = true) (hsz : Ls.size = maxl) (hf : 1 ≤ R.frames) (hlo : (St.map fun v => v.category).sum + 12 ≤ R.locals) (hp : pc + 3 = pc') : V l Z n0 y bytes maxl ret R G h pc' Ls St C S := by
  subst hp; exact A.stepT fun X hx hZ hown q hml eT => RoadKit.initO X hx hZ hown w1 w2 w3 eT (g := mkF _ _ _ _) rfl (by rw [hml]; exact hsz) rfl (hb q hd) hf (W := (St.map fun v => v.category).sum) (by show 2 * 0 + _ ≤ _; omega) hlo
theorem V.cast0 (A : V l Z n0 y bytes maxl ret R G h pc Ls (.ref a :: St) C S) {index : Nat} {K : String} (hd : decode bytes pc = .ok (.checkcast index, 3)) (w : (Jvm.Cond.classLink y.cls index K).before a0 Z = true) (F : Ins Z h a K true) (hp : pc + 3 = pc') : V l Z n0 y bytes maxl ret R G h pc' Ls (.ref a :: St) C S := by
  subst hp; exact A.stepT fun X hx hZ hown q _ eT => castY X hx hZ hown w eT F (g := mkF _ _ _ _) rfl rfl (hb q hd)
theorem V.inst1 (A : V l Z n0 y bytes maxl ret R G h pc Ls (.ref a :: St) C S) {index : Nat} {K : String} (hd : decode bytes pc = .ok (.instanceof index, 3)) (w : (Jvm.Cond.classLink y.cls index K).before a0 Z = true) (F : Ins Z h a K true) (hp : pc + 3 = pc') : V l Z n0 y bytes maxl ret R G h pc' Ls (.int 1 :: St) C S := by
  subst hp; exact A.stepT fun X hx hZ hown q _ eT => instY X hx hZ hown w eT F (g := mkF _ _ _ _) rfl rfl (hb q hd)
theorem V.putF {v : Value} (A : V l Z n0 y bytes maxl ret R G h pc Ls (v :: .ref a :: St) C S) {index kk : Nat} {R0 O n d host K : String} {ty : FieldType} {old : Value} (hd : decode bytes pc = .ok (.putfield index, 3)) (w : (Jvm.Cond.fieldLink y.cls index R0 n d).before a0 Z = true ∨ (Jvm.Cond.fieldLinkNest y.cls index R0 n d host).before a0 Z = true) (via : Via Z R0 O n d)
    (F : Fld Z h a O n d old) (E : Exa Z h a K) (Lw : (Jvm.Cond.lays K O n d).before a0 Z = true ∨ ((Jvm.Cond.laysFinal K O n d).before a0 Z = true ∧ y.cls = O ∧ y.name = "<init>")) (wi : (Jvm.Cond.instantiable K kk).before a0 Z = true) (hty : parseFieldDescriptor d = some ty) (hn : narrow ty v = v) (hf : fits ty v = true) (ga : n0 ≤ a) (hp : pc + 3 = pc') :
    ∃ h', Wr h h' a (Jvm.RoadKit.slotOf Z O n d) v ∧ V l Z n0 y bytes maxl ret R G h' pc' Ls St C S := by
  subst hp
  obtain ⟨p, e, s, m, args, below, meth, c, st⟩ := G
  obtain ⟨hx, hby, hml, hnm, hrt, hlk, hn0, vm0, k0, hS, hk, hZ, hown, T, locs, X, N, eT, k⟩ := A
  obtain ⟨T', h', X', e', W', st'⟩ := RoadKit.putF X hx hZ hown w via eT F E (Lw.imp id fun q => ⟨q.1, q.2.1, hnm.trans q.2.2⟩) wi hty hn hf (g := mkF m pc Ls _) rfl rfl (hb hby hd)
  exact ⟨h', W', V.mk hx hZ hby hml hown hnm hrt hlk hn0 hS (by rw [W'.size]; exact hk) X' (Fr.snoc X' N ga) e' (fun t q => k t (st' t q))⟩
theorem V.putFN {v v' : Value} (A : V l Z n0 y bytes maxl ret R G h pc Ls (v :: .ref a :: St) C S) {index kk : Nat} {R0 O n d K : String} {ty : FieldType} {old : Value} (hd : decode bytes pc = .ok (.putfield index, 3)) (w : (Jvm.Cond.fieldLink y.cls index R0 n d).before a0 Z = true) (via : Via Z R0 O n d)
    (F : Fld Z h a O n d old) (E : Exa Z h a K) (Lw : (Jvm.Cond.lays K O n d).before a0 Z = true ∨ ((Jvm.Cond.laysFinal K O n d).before a0 Z = true ∧ y.cls = O ∧ y.name = "<init>")) (wi : (Jvm.Cond.instantiable K kk).before a0 Z = true) (hty : parseFieldDescriptor d = some ty) (hn : narrow ty v = v') (hf : fits ty v' = true) (ga : n0 ≤ a) (hp : pc + 3 = pc') :
    ∃ h', Wr h h' a (Jvm.RoadKit.slotOf Z O n d) v' ∧ V l Z n0 y bytes maxl ret R G h' pc' Ls St C S := by
  subst hp
  obtain ⟨p, e, s, m, args, below, meth, c, st⟩ := G
  obtain ⟨hx, hby, hml, hnm, hrt, hlk, hn0, vm0, k0, hS, hk, hZ, hown, T, locs, X, N, eT, k⟩ := A
  obtain ⟨T', h', X', e', W', st'⟩ := RoadKit.putFN X hx hZ hown w via eT F E (Lw.imp id fun q => ⟨q.1, q.2.1, hnm.trans q.2.2⟩) wi hty hn hf (g := mkF m pc Ls _) rfl rfl (hb hby hd)
  exact ⟨h', W', V.mk hx hZ hby hml hown hnm hrt hlk hn0 hS (by rw [W'.size]; exact hk) X' (Fr.snoc X' N ga) e' (fun t q => k t (st' t q))⟩
theorem V.newO (A : V l Z n0 y bytes maxl ret R G h pc Ls St C S) {index n : Nat} {K : String} (hd : decode bytes pc = .ok (.new index, 3)) (w : (Jvm.Cond.classLink y.cls index K).before a0 Z = true) (wi : (Jvm.Cond.instantiable K n).before a0 Z = true) (wz : (Jvm.Cond.initialized K).before a0 Z = true) (hC : C + 1 ≤ R.cells) (hSl : S + n ≤ R.slots) (hC' : C + 1 = C') (hS' : S + n = S') (hp : pc + 3 = pc') :
    ∃ h' b, b = h.size ∧ n0 ≤ b ∧ Ext h h' ∧ Exa Z h' b K ∧ (∀ {O nm d : String} {ty : FieldType}, Laid Z a0 K O nm d → parseFieldDescriptor d = some ty → Fld Z h' b O nm d (defaultValue ty)) ∧ V l Z n0 y bytes maxl ret R G h' pc' Ls (.ref b :: St) C' S' := by
  subst hp hC' hS'
  have hsz := A.size
  obtain ⟨p, e, s, m, args, below, meth, c, st⟩ := G
  obtain ⟨hx, hby, hml, hnm, hrt, hlk, hn0, vm0, k0, hS, hk, hZ, hown, T, locs, X, N, eT, k⟩ := A
  obtain ⟨T', h', X', e', E', A', D', -, st'⟩ := RoadKit.newO X hx hZ hown w wi wz eT (g := mkF m pc Ls St) rfl (hb hby hd) hC hSl
  exact ⟨h', h.size, rfl, hsz, E', A', D', V.mk hx hZ hby hml hown hnm hrt hlk hn0 hS (Nat.le_trans hk E'.1) X' N e' (fun t q => k t (st' t q))⟩
theorem V.newP (A : V l Z n0 y bytes maxl ret R G h pc Ls (.int z :: St) C S) {aty : ArrayType} {N cap : Nat} (hd : decode bytes pc = .ok (.newarray aty, 2)) (w : (Jvm.Cond.arrayClass (newarray.typeOf aty)).before a0 Z = true) (hz : z.toInt = N) (hcap : N ≤ cap) (hcb : cap * 8 ≤ 536870912) (hC : C + 1 ≤ R.cells) (hSl : S + cap ≤ R.slots) (hC' : C + 1 = C') (hS' : S + cap = S') (hp : pc + 2 = pc') {ad : String} (had : "[" ++ (newarray.typeOf aty).toString = ad) :
    ∃ h' b, b = h.size ∧ n0 ≤ b ∧ Ext h h' ∧ Ars Z h' b (newarray.typeOf aty) N (fun _ => defaultValue (newarray.typeOf aty)) ∧ Exa Z h' b ad ∧ V l Z n0 y bytes maxl ret R G h' pc' Ls (.ref b :: St) C' S' := by
  subst hp hC' hS'
  have hsz := A.size
  have e0 : (0 : Int32).toInt = 0 := rfl
  have hneg : ¬ z < 0 := by rw [Int32.lt_iff_toInt_lt]; omega
  have hcl : z.toNatClampNeg = N := by simp only [Int32.toNatClampNeg]; omega
  obtain ⟨p, e, s, m, args, below, meth, c, st⟩ := G
  obtain ⟨hx, hby, hml, hnm, hrt, hlk, hn0, vm0, k0, hS, hk, hZ, hown, T, locs, X, Nf, eT, k⟩ := A
  obtain ⟨T', h', kA, X', e', E', A', Ex', st'⟩ := newPE X hx hZ w eT (g := mkF m pc Ls _) rfl (hb hby hd) rfl hneg (cap := cap) (by omega) hcb hC hSl had
  refine ⟨h', h.size, rfl, hsz, E', ⟨_, A', by rw [sz_new, hcl], by omega, fun j hj => ?_⟩, Ex', V.mk hx hZ hby hml hown hnm hrt hlk hn0 hS (Nat.le_trans hk E'.1) X' Nf e' (fun t q => k t (st' t q))⟩
  exact ⟨by simp [newA, hcl, hj], by cases aty <;> rfl⟩
theorem V.alen (A : V l Z n0 y bytes maxl ret R G h pc Ls (.ref a :: St) C S) (hd : decode bytes pc = .ok (.arraylength, 1)) (F : Ars Z h a ty N f) {z : Int32} (hz : z.toInt = N) (hp : pc + 1 = pc') : V l Z n0 y bytes maxl ret R G h pc' Ls (.int z :: St) C S := by
  subst hp
  obtain ⟨cl, Ar, hs, hN, hv⟩ := F
  have e0 : (0 : Int32).toInt = 0 := rfl
  have hneg : ¬ z < 0 := by rw [Int32.lt_iff_toInt_lt]; omega
  have hcl : cl.slots.size = z.toNatClampNeg := by simp only [Int32.toNatClampNeg]; omega
  exact A.step fun X hx hZ hown q eT r => X.arraylength hx (by rw [eT]; exact Ar.1) (State.isArrayOf_alike hZ.alike Ar.2.1) (g := mkF _ _ _ _) rfl rfl (hb q hd) _ (by rw [len_of hcl hneg]; exact r)
theorem V.iaload {j : Int32} (A : V l Z n0 y bytes maxl ret R G h pc Ls (.int j :: .ref a :: St) C S) (hd : decode bytes pc = .ok (.iaload, 1)) (F : Ars Z h a .int N f) {i : Nat} (hj : j.toInt = i) (hi : i < N) {v : Value} (hv : f i = v) (hp : pc + 1 = pc') : V l Z n0 y bytes maxl ret R G h pc' Ls (v :: St) C S := by
  subst hp
  obtain ⟨cl, Ar, hs, hN, hf⟩ := F
  obtain ⟨q1, q2⟩ := inb hs hj hi
  exact A.step fun X hx hZ hown q eT r => X.iaload hx (by rw [eT]; exact Ar.1) (State.isArrayOf_alike hZ.alike Ar.2.1) Ar.2.2 q1 (by rw [q2, (hf i hi).1, hv]) (g := mkF _ _ _ _) rfl rfl (hb q hd) _ r
theorem V.laload {j : Int32} (A : V l Z n0 y bytes maxl ret R G h pc Ls (.int j :: .ref a :: St) C S) (hd : decode bytes pc = .ok (.laload, 1)) (F : Ars Z h a .long N f) {i : Nat} (hj : j.toInt = i) (hi : i < N) {v : Value} (hv : f i = v) (hp : pc + 1 = pc') : V l Z n0 y bytes maxl ret R G h pc' Ls (v :: St) C S := by
  subst hp
  obtain ⟨cl, Ar, hs, hN, hf⟩ := F
  obtain ⟨q1, q2⟩ := inb hs hj hi
  exact A.step fun X hx hZ hown q eT r => X.laload hx (by rw [eT]; exact Ar.1) (State.isArrayOf_alike hZ.alike Ar.2.1) Ar.2.2 q1 (by rw [q2, (hf i hi).1, hv]) (g := mkF _ _ _ _) rfl rfl (hb q hd) _ r
theorem V.baload {j : Int32} (A : V l Z n0 y bytes maxl ret R G h pc Ls (.int j :: .ref a :: St) C S) (hd : decode bytes pc = .ok (.baload, 1)) (F : Ars Z h a .byte N f) {i : Nat} (hj : j.toInt = i) (hi : i < N) {v : Value} (hv : f i = v) (hp : pc + 1 = pc') : V l Z n0 y bytes maxl ret R G h pc' Ls (v :: St) C S := by
  subst hp
  obtain ⟨cl, Ar, hs, hN, hf⟩ := F
  obtain ⟨q1, q2⟩ := inb hs hj hi
  exact A.step fun X hx hZ hown q eT r => X.baloadBytes hx (by rw [eT]; exact Ar.1) (State.isArrayOf_alike hZ.alike Ar.2.1) Ar.2.2 q1 (by rw [q2, (hf i hi).1, hv]) (g := mkF _ _ _ _) rfl rfl (hb q hd) _ r
theorem V.caload {j : Int32} (A : V l Z n0 y bytes maxl ret R G h pc Ls (.int j :: .ref a :: St) C S) (hd : decode bytes pc = .ok (.caload, 1)) (F : Ars Z h a .char N f) {i : Nat} (hj : j.toInt = i) (hi : i < N) {v : Value} (hv : f i = v) (hp : pc + 1 = pc') : V l Z n0 y bytes maxl ret R G h pc' Ls (v :: St) C S := by
  subst hp
  obtain ⟨cl, Ar, hs, hN, hf⟩ := F
  obtain ⟨q1, q2⟩ := inb hs hj hi
  exact A.step fun X hx hZ hown q eT r => X.caload hx (by rw [eT]; exact Ar.1) (State.isArrayOf_alike hZ.alike Ar.2.1) Ar.2.2 q1 (by rw [q2, (hf i hi).1, hv]) (g := mkF _ _ _ _) rfl rfl (hb q hd) _ r
theorem V.iastore {j x : Int32} (A : V l Z n0 y bytes maxl ret R G h pc Ls (.int x :: .int j :: .ref a :: St) C S) (hd : decode bytes pc = .ok (.iastore, 1)) (F : Ars Z h a .int N f) {i : Nat} (hj : j.toInt = i) (hi : i < N) (ga : n0 ≤ a) (hp : pc + 1 = pc') : ∃ h', Wr h h' a i (.int x) ∧ Ars Z h' a .int N (upd f i (.int x)) ∧ V l Z n0 y bytes maxl ret R G h' pc' Ls St C S := by
  subst hp
  have F0 := F
  obtain ⟨cl, Ar, hs, hN, hf⟩ := F
  obtain ⟨q1, q2⟩ := inb hs hj hi
  obtain ⟨p, e, s, m, args, below, meth, c, st⟩ := G
  obtain ⟨hx, hby, hml, hnm, hrt, hlk, hn0, vm0, k0, hS, hk, hZ, hown, T, locs, X, Nf, eT, k⟩ := A
  have hfit : fits .int (.int x) = true := rfl
  obtain ⟨T', h', X', e', W', st'⟩ := stI X hx hZ eT Ar q1 (g := mkF m pc Ls _) rfl rfl (hb hby hd)
  rw [q2] at W'
  exact ⟨h', W', F0.same W' hi hfit, V.mk hx hZ hby hml hown hnm hrt hlk hn0 hS (by rw [W'.size]; exact hk) X' (Fr.snoc X' Nf ga) e' (fun t q => k t (st' t q))⟩
theorem V.lastore {j : Int32} {x : Int64} (A : V l Z n0 y bytes maxl ret R G h pc Ls (.long x :: .int j :: .ref a :: St) C S) (hd : decode bytes pc = .ok (.lastore, 1)) (F : Ars Z h a .long N f) {i : Nat} (hj : j.toInt = i) (hi : i < N) (ga : n0 ≤ a) (hp : pc + 1 = pc') : ∃ h', Wr h h' a i (.long x) ∧ Ars Z h' a .long N (upd f i (.long x)) ∧ V l Z n0 y bytes maxl ret R G h' pc' Ls St C S := by
  subst hp
  have F0 := F
  obtain ⟨cl, Ar, hs, hN, hf⟩ := F
  obtain ⟨q1, q2⟩ := inb hs hj hi
  obtain ⟨p, e, s, m, args, below, meth, c, st⟩ := G
  obtain ⟨hx, hby, hml, hnm, hrt, hlk, hn0, vm0, k0, hS, hk, hZ, hown, T, locs, X, Nf, eT, k⟩ := A
  have hfit : fits .long (.long x) = true := rfl
  obtain ⟨T', h', X', e', W', st'⟩ := stJ X hx hZ eT Ar q1 (g := mkF m pc Ls _) rfl rfl (hb hby hd)
  rw [q2] at W'
  exact ⟨h', W', F0.same W' hi hfit, V.mk hx hZ hby hml hown hnm hrt hlk hn0 hS (by rw [W'.size]; exact hk) X' (Fr.snoc X' Nf ga) e' (fun t q => k t (st' t q))⟩
theorem V.bastore {j x : Int32} (A : V l Z n0 y bytes maxl ret R G h pc Ls (.int x :: .int j :: .ref a :: St) C S) (hd : decode bytes pc = .ok (.bastore, 1)) (F : Ars Z h a .byte N f) {i : Nat} (hj : j.toInt = i) (hi : i < N) (ga : n0 ≤ a) (hp : pc + 1 = pc') : ∃ h', Wr h h' a i (.int x.toInt8.toInt32) ∧ Ars Z h' a .byte N (upd f i (.int x.toInt8.toInt32)) ∧ V l Z n0 y bytes maxl ret R G h' pc' Ls St C S := by
  subst hp
  have F0 := F
  obtain ⟨cl, Ar, hs, hN, hf⟩ := F
  obtain ⟨q1, q2⟩ := inb hs hj hi
  obtain ⟨p, e, s, m, args, below, meth, c, st⟩ := G
  obtain ⟨hx, hby, hml, hnm, hrt, hlk, hn0, vm0, k0, hS, hk, hZ, hown, T, locs, X, Nf, eT, k⟩ := A
  have hfit : fits .byte (.int x.toInt8.toInt32) = true := fits_nar_byte x
  obtain ⟨T', h', X', e', W', st'⟩ := stB X hx hZ eT Ar q1 (g := mkF m pc Ls _) rfl rfl (hb hby hd)
  rw [q2] at W'
  exact ⟨h', W', F0.same W' hi hfit, V.mk hx hZ hby hml hown hnm hrt hlk hn0 hS (by rw [W'.size]; exact hk) X' (Fr.snoc X' Nf ga) e' (fun t q => k t (st' t q))⟩
theorem V.castore {j x : Int32} (A : V l Z n0 y bytes maxl ret R G h pc Ls (.int x :: .int j :: .ref a :: St) C S) (hd : decode bytes pc = .ok (.castore, 1)) (F : Ars Z h a .char N f) {i : Nat} (hj : j.toInt = i) (hi : i < N) (ga : n0 ≤ a) (hp : pc + 1 = pc') : ∃ h', Wr h h' a i (.int (nar .char x)) ∧ Ars Z h' a .char N (upd f i (.int (nar .char x))) ∧ V l Z n0 y bytes maxl ret R G h' pc' Ls St C S := by
  subst hp
  have F0 := F
  obtain ⟨cl, Ar, hs, hN, hf⟩ := F
  obtain ⟨q1, q2⟩ := inb hs hj hi
  obtain ⟨p, e, s, m, args, below, meth, c, st⟩ := G
  obtain ⟨hx, hby, hml, hnm, hrt, hlk, hn0, vm0, k0, hS, hk, hZ, hown, T, locs, X, Nf, eT, k⟩ := A
  have hfit : fits .char (.int (nar .char x)) = true := fits_nar_char x
  obtain ⟨T', h', X', e', W', st'⟩ := stC X hx hZ eT Ar q1 (g := mkF m pc Ls _) rfl rfl (hb hby hd)
  rw [q2] at W'
  exact ⟨h', W', F0.same W' hi hfit, V.mk hx hZ hby hml hown hnm hrt hlk hn0 hS (by rw [W'.size]; exact hk) X' (Fr.snoc X' Nf ga) e' (fun t q => k t (st' t q))⟩
theorem V.clone (A : V l Z n0 y bytes maxl ret R G h pc Ls (.ref a :: St) C S) {index cap : Nat} {ad : String} (hd : decode bytes pc = .ok (.invokevirtual index, 3)) (w1 : (Jvm.Cond.methodLink y.cls index ⟨ad, "clone", "()Ljava/lang/Object;"⟩).before a0 Z = true) (w2 : (Jvm.Cond.sameMethod ad "java/lang/Object" "clone" "()Ljava/lang/Object;").before a0 Z = true) (w3 : (Jvm.Cond.native ⟨"java/lang/Object", "clone", "()Ljava/lang/Object;"⟩).before a0 Z = true)
    (w4 : (Jvm.Cond.instanceMethod ⟨"java/lang/Object", "clone", "()Ljava/lang/Object;"⟩).before a0 Z = true) (w5 : (Jvm.Cond.selects ad ⟨ad, "clone", "()Ljava/lang/Object;"⟩ ⟨"java/lang/Object", "clone", "()Ljava/lang/Object;"⟩).before a0 Z = true) (w6 : (Jvm.Cond.castable ad "java/lang/Cloneable").before a0 Z = true) (F : Ars Z h a ty N f) (E : Exa Z h a ad) (hcap : N ≤ cap) (hsz : Ls.size = maxl) (hf : 1 ≤ R.frames) (hlo : (St.map fun v => v.category).sum + 14 ≤ R.locals) (hC : C + 1 ≤ R.cells) (hSl : S + cap ≤ R.slots) (hC' : C + 1 = C') (hS' : S + cap = S') (hp : pc + 3 = pc') :
    ∃ h' b, b = h.size ∧ n0 ≤ b ∧ Ext h h' ∧ Ars Z h' b ty N f ∧ Exa Z h' b ad ∧ V l Z n0 y bytes maxl ret R G h' pc' Ls (.ref b :: St) C' S' := by
  subst hp hC' hS'
  have hs0 := A.size
  obtain ⟨cl, Ar, hs, hN, hv⟩ := F
  have FC : FitC Z cl := fitC_of Ar fun i hi v q => by rw [hs] at hi; rw [(hv i hi).1] at q; cases q; exact (hv i hi).2
  obtain ⟨p, e, s, m, args, below, meth, c, st⟩ := G
  obtain ⟨hx, hby, hml, hnm, hrt, hlk, hn0, vm0, k0, hS, hk, hZ, hown, T, locs, X, Nf, eT, k⟩ := A
  obtain ⟨T', h', X', e', E', A', Ex', st'⟩ := cloneA X hx hZ hown w1 w2 w3 w4 w5 w6 eT Ar E FC (g := mkF m pc Ls (.ref a :: St)) rfl (by rw [hml]; exact hsz) rfl (hb hby hd) hf (W := (St.map fun v => v.category).sum) (by show 2 * 0 + _ ≤ _; omega) hlo (by rw [hs]; exact hcap) hC hSl
  exact ⟨h', h.size, rfl, hs0, E', ⟨_, A', hs, hN, hv⟩, Ex', V.mk hx hZ hby hml hown hnm hrt hlk hn0 hS (Nat.le_trans hk E'.1) X' Nf e' (fun t q => k t (st' t q))⟩
theorem V.acopy {b : Addr} {sp dp nn : Int32} (A : V l Z n0 y bytes maxl ret R G h pc Ls (.int nn :: .int dp :: .ref b :: .int sp :: .ref a :: St) C S) {idx i j k N' : Nat} {g : Nat → Value} (hd : decode bytes pc = .ok (.invokestatic idx, 3)) (w1 : (Jvm.Cond.methodLink y.cls idx Jvm.Stand.acN).before a0 Z = true) (w2 : (Jvm.Cond.native Jvm.Stand.acN).before a0 Z = true) (w3 : (Jvm.Cond.static Jvm.Stand.acN).before a0 Z = true) (w4 : (Jvm.Cond.initialized "java/lang/System").before a0 Z = true)
    (F : Ars Z h a ty N f) (D : Ars Z h b ty N' g) (hty : refKind ty = false) (hsp : sp.toInt = i) (hdp : dp.toInt = j) (hnn : nn.toInt = k) (h4 : i + k ≤ N) (h5 : j + k ≤ N') (gb : n0 ≤ b) (hsz : Ls.size = maxl) (hf : 1 ≤ R.frames) (hlo : (St.map fun v => v.category).sum + (nativeFrameWords "java/lang/System" "arraycopy" 5 + 11) ≤ R.locals) (hp : pc + 3 = pc') :
    ∃ h', Keep h h' [b] ∧ Ars Z h' b ty N' (cpy f i g j k) ∧ V l Z n0 y bytes maxl ret R G h' pc' Ls St C S := by
  subst hp
  have FN := F.size
  have DN := D.size
  obtain ⟨kF, VF⟩ := F.toArv
  obtain ⟨kD, VD⟩ := D.toArv
  have e0 : (0 : Int32).toInt = 0 := rfl
  have c1 : sp.toNatClampNeg = i := by simp only [Int32.toNatClampNeg]; omega
  have c2 : dp.toNatClampNeg = j := by simp only [Int32.toNatClampNeg]; omega
  have c3 : nn.toNatClampNeg = k := by simp only [Int32.toNatClampNeg]; omega
  have eN : (Int32.ofNat N).toNatClampNeg = N := by have := Int32.toInt_ofNat_of_lt FN; simp only [Int32.toNatClampNeg]; omega
  have eN' : (Int32.ofNat N').toNatClampNeg = N' := by have := Int32.toInt_ofNat_of_lt DN; simp only [Int32.toNatClampNeg]; omega
  have p1 : ¬ sp < 0 := by rw [Int32.lt_iff_toInt_lt]; omega
  have p2 : ¬ dp < 0 := by rw [Int32.lt_iff_toInt_lt]; omega
  have p3 : ¬ nn < 0 := by rw [Int32.lt_iff_toInt_lt]; omega
  obtain ⟨p, e, s, m, args, below, meth, c, st⟩ := G
  obtain ⟨hx, hby, hml, hnm, hrt, hlk, hn0, vm0, k0, hS, hk, hZ, hown, T, locs, X, Nf, eT, kk⟩ := A
  obtain ⟨T', h', L', X', e', N2, K2, V2, st'⟩ := cpA X hx hZ hown w1 w2 w3 w4 eT VF VD (Or.inl ⟨rfl, hty⟩) (sp := sp) (dp := dp) (nn := nn) p1 p2 p3 (by rw [c1, c3, eN]; exact h4) (by rw [c2, c3, eN']; exact h5) rfl (by rw [c2, c3]; simpa using h5) Nf gb (g := mkF m pc Ls (.int nn :: .int dp :: .ref b :: .int sp :: .ref a :: St)) rfl (by rw [hml]; exact hsz) rfl (hb hby hd) hf (W := (St.map fun v => v.category).sum) (by show 2 * 0 + _ ≤ _; omega) hlo
  refine ⟨h', K2, ?_, V.mk hx hZ hby hml hown hnm hrt hlk hn0 hS (Nat.le_trans hk K2.1) X' N2 e' (fun t q => kk t (st' t q))⟩
  obtain ⟨cd, Ad, -, Sd, -, Hd, Gd⟩ := V2
  rw [eN'] at Sd
  rw [c1, c2, c3] at Hd Gd
  have key : ∀ x, x < N' → (List.take j ((List.range N').map g) ++ (List.map (fun i_1 => ((List.range N).map f).getD (i + i_1) (.int 0)) (List.range k)) ++ List.drop (j + k) ((List.range N').map g)).getD x (.int 0) = cpy f i g j k x := fun x hx' => by
    simp only [List.getD_eq_getElem?_getD, cpy]
    by_cases q1 : x < j
    · rw [List.getElem?_append_left (by simp; omega), List.getElem?_append_left (by simp; omega), if_neg (by omega)]
      simp [List.getElem?_take, q1, hx']
    · by_cases q2 : x < j + k
      · rw [List.getElem?_append_left (by simp; omega), List.getElem?_append_right (by simp; omega), if_pos (by omega)]
        have l1 : (List.take j ((List.range N').map g)).length = j := by simp; omega
        rw [l1]
        have q3 : x - j < k := by omega
        have q4 : i + (x - j) < N := by omega
        simp [List.getElem?_map, List.getElem?_range, q3, q4]
      · rw [List.getElem?_append_right (by simp; omega), if_neg (by omega)]
        have l1 : (List.take j ((List.range N').map g) ++ (List.map (fun i_1 => (((List.range N).map f)[i + i_1]?).getD (.int 0)) (List.range k))).length = j + k := by simp; omega
        rw [l1, List.getElem?_drop]
        have q3 : j + k + (x - (j + k)) = x := by omega
        rw [q3]; simp [hx']
  refine ⟨cd, Ad, Sd, DN, fun x hx' => ?_⟩
  have a1 := Hd x (by omega)
  have a2 := Gd x (by omega)
  rw [key x hx'] at a1 a2
  exact ⟨a1, a2⟩
theorem V.fin {v : Option Value} (A : V l Z n0 y bytes maxl ret R G h pc Ls St C S) (hC : C ≤ R.cells) (hSl : S ≤ R.slots) (hv : ret = none → v = none) (hQ : Q v h)
    (f : ∀ {p : Program} {e : Env} {s : State} {m : MethodId} {args : Array Value} {below : List Frame} {meth : Method} {c : Code} {T : State} {locs : List Loc} {fs : List Frame}, Stand p l e R s m args below meth c T locs C S → p.tables.exec = Jvm.exec → c.code = bytes → meth.sig.returnType = ret → (∀ (f : JFrame) (acts : List Action), f.method = m → f.locked = none → f.entered = [] → (doReturn e (T.setTop f) acts v).1 = T.setFrames fs) → Steps p.tables e below (T.setTop (mkF m pc Ls St)) (T.setFrames fs)) : GlV R n0 G Q := by
  obtain ⟨p, e, s, m, args, below, meth, c, st⟩ := G
  obtain ⟨hx, hby, hml, hnm, hrt, hlk, hn0, vm0, k0, hS, hk, hZ, hown, T, locs, X, N, eT, k⟩ := A
  obtain ⟨fs, hr, hrun, hended, hE⟩ := X.leaveW hS (by rw [eT]; exact hk) (v := v) (fun q => hv (hrt.symm.trans q)) hlk
  show ∃ s₂ o, _
  refine ⟨_, _, k _ (f X hx hby hrt hr), hrun, hended, v, locs, rfl, ⟨N, ?_⟩, hE.1, hE.2.1, hE.2.2.1, hE.2.2.2.mono hC hSl⟩
  show Q v T.heap
  rw [eT]; exact hQ
theorem V.callS (A : V l Z n0 y bytes maxl ret R G h pc Ls St C S) {y' : MethodName} {bytes' : ByteArray} {maxl' : Nat} {ret' : Option FieldType} {R' : Room} {as : Array Value} {idx : Nat} {argsL rest : List Value} {ps : List FieldType} {rr : Option FieldType} (hd : decode bytes pc = .ok (.invokestatic idx, 3))
    (w1 : (Jvm.Cond.methodLink y.cls idx y').before a0 Z = true) (w2 : (Jvm.Cond.static y').before a0 Z = true) (w3 : (Jvm.Cond.initialized y'.cls).before a0 Z = true) (w4 : (Jvm.Cond.code y' bytes' maxl' ret').before a0 Z = true) (hM : CtrV l Z n0 y' bytes' maxl' ret' [] R' as h Q) (has : argsL.toArray = as) (hs : St = argsL.reverse ++ rest)
    (hpd : parseMethodDescriptor y'.desc = some ⟨ps, rr⟩) (hlen : argsL.length = ps.length) (hsz : Ls.size = maxl) (hy : y'.cls ≠ "java/lang/invoke/MethodHandle" ∧ y'.cls ≠ "java/lang/invoke/VarHandle") (hf : R'.frames + 1 ≤ R.frames) (hlo : (rest.map fun v => v.category).sum + (maxl' + 11) + R'.locals ≤ R.locals) (hC : C + R'.cells ≤ R.cells) (hSl : S + R'.slots ≤ R.slots) (hC' : C + R'.cells = C') (hS' : S + R'.slots = S') (hp : pc + 3 = pc') :
    ∃ v h', Q v h' ∧ V l Z n0 y bytes maxl ret R G h' pc' Ls (v.toList ++ rest) C' S' := by
  subst hp hC' hS' has
  obtain ⟨p, e, s, m, args, below, meth, c, st⟩ := G
  obtain ⟨hx, hby, hml, hnm, hrt, hlk, hn0, vm0, k0, hS, hk, hZ, hown, T, locs, X, N, eT, k⟩ := A
  obtain ⟨v, _, ⟨T', L', k', n'⟩, -, X', hS', hg', ⟨Lc, hQ, l1, y1, z1⟩, st'⟩ := callSS X hx (y := y') hown (mvT hZ w1) (mvT hZ w2) (mvT hZ w3) (mvT hZ w4) hy (backOfS (Q := fun v h L => Fr n0 L ∧ Q v h) (W := (rest.map fun v => v.category).sum) hM hZ w4 w3 hf hlo) (g := mkF m pc Ls St) rfl (by rw [hml]; exact hsz) (argsL := argsL) (rest := rest) (lenOf hpd hlen) hs (by show 2 * 0 + _ ≤ _; omega) (hb hby hd) (fun _ _ => ⟨rfl, eT, hC, hSl⟩)
  dsimp only [Pt.U, Pt.locs, Pt.cells, Pt.slots] at X' hS' hg' l1 y1 z1 st' hQ
  subst l1 y1 z1
  exact ⟨v, T'.heap, hQ.2, by
    obtain ⟨X2, hS2, hZ2, hown2⟩ := rebS hS (by rw [eT]; exact hk) X' hS' hg' hZ hown
    exact V.mk hx hZ2 hby hml hown2 hnm hrt hlk hn0 hS2 (Nat.le_refl _) X2 (N.app hQ.1) rfl (fun t q => k t (st'.trans q))⟩
theorem V.callI (A : V l Z n0 y bytes maxl ret R G h pc Ls St C S) {a : Addr} {y' : MethodName} {bytes' : ByteArray} {maxl' : Nat} {R' : Room} {as : Array Value} {idx : Nat} {argsL rest : List Value} {ps : List FieldType} {rr : Option FieldType} (hd : decode bytes pc = .ok (.invokespecial idx, 3)) (hy1 : y'.name = "<init>")
    (w1 : (Jvm.Cond.methodLink y.cls idx y').before a0 Z = true) (w2 : (Jvm.Cond.instanceMethod y').before a0 Z = true) (w3 : (Jvm.Cond.initialized y'.cls).before a0 Z = true) (w4 : (Jvm.Cond.code y' bytes' maxl' none).before a0 Z = true) (hM : CtrV l Z n0 y' bytes' maxl' none [] R' as h Q) (has : (.ref a :: argsL).toArray = as) (hs : St = argsL.reverse ++ .ref a :: rest)
    (hpd : parseMethodDescriptor y'.desc = some ⟨ps, rr⟩) (hlen : argsL.length = ps.length) (hsz : Ls.size = maxl) (hy : y'.cls ≠ "java/lang/invoke/MethodHandle" ∧ y'.cls ≠ "java/lang/invoke/VarHandle") (hf : R'.frames + 1 ≤ R.frames) (hlo : (rest.map fun v => v.category).sum + (maxl' + 11) + R'.locals ≤ R.locals) (hC : C + R'.cells ≤ R.cells) (hSl : S + R'.slots ≤ R.slots) (hC' : C + R'.cells = C') (hS' : S + R'.slots = S') (hp : pc + 3 = pc') :
    ∃ v h', Q v h' ∧ V l Z n0 y bytes maxl ret R G h' pc' Ls (v.toList ++ rest) C' S' := by
  subst hp hC' hS' has
  obtain ⟨p, e, s, m, args, below, meth, c, st⟩ := G
  obtain ⟨hx, hby, hml, hnm, hrt, hlk, hn0, vm0, k0, hS, hk, hZ, hown, T, locs, X, N, eT, k⟩ := A
  obtain ⟨v, _, ⟨T', L', k', n'⟩, -, X', hS', hg', ⟨Lc, hQ, l1, y1, z1⟩, st'⟩ := X.specialBackS hx (y := y') hy1 hown (mvT hZ w1) (mvT hZ w2) (mvT hZ w4) hy (backOfS (Q := fun v h L => Fr n0 L ∧ Q v h) (W := (rest.map fun v => v.category).sum) hM hZ w4 w3 hf hlo) (g := mkF m pc Ls St) rfl (by rw [hml]; exact hsz) (Steps.refl _) (a := a) (argsL := argsL) (rest := rest) (lenOf hpd hlen) hs (by show 2 * 0 + _ ≤ _; omega) (hb hby hd) (fun _ _ => ⟨rfl, eT, hC, hSl⟩)
  dsimp only [Pt.U, Pt.locs, Pt.cells, Pt.slots] at X' hS' hg' l1 y1 z1 st' hQ
  subst l1 y1 z1
  exact ⟨v, T'.heap, hQ.2, by
    obtain ⟨X2, hS2, hZ2, hown2⟩ := rebS hS (by rw [eT]; exact hk) X' hS' hg' hZ hown
    exact V.mk hx hZ2 hby hml hown2 hnm hrt hlk hn0 hS2 (Nat.le_refl _) X2 (N.app hQ.1) rfl (fun t q => k t (st'.trans q))⟩
theorem V.callV (A : V l Z n0 y bytes maxl ret R G h pc Ls St C S) {a : Addr} {K : String} {y' z' : MethodName} {bytes' : ByteArray} {maxl' : Nat} {ret' : Option FieldType} {R' : Room} {as : Array Value} {idx : Nat} {argsL rest : List Value} {ps : List FieldType} {rr : Option FieldType} (hd : decode bytes pc = .ok (.invokevirtual idx, 3)) (E : Exa Z h a K)
    (w1 : (Jvm.Cond.methodLink y.cls idx y').before a0 Z = true) (wd : (Jvm.Cond.declares y').before a0 Z = true) (hnf : ∀ {s : State}, Z.Warmed39 s.vm → NotFace s y') (ws : (Jvm.Cond.selects K y' z').before a0 Z = true) (w2 : (Jvm.Cond.instanceMethod z').before a0 Z = true) (w3 : (Jvm.Cond.initialized z'.cls).before a0 Z = true) (w4 : (Jvm.Cond.code z' bytes' maxl' ret').before a0 Z = true) (hM : CtrV l Z n0 z' bytes' maxl' ret' [] R' as h Q) (has : (.ref a :: argsL).toArray = as) (hs : St = argsL.reverse ++ .ref a :: rest)
    (hpd : parseMethodDescriptor y'.desc = some ⟨ps, rr⟩) (hlen : argsL.length = ps.length) (hsz : Ls.size = maxl) (hy : y'.cls ≠ "java/lang/invoke/MethodHandle" ∧ y'.cls ≠ "java/lang/invoke/VarHandle") (hf : R'.frames + 1 ≤ R.frames) (hlo : (rest.map fun v => v.category).sum + (maxl' + 11) + R'.locals ≤ R.locals) (hC : C + R'.cells ≤ R.cells) (hSl : S + R'.slots ≤ R.slots) (hC' : C + R'.cells = C') (hS' : S + R'.slots = S') (hp : pc + 3 = pc') :
    ∃ v h', Q v h' ∧ V l Z n0 y bytes maxl ret R G h' pc' Ls (v.toList ++ rest) C' S' := by
  subst hp hC' hS' has
  obtain ⟨p, e, s, m, args, below, meth, c, st⟩ := G
  obtain ⟨hx, hby, hml, hnm, hrt, hlk, hn0, vm0, k0, hS, hk, hZ, hown, T, locs, X, N, eT, k⟩ := A
  obtain ⟨cq, kq, qa, qb, qc⟩ := isOf hZ eT E
  obtain ⟨v, _, ⟨T', L', k', n'⟩, -, X', hS', hg', ⟨Lc, hQ, l1, y1, z1⟩, st'⟩ := X.virtualBackS hx (y := y') (z := z') hown (mvT hZ w1) (mvT hZ wd) (hnf hZ) (mvT hZ ws) (mvT hZ w2) hy (backOfS (Q := fun v h L => Fr n0 L ∧ Q v h) (W := (rest.map fun v => v.category).sum) hM hZ w4 w3 hf hlo) qa qc (g := mkF m pc Ls St) rfl (by rw [hml]; exact hsz) (Steps.refl _) (argsL := argsL) (rest := rest) (lenOf hpd hlen) hs (by show 2 * 0 + _ ≤ _; omega) (hb hby hd) (fun _ _ => ⟨rfl, eT, hC, hSl⟩)
  dsimp only [Pt.U, Pt.locs, Pt.cells, Pt.slots] at X' hS' hg' l1 y1 z1 st' hQ
  subst l1 y1 z1
  exact ⟨v, T'.heap, hQ.2, by
    obtain ⟨X2, hS2, hZ2, hown2⟩ := rebS hS (by rw [eT]; exact hk) X' hS' hg' hZ hown
    exact V.mk hx hZ2 hby hml hown2 hnm hrt hlk hn0 hS2 (Nat.le_refl _) X2 (N.app hQ.1) rfl (fun t q => k t (st'.trans q))⟩
theorem V.callP (A : V l Z n0 y bytes maxl ret R G h pc Ls St C S) {a : Addr} {K : String} {kk : Nat} {y' : MethodName} {bytes' : ByteArray} {maxl' : Nat} {ret' : Option FieldType} {R' : Room} {as : Array Value} {idx : Nat} {argsL rest : List Value} {ps : List FieldType} {rr : Option FieldType} (hd : decode bytes pc = .ok (.invokevirtual idx, 3)) (E : Exa Z h a K)
    (w1 : (Jvm.Cond.methodLink y.cls idx y').before a0 Z = true) (w2 : (Jvm.Cond.instanceMethod y').before a0 Z = true) (wp : (Jvm.Cond.privateMethod y').before a0 Z = true) (wi : (Jvm.Cond.instantiable y'.cls kk).before a0 Z = true) (w3 : (Jvm.Cond.initialized y'.cls).before a0 Z = true) (w4 : (Jvm.Cond.code y' bytes' maxl' ret').before a0 Z = true) (hM : CtrV l Z n0 y' bytes' maxl' ret' [] R' as h Q) (has : (.ref a :: argsL).toArray = as) (hs : St = argsL.reverse ++ .ref a :: rest)
    (hpd : parseMethodDescriptor y'.desc = some ⟨ps, rr⟩) (hlen : argsL.length = ps.length) (hsz : Ls.size = maxl) (hy : y'.cls ≠ "java/lang/invoke/MethodHandle" ∧ y'.cls ≠ "java/lang/invoke/VarHandle") (hf : R'.frames + 1 ≤ R.frames) (hlo : (rest.map fun v => v.category).sum + (maxl' + 11) + R'.locals ≤ R.locals) (hC : C + R'.cells ≤ R.cells) (hSl : S + R'.slots ≤ R.slots) (hC' : C + R'.cells = C') (hS' : S + R'.slots = S') (hp : pc + 3 = pc') :
    ∃ v h', Q v h' ∧ V l Z n0 y bytes maxl ret R G h' pc' Ls (v.toList ++ rest) C' S' := by
  subst hp hC' hS' has
  obtain ⟨p, e, s, m, args, below, meth, c, st⟩ := G
  obtain ⟨hx, hby, hml, hnm, hrt, hlk, hn0, vm0, k0, hS, hk, hZ, hown, T, locs, X, N, eT, k⟩ := A
  obtain ⟨cq, q1, q2⟩ := E.cell
  have hpv := Cond.privateMethod_at (mvP (args := args) hZ wp)
  obtain ⟨ci, ki, i1, i2, -, i3, -, -⟩ := Cond.instantiable_spec (mvT (args := args) hZ wi)
  have hsel := selects_self_of_private (args := args) i1 i2 (Bool.or_eq_false_iff.mp i3).1 hpv (mvT hZ w2) hy
  obtain ⟨v, _, ⟨T', L', k', n'⟩, -, X', hS', hg', ⟨Lc, hQ, l1, y1, z1⟩, st'⟩ := privateBackS X hx (y := y') hown (mvT hZ w1) (mvT hZ w2) hsel hpv (mvT hZ w4) hy (backOfS (Q := fun v h L => Fr n0 L ∧ Q v h) (W := (rest.map fun v => v.category).sum) hM hZ w4 w3 hf hlo) (g := mkF m pc Ls St) rfl (by rw [hml]; exact hsz) (Steps.refl _) (a := a) (by rw [eT]; exact q1) q2 (argsL := argsL) (rest := rest) (lenOf hpd hlen) hs (by show 2 * 0 + _ ≤ _; omega) (hb hby hd) (fun _ _ => ⟨rfl, eT, hC, hSl⟩)
  dsimp only [Pt.U, Pt.locs, Pt.cells, Pt.slots] at X' hS' hg' l1 y1 z1 st' hQ
  subst l1 y1 z1
  exact ⟨v, T'.heap, hQ.2, by
    obtain ⟨X2, hS2, hZ2, hown2⟩ := rebS hS (by rw [eT]; exact hk) X' hS' hg' hZ hown
    exact V.mk hx hZ2 hby hml hown2 hnm hrt hlk hn0 hS2 (Nat.le_refl _) X2 (N.app hQ.1) rfl (fun t q => k t (st'.trans q))⟩
theorem V.retI {z : Int32} (A : V l Z n0 y bytes maxl (some .int) R G h pc Ls (.int z :: St) C S) (hd : decode bytes pc = .ok (.ireturn, 1)) (hC : C ≤ R.cells) (hSl : S ≤ R.slots) (hQ : Q (some (.int z)) h) : GlV R n0 G Q :=
  A.fin hC hSl (fun q => nomatch q) hQ fun X hx q hret hr => retOut X hx hret (t := .int) rfl (Or.inl ⟨rfl, Or.inl rfl, z, rfl⟩) (hb q hd) hr
theorem V.retN {z z' : Int32} {t : FieldType} (A : V l Z n0 y bytes maxl (some t) R G h pc Ls (.int z :: St) C S) (hd : decode bytes pc = .ok (.ireturn, 1)) (hC : C ≤ R.cells) (hSl : S ≤ R.slots) (ht : t = .boolean ∨ t = .byte ∨ t = .char ∨ t = .short) (hz : nar t z = z') (hQ : Q (some (.int z')) h) : GlV R n0 G Q := by
  subst hz; exact A.fin hC hSl (fun q => nomatch q) hQ fun X hx q hret hr => RoadKit.retN X hx hret ht (hb q hd) hr
theorem V.retJ {z : Int64} (A : V l Z n0 y bytes maxl (some .long) R G h pc Ls (.long z :: St) C S) (hd : decode bytes pc = .ok (.lreturn, 1)) (hC : C ≤ R.cells) (hSl : S ≤ R.slots) (hQ : Q (some (.long z)) h) : GlV R n0 G Q :=
  A.fin hC hSl (fun q => nomatch q) hQ fun X hx q hret hr => retOut X hx hret (t := .long) rfl (Or.inr (Or.inl ⟨rfl, rfl, z, rfl⟩)) (hb q hd) hr
theorem V.retA {v : Value} {t : FieldType} (A : V l Z n0 y bytes maxl (some t) R G h pc Ls (v :: St) C S) (hd : decode bytes pc = .ok (.areturn, 1)) (hC : C ≤ R.cells) (hSl : S ≤ R.slots) (ht : t.isReference = true) (hv : v.isRef = true) (hn : narrow t v = v) (hQ : Q (some v) h) : GlV R n0 G Q :=
  A.fin hC hSl (fun q => nomatch q) hQ fun X hx q hret hr => retOut X hx hret (t := t) hn (Or.inr (Or.inr (Or.inr (Or.inr ⟨rfl, ht, hv⟩)))) (hb q hd) hr
theorem V.retV (A : V l Z n0 y bytes maxl none R G h pc Ls [] C S) (hd : decode bytes pc = .ok (.return_, 1)) (hC : C ≤ R.cells) (hSl : S ≤ R.slots) (hQ : Q none h) : GlV R n0 G Q :=
  A.fin hC hSl (fun _ => rfl) hQ fun X hx q hret hr => X.returnOut hx hret (hb q hd) hr
theorem V.kI {P : Int32 → Heap → Prop} {rest : List Value} (q : ∃ v h', QI P v h' ∧ V l Z n0 y bytes maxl ret R G h' pc Ls (v.toList ++ rest) C S) : ∃ r h', P r h' ∧ V l Z n0 y bytes maxl ret R G h' pc Ls (.int r :: rest) C S := by
  obtain ⟨v, h', ⟨r, rfl, hP⟩, A⟩ := q; exact ⟨r, h', hP, A⟩
theorem V.kJ {P : Int64 → Heap → Prop} {rest : List Value} (q : ∃ v h', QJ P v h' ∧ V l Z n0 y bytes maxl ret R G h' pc Ls (v.toList ++ rest) C S) : ∃ r h', P r h' ∧ V l Z n0 y bytes maxl ret R G h' pc Ls (.long r :: rest) C S := by
  obtain ⟨v, h', ⟨r, rfl, hP⟩, A⟩ := q; exact ⟨r, h', hP, A⟩
theorem V.kA {P : Addr → Heap → Prop} {rest : List Value} (q : ∃ v h', QA P v h' ∧ V l Z n0 y bytes maxl ret R G h' pc Ls (v.toList ++ rest) C S) : ∃ r h', P r h' ∧ V l Z n0 y bytes maxl ret R G h' pc Ls (.ref r :: rest) C S := by
  obtain ⟨v, h', ⟨r, rfl, hP⟩, A⟩ := q; exact ⟨r, h', hP, A⟩
theorem V.kV {P : Heap → Prop} {rest : List Value} (q : ∃ v h', QV P v h' ∧ V l Z n0 y bytes maxl ret R G h' pc Ls (v.toList ++ rest) C S) : ∃ h', P h' ∧ V l Z n0 y bytes maxl ret R G h' pc Ls rest C S := by
  obtain ⟨v, h', ⟨rfl, hP⟩, A⟩ := q; exact ⟨h', hP, A⟩
/-- ldc of a String constant -/
theorem V.ldcStr (A : V l Z n0 y bytes maxl ret R G h pc Ls St C S) {i n : Nat} {text : String} (hd : decode bytes pc = .ok (.ldc i, 2)) (w : (Jvm.Cond.stringLink y.cls i text).before a0 Z = true) (wS : ∀ a ∈ Bundle.stringAtoms, a.before a0 Z = true) (hn : 4 * text.toList.length ≤ n) (hbig : n ≤ 536870912) (hC : C + 2 ≤ R.cells) (hSl : S + (n + 4) ≤ R.slots) (hC' : C + 2 = C') (hS' : S + (n + 4) = S') (hp : pc + 2 = pc') :
    ∃ h' a, Ext h h' ∧ V l Z n0 y bytes maxl ret R G h' pc' Ls (.ref a :: St) C' S' := by
  subst hp hC' hS'
  obtain ⟨p, e, s, m, args, below, meth, c, st⟩ := G
  obtain ⟨hx, hby, hml, hnm, hrt, hlk, hn0, vm0, k0, hS, hk, hZ, hown, T, locs, X, N, eT, k⟩ := A
  obtain ⟨a, T', h', k1, X', e', E', hS2, hk2, hZ2, hown2, st'⟩ := RoadKit.ldcS X hx hZ hown w wS eT hS hk (g := mkF m pc Ls St) rfl (hb hby hd) hn hbig hC hSl
  exact ⟨h', a, E', V.mk hx hZ2 hby hml hown2 hnm hrt hlk hn0 hS2 hk2 X' N e' (fun t q => k t (st' t q))⟩
end WalkV
end Jvm.Pilot.@@N@@
namespace Jvm.Pilot.@@N@@
section LdcW
open Jvm ClassFile Sem Op Lib Bundle Jvm.Free Jvm.Free.SB Jvm.Free.SBG Jvm.Stand
variable {p : Program} {l : Launch} {e : Env} {R : Room} {s : State} {m : MethodId} {args : Array Value} {below : List Frame} {meth : Method} {c : Code} {T : State} {locs : List Loc} {cells slots : Nat}
theorem ldcColdNW (X : Stand p l e R s m args below meth c T locs cells slots) (hexec : p.tables.exec = Jvm.exec) {own text : String} {index : Nat} (hown : s.vm.findClass own = some m.cls)
    (hlink : (Cond.stringLink own index text).before args s = true) (hS : ∀ a ∈ Bundle.stringAtoms, a.before args s = true)
    {g : JFrame} (hg : g.method = m) (hdg : decode c.code g.pc = .ok (.ldc_w index, 3)) {n : Nat} (hn : 4 * text.toList.length ≤ n) (hbig : n ≤ 536870912)
    (hRcells : cells + 2 ≤ R.cells) (hRslots : slots + (n + 4) ≤ R.slots) :
    ∃ (a : Addr) (T₂ : State), Stand p l e R (s.setVm T₂.vm) m args below meth c T₂ locs (cells + 2) (slots + (n + 4)) ∧ s.Since T₂.vm T₂.heap.size ∧
      (∃ k₂, T₂.vm.classes[m.cls]? = some k₂ ∧ k₂.resolved[index]? = some (some (.string a))) ∧
      (∀ a0, a0 < T.heap.size → T₂.heap[a0]? = T.heap[a0]?) ∧
      T.Warmed39 T₂.vm ∧ (T₂.vm.interned = T.vm.interned ∨ ∃ units : Array UInt16, utf16ToString? units = some text ∧ T₂.vm.interned = T.vm.interned.push (units, a) ∧ T.vm.interned.find? (fun p => p.1 == units) = none ∧ (units.all (· < 256) = true → SlIn 0 T.heap.size T₂ a units)) ∧
      ∀ target, Steps p.tables e below (T₂.setTop { g with pc := g.pc + 3, stack := .ref a :: g.stack }) target → Steps p.tables e below (T.setTop g) target := by
  obtain ⟨k, cf, i, units, hk, hcf, hc, hu, hnm, hdec, hres⟩ := Cond.stringLink_spec hown hlink
  obtain ⟨k', hk', he⟩ := X.warmed.alike.2.2 _ _ hk
  have hcf' : k'.cf = some cf := by rw [he]; exact hcf
  have hbytes : (stringBytes units).size ≤ n := Nat.le_trans (text_bytes_le hdec) hn

  have hnow : (k'.resolved[index]? = some none ∧ k.resolved[index]? = some none) ∨ ∃ a, k'.resolved[index]? = some (some (.string a)) := by
    obtain ⟨k'', ha'', -, -, ee, -⟩ := X.warmed.wide.2.2.2 _ k hk
    cases hk'.symm.trans ha''
    rcases ee index with e0 | ⟨hop, r, e1, hr | ⟨a, t, si, us, rfl, -, q3, q4, q5⟩⟩
    · rcases hres with h0 | ⟨a, h0⟩
      · exact Or.inl ⟨e0.trans h0, h0⟩
      · exact Or.inr ⟨a, e0.trans h0⟩
    · exfalso
      cases r <;> simp [State.rightAt, hk, hcf, hnm] at hr
    · rw [hcf] at q3 q4
      have e3 : si = i := by
        have := q3.symm.trans hc
        simpa using this
      subst e3
      have e4 : us = units := by simpa [ConstantPool.utf8?, hu] using q4.symm
      subst e4
      exact Or.inr ⟨a, e1⟩
  subst hg
  rcases hnow with ⟨hopen, hopen0⟩ | ⟨a, hr'⟩
  · have q2 : k.cf.bind (namesOf? ·.constantPool index) = some (.string text) := by rw [hcf]; exact hnm
    have q3 : k.cf.bind (·.constantPool[index]?) = some (.string i) := by rw [hcf]; exact hc
    have q4 : k.cf.bind (·.constantPool.utf8? i) = some units := by rw [hcf]; simp [ConstantPool.utf8?, hu]
    have r2 : k'.cf.bind (namesOf? ·.constantPool index) = some (.string text) := by rw [hcf']; exact hnm
    have r3 : k'.cf.bind (·.constantPool[index]?) = some (.string i) := by rw [hcf']; exact hc
    have r4 : k'.cf.bind (·.constantPool.utf8? i) = some units := by rw [hcf']; simp [ConstantPool.utf8?, hu]
    cases hf : T.vm.interned.find? (fun p => p.1 == units) with
    | some pr =>

      obtain ⟨u', a⟩ := pr
      have hu' : u' = units := by
        have := Array.find?_some hf
        simpa using this
      subst hu'
      have hW : s.Warmed39 (T.vm.noted g.method.cls index (.string a)) := X.warmed.wide.notedString hk (Or.inl hopen0) q2 q3 q4 hf
      refine ⟨a, T.setVm (T.vm.noted g.method.cls index (.string a)), (X.mono (by omega) (by omega)).retabled hW, ⟨hW, State.Booked.step (T₂ := T.setVm (T.vm.noted g.method.cls index (.string a))) (X.warmed.no_new_pair _) X.same.2.1 ⟨Nat.le_refl _, Or.inl rfl⟩⟩, ⟨_, Vm.classes_note_self index (.string a) hk', Class.resolved_note_self (.string a) hopen⟩, fun _ _ => rfl, (State.Warmed39.refl T).notedString hk' (Or.inl hopen) r2 r3 r4 hf, Or.inl rfl, fun target hrest => ?_⟩
      jvm_step X.here [hexec, hdg, ldc_w.wp_string_found (e := e) (s := T) (f := g) X.here.top hk' hcf' hc hu hopen hf]
      exact hrest
    | none =>

      obtain ⟨Zs, LZs, hn4, hfitv, hfitc⟩ := StringT.of_atoms (args := args) hS
      obtain ⟨kS', kB', LZ', htyS⟩ := LZs.warmer X.warmed.alike
      have hfs : T.fitsSlot = s.fitsSlot := (show T.fitsSlot = (s.setVm T.vm).fitsSlot from rfl).trans (State.fitsSlot_setVm X.warmed.alike)
      have hpush : ({ T.vm with interned := T.vm.interned.push (units, T.heap.size + 1) } : Vm).interned.find? (fun p => p.1 == units) = some (units, T.heap.size + 1) := by
        show (T.vm.interned.push (units, T.heap.size + 1)).find? _ = _
        rw [Array.find?_push, hf]; simp
      have hW : s.Warmed39 (({ T.vm with interned := T.vm.interned.push (units, T.heap.size + 1) } : Vm).noted g.method.cls index (.string (T.heap.size + 1))) :=
        (X.warmed.wide.interns units (T.heap.size + 1)).notedString hk (Or.inl hopen0) q2 q3 q4 hpush
      have X2 := (X.pushed (bytesOf Zs.cB units)).pushed (stringAt Zs.cS kS' Zs.fv Zs.fc units T.heap.size)
      rw [← withString_eq] at X2
      have hkeep : ∀ a0, a0 < T.heap.size → ((withString T Zs.cB Zs.cS kS' Zs.fv Zs.fc units).setVm (({ T.vm with interned := T.vm.interned.push (units, T.heap.size + 1) } : Vm).noted g.method.cls index (.string (T.heap.size + 1)))).heap[a0]? = T.heap[a0]? := by
        intro a0 h0
        show (withString T Zs.cB Zs.cS kS' Zs.fv Zs.fc units).heap[a0]? = _
        rw [withString_eq]
        show ((T.heap.push _).push _)[a0]? = _
        rw [Array.getElem?_push, if_neg (by rw [Array.size_push]; omega), Array.getElem?_push, if_neg (by omega)]
      have hsz : (withString T Zs.cB Zs.cS kS' Zs.fv Zs.fc units).heap.size = T.heap.size + 2 := by
        rw [withString_eq]
        show ((T.heap.push _).push _).size = _
        simp [Array.size_push]
      have hone : T.Interned1 ((withString T Zs.cB Zs.cS kS' Zs.fv Zs.fc units).setVm (({ T.vm with interned := T.vm.interned.push (units, T.heap.size + 1) } : Vm).noted g.method.cls index (.string (T.heap.size + 1)))) :=
        ⟨by show T.heap.size ≤ (withString T Zs.cB Zs.cS kS' Zs.fv Zs.fc units).heap.size; omega, Or.inr ⟨units, T.heap.size + 1, rfl, by omega, by show T.heap.size + 1 < (withString T Zs.cB Zs.cS kS' Zs.fv Zs.fc units).heap.size; omega⟩⟩
      have hcb : ((withString T Zs.cB Zs.cS kS' Zs.fv Zs.fc units).setVm (({ T.vm with interned := T.vm.interned.push (units, T.heap.size + 1) } : Vm).noted g.method.cls index (.string (T.heap.size + 1)))).heap[T.heap.size]? = some (bytesOf Zs.cB units) := by
        show (withString T Zs.cB Zs.cS kS' Zs.fv Zs.fc units).heap[T.heap.size]? = _
        rw [withString_eq]
        show ((T.heap.push _).push _)[T.heap.size]? = _
        rw [Array.getElem?_push, if_neg (by rw [Array.size_push]; omega), Array.getElem?_push, if_pos rfl]
      have hcs : ((withString T Zs.cB Zs.cS kS' Zs.fv Zs.fc units).setVm (({ T.vm with interned := T.vm.interned.push (units, T.heap.size + 1) } : Vm).noted g.method.cls index (.string (T.heap.size + 1)))).heap[T.heap.size + 1]? = some (stringAt Zs.cS kS' Zs.fv Zs.fc units T.heap.size) := by
        show (withString T Zs.cB Zs.cS kS' Zs.fv Zs.fc units).heap[T.heap.size + 1]? = _
        rw [withString_eq]
        show ((T.heap.push _).push _)[T.heap.size + 1]? = _
        rw [Array.getElem?_push, if_pos (by rw [Array.size_push])]
      have b1 : (bytesOf Zs.cB units).slots.size = (stringBytes units).size := by
        rw [(Cell.writeAll_facts _ _).2.2]; simp [bytes0]
      have b2 : (stringAt Zs.cS kS' Zs.fv Zs.fc units T.heap.size).slots.size = 4 := by simp [string0, Cell.setSlot, htyS, hn4]
      refine ⟨T.heap.size + 1, (withString T Zs.cB Zs.cS kS' Zs.fv Zs.fc units).setVm (({ T.vm with interned := T.vm.interned.push (units, T.heap.size + 1) } : Vm).noted g.method.cls index (.string (T.heap.size + 1))), (X2.mono (by omega) (by rw [b1, b2]; omega)).retabled hW, ⟨hW, State.Booked.step (X.warmed.no_new_pair _) X.same.2.1 hone⟩, ⟨_, Vm.classes_note_self (vm := { T.vm with interned := T.vm.interned.push (units, T.heap.size + 1) }) index (.string (T.heap.size + 1)) hk', Class.resolved_note_self (.string (T.heap.size + 1)) hopen⟩, hkeep, ((State.Warmed39.refl T).interns units (T.heap.size + 1)).notedString hk' (Or.inl hopen) r2 r3 r4 hpush, Or.inr ⟨units, hdec, rfl, hf, fun hl => made_sl hS LZs hn4 htyS hW.alike hcb hcs hl (by omega) 0⟩, fun target hrest => ?_⟩
      refine Steps.instr (c := _) (by simpa using X.here) ?_
      simp [jvm, wpRun, exec, X.here.top, hexec, hdg]
      refine ldc_w.wp_string_new (e := e) (s := T) (f := g) X.here.top hk' hcf' hc hu hopen hf LZ'.found LZ'.cls LZ'.initialized LZ'.ordinary LZ'.foundB LZ'.clsB LZ'.kindB LZ'.value LZ'.coder ?_ ?_ (X.cellsAbove hRcells) ?_
        (stringBytes_fit LZ'.clsB LZ'.kindB units) LZ'.valueSlot LZ'.coderSlot (by rw [hfs]; exact hfitv _) (by rw [hfs]; exact hfitc _) (fun d' acts' => ?_)
      · rw [Launch.admits_arrayLengthLimit X.admits]; omega
      · rw [Launch.admits_maxHeapBytes X.admits]; simp only [componentBytes]; omega
      · have := X.slotsAbove hRslots
        show T.slotsUsed + (stringBytes units).size + kS'.instanceTypes.size ≤ _
        rw [htyS, hn4]; omega
      · intro acts''
        have hs' : (withString T Zs.cB Zs.cS kS' Zs.fv Zs.fc units).topJava?.isSome := by simpa [withString] using X.here.top
        have hs'' : ((withString T Zs.cB Zs.cS kS' Zs.fv Zs.fc units).setVm (({ T.vm with interned := T.vm.interned.push (units, T.heap.size + 1) } : Vm).noted g.method.cls index (.string (T.heap.size + 1)))).topJava?.isSome := by simpa using hs'
        simp [jvm, afterInstr, hs', hs'']
        rw [State.modifyTopJava_setTop]
        exact hrest
  ·
    refine ⟨a, T, (X.mono (by omega) (by omega)).retabled X.warmed.wide, X.warmed.since _, ⟨k', hk', hr'⟩, fun _ _ => rfl, State.Warmed39.refl T, Or.inl rfl, fun target hrest => ?_⟩
    jvm_step X.here [hexec, hdg, ldc_w.wp_string (e := e) (s := T) (f := g) X.here.top hk' hcf' hc hr']
    exact hrest
end LdcW
section LdcW2
open Jvm ClassFile Sem Op Lib Bundle Jvm.Stand Jvm.Free Jvm.LawKit Jvm.RoadKit Jvm.Free.SB Jvm.Free.SBG
variable {p : Program} {l : Launch} {e : Env} {R : Room} {s : State} {m : MethodId} {args : Array Value} {below : List Frame} {meth : Method} {c : Code} {T : State} {locs : List Loc} {cells slots : Nat} {Z : State} {a0 : Array Value} {EL : List (String × Nat)} {h : Heap} {vm0 : Vm} {own text : String} {index : Nat}
theorem ldcOHW (X : Stand p l e R (s.setVm vm0) m args below meth c T locs cells slots) (hx : p.tables.exec = Jvm.exec) (hZ : Z.Warmed39 vm0) (hown : vm0.findClass own = some m.cls) (w : (Cond.stringLink own index text).before a0 Z = true) (wS : ∀ a ∈ Bundle.stringAtoms, a.before a0 Z = true)
    (eT : T.heap = h) {k0 : Nat} (hS : s.Since vm0 k0) (hk : k0 ≤ h.size) (hEL : EW Z a0 EL) (H : CHv Z EL vm0 h)
    {g : JFrame} (hg : g.method = m) (hd : decode c.code g.pc = .ok (.ldc_w index, 3)) {n : Nat} (hn : 4 * text.toList.length ≤ n) (hbig : n ≤ 536870912) (hc : cells + 2 ≤ R.cells) (hl' : slots + (n + 4) ≤ R.slots) :
    ∃ (a : Addr) (T' : State) (h' : Heap) (k1 : Nat), Stand p l e R (s.setVm T'.vm) m args below meth c T' locs (cells + 2) (slots + (n + 4)) ∧ T'.heap = h' ∧ Ext h h' ∧ s.Since T'.vm k1 ∧ k1 ≤ h'.size ∧ Z.Warmed39 (s.setVm T'.vm).vm ∧ (s.setVm T'.vm).vm.findClass own = some m.cls ∧ CHr Z EL vm0 h T'.vm h' ∧ Lit (s.setVm T'.vm) own index a ∧
      ∀ target, Steps p.tables e below (T'.setTop { g with pc := g.pc + 3, stack := .ref a :: g.stack }) target → Steps p.tables e below (T.setTop g) target := by
  obtain ⟨a, T', X', hS', ⟨kk, hkk, hrr⟩, hb, hTW, hint, st⟩ := ldcColdNW X hx (own := own) hown (mvS hZ w) (fun d hd => by
    have q := wS d hd
    simp only [Bundle.stringAtoms, List.mem_cons, List.not_mem_nil, or_false] at hd
    rcases hd with rfl | rfl | rfl | rfl | rfl | rfl | rfl
    · exact mv (s := s.setVm vm0) hZ q
    · exact mv (s := s.setVm vm0) hZ q
    · exact mvA (s := s.setVm vm0) hZ q
    · exact mv (s := s.setVm vm0) hZ q
    · exact mv (s := s.setVm vm0) hZ q
    · exact mv (s := s.setVm vm0) hZ q
    · exact mv (s := s.setVm vm0) hZ q) hg hd hn hbig hc hl'
  subst eT
  have E := ext_of hb
  have hW : Z.Warmed39 T'.vm := State.Warmed39.trans (t := s.setVm vm0) hZ hS'.1
  have A := CHv.at X hZ hEL H
  have hZT : Z.Warmed39 T.vm := wtrans (s := s.setVm vm0) hZ X.warmed
  have B := CHv.later (vm := T.vm) (vm1 := T'.vm) hZT (show (Wst Z T.vm T.heap).Warmed39 T'.vm from hTW) hEL E (hint.imp id fun ⟨us, _, e1, e2, e3⟩ => ⟨us, a, e1, e2, fun hl => by
    obtain ⟨q, cS, hq, r1, r2, r3, r4, r5⟩ := e3 hl
    have F : SlB T' q us := ⟨cS, r1, r2, r3, r4⟩
    refine ⟨q, hq, F.carry (V := Wst Z T'.vm T'.heap) (Vm.Alike.refl _) F.ha F.hd, ?_⟩
    rcases r5 with ⟨z, -⟩ | z
    · exact absurd z (Nat.not_lt_zero _)
    · exact z⟩) A.1
  have hf : T'.vm.findClass own = some m.cls := by rw [hS'.1.alike.findClass]; exact hown
  exact ⟨a, T', _, _, X', rfl, E, hS.trans hS' (Nat.le_trans hk E.1), Nat.le_refl _, hW, hf, A.trans ⟨B.1, E.1, B.2⟩, by simp [Lit, State.resolvedAt?, hf, hkk, hrr], st⟩
theorem ldcCHW (X : Stand p l e R (s.setVm vm0) m args below meth c T locs cells slots) (hx : p.tables.exec = Jvm.exec) (hZ : Z.Warmed39 vm0) (hown : vm0.findClass own = some m.cls) (w : (Cond.stringLink own index text).before a0 Z = true) (wS : ∀ a ∈ Bundle.stringAtoms, a.before a0 Z = true)
    (eT : T.heap = h) {k0 : Nat} (hS : s.Since vm0 k0) (hk : k0 ≤ h.size) (hEL : EW Z a0 EL) (hmem : (own, index) ∈ EL) (H : CHv Z EL vm0 h)
    {vs : List Value} {z : Int32} (ht : (∀ c ∈ text.toList, c.toNat < 256) ∧ text.toList.map (fun c => Value.int (Jvm.Lit.byteI c.toNat.toUInt16)) = vs) (hz : ¬ z < 0) (hl : z.toNatClampNeg = vs.length)
    {g : JFrame} (hg : g.method = m) (hd : decode c.code g.pc = .ok (.ldc_w index, 3)) {n : Nat} (hn : 4 * text.toList.length ≤ n) (hbig : n ≤ 536870912) (hc : cells + 2 ≤ R.cells) (hl' : slots + (n + 4) ≤ R.slots) :
    ∃ (a : Addr) (T' : State) (h' : Heap) (k1 : Nat) (b : Addr) (k : ClassId), Stand p l e R (s.setVm T'.vm) m args below meth c T' locs (cells + 2) (slots + (n + 4)) ∧ T'.heap = h' ∧ Ext h h' ∧ s.Since T'.vm k1 ∧ k1 ≤ h'.size ∧ Z.Warmed39 (s.setVm T'.vm).vm ∧ (s.setVm T'.vm).vm.findClass own = some m.cls ∧
      Exa Z h' a "java/lang/String" ∧ Fld Z h' a "java/lang/String" "coder" "B" (.int 0) ∧ Fld Z h' a "java/lang/String" "value" "[B" (.ref b) ∧ Arv Z h' b k .byte z vs (.int 0) ∧ a < h'.size ∧ b < h'.size ∧ CHr Z EL vm0 h T'.vm h' ∧ Lit (s.setVm T'.vm) own index a ∧ (∀ x, Safe Z EL T'.vm h' x → x ≠ a ∧ x ≠ b) ∧
      ∀ target, Steps p.tables e below (T'.setTop { g with pc := g.pc + 3, stack := .ref a :: g.stack }) target → Steps p.tables e below (T.setTop g) target := by
  obtain ⟨a, T', h', k1', X', rfl, E, hS2, hk2, hW, hf, hC, hL, st⟩ := ldcOHW X hx hZ hown w wS eT hS hk hEL H hg hd hn hbig hc hl'
  have hW : Z.Warmed39 T'.vm := hW
  have hal : Z.vm.Alike T'.vm := hW.alike
  have w2 : (Cond.stringLink own index text).before a0 (Wst Z T'.vm T'.heap) = true := mvS (s := { Z with heap := T'.heap }) hW w
  obtain ⟨k0', cf, i, units, hkx, hcf, hp, hu, -, htext, -⟩ := Cond.stringLink_spec (s := Wst Z T'.vm T'.heap) hf w2
  have hres : k0'.resolved[index]? = some (some (.string a)) := by
    have q : (s.setVm T'.vm).resolvedAt? own index = some (.string a) := hL
    have hf' : T'.vm.findClass own = some m.cls := hf
    have hk' : T'.vm.classes[m.cls]? = some k0' := hkx
    simp [State.resolvedAt?, hf', hk'] at q
    cases hr : k0'.resolved[index]? with
    | none => rw [hr] at q; cases q
    | some o => rw [hr] at q; cases o with
      | none => cases q
      | some r => simpa using q
  have hB0 : Booksv T'.vm own index units a := ⟨m.cls, k0', cf, i, hf, hkx, hcf, hp, hu, Or.inl hres⟩
  have hlat := Jvm.ClassFile.lat_of_text htext ht.1
  obtain ⟨q, hqa, F⟩ := SlB.of (hC.1 _ hmem units a hB0)
  have hne : ∀ x, Safe Z EL T'.vm T'.heap x → x ≠ q.sa ∧ x ≠ q.sd := fun x S => ⟨fun e1 => S ⟨_, hmem, units, a, hB0, q, hqa, F, Or.inl e1⟩, fun e1 => S ⟨_, hmem, units, a, hB0, q, hqa, F, Or.inr e1⟩⟩
  obtain ⟨cS, ⟨⟨s1, s2, s3, ⟨cv, kv, iv, s4, s4'⟩, ⟨cc, kc, ic, s5, s5'⟩, s6, s7, s8, s9, s10, s11, s12, s13, s14, s15, s16⟩, hfS, hcS⟩, ⟨kS, k1, k2, k3⟩, hB, hbyt⟩ := F
  subst hqa
  have hfS : T'.vm.findClass "java/lang/String" = some cS := hfS
  have hB : T'.vm.findClass "[B" = some q.SA.cls := hB
  have k1 : T'.vm.classes[cS]? = some kS := k1
  obtain ⟨kv', z4⟩ := ff_back (U := Wst Z T'.vm T'.heap) hal s4
  obtain ⟨kc', z5⟩ := ff_back (U := Wst Z T'.vm T'.heap) hal s5
  have hfZ : Z.vm.findClass "java/lang/String" = some q.sC.cls := by rw [← hal.findClass, hcS]; exact hfS
  obtain ⟨kz, hkz, -⟩ := Vm.findClass_spec hfZ
  obtain ⟨kz', hkz', ekz⟩ := hal.2.2 _ _ hkz
  have ekS : kz' = kS := Option.some.inj (hkz'.symm.trans (hcS ▸ k1))
  have hBZ : Z.vm.findClass "[B" = some q.SA.cls := by rw [← hal.findClass]; exact hB
  obtain ⟨kb, hkb, -⟩ := Vm.findClass_spec hBZ
  obtain ⟨kb', hkb', ekb⟩ := hal.2.2 _ _ hkb
  obtain ⟨hst, k9, hk9, comp, hkind9⟩ := s11
  have hk9 : T'.vm.classes[q.SA.cls]? = some k9 := hk9
  have ek9 : k9 = kb' := Option.some.inj (hk9.symm.trans hkb')
  have hAZ : Z.isArrayOf q.SA .byte := ⟨hst, kb, hkb, comp, by rw [ek9, ekb] at hkind9; exact hkind9⟩
  have eu : vs = units.toList.map fun u => Value.int (Jvm.Lit.byteI u) := by rw [← ht.2, Jvm.ClassFile.units_of_text htext ht.1, List.map_map]; rfl
  have el : vs.length = units.size := by rw [eu]; simp
  have hsl : q.SA.slots = units.map fun u => Value.int (Jvm.Lit.byteI u) := by rw [hbyt, SBG.stringBytes_lat hlat]; rfl
  have hsz : q.SA.slots.size = units.size := by rw [hsl, Array.size_map]
  have H2 : Has q.SA vs (.int 0) := fun j hj => by
    have hj' : j < units.size := by omega
    rw [hsl, eu]; simp [hj']
  refine ⟨q.sa, T', _, _, q.sd, q.SA.cls, X', rfl, E, hS2, hk2, hW, hf,
    ⟨q.sC, kz, s1, hfZ, hkz, s3, fun ho => by rw [k3, ← ekS, ekz]⟩, ⟨q.sC, cc, kc', ic, q.fSC, s1, z5, s7, s2, s3, by rw [← hal.assignable]; exact s5', s9⟩, ⟨q.sC, cv, kv', iv, q.fSV, s1, z4, s6, s2, s3, by rw [← hal.assignable]; exact s4', s8⟩,
    ⟨q.SA, ⟨s10, hAZ, s12⟩, rfl, by rw [hsz, hl, el], hz, H2, fun j hj => ?_⟩, (Array.getElem?_eq_some_iff.mp s1).1, (Array.getElem?_eq_some_iff.mp s10).1, hC, hL, hne, st⟩
  have e1 := s16 j hj
  have e2 := H2 j hj
  rw [SBG.getD_of e2] at e1
  exact e1
end LdcW2
end Jvm.Pilot.@@N@@
namespace Jvm.Pilot.@@N@@
open Jvm Jvm.ClassFile Sem Op Lib Jvm.Free Jvm.Stand Jvm.LawKit Jvm.RoadKit Bundle Jvm.Pilot.@@N@@.Jvm.D
/-! U: as V, with the constants of EL readable: the library's invariant CHr from the frame's start -/
def U (l : Launch) (Z : State) (EL : List (String × Nat)) (n0 : Nat) (y : MethodName) (bytes : ByteArray) (maxl : Nat) (ret : Option FieldType) (R : Room) (G : Cx) (h : Heap) (pc : Nat) (Ls : Array Slot) (St : List Value) (cells slots : Nat) : Prop :=
  match G with
  | (p, e, s, m, args, below, meth, c, st) =>
    p.tables.exec = Jvm.exec ∧ c.code = bytes ∧ c.maxLocals = maxl ∧ meth.name = y.name ∧ meth.sig.returnType = ret ∧ meth.locks = false ∧ n0 ≤ s.heap.size ∧
    ∃ (vm0 : Vm) (k0 : Nat), s.Since vm0 k0 ∧ k0 ≤ h.size ∧ Z.Warmed39 (s.setVm vm0).vm ∧ (s.setVm vm0).vm.findClass y.cls = some m.cls ∧ (CHr Z EL s.vm s.heap vm0 h ∧ ∃ a0, EW Z a0 EL) ∧
    ∃ (T : State) (locs : List Loc), Stand p l e R (s.setVm vm0) m args below meth c T locs cells slots ∧ Fr n0 locs ∧ T.heap = h ∧ ∀ t, Steps p.tables e below (T.setTop (mkF m pc Ls St)) t → Steps p.tables e below st t
def GlU (R : Room) (Z : State) (EL : List (String × Nat)) (n0 : Nat) (G : Cx) (Q : Option Value → Heap → Prop) : Prop :=
  match G with
  | (p, e, s, m, args, below, meth, c, st) => ∃ s₂ o, Steps p.tables e below st s₂ ∧ s₂.status = .running ∧ Ended s₂ below o ∧ ∃ v L, o = .returned v ∧ (Fr n0 L ∧ Q v s₂.heap) ∧ CHr Z EL s.vm s.heap s₂.vm s₂.heap ∧ ReturnedEndW s o s₂ L R.cells R.slots
def CtrU (l : Launch) (Z : State) (EL : List (String × Nat)) (n0 : Nat) (y : MethodName) (bytes : ByteArray) (maxl : Nat) (ret : Option FieldType) (ws : List Jvm.Cond) (R : Room) (as : Array Value) (h0 : Heap) (Q : Option Value → Heap → Prop) : Prop :=
  MetFree l y (head1 (Jvm.Cond.code y bytes maxl ret :: ws) R) (fun a U => a = as ∧ Z.Warmed39 U.vm ∧ U.heap = h0 ∧ CHv Z EL U.vm h0) (fun _ _ _ _ _ => True) (fun _ U o U' => ∃ v L, o = .returned v ∧ (Fr n0 L ∧ Q v U'.heap) ∧ CHr Z EL U.vm U.heap U'.vm U'.heap ∧ ReturnedEndW U o U' L R.cells R.slots)
section WalkU
variable {l : Launch} {Z : State} {EL : List (String × Nat)} {n0 : Nat} {y : MethodName} {bytes : ByteArray} {maxl : Nat} {ret : Option FieldType} {R : Room} {G : Cx} {h h' : Heap} {pc pc' : Nat} {Ls : Array Slot} {St : List Value} {C S C' S' : Nat} {Q : Option Value → Heap → Prop} {a0 : Array Value} {a b : Addr} {ty : FieldType} {N : Nat} {f : Nat → Value} {ws : List Addr} {sl : Nat} {v : Value}
/-- x's class is none that a constant's cells have -/
def SafeC (Z : State) (h : Heap) (x : Addr) : Prop := ∃ C, Exa Z h x C ∧ C ≠ "java/lang/String" ∧ C ≠ "[B"
theorem allU0 : ∀ x ∈ ([] : List Addr), SafeC Z h x := fun x q => nomatch q
theorem allUS {x : Addr} {C : String} (E : Exa Z h x C) (h1 : C ≠ "java/lang/String") (h2 : C ≠ "[B") (r : ∀ x ∈ ws, SafeC Z h x) : ∀ x' ∈ x :: ws, SafeC Z h x' := fun x' q => by
  rcases List.mem_cons.mp q with rfl | q
  · exact ⟨C, E, h1, h2⟩
  · exact r x' q
theorem CHr.of_keep {vm vm1 : Vm} (hZ : Z.Warmed39 vm) (hEL : EW Z a0 EL) (H : CHv Z EL vm h) (K : Keep h h' ws) (hs : ∀ x ∈ ws, SafeC Z h x) (hW : (Wst Z vm h').Warmed39 vm1) (hi : vm1.interned = vm.interned) : CHr Z EL vm h vm1 h' := by
  have A := CHr.keep K (fun x hx => by obtain ⟨C, E, h1, h2⟩ := hs x hx; exact Safe.exa hZ.alike E h1 h2) H
  have q := CHv.later (h' := h') hZ hW hEL ⟨Nat.le_refl _, fun _ _ q => q⟩ (Or.inl hi) A.1
  exact A.trans ⟨q.1, Nat.le_refl _, q.2⟩
theorem Ctr.toU {wc : List Jvm.Cond} {as : Array Value} (hM : Ctr l Z n0 y bytes maxl ret wc R as h Q) (hEL : EW Z a0 EL) (hk : ∀ v h', Q v h' → ∃ ws, Keep h h' ws ∧ ∀ x ∈ ws, SafeC Z h x) : CtrU l Z EL n0 y bytes maxl ret wc R as h Q := fun p e ha hc hkk s m args below hf happ hP hK => by
  obtain ⟨h1, h2, h3, h4⟩ := hP
  obtain ⟨n, o, g1, g2, g3, v, L, ho, hq, hF⟩ := hM p e ha hc hkk s m args below hf happ ⟨h1, h2, h3⟩ hK
  obtain ⟨ws, K, hs⟩ := hk v _ hq.2
  have hW := hF.2.1
  refine ⟨n, o, g1, g2, g3, v, L, ho, hq, ?_, ReturnedEndW.of_narrow hF.1 hF.2.1 hF.2.2⟩
  rw [h3]
  exact CHr.of_keep h2 hEL h4 K hs hW.wide hW.interned_eq
theorem U.mk {p : Program} {e : Env} {s : State} {m : MethodId} {args : Array Value} {below : List Frame} {meth : Method} {c : Code} {st : State} {T : State} {locs : List Loc} {vm0 : Vm} {k0 : Nat} (hx : p.tables.exec = Jvm.exec) (hZ : Z.Warmed39 (s.setVm vm0).vm) (hby : c.code = bytes) (hml : c.maxLocals = maxl) (hown : (s.setVm vm0).vm.findClass y.cls = some m.cls) (hnm : meth.name = y.name) (hrt : meth.sig.returnType = ret) (hlk : meth.locks = false) (hn0 : n0 ≤ s.heap.size) (hS : s.Since vm0 k0) (hk : k0 ≤ h.size) (hCH : CHr Z EL s.vm s.heap vm0 h ∧ ∃ a0, EW Z a0 EL)
    (X : Stand p l e R (s.setVm vm0) m args below meth c T locs C S) (N : Fr n0 locs) (eT : T.heap = h) (k : ∀ t, Steps p.tables e below (T.setTop (mkF m pc Ls St)) t → Steps p.tables e below st t) : U l Z EL n0 y bytes maxl ret R (p, e, s, m, args, below, meth, c, st) h pc Ls St C S :=
  show _ ∧ _ from ⟨hx, hby, hml, hnm, hrt, hlk, hn0, vm0, k0, hS, hk, hZ, hown, hCH, T, locs, X, N, eT, k⟩
theorem ctrU_of {wc : List Jvm.Cond} {as : Array Value} (hEL : EW Z a0 EL) (hpn : plainFor y = true) (hn0 : n0 ≤ h.size) (hef : ∀ m, entryFrame m as maxl = mkF m 0 Ls []) (body : ∀ G, U l Z EL n0 y bytes maxl ret R G h 0 Ls [] 0 0 → GlU R Z EL n0 G Q) : CtrU l Z EL n0 y bytes maxl ret wc R as h Q := by
  refine MetFree.of_bodySF hpn hisR ?_
  intro p e s m args below meth c s₁ Bd hml0 hP hK
  obtain ⟨rfl, hZ, hh, H⟩ := hP
  have e0 : s₁.heap = h := by rw [← hh, Bd.state]; rfl
  have X0 : Stand p l e R (s.setVm s.vm) m args below meth c s₁ [] 0 0 := Stand.of_body Bd
  have hS : s.Since s.vm 0 := ⟨State.Warmed39.refl s, fun j q hj hp => by rw [Array.getElem?_eq_none hj] at hp; cases hp⟩
  have hC0 : CHr Z EL s.vm s.heap s.vm h := by rw [hh]; exact CHr.refl H
  exact body (p, e, s, m, args, below, meth, c, s₁.setTop (entryFrame m args maxl)) (U.mk Bd.exec hZ Bd.bytes hml0 (findClass_of_methodNamed Bd.named) (name_of_methodNamed Bd.named Bd.method).1 Bd.returns (BodyLoose.notSynchronized Bd) (hh ▸ hn0) hS (Nat.zero_le _) ⟨hC0, _, hEL⟩ X0 (Fr.nil n0) e0 (fun t k => castTop (hef m) k))
theorem U.size (A : U l Z EL n0 y bytes maxl ret R G h pc Ls St C S) : n0 ≤ h.size := by
  obtain ⟨p, e, s, m, args, below, meth, c, st⟩ := G
  obtain ⟨hx, hby, hml, hnm, hrt, hlk, hn0, vm0, k0, hS, hk, hZ, hown, hCH, T, locs, X, N, eT, k⟩ := A
  exact Nat.le_trans hn0 (by rw [← eT]; exact X.same.2.1)
theorem U.more (A : U l Z EL n0 y bytes maxl ret R G h pc Ls St C S) (hC : C ≤ C') (hSl : S ≤ S') : U l Z EL n0 y bytes maxl ret R G h pc Ls St C' S' := by
  obtain ⟨p, e, s, m, args, below, meth, c, st⟩ := G
  obtain ⟨hx, hby, hml, hnm, hrt, hlk, hn0, vm0, k0, hS, hk, hZ, hown, hCH, T, locs, X, N, eT, k⟩ := A
  exact U.mk hx hZ hby hml hown hnm hrt hlk hn0 hS hk hCH (X.more hC hSl) N eT k
theorem U.cast {Ls' : Array Slot} {St' : List Value} (A : U l Z EL n0 y bytes maxl ret R G h pc Ls St C S) (hp : pc = pc') (hL : Ls = Ls') (hSt : St = St') : U l Z EL n0 y bytes maxl ret R G h pc' Ls' St' C S := by subst hp hL hSt; exact A
theorem U.topI {x z : Int32} (A : U l Z EL n0 y bytes maxl ret R G h pc Ls (.int x :: St) C S) (q : x = z) : U l Z EL n0 y bytes maxl ret R G h pc Ls (.int z :: St) C S := q ▸ A
theorem U.topJ {x z : Int64} (A : U l Z EL n0 y bytes maxl ret R G h pc Ls (.long x :: St) C S) (q : x = z) : U l Z EL n0 y bytes maxl ret R G h pc Ls (.long z :: St) C S := q ▸ A
theorem U.step (A : U l Z EL n0 y bytes maxl ret R G h pc Ls St C S) {Ls' : Array Slot} {St' : List Value}
    (f : ∀ {p : Program} {e : Env} {s : State} {m : MethodId} {args : Array Value} {below : List Frame} {meth : Method} {c : Code} {T t : State} {locs : List Loc}, Stand p l e R s m args below meth c T locs C S → p.tables.exec = Jvm.exec → Z.Warmed39 s.vm → s.vm.findClass y.cls = some m.cls → c.code = bytes → T.heap = h → Steps p.tables e below (T.setTop (mkF m pc' Ls' St')) t → Steps p.tables e below (T.setTop (mkF m pc Ls St)) t) : U l Z EL n0 y bytes maxl ret R G h pc' Ls' St' C S := by
  obtain ⟨p, e, s, m, args, below, meth, c, st⟩ := G
  obtain ⟨hx, hby, hml, hnm, hrt, hlk, hn0, vm0, k0, hS, hk, hZ, hown, hCH, T, locs, X, N, eT, k⟩ := A
  exact U.mk hx hZ hby hml hown hnm hrt hlk hn0 hS hk hCH X N eT (fun t q => k t (f X hx hZ hown hby eT q))
theorem U.stepT (A : U l Z EL n0 y bytes maxl ret R G h pc Ls St C S) {Ls' : Array Slot} {St' : List Value}
    (f : ∀ {p : Program} {e : Env} {s : State} {m : MethodId} {args : Array Value} {below : List Frame} {meth : Method} {c : Code} {T : State} {locs : List Loc}, Stand p l e R s m args below meth c T locs C S → p.tables.exec = Jvm.exec → Z.Warmed39 s.vm → s.vm.findClass y.cls = some m.cls → c.code = bytes → c.maxLocals = maxl → T.heap = h →
      ∃ T', Stand p l e R s m args below meth c T' locs C S ∧ T'.heap = h ∧ ∀ t, Steps p.tables e below (T'.setTop (mkF m pc' Ls' St')) t → Steps p.tables e below (T.setTop (mkF m pc Ls St)) t) : U l Z EL n0 y bytes maxl ret R G h pc' Ls' St' C S := by
  obtain ⟨p, e, s, m, args, below, meth, c, st⟩ := G
  obtain ⟨hx, hby, hml, hnm, hrt, hlk, hn0, vm0, k0, hS, hk, hZ, hown, hCH, T, locs, X, N, eT, k⟩ := A
  obtain ⟨T', X', e', st'⟩ := f X hx hZ hown hby hml eT
  exact U.mk hx hZ hby hml hown hnm hrt hlk hn0 hS hk hCH X' N e' (fun t q => k t (st' t q))
theorem U.iloadN (A : U l Z EL n0 y bytes maxl ret R G h pc Ls St C S) {k : Fin 4} {v : Int32} (hd : decode bytes pc = .ok (.iload_n k, 1)) (hl : Ls[k.val]? = some (.val (.int v))) (hp : pc + 1 = pc') : U l Z EL n0 y bytes maxl ret R G h pc' Ls (.int v :: St) C S := by
  subst hp; exact A.step fun X hx _ _ q _ r => XS.iloadN X.here hx rfl (hb q hd) hl r
theorem U.iload (A : U l Z EL n0 y bytes maxl ret R G h pc Ls St C S) {k : Nat} {v : Int32} (hd : decode bytes pc = .ok (.iload k, 2)) (hl : Ls[k]? = some (.val (.int v))) (hp : pc + 2 = pc') : U l Z EL n0 y bytes maxl ret R G h pc' Ls (.int v :: St) C S := by
  subst hp; exact A.step fun X hx _ _ q _ r => XS.iload X.here hx rfl (hb q hd) hl r
theorem U.lloadN (A : U l Z EL n0 y bytes maxl ret R G h pc Ls St C S) {k : Fin 4} {v : Int64} (hd : decode bytes pc = .ok (.lload_n k, 1)) (hl : Ls[k.val]? = some (.val (.long v))) (hp : pc + 1 = pc') : U l Z EL n0 y bytes maxl ret R G h pc' Ls (.long v :: St) C S := by
  subst hp; exact A.step fun X hx _ _ q _ r => XS.lloadN X.here hx rfl (hb q hd) hl r
theorem U.lload (A : U l Z EL n0 y bytes maxl ret R G h pc Ls St C S) {k : Nat} {v : Int64} (hd : decode bytes pc = .ok (.lload k, 2)) (hl : Ls[k]? = some (.val (.long v))) (hp : pc + 2 = pc') : U l Z EL n0 y bytes maxl ret R G h pc' Ls (.long v :: St) C S := by
  subst hp; exact A.step fun X hx _ _ q _ r => XS.lload X.here hx rfl (hb q hd) hl r
theorem U.aloadN (A : U l Z EL n0 y bytes maxl ret R G h pc Ls St C S) {k : Fin 4} {v : Value} (hd : decode bytes pc = .ok (.aload_n k, 1)) (hl : Ls[k.val]? = some (.val v)) (hv : v.isRef = true) (hp : pc + 1 = pc') : U l Z EL n0 y bytes maxl ret R G h pc' Ls (v :: St) C S := by
  subst hp; exact A.step fun X hx _ _ q _ r => XS.aloadN X.here hx rfl (hb q hd) hl hv r
theorem U.aload (A : U l Z EL n0 y bytes maxl ret R G h pc Ls St C S) {k : Nat} {v : Value} (hd : decode bytes pc = .ok (.aload k, 2)) (hl : Ls[k]? = some (.val v)) (hv : v.isRef = true) (hp : pc + 2 = pc') : U l Z EL n0 y bytes maxl ret R G h pc' Ls (v :: St) C S := by
  subst hp; exact A.step fun X hx _ _ q _ r => XS.aload X.here hx rfl (hb q hd) hl hv r
theorem U.istoreN {v : Int32} (A : U l Z EL n0 y bytes maxl ret R G h pc Ls (.int v :: St) C S) {k : Fin 4} {Ls' : Array Slot} (hd : decode bytes pc = .ok (.istore_n k, 1)) (hl : storeLocals Ls k.val (.int v) = some Ls') (hp : pc + 1 = pc') : U l Z EL n0 y bytes maxl ret R G h pc' Ls' St C S := by
  subst hp; exact A.step fun X hx _ _ q _ r => XS.istoreN X.here hx rfl (hb q hd) rfl hl r
theorem U.istore {v : Int32} (A : U l Z EL n0 y bytes maxl ret R G h pc Ls (.int v :: St) C S) {k : Nat} {Ls' : Array Slot} (hd : decode bytes pc = .ok (.istore k, 2)) (hl : storeLocals Ls k (.int v) = some Ls') (hp : pc + 2 = pc') : U l Z EL n0 y bytes maxl ret R G h pc' Ls' St C S := by
  subst hp; exact A.step fun X hx _ _ q _ r => XS.istore X.here hx rfl (hb q hd) rfl hl r
theorem U.lstoreN {v : Int64} (A : U l Z EL n0 y bytes maxl ret R G h pc Ls (.long v :: St) C S) {k : Fin 4} {Ls' : Array Slot} (hd : decode bytes pc = .ok (.lstore_n k, 1)) (hl : storeLocals Ls k.val (.long v) = some Ls') (hp : pc + 1 = pc') : U l Z EL n0 y bytes maxl ret R G h pc' Ls' St C S := by
  subst hp; exact A.step fun X hx _ _ q _ r => XS.lstoreN X.here hx rfl (hb q hd) rfl hl r
theorem U.lstore {v : Int64} (A : U l Z EL n0 y bytes maxl ret R G h pc Ls (.long v :: St) C S) {k : Nat} {Ls' : Array Slot} (hd : decode bytes pc = .ok (.lstore k, 2)) (hl : storeLocals Ls k (.long v) = some Ls') (hp : pc + 2 = pc') : U l Z EL n0 y bytes maxl ret R G h pc' Ls' St C S := by
  subst hp; exact A.step fun X hx _ _ q _ r => XS.lstore X.here hx rfl (hb q hd) rfl hl r
theorem U.astoreN {v : Value} (A : U l Z EL n0 y bytes maxl ret R G h pc Ls (v :: St) C S) {k : Fin 4} {Ls' : Array Slot} (hd : decode bytes pc = .ok (.astore_n k, 1)) (hv : v.isRef = true) (hl : storeLocals Ls k.val v = some Ls') (hp : pc + 1 = pc') : U l Z EL n0 y bytes maxl ret R G h pc' Ls' St C S := by
  subst hp; exact A.step fun X hx _ _ q _ r => XS.astoreN X.here hx rfl (hb q hd) rfl hv hl r
theorem U.astore {v : Value} (A : U l Z EL n0 y bytes maxl ret R G h pc Ls (v :: St) C S) {k : Nat} {Ls' : Array Slot} (hd : decode bytes pc = .ok (.astore k, 2)) (hv : v.isRef = true) (hl : storeLocals Ls k v = some Ls') (hp : pc + 2 = pc') : U l Z EL n0 y bytes maxl ret R G h pc' Ls' St C S := by
  subst hp; exact A.step fun X hx _ _ q _ r => XS.astore X.here hx rfl (hb q hd) rfl hv hl r
theorem U.iconst (A : U l Z EL n0 y bytes maxl ret R G h pc Ls St C S) {i : Int} {z : Int32} (hd : decode bytes pc = .ok (.iconst i, 1)) (hz : Int32.ofInt i = z) (hp : pc + 1 = pc') : U l Z EL n0 y bytes maxl ret R G h pc' Ls (.int z :: St) C S := by
  subst hp hz; exact A.step fun X hx _ _ q _ r => XS.iconst X.here hx rfl (hb q hd) r
theorem U.bipush (A : U l Z EL n0 y bytes maxl ret R G h pc Ls St C S) {i : Int} {z : Int32} (hd : decode bytes pc = .ok (.bipush i, 2)) (hz : (Int8.ofInt i).toInt32 = z) (hp : pc + 2 = pc') : U l Z EL n0 y bytes maxl ret R G h pc' Ls (.int z :: St) C S := by
  subst hp hz; exact A.step fun X hx _ _ q _ r => XS.bipush X.here hx rfl (hb q hd) r
theorem U.sipush (A : U l Z EL n0 y bytes maxl ret R G h pc Ls St C S) {i : Int} {z : Int32} (hd : decode bytes pc = .ok (.sipush i, 3)) (hz : (Int16.ofInt i).toInt32 = z) (hp : pc + 3 = pc') : U l Z EL n0 y bytes maxl ret R G h pc' Ls (.int z :: St) C S := by
  subst hp hz; exact A.step fun X hx _ _ q _ r => XS.sipush X.here hx rfl (hb q hd) r
theorem U.lconst (A : U l Z EL n0 y bytes maxl ret R G h pc Ls St C S) {k : Fin 2} {z : Int64} (hd : decode bytes pc = .ok (.lconst k, 1)) (hz : Int64.ofNat k.val = z) (hp : pc + 1 = pc') : U l Z EL n0 y bytes maxl ret R G h pc' Ls (.long z :: St) C S := by
  subst hp hz; exact A.step fun X hx _ _ q _ r => XS.lconst X.here hx rfl (hb q hd) r
theorem U.aconstNull (A : U l Z EL n0 y bytes maxl ret R G h pc Ls St C S) (hd : decode bytes pc = .ok (.aconst_null, 1)) (hp : pc + 1 = pc') : U l Z EL n0 y bytes maxl ret R G h pc' Ls (.null :: St) C S := by
  subst hp; exact A.step fun X hx _ _ q _ r => XS.aconstNull X.here hx rfl (hb q hd) r
theorem U.ldc (A : U l Z EL n0 y bytes maxl ret R G h pc Ls St C S) {i : Nat} {z : Int32} (hd : decode bytes pc = .ok (.ldc i, 2)) (w : (Jvm.Cond.constant y.cls i z).before a0 Z = true) (hp : pc + 2 = pc') : U l Z EL n0 y bytes maxl ret R G h pc' Ls (.int z :: St) C S := by
  subst hp; exact A.step fun X hx hZ hown q _ r => X.ldcInt hx hown (mvT hZ w) (g := mkF _ pc Ls St) rfl (hb q hd) _ r
theorem U.ldcW (A : U l Z EL n0 y bytes maxl ret R G h pc Ls St C S) {i : Nat} {z : Int32} (hd : decode bytes pc = .ok (.ldc_w i, 3)) (w : (Jvm.Cond.constant y.cls i z).before a0 Z = true) (hp : pc + 3 = pc') : U l Z EL n0 y bytes maxl ret R G h pc' Ls (.int z :: St) C S := by
  subst hp; exact A.step fun X hx hZ hown q _ r => X.ldcwInt hx hown (mvT hZ w) (g := mkF _ pc Ls St) rfl (hb q hd) _ r
theorem U.ldc2 (A : U l Z EL n0 y bytes maxl ret R G h pc Ls St C S) {i : Nat} {z : Int64} (hd : decode bytes pc = .ok (.ldc2_w i, 3)) (w : (Jvm.Cond.constantLong y.cls i z).before a0 Z = true) (hp : pc + 3 = pc') : U l Z EL n0 y bytes maxl ret R G h pc' Ls (.long z :: St) C S := by
  subst hp; exact A.step fun X hx hZ hown q _ r => X.ldc2Long hx hown (mvT hZ w) (g := mkF _ pc Ls St) rfl (hb q hd) _ r
theorem U.iinc (A : U l Z EL n0 y bytes maxl ret R G h pc Ls St C S) {k : Nat} {i : Int} {v z : Int32} {Ls' : Array Slot} (hd : decode bytes pc = .ok (.iinc k i, 3)) (hl : Ls[k]? = some (.val (.int v))) (hz : v + Int32.ofInt i = z) (hl' : storeLocals Ls k (.int z) = some Ls') (hp : pc + 3 = pc') : U l Z EL n0 y bytes maxl ret R G h pc' Ls' St C S := by
  subst hp hz; exact A.step fun X hx _ _ q _ r => XS.iinc X.here hx rfl (hb q hd) hl hl' r
theorem U.iadd {x z : Int32} (A : U l Z EL n0 y bytes maxl ret R G h pc Ls (.int z :: .int x :: St) C S) (hd : decode bytes pc = .ok (.iadd, 1)) (hp : pc + 1 = pc') : U l Z EL n0 y bytes maxl ret R G h pc' Ls (.int (x + z) :: St) C S := by
  subst hp; exact A.step fun X hx _ _ q _ r => XS.iadd X.here hx rfl (hb q hd) rfl r
theorem U.ladd {x z : Int64} (A : U l Z EL n0 y bytes maxl ret R G h pc Ls (.long z :: .long x :: St) C S) (hd : decode bytes pc = .ok (.ladd, 1)) (hp : pc + 1 = pc') : U l Z EL n0 y bytes maxl ret R G h pc' Ls (.long (x + z) :: St) C S := by
  subst hp; exact A.step fun X hx _ _ q _ r => XS.ladd X.here hx rfl (hb q hd) rfl r
theorem U.isub {x z : Int32} (A : U l Z EL n0 y bytes maxl ret R G h pc Ls (.int z :: .int x :: St) C S) (hd : decode bytes pc = .ok (.isub, 1)) (hp : pc + 1 = pc') : U l Z EL n0 y bytes maxl ret R G h pc' Ls (.int (x - z) :: St) C S := by
  subst hp; exact A.step fun X hx _ _ q _ r => XS.isub X.here hx rfl (hb q hd) rfl r
theorem U.lsub {x z : Int64} (A : U l Z EL n0 y bytes maxl ret R G h pc Ls (.long z :: .long x :: St) C S) (hd : decode bytes pc = .ok (.lsub, 1)) (hp : pc + 1 = pc') : U l Z EL n0 y bytes maxl ret R G h pc' Ls (.long (x - z) :: St) C S := by
  subst hp; exact A.step fun X hx _ _ q _ r => XS.lsub X.here hx rfl (hb q hd) rfl r
theorem U.imul {x z : Int32} (A : U l Z EL n0 y bytes maxl ret R G h pc Ls (.int z :: .int x :: St) C S) (hd : decode bytes pc = .ok (.imul, 1)) (hp : pc + 1 = pc') : U l Z EL n0 y bytes maxl ret R G h pc' Ls (.int (x * z) :: St) C S := by
  subst hp; exact A.step fun X hx _ _ q _ r => XS.imul X.here hx rfl (hb q hd) rfl r
theorem U.lmul {x z : Int64} (A : U l Z EL n0 y bytes maxl ret R G h pc Ls (.long z :: .long x :: St) C S) (hd : decode bytes pc = .ok (.lmul, 1)) (hp : pc + 1 = pc') : U l Z EL n0 y bytes maxl ret R G h pc' Ls (.long (x * z) :: St) C S := by
  subst hp; exact A.step fun X hx _ _ q _ r => XS.lmul X.here hx rfl (hb q hd) rfl r
theorem U.iand {x z : Int32} (A : U l Z EL n0 y bytes maxl ret R G h pc Ls (.int z :: .int x :: St) C S) (hd : decode bytes pc = .ok (.iand, 1)) (hp : pc + 1 = pc') : U l Z EL n0 y bytes maxl ret R G h pc' Ls (.int (x &&& z) :: St) C S := by
  subst hp; exact A.step fun X hx _ _ q _ r => XS.iand X.here hx rfl (hb q hd) rfl r
theorem U.land {x z : Int64} (A : U l Z EL n0 y bytes maxl ret R G h pc Ls (.long z :: .long x :: St) C S) (hd : decode bytes pc = .ok (.land, 1)) (hp : pc + 1 = pc') : U l Z EL n0 y bytes maxl ret R G h pc' Ls (.long (x &&& z) :: St) C S := by
  subst hp; exact A.step fun X hx _ _ q _ r => XS.land X.here hx rfl (hb q hd) rfl r
theorem U.ior {x z : Int32} (A : U l Z EL n0 y bytes maxl ret R G h pc Ls (.int z :: .int x :: St) C S) (hd : decode bytes pc = .ok (.ior, 1)) (hp : pc + 1 = pc') : U l Z EL n0 y bytes maxl ret R G h pc' Ls (.int (x ||| z) :: St) C S := by
  subst hp; exact A.step fun X hx _ _ q _ r => XS.ior X.here hx rfl (hb q hd) rfl r
theorem U.lor {x z : Int64} (A : U l Z EL n0 y bytes maxl ret R G h pc Ls (.long z :: .long x :: St) C S) (hd : decode bytes pc = .ok (.lor, 1)) (hp : pc + 1 = pc') : U l Z EL n0 y bytes maxl ret R G h pc' Ls (.long (x ||| z) :: St) C S := by
  subst hp; exact A.step fun X hx _ _ q _ r => XS.lor X.here hx rfl (hb q hd) rfl r
theorem U.ixor {x z : Int32} (A : U l Z EL n0 y bytes maxl ret R G h pc Ls (.int z :: .int x :: St) C S) (hd : decode bytes pc = .ok (.ixor, 1)) (hp : pc + 1 = pc') : U l Z EL n0 y bytes maxl ret R G h pc' Ls (.int (x ^^^ z) :: St) C S := by
  subst hp; exact A.step fun X hx _ _ q _ r => XS.ixor X.here hx rfl (hb q hd) rfl r
theorem U.lxor {x z : Int64} (A : U l Z EL n0 y bytes maxl ret R G h pc Ls (.long z :: .long x :: St) C S) (hd : decode bytes pc = .ok (.lxor, 1)) (hp : pc + 1 = pc') : U l Z EL n0 y bytes maxl ret R G h pc' Ls (.long (x ^^^ z) :: St) C S := by
  subst hp; exact A.step fun X hx _ _ q _ r => XS.lxor X.here hx rfl (hb q hd) rfl r
theorem U.ineg {x : Int32} (A : U l Z EL n0 y bytes maxl ret R G h pc Ls (.int x :: St) C S) (hd : decode bytes pc = .ok (.ineg, 1)) (hp : pc + 1 = pc') : U l Z EL n0 y bytes maxl ret R G h pc' Ls (.int (-x) :: St) C S := by
  subst hp; exact A.step fun X hx _ _ q _ r => XS.ineg X.here hx rfl (hb q hd) rfl r
theorem U.lneg {x : Int64} (A : U l Z EL n0 y bytes maxl ret R G h pc Ls (.long x :: St) C S) (hd : decode bytes pc = .ok (.lneg, 1)) (hp : pc + 1 = pc') : U l Z EL n0 y bytes maxl ret R G h pc' Ls (.long (-x) :: St) C S := by
  subst hp; exact A.step fun X hx _ _ q _ r => XS.lneg X.here hx rfl (hb q hd) rfl r
theorem U.ishl {x z : Int32} (A : U l Z EL n0 y bytes maxl ret R G h pc Ls (.int z :: .int x :: St) C S) (hd : decode bytes pc = .ok (.ishl, 1)) (hp : pc + 1 = pc') : U l Z EL n0 y bytes maxl ret R G h pc' Ls (.int (x <<< (z &&& 31)) :: St) C S := by
  subst hp; exact A.step fun X hx _ _ q _ r => XS.ishl X.here hx rfl (hb q hd) rfl r
theorem U.ishr {x z : Int32} (A : U l Z EL n0 y bytes maxl ret R G h pc Ls (.int z :: .int x :: St) C S) (hd : decode bytes pc = .ok (.ishr, 1)) (hp : pc + 1 = pc') : U l Z EL n0 y bytes maxl ret R G h pc' Ls (.int (x >>> (z &&& 31)) :: St) C S := by
  subst hp; exact A.step fun X hx _ _ q _ r => XS.ishr X.here hx rfl (hb q hd) rfl r
theorem U.iushr {x z : Int32} (A : U l Z EL n0 y bytes maxl ret R G h pc Ls (.int z :: .int x :: St) C S) (hd : decode bytes pc = .ok (.iushr, 1)) (hp : pc + 1 = pc') : U l Z EL n0 y bytes maxl ret R G h pc' Ls (.int ((x.toUInt32 >>> (z &&& 31).toUInt32).toInt32) :: St) C S := by
  subst hp; exact A.step fun X hx _ _ q _ r => XS.iushr X.here hx rfl (hb q hd) rfl r
theorem U.lshl {x : Int64} {z : Int32} (A : U l Z EL n0 y bytes maxl ret R G h pc Ls (.int z :: .long x :: St) C S) (hd : decode bytes pc = .ok (.lshl, 1)) (hp : pc + 1 = pc') : U l Z EL n0 y bytes maxl ret R G h pc' Ls (.long (x <<< (z &&& 0x3f).toInt64) :: St) C S := by
  subst hp; exact A.step fun X hx _ _ q _ r => XS.lshl X.here hx rfl (hb q hd) rfl r
theorem U.lshr {x : Int64} {z : Int32} (A : U l Z EL n0 y bytes maxl ret R G h pc Ls (.int z :: .long x :: St) C S) (hd : decode bytes pc = .ok (.lshr, 1)) (hp : pc + 1 = pc') : U l Z EL n0 y bytes maxl ret R G h pc' Ls (.long (x >>> (z &&& 0x3f).toInt64) :: St) C S := by
  subst hp; exact A.step fun X hx _ _ q _ r => XS.lshr X.here hx rfl (hb q hd) rfl r
theorem U.lushr {x : Int64} {z : Int32} (A : U l Z EL n0 y bytes maxl ret R G h pc Ls (.int z :: .long x :: St) C S) (hd : decode bytes pc = .ok (.lushr, 1)) (hp : pc + 1 = pc') : U l Z EL n0 y bytes maxl ret R G h pc' Ls (.long ((x.toUInt64 >>> (z &&& 0x3f).toInt64.toUInt64).toInt64) :: St) C S := by
  subst hp; exact A.step fun X hx _ _ q _ r => XS.lushr X.here hx rfl (hb q hd) rfl r
theorem U.i2l {x : Int32} (A : U l Z EL n0 y bytes maxl ret R G h pc Ls (.int x :: St) C S) (hd : decode bytes pc = .ok (.i2l, 1)) (hp : pc + 1 = pc') : U l Z EL n0 y bytes maxl ret R G h pc' Ls (.long x.toInt64 :: St) C S := by
  subst hp; exact A.step fun X hx _ _ q _ r => XS.i2l X.here hx rfl (hb q hd) rfl r
theorem U.l2i {x : Int64} (A : U l Z EL n0 y bytes maxl ret R G h pc Ls (.long x :: St) C S) (hd : decode bytes pc = .ok (.l2i, 1)) (hp : pc + 1 = pc') : U l Z EL n0 y bytes maxl ret R G h pc' Ls (.int x.toInt32 :: St) C S := by
  subst hp; exact A.step fun X hx _ _ q _ r => XS.l2i X.here hx rfl (hb q hd) rfl r
theorem U.i2b {x : Int32} (A : U l Z EL n0 y bytes maxl ret R G h pc Ls (.int x :: St) C S) (hd : decode bytes pc = .ok (.i2b, 1)) (hp : pc + 1 = pc') : U l Z EL n0 y bytes maxl ret R G h pc' Ls (.int x.toInt8.toInt32 :: St) C S := by
  subst hp; exact A.step fun X hx _ _ q _ r => XS.i2b X.here hx rfl (hb q hd) rfl r
theorem U.i2s {x : Int32} (A : U l Z EL n0 y bytes maxl ret R G h pc Ls (.int x :: St) C S) (hd : decode bytes pc = .ok (.i2s, 1)) (hp : pc + 1 = pc') : U l Z EL n0 y bytes maxl ret R G h pc' Ls (.int x.toInt16.toInt32 :: St) C S := by
  subst hp; exact A.step fun X hx _ _ q _ r => XS.i2s X.here hx rfl (hb q hd) rfl r
theorem U.i2c {x : Int32} (A : U l Z EL n0 y bytes maxl ret R G h pc Ls (.int x :: St) C S) (hd : decode bytes pc = .ok (.i2c, 1)) (hp : pc + 1 = pc') : U l Z EL n0 y bytes maxl ret R G h pc' Ls (.int x.toUInt32.toUInt16.toUInt32.toInt32 :: St) C S := by
  subst hp; exact A.step fun X hx _ _ q _ r => XS.i2c X.here hx rfl (hb q hd) rfl r
theorem U.lcmp {x z : Int64} (A : U l Z EL n0 y bytes maxl ret R G h pc Ls (.long z :: .long x :: St) C S) (hd : decode bytes pc = .ok (.lcmp, 1)) (hp : pc + 1 = pc') : U l Z EL n0 y bytes maxl ret R G h pc' Ls (.int (lcmpW x z) :: St) C S := by
  subst hp; exact A.step fun X hx _ _ q _ r => XS.lcmp X.here hx rfl (hb q hd) rfl r
theorem U.idiv {x z : Int32} (A : U l Z EL n0 y bytes maxl ret R G h pc Ls (.int z :: .int x :: St) C S) (hd : decode bytes pc = .ok (.idiv, 1)) (hz : z ≠ 0) (hp : pc + 1 = pc') : U l Z EL n0 y bytes maxl ret R G h pc' Ls (.int (x / z) :: St) C S := by
  subst hp; exact A.step fun X hx _ _ q _ r => XS.idiv X.here hx rfl (hb q hd) rfl hz r
theorem U.irem {x z : Int32} (A : U l Z EL n0 y bytes maxl ret R G h pc Ls (.int z :: .int x :: St) C S) (hd : decode bytes pc = .ok (.irem, 1)) (hz : z ≠ 0) (hp : pc + 1 = pc') : U l Z EL n0 y bytes maxl ret R G h pc' Ls (.int (x % z) :: St) C S := by
  subst hp; exact A.step fun X hx _ _ q _ r => iremM (g := mkF _ _ _ _) X hx rfl (hb q hd) rfl hz r
theorem U.ldiv {x z : Int64} (A : U l Z EL n0 y bytes maxl ret R G h pc Ls (.long z :: .long x :: St) C S) (hd : decode bytes pc = .ok (.ldiv, 1)) (hz : z ≠ 0) (hp : pc + 1 = pc') : U l Z EL n0 y bytes maxl ret R G h pc' Ls (.long (x / z) :: St) C S := by
  subst hp; exact A.step fun X hx _ _ q _ r => XS.ldiv X.here hx rfl (hb q hd) rfl hz r
theorem U.lrem {x z : Int64} (A : U l Z EL n0 y bytes maxl ret R G h pc Ls (.long z :: .long x :: St) C S) (hd : decode bytes pc = .ok (.lrem, 1)) (hz : z ≠ 0) (hp : pc + 1 = pc') : U l Z EL n0 y bytes maxl ret R G h pc' Ls (.long (x % z) :: St) C S := by
  subst hp; exact A.step fun X hx _ _ q _ r => XS.lrem X.here hx rfl (hb q hd) rfl hz (by rw [lrem_mod]; exact r)
theorem U.dup {v : Value} (A : U l Z EL n0 y bytes maxl ret R G h pc Ls (v :: St) C S) (hd : decode bytes pc = .ok (.dup, 1)) (hc : v.category = 1) (hp : pc + 1 = pc') : U l Z EL n0 y bytes maxl ret R G h pc' Ls (v :: v :: St) C S := by
  subst hp; exact A.step fun X hx _ _ q _ r => XS.dup X.here hx rfl (hb q hd) rfl hc r
theorem U.pop {v : Value} (A : U l Z EL n0 y bytes maxl ret R G h pc Ls (v :: St) C S) (hd : decode bytes pc = .ok (.pop, 1)) (hc : v.category = 1) (hp : pc + 1 = pc') : U l Z EL n0 y bytes maxl ret R G h pc' Ls St C S := by
  subst hp; exact A.step fun X hx _ _ q _ r => XS.pop X.here hx rfl (hb q hd) rfl hc r
theorem U.dupX1 {v w : Value} (A : U l Z EL n0 y bytes maxl ret R G h pc Ls (v :: w :: St) C S) (hd : decode bytes pc = .ok (.dup_x1, 1)) (hc : v.category = 1) (hc' : w.category = 1) (hp : pc + 1 = pc') : U l Z EL n0 y bytes maxl ret R G h pc' Ls (v :: w :: v :: St) C S := by
  subst hp; exact A.step fun X hx _ _ q _ r => XS.dupX1 X.here hx rfl (hb q hd) rfl hc hc' r
theorem U.dup2 {v w : Value} (A : U l Z EL n0 y bytes maxl ret R G h pc Ls (v :: w :: St) C S) (hd : decode bytes pc = .ok (.dup2, 1)) (hc : v.category = 1) (hc' : w.category = 1) (hp : pc + 1 = pc') : U l Z EL n0 y bytes maxl ret R G h pc' Ls (v :: w :: v :: w :: St) C S := by
  subst hp; exact A.step fun X hx _ _ q _ r => XT.dup2 X.here hx rfl (hb q hd) rfl hc hc' r
theorem U.dup2L {x : Int64} (A : U l Z EL n0 y bytes maxl ret R G h pc Ls (.long x :: St) C S) (hd : decode bytes pc = .ok (.dup2, 1)) (hp : pc + 1 = pc') : U l Z EL n0 y bytes maxl ret R G h pc' Ls (.long x :: .long x :: St) C S := by
  subst hp; exact A.step fun X hx _ _ q _ r => XT.dup2L X.here hx rfl (hb q hd) rfl r
theorem U.goto (A : U l Z EL n0 y bytes maxl ret R G h pc Ls St C S) {o : Int} (hd : decode bytes pc = .ok (.goto o, 3)) (ho : 0 ≤ (pc : Int) + o) (hp : ((pc : Int) + o).toNat = pc') : U l Z EL n0 y bytes maxl ret R G h pc' Ls St C S :=
  A.step fun X hx _ _ q _ r => XS.goto X.here hx rfl rfl (hb q hd) ho hp r
theorem U.ifYes {x : Int32} (A : U l Z EL n0 y bytes maxl ret R G h pc Ls (.int x :: St) C S) {cd : ClassFile.Cond} {o : Int} (hd : decode bytes pc = .ok (.ifCond cd o, 3)) (hc : if_icmp.holds cd x 0 = true) (ho : 0 ≤ (pc : Int) + o) (hp : ((pc : Int) + o).toNat = pc') : U l Z EL n0 y bytes maxl ret R G h pc' Ls St C S :=
  A.step fun X hx _ _ q _ r => XS.ifYes X.here hx rfl rfl (hb q hd) rfl ((if0 _ _).trans hc) ho hp r
theorem U.ifNo {x : Int32} (A : U l Z EL n0 y bytes maxl ret R G h pc Ls (.int x :: St) C S) {cd : ClassFile.Cond} {o : Int} (hd : decode bytes pc = .ok (.ifCond cd o, 3)) (hc : if_icmp.holds cd x 0 = false) (hp : pc + 3 = pc') : U l Z EL n0 y bytes maxl ret R G h pc' Ls St C S := by
  subst hp; exact A.step fun X hx _ _ q _ r => XS.ifNo X.here hx rfl (hb q hd) rfl ((if0 _ _).trans hc) r
theorem U.icmpYes {x z : Int32} (A : U l Z EL n0 y bytes maxl ret R G h pc Ls (.int z :: .int x :: St) C S) {cd : ClassFile.Cond} {o : Int} (hd : decode bytes pc = .ok (.if_icmp cd o, 3)) (hc : if_icmp.holds cd x z = true) (ho : 0 ≤ (pc : Int) + o) (hp : ((pc : Int) + o).toNat = pc') : U l Z EL n0 y bytes maxl ret R G h pc' Ls St C S :=
  A.step fun X hx _ _ q _ r => XS.icmpYes X.here hx rfl rfl (hb q hd) rfl hc ho hp r
theorem U.icmpNo {x z : Int32} (A : U l Z EL n0 y bytes maxl ret R G h pc Ls (.int z :: .int x :: St) C S) {cd : ClassFile.Cond} {o : Int} (hd : decode bytes pc = .ok (.if_icmp cd o, 3)) (hc : if_icmp.holds cd x z = false) (hp : pc + 3 = pc') : U l Z EL n0 y bytes maxl ret R G h pc' Ls St C S := by
  subst hp; exact A.step fun X hx _ _ q _ r => XS.icmpNo X.here hx rfl (hb q hd) rfl hc r
theorem U.ifnullYes (A : U l Z EL n0 y bytes maxl ret R G h pc Ls (.null :: St) C S) {o : Int} (hd : decode bytes pc = .ok (.ifnull o, 3)) (ho : 0 ≤ (pc : Int) + o) (hp : ((pc : Int) + o).toNat = pc') : U l Z EL n0 y bytes maxl ret R G h pc' Ls St C S :=
  A.step fun X hx _ _ q _ r => XS.ifnullYes X.here hx rfl rfl (hb q hd) rfl ho hp r
theorem U.ifnullNo {a : Addr} (A : U l Z EL n0 y bytes maxl ret R G h pc Ls (.ref a :: St) C S) {o : Int} (hd : decode bytes pc = .ok (.ifnull o, 3)) (hp : pc + 3 = pc') : U l Z EL n0 y bytes maxl ret R G h pc' Ls St C S := by
  subst hp; exact A.step fun X hx _ _ q _ r => XS.ifnullNo X.here hx rfl (hb q hd) rfl r
theorem U.ifnonnullNo (A : U l Z EL n0 y bytes maxl ret R G h pc Ls (.null :: St) C S) {o : Int} (hd : decode bytes pc = .ok (.ifnonnull o, 3)) (hp : pc + 3 = pc') : U l Z EL n0 y bytes maxl ret R G h pc' Ls St C S := by
  subst hp; exact A.step fun X hx _ _ q _ r => XS.ifnonnullNo X.here hx rfl (hb q hd) rfl r
theorem U.ifnonnullYes {a : Addr} (A : U l Z EL n0 y bytes maxl ret R G h pc Ls (.ref a :: St) C S) {o : Int} (hd : decode bytes pc = .ok (.ifnonnull o, 3)) (ho : 0 ≤ (pc : Int) + o) (hp : ((pc : Int) + o).toNat = pc') : U l Z EL n0 y bytes maxl ret R G h pc' Ls St C S :=
  A.step fun X hx _ _ q _ r => XS.ifnonnullYes X.here hx rfl rfl (hb q hd) rfl ho hp r
theorem U.getF (A : U l Z EL n0 y bytes maxl ret R G h pc Ls (.ref a :: St) C S) {index : Nat} {R0 O n d host : String} {v : Value} (hd : decode bytes pc = .ok (.getfield index, 3)) (w : (Jvm.Cond.fieldLink y.cls index R0 n d).before a0 Z = true ∨ (Jvm.Cond.fieldLinkNest y.cls index R0 n d host).before a0 Z = true) (via : Via Z R0 O n d) (F : Fld Z h a O n d v) (hp : pc + 3 = pc') : U l Z EL n0 y bytes maxl ret R G h pc' Ls (v :: St) C S := by
  subst hp; exact A.stepT fun X hx hZ hown q _ eT => RoadKit.getF X hx hZ hown w via eT F (g := mkF _ _ _ _) rfl rfl (hb q hd)
theorem U.getS (A : U l Z EL n0 y bytes maxl ret R G h pc Ls St C S) {index : Nat} {R0 O n d host : String} {v : Value} (hd : decode bytes pc = .ok (.getstatic index, 3)) (w : (Jvm.Cond.fieldLink y.cls index R0 n d).before a0 Z = true ∨ (Jvm.Cond.fieldLinkNest y.cls index R0 n d host).before a0 Z = true) (via : Via Z R0 O n d) (F : Sta Z h O n d v) (hp : pc + 3 = pc') : U l Z EL n0 y bytes maxl ret R G h pc' Ls (v :: St) C S := by
  subst hp; exact A.stepT fun X hx hZ hown q _ eT => getS2 X hx hZ hown w via eT F (g := mkF _ _ _ _) rfl (hb q hd)
theorem U.initO (A : U l Z EL n0 y bytes maxl ret R G h pc Ls (.ref a :: St) C S) {idx : Nat} (hd : decode bytes pc = .ok (.invokespecial idx, 3)) (w1 : (Jvm.Cond.methodLink y.cls idx Lib.objectInit).before a0 Z = true) (w2 : (Jvm.Cond.instanceMethod Lib.objectInit).before a0 Z = true) (w3 : (Jvm.Cond.code Lib.objectInit ⟨#[0xb1]⟩ 1 none).before a0 Z = true) (hsz : Ls.size = maxl) (hf : 1 ≤ R.frames) (hlo : (St.map fun v => v.category).sum + 12 ≤ R.locals) (hp : pc + 3 = pc') : U l Z EL n0 y bytes maxl ret R G h pc' Ls St C S := by
  subst hp; exact A.stepT fun X hx hZ hown q hml eT => RoadKit.initO X hx hZ hown w1 w2 w3 eT (g := mkF _ _ _ _) rfl (by rw [hml]; exact hsz) rfl (hb q hd) hf (W := (St.map fun v => v.category).sum) (by show 2 * 0 + _ ≤ _; omega) hlo
theorem U.cast0 (A : U l Z EL n0 y bytes maxl ret R G h pc Ls (.ref a :: St) C S) {index : Nat} {K : String} (hd : decode bytes pc = .ok (.checkcast index, 3)) (w : (Jvm.Cond.classLink y.cls index K).before a0 Z = true) (F : Ins Z h a K true) (hp : pc + 3 = pc') : U l Z EL n0 y bytes maxl ret R G h pc' Ls (.ref a :: St) C S := by
  subst hp; exact A.stepT fun X hx hZ hown q _ eT => castY X hx hZ hown w eT F (g := mkF _ _ _ _) rfl rfl (hb q hd)
theorem U.inst1 (A : U l Z EL n0 y bytes maxl ret R G h pc Ls (.ref a :: St) C S) {index : Nat} {K : String} (hd : decode bytes pc = .ok (.instanceof index, 3)) (w : (Jvm.Cond.classLink y.cls index K).before a0 Z = true) (F : Ins Z h a K true) (hp : pc + 3 = pc') : U l Z EL n0 y bytes maxl ret R G h pc' Ls (.int 1 :: St) C S := by
  subst hp; exact A.stepT fun X hx hZ hown q _ eT => instY X hx hZ hown w eT F (g := mkF _ _ _ _) rfl rfl (hb q hd)
theorem U.putF {v : Value} (A : U l Z EL n0 y bytes maxl ret R G h pc Ls (v :: .ref a :: St) C S) {index kk : Nat} {R0 O n d host K : String} {ty : FieldType} {old : Value} (hd : decode bytes pc = .ok (.putfield index, 3)) (w : (Jvm.Cond.fieldLink y.cls index R0 n d).before a0 Z = true ∨ (Jvm.Cond.fieldLinkNest y.cls index R0 n d host).before a0 Z = true) (via : Via Z R0 O n d)
    (F : Fld Z h a O n d old) (E : Exa Z h a K) (Lw : (Jvm.Cond.lays K O n d).before a0 Z = true ∨ ((Jvm.Cond.laysFinal K O n d).before a0 Z = true ∧ y.cls = O ∧ y.name = "<init>")) (wi : (Jvm.Cond.instantiable K kk).before a0 Z = true) (hty : parseFieldDescriptor d = some ty) (hn : narrow ty v = v) (hf : fits ty v = true) (hk1 : K ≠ "java/lang/String") (hk2 : K ≠ "[B") (ga : n0 ≤ a) (hp : pc + 3 = pc') :
    ∃ h', Wr h h' a (Jvm.RoadKit.slotOf Z O n d) v ∧ U l Z EL n0 y bytes maxl ret R G h' pc' Ls St C S := by
  subst hp
  obtain ⟨p, e, s, m, args, below, meth, c, st⟩ := G
  obtain ⟨hx, hby, hml, hnm, hrt, hlk, hn0, vm0, k0, hS, hk, hZ, hown, hCH, T, locs, X, N, eT, k⟩ := A
  obtain ⟨T', h', X', e', W', st'⟩ := RoadKit.putF X hx hZ hown w via eT F E (Lw.imp id fun q => ⟨q.1, q.2.1, hnm.trans q.2.2⟩) wi hty hn hf (g := mkF m pc Ls _) rfl rfl (hb hby hd)
  exact ⟨h', W', U.mk hx hZ hby hml hown hnm hrt hlk hn0 hS (by rw [W'.size]; exact hk) ⟨hCH.1.trans (CHr.wr W' (Safe.exa hZ.alike E hk1 hk2) hCH.1.1), hCH.2⟩ X' (Fr.snoc X' N ga) e' (fun t q => k t (st' t q))⟩
theorem U.putFN {v v' : Value} (A : U l Z EL n0 y bytes maxl ret R G h pc Ls (v :: .ref a :: St) C S) {index kk : Nat} {R0 O n d K : String} {ty : FieldType} {old : Value} (hd : decode bytes pc = .ok (.putfield index, 3)) (w : (Jvm.Cond.fieldLink y.cls index R0 n d).before a0 Z = true) (via : Via Z R0 O n d)
    (F : Fld Z h a O n d old) (E : Exa Z h a K) (Lw : (Jvm.Cond.lays K O n d).before a0 Z = true ∨ ((Jvm.Cond.laysFinal K O n d).before a0 Z = true ∧ y.cls = O ∧ y.name = "<init>")) (wi : (Jvm.Cond.instantiable K kk).before a0 Z = true) (hty : parseFieldDescriptor d = some ty) (hn : narrow ty v = v') (hf : fits ty v' = true) (hk1 : K ≠ "java/lang/String") (hk2 : K ≠ "[B") (ga : n0 ≤ a) (hp : pc + 3 = pc') :
    ∃ h', Wr h h' a (Jvm.RoadKit.slotOf Z O n d) v' ∧ U l Z EL n0 y bytes maxl ret R G h' pc' Ls St C S := by
  subst hp
  obtain ⟨p, e, s, m, args, below, meth, c, st⟩ := G
  obtain ⟨hx, hby, hml, hnm, hrt, hlk, hn0, vm0, k0, hS, hk, hZ, hown, hCH, T, locs, X, N, eT, k⟩ := A
  obtain ⟨T', h', X', e', W', st'⟩ := RoadKit.putFN X hx hZ hown w via eT F E (Lw.imp id fun q => ⟨q.1, q.2.1, hnm.trans q.2.2⟩) wi hty hn hf (g := mkF m pc Ls _) rfl rfl (hb hby hd)
  exact ⟨h', W', U.mk hx hZ hby hml hown hnm hrt hlk hn0 hS (by rw [W'.size]; exact hk) ⟨hCH.1.trans (CHr.wr W' (Safe.exa hZ.alike E hk1 hk2) hCH.1.1), hCH.2⟩ X' (Fr.snoc X' N ga) e' (fun t q => k t (st' t q))⟩
theorem U.newO (A : U l Z EL n0 y bytes maxl ret R G h pc Ls St C S) {index n : Nat} {K : String} (hd : decode bytes pc = .ok (.new index, 3)) (w : (Jvm.Cond.classLink y.cls index K).before a0 Z = true) (wi : (Jvm.Cond.instantiable K n).before a0 Z = true) (wz : (Jvm.Cond.initialized K).before a0 Z = true) (hC : C + 1 ≤ R.cells) (hSl : S + n ≤ R.slots) (hC' : C + 1 = C') (hS' : S + n = S') (hp : pc + 3 = pc') :
    ∃ h' b, b = h.size ∧ n0 ≤ b ∧ Ext h h' ∧ Exa Z h' b K ∧ (∀ {O nm d : String} {ty : FieldType}, Laid Z a0 K O nm d → parseFieldDescriptor d = some ty → Fld Z h' b O nm d (defaultValue ty)) ∧ U l Z EL n0 y bytes maxl ret R G h' pc' Ls (.ref b :: St) C' S' := by
  subst hp hC' hS'
  have hsz := A.size
  obtain ⟨p, e, s, m, args, below, meth, c, st⟩ := G
  obtain ⟨hx, hby, hml, hnm, hrt, hlk, hn0, vm0, k0, hS, hk, hZ, hown, hCH, T, locs, X, N, eT, k⟩ := A
  obtain ⟨T', h', X', e', E', A', D', -, st'⟩ := RoadKit.newO X hx hZ hown w wi wz eT (g := mkF m pc Ls St) rfl (hb hby hd) hC hSl
  exact ⟨h', h.size, rfl, hsz, E', A', D', U.mk hx hZ hby hml hown hnm hrt hlk hn0 hS (Nat.le_trans hk E'.1) ⟨hCH.1.trans (CHr.ext E' hCH.1.1), hCH.2⟩ X' N e' (fun t q => k t (st' t q))⟩
theorem U.fin {v : Option Value} (A : U l Z EL n0 y bytes maxl ret R G h pc Ls St C S) (hC : C ≤ R.cells) (hSl : S ≤ R.slots) (hv : ret = none → v = none) (hQ : Q v h)
    (f : ∀ {p : Program} {e : Env} {s : State} {m : MethodId} {args : Array Value} {below : List Frame} {meth : Method} {c : Code} {T : State} {locs : List Loc} {fs : List Frame}, Stand p l e R s m args below meth c T locs C S → p.tables.exec = Jvm.exec → c.code = bytes → meth.sig.returnType = ret → (∀ (f : JFrame) (acts : List Action), f.method = m → f.locked = none → f.entered = [] → (doReturn e (T.setTop f) acts v).1 = T.setFrames fs) → Steps p.tables e below (T.setTop (mkF m pc Ls St)) (T.setFrames fs)) : GlU R Z EL n0 G Q := by
  obtain ⟨p, e, s, m, args, below, meth, c, st⟩ := G
  obtain ⟨hx, hby, hml, hnm, hrt, hlk, hn0, vm0, k0, hS, hk, hZ, hown, ⟨hCH, a0', hEL⟩, T, locs, X, N, eT, k⟩ := A
  obtain ⟨fs, hr, hrun, hended, hE⟩ := X.leaveW hS (by rw [eT]; exact hk) (v := v) (fun q => hv (hrt.symm.trans q)) hlk
  have hA := hCH.trans (CHv.at X hZ hEL hCH.1)
  show ∃ s₂ o, _
  refine ⟨_, _, k _ (f X hx hby hrt hr), hrun, hended, v, locs, rfl, ⟨N, ?_⟩, ?_, hE.1, hE.2.1, hE.2.2.1, hE.2.2.2.mono hC hSl⟩
  · show Q v T.heap
    rw [eT]; exact hQ
  · show CHr Z EL s.vm s.heap T.vm T.heap
    rw [eT]; exact hA
theorem U.callS (A : U l Z EL n0 y bytes maxl ret R G h pc Ls St C S) {y' : MethodName} {bytes' : ByteArray} {maxl' : Nat} {ret' : Option FieldType} {R' : Room} {as : Array Value} {idx : Nat} {argsL rest : List Value} {ps : List FieldType} {rr : Option FieldType} (hd : decode bytes pc = .ok (.invokestatic idx, 3))
    (w1 : (Jvm.Cond.methodLink y.cls idx y').before a0 Z = true) (w2 : (Jvm.Cond.static y').before a0 Z = true) (w3 : (Jvm.Cond.initialized y'.cls).before a0 Z = true) (w4 : (Jvm.Cond.code y' bytes' maxl' ret').before a0 Z = true) (hM : CtrU l Z EL n0 y' bytes' maxl' ret' [] R' as h Q) (has : argsL.toArray = as) (hs : St = argsL.reverse ++ rest)
    (hpd : parseMethodDescriptor y'.desc = some ⟨ps, rr⟩) (hlen : argsL.length = ps.length) (hsz : Ls.size = maxl) (hy : y'.cls ≠ "java/lang/invoke/MethodHandle" ∧ y'.cls ≠ "java/lang/invoke/VarHandle") (hf : R'.frames + 1 ≤ R.frames) (hlo : (rest.map fun v => v.category).sum + (maxl' + 11) + R'.locals ≤ R.locals) (hC : C + R'.cells ≤ R.cells) (hSl : S + R'.slots ≤ R.slots) (hC' : C + R'.cells = C') (hS' : S + R'.slots = S') (hp : pc + 3 = pc') :
    ∃ v h', Q v h' ∧ U l Z EL n0 y bytes maxl ret R G h' pc' Ls (v.toList ++ rest) C' S' := by
  subst hp hC' hS' has
  obtain ⟨p, e, s, m, args, below, meth, c, st⟩ := G
  obtain ⟨hx, hby, hml, hnm, hrt, hlk, hn0, vm0, k0, hS, hk, hZ, hown, hCH, T, locs, X, N, eT, k⟩ := A
  obtain ⟨v, _, ⟨T', L', k', n'⟩, -, X', hS', hg', ⟨Lc, hQ, l1, y1, z1, hC2⟩, st'⟩ := callSS X hx (y := y') hown (mvT hZ w1) (mvT hZ w2) (mvT hZ w3) (mvT hZ w4) hy (backOfSH (Q := fun v h L => Fr n0 L ∧ Q v h) (W := (rest.map fun v => v.category).sum) hM hZ w4 w3 hf hlo hCH.2.choose_spec hCH.1.1) (g := mkF m pc Ls St) rfl (by rw [hml]; exact hsz) (argsL := argsL) (rest := rest) (lenOf hpd hlen) hs (by show 2 * 0 + _ ≤ _; omega) (hb hby hd) (fun _ _ => ⟨rfl, eT, hC, hSl⟩)
  dsimp only [Pt.U, Pt.locs, Pt.cells, Pt.slots] at X' hS' hg' l1 y1 z1 st' hQ hC2
  subst l1 y1 z1
  exact ⟨v, T'.heap, hQ.2, by
    obtain ⟨X2, hS2, hZ2, hown2⟩ := rebS hS (by rw [eT]; exact hk) X' hS' hg' hZ hown
    exact U.mk hx hZ2 hby hml hown2 hnm hrt hlk hn0 hS2 (Nat.le_refl _) ⟨hCH.1.trans hC2, hCH.2⟩ X2 (N.app hQ.1) rfl (fun t q => k t (st'.trans q))⟩
theorem U.callI (A : U l Z EL n0 y bytes maxl ret R G h pc Ls St C S) {a : Addr} {y' : MethodName} {bytes' : ByteArray} {maxl' : Nat} {R' : Room} {as : Array Value} {idx : Nat} {argsL rest : List Value} {ps : List FieldType} {rr : Option FieldType} (hd : decode bytes pc = .ok (.invokespecial idx, 3)) (hy1 : y'.name = "<init>")
    (w1 : (Jvm.Cond.methodLink y.cls idx y').before a0 Z = true) (w2 : (Jvm.Cond.instanceMethod y').before a0 Z = true) (w3 : (Jvm.Cond.initialized y'.cls).before a0 Z = true) (w4 : (Jvm.Cond.code y' bytes' maxl' none).before a0 Z = true) (hM : CtrU l Z EL n0 y' bytes' maxl' none [] R' as h Q) (has : (.ref a :: argsL).toArray = as) (hs : St = argsL.reverse ++ .ref a :: rest)
    (hpd : parseMethodDescriptor y'.desc = some ⟨ps, rr⟩) (hlen : argsL.length = ps.length) (hsz : Ls.size = maxl) (hy : y'.cls ≠ "java/lang/invoke/MethodHandle" ∧ y'.cls ≠ "java/lang/invoke/VarHandle") (hf : R'.frames + 1 ≤ R.frames) (hlo : (rest.map fun v => v.category).sum + (maxl' + 11) + R'.locals ≤ R.locals) (hC : C + R'.cells ≤ R.cells) (hSl : S + R'.slots ≤ R.slots) (hC' : C + R'.cells = C') (hS' : S + R'.slots = S') (hp : pc + 3 = pc') :
    ∃ v h', Q v h' ∧ U l Z EL n0 y bytes maxl ret R G h' pc' Ls (v.toList ++ rest) C' S' := by
  subst hp hC' hS' has
  obtain ⟨p, e, s, m, args, below, meth, c, st⟩ := G
  obtain ⟨hx, hby, hml, hnm, hrt, hlk, hn0, vm0, k0, hS, hk, hZ, hown, hCH, T, locs, X, N, eT, k⟩ := A
  obtain ⟨v, _, ⟨T', L', k', n'⟩, -, X', hS', hg', ⟨Lc, hQ, l1, y1, z1, hC2⟩, st'⟩ := X.specialBackS hx (y := y') hy1 hown (mvT hZ w1) (mvT hZ w2) (mvT hZ w4) hy (backOfSH (Q := fun v h L => Fr n0 L ∧ Q v h) (W := (rest.map fun v => v.category).sum) hM hZ w4 w3 hf hlo hCH.2.choose_spec hCH.1.1) (g := mkF m pc Ls St) rfl (by rw [hml]; exact hsz) (Steps.refl _) (a := a) (argsL := argsL) (rest := rest) (lenOf hpd hlen) hs (by show 2 * 0 + _ ≤ _; omega) (hb hby hd) (fun _ _ => ⟨rfl, eT, hC, hSl⟩)
  dsimp only [Pt.U, Pt.locs, Pt.cells, Pt.slots] at X' hS' hg' l1 y1 z1 st' hQ hC2
  subst l1 y1 z1
  exact ⟨v, T'.heap, hQ.2, by
    obtain ⟨X2, hS2, hZ2, hown2⟩ := rebS hS (by rw [eT]; exact hk) X' hS' hg' hZ hown
    exact U.mk hx hZ2 hby hml hown2 hnm hrt hlk hn0 hS2 (Nat.le_refl _) ⟨hCH.1.trans hC2, hCH.2⟩ X2 (N.app hQ.1) rfl (fun t q => k t (st'.trans q))⟩
theorem U.callV (A : U l Z EL n0 y bytes maxl ret R G h pc Ls St C S) {a : Addr} {K : String} {y' z' : MethodName} {bytes' : ByteArray} {maxl' : Nat} {ret' : Option FieldType} {R' : Room} {as : Array Value} {idx : Nat} {argsL rest : List Value} {ps : List FieldType} {rr : Option FieldType} (hd : decode bytes pc = .ok (.invokevirtual idx, 3)) (E : Exa Z h a K)
    (w1 : (Jvm.Cond.methodLink y.cls idx y').before a0 Z = true) (wd : (Jvm.Cond.declares y').before a0 Z = true) (hnf : ∀ {s : State}, Z.Warmed39 s.vm → NotFace s y') (ws : (Jvm.Cond.selects K y' z').before a0 Z = true) (w2 : (Jvm.Cond.instanceMethod z').before a0 Z = true) (w3 : (Jvm.Cond.initialized z'.cls).before a0 Z = true) (w4 : (Jvm.Cond.code z' bytes' maxl' ret').before a0 Z = true) (hM : CtrU l Z EL n0 z' bytes' maxl' ret' [] R' as h Q) (has : (.ref a :: argsL).toArray = as) (hs : St = argsL.reverse ++ .ref a :: rest)
    (hpd : parseMethodDescriptor y'.desc = some ⟨ps, rr⟩) (hlen : argsL.length = ps.length) (hsz : Ls.size = maxl) (hy : y'.cls ≠ "java/lang/invoke/MethodHandle" ∧ y'.cls ≠ "java/lang/invoke/VarHandle") (hf : R'.frames + 1 ≤ R.frames) (hlo : (rest.map fun v => v.category).sum + (maxl' + 11) + R'.locals ≤ R.locals) (hC : C + R'.cells ≤ R.cells) (hSl : S + R'.slots ≤ R.slots) (hC' : C + R'.cells = C') (hS' : S + R'.slots = S') (hp : pc + 3 = pc') :
    ∃ v h', Q v h' ∧ U l Z EL n0 y bytes maxl ret R G h' pc' Ls (v.toList ++ rest) C' S' := by
  subst hp hC' hS' has
  obtain ⟨p, e, s, m, args, below, meth, c, st⟩ := G
  obtain ⟨hx, hby, hml, hnm, hrt, hlk, hn0, vm0, k0, hS, hk, hZ, hown, hCH, T, locs, X, N, eT, k⟩ := A
  obtain ⟨cq, kq, qa, qb, qc⟩ := isOf hZ eT E
  obtain ⟨v, _, ⟨T', L', k', n'⟩, -, X', hS', hg', ⟨Lc, hQ, l1, y1, z1, hC2⟩, st'⟩ := X.virtualBackS hx (y := y') (z := z') hown (mvT hZ w1) (mvT hZ wd) (hnf hZ) (mvT hZ ws) (mvT hZ w2) hy (backOfSH (Q := fun v h L => Fr n0 L ∧ Q v h) (W := (rest.map fun v => v.category).sum) hM hZ w4 w3 hf hlo hCH.2.choose_spec hCH.1.1) qa qc (g := mkF m pc Ls St) rfl (by rw [hml]; exact hsz) (Steps.refl _) (argsL := argsL) (rest := rest) (lenOf hpd hlen) hs (by show 2 * 0 + _ ≤ _; omega) (hb hby hd) (fun _ _ => ⟨rfl, eT, hC, hSl⟩)
  dsimp only [Pt.U, Pt.locs, Pt.cells, Pt.slots] at X' hS' hg' l1 y1 z1 st' hQ hC2
  subst l1 y1 z1
  exact ⟨v, T'.heap, hQ.2, by
    obtain ⟨X2, hS2, hZ2, hown2⟩ := rebS hS (by rw [eT]; exact hk) X' hS' hg' hZ hown
    exact U.mk hx hZ2 hby hml hown2 hnm hrt hlk hn0 hS2 (Nat.le_refl _) ⟨hCH.1.trans hC2, hCH.2⟩ X2 (N.app hQ.1) rfl (fun t q => k t (st'.trans q))⟩
theorem U.callP (A : U l Z EL n0 y bytes maxl ret R G h pc Ls St C S) {a : Addr} {K : String} {kk : Nat} {y' : MethodName} {bytes' : ByteArray} {maxl' : Nat} {ret' : Option FieldType} {R' : Room} {as : Array Value} {idx : Nat} {argsL rest : List Value} {ps : List FieldType} {rr : Option FieldType} (hd : decode bytes pc = .ok (.invokevirtual idx, 3)) (E : Exa Z h a K)
    (w1 : (Jvm.Cond.methodLink y.cls idx y').before a0 Z = true) (w2 : (Jvm.Cond.instanceMethod y').before a0 Z = true) (wp : (Jvm.Cond.privateMethod y').before a0 Z = true) (wi : (Jvm.Cond.instantiable y'.cls kk).before a0 Z = true) (w3 : (Jvm.Cond.initialized y'.cls).before a0 Z = true) (w4 : (Jvm.Cond.code y' bytes' maxl' ret').before a0 Z = true) (hM : CtrU l Z EL n0 y' bytes' maxl' ret' [] R' as h Q) (has : (.ref a :: argsL).toArray = as) (hs : St = argsL.reverse ++ .ref a :: rest)
    (hpd : parseMethodDescriptor y'.desc = some ⟨ps, rr⟩) (hlen : argsL.length = ps.length) (hsz : Ls.size = maxl) (hy : y'.cls ≠ "java/lang/invoke/MethodHandle" ∧ y'.cls ≠ "java/lang/invoke/VarHandle") (hf : R'.frames + 1 ≤ R.frames) (hlo : (rest.map fun v => v.category).sum + (maxl' + 11) + R'.locals ≤ R.locals) (hC : C + R'.cells ≤ R.cells) (hSl : S + R'.slots ≤ R.slots) (hC' : C + R'.cells = C') (hS' : S + R'.slots = S') (hp : pc + 3 = pc') :
    ∃ v h', Q v h' ∧ U l Z EL n0 y bytes maxl ret R G h' pc' Ls (v.toList ++ rest) C' S' := by
  subst hp hC' hS' has
  obtain ⟨p, e, s, m, args, below, meth, c, st⟩ := G
  obtain ⟨hx, hby, hml, hnm, hrt, hlk, hn0, vm0, k0, hS, hk, hZ, hown, hCH, T, locs, X, N, eT, k⟩ := A
  obtain ⟨cq, q1, q2⟩ := E.cell
  have hpv := Cond.privateMethod_at (mvP (args := args) hZ wp)
  obtain ⟨ci, ki, i1, i2, -, i3, -, -⟩ := Cond.instantiable_spec (mvT (args := args) hZ wi)
  have hsel := selects_self_of_private (args := args) i1 i2 (Bool.or_eq_false_iff.mp i3).1 hpv (mvT hZ w2) hy
  obtain ⟨v, _, ⟨T', L', k', n'⟩, -, X', hS', hg', ⟨Lc, hQ, l1, y1, z1, hC2⟩, st'⟩ := privateBackS X hx (y := y') hown (mvT hZ w1) (mvT hZ w2) hsel hpv (mvT hZ w4) hy (backOfSH (Q := fun v h L => Fr n0 L ∧ Q v h) (W := (rest.map fun v => v.category).sum) hM hZ w4 w3 hf hlo hCH.2.choose_spec hCH.1.1) (g := mkF m pc Ls St) rfl (by rw [hml]; exact hsz) (Steps.refl _) (a := a) (by rw [eT]; exact q1) q2 (argsL := argsL) (rest := rest) (lenOf hpd hlen) hs (by show 2 * 0 + _ ≤ _; omega) (hb hby hd) (fun _ _ => ⟨rfl, eT, hC, hSl⟩)
  dsimp only [Pt.U, Pt.locs, Pt.cells, Pt.slots] at X' hS' hg' l1 y1 z1 st' hQ hC2
  subst l1 y1 z1
  exact ⟨v, T'.heap, hQ.2, by
    obtain ⟨X2, hS2, hZ2, hown2⟩ := rebS hS (by rw [eT]; exact hk) X' hS' hg' hZ hown
    exact U.mk hx hZ2 hby hml hown2 hnm hrt hlk hn0 hS2 (Nat.le_refl _) ⟨hCH.1.trans hC2, hCH.2⟩ X2 (N.app hQ.1) rfl (fun t q => k t (st'.trans q))⟩
theorem U.retI {z : Int32} (A : U l Z EL n0 y bytes maxl (some .int) R G h pc Ls (.int z :: St) C S) (hd : decode bytes pc = .ok (.ireturn, 1)) (hC : C ≤ R.cells) (hSl : S ≤ R.slots) (hQ : Q (some (.int z)) h) : GlU R Z EL n0 G Q :=
  A.fin hC hSl (fun q => nomatch q) hQ fun X hx q hret hr => retOut X hx hret (t := .int) rfl (Or.inl ⟨rfl, Or.inl rfl, z, rfl⟩) (hb q hd) hr
theorem U.retN {z z' : Int32} {t : FieldType} (A : U l Z EL n0 y bytes maxl (some t) R G h pc Ls (.int z :: St) C S) (hd : decode bytes pc = .ok (.ireturn, 1)) (hC : C ≤ R.cells) (hSl : S ≤ R.slots) (ht : t = .boolean ∨ t = .byte ∨ t = .char ∨ t = .short) (hz : nar t z = z') (hQ : Q (some (.int z')) h) : GlU R Z EL n0 G Q := by
  subst hz; exact A.fin hC hSl (fun q => nomatch q) hQ fun X hx q hret hr => RoadKit.retN X hx hret ht (hb q hd) hr
theorem U.retJ {z : Int64} (A : U l Z EL n0 y bytes maxl (some .long) R G h pc Ls (.long z :: St) C S) (hd : decode bytes pc = .ok (.lreturn, 1)) (hC : C ≤ R.cells) (hSl : S ≤ R.slots) (hQ : Q (some (.long z)) h) : GlU R Z EL n0 G Q :=
  A.fin hC hSl (fun q => nomatch q) hQ fun X hx q hret hr => retOut X hx hret (t := .long) rfl (Or.inr (Or.inl ⟨rfl, rfl, z, rfl⟩)) (hb q hd) hr
theorem U.retA {v : Value} {t : FieldType} (A : U l Z EL n0 y bytes maxl (some t) R G h pc Ls (v :: St) C S) (hd : decode bytes pc = .ok (.areturn, 1)) (hC : C ≤ R.cells) (hSl : S ≤ R.slots) (ht : t.isReference = true) (hv : v.isRef = true) (hn : narrow t v = v) (hQ : Q (some v) h) : GlU R Z EL n0 G Q :=
  A.fin hC hSl (fun q => nomatch q) hQ fun X hx q hret hr => retOut X hx hret (t := t) hn (Or.inr (Or.inr (Or.inr (Or.inr ⟨rfl, ht, hv⟩)))) (hb q hd) hr
theorem U.retV (A : U l Z EL n0 y bytes maxl none R G h pc Ls [] C S) (hd : decode bytes pc = .ok (.return_, 1)) (hC : C ≤ R.cells) (hSl : S ≤ R.slots) (hQ : Q none h) : GlU R Z EL n0 G Q :=
  A.fin hC hSl (fun _ => rfl) hQ fun X hx q hret hr => X.returnOut hx hret (hb q hd) hr
theorem U.kI {P : Int32 → Heap → Prop} {rest : List Value} (q : ∃ v h', QI P v h' ∧ U l Z EL n0 y bytes maxl ret R G h' pc Ls (v.toList ++ rest) C S) : ∃ r h', P r h' ∧ U l Z EL n0 y bytes maxl ret R G h' pc Ls (.int r :: rest) C S := by
  obtain ⟨v, h', ⟨r, rfl, hP⟩, A⟩ := q; exact ⟨r, h', hP, A⟩
theorem U.kJ {P : Int64 → Heap → Prop} {rest : List Value} (q : ∃ v h', QJ P v h' ∧ U l Z EL n0 y bytes maxl ret R G h' pc Ls (v.toList ++ rest) C S) : ∃ r h', P r h' ∧ U l Z EL n0 y bytes maxl ret R G h' pc Ls (.long r :: rest) C S := by
  obtain ⟨v, h', ⟨r, rfl, hP⟩, A⟩ := q; exact ⟨r, h', hP, A⟩
theorem U.kA {P : Addr → Heap → Prop} {rest : List Value} (q : ∃ v h', QA P v h' ∧ U l Z EL n0 y bytes maxl ret R G h' pc Ls (v.toList ++ rest) C S) : ∃ r h', P r h' ∧ U l Z EL n0 y bytes maxl ret R G h' pc Ls (.ref r :: rest) C S := by
  obtain ⟨v, h', ⟨r, rfl, hP⟩, A⟩ := q; exact ⟨r, h', hP, A⟩
theorem U.kV {P : Heap → Prop} {rest : List Value} (q : ∃ v h', QV P v h' ∧ U l Z EL n0 y bytes maxl ret R G h' pc Ls (v.toList ++ rest) C S) : ∃ h', P h' ∧ U l Z EL n0 y bytes maxl ret R G h' pc Ls rest C S := by
  obtain ⟨v, h', ⟨rfl, hP⟩, A⟩ := q; exact ⟨h', hP, A⟩
theorem Exa.neArs {x b : Addr} {C : String} {n : Nat} (E : Exa Z h x C) (F : Ars Z h b ty N f) (w : (Jvm.Cond.instantiable C n).before a0 Z = true) : x ≠ b := by
  obtain ⟨k, A⟩ := F.toArv
  exact Exa.neArv E A w
/-- a list of values by the place -/
def lfn (vs : List Value) : Nat → Value := fun j => vs.getD j (.int 0)
theorem Arv.toArs {k : ClassId} {z : Int32} {vs : List Value} (A : Arv Z h a k ty z vs (.int 0)) (hz : z.toInt = N) (hl : vs.length = N) (hb : N < 2 ^ 31) : Ars Z h a ty N (lfn vs) := by
  obtain ⟨c, A1, -, hs, hn, H, F⟩ := A
  have e : z.toNatClampNeg = N := by simp only [Int32.toNatClampNeg]; omega
  exact ⟨c, A1, by rw [hs, e], hb, fun j hj => by have q := H j (by rw [hs, e]; exact hj); exact ⟨q, F j (by rw [hs, e]; exact hj)⟩⟩
theorem U.ldcStr (A : U l Z EL n0 y bytes maxl ret R G h pc Ls St C S) {i n : Nat} {text : String} {vs : List Value} {z : Int32} (hd : decode bytes pc = .ok (.ldc i, 2)) (w : (Jvm.Cond.stringLink y.cls i text).before a0 Z = true) (wS : ∀ a ∈ Bundle.stringAtoms, a.before a0 Z = true) (hmem : (y.cls, i) ∈ EL) (ht : (∀ c ∈ text.toList, c.toNat < 256) ∧ text.toList.map (fun c => Value.int (Jvm.Lit.byteI c.toNat.toUInt16)) = vs) (hN : vs.length = N) (hz : z.toInt = N) (hNb : N < 2 ^ 31) (hn : 4 * text.toList.length ≤ n) (hbig : n ≤ 536870912) (hC : C + 2 ≤ R.cells) (hSl : S + (n + 4) ≤ R.slots) (hC' : C + 2 = C') (hS' : S + (n + 4) = S') (hp : pc + 2 = pc') :
    ∃ h' a b, Ext h h' ∧ Exa Z h' a "java/lang/String" ∧ Fld Z h' a "java/lang/String" "coder" "B" (.int 0) ∧ Fld Z h' a "java/lang/String" "value" "[B" (.ref b) ∧ Ars Z h' b .byte N (lfn vs) ∧ U l Z EL n0 y bytes maxl ret R G h' pc' Ls (.ref a :: St) C' S' := by
  subst hp hC' hS'
  have e0 : (0 : Int32).toInt = 0 := rfl
  have hneg : ¬ z < 0 := by rw [Int32.lt_iff_toInt_lt]; omega
  have hcl : z.toNatClampNeg = vs.length := by simp only [Int32.toNatClampNeg]; omega
  obtain ⟨p, e, s, m, args, below, meth, c, st⟩ := G
  obtain ⟨hx, hby, hml, hnm, hrt, hlk, hn0, vm0, k0, hS, hk, hZ, hown, ⟨hCH, a1, hEL⟩, T, locs, X, N', eT, k⟩ := A
  obtain ⟨a, T', h', k1, b, kb, X', e', E', hS2, hk2, hZ2, hown2, Ex, Fc, Fv, Av, -, -, hC2, -, -, st'⟩ := RoadKit.ldcCH X hx hZ hown w wS eT hS hk (EL := EL) hEL hmem hCH.1 ht hneg hcl (g := mkF m pc Ls St) rfl (hb hby hd) hn hbig hC hSl
  exact ⟨h', a, b, E', Ex, Fc, Fv, Arv.toArs Av hz hN hNb, U.mk hx hZ2 hby hml hown2 hnm hrt hlk hn0 hS2 hk2 ⟨hCH.trans hC2, a1, hEL⟩ X' N' e' (fun t q => k t (st' t q))⟩
theorem U.ldcStrW (A : U l Z EL n0 y bytes maxl ret R G h pc Ls St C S) {i n : Nat} {text : String} {vs : List Value} {z : Int32} (hd : decode bytes pc = .ok (.ldc_w i, 3)) (w : (Jvm.Cond.stringLink y.cls i text).before a0 Z = true) (wS : ∀ a ∈ Bundle.stringAtoms, a.before a0 Z = true) (hmem : (y.cls, i) ∈ EL) (ht : (∀ c ∈ text.toList, c.toNat < 256) ∧ text.toList.map (fun c => Value.int (Jvm.Lit.byteI c.toNat.toUInt16)) = vs) (hN : vs.length = N) (hz : z.toInt = N) (hNb : N < 2 ^ 31) (hn : 4 * text.toList.length ≤ n) (hbig : n ≤ 536870912) (hC : C + 2 ≤ R.cells) (hSl : S + (n + 4) ≤ R.slots) (hC' : C + 2 = C') (hS' : S + (n + 4) = S') (hp : pc + 3 = pc') :
    ∃ h' a b, Ext h h' ∧ Exa Z h' a "java/lang/String" ∧ Fld Z h' a "java/lang/String" "coder" "B" (.int 0) ∧ Fld Z h' a "java/lang/String" "value" "[B" (.ref b) ∧ Ars Z h' b .byte N (lfn vs) ∧ U l Z EL n0 y bytes maxl ret R G h' pc' Ls (.ref a :: St) C' S' := by
  subst hp hC' hS'
  have e0 : (0 : Int32).toInt = 0 := rfl
  have hneg : ¬ z < 0 := by rw [Int32.lt_iff_toInt_lt]; omega
  have hcl : z.toNatClampNeg = vs.length := by simp only [Int32.toNatClampNeg]; omega
  obtain ⟨p, e, s, m, args, below, meth, c, st⟩ := G
  obtain ⟨hx, hby, hml, hnm, hrt, hlk, hn0, vm0, k0, hS, hk, hZ, hown, ⟨hCH, a1, hEL⟩, T, locs, X, N', eT, k⟩ := A
  obtain ⟨a, T', h', k1, b, kb, X', e', E', hS2, hk2, hZ2, hown2, Ex, Fc, Fv, Av, -, -, hC2, -, -, st'⟩ := ldcCHW X hx hZ hown w wS eT hS hk (EL := EL) hEL hmem hCH.1 ht hneg hcl (g := mkF m pc Ls St) rfl (hb hby hd) hn hbig hC hSl
  exact ⟨h', a, b, E', Ex, Fc, Fv, Arv.toArs Av hz hN hNb, U.mk hx hZ2 hby hml hown2 hnm hrt hlk hn0 hS2 hk2 ⟨hCH.trans hC2, a1, hEL⟩ X' N' e' (fun t q => k t (st' t q))⟩
end WalkU
end Jvm.Pilot.@@N@@
namespace Jvm.Pilot.@@N@@
open Jvm Jvm.ClassFile Sem Op Lib Jvm.Free Jvm.Stand Jvm.LawKit Jvm.RoadKit Bundle Jvm.Pilot.@@N@@.Jvm.D
section Sup
variable {l : Launch} {Z : State} {n0 : Nat} {y : MethodName} {bytes : ByteArray} {maxl : Nat} {ret : Option FieldType} {R : Room} {G : Cx} {h h' : Heap} {pc pc' : Nat} {Ls : Array Slot} {St : List Value} {C S C' S' : Nat} {Q : Option Value → Heap → Prop} {a0 : Array Value}
theorem nf_same {s : State} {args args' : Array Value} {y1 y2 : MethodName} {K : String} (ws : (Jvm.Cond.selects K y1 y1).before args s = true) (w : (Jvm.Cond.instanceMethod y1).before args' s = true) (hc : y1.cls = y2.cls) : NotFace s y2 := fun r0 h0 => by
  obtain ⟨mk, methM, hnamed, -⟩ := Cond.instanceMethod_spec w
  obtain ⟨kr, k1, k2⟩ := notFace_of_selects ws mk hnamed
  have e1 := findClass_of_methodNamed hnamed
  have e2 := findClass_of_methodNamed h0
  rw [hc] at e1
  have e := Option.some.inj (e1.symm.trans e2)
  exact ⟨kr, e ▸ k1, k2⟩
theorem same_self {s : State} {args : Array Value} {y : MethodName} (wd : (Jvm.Cond.declares y).before args s = true) (hnf : NotFace s y) (hy : y.cls ≠ "java/lang/invoke/MethodHandle" ∧ y.cls ≠ "java/lang/invoke/VarHandle") : (Jvm.Cond.sameMethod y.cls y.cls y.name y.desc).before args s = true := by
  obtain ⟨r0, r, hn, hrm, hstR, hsigR⟩ := Cond.declares_spec wd
  obtain ⟨kr, k1, k2⟩ := hnf r0 hn
  have hf := State.methodFound?_of_named hn hy
  have hc := findClass_of_methodNamed hn
  simp [Cond.before, Cond.holds, Cond.value, hf, hn, hc, k1, k2]
theorem W.callP2 (A : W l Z n0 y bytes maxl ret R G h pc Ls St C S) {a : Addr} {K K' : String} {y' : MethodName} {bytes' : ByteArray} {maxl' : Nat} {ret' : Option FieldType} {R' : Room} {as : Array Value} {idx : Nat} {argsL rest : List Value} {ps : List FieldType} {rr : Option FieldType} (hd : decode bytes pc = .ok (.invokevirtual idx, 3)) (E : Exa Z h a K)
    (w1 : (Jvm.Cond.methodLink y.cls idx y').before a0 Z = true) (w2 : (Jvm.Cond.instanceMethod y').before a0 Z = true) (wp : (Jvm.Cond.privateMethod y').before a0 Z = true) (ws : (Jvm.Cond.selects K' y' y').before a0 Z = true) (w3 : (Jvm.Cond.initialized y'.cls).before a0 Z = true) (w4 : (Jvm.Cond.code y' bytes' maxl' ret').before a0 Z = true) (hM : Ctr l Z n0 y' bytes' maxl' ret' [] R' as h Q) (has : (.ref a :: argsL).toArray = as) (hs : St = argsL.reverse ++ .ref a :: rest)
    (hpd : parseMethodDescriptor y'.desc = some ⟨ps, rr⟩) (hlen : argsL.length = ps.length) (hsz : Ls.size = maxl) (hy : y'.cls ≠ "java/lang/invoke/MethodHandle" ∧ y'.cls ≠ "java/lang/invoke/VarHandle") (hf : R'.frames + 1 ≤ R.frames) (hlo : (rest.map fun v => v.category).sum + (maxl' + 11) + R'.locals ≤ R.locals) (hC : C + R'.cells ≤ R.cells) (hS : S + R'.slots ≤ R.slots) (hC' : C + R'.cells = C') (hS' : S + R'.slots = S') (hp : pc + 3 = pc') :
    ∃ v h', Q v h' ∧ W l Z n0 y bytes maxl ret R G h' pc' Ls (v.toList ++ rest) C' S' := by
  subst hp hC' hS' has
  obtain ⟨p, e, s, m, args, below, meth, c, st⟩ := G
  obtain ⟨hx, hZ, hby, hml, hown, hnm, hrt, hlk, hn0, T, locs, X, N, eT, k⟩ := A
  obtain ⟨cq, q1, q2⟩ := E.cell
  have hpv := Cond.privateMethod_at (mvP (args := args) hZ wp)
  obtain ⟨mk, methM, hnamed, -⟩ := Cond.instanceMethod_spec (mvT (args := args) hZ w2)
  obtain ⟨kr, k1, k2⟩ := notFace_of_selects (mvT (args := args) hZ ws) mk hnamed
  have hsel := selects_self_of_private (args := args) (findClass_of_methodNamed hnamed) k1 k2 hpv (mvT hZ w2) hy
  obtain ⟨v, _, ⟨T', L', k', n'⟩, -, X', ⟨Lc, hQ, l1, y1, z1⟩, st'⟩ := X.privateBack hx (y := y') hown (mvT hZ w1) (mvT hZ w2) hsel hpv (mvT hZ w4) hy (backOf (Q := fun v h L => Fr n0 L ∧ Q v h) (W := (rest.map fun v => v.category).sum) hM hZ w4 w3 hf hlo) (g := mkF m pc Ls St) rfl (by rw [hml]; exact hsz) (Steps.refl _) (a := a) (by rw [eT]; exact q1) q2 (argsL := argsL) (rest := rest) (lenOf hpd hlen) hs (by show 2 * 0 + _ ≤ _; omega) (hb hby hd) (fun _ _ => ⟨rfl, eT, hC, hS⟩)
  dsimp only [Pt.U, Pt.locs, Pt.cells, Pt.slots] at X' l1 y1 z1 st' hQ
  subst l1 y1 z1
  exact ⟨v, T'.heap, hQ.2, W.mk hx hZ hby hml hown hnm hrt hlk hn0 X' (N.app hQ.1) rfl (fun t q => k t (st'.trans q))⟩
theorem W.callX (A : W l Z n0 y bytes maxl ret R G h pc Ls St C S) {a : Addr} {K K' : String} {y' y1 : MethodName} {bytes' : ByteArray} {maxl' : Nat} {ret' : Option FieldType} {R' : Room} {as : Array Value} {idx : Nat} {argsL rest : List Value} {ps : List FieldType} {rr : Option FieldType} (hd : decode bytes pc = .ok (.invokespecial idx, 3)) (hn1 : y'.name ≠ "<init>") (E : Exa Z h a K)
    (w1 : (Jvm.Cond.methodLink y.cls idx y').before a0 Z = true) (w2 : (Jvm.Cond.instanceMethod y').before a0 Z = true) (wsup : (Jvm.Cond.superclass y.cls y'.cls).before a0 Z = true) (wd : (Jvm.Cond.declares y').before a0 Z = true) (ws : (Jvm.Cond.selects K' y1 y1).before a0 Z = true) (wi1 : (Jvm.Cond.instanceMethod y1).before a0 Z = true) (hcl : y1.cls = y'.cls) (w3 : (Jvm.Cond.initialized y'.cls).before a0 Z = true) (w4 : (Jvm.Cond.code y' bytes' maxl' ret').before a0 Z = true) (hM : Ctr l Z n0 y' bytes' maxl' ret' [] R' as h Q) (has : (.ref a :: argsL).toArray = as) (hs : St = argsL.reverse ++ .ref a :: rest)
    (hpd : parseMethodDescriptor y'.desc = some ⟨ps, rr⟩) (hlen : argsL.length = ps.length) (hsz : Ls.size = maxl) (hy : y'.cls ≠ "java/lang/invoke/MethodHandle" ∧ y'.cls ≠ "java/lang/invoke/VarHandle") (hf : R'.frames + 1 ≤ R.frames) (hlo : (rest.map fun v => v.category).sum + (maxl' + 11) + R'.locals ≤ R.locals) (hC : C + R'.cells ≤ R.cells) (hS : S + R'.slots ≤ R.slots) (hC' : C + R'.cells = C') (hS' : S + R'.slots = S') (hp : pc + 3 = pc') :
    ∃ v h', Q v h' ∧ W l Z n0 y bytes maxl ret R G h' pc' Ls (v.toList ++ rest) C' S' := by
  subst hp hC' hS' has
  obtain ⟨p, e, s, m, args, below, meth, c, st⟩ := G
  obtain ⟨hx, hZ, hby, hml, hown, hnm, hrt, hlk, hn0, T, locs, X, N, eT, k⟩ := A
  obtain ⟨v, _, ⟨T', L', k', n'⟩, -, X', ⟨Lc, hQ, l1, y1', z1⟩, st'⟩ := RoadKit.superBack X hx hZ (y := y') hown w1 (same_self wd (nf_same ws wi1 hcl) hy) w2 wsup hn1 (backOf (Q := fun v h L => Fr n0 L ∧ Q v h) (W := (rest.map fun v => v.category).sum) hM hZ w4 w3 hf hlo) eT (Ins.self E) (g := mkF m pc Ls St) rfl (by rw [hml]; exact hsz) w4 (argsL := argsL) (rest := rest) (lenOf hpd hlen) hs (by show 2 * 0 + _ ≤ _; omega) (hb hby hd) (fun _ _ => ⟨rfl, eT, hC, hS⟩)
  dsimp only [Pt.U, Pt.locs, Pt.cells, Pt.slots] at X' l1 y1' z1 st' hQ
  subst l1 y1' z1
  exact ⟨v, T'.heap, hQ.2, W.mk hx hZ hby hml hown hnm hrt hlk hn0 X' (N.app hQ.1) rfl (fun t q => k t (st'.trans q))⟩
end Sup
end Jvm.Pilot.@@N@@
namespace Jvm.Pilot.@@N@@
open Jvm Jvm.ClassFile Sem Op Lib Jvm.Free Jvm.Stand Jvm.LawKit Jvm.RoadKit Bundle Jvm.Pilot.@@N@@.Jvm.D
theorem own_sa {Z : State} {a0 : Array Value} (hw : ∀ d ∈ tables_1, d.before a0 Z = true) : ∀ a ∈ Bundle.stringAtoms, a.before a0 Z = true :=
  show ∀ a ∈ ([Jvm.Cond.initialized "java/lang/String", Jvm.Cond.instantiable "java/lang/String" (4 : Nat), Jvm.Cond.arrayClass Jvm.ClassFile.FieldType.byte, Jvm.Cond.laysFinal "java/lang/String" "java/lang/String" "value" "[B", Jvm.Cond.laysFinal "java/lang/String" "java/lang/String" "coder" "B", Jvm.Cond.soleField "java/lang/String" "value", Jvm.Cond.soleField "java/lang/String" "coder"] : List Jvm.Cond), a.before a0 Z = true from by
    intro a ha
    simp only [List.mem_cons, List.not_mem_nil, or_false] at ha
    rcases ha with rfl | rfl | rfl | rfl | rfl | rfl | rfl
    · exact (hw _ (List.mem_of_getElem? (i := 47) rfl))
    · exact (hw _ (List.mem_of_getElem? (i := 54) rfl))
    · exact (hw _ (List.mem_of_getElem? (i := 48) rfl))
    · exact (hw _ (List.mem_of_getElem? (i := 55) rfl))
    · exact (hw _ (List.mem_of_getElem? (i := 56) rfl))
    · exact (hw _ (List.mem_of_getElem? (i := 57) rfl))
    · exact (hw _ (List.mem_of_getElem? (i := 58) rfl))
theorem own_ew {Z : State} {a0 : Array Value} (hw : ∀ d ∈ tables_1, d.before a0 Z = true) : EW Z a0 consts_1 := fun p hp => by
  simp only [consts_1, List.mem_cons, List.not_mem_nil, or_false] at hp
  rcases hp with rfl | rfl
  · exact ⟨_, (hw _ (List.mem_of_getElem? (i := 53) rfl)), by decide⟩
  · exact ⟨_, (hw _ (List.mem_of_getElem? (i := 140) rfl)), by decide⟩
theorem own_rs {rs rs2 r : Int32} {P : Prop} (q : (rs.toInt = 1 ∧ P ∧ r.toInt = 1 ∧ rs2.toInt = 0) ∨ (¬ (rs.toInt = 1 ∧ P) ∧ r.toInt = 0 ∧ rs2.toInt = rs.toInt)) (h0 : rs.toInt = 0 ∨ rs.toInt = 1) : rs2.toInt = 0 ∨ rs2.toInt = 1 := by
  rcases q with q | q
  · exact Or.inl q.2.2.2
  · rw [q.2.2]; exact h0
theorem own_csne {args : Array Value} {s : State} {C n d : String} {v : Int32} (h : (Jvm.Term.static C n d).eval args s none [] s = some (.int v)) (q : (Jvm.Cond.not (Jvm.Cond.eq (Jvm.Term.static C n d) (Jvm.Term.int 0))).value args s none s [] = some true) : v.toInt ≠ 0 := by
  intro e
  have e2 : v = 0 := Int32.toInt_inj.mp e
  subst e2
  have := not_v q
  rw [eq_i h (Term.int_eval (0)) rfl] at this
  exact absurd this (by decide)
theorem pd_0 : parseMethodDescriptor "(I)V" = some ⟨[.int], none⟩ := by decide +kernel
theorem pd_1 : parseMethodDescriptor "(II)I" = some ⟨[.int, .int], some .int⟩ := by decide +kernel
theorem pd_2 : parseMethodDescriptor "()B" = some ⟨[], some .byte⟩ := by decide +kernel
theorem pd_3 : parseMethodDescriptor "(III)I" = some ⟨[.int, .int, .int], some .int⟩ := by decide +kernel
theorem pd_4 : parseMethodDescriptor "(I)I" = some ⟨[.int], some .int⟩ := by decide +kernel
theorem pd_5 : parseMethodDescriptor "([BI)[B" = some ⟨[(.array .byte), .int], some (.array .byte)⟩ := by decide +kernel
theorem pd_6 : parseMethodDescriptor "(Ljava/lang/String;)V" = some ⟨[(.object "java/lang/String")], none⟩ := by decide +kernel
theorem pd_7 : parseMethodDescriptor "([BIB)V" = some ⟨[(.array .byte), .int, .byte], none⟩ := by decide +kernel
theorem pd_8 : parseMethodDescriptor "()I" = some ⟨[], some .int⟩ := by decide +kernel
theorem pd_9 : parseMethodDescriptor "(ILjava/lang/String;)V" = some ⟨[.int, (.object "java/lang/String")], none⟩ := by decide +kernel
theorem pd_10 : parseMethodDescriptor "(Ljava/lang/String;)Ljava/lang/AbstractStringBuilder;" = some ⟨[(.object "java/lang/String")], some (.object "java/lang/AbstractStringBuilder")⟩ := by decide +kernel
theorem pd_11 : parseMethodDescriptor "(II)V" = some ⟨[.int, .int], none⟩ := by decide +kernel
theorem pd_12 : parseMethodDescriptor "([BII)[B" = some ⟨[(.array .byte), .int, .int], some (.array .byte)⟩ := by decide +kernel
theorem pd_13 : parseMethodDescriptor "()[B" = some ⟨[], some (.array .byte)⟩ := by decide +kernel
theorem pd_14 : parseMethodDescriptor "()Z" = some ⟨[], some .boolean⟩ := by decide +kernel
theorem pd_15 : parseMethodDescriptor "(Ljava/lang/AbstractStringBuilder;Ljava/lang/Void;)V" = some ⟨[(.object "java/lang/AbstractStringBuilder"), (.object "java/lang/Void")], none⟩ := by decide +kernel
theorem pd_16 : parseMethodDescriptor "(Ljava/lang/StringBuilder;)V" = some ⟨[(.object "java/lang/StringBuilder")], none⟩ := by decide +kernel
theorem pd_17 : parseMethodDescriptor "(Ljava/lang/Object;)V" = some ⟨[(.object "java/lang/Object")], none⟩ := by decide +kernel
theorem pd_18 : parseMethodDescriptor "(Ljava/lang/Object;)Ljava/lang/String;" = some ⟨[(.object "java/lang/Object")], some (.object "java/lang/String")⟩ := by decide +kernel
theorem pd_19 : parseMethodDescriptor "(Ljava/lang/String;)Ljava/lang/StringBuilder;" = some ⟨[(.object "java/lang/String")], some (.object "java/lang/StringBuilder")⟩ := by decide +kernel
theorem pd_20 : parseMethodDescriptor "()V" = some ⟨[], none⟩ := by decide +kernel
theorem pd_21 : parseMethodDescriptor "(Ljava/lang/Object;)Ljava/lang/StringBuilder;" = some ⟨[(.object "java/lang/Object")], some (.object "java/lang/StringBuilder")⟩ := by decide +kernel
theorem pd_22 : parseMethodDescriptor "()Ljava/lang/String;" = some ⟨[], some (.object "java/lang/String")⟩ := by decide +kernel
theorem pd_23 : parseMethodDescriptor "(Ljava/lang/Object;)Ljava/util/Optional;" = some ⟨[(.object "java/lang/Object")], some (.object "java/util/Optional")⟩ := by decide +kernel
theorem pd_24 : parseMethodDescriptor "(JJ)J" = some ⟨[.long, .long], some .long⟩ := by decide +kernel
theorem pd_25 : parseMethodDescriptor "(J)Z" = some ⟨[.long], some .boolean⟩ := by decide +kernel
theorem pd_26 : parseMethodDescriptor "(J)J" = some ⟨[.long], some .long⟩ := by decide +kernel
theorem pd_27 : parseMethodDescriptor "(Ljava/io/IOException;J)Ljava/util/Optional;" = some ⟨[(.object "java/io/IOException"), .long], some (.object "java/util/Optional")⟩ := by decide +kernel
theorem pn7 : plainFor (⟨"java/lang/AbstractStringBuilder", "<init>", "(I)V"⟩ : MethodName) = true := by first | exact plainFor_of_name (by first | (simp [plainName, overriddenIn]; done) | decide +kernel) | exact Jvm.Free.JP.mathPlain rfl (by decide +kernel) | decide +kernel
theorem d7_0 : decode jdk_68_method_2_code 0 = .ok (.aload_n 0, 1) := by decide +kernel
theorem d7_1 : decode jdk_68_method_2_code 1 = .ok (.invokespecial 3, 3) := by decide +kernel
theorem d7_4 : decode jdk_68_method_2_code 4 = .ok (.getstatic 18, 3) := by decide +kernel
theorem d7_7 : decode jdk_68_method_2_code 7 = .ok (.ifCond .eq 18, 3) := by decide +kernel
theorem d7_10 : decode jdk_68_method_2_code 10 = .ok (.aload_n 0, 1) := by decide +kernel
theorem d7_11 : decode jdk_68_method_2_code 11 = .ok (.iload_n 1, 1) := by decide +kernel
theorem d7_12 : decode jdk_68_method_2_code 12 = .ok (.newarray .byte, 2) := by decide +kernel
theorem d7_14 : decode jdk_68_method_2_code 14 = .ok (.putfield 15, 3) := by decide +kernel
theorem d7_17 : decode jdk_68_method_2_code 17 = .ok (.aload_n 0, 1) := by decide +kernel
theorem d7_18 : decode jdk_68_method_2_code 18 = .ok (.iconst 0, 1) := by decide +kernel
theorem d7_19 : decode jdk_68_method_2_code 19 = .ok (.putfield 22, 3) := by decide +kernel
theorem d7_22 : decode jdk_68_method_2_code 22 = .ok (.goto 16, 3) := by decide +kernel
theorem d7_38 : decode jdk_68_method_2_code 38 = .ok (.return_, 1) := by decide +kernel
abbrev y7 : MethodName := (⟨"java/lang/AbstractStringBuilder", "<init>", "(I)V"⟩ : MethodName)
abbrev R7 : Room := { frames := 1, cells := 1, slots := 16, locals := 12 }
set_option maxRecDepth 65536 in
set_option maxHeartbeats 4000000 in
theorem ef7 (sb : Addr)  (mid : MethodId) : entryFrame mid #[(.ref sb), (.int (16 : Int32))] 2 = mkF mid 0 #[.val (.ref sb), .val (.int (16 : Int32))] [] := by first | (simp [entryFrame, mkF, argsToLocals, Value.category]; done) | rfl
set_option maxRecDepth 65536 in
set_option maxHeartbeats 40000000 in
theorem rm7 (l : Launch) (Z : State) (a0 : Array Value) (hw : ∀ d ∈ tables_1, d.before a0 Z = true) (n0 : Nat) (ws : List Jvm.Cond) (sb : Addr) (cs : Int32) (h0 : Heap) (hn0 : n0 ≤ h0.size) (e0 : Exa Z h0 sb "java/lang/StringBuilder") (e1 : n0 ≤ sb) (e2 : Fld Z h0 sb "java/lang/AbstractStringBuilder" "value" "[B" .null) (e3 : Fld Z h0 sb "java/lang/AbstractStringBuilder" "coder" "B" (.int (0 : Int32))) (e4 : Fld Z h0 sb "java/lang/AbstractStringBuilder" "count" "I" (.int (0 : Int32))) (e5 : Old Z n0 h0) (e6 : Sta Z Z.heap "java/lang/String" "COMPACT_STRINGS" "Z" (.int cs)) (e7 : cs.toInt ≠ 0) :
    Ctr l Z n0 y7 jdk_68_method_2_code 2 (none) ws R7 #[(.ref sb), (.int (16 : Int32))] h0 (QV fun h => ∃ v1 : Addr, (Keep h0 h [sb]) ∧ (n0 ≤ v1) ∧ (h0.size ≤ v1) ∧ (Fld Z h sb "java/lang/AbstractStringBuilder" "value" "[B" (.ref v1)) ∧ (Fld Z h sb "java/lang/AbstractStringBuilder" "coder" "B" (.int (0 : Int32))) ∧ (Fld Z h sb "java/lang/AbstractStringBuilder" "count" "I" (.int (0 : Int32))) ∧ (Ars Z h v1 .byte 16 (fun _ => (.int (0 : Int32)))) ∧ (True)) := by
  refine ctr_of pn7 hn0 (ef7 sb) fun G A0 => ?_
  have A1 := A0.aloadN (v := (.ref sb)) (pc' := 1) d7_0 rfl rfl rfl
  have A2 := A1.initO (pc' := 4) d7_1 (hw _ (List.mem_of_getElem? (i := 45) rfl)) (hw _ (List.mem_of_getElem? (i := 8) rfl)) (hw _ (List.mem_of_getElem? (i := 9) rfl)) rfl (by decide) (Nat.le_of_ble_eq_true rfl) rfl
  have f4 := e6.ext e5.2
  have A3 := A2.getS (pc' := 7) (host := "") d7_4 (Or.inl (hw _ (List.mem_of_getElem? (i := 46) rfl))) Via.refl f4 rfl
  by_cases c5 : cs.toInt = 0
  · exfalso
    omega
  · have A7 := A3.ifNo (pc' := 10) d7_7 (feq (ine (x := cs) (y := (0 : Int32)) rfl rfl c5)).1 rfl
    have A8 := A7.aloadN (v := (.ref sb)) (pc' := 11) d7_10 rfl rfl rfl
    have A9 := A8.iloadN (v := (16 : Int32)) (pc' := 12) d7_11 rfl rfl
    obtain ⟨h10, b11, eb12, g13, E14, X15, XE17, A16⟩ := A9.newP (z := (16 : Int32)) (N := 16) (cap := 16) (C' := 1) (S' := 16) (pc' := 14) d7_12 (hw _ (List.mem_of_getElem? (i := 48) rfl)) rfl (by decide) (by decide) (by decide) (by decide) rfl rfl rfl rfl
    have ne18 : sb ≠ b11 := Nat.ne_of_lt (Nat.lt_of_lt_of_le e0.lt (Nat.le_of_eq eb12.symm))
    change Exa Z h10 b11 "[B" at XE17
    change Ars Z h10 b11 .byte 16 (fun _ => (.int (0 : Int32))) at X15
    have f19 := (e2.ext E14)
    have f20 := (e0.ext E14)
    obtain ⟨h22, w23, A21⟩ := A16.putF (pc' := 17) (ty := (.array .byte)) (host := "") d7_14 (Or.inl (hw _ (List.mem_of_getElem? (i := 49) rfl))) Via.refl f19 f20 (Or.inl (hw _ (List.mem_of_getElem? (i := 50) rfl))) (hw _ (List.mem_of_getElem? (i := 34) rfl)) (by decide) rfl rfl e1 rfl
    have f24 := f19.same w23
    have A25 := A21.aloadN (v := (.ref sb)) (pc' := 18) d7_17 rfl rfl rfl
    have A26 := A25.iconst (z := (0 : Int32)) (pc' := 19) d7_18 rfl rfl
    have f27 := ((e3.ext E14).other w23 (Or.inr (slot_ne (Or.inl (hw _ (List.mem_of_getElem? (i := 52) rfl))) (Or.inl (hw _ (List.mem_of_getElem? (i := 50) rfl))) (by decide) (t := .byte) (t' := (.array .byte)) (by decide) (by decide))))
    have f28 := (f20.wr w23)
    obtain ⟨h30, w31, A29⟩ := A26.putFN (pc' := 22) (ty := .byte) (v' := (.int (0 : Int32))) d7_19 (hw _ (List.mem_of_getElem? (i := 51) rfl)) Via.refl f27 f28 (Or.inl (hw _ (List.mem_of_getElem? (i := 52) rfl))) (hw _ (List.mem_of_getElem? (i := 34) rfl)) (by decide) rfl rfl e1 rfl
    have f32 := f27.same w31
    have A33 := A29.goto (pc' := 38) d7_22 (by decide) (by decide)
    have K34 : Keep h0 h30 [sb] := ((((Keep.refl h0 [sb]).ext E14).wr w23 (Or.inl (List.mem_of_getElem? (i := 0) rfl))).wr w31 (Or.inl (List.mem_of_getElem? (i := 0) rfl)))
    have z35 : h0.size ≤ b11 := Nat.le_trans (Nat.le_refl _) (Nat.le_of_eq eb12.symm)
    have f36 := (f24.other w31 (Or.inr (slot_ne (Or.inl (hw _ (List.mem_of_getElem? (i := 50) rfl))) (Or.inl (hw _ (List.mem_of_getElem? (i := 52) rfl))) (by decide) (t := (.array .byte)) (t' := .byte) (by decide) (by decide))))
    have f37 := (((e4.ext E14).other w23 (Or.inr (slot_ne (Or.inl (hw _ (List.mem_of_getElem? (i := 83) rfl))) (Or.inl (hw _ (List.mem_of_getElem? (i := 50) rfl))) (by decide) (t := .int) (t' := (.array .byte)) (by decide) (by decide)))).other w31 (Or.inr (slot_ne (Or.inl (hw _ (List.mem_of_getElem? (i := 83) rfl))) (Or.inl (hw _ (List.mem_of_getElem? (i := 52) rfl))) (by decide) (t := .int) (t' := .byte) (by decide) (by decide))))
    have f38 := ((X15.other w23 (Ne.symm ne18)).other w31 (Ne.symm ne18))
    refine A33.retV d7_38 (by decide) (by decide) ⟨rfl, ⟨b11, K34, g13, z35, f36, f32, f37, f38, ?_⟩⟩
    trivial
theorem pn6 : plainFor (⟨"java/lang/StringBuilder", "<init>", "()V"⟩ : MethodName) = true := by first | exact plainFor_of_name (by first | (simp [plainName, overriddenIn]; done) | decide +kernel) | exact Jvm.Free.JP.mathPlain rfl (by decide +kernel) | decide +kernel
theorem d6_0 : decode jdk_67_method_1_code 0 = .ok (.aload_n 0, 1) := by decide +kernel
theorem d6_1 : decode jdk_67_method_1_code 1 = .ok (.bipush 16, 2) := by decide +kernel
theorem d6_3 : decode jdk_67_method_1_code 3 = .ok (.invokespecial 1, 3) := by decide +kernel
theorem d6_6 : decode jdk_67_method_1_code 6 = .ok (.return_, 1) := by decide +kernel
abbrev y6 : MethodName := (⟨"java/lang/StringBuilder", "<init>", "()V"⟩ : MethodName)
abbrev R6 : Room := { frames := 2, cells := 1, slots := 16, locals := 25 }
set_option maxRecDepth 65536 in
set_option maxHeartbeats 4000000 in
theorem ef6 (sb : Addr)  (mid : MethodId) : entryFrame mid #[(.ref sb)] 1 = mkF mid 0 #[.val (.ref sb)] [] := by first | (simp [entryFrame, mkF, argsToLocals, Value.category]; done) | rfl
set_option maxRecDepth 65536 in
set_option maxHeartbeats 40000000 in
theorem rm6 (l : Launch) (Z : State) (a0 : Array Value) (hw : ∀ d ∈ tables_1, d.before a0 Z = true) (n0 : Nat) (ws : List Jvm.Cond) (sb : Addr) (cs : Int32) (h0 : Heap) (hn0 : n0 ≤ h0.size) (e0 : Exa Z h0 sb "java/lang/StringBuilder") (e1 : n0 ≤ sb) (e2 : Fld Z h0 sb "java/lang/AbstractStringBuilder" "value" "[B" .null) (e3 : Fld Z h0 sb "java/lang/AbstractStringBuilder" "coder" "B" (.int (0 : Int32))) (e4 : Fld Z h0 sb "java/lang/AbstractStringBuilder" "count" "I" (.int (0 : Int32))) (e5 : Old Z n0 h0) (e6 : Sta Z Z.heap "java/lang/String" "COMPACT_STRINGS" "Z" (.int cs)) (e7 : cs.toInt ≠ 0) :
    Ctr l Z n0 y6 jdk_67_method_1_code 1 (none) ws R6 #[(.ref sb)] h0 (QV fun h => ∃ v1 : Addr, (Keep h0 h [sb]) ∧ (n0 ≤ v1) ∧ (h0.size ≤ v1) ∧ (Fld Z h sb "java/lang/AbstractStringBuilder" "value" "[B" (.ref v1)) ∧ (Fld Z h sb "java/lang/AbstractStringBuilder" "coder" "B" (.int (0 : Int32))) ∧ (Fld Z h sb "java/lang/AbstractStringBuilder" "count" "I" (.int (0 : Int32))) ∧ (Ars Z h v1 .byte 16 (fun _ => (.int (0 : Int32)))) ∧ (True)) := by
  refine ctr_of pn6 hn0 (ef6 sb) fun G A0 => ?_
  have A1 := A0.aloadN (v := (.ref sb)) (pc' := 1) d6_0 rfl rfl rfl
  have A2 := A1.bipush (z := (16 : Int32)) (pc' := 3) d6_1 rfl rfl
  obtain ⟨h6, ⟨b8, K7, g9, z10, f11, f12, f13, f14, q5⟩, A3⟩ := W.kV (A2.callI (a := sb) (argsL := [(.int (16 : Int32))]) (rest := []) (C' := 1) (S' := 16) (pc' := 6) d6_3 rfl (hw _ (List.mem_of_getElem? (i := 39) rfl)) (hw _ (List.mem_of_getElem? (i := 40) rfl)) (hw _ (List.mem_of_getElem? (i := 43) rfl)) (hw _ (List.mem_of_getElem? (i := 44) rfl)) (rm7 l Z a0 hw n0 [] (sb) (_) h0 A2.size e0 e1 e2 e3 e4 e5 e6 (by assumption)) rfl rfl pd_0 rfl rfl (by decide) (by decide) (Nat.le_of_ble_eq_true rfl) (by decide) (by decide) rfl rfl rfl)
  have ne15 : sb ≠ b8 := Nat.ne_of_lt (Nat.lt_of_lt_of_le e0.lt z10)
  have K16 : Keep h0 h6 [sb] := ((Keep.refl h0 [sb]).trans K7 (allS (Or.inl (List.mem_of_getElem? (i := 0) rfl)) all0))
  have z17 : h0.size ≤ b8 := Nat.le_trans (Nat.le_refl _) z10
  refine A3.retV d6_6 (by decide) (by decide) ⟨rfl, ⟨b8, K16, g9, z17, f11, f12, f13, f14, ?_⟩⟩
  trivial
theorem pn11 : plainFor (⟨"java/lang/String", "coder", "()B"⟩ : MethodName) = true := by first | exact plainFor_of_name (by first | (simp [plainName, overriddenIn]; done) | decide +kernel) | exact Jvm.Free.JP.mathPlain rfl (by decide +kernel) | decide +kernel
theorem d11_0 : decode jdk_42_method_152_code 0 = .ok (.getstatic 38, 3) := by decide +kernel
theorem d11_3 : decode jdk_42_method_152_code 3 = .ok (.ifCond .eq 10, 3) := by decide +kernel
theorem d11_6 : decode jdk_42_method_152_code 6 = .ok (.aload_n 0, 1) := by decide +kernel
theorem d11_7 : decode jdk_42_method_152_code 7 = .ok (.getfield 15, 3) := by decide +kernel
theorem d11_10 : decode jdk_42_method_152_code 10 = .ok (.goto 4, 3) := by decide +kernel
theorem d11_14 : decode jdk_42_method_152_code 14 = .ok (.ireturn, 1) := by decide +kernel
abbrev y11 : MethodName := (⟨"java/lang/String", "coder", "()B"⟩ : MethodName)
abbrev R11 : Room := { frames := 0, cells := 0, slots := 0, locals := 0 }
set_option maxRecDepth 65536 in
set_option maxHeartbeats 4000000 in
theorem ef11 (s : Addr)  (mid : MethodId) : entryFrame mid #[(.ref s)] 1 = mkF mid 0 #[.val (.ref s)] [] := by first | (simp [entryFrame, mkF, argsToLocals, Value.category]; done) | rfl
set_option maxRecDepth 65536 in
set_option maxHeartbeats 40000000 in
theorem rm11 (l : Launch) (Z : State) (a0 : Array Value) (hw : ∀ d ∈ tables_1, d.before a0 Z = true) (n0 : Nat) (ws : List Jvm.Cond) (s : Addr) (cs : Int32) (h0 : Heap) (hn0 : n0 ≤ h0.size) (e0 : Fld Z h0 s "java/lang/String" "coder" "B" (.int (0 : Int32))) (e1 : Old Z n0 h0) (e2 : Sta Z Z.heap "java/lang/String" "COMPACT_STRINGS" "Z" (.int cs)) (e3 : cs.toInt ≠ 0) :
    Ctr l Z n0 y11 jdk_42_method_152_code 1 (some .byte) ws R11 #[(.ref s)] h0 (QI fun r h => (h0 = h) ∧ (r = (0 : Int32))) := by
  refine ctr_of pn11 hn0 (ef11 s) fun G A0 => ?_
  have f2 := e2.ext e1.2
  have A1 := A0.getS (pc' := 3) (host := "") d11_0 (Or.inl (hw _ (List.mem_of_getElem? (i := 80) rfl))) Via.refl f2 rfl
  by_cases c3 : cs.toInt = 0
  · exfalso
    omega
  · have A5 := A1.ifNo (pc' := 6) d11_3 (feq (ine (x := cs) (y := (0 : Int32)) rfl rfl c3)).1 rfl
    have A6 := A5.aloadN (v := (.ref s)) (pc' := 7) d11_6 rfl rfl rfl
    have A7 := A6.getF (pc' := 10) (host := "") d11_7 (Or.inl (hw _ (List.mem_of_getElem? (i := 81) rfl))) Via.refl e0 rfl
    have A8 := A7.goto (pc' := 14) d11_10 (by decide) (by decide)
    refine A8.retN (t := .byte) (z' := (0 : Int32)) d11_14 (by decide) (by decide) (by simp) rfl ⟨_, rfl, ⟨rfl, ?_⟩⟩
    have elit : (0 : Int32).toInt = 0 := rfl
    rfl
theorem pn28 : plainFor (⟨"java/lang/AbstractStringBuilder", "length", "()I"⟩ : MethodName) = true := by first | exact plainFor_of_name (by first | (simp [plainName, overriddenIn]; done) | decide +kernel) | exact Jvm.Free.JP.mathPlain rfl (by decide +kernel) | decide +kernel
theorem d28_0 : decode jdk_68_method_6_code 0 = .ok (.aload_n 0, 1) := by decide +kernel
theorem d28_1 : decode jdk_68_method_6_code 1 = .ok (.getfield 79, 3) := by decide +kernel
theorem d28_4 : decode jdk_68_method_6_code 4 = .ok (.ireturn, 1) := by decide +kernel
abbrev y28 : MethodName := (⟨"java/lang/AbstractStringBuilder", "length", "()I"⟩ : MethodName)
abbrev R28 : Room := { frames := 0, cells := 0, slots := 0, locals := 0 }
set_option maxRecDepth 65536 in
set_option maxHeartbeats 4000000 in
theorem ef28 (sb : Addr)  (mid : MethodId) : entryFrame mid #[(.ref sb)] 1 = mkF mid 0 #[.val (.ref sb)] [] := by first | (simp [entryFrame, mkF, argsToLocals, Value.category]; done) | rfl
set_option maxRecDepth 65536 in
set_option maxHeartbeats 40000000 in
theorem rm28 (l : Launch) (Z : State) (a0 : Array Value) (hw : ∀ d ∈ tables_1, d.before a0 Z = true) (n0 : Nat) (ws : List Jvm.Cond) (sb : Addr) (n : Int32) (h0 : Heap) (hn0 : n0 ≤ h0.size) (e0 : Fld Z h0 sb "java/lang/AbstractStringBuilder" "count" "I" (.int n)) :
    Ctr l Z n0 y28 jdk_68_method_6_code 1 (some .int) ws R28 #[(.ref sb)] h0 (QI fun r h => (h0 = h) ∧ (r = n)) := by
  refine ctr_of pn28 hn0 (ef28 sb) fun G A0 => ?_
  have A1 := A0.aloadN (v := (.ref sb)) (pc' := 1) d28_0 rfl rfl rfl
  have A2 := A1.getF (pc' := 4) (host := "") d28_1 (Or.inl (hw _ (List.mem_of_getElem? (i := 82) rfl))) Via.refl e0 rfl
  refine A2.retI d28_4 (by decide) (by decide) ⟨_, rfl, ⟨rfl, ?_⟩⟩
  rfl
theorem pn29 : plainFor (⟨"java/lang/AbstractStringBuilder", "isLatin1", "()Z"⟩ : MethodName) = true := by first | exact plainFor_of_name (by first | (simp [plainName, overriddenIn]; done) | decide +kernel) | exact Jvm.Free.JP.mathPlain rfl (by decide +kernel) | decide +kernel
theorem d29_0 : decode jdk_68_method_68_code 0 = .ok (.getstatic 18, 3) := by decide +kernel
theorem d29_3 : decode jdk_68_method_68_code 3 = .ok (.ifCond .eq 14, 3) := by decide +kernel
theorem d29_6 : decode jdk_68_method_68_code 6 = .ok (.aload_n 0, 1) := by decide +kernel
theorem d29_7 : decode jdk_68_method_68_code 7 = .ok (.getfield 22, 3) := by decide +kernel
theorem d29_10 : decode jdk_68_method_68_code 10 = .ok (.ifCond .ne 7, 3) := by decide +kernel
theorem d29_13 : decode jdk_68_method_68_code 13 = .ok (.iconst 1, 1) := by decide +kernel
theorem d29_14 : decode jdk_68_method_68_code 14 = .ok (.goto 4, 3) := by decide +kernel
theorem d29_18 : decode jdk_68_method_68_code 18 = .ok (.ireturn, 1) := by decide +kernel
abbrev y29 : MethodName := (⟨"java/lang/AbstractStringBuilder", "isLatin1", "()Z"⟩ : MethodName)
abbrev R29 : Room := { frames := 0, cells := 0, slots := 0, locals := 0 }
set_option maxRecDepth 65536 in
set_option maxHeartbeats 4000000 in
theorem ef29 (sb : Addr)  (mid : MethodId) : entryFrame mid #[(.ref sb)] 1 = mkF mid 0 #[.val (.ref sb)] [] := by first | (simp [entryFrame, mkF, argsToLocals, Value.category]; done) | rfl
set_option maxRecDepth 65536 in
set_option maxHeartbeats 40000000 in
theorem rm29 (l : Launch) (Z : State) (a0 : Array Value) (hw : ∀ d ∈ tables_1, d.before a0 Z = true) (n0 : Nat) (ws : List Jvm.Cond) (sb : Addr) (cs : Int32) (h0 : Heap) (hn0 : n0 ≤ h0.size) (e0 : Fld Z h0 sb "java/lang/AbstractStringBuilder" "coder" "B" (.int (0 : Int32))) (e1 : Old Z n0 h0) (e2 : Sta Z Z.heap "java/lang/String" "COMPACT_STRINGS" "Z" (.int cs)) (e3 : cs.toInt ≠ 0) :
    Ctr l Z n0 y29 jdk_68_method_68_code 1 (some .boolean) ws R29 #[(.ref sb)] h0 (QI fun r h => (h0 = h) ∧ (r = (1 : Int32))) := by
  refine ctr_of pn29 hn0 (ef29 sb) fun G A0 => ?_
  have f2 := e2.ext e1.2
  have A1 := A0.getS (pc' := 3) (host := "") d29_0 (Or.inl (hw _ (List.mem_of_getElem? (i := 46) rfl))) Via.refl f2 rfl
  by_cases c3 : cs.toInt = 0
  · exfalso
    omega
  · have A5 := A1.ifNo (pc' := 6) d29_3 (feq (ine (x := cs) (y := (0 : Int32)) rfl rfl c3)).1 rfl
    have A6 := A5.aloadN (v := (.ref sb)) (pc' := 7) d29_6 rfl rfl rfl
    have A7 := A6.getF (pc' := 10) (host := "") d29_7 (Or.inl (hw _ (List.mem_of_getElem? (i := 51) rfl))) Via.refl e0 rfl
    have A9 := A7.ifNo (pc' := 13) d29_10 (teq (ieq (x := (0 : Int32)) (y := (0 : Int32)) rfl rfl (by decide : (0 : Int) = 0))).2 rfl
    have A10 := A9.iconst (z := (1 : Int32)) (pc' := 14) d29_13 rfl rfl
    have A11 := A10.goto (pc' := 18) d29_14 (by decide) (by decide)
    refine A11.retN (t := .boolean) (z' := (1 : Int32)) d29_18 (by decide) (by decide) (by simp) rfl ⟨_, rfl, ⟨rfl, ?_⟩⟩
    have elit : (1 : Int32).toInt = 1 := rfl
    rfl
theorem pn26 : plainFor (⟨"java/lang/AbstractStringBuilder", "getValue", "()[B"⟩ : MethodName) = true := by first | exact plainFor_of_name (by first | (simp [plainName, overriddenIn]; done) | decide +kernel) | exact Jvm.Free.JP.mathPlain rfl (by decide +kernel) | decide +kernel
theorem d26_0 : decode jdk_68_method_64_code 0 = .ok (.aload_n 0, 1) := by decide +kernel
theorem d26_1 : decode jdk_68_method_64_code 1 = .ok (.getfield 15, 3) := by decide +kernel
theorem d26_4 : decode jdk_68_method_64_code 4 = .ok (.areturn, 1) := by decide +kernel
abbrev y26 : MethodName := (⟨"java/lang/AbstractStringBuilder", "getValue", "()[B"⟩ : MethodName)
abbrev R26 : Room := { frames := 0, cells := 0, slots := 0, locals := 0 }
set_option maxRecDepth 65536 in
set_option maxHeartbeats 4000000 in
theorem ef26 (sb : Addr)  (mid : MethodId) : entryFrame mid #[(.ref sb)] 1 = mkF mid 0 #[.val (.ref sb)] [] := by first | (simp [entryFrame, mkF, argsToLocals, Value.category]; done) | rfl
set_option maxRecDepth 65536 in
set_option maxHeartbeats 40000000 in
theorem rm26 (l : Launch) (Z : State) (a0 : Array Value) (hw : ∀ d ∈ tables_1, d.before a0 Z = true) (n0 : Nat) (ws : List Jvm.Cond) (sb : Addr) (v : Addr) (h0 : Heap) (hn0 : n0 ≤ h0.size) (e0 : Fld Z h0 sb "java/lang/AbstractStringBuilder" "value" "[B" (.ref v)) :
    Ctr l Z n0 y26 jdk_68_method_64_code 1 (some (.array .byte)) ws R26 #[(.ref sb)] h0 (QA fun r h => (h0 = h) ∧ (r = v)) := by
  refine ctr_of pn26 hn0 (ef26 sb) fun G A0 => ?_
  have A1 := A0.aloadN (v := (.ref sb)) (pc' := 1) d26_0 rfl rfl rfl
  have A2 := A1.getF (pc' := 4) (host := "") d26_1 (Or.inl (hw _ (List.mem_of_getElem? (i := 49) rfl))) Via.refl e0 rfl
  refine A2.retA d26_4 (by decide) (by decide) rfl rfl rfl ⟨_, rfl, ⟨rfl, ?_⟩⟩
  rfl
theorem pn15 : plainFor (⟨"java/lang/Math", "max", "(II)I"⟩ : MethodName) = true := by first | exact plainFor_of_name (by first | (simp [plainName, overriddenIn]; done) | decide +kernel) | exact Jvm.Free.JP.mathPlain rfl (by decide +kernel) | decide +kernel
theorem d15_0 : decode jdk_29_method_65_code 0 = .ok (.iload_n 0, 1) := by decide +kernel
theorem d15_1 : decode jdk_29_method_65_code 1 = .ok (.iload_n 1, 1) := by decide +kernel
theorem d15_2 : decode jdk_29_method_65_code 2 = .ok (.if_icmp .lt 7, 3) := by decide +kernel
theorem d15_5 : decode jdk_29_method_65_code 5 = .ok (.iload_n 0, 1) := by decide +kernel
theorem d15_6 : decode jdk_29_method_65_code 6 = .ok (.goto 4, 3) := by decide +kernel
theorem d15_10 : decode jdk_29_method_65_code 10 = .ok (.ireturn, 1) := by decide +kernel
abbrev y15_45_18 : MethodName := (⟨"java/lang/Math", "max", "(II)I"⟩ : MethodName)
abbrev R15_45_18 : Room := { frames := 0, cells := 0, slots := 0, locals := 0 }
set_option maxRecDepth 65536 in
set_option maxHeartbeats 4000000 in
theorem ef15_45_18   (mid : MethodId) : entryFrame mid #[(.int (45 : Int32)), (.int (18 : Int32))] 2 = mkF mid 0 #[.val (.int (45 : Int32)), .val (.int (18 : Int32))] [] := by first | (simp [entryFrame, mkF, argsToLocals, Value.category]; done) | rfl
set_option maxRecDepth 65536 in
set_option maxHeartbeats 40000000 in
theorem rm15_45_18 (l : Launch) (Z : State) (a0 : Array Value) (hw : ∀ d ∈ tables_1, d.before a0 Z = true) (n0 : Nat) (ws : List Jvm.Cond)   (h0 : Heap) (hn0 : n0 ≤ h0.size)  :
    Ctr l Z n0 y15_45_18 jdk_29_method_65_code 2 (some .int) ws R15_45_18 #[(.int (45 : Int32)), (.int (18 : Int32))] h0 (QI fun r h => (h0 = h) ∧ (r = (45 : Int32))) := by
  refine ctr_of pn15 hn0 (ef15_45_18 ) fun G A0 => ?_
  have A1 := A0.iloadN (v := (45 : Int32)) (pc' := 1) d15_0 rfl rfl
  have A2 := A1.iloadN (v := (18 : Int32)) (pc' := 2) d15_1 rfl rfl
  have A4 := A2.icmpNo (pc' := 5) d15_2 (flt (inlt (x := (45 : Int32)) (y := (18 : Int32)) rfl rfl (by decide : ¬ ((45 : Int) < 18)))).1 rfl
  have A5 := A4.iloadN (v := (45 : Int32)) (pc' := 6) d15_5 rfl rfl
  have A6 := A5.goto (pc' := 10) d15_6 (by decide) (by decide)
  refine A6.retI d15_10 (by decide) (by decide) ⟨_, rfl, ⟨rfl, ?_⟩⟩
  have elit : (45 : Int32).toInt = 45 := rfl
  rfl
theorem d15_9 : decode jdk_29_method_65_code 9 = .ok (.iload_n 1, 1) := by decide +kernel
abbrev y15_4_63 : MethodName := (⟨"java/lang/Math", "max", "(II)I"⟩ : MethodName)
abbrev R15_4_63 : Room := { frames := 0, cells := 0, slots := 0, locals := 0 }
set_option maxRecDepth 65536 in
set_option maxHeartbeats 4000000 in
theorem ef15_4_63   (mid : MethodId) : entryFrame mid #[(.int (4 : Int32)), (.int (63 : Int32))] 2 = mkF mid 0 #[.val (.int (4 : Int32)), .val (.int (63 : Int32))] [] := by first | (simp [entryFrame, mkF, argsToLocals, Value.category]; done) | rfl
set_option maxRecDepth 65536 in
set_option maxHeartbeats 40000000 in
theorem rm15_4_63 (l : Launch) (Z : State) (a0 : Array Value) (hw : ∀ d ∈ tables_1, d.before a0 Z = true) (n0 : Nat) (ws : List Jvm.Cond)   (h0 : Heap) (hn0 : n0 ≤ h0.size)  :
    Ctr l Z n0 y15_4_63 jdk_29_method_65_code 2 (some .int) ws R15_4_63 #[(.int (4 : Int32)), (.int (63 : Int32))] h0 (QI fun r h => (h0 = h) ∧ (r = (63 : Int32))) := by
  refine ctr_of pn15 hn0 (ef15_4_63 ) fun G A0 => ?_
  have A1 := A0.iloadN (v := (4 : Int32)) (pc' := 1) d15_0 rfl rfl
  have A2 := A1.iloadN (v := (63 : Int32)) (pc' := 2) d15_1 rfl rfl
  have A4 := A2.icmpYes (pc' := 9) d15_2 (tlt (ilt (x := (4 : Int32)) (y := (63 : Int32)) rfl rfl (by decide : (4 : Int) < 63))).1 (by decide) (by decide)
  have A5 := A4.iloadN (v := (63 : Int32)) (pc' := 10) d15_9 rfl rfl
  refine A5.retI d15_10 (by decide) (by decide) ⟨_, rfl, ⟨rfl, ?_⟩⟩
  have elit : (63 : Int32).toInt = 63 := rfl
  rfl
theorem pn17 : plainFor (⟨"java/lang/Math", "min", "(II)I"⟩ : MethodName) = true := by first | exact plainFor_of_name (by first | (simp [plainName, overriddenIn]; done) | decide +kernel) | exact Jvm.Free.JP.mathPlain rfl (by decide +kernel) | decide +kernel
theorem d17_0 : decode jdk_29_method_69_code 0 = .ok (.iload_n 0, 1) := by decide +kernel
theorem d17_1 : decode jdk_29_method_69_code 1 = .ok (.iload_n 1, 1) := by decide +kernel
theorem d17_2 : decode jdk_29_method_69_code 2 = .ok (.if_icmp .gt 7, 3) := by decide +kernel
theorem d17_5 : decode jdk_29_method_69_code 5 = .ok (.iload_n 0, 1) := by decide +kernel
theorem d17_6 : decode jdk_29_method_69_code 6 = .ok (.goto 4, 3) := by decide +kernel
theorem d17_10 : decode jdk_29_method_69_code 10 = .ok (.ireturn, 1) := by decide +kernel
abbrev y17_16_61 : MethodName := (⟨"java/lang/Math", "min", "(II)I"⟩ : MethodName)
abbrev R17_16_61 : Room := { frames := 0, cells := 0, slots := 0, locals := 0 }
set_option maxRecDepth 65536 in
set_option maxHeartbeats 4000000 in
theorem ef17_16_61   (mid : MethodId) : entryFrame mid #[(.int (16 : Int32)), (.int (61 : Int32))] 2 = mkF mid 0 #[.val (.int (16 : Int32)), .val (.int (61 : Int32))] [] := by first | (simp [entryFrame, mkF, argsToLocals, Value.category]; done) | rfl
set_option maxRecDepth 65536 in
set_option maxHeartbeats 40000000 in
theorem rm17_16_61 (l : Launch) (Z : State) (a0 : Array Value) (hw : ∀ d ∈ tables_1, d.before a0 Z = true) (n0 : Nat) (ws : List Jvm.Cond)   (h0 : Heap) (hn0 : n0 ≤ h0.size)  :
    Ctr l Z n0 y17_16_61 jdk_29_method_69_code 2 (some .int) ws R17_16_61 #[(.int (16 : Int32)), (.int (61 : Int32))] h0 (QI fun r h => (h0 = h) ∧ (r = (16 : Int32))) := by
  refine ctr_of pn17 hn0 (ef17_16_61 ) fun G A0 => ?_
  have A1 := A0.iloadN (v := (16 : Int32)) (pc' := 1) d17_0 rfl rfl
  have A2 := A1.iloadN (v := (61 : Int32)) (pc' := 2) d17_1 rfl rfl
  have A4 := A2.icmpNo (pc' := 5) d17_2 (flt (ingt (x := (16 : Int32)) (y := (61 : Int32)) rfl rfl (by decide : ¬ ((61 : Int) < 16)))).2.2.1 rfl
  have A5 := A4.iloadN (v := (16 : Int32)) (pc' := 6) d17_5 rfl rfl
  have A6 := A5.goto (pc' := 10) d17_6 (by decide) (by decide)
  refine A6.retI d17_10 (by decide) (by decide) ⟨_, rfl, ⟨rfl, ?_⟩⟩
  have elit : (16 : Int32).toInt = 16 := rfl
  rfl
abbrev y17_61_124 : MethodName := (⟨"java/lang/Math", "min", "(II)I"⟩ : MethodName)
abbrev R17_61_124 : Room := { frames := 0, cells := 0, slots := 0, locals := 0 }
set_option maxRecDepth 65536 in
set_option maxHeartbeats 4000000 in
theorem ef17_61_124   (mid : MethodId) : entryFrame mid #[(.int (61 : Int32)), (.int (124 : Int32))] 2 = mkF mid 0 #[.val (.int (61 : Int32)), .val (.int (124 : Int32))] [] := by first | (simp [entryFrame, mkF, argsToLocals, Value.category]; done) | rfl
set_option maxRecDepth 65536 in
set_option maxHeartbeats 40000000 in
theorem rm17_61_124 (l : Launch) (Z : State) (a0 : Array Value) (hw : ∀ d ∈ tables_1, d.before a0 Z = true) (n0 : Nat) (ws : List Jvm.Cond)   (h0 : Heap) (hn0 : n0 ≤ h0.size)  :
    Ctr l Z n0 y17_61_124 jdk_29_method_69_code 2 (some .int) ws R17_61_124 #[(.int (61 : Int32)), (.int (124 : Int32))] h0 (QI fun r h => (h0 = h) ∧ (r = (61 : Int32))) := by
  refine ctr_of pn17 hn0 (ef17_61_124 ) fun G A0 => ?_
  have A1 := A0.iloadN (v := (61 : Int32)) (pc' := 1) d17_0 rfl rfl
  have A2 := A1.iloadN (v := (124 : Int32)) (pc' := 2) d17_1 rfl rfl
  have A4 := A2.icmpNo (pc' := 5) d17_2 (flt (ingt (x := (61 : Int32)) (y := (124 : Int32)) rfl rfl (by decide : ¬ ((124 : Int) < 61)))).2.2.1 rfl
  have A5 := A4.iloadN (v := (61 : Int32)) (pc' := 6) d17_5 rfl rfl
  have A6 := A5.goto (pc' := 10) d17_6 (by decide) (by decide)
  refine A6.retI d17_10 (by decide) (by decide) ⟨_, rfl, ⟨rfl, ?_⟩⟩
  have elit : (61 : Int32).toInt = 61 := rfl
  rfl
theorem d17_9 : decode jdk_29_method_69_code 9 = .ok (.iload_n 1, 1) := by decide +kernel
abbrev y17_124_65 : MethodName := (⟨"java/lang/Math", "min", "(II)I"⟩ : MethodName)
abbrev R17_124_65 : Room := { frames := 0, cells := 0, slots := 0, locals := 0 }
set_option maxRecDepth 65536 in
set_option maxHeartbeats 4000000 in
theorem ef17_124_65   (mid : MethodId) : entryFrame mid #[(.int (124 : Int32)), (.int (65 : Int32))] 2 = mkF mid 0 #[.val (.int (124 : Int32)), .val (.int (65 : Int32))] [] := by first | (simp [entryFrame, mkF, argsToLocals, Value.category]; done) | rfl
set_option maxRecDepth 65536 in
set_option maxHeartbeats 40000000 in
theorem rm17_124_65 (l : Launch) (Z : State) (a0 : Array Value) (hw : ∀ d ∈ tables_1, d.before a0 Z = true) (n0 : Nat) (ws : List Jvm.Cond)   (h0 : Heap) (hn0 : n0 ≤ h0.size)  :
    Ctr l Z n0 y17_124_65 jdk_29_method_69_code 2 (some .int) ws R17_124_65 #[(.int (124 : Int32)), (.int (65 : Int32))] h0 (QI fun r h => (h0 = h) ∧ (r = (65 : Int32))) := by
  refine ctr_of pn17 hn0 (ef17_124_65 ) fun G A0 => ?_
  have A1 := A0.iloadN (v := (124 : Int32)) (pc' := 1) d17_0 rfl rfl
  have A2 := A1.iloadN (v := (65 : Int32)) (pc' := 2) d17_1 rfl rfl
  have A4 := A2.icmpYes (pc' := 9) d17_2 (tlt (igt (x := (124 : Int32)) (y := (65 : Int32)) rfl rfl (by decide : (65 : Int) < 124))).2.2.1 (by decide) (by decide)
  have A5 := A4.iloadN (v := (65 : Int32)) (pc' := 10) d17_9 rfl rfl
  refine A5.retI d17_10 (by decide) (by decide) ⟨_, rfl, ⟨rfl, ?_⟩⟩
  have elit : (65 : Int32).toInt = 65 := rfl
  rfl
theorem pn14 : plainFor (⟨"jdk/internal/util/ArraysSupport", "newLength", "(III)I"⟩ : MethodName) = true := by first | exact plainFor_of_name (by first | (simp [plainName, overriddenIn]; done) | decide +kernel) | exact Jvm.Free.JP.mathPlain rfl (by decide +kernel) | decide +kernel
theorem d14_0 : decode jdk_48_method_27_code 0 = .ok (.iload_n 0, 1) := by decide +kernel
theorem d14_1 : decode jdk_48_method_27_code 1 = .ok (.iload_n 1, 1) := by decide +kernel
theorem d14_2 : decode jdk_48_method_27_code 2 = .ok (.iload_n 2, 1) := by decide +kernel
theorem d14_3 : decode jdk_48_method_27_code 3 = .ok (.invokestatic 194, 3) := by decide +kernel
theorem d14_6 : decode jdk_48_method_27_code 6 = .ok (.iadd, 1) := by decide +kernel
theorem d14_7 : decode jdk_48_method_27_code 7 = .ok (.istore_n 3, 1) := by decide +kernel
theorem d14_8 : decode jdk_48_method_27_code 8 = .ok (.iconst 0, 1) := by decide +kernel
theorem d14_9 : decode jdk_48_method_27_code 9 = .ok (.iload_n 3, 1) := by decide +kernel
theorem d14_10 : decode jdk_48_method_27_code 10 = .ok (.if_icmp .ge 11, 3) := by decide +kernel
theorem d14_13 : decode jdk_48_method_27_code 13 = .ok (.iload_n 3, 1) := by decide +kernel
theorem d14_14 : decode jdk_48_method_27_code 14 = .ok (.ldc 200, 2) := by decide +kernel
theorem d14_16 : decode jdk_48_method_27_code 16 = .ok (.if_icmp .gt 5, 3) := by decide +kernel
theorem d14_19 : decode jdk_48_method_27_code 19 = .ok (.iload_n 3, 1) := by decide +kernel
theorem d14_20 : decode jdk_48_method_27_code 20 = .ok (.ireturn, 1) := by decide +kernel
abbrev y14_1 : MethodName := (⟨"jdk/internal/util/ArraysSupport", "newLength", "(III)I"⟩ : MethodName)
abbrev R14_1 : Room := { frames := 1, cells := 0, slots := 0, locals := 14 }
set_option maxRecDepth 65536 in
set_option maxHeartbeats 4000000 in
theorem ef14_1   (mid : MethodId) : entryFrame mid #[(.int (16 : Int32)), (.int (45 : Int32)), (.int (18 : Int32))] 4 = mkF mid 0 #[.val (.int (16 : Int32)), .val (.int (45 : Int32)), .val (.int (18 : Int32)), .unset] [] := by first | (simp [entryFrame, mkF, argsToLocals, Value.category]; done) | rfl
set_option maxRecDepth 65536 in
set_option maxHeartbeats 40000000 in
theorem rm14_1 (l : Launch) (Z : State) (a0 : Array Value) (hw : ∀ d ∈ tables_1, d.before a0 Z = true) (n0 : Nat) (ws : List Jvm.Cond)   (h0 : Heap) (hn0 : n0 ≤ h0.size)  :
    Ctr l Z n0 y14_1 jdk_48_method_27_code 4 (some .int) ws R14_1 #[(.int (16 : Int32)), (.int (45 : Int32)), (.int (18 : Int32))] h0 (QI fun r h => (h0 = h) ∧ (r = (61 : Int32))) := by
  refine ctr_of pn14 hn0 (ef14_1 ) fun G A0 => ?_
  have A1 := A0.iloadN (v := (16 : Int32)) (pc' := 1) d14_0 rfl rfl
  have A2 := A1.iloadN (v := (45 : Int32)) (pc' := 2) d14_1 rfl rfl
  have A3 := A2.iloadN (v := (18 : Int32)) (pc' := 3) d14_2 rfl rfl
  obtain ⟨r5, _, ⟨rfl, q6⟩, A4⟩ := W.kI (A3.callS (argsL := [(.int (45 : Int32)), (.int (18 : Int32))]) (rest := [(.int (16 : Int32))]) (C' := 0) (S' := 0) (pc' := 6) d14_3 (hw _ (List.mem_of_getElem? (i := 98) rfl)) (hw _ (List.mem_of_getElem? (i := 99) rfl)) (hw _ (List.mem_of_getElem? (i := 100) rfl)) (hw _ (List.mem_of_getElem? (i := 101) rfl)) (rm15_45_18 l Z a0 hw n0 []   h0 A3.size ) rfl rfl pd_1 rfl rfl (by decide) (by decide) (Nat.le_of_ble_eq_true rfl) (by decide) (by decide) rfl rfl rfl)
  subst q6
  have A8 := A4.iadd (pc' := 7) d14_6 rfl
  have A9 := A8.topI (z := (61 : Int32)) (by decide)
  have A10 := A9.istoreN (Ls' := #[.val (.int (16 : Int32)), .val (.int (45 : Int32)), .val (.int (18 : Int32)), .val (.int (61 : Int32))]) (pc' := 8) d14_7 rfl rfl
  have A11 := A10.iconst (z := (0 : Int32)) (pc' := 9) d14_8 rfl rfl
  have A12 := A11.iloadN (v := (61 : Int32)) (pc' := 10) d14_9 rfl rfl
  have A14 := A12.icmpNo (pc' := 13) d14_10 (tlt (ilt (x := (0 : Int32)) (y := (61 : Int32)) rfl rfl (by decide : (0 : Int) < 61))).2.1 rfl
  have A15 := A14.iloadN (v := (61 : Int32)) (pc' := 14) d14_13 rfl rfl
  have A16 := A15.ldc (z := (2147483639 : Int32)) (pc' := 16) d14_14 (hw _ (List.mem_of_getElem? (i := 102) rfl)) rfl
  have A18 := A16.icmpNo (pc' := 19) d14_16 (flt (ingt (x := (61 : Int32)) (y := (2147483639 : Int32)) rfl rfl (by decide : ¬ ((2147483639 : Int) < 61)))).2.2.1 rfl
  have A19 := A18.iloadN (v := (61 : Int32)) (pc' := 20) d14_19 rfl rfl
  refine A19.retI d14_20 (by decide) (by decide) ⟨_, rfl, ⟨rfl, ?_⟩⟩
  have elit : (61 : Int32).toInt = 61 := rfl
  rfl
abbrev y14_2 : MethodName := (⟨"jdk/internal/util/ArraysSupport", "newLength", "(III)I"⟩ : MethodName)
abbrev R14_2 : Room := { frames := 1, cells := 0, slots := 0, locals := 14 }
set_option maxRecDepth 65536 in
set_option maxHeartbeats 4000000 in
theorem ef14_2   (mid : MethodId) : entryFrame mid #[(.int (61 : Int32)), (.int (4 : Int32)), (.int (63 : Int32))] 4 = mkF mid 0 #[.val (.int (61 : Int32)), .val (.int (4 : Int32)), .val (.int (63 : Int32)), .unset] [] := by first | (simp [entryFrame, mkF, argsToLocals, Value.category]; done) | rfl
set_option maxRecDepth 65536 in
set_option maxHeartbeats 40000000 in
theorem rm14_2 (l : Launch) (Z : State) (a0 : Array Value) (hw : ∀ d ∈ tables_1, d.before a0 Z = true) (n0 : Nat) (ws : List Jvm.Cond)   (h0 : Heap) (hn0 : n0 ≤ h0.size)  :
    Ctr l Z n0 y14_2 jdk_48_method_27_code 4 (some .int) ws R14_2 #[(.int (61 : Int32)), (.int (4 : Int32)), (.int (63 : Int32))] h0 (QI fun r h => (h0 = h) ∧ (r = (124 : Int32))) := by
  refine ctr_of pn14 hn0 (ef14_2 ) fun G A0 => ?_
  have A1 := A0.iloadN (v := (61 : Int32)) (pc' := 1) d14_0 rfl rfl
  have A2 := A1.iloadN (v := (4 : Int32)) (pc' := 2) d14_1 rfl rfl
  have A3 := A2.iloadN (v := (63 : Int32)) (pc' := 3) d14_2 rfl rfl
  obtain ⟨r5, _, ⟨rfl, q6⟩, A4⟩ := W.kI (A3.callS (argsL := [(.int (4 : Int32)), (.int (63 : Int32))]) (rest := [(.int (61 : Int32))]) (C' := 0) (S' := 0) (pc' := 6) d14_3 (hw _ (List.mem_of_getElem? (i := 98) rfl)) (hw _ (List.mem_of_getElem? (i := 99) rfl)) (hw _ (List.mem_of_getElem? (i := 100) rfl)) (hw _ (List.mem_of_getElem? (i := 101) rfl)) (rm15_4_63 l Z a0 hw n0 []   h0 A3.size ) rfl rfl pd_1 rfl rfl (by decide) (by decide) (Nat.le_of_ble_eq_true rfl) (by decide) (by decide) rfl rfl rfl)
  subst q6
  have A8 := A4.iadd (pc' := 7) d14_6 rfl
  have A9 := A8.topI (z := (124 : Int32)) (by decide)
  have A10 := A9.istoreN (Ls' := #[.val (.int (61 : Int32)), .val (.int (4 : Int32)), .val (.int (63 : Int32)), .val (.int (124 : Int32))]) (pc' := 8) d14_7 rfl rfl
  have A11 := A10.iconst (z := (0 : Int32)) (pc' := 9) d14_8 rfl rfl
  have A12 := A11.iloadN (v := (124 : Int32)) (pc' := 10) d14_9 rfl rfl
  have A14 := A12.icmpNo (pc' := 13) d14_10 (tlt (ilt (x := (0 : Int32)) (y := (124 : Int32)) rfl rfl (by decide : (0 : Int) < 124))).2.1 rfl
  have A15 := A14.iloadN (v := (124 : Int32)) (pc' := 14) d14_13 rfl rfl
  have A16 := A15.ldc (z := (2147483639 : Int32)) (pc' := 16) d14_14 (hw _ (List.mem_of_getElem? (i := 102) rfl)) rfl
  have A18 := A16.icmpNo (pc' := 19) d14_16 (flt (ingt (x := (124 : Int32)) (y := (2147483639 : Int32)) rfl rfl (by decide : ¬ ((2147483639 : Int) < 124)))).2.2.1 rfl
  have A19 := A18.iloadN (v := (124 : Int32)) (pc' := 20) d14_19 rfl rfl
  refine A19.retI d14_20 (by decide) (by decide) ⟨_, rfl, ⟨rfl, ?_⟩⟩
  have elit : (124 : Int32).toInt = 124 := rfl
  rfl
theorem pn10 : plainFor (⟨"java/lang/String", "length", "()I"⟩ : MethodName) = true := by first | exact plainFor_of_name (by first | (simp [plainName, overriddenIn]; done) | decide +kernel) | exact Jvm.Free.JP.mathPlain rfl (by decide +kernel) | decide +kernel
theorem d10_0 : decode jdk_42_method_54_code 0 = .ok (.aload_n 0, 1) := by decide +kernel
theorem d10_1 : decode jdk_42_method_54_code 1 = .ok (.getfield 9, 3) := by decide +kernel
theorem d10_4 : decode jdk_42_method_54_code 4 = .ok (.arraylength, 1) := by decide +kernel
theorem d10_5 : decode jdk_42_method_54_code 5 = .ok (.aload_n 0, 1) := by decide +kernel
theorem d10_6 : decode jdk_42_method_54_code 6 = .ok (.invokevirtual 335, 3) := by decide +kernel
theorem d10_9 : decode jdk_42_method_54_code 9 = .ok (.ishr, 1) := by decide +kernel
theorem d10_10 : decode jdk_42_method_54_code 10 = .ok (.ireturn, 1) := by decide +kernel
abbrev y10_1 : MethodName := (⟨"java/lang/String", "length", "()I"⟩ : MethodName)
abbrev R10_1 : Room := { frames := 1, cells := 0, slots := 0, locals := 13 }
set_option maxRecDepth 65536 in
set_option maxHeartbeats 4000000 in
theorem ef10_1 (s : Addr)  (mid : MethodId) : entryFrame mid #[(.ref s)] 1 = mkF mid 0 #[.val (.ref s)] [] := by first | (simp [entryFrame, mkF, argsToLocals, Value.category]; done) | rfl
set_option maxRecDepth 65536 in
set_option maxHeartbeats 40000000 in
theorem rm10_1 (l : Launch) (Z : State) (a0 : Array Value) (hw : ∀ d ∈ tables_1, d.before a0 Z = true) (n0 : Nat) (ws : List Jvm.Cond) (s : Addr) (b : Addr) (k : Nat → Value) (cs : Int32) (h0 : Heap) (hn0 : n0 ≤ h0.size) (e0 : Exa Z h0 s "java/lang/String") (e1 : Fld Z h0 s "java/lang/String" "value" "[B" (.ref b)) (e2 : Fld Z h0 s "java/lang/String" "coder" "B" (.int (0 : Int32))) (e3 : Ars Z h0 b .byte 61 k) (e4 : Old Z n0 h0) (e5 : Sta Z Z.heap "java/lang/String" "COMPACT_STRINGS" "Z" (.int cs)) (e6 : cs.toInt ≠ 0) :
    Ctr l Z n0 y10_1 jdk_42_method_54_code 1 (some .int) ws R10_1 #[(.ref s)] h0 (QI fun r h => (h0 = h) ∧ (r = (61 : Int32))) := by
  refine ctr_of pn10 hn0 (ef10_1 s) fun G A0 => ?_
  have A1 := A0.aloadN (v := (.ref s)) (pc' := 1) d10_0 rfl rfl rfl
  have A2 := A1.getF (pc' := 4) (host := "") d10_1 (Or.inl (hw _ (List.mem_of_getElem? (i := 74) rfl))) Via.refl e1 rfl
  have A3 := A2.alen (z := (61 : Int32)) (pc' := 5) d10_4 e3 rfl rfl
  have A4 := A3.aloadN (v := (.ref s)) (pc' := 6) d10_5 rfl rfl rfl
  obtain ⟨r6, _, ⟨rfl, q7⟩, A5⟩ := W.kI (A4.callV (a := s) (argsL := []) (rest := [(.int (61 : Int32))]) (C' := 0) (S' := 0) (pc' := 9) d10_6 e0 (hw _ (List.mem_of_getElem? (i := 75) rfl)) (hw _ (List.mem_of_getElem? (i := 76) rfl)) (fun hZ => notFace_of_selects (args := #[]) (mvT hZ (hw _ (List.mem_of_getElem? (i := 78) rfl)))) (hw _ (List.mem_of_getElem? (i := 78) rfl)) (hw _ (List.mem_of_getElem? (i := 77) rfl)) (hw _ (List.mem_of_getElem? (i := 47) rfl)) (hw _ (List.mem_of_getElem? (i := 79) rfl)) (rm11 l Z a0 hw n0 [] (s) (_) h0 A4.size e2 e4 e5 (by assumption)) rfl rfl pd_2 rfl rfl (by decide) (by decide) (Nat.le_of_ble_eq_true rfl) (by decide) (by decide) rfl rfl rfl)
  subst q7
  have A9 := A5.ishr (pc' := 10) d10_9 rfl
  have A10 := A9.topI (z := (61 : Int32)) (by decide)
  refine A10.retI d10_10 (by decide) (by decide) ⟨_, rfl, ⟨rfl, ?_⟩⟩
  have elit : (61 : Int32).toInt = 61 := rfl
  rfl
theorem pn13 : plainFor (⟨"java/lang/AbstractStringBuilder", "newCapacity", "(I)I"⟩ : MethodName) = true := by first | exact plainFor_of_name (by first | (simp [plainName, overriddenIn]; done) | decide +kernel) | exact Jvm.Free.JP.mathPlain rfl (by decide +kernel) | decide +kernel
theorem d13_0 : decode jdk_68_method_10_code 0 = .ok (.aload_n 0, 1) := by decide +kernel
theorem d13_1 : decode jdk_68_method_10_code 1 = .ok (.getfield 15, 3) := by decide +kernel
theorem d13_4 : decode jdk_68_method_10_code 4 = .ok (.arraylength, 1) := by decide +kernel
theorem d13_5 : decode jdk_68_method_10_code 5 = .ok (.istore_n 2, 1) := by decide +kernel
theorem d13_6 : decode jdk_68_method_10_code 6 = .ok (.iload_n 1, 1) := by decide +kernel
theorem d13_7 : decode jdk_68_method_10_code 7 = .ok (.aload_n 0, 1) := by decide +kernel
theorem d13_8 : decode jdk_68_method_10_code 8 = .ok (.getfield 22, 3) := by decide +kernel
theorem d13_11 : decode jdk_68_method_10_code 11 = .ok (.ishl, 1) := by decide +kernel
theorem d13_12 : decode jdk_68_method_10_code 12 = .ok (.istore_n 3, 1) := by decide +kernel
theorem d13_13 : decode jdk_68_method_10_code 13 = .ok (.iload_n 3, 1) := by decide +kernel
theorem d13_14 : decode jdk_68_method_10_code 14 = .ok (.iload_n 2, 1) := by decide +kernel
theorem d13_15 : decode jdk_68_method_10_code 15 = .ok (.isub, 1) := by decide +kernel
theorem d13_16 : decode jdk_68_method_10_code 16 = .ok (.istore 4, 2) := by decide +kernel
theorem d13_18 : decode jdk_68_method_10_code 18 = .ok (.iload_n 2, 1) := by decide +kernel
theorem d13_19 : decode jdk_68_method_10_code 19 = .ok (.iload 4, 2) := by decide +kernel
theorem d13_21 : decode jdk_68_method_10_code 21 = .ok (.iload_n 2, 1) := by decide +kernel
theorem d13_22 : decode jdk_68_method_10_code 22 = .ok (.iconst 2, 1) := by decide +kernel
theorem d13_23 : decode jdk_68_method_10_code 23 = .ok (.aload_n 0, 1) := by decide +kernel
theorem d13_24 : decode jdk_68_method_10_code 24 = .ok (.getfield 22, 3) := by decide +kernel
theorem d13_27 : decode jdk_68_method_10_code 27 = .ok (.ishl, 1) := by decide +kernel
theorem d13_28 : decode jdk_68_method_10_code 28 = .ok (.iadd, 1) := by decide +kernel
theorem d13_29 : decode jdk_68_method_10_code 29 = .ok (.invokestatic 114, 3) := by decide +kernel
theorem d13_32 : decode jdk_68_method_10_code 32 = .ok (.istore 5, 2) := by decide +kernel
theorem d13_34 : decode jdk_68_method_10_code 34 = .ok (.iload 5, 2) := by decide +kernel
theorem d13_36 : decode jdk_68_method_10_code 36 = .ok (.ldc 39, 2) := by decide +kernel
theorem d13_38 : decode jdk_68_method_10_code 38 = .ok (.if_icmp .ne 13, 3) := by decide +kernel
theorem d13_51 : decode jdk_68_method_10_code 51 = .ok (.iload 5, 2) := by decide +kernel
theorem d13_53 : decode jdk_68_method_10_code 53 = .ok (.aload_n 0, 1) := by decide +kernel
theorem d13_54 : decode jdk_68_method_10_code 54 = .ok (.getfield 22, 3) := by decide +kernel
theorem d13_57 : decode jdk_68_method_10_code 57 = .ok (.ishr, 1) := by decide +kernel
theorem d13_58 : decode jdk_68_method_10_code 58 = .ok (.ireturn, 1) := by decide +kernel
abbrev y13_1 : MethodName := (⟨"java/lang/AbstractStringBuilder", "newCapacity", "(I)I"⟩ : MethodName)
abbrev R13_1 : Room := { frames := 2, cells := 0, slots := 0, locals := 29 }
set_option maxRecDepth 65536 in
set_option maxHeartbeats 4000000 in
theorem ef13_1 (sb : Addr)  (mid : MethodId) : entryFrame mid #[(.ref sb), (.int (61 : Int32))] 6 = mkF mid 0 #[.val (.ref sb), .val (.int (61 : Int32)), .unset, .unset, .unset, .unset] [] := by first | (simp [entryFrame, mkF, argsToLocals, Value.category]; done) | rfl
set_option maxRecDepth 65536 in
set_option maxHeartbeats 40000000 in
theorem rm13_1 (l : Launch) (Z : State) (a0 : Array Value) (hw : ∀ d ∈ tables_1, d.before a0 Z = true) (n0 : Nat) (ws : List Jvm.Cond) (sb : Addr) (v : Addr) (f : Nat → Value) (h0 : Heap) (hn0 : n0 ≤ h0.size) (e0 : Exa Z h0 sb "java/lang/StringBuilder") (e1 : Fld Z h0 sb "java/lang/AbstractStringBuilder" "value" "[B" (.ref v)) (e2 : Fld Z h0 sb "java/lang/AbstractStringBuilder" "coder" "B" (.int (0 : Int32))) (e3 : Ars Z h0 v .byte 16 f) :
    Ctr l Z n0 y13_1 jdk_68_method_10_code 6 (some .int) ws R13_1 #[(.ref sb), (.int (61 : Int32))] h0 (QI fun r h => (h0 = h) ∧ (r = (61 : Int32))) := by
  refine ctr_of pn13 hn0 (ef13_1 sb) fun G A0 => ?_
  have A1 := A0.aloadN (v := (.ref sb)) (pc' := 1) d13_0 rfl rfl rfl
  have A2 := A1.getF (pc' := 4) (host := "") d13_1 (Or.inl (hw _ (List.mem_of_getElem? (i := 49) rfl))) Via.refl e1 rfl
  have A3 := A2.alen (z := (16 : Int32)) (pc' := 5) d13_4 e3 rfl rfl
  have A4 := A3.istoreN (Ls' := #[.val (.ref sb), .val (.int (61 : Int32)), .val (.int (16 : Int32)), .unset, .unset, .unset]) (pc' := 6) d13_5 rfl rfl
  have A5 := A4.iloadN (v := (61 : Int32)) (pc' := 7) d13_6 rfl rfl
  have A6 := A5.aloadN (v := (.ref sb)) (pc' := 8) d13_7 rfl rfl rfl
  have A7 := A6.getF (pc' := 11) (host := "") d13_8 (Or.inl (hw _ (List.mem_of_getElem? (i := 51) rfl))) Via.refl e2 rfl
  have A8 := A7.ishl (pc' := 12) d13_11 rfl
  have A9 := A8.topI (z := (61 : Int32)) (by decide)
  have A10 := A9.istoreN (Ls' := #[.val (.ref sb), .val (.int (61 : Int32)), .val (.int (16 : Int32)), .val (.int (61 : Int32)), .unset, .unset]) (pc' := 13) d13_12 rfl rfl
  have A11 := A10.iloadN (v := (61 : Int32)) (pc' := 14) d13_13 rfl rfl
  have A12 := A11.iloadN (v := (16 : Int32)) (pc' := 15) d13_14 rfl rfl
  have A13 := A12.isub (pc' := 16) d13_15 rfl
  have A14 := A13.topI (z := (45 : Int32)) (by decide)
  have A15 := A14.istore (Ls' := #[.val (.ref sb), .val (.int (61 : Int32)), .val (.int (16 : Int32)), .val (.int (61 : Int32)), .val (.int (45 : Int32)), .unset]) (pc' := 18) d13_16 rfl rfl
  have A16 := A15.iloadN (v := (16 : Int32)) (pc' := 19) d13_18 rfl rfl
  have A17 := A16.iload (v := (45 : Int32)) (pc' := 21) d13_19 rfl rfl
  have A18 := A17.iloadN (v := (16 : Int32)) (pc' := 22) d13_21 rfl rfl
  have A19 := A18.iconst (z := (2 : Int32)) (pc' := 23) d13_22 rfl rfl
  have A20 := A19.aloadN (v := (.ref sb)) (pc' := 24) d13_23 rfl rfl rfl
  have A21 := A20.getF (pc' := 27) (host := "") d13_24 (Or.inl (hw _ (List.mem_of_getElem? (i := 51) rfl))) Via.refl e2 rfl
  have A22 := A21.ishl (pc' := 28) d13_27 rfl
  have A23 := A22.topI (z := (2 : Int32)) (by decide)
  have A24 := A23.iadd (pc' := 29) d13_28 rfl
  have A25 := A24.topI (z := (18 : Int32)) (by decide)
  obtain ⟨r27, _, ⟨rfl, q28⟩, A26⟩ := W.kI (A25.callS (argsL := [(.int (16 : Int32)), (.int (45 : Int32)), (.int (18 : Int32))]) (rest := []) (C' := 0) (S' := 0) (pc' := 32) d13_29 (hw _ (List.mem_of_getElem? (i := 94) rfl)) (hw _ (List.mem_of_getElem? (i := 95) rfl)) (hw _ (List.mem_of_getElem? (i := 96) rfl)) (hw _ (List.mem_of_getElem? (i := 97) rfl)) (rm14_1 l Z a0 hw n0 []   h0 A25.size ) rfl rfl pd_3 rfl rfl (by decide) (by decide) (Nat.le_of_ble_eq_true rfl) (by decide) (by decide) rfl rfl rfl)
  subst q28
  have A30 := A26.istore (Ls' := #[.val (.ref sb), .val (.int (61 : Int32)), .val (.int (16 : Int32)), .val (.int (61 : Int32)), .val (.int (45 : Int32)), .val (.int (61 : Int32))]) (pc' := 34) d13_32 rfl rfl
  have A31 := A30.iload (v := (61 : Int32)) (pc' := 36) d13_34 rfl rfl
  have A32 := A31.ldc (z := (2147483647 : Int32)) (pc' := 38) d13_36 (hw _ (List.mem_of_getElem? (i := 103) rfl)) rfl
  have A34 := A32.icmpYes (pc' := 51) d13_38 (feq (ine (x := (61 : Int32)) (y := (2147483647 : Int32)) rfl rfl (by decide : ¬ ((61 : Int) = 2147483647)))).2 (by decide) (by decide)
  have A35 := A34.iload (v := (61 : Int32)) (pc' := 53) d13_51 rfl rfl
  have A36 := A35.aloadN (v := (.ref sb)) (pc' := 54) d13_53 rfl rfl rfl
  have A37 := A36.getF (pc' := 57) (host := "") d13_54 (Or.inl (hw _ (List.mem_of_getElem? (i := 51) rfl))) Via.refl e2 rfl
  have A38 := A37.ishr (pc' := 58) d13_57 rfl
  have A39 := A38.topI (z := (61 : Int32)) (by decide)
  refine A39.retI d13_58 (by decide) (by decide) ⟨_, rfl, ⟨rfl, ?_⟩⟩
  have elit : (61 : Int32).toInt = 61 := rfl
  rfl
theorem pn16 : plainFor (⟨"java/util/Arrays", "copyOf", "([BI)[B"⟩ : MethodName) = true := by first | exact plainFor_of_name (by first | (simp [plainName, overriddenIn]; done) | decide +kernel) | exact Jvm.Free.JP.mathPlain rfl (by decide +kernel) | decide +kernel
theorem d16_0 : decode jdk_65_method_121_code 0 = .ok (.iload_n 1, 1) := by decide +kernel
theorem d16_1 : decode jdk_65_method_121_code 1 = .ok (.aload_n 0, 1) := by decide +kernel
theorem d16_2 : decode jdk_65_method_121_code 2 = .ok (.arraylength, 1) := by decide +kernel
theorem d16_3 : decode jdk_65_method_121_code 3 = .ok (.if_icmp .ne 11, 3) := by decide +kernel
theorem d16_14 : decode jdk_65_method_121_code 14 = .ok (.iload_n 1, 1) := by decide +kernel
theorem d16_15 : decode jdk_65_method_121_code 15 = .ok (.newarray .byte, 2) := by decide +kernel
theorem d16_17 : decode jdk_65_method_121_code 17 = .ok (.astore_n 2, 1) := by decide +kernel
theorem d16_18 : decode jdk_65_method_121_code 18 = .ok (.aload_n 0, 1) := by decide +kernel
theorem d16_19 : decode jdk_65_method_121_code 19 = .ok (.iconst 0, 1) := by decide +kernel
theorem d16_20 : decode jdk_65_method_121_code 20 = .ok (.aload_n 2, 1) := by decide +kernel
theorem d16_21 : decode jdk_65_method_121_code 21 = .ok (.iconst 0, 1) := by decide +kernel
theorem d16_22 : decode jdk_65_method_121_code 22 = .ok (.aload_n 0, 1) := by decide +kernel
theorem d16_23 : decode jdk_65_method_121_code 23 = .ok (.arraylength, 1) := by decide +kernel
theorem d16_24 : decode jdk_65_method_121_code 24 = .ok (.iload_n 1, 1) := by decide +kernel
theorem d16_25 : decode jdk_65_method_121_code 25 = .ok (.invokestatic 304, 3) := by decide +kernel
theorem d16_28 : decode jdk_65_method_121_code 28 = .ok (.invokestatic 150, 3) := by decide +kernel
theorem d16_31 : decode jdk_65_method_121_code 31 = .ok (.aload_n 2, 1) := by decide +kernel
theorem d16_32 : decode jdk_65_method_121_code 32 = .ok (.areturn, 1) := by decide +kernel
abbrev y16_1 : MethodName := (⟨"java/util/Arrays", "copyOf", "([BI)[B"⟩ : MethodName)
abbrev R16_1 : Room := { frames := 1, cells := 1, slots := 61, locals := 18 }
set_option maxRecDepth 65536 in
set_option maxHeartbeats 4000000 in
theorem ef16_1 (v : Addr)  (mid : MethodId) : entryFrame mid #[(.ref v), (.int (61 : Int32))] 3 = mkF mid 0 #[.val (.ref v), .val (.int (61 : Int32)), .unset] [] := by first | (simp [entryFrame, mkF, argsToLocals, Value.category]; done) | rfl
set_option maxRecDepth 65536 in
set_option maxHeartbeats 40000000 in
theorem rm16_1 (l : Launch) (Z : State) (a0 : Array Value) (hw : ∀ d ∈ tables_1, d.before a0 Z = true) (n0 : Nat) (ws : List Jvm.Cond) (v : Addr) (f : Nat → Value) (h0 : Heap) (hn0 : n0 ≤ h0.size) (e0 : Ars Z h0 v .byte 16 f) :
    Ctr l Z n0 y16_1 jdk_65_method_121_code 3 (some (.array .byte)) ws R16_1 #[(.ref v), (.int (61 : Int32))] h0 (QA fun r h => ∃ g : Nat → Value, (Keep h0 h []) ∧ (n0 ≤ r) ∧ (h0.size ≤ r) ∧ (Ars Z h r .byte 61 g) ∧ (True)) := by
  refine ctr_of pn16 hn0 (ef16_1 v) fun G A0 => ?_
  have A1 := A0.iloadN (v := (61 : Int32)) (pc' := 1) d16_0 rfl rfl
  have A2 := A1.aloadN (v := (.ref v)) (pc' := 2) d16_1 rfl rfl rfl
  have A3 := A2.alen (z := (16 : Int32)) (pc' := 3) d16_2 e0 rfl rfl
  have A5 := A3.icmpYes (pc' := 14) d16_3 (feq (ine (x := (61 : Int32)) (y := (16 : Int32)) rfl rfl (by decide : ¬ ((61 : Int) = 16)))).2 (by decide) (by decide)
  have A6 := A5.iloadN (v := (61 : Int32)) (pc' := 15) d16_14 rfl rfl
  obtain ⟨h7, b8, eb9, g10, E11, X12, XE14, A13⟩ := A6.newP (z := (61 : Int32)) (N := 61) (cap := 61) (C' := 1) (S' := 61) (pc' := 17) d16_15 (hw _ (List.mem_of_getElem? (i := 48) rfl)) rfl (by decide) (by decide) (by decide) (by decide) rfl rfl rfl rfl
  have ne15 : v ≠ b8 := Nat.ne_of_lt (Nat.lt_of_lt_of_le e0.lt (Nat.le_of_eq eb9.symm))
  change Exa Z h7 b8 "[B" at XE14
  change Ars Z h7 b8 .byte 61 (fun _ => (.int (0 : Int32))) at X12
  have A16 := A13.astoreN (Ls' := #[.val (.ref v), .val (.int (61 : Int32)), .val (.ref b8)]) (pc' := 18) d16_17 rfl rfl rfl
  have A17 := A16.aloadN (v := (.ref v)) (pc' := 19) d16_18 rfl rfl rfl
  have A18 := A17.iconst (z := (0 : Int32)) (pc' := 20) d16_19 rfl rfl
  have A19 := A18.aloadN (v := (.ref b8)) (pc' := 21) d16_20 rfl rfl rfl
  have A20 := A19.iconst (z := (0 : Int32)) (pc' := 22) d16_21 rfl rfl
  have A21 := A20.aloadN (v := (.ref v)) (pc' := 23) d16_22 rfl rfl rfl
  have f22 := (e0.ext E11)
  have A23 := A21.alen (z := (16 : Int32)) (pc' := 24) d16_23 f22 rfl rfl
  have A24 := A23.iloadN (v := (61 : Int32)) (pc' := 25) d16_24 rfl rfl
  obtain ⟨r26, _, ⟨rfl, q27⟩, A25⟩ := W.kI (A24.callS (argsL := [(.int (16 : Int32)), (.int (61 : Int32))]) (rest := [(.int (0 : Int32)), (.ref b8), (.int (0 : Int32)), (.ref v)]) (C' := 1) (S' := 61) (pc' := 28) d16_25 (hw _ (List.mem_of_getElem? (i := 108) rfl)) (hw _ (List.mem_of_getElem? (i := 109) rfl)) (hw _ (List.mem_of_getElem? (i := 100) rfl)) (hw _ (List.mem_of_getElem? (i := 110) rfl)) (rm17_16_61 l Z a0 hw n0 []   h7 A24.size ) rfl rfl pd_1 rfl rfl (by decide) (by decide) (Nat.le_of_ble_eq_true rfl) (by decide) (by decide) rfl rfl rfl)
  subst q27
  obtain ⟨h29, K30, X31, A32⟩ := A25.acopy (i := 0) (j := 0) (k := 16) (pc' := 31) d16_28 (hw _ (List.mem_of_getElem? (i := 111) rfl)) (hw _ (List.mem_of_getElem? (i := 114) rfl)) (hw _ (List.mem_of_getElem? (i := 112) rfl)) (hw _ (List.mem_of_getElem? (i := 113) rfl)) f22 X12 rfl rfl rfl rfl (by decide) (by decide) g10 rfl (by decide) (Nat.le_of_ble_eq_true rfl) rfl
  have A33 := A32.aloadN (v := (.ref b8)) (pc' := 32) d16_31 rfl rfl rfl
  have z34 : h0.size ≤ b8 := Nat.le_trans (Nat.le_refl _) (Nat.le_of_eq eb9.symm)
  have K35 : Keep h0 h29 [] := (((Keep.refl h0 []).ext E11).trans K30 (allS (Or.inr z34) all0))
  refine A33.retA d16_32 (by decide) (by decide) rfl rfl rfl ⟨_, rfl, ⟨(cpy f 0 (fun _ => (.int (0 : Int32))) 0 16), K35, g10, z34, X31, ?_⟩⟩
  trivial
theorem pn12 : plainFor (⟨"java/lang/AbstractStringBuilder", "ensureCapacityInternal", "(I)V"⟩ : MethodName) = true := by first | exact plainFor_of_name (by first | (simp [plainName, overriddenIn]; done) | decide +kernel) | exact Jvm.Free.JP.mathPlain rfl (by decide +kernel) | decide +kernel
theorem d12_0 : decode jdk_68_method_9_code 0 = .ok (.aload_n 0, 1) := by decide +kernel
theorem d12_1 : decode jdk_68_method_9_code 1 = .ok (.getfield 15, 3) := by decide +kernel
theorem d12_4 : decode jdk_68_method_9_code 4 = .ok (.arraylength, 1) := by decide +kernel
theorem d12_5 : decode jdk_68_method_9_code 5 = .ok (.aload_n 0, 1) := by decide +kernel
theorem d12_6 : decode jdk_68_method_9_code 6 = .ok (.getfield 22, 3) := by decide +kernel
theorem d12_9 : decode jdk_68_method_9_code 9 = .ok (.ishr, 1) := by decide +kernel
theorem d12_10 : decode jdk_68_method_9_code 10 = .ok (.istore_n 2, 1) := by decide +kernel
theorem d12_11 : decode jdk_68_method_9_code 11 = .ok (.iload_n 1, 1) := by decide +kernel
theorem d12_12 : decode jdk_68_method_9_code 12 = .ok (.iload_n 2, 1) := by decide +kernel
theorem d12_13 : decode jdk_68_method_9_code 13 = .ok (.isub, 1) := by decide +kernel
theorem d12_14 : decode jdk_68_method_9_code 14 = .ok (.ifCond .le 24, 3) := by decide +kernel
theorem d12_17 : decode jdk_68_method_9_code 17 = .ok (.aload_n 0, 1) := by decide +kernel
theorem d12_18 : decode jdk_68_method_9_code 18 = .ok (.aload_n 0, 1) := by decide +kernel
theorem d12_19 : decode jdk_68_method_9_code 19 = .ok (.getfield 15, 3) := by decide +kernel
theorem d12_22 : decode jdk_68_method_9_code 22 = .ok (.aload_n 0, 1) := by decide +kernel
theorem d12_23 : decode jdk_68_method_9_code 23 = .ok (.iload_n 1, 1) := by decide +kernel
theorem d12_24 : decode jdk_68_method_9_code 24 = .ok (.invokevirtual 104, 3) := by decide +kernel
theorem d12_27 : decode jdk_68_method_9_code 27 = .ok (.aload_n 0, 1) := by decide +kernel
theorem d12_28 : decode jdk_68_method_9_code 28 = .ok (.getfield 22, 3) := by decide +kernel
theorem d12_31 : decode jdk_68_method_9_code 31 = .ok (.ishl, 1) := by decide +kernel
theorem d12_32 : decode jdk_68_method_9_code 32 = .ok (.invokestatic 108, 3) := by decide +kernel
theorem d12_35 : decode jdk_68_method_9_code 35 = .ok (.putfield 15, 3) := by decide +kernel
theorem d12_38 : decode jdk_68_method_9_code 38 = .ok (.return_, 1) := by decide +kernel
abbrev y12_1 : MethodName := (⟨"java/lang/AbstractStringBuilder", "ensureCapacityInternal", "(I)V"⟩ : MethodName)
abbrev R12_1 : Room := { frames := 3, cells := 1, slots := 61, locals := 48 }
set_option maxRecDepth 65536 in
set_option maxHeartbeats 4000000 in
theorem ef12_1 (sb : Addr)  (mid : MethodId) : entryFrame mid #[(.ref sb), (.int (61 : Int32))] 3 = mkF mid 0 #[.val (.ref sb), .val (.int (61 : Int32)), .unset] [] := by first | (simp [entryFrame, mkF, argsToLocals, Value.category]; done) | rfl
set_option maxRecDepth 65536 in
set_option maxHeartbeats 40000000 in
theorem rm12_1 (l : Launch) (Z : State) (a0 : Array Value) (hw : ∀ d ∈ tables_1, d.before a0 Z = true) (n0 : Nat) (ws : List Jvm.Cond) (sb : Addr) (v : Addr) (f : Nat → Value) (h0 : Heap) (hn0 : n0 ≤ h0.size) (e0 : Exa Z h0 sb "java/lang/StringBuilder") (e1 : Fld Z h0 sb "java/lang/AbstractStringBuilder" "value" "[B" (.ref v)) (e2 : Fld Z h0 sb "java/lang/AbstractStringBuilder" "coder" "B" (.int (0 : Int32))) (e3 : Ars Z h0 v .byte 16 f) (e4 : Fld Z h0 sb "java/lang/AbstractStringBuilder" "count" "I" (.int (0 : Int32))) (e5 : n0 ≤ sb) (e6 : sb ≠ v) :
    Ctr l Z n0 y12_1 jdk_68_method_9_code 3 (none) ws R12_1 #[(.ref sb), (.int (61 : Int32))] h0 (QV fun h => ∃ v2 : Addr, ∃ g : Nat → Value, (Keep h0 h [sb]) ∧ (n0 ≤ v2) ∧ (h0.size ≤ v2) ∧ (Fld Z h sb "java/lang/AbstractStringBuilder" "value" "[B" (.ref v2)) ∧ (Fld Z h sb "java/lang/AbstractStringBuilder" "coder" "B" (.int (0 : Int32))) ∧ (Fld Z h sb "java/lang/AbstractStringBuilder" "count" "I" (.int (0 : Int32))) ∧ (Ars Z h v2 .byte 61 g) ∧ (True)) := by
  refine ctr_of pn12 hn0 (ef12_1 sb) fun G A0 => ?_
  have A1 := A0.aloadN (v := (.ref sb)) (pc' := 1) d12_0 rfl rfl rfl
  have A2 := A1.getF (pc' := 4) (host := "") d12_1 (Or.inl (hw _ (List.mem_of_getElem? (i := 49) rfl))) Via.refl e1 rfl
  have A3 := A2.alen (z := (16 : Int32)) (pc' := 5) d12_4 e3 rfl rfl
  have A4 := A3.aloadN (v := (.ref sb)) (pc' := 6) d12_5 rfl rfl rfl
  have A5 := A4.getF (pc' := 9) (host := "") d12_6 (Or.inl (hw _ (List.mem_of_getElem? (i := 51) rfl))) Via.refl e2 rfl
  have A6 := A5.ishr (pc' := 10) d12_9 rfl
  have A7 := A6.topI (z := (16 : Int32)) (by decide)
  have A8 := A7.istoreN (Ls' := #[.val (.ref sb), .val (.int (61 : Int32)), .val (.int (16 : Int32))]) (pc' := 11) d12_10 rfl rfl
  have A9 := A8.iloadN (v := (61 : Int32)) (pc' := 12) d12_11 rfl rfl
  have A10 := A9.iloadN (v := (16 : Int32)) (pc' := 13) d12_12 rfl rfl
  have A11 := A10.isub (pc' := 14) d12_13 rfl
  have A12 := A11.topI (z := (45 : Int32)) (by decide)
  have A14 := A12.ifNo (pc' := 17) d12_14 (tlt (igt (x := (45 : Int32)) (y := (0 : Int32)) rfl rfl (by decide : (0 : Int) < 45))).2.2.2 rfl
  have A15 := A14.aloadN (v := (.ref sb)) (pc' := 18) d12_17 rfl rfl rfl
  have A16 := A15.aloadN (v := (.ref sb)) (pc' := 19) d12_18 rfl rfl rfl
  have A17 := A16.getF (pc' := 22) (host := "") d12_19 (Or.inl (hw _ (List.mem_of_getElem? (i := 49) rfl))) Via.refl e1 rfl
  have A18 := A17.aloadN (v := (.ref sb)) (pc' := 23) d12_22 rfl rfl rfl
  have A19 := A18.iloadN (v := (61 : Int32)) (pc' := 24) d12_23 rfl rfl
  obtain ⟨r21, _, ⟨rfl, q22⟩, A20⟩ := W.kI (A19.callP2 (a := sb) (argsL := [(.int (61 : Int32))]) (rest := [(.ref v), (.ref sb)]) (C' := 0) (S' := 0) (pc' := 27) d12_24 e0 (hw _ (List.mem_of_getElem? (i := 89) rfl)) (hw _ (List.mem_of_getElem? (i := 90) rfl)) (hw _ (List.mem_of_getElem? (i := 91) rfl)) (hw _ (List.mem_of_getElem? (i := 92) rfl)) (hw _ (List.mem_of_getElem? (i := 43) rfl)) (hw _ (List.mem_of_getElem? (i := 93) rfl)) (rm13_1 l Z a0 hw n0 [] (sb) (v) (f) h0 A19.size e0 e1 e2 e3) rfl rfl pd_4 rfl rfl (by decide) (by decide) (Nat.le_of_ble_eq_true rfl) (by decide) (by decide) rfl rfl rfl)
  subst q22
  have A24 := A20.aloadN (v := (.ref sb)) (pc' := 28) d12_27 rfl rfl rfl
  have A25 := A24.getF (pc' := 31) (host := "") d12_28 (Or.inl (hw _ (List.mem_of_getElem? (i := 51) rfl))) Via.refl e2 rfl
  have A26 := A25.ishl (pc' := 32) d12_31 rfl
  have A27 := A26.topI (z := (61 : Int32)) (by decide)
  obtain ⟨r29, h31, ⟨u33, K32, g34, z35, f36, q30⟩, A28⟩ := W.kA (A27.callS (argsL := [(.ref v), (.int (61 : Int32))]) (rest := [(.ref sb)]) (C' := 1) (S' := 61) (pc' := 35) d12_32 (hw _ (List.mem_of_getElem? (i := 104) rfl)) (hw _ (List.mem_of_getElem? (i := 105) rfl)) (hw _ (List.mem_of_getElem? (i := 106) rfl)) (hw _ (List.mem_of_getElem? (i := 107) rfl)) (rm16_1 l Z a0 hw n0 [] (v) (f) h0 A27.size e3) rfl rfl pd_5 rfl rfl (by decide) (by decide) (Nat.le_of_ble_eq_true rfl) (by decide) (by decide) rfl rfl rfl)
  have ne37 : sb ≠ r29 := Nat.ne_of_lt (Nat.lt_of_lt_of_le e0.lt z35)
  have ne38 : v ≠ r29 := Nat.ne_of_lt (Nat.lt_of_lt_of_le e3.lt z35)
  have f39 := (e1.keep K32 nin0)
  have f40 := (e0.keep K32)
  obtain ⟨h42, w43, A41⟩ := A28.putF (pc' := 38) (ty := (.array .byte)) (host := "") d12_35 (Or.inl (hw _ (List.mem_of_getElem? (i := 49) rfl))) Via.refl f39 f40 (Or.inl (hw _ (List.mem_of_getElem? (i := 50) rfl))) (hw _ (List.mem_of_getElem? (i := 34) rfl)) (by decide) rfl rfl e5 rfl
  have f44 := f39.same w43
  have K45 : Keep h0 h42 [sb] := (((Keep.refl h0 [sb]).trans K32 all0).wr w43 (Or.inl (List.mem_of_getElem? (i := 0) rfl)))
  have z46 : h0.size ≤ r29 := Nat.le_trans (Nat.le_refl _) z35
  have f47 := ((e2.keep K32 nin0).other w43 (Or.inr (slot_ne (Or.inl (hw _ (List.mem_of_getElem? (i := 52) rfl))) (Or.inl (hw _ (List.mem_of_getElem? (i := 50) rfl))) (by decide) (t := .byte) (t' := (.array .byte)) (by decide) (by decide))))
  have f48 := ((e4.keep K32 nin0).other w43 (Or.inr (slot_ne (Or.inl (hw _ (List.mem_of_getElem? (i := 83) rfl))) (Or.inl (hw _ (List.mem_of_getElem? (i := 50) rfl))) (by decide) (t := .int) (t' := (.array .byte)) (by decide) (by decide))))
  have f49 := (f36.other w43 (Ne.symm ne37))
  refine A41.retV d12_38 (by decide) (by decide) ⟨rfl, ⟨r29, u33, K45, g34, z46, f44, f47, f48, f49, ?_⟩⟩
  trivial
theorem pn19 : plainFor (⟨"java/lang/AbstractStringBuilder", "inflateIfNeededFor", "(Ljava/lang/String;)V"⟩ : MethodName) = true := by first | exact plainFor_of_name (by first | (simp [plainName, overriddenIn]; done) | decide +kernel) | exact Jvm.Free.JP.mathPlain rfl (by decide +kernel) | decide +kernel
theorem d19_0 : decode jdk_68_method_71_code 0 = .ok (.getstatic 18, 3) := by decide +kernel
theorem d19_3 : decode jdk_68_method_71_code 3 = .ok (.ifCond .eq 18, 3) := by decide +kernel
theorem d19_6 : decode jdk_68_method_71_code 6 = .ok (.aload_n 0, 1) := by decide +kernel
theorem d19_7 : decode jdk_68_method_71_code 7 = .ok (.getfield 22, 3) := by decide +kernel
theorem d19_10 : decode jdk_68_method_71_code 10 = .ok (.aload_n 1, 1) := by decide +kernel
theorem d19_11 : decode jdk_68_method_71_code 11 = .ok (.invokevirtual 40, 3) := by decide +kernel
theorem d19_14 : decode jdk_68_method_71_code 14 = .ok (.if_icmp .eq 7, 3) := by decide +kernel
theorem d19_21 : decode jdk_68_method_71_code 21 = .ok (.return_, 1) := by decide +kernel
abbrev y19_1 : MethodName := (⟨"java/lang/AbstractStringBuilder", "inflateIfNeededFor", "(Ljava/lang/String;)V"⟩ : MethodName)
abbrev R19_1 : Room := { frames := 1, cells := 0, slots := 0, locals := 13 }
set_option maxRecDepth 65536 in
set_option maxHeartbeats 4000000 in
theorem ef19_1 (sb : Addr) (s : Addr)  (mid : MethodId) : entryFrame mid #[(.ref sb), (.ref s)] 2 = mkF mid 0 #[.val (.ref sb), .val (.ref s)] [] := by first | (simp [entryFrame, mkF, argsToLocals, Value.category]; done) | rfl
set_option maxRecDepth 65536 in
set_option maxHeartbeats 40000000 in
theorem rm19_1 (l : Launch) (Z : State) (a0 : Array Value) (hw : ∀ d ∈ tables_1, d.before a0 Z = true) (n0 : Nat) (ws : List Jvm.Cond) (sb : Addr) (s : Addr) (cs : Int32) (h0 : Heap) (hn0 : n0 ≤ h0.size) (e0 : Fld Z h0 sb "java/lang/AbstractStringBuilder" "coder" "B" (.int (0 : Int32))) (e1 : Exa Z h0 s "java/lang/String") (e2 : Fld Z h0 s "java/lang/String" "coder" "B" (.int (0 : Int32))) (e3 : Old Z n0 h0) (e4 : Sta Z Z.heap "java/lang/String" "COMPACT_STRINGS" "Z" (.int cs)) (e5 : cs.toInt ≠ 0) :
    Ctr l Z n0 y19_1 jdk_68_method_71_code 2 (none) ws R19_1 #[(.ref sb), (.ref s)] h0 (QV fun h => (h0 = h) ∧ (True)) := by
  refine ctr_of pn19 hn0 (ef19_1 sb s) fun G A0 => ?_
  have f2 := e4.ext e3.2
  have A1 := A0.getS (pc' := 3) (host := "") d19_0 (Or.inl (hw _ (List.mem_of_getElem? (i := 46) rfl))) Via.refl f2 rfl
  by_cases c3 : cs.toInt = 0
  · exfalso
    omega
  · have A5 := A1.ifNo (pc' := 6) d19_3 (feq (ine (x := cs) (y := (0 : Int32)) rfl rfl c3)).1 rfl
    have A6 := A5.aloadN (v := (.ref sb)) (pc' := 7) d19_6 rfl rfl rfl
    have A7 := A6.getF (pc' := 10) (host := "") d19_7 (Or.inl (hw _ (List.mem_of_getElem? (i := 51) rfl))) Via.refl e0 rfl
    have A8 := A7.aloadN (v := (.ref s)) (pc' := 11) d19_10 rfl rfl rfl
    obtain ⟨r10, _, ⟨rfl, q11⟩, A9⟩ := W.kI (A8.callV (a := s) (argsL := []) (rest := [(.int (0 : Int32))]) (C' := 0) (S' := 0) (pc' := 14) d19_11 e1 (hw _ (List.mem_of_getElem? (i := 125) rfl)) (hw _ (List.mem_of_getElem? (i := 76) rfl)) (fun hZ => notFace_of_selects (args := #[]) (mvT hZ (hw _ (List.mem_of_getElem? (i := 78) rfl)))) (hw _ (List.mem_of_getElem? (i := 78) rfl)) (hw _ (List.mem_of_getElem? (i := 77) rfl)) (hw _ (List.mem_of_getElem? (i := 47) rfl)) (hw _ (List.mem_of_getElem? (i := 79) rfl)) (rm11 l Z a0 hw n0 [] (s) (_) h0 A8.size e2 e3 e4 (by assumption)) rfl rfl pd_2 rfl rfl (by decide) (by decide) (Nat.le_of_ble_eq_true rfl) (by decide) (by decide) rfl rfl rfl)
    subst q11
    have A14 := A9.icmpYes (pc' := 21) d19_14 (teq (ieq (x := (0 : Int32)) (y := (0 : Int32)) rfl rfl (by decide : (0 : Int) = 0))).1 (by decide) (by decide)
    refine A14.retV d19_21 (by decide) (by decide) ⟨rfl, ⟨rfl, ?_⟩⟩
    trivial
theorem pn20 : plainFor (⟨"java/lang/String", "getBytes", "([BIB)V"⟩ : MethodName) = true := by first | exact plainFor_of_name (by first | (simp [plainName, overriddenIn]; done) | decide +kernel) | exact Jvm.Free.JP.mathPlain rfl (by decide +kernel) | decide +kernel
theorem d20_0 : decode jdk_42_method_147_code 0 = .ok (.aload_n 0, 1) := by decide +kernel
theorem d20_1 : decode jdk_42_method_147_code 1 = .ok (.invokevirtual 335, 3) := by decide +kernel
theorem d20_4 : decode jdk_42_method_147_code 4 = .ok (.iload_n 3, 1) := by decide +kernel
theorem d20_5 : decode jdk_42_method_147_code 5 = .ok (.if_icmp .ne 23, 3) := by decide +kernel
theorem d20_8 : decode jdk_42_method_147_code 8 = .ok (.aload_n 0, 1) := by decide +kernel
theorem d20_9 : decode jdk_42_method_147_code 9 = .ok (.getfield 9, 3) := by decide +kernel
theorem d20_12 : decode jdk_42_method_147_code 12 = .ok (.iconst 0, 1) := by decide +kernel
theorem d20_13 : decode jdk_42_method_147_code 13 = .ok (.aload_n 1, 1) := by decide +kernel
theorem d20_14 : decode jdk_42_method_147_code 14 = .ok (.iload_n 2, 1) := by decide +kernel
theorem d20_15 : decode jdk_42_method_147_code 15 = .ok (.iload_n 3, 1) := by decide +kernel
theorem d20_16 : decode jdk_42_method_147_code 16 = .ok (.ishl, 1) := by decide +kernel
theorem d20_17 : decode jdk_42_method_147_code 17 = .ok (.aload_n 0, 1) := by decide +kernel
theorem d20_18 : decode jdk_42_method_147_code 18 = .ok (.getfield 9, 3) := by decide +kernel
theorem d20_21 : decode jdk_42_method_147_code 21 = .ok (.arraylength, 1) := by decide +kernel
theorem d20_22 : decode jdk_42_method_147_code 22 = .ok (.invokestatic 212, 3) := by decide +kernel
theorem d20_25 : decode jdk_42_method_147_code 25 = .ok (.goto 18, 3) := by decide +kernel
theorem d20_43 : decode jdk_42_method_147_code 43 = .ok (.return_, 1) := by decide +kernel
abbrev y20_1 : MethodName := (⟨"java/lang/String", "getBytes", "([BIB)V"⟩ : MethodName)
abbrev R20_1 : Room := { frames := 1, cells := 0, slots := 0, locals := 18 }
set_option maxRecDepth 65536 in
set_option maxHeartbeats 4000000 in
theorem ef20_1 (s : Addr) (v : Addr)  (mid : MethodId) : entryFrame mid #[(.ref s), (.ref v), (.int (0 : Int32)), (.int (0 : Int32))] 4 = mkF mid 0 #[.val (.ref s), .val (.ref v), .val (.int (0 : Int32)), .val (.int (0 : Int32))] [] := by first | (simp [entryFrame, mkF, argsToLocals, Value.category]; done) | rfl
set_option maxRecDepth 65536 in
set_option maxHeartbeats 40000000 in
theorem rm20_1 (l : Launch) (Z : State) (a0 : Array Value) (hw : ∀ d ∈ tables_1, d.before a0 Z = true) (n0 : Nat) (ws : List Jvm.Cond) (s : Addr) (v : Addr) (b : Addr) (k : Nat → Value) (f : Nat → Value) (cs : Int32) (h0 : Heap) (hn0 : n0 ≤ h0.size) (e0 : Exa Z h0 s "java/lang/String") (e1 : Fld Z h0 s "java/lang/String" "value" "[B" (.ref b)) (e2 : Fld Z h0 s "java/lang/String" "coder" "B" (.int (0 : Int32))) (e3 : Ars Z h0 b .byte 61 k) (e4 : Ars Z h0 v .byte 61 f) (e5 : n0 ≤ v) (e6 : Old Z n0 h0) (e7 : Sta Z Z.heap "java/lang/String" "COMPACT_STRINGS" "Z" (.int cs)) (e8 : cs.toInt ≠ 0) :
    Ctr l Z n0 y20_1 jdk_42_method_147_code 4 (none) ws R20_1 #[(.ref s), (.ref v), (.int (0 : Int32)), (.int (0 : Int32))] h0 (QV fun h => ∃ g : Nat → Value, (Keep h0 h [v]) ∧ (Ars Z h v .byte 61 g) ∧ (True)) := by
  refine ctr_of pn20 hn0 (ef20_1 s v) fun G A0 => ?_
  have A1 := A0.aloadN (v := (.ref s)) (pc' := 1) d20_0 rfl rfl rfl
  obtain ⟨r3, _, ⟨rfl, q4⟩, A2⟩ := W.kI (A1.callV (a := s) (argsL := []) (rest := []) (C' := 0) (S' := 0) (pc' := 4) d20_1 e0 (hw _ (List.mem_of_getElem? (i := 75) rfl)) (hw _ (List.mem_of_getElem? (i := 76) rfl)) (fun hZ => notFace_of_selects (args := #[]) (mvT hZ (hw _ (List.mem_of_getElem? (i := 78) rfl)))) (hw _ (List.mem_of_getElem? (i := 78) rfl)) (hw _ (List.mem_of_getElem? (i := 77) rfl)) (hw _ (List.mem_of_getElem? (i := 47) rfl)) (hw _ (List.mem_of_getElem? (i := 79) rfl)) (rm11 l Z a0 hw n0 [] (s) (_) h0 A1.size e2 e6 e7 (by assumption)) rfl rfl pd_2 rfl rfl (by decide) (by decide) (Nat.le_of_ble_eq_true rfl) (by decide) (by decide) rfl rfl rfl)
  subst q4
  have A6 := A2.iloadN (v := (0 : Int32)) (pc' := 5) d20_4 rfl rfl
  have A8 := A6.icmpNo (pc' := 8) d20_5 (teq (ieq (x := (0 : Int32)) (y := (0 : Int32)) rfl rfl (by decide : (0 : Int) = 0))).2 rfl
  have A9 := A8.aloadN (v := (.ref s)) (pc' := 9) d20_8 rfl rfl rfl
  have A10 := A9.getF (pc' := 12) (host := "") d20_9 (Or.inl (hw _ (List.mem_of_getElem? (i := 74) rfl))) Via.refl e1 rfl
  have A11 := A10.iconst (z := (0 : Int32)) (pc' := 13) d20_12 rfl rfl
  have A12 := A11.aloadN (v := (.ref v)) (pc' := 14) d20_13 rfl rfl rfl
  have A13 := A12.iloadN (v := (0 : Int32)) (pc' := 15) d20_14 rfl rfl
  have A14 := A13.iloadN (v := (0 : Int32)) (pc' := 16) d20_15 rfl rfl
  have A15 := A14.ishl (pc' := 17) d20_16 rfl
  have A16 := A15.topI (z := (0 : Int32)) (by decide)
  have A17 := A16.aloadN (v := (.ref s)) (pc' := 18) d20_17 rfl rfl rfl
  have A18 := A17.getF (pc' := 21) (host := "") d20_18 (Or.inl (hw _ (List.mem_of_getElem? (i := 74) rfl))) Via.refl e1 rfl
  have A19 := A18.alen (z := (61 : Int32)) (pc' := 22) d20_21 e3 rfl rfl
  obtain ⟨h20, K21, X22, A23⟩ := A19.acopy (i := 0) (j := 0) (k := 61) (pc' := 25) d20_22 (hw _ (List.mem_of_getElem? (i := 131) rfl)) (hw _ (List.mem_of_getElem? (i := 114) rfl)) (hw _ (List.mem_of_getElem? (i := 112) rfl)) (hw _ (List.mem_of_getElem? (i := 113) rfl)) e3 e4 rfl rfl rfl rfl (by decide) (by decide) e5 rfl (by decide) (Nat.le_of_ble_eq_true rfl) rfl
  have A24 := A23.goto (pc' := 43) d20_25 (by decide) (by decide)
  have K25 : Keep h0 h20 [v] := ((Keep.refl h0 [v]).trans K21 (allS (Or.inl (List.mem_of_getElem? (i := 0) rfl)) all0))
  refine A24.retV d20_43 (by decide) (by decide) ⟨rfl, ⟨(cpy k 0 f 0 61), K25, X22, ?_⟩⟩
  trivial
theorem pn18 : plainFor (⟨"java/lang/AbstractStringBuilder", "putStringAt", "(ILjava/lang/String;)V"⟩ : MethodName) = true := by first | exact plainFor_of_name (by first | (simp [plainName, overriddenIn]; done) | decide +kernel) | exact Jvm.Free.JP.mathPlain rfl (by decide +kernel) | decide +kernel
theorem d18_0 : decode jdk_68_method_73_code 0 = .ok (.aload_n 0, 1) := by decide +kernel
theorem d18_1 : decode jdk_68_method_73_code 1 = .ok (.aload_n 2, 1) := by decide +kernel
theorem d18_2 : decode jdk_68_method_73_code 2 = .ok (.invokevirtual 397, 3) := by decide +kernel
theorem d18_5 : decode jdk_68_method_73_code 5 = .ok (.aload_n 2, 1) := by decide +kernel
theorem d18_6 : decode jdk_68_method_73_code 6 = .ok (.aload_n 0, 1) := by decide +kernel
theorem d18_7 : decode jdk_68_method_73_code 7 = .ok (.getfield 15, 3) := by decide +kernel
theorem d18_10 : decode jdk_68_method_73_code 10 = .ok (.iload_n 1, 1) := by decide +kernel
theorem d18_11 : decode jdk_68_method_73_code 11 = .ok (.aload_n 0, 1) := by decide +kernel
theorem d18_12 : decode jdk_68_method_73_code 12 = .ok (.getfield 22, 3) := by decide +kernel
theorem d18_15 : decode jdk_68_method_73_code 15 = .ok (.invokevirtual 399, 3) := by decide +kernel
theorem d18_18 : decode jdk_68_method_73_code 18 = .ok (.return_, 1) := by decide +kernel
abbrev y18_1 : MethodName := (⟨"java/lang/AbstractStringBuilder", "putStringAt", "(ILjava/lang/String;)V"⟩ : MethodName)
abbrev R18_1 : Room := { frames := 2, cells := 0, slots := 0, locals := 33 }
set_option maxRecDepth 65536 in
set_option maxHeartbeats 4000000 in
theorem ef18_1 (sb : Addr) (s : Addr)  (mid : MethodId) : entryFrame mid #[(.ref sb), (.int (0 : Int32)), (.ref s)] 3 = mkF mid 0 #[.val (.ref sb), .val (.int (0 : Int32)), .val (.ref s)] [] := by first | (simp [entryFrame, mkF, argsToLocals, Value.category]; done) | rfl
set_option maxRecDepth 65536 in
set_option maxHeartbeats 40000000 in
theorem rm18_1 (l : Launch) (Z : State) (a0 : Array Value) (hw : ∀ d ∈ tables_1, d.before a0 Z = true) (n0 : Nat) (ws : List Jvm.Cond) (sb : Addr) (s : Addr) (v : Addr) (b : Addr) (k : Nat → Value) (f : Nat → Value) (cs : Int32) (h0 : Heap) (hn0 : n0 ≤ h0.size) (e0 : Exa Z h0 sb "java/lang/StringBuilder") (e1 : Fld Z h0 sb "java/lang/AbstractStringBuilder" "value" "[B" (.ref v)) (e2 : Fld Z h0 sb "java/lang/AbstractStringBuilder" "coder" "B" (.int (0 : Int32))) (e3 : Exa Z h0 s "java/lang/String") (e4 : Fld Z h0 s "java/lang/String" "value" "[B" (.ref b)) (e5 : Fld Z h0 s "java/lang/String" "coder" "B" (.int (0 : Int32))) (e6 : Ars Z h0 b .byte 61 k) (e7 : Ars Z h0 v .byte 61 f) (e8 : n0 ≤ v) (e9 : Old Z n0 h0) (e10 : Sta Z Z.heap "java/lang/String" "COMPACT_STRINGS" "Z" (.int cs)) (e11 : cs.toInt ≠ 0) :
    Ctr l Z n0 y18_1 jdk_68_method_73_code 3 (none) ws R18_1 #[(.ref sb), (.int (0 : Int32)), (.ref s)] h0 (QV fun h => ∃ g : Nat → Value, (Keep h0 h [v]) ∧ (Ars Z h v .byte 61 g) ∧ (True)) := by
  refine ctr_of pn18 hn0 (ef18_1 sb s) fun G A0 => ?_
  have A1 := A0.aloadN (v := (.ref sb)) (pc' := 1) d18_0 rfl rfl rfl
  have A2 := A1.aloadN (v := (.ref s)) (pc' := 2) d18_1 rfl rfl rfl
  obtain ⟨_, ⟨rfl, q5⟩, A3⟩ := W.kV (A2.callP2 (a := sb) (argsL := [(.ref s)]) (rest := []) (C' := 0) (S' := 0) (pc' := 5) d18_2 e0 (hw _ (List.mem_of_getElem? (i := 120) rfl)) (hw _ (List.mem_of_getElem? (i := 121) rfl)) (hw _ (List.mem_of_getElem? (i := 122) rfl)) (hw _ (List.mem_of_getElem? (i := 123) rfl)) (hw _ (List.mem_of_getElem? (i := 43) rfl)) (hw _ (List.mem_of_getElem? (i := 124) rfl)) (rm19_1 l Z a0 hw n0 [] (sb) (s) (_) h0 A2.size e2 e3 e5 e9 e10 (by assumption)) rfl rfl pd_6 rfl rfl (by decide) (by decide) (Nat.le_of_ble_eq_true rfl) (by decide) (by decide) rfl rfl rfl)
  have A7 := A3.aloadN (v := (.ref s)) (pc' := 6) d18_5 rfl rfl rfl
  have A8 := A7.aloadN (v := (.ref sb)) (pc' := 7) d18_6 rfl rfl rfl
  have A9 := A8.getF (pc' := 10) (host := "") d18_7 (Or.inl (hw _ (List.mem_of_getElem? (i := 49) rfl))) Via.refl e1 rfl
  have A10 := A9.iloadN (v := (0 : Int32)) (pc' := 11) d18_10 rfl rfl
  have A11 := A10.aloadN (v := (.ref sb)) (pc' := 12) d18_11 rfl rfl rfl
  have A12 := A11.getF (pc' := 15) (host := "") d18_12 (Or.inl (hw _ (List.mem_of_getElem? (i := 51) rfl))) Via.refl e2 rfl
  obtain ⟨h16, ⟨u18, K17, f19, q15⟩, A13⟩ := W.kV (A12.callV (a := s) (argsL := [(.ref v), (.int (0 : Int32)), (.int (0 : Int32))]) (rest := []) (C' := 0) (S' := 0) (pc' := 18) d18_15 e3 (hw _ (List.mem_of_getElem? (i := 126) rfl)) (hw _ (List.mem_of_getElem? (i := 127) rfl)) (fun hZ => notFace_of_selects (args := #[]) (mvT hZ (hw _ (List.mem_of_getElem? (i := 129) rfl)))) (hw _ (List.mem_of_getElem? (i := 129) rfl)) (hw _ (List.mem_of_getElem? (i := 128) rfl)) (hw _ (List.mem_of_getElem? (i := 47) rfl)) (hw _ (List.mem_of_getElem? (i := 130) rfl)) (rm20_1 l Z a0 hw n0 [] (s) (v) (b) (k) (f) (_) h0 A12.size e3 e4 e5 e6 e7 e8 e9 e10 (by assumption)) rfl rfl pd_7 rfl rfl (by decide) (by decide) (Nat.le_of_ble_eq_true rfl) (by decide) (by decide) rfl rfl rfl)
  have K20 : Keep h0 h16 [v] := ((Keep.refl h0 [v]).trans K17 (allS (Or.inl (List.mem_of_getElem? (i := 0) rfl)) all0))
  refine A13.retV d18_18 (by decide) (by decide) ⟨rfl, ⟨u18, K20, f19, ?_⟩⟩
  trivial
theorem pn9 : plainFor (⟨"java/lang/AbstractStringBuilder", "append", "(Ljava/lang/String;)Ljava/lang/AbstractStringBuilder;"⟩ : MethodName) = true := by first | exact plainFor_of_name (by first | (simp [plainName, overriddenIn]; done) | decide +kernel) | exact Jvm.Free.JP.mathPlain rfl (by decide +kernel) | decide +kernel
theorem d9_0 : decode jdk_68_method_22_code 0 = .ok (.aload_n 1, 1) := by decide +kernel
theorem d9_1 : decode jdk_68_method_22_code 1 = .ok (.ifnonnull 8, 3) := by decide +kernel
theorem d9_9 : decode jdk_68_method_22_code 9 = .ok (.aload_n 1, 1) := by decide +kernel
theorem d9_10 : decode jdk_68_method_22_code 10 = .ok (.invokevirtual 32, 3) := by decide +kernel
theorem d9_13 : decode jdk_68_method_22_code 13 = .ok (.istore_n 2, 1) := by decide +kernel
theorem d9_14 : decode jdk_68_method_22_code 14 = .ok (.aload_n 0, 1) := by decide +kernel
theorem d9_15 : decode jdk_68_method_22_code 15 = .ok (.aload_n 0, 1) := by decide +kernel
theorem d9_16 : decode jdk_68_method_22_code 16 = .ok (.getfield 79, 3) := by decide +kernel
theorem d9_19 : decode jdk_68_method_22_code 19 = .ok (.iload_n 2, 1) := by decide +kernel
theorem d9_20 : decode jdk_68_method_22_code 20 = .ok (.iadd, 1) := by decide +kernel
theorem d9_21 : decode jdk_68_method_22_code 21 = .ok (.invokevirtual 100, 3) := by decide +kernel
theorem d9_24 : decode jdk_68_method_22_code 24 = .ok (.aload_n 0, 1) := by decide +kernel
theorem d9_25 : decode jdk_68_method_22_code 25 = .ok (.aload_n 0, 1) := by decide +kernel
theorem d9_26 : decode jdk_68_method_22_code 26 = .ok (.getfield 79, 3) := by decide +kernel
theorem d9_29 : decode jdk_68_method_22_code 29 = .ok (.aload_n 1, 1) := by decide +kernel
theorem d9_30 : decode jdk_68_method_22_code 30 = .ok (.invokevirtual 208, 3) := by decide +kernel
theorem d9_33 : decode jdk_68_method_22_code 33 = .ok (.aload_n 0, 1) := by decide +kernel
theorem d9_34 : decode jdk_68_method_22_code 34 = .ok (.dup, 1) := by decide +kernel
theorem d9_35 : decode jdk_68_method_22_code 35 = .ok (.getfield 79, 3) := by decide +kernel
theorem d9_38 : decode jdk_68_method_22_code 38 = .ok (.iload_n 2, 1) := by decide +kernel
theorem d9_39 : decode jdk_68_method_22_code 39 = .ok (.iadd, 1) := by decide +kernel
theorem d9_40 : decode jdk_68_method_22_code 40 = .ok (.putfield 79, 3) := by decide +kernel
theorem d9_43 : decode jdk_68_method_22_code 43 = .ok (.aload_n 0, 1) := by decide +kernel
theorem d9_44 : decode jdk_68_method_22_code 44 = .ok (.areturn, 1) := by decide +kernel
abbrev y9_1 : MethodName := (⟨"java/lang/AbstractStringBuilder", "append", "(Ljava/lang/String;)Ljava/lang/AbstractStringBuilder;"⟩ : MethodName)
abbrev R9_1 : Room := { frames := 4, cells := 1, slots := 61, locals := 62 }
set_option maxRecDepth 65536 in
set_option maxHeartbeats 4000000 in
theorem ef9_1 (sb : Addr) (s : Addr)  (mid : MethodId) : entryFrame mid #[(.ref sb), (.ref s)] 3 = mkF mid 0 #[.val (.ref sb), .val (.ref s), .unset] [] := by first | (simp [entryFrame, mkF, argsToLocals, Value.category]; done) | rfl
set_option maxRecDepth 65536 in
set_option maxHeartbeats 40000000 in
theorem rm9_1 (l : Launch) (Z : State) (a0 : Array Value) (hw : ∀ d ∈ tables_1, d.before a0 Z = true) (n0 : Nat) (ws : List Jvm.Cond) (sb : Addr) (s : Addr) (v : Addr) (b : Addr) (k : Nat → Value) (f : Nat → Value) (cs : Int32) (h0 : Heap) (hn0 : n0 ≤ h0.size) (e0 : Exa Z h0 sb "java/lang/StringBuilder") (e1 : Fld Z h0 sb "java/lang/AbstractStringBuilder" "value" "[B" (.ref v)) (e2 : Fld Z h0 sb "java/lang/AbstractStringBuilder" "coder" "B" (.int (0 : Int32))) (e3 : Ars Z h0 v .byte 16 f) (e4 : Fld Z h0 sb "java/lang/AbstractStringBuilder" "count" "I" (.int (0 : Int32))) (e5 : n0 ≤ sb) (e6 : sb ≠ v) (e7 : Exa Z h0 s "java/lang/String") (e8 : Fld Z h0 s "java/lang/String" "value" "[B" (.ref b)) (e9 : Fld Z h0 s "java/lang/String" "coder" "B" (.int (0 : Int32))) (e10 : Ars Z h0 b .byte 61 k) (e11 : sb ≠ s) (e12 : sb ≠ b) (e13 : Old Z n0 h0) (e14 : Sta Z Z.heap "java/lang/String" "COMPACT_STRINGS" "Z" (.int cs)) (e15 : cs.toInt ≠ 0) :
    Ctr l Z n0 y9_1 jdk_68_method_22_code 3 (some (.object "java/lang/AbstractStringBuilder")) ws R9_1 #[(.ref sb), (.ref s)] h0 (QA fun r h => ∃ v2 : Addr, ∃ g : Nat → Value, (Keep h0 h [sb]) ∧ (n0 ≤ v2) ∧ (h0.size ≤ v2) ∧ (Fld Z h sb "java/lang/AbstractStringBuilder" "value" "[B" (.ref v2)) ∧ (Fld Z h sb "java/lang/AbstractStringBuilder" "coder" "B" (.int (0 : Int32))) ∧ (Fld Z h sb "java/lang/AbstractStringBuilder" "count" "I" (.int (61 : Int32))) ∧ (Ars Z h v2 .byte 61 g) ∧ (sb ≠ v2) ∧ (r = sb)) := by
  refine ctr_of pn9 hn0 (ef9_1 sb s) fun G A0 => ?_
  have A1 := A0.aloadN (v := (.ref s)) (pc' := 1) d9_0 rfl rfl rfl
  have A2 := A1.ifnonnullYes (pc' := 9) d9_1 (by decide) (by decide)
  have A3 := A2.aloadN (v := (.ref s)) (pc' := 10) d9_9 rfl rfl rfl
  obtain ⟨r5, _, ⟨rfl, q6⟩, A4⟩ := W.kI (A3.callV (a := s) (argsL := []) (rest := []) (C' := 0) (S' := 0) (pc' := 13) d9_10 e7 (hw _ (List.mem_of_getElem? (i := 69) rfl)) (hw _ (List.mem_of_getElem? (i := 70) rfl)) (fun hZ => notFace_of_selects (args := #[]) (mvT hZ (hw _ (List.mem_of_getElem? (i := 72) rfl)))) (hw _ (List.mem_of_getElem? (i := 72) rfl)) (hw _ (List.mem_of_getElem? (i := 71) rfl)) (hw _ (List.mem_of_getElem? (i := 47) rfl)) (hw _ (List.mem_of_getElem? (i := 73) rfl)) (rm10_1 l Z a0 hw n0 [] (s) (b) (k) (_) h0 A3.size e7 e8 e9 e10 e13 e14 (by assumption)) rfl rfl pd_8 rfl rfl (by decide) (by decide) (Nat.le_of_ble_eq_true rfl) (by decide) (by decide) rfl rfl rfl)
  subst q6
  have A8 := A4.istoreN (Ls' := #[.val (.ref sb), .val (.ref s), .val (.int (61 : Int32))]) (pc' := 14) d9_13 rfl rfl
  have A9 := A8.aloadN (v := (.ref sb)) (pc' := 15) d9_14 rfl rfl rfl
  have A10 := A9.aloadN (v := (.ref sb)) (pc' := 16) d9_15 rfl rfl rfl
  have A11 := A10.getF (pc' := 19) (host := "") d9_16 (Or.inl (hw _ (List.mem_of_getElem? (i := 82) rfl))) Via.refl e4 rfl
  have A12 := A11.iloadN (v := (61 : Int32)) (pc' := 20) d9_19 rfl rfl
  have A13 := A12.iadd (pc' := 21) d9_20 rfl
  have A14 := A13.topI (z := (61 : Int32)) (by decide)
  obtain ⟨h18, ⟨b20, u21, K19, g22, z23, f24, f25, f26, f27, q17⟩, A15⟩ := W.kV (A14.callP2 (a := sb) (argsL := [(.int (61 : Int32))]) (rest := []) (C' := 1) (S' := 61) (pc' := 24) d9_21 e0 (hw _ (List.mem_of_getElem? (i := 84) rfl)) (hw _ (List.mem_of_getElem? (i := 85) rfl)) (hw _ (List.mem_of_getElem? (i := 86) rfl)) (hw _ (List.mem_of_getElem? (i := 87) rfl)) (hw _ (List.mem_of_getElem? (i := 43) rfl)) (hw _ (List.mem_of_getElem? (i := 88) rfl)) (rm12_1 l Z a0 hw n0 [] (sb) (v) (f) h0 A14.size e0 e1 e2 e3 e4 e5 e6) rfl rfl pd_0 rfl rfl (by decide) (by decide) (Nat.le_of_ble_eq_true rfl) (by decide) (by decide) rfl rfl rfl)
  have ne28 : sb ≠ b20 := Nat.ne_of_lt (Nat.lt_of_lt_of_le e0.lt z23)
  have ne29 : v ≠ b20 := Nat.ne_of_lt (Nat.lt_of_lt_of_le e3.lt z23)
  have ne30 : s ≠ b20 := Nat.ne_of_lt (Nat.lt_of_lt_of_le e7.lt z23)
  have ne31 : b ≠ b20 := Nat.ne_of_lt (Nat.lt_of_lt_of_le e10.lt z23)
  have A32 := A15.aloadN (v := (.ref sb)) (pc' := 25) d9_24 rfl rfl rfl
  have A33 := A32.aloadN (v := (.ref sb)) (pc' := 26) d9_25 rfl rfl rfl
  have A34 := A33.getF (pc' := 29) (host := "") d9_26 (Or.inl (hw _ (List.mem_of_getElem? (i := 82) rfl))) Via.refl f26 rfl
  have A35 := A34.aloadN (v := (.ref s)) (pc' := 30) d9_29 rfl rfl rfl
  have f36 := (e0.keep K19)
  have f37 := (e7.keep K19)
  have f38 := (e8.keep K19 (ninS (Ne.symm e11) nin0))
  have f39 := (e9.keep K19 (ninS (Ne.symm e11) nin0))
  have f40 := (e10.keep K19 (ninS (Ne.symm e12) nin0))
  have f41 := (e13.keep K19 (allS e5 all0))
  obtain ⟨h45, ⟨u47, K46, f48, q44⟩, A42⟩ := W.kV (A35.callP2 (a := sb) (argsL := [(.int (0 : Int32)), (.ref s)]) (rest := []) (C' := 1) (S' := 61) (pc' := 33) d9_30 f36 (hw _ (List.mem_of_getElem? (i := 115) rfl)) (hw _ (List.mem_of_getElem? (i := 116) rfl)) (hw _ (List.mem_of_getElem? (i := 117) rfl)) (hw _ (List.mem_of_getElem? (i := 118) rfl)) (hw _ (List.mem_of_getElem? (i := 43) rfl)) (hw _ (List.mem_of_getElem? (i := 119) rfl)) (rm18_1 l Z a0 hw n0 [] (sb) (s) (b20) (b) (k) (u21) (_) h18 A35.size f36 f24 f25 f37 f38 f39 f40 f27 g22 f41 e14 (by assumption)) rfl rfl pd_9 rfl rfl (by decide) (by decide) (Nat.le_of_ble_eq_true rfl) (by decide) (by decide) rfl rfl rfl)
  have A49 := A42.aloadN (v := (.ref sb)) (pc' := 34) d9_33 rfl rfl rfl
  have A50 := A49.dup (pc' := 35) d9_34 rfl rfl
  have f52 := (f26.keep K46 (ninS ne28 nin0))
  have A51 := A50.getF (pc' := 38) (host := "") d9_35 (Or.inl (hw _ (List.mem_of_getElem? (i := 82) rfl))) Via.refl f52 rfl
  have A53 := A51.iloadN (v := (61 : Int32)) (pc' := 39) d9_38 rfl rfl
  have A54 := A53.iadd (pc' := 40) d9_39 rfl
  have A55 := A54.topI (z := (61 : Int32)) (by decide)
  have f56 := (f36.keep K46)
  obtain ⟨h58, w59, A57⟩ := A55.putF (pc' := 43) (ty := .int) (host := "") d9_40 (Or.inl (hw _ (List.mem_of_getElem? (i := 82) rfl))) Via.refl f52 f56 (Or.inl (hw _ (List.mem_of_getElem? (i := 83) rfl))) (hw _ (List.mem_of_getElem? (i := 34) rfl)) (by decide) rfl rfl e5 rfl
  have f60 := f52.same w59
  have A61 := A57.aloadN (v := (.ref sb)) (pc' := 44) d9_43 rfl rfl rfl
  have z62 : h0.size ≤ b20 := Nat.le_trans (Nat.le_refl _) z23
  have K63 : Keep h0 h58 [sb] := ((((Keep.refl h0 [sb]).trans K19 (allS (Or.inl (List.mem_of_getElem? (i := 0) rfl)) all0)).trans K46 (allS (Or.inr z62) all0)).wr w59 (Or.inl (List.mem_of_getElem? (i := 0) rfl)))
  have f64 := ((f24.keep K46 (ninS ne28 nin0)).other w59 (Or.inr (slot_ne (Or.inl (hw _ (List.mem_of_getElem? (i := 50) rfl))) (Or.inl (hw _ (List.mem_of_getElem? (i := 83) rfl))) (by decide) (t := (.array .byte)) (t' := .int) (by decide) (by decide))))
  have f65 := ((f25.keep K46 (ninS ne28 nin0)).other w59 (Or.inr (slot_ne (Or.inl (hw _ (List.mem_of_getElem? (i := 52) rfl))) (Or.inl (hw _ (List.mem_of_getElem? (i := 83) rfl))) (by decide) (t := .byte) (t' := .int) (by decide) (by decide))))
  have f66 := (f48.other w59 (Ne.symm ne28))
  refine A61.retA d9_44 (by decide) (by decide) rfl rfl rfl ⟨_, rfl, ⟨b20, u47, K63, g22, z62, f64, f65, f60, f66, ne28, ?_⟩⟩
  rfl
theorem pn8 : plainFor (⟨"java/lang/StringBuilder", "append", "(Ljava/lang/String;)Ljava/lang/StringBuilder;"⟩ : MethodName) = true := by first | exact plainFor_of_name (by first | (simp [plainName, overriddenIn]; done) | decide +kernel) | exact Jvm.Free.JP.mathPlain rfl (by decide +kernel) | decide +kernel
theorem d8_0 : decode jdk_67_method_7_code 0 = .ok (.aload_n 0, 1) := by decide +kernel
theorem d8_1 : decode jdk_67_method_7_code 1 = .ok (.aload_n 1, 1) := by decide +kernel
theorem d8_2 : decode jdk_67_method_7_code 2 = .ok (.invokespecial 29, 3) := by decide +kernel
theorem d8_5 : decode jdk_67_method_7_code 5 = .ok (.pop, 1) := by decide +kernel
theorem d8_6 : decode jdk_67_method_7_code 6 = .ok (.aload_n 0, 1) := by decide +kernel
theorem d8_7 : decode jdk_67_method_7_code 7 = .ok (.areturn, 1) := by decide +kernel
abbrev y8_1 : MethodName := (⟨"java/lang/StringBuilder", "append", "(Ljava/lang/String;)Ljava/lang/StringBuilder;"⟩ : MethodName)
abbrev R8_1 : Room := { frames := 5, cells := 1, slots := 61, locals := 76 }
set_option maxRecDepth 65536 in
set_option maxHeartbeats 4000000 in
theorem ef8_1 (sb : Addr) (s : Addr)  (mid : MethodId) : entryFrame mid #[(.ref sb), (.ref s)] 2 = mkF mid 0 #[.val (.ref sb), .val (.ref s)] [] := by first | (simp [entryFrame, mkF, argsToLocals, Value.category]; done) | rfl
set_option maxRecDepth 65536 in
set_option maxHeartbeats 40000000 in
theorem rm8_1 (l : Launch) (Z : State) (a0 : Array Value) (hw : ∀ d ∈ tables_1, d.before a0 Z = true) (n0 : Nat) (ws : List Jvm.Cond) (sb : Addr) (s : Addr) (v : Addr) (b : Addr) (k : Nat → Value) (f : Nat → Value) (cs : Int32) (h0 : Heap) (hn0 : n0 ≤ h0.size) (e0 : Exa Z h0 sb "java/lang/StringBuilder") (e1 : Fld Z h0 sb "java/lang/AbstractStringBuilder" "value" "[B" (.ref v)) (e2 : Fld Z h0 sb "java/lang/AbstractStringBuilder" "coder" "B" (.int (0 : Int32))) (e3 : Ars Z h0 v .byte 16 f) (e4 : Fld Z h0 sb "java/lang/AbstractStringBuilder" "count" "I" (.int (0 : Int32))) (e5 : n0 ≤ sb) (e6 : sb ≠ v) (e7 : Exa Z h0 s "java/lang/String") (e8 : Fld Z h0 s "java/lang/String" "value" "[B" (.ref b)) (e9 : Fld Z h0 s "java/lang/String" "coder" "B" (.int (0 : Int32))) (e10 : Ars Z h0 b .byte 61 k) (e11 : sb ≠ s) (e12 : sb ≠ b) (e13 : Old Z n0 h0) (e14 : Sta Z Z.heap "java/lang/String" "COMPACT_STRINGS" "Z" (.int cs)) (e15 : cs.toInt ≠ 0) :
    Ctr l Z n0 y8_1 jdk_67_method_7_code 2 (some (.object "java/lang/StringBuilder")) ws R8_1 #[(.ref sb), (.ref s)] h0 (QA fun r h => ∃ v2 : Addr, ∃ g : Nat → Value, (Keep h0 h [sb]) ∧ (n0 ≤ v2) ∧ (h0.size ≤ v2) ∧ (Fld Z h sb "java/lang/AbstractStringBuilder" "value" "[B" (.ref v2)) ∧ (Fld Z h sb "java/lang/AbstractStringBuilder" "coder" "B" (.int (0 : Int32))) ∧ (Fld Z h sb "java/lang/AbstractStringBuilder" "count" "I" (.int (61 : Int32))) ∧ (Ars Z h v2 .byte 61 g) ∧ (sb ≠ v2) ∧ (r = sb)) := by
  refine ctr_of pn8 hn0 (ef8_1 sb s) fun G A0 => ?_
  have A1 := A0.aloadN (v := (.ref sb)) (pc' := 1) d8_0 rfl rfl rfl
  have A2 := A1.aloadN (v := (.ref s)) (pc' := 2) d8_1 rfl rfl rfl
  obtain ⟨r4, h6, ⟨b8, u9, K7, g10, z11, f12, f13, f14, f15, f16, q5⟩, A3⟩ := W.kA (A2.callX (a := sb) (argsL := [(.ref s)]) (rest := []) (C' := 1) (S' := 61) (pc' := 5) d8_2 (by decide) e0 (hw _ (List.mem_of_getElem? (i := 64) rfl)) (hw _ (List.mem_of_getElem? (i := 65) rfl)) (hw _ (List.mem_of_getElem? (i := 66) rfl)) (hw _ (List.mem_of_getElem? (i := 67) rfl)) (hw _ (List.mem_of_getElem? (i := 87) rfl)) (hw _ (List.mem_of_getElem? (i := 85) rfl)) rfl (hw _ (List.mem_of_getElem? (i := 43) rfl)) (hw _ (List.mem_of_getElem? (i := 68) rfl)) (rm9_1 l Z a0 hw n0 [] (sb) (s) (v) (b) (k) (f) (_) h0 A2.size e0 e1 e2 e3 e4 e5 e6 e7 e8 e9 e10 e11 e12 e13 e14 (by assumption)) rfl rfl pd_10 rfl rfl (by decide) (by decide) (Nat.le_of_ble_eq_true rfl) (by decide) (by decide) rfl rfl rfl)
  have ne17 : sb ≠ b8 := Nat.ne_of_lt (Nat.lt_of_lt_of_le e0.lt z11)
  have ne18 : v ≠ b8 := Nat.ne_of_lt (Nat.lt_of_lt_of_le e3.lt z11)
  have ne19 : s ≠ b8 := Nat.ne_of_lt (Nat.lt_of_lt_of_le e7.lt z11)
  have ne20 : b ≠ b8 := Nat.ne_of_lt (Nat.lt_of_lt_of_le e10.lt z11)
  have A21 := A3.pop (pc' := 6) d8_5 rfl rfl
  have A22 := A21.aloadN (v := (.ref sb)) (pc' := 7) d8_6 rfl rfl rfl
  have K23 : Keep h0 h6 [sb] := ((Keep.refl h0 [sb]).trans K7 (allS (Or.inl (List.mem_of_getElem? (i := 0) rfl)) all0))
  have z24 : h0.size ≤ b8 := Nat.le_trans (Nat.le_refl _) z11
  refine A22.retA d8_7 (by decide) (by decide) rfl rfl rfl ⟨_, rfl, ⟨b8, u9, K23, g10, z24, f12, f13, f14, f15, f16, ?_⟩⟩
  rfl
abbrev y10_2 : MethodName := (⟨"java/lang/String", "length", "()I"⟩ : MethodName)
abbrev R10_2 : Room := { frames := 1, cells := 0, slots := 0, locals := 13 }
set_option maxRecDepth 65536 in
set_option maxHeartbeats 4000000 in
theorem ef10_2 (s : Addr)  (mid : MethodId) : entryFrame mid #[(.ref s)] 1 = mkF mid 0 #[.val (.ref s)] [] := by first | (simp [entryFrame, mkF, argsToLocals, Value.category]; done) | rfl
set_option maxRecDepth 65536 in
set_option maxHeartbeats 40000000 in
theorem rm10_2 (l : Launch) (Z : State) (a0 : Array Value) (hw : ∀ d ∈ tables_1, d.before a0 Z = true) (n0 : Nat) (ws : List Jvm.Cond) (s : Addr) (b : Addr) (k : Nat → Value) (cs : Int32) (h0 : Heap) (hn0 : n0 ≤ h0.size) (e0 : Exa Z h0 s "java/lang/String") (e1 : Fld Z h0 s "java/lang/String" "value" "[B" (.ref b)) (e2 : Fld Z h0 s "java/lang/String" "coder" "B" (.int (0 : Int32))) (e3 : Ars Z h0 b .byte 4 k) (e4 : Old Z n0 h0) (e5 : Sta Z Z.heap "java/lang/String" "COMPACT_STRINGS" "Z" (.int cs)) (e6 : cs.toInt ≠ 0) :
    Ctr l Z n0 y10_2 jdk_42_method_54_code 1 (some .int) ws R10_2 #[(.ref s)] h0 (QI fun r h => (h0 = h) ∧ (r = (4 : Int32))) := by
  refine ctr_of pn10 hn0 (ef10_2 s) fun G A0 => ?_
  have A1 := A0.aloadN (v := (.ref s)) (pc' := 1) d10_0 rfl rfl rfl
  have A2 := A1.getF (pc' := 4) (host := "") d10_1 (Or.inl (hw _ (List.mem_of_getElem? (i := 74) rfl))) Via.refl e1 rfl
  have A3 := A2.alen (z := (4 : Int32)) (pc' := 5) d10_4 e3 rfl rfl
  have A4 := A3.aloadN (v := (.ref s)) (pc' := 6) d10_5 rfl rfl rfl
  obtain ⟨r6, _, ⟨rfl, q7⟩, A5⟩ := W.kI (A4.callV (a := s) (argsL := []) (rest := [(.int (4 : Int32))]) (C' := 0) (S' := 0) (pc' := 9) d10_6 e0 (hw _ (List.mem_of_getElem? (i := 75) rfl)) (hw _ (List.mem_of_getElem? (i := 76) rfl)) (fun hZ => notFace_of_selects (args := #[]) (mvT hZ (hw _ (List.mem_of_getElem? (i := 78) rfl)))) (hw _ (List.mem_of_getElem? (i := 78) rfl)) (hw _ (List.mem_of_getElem? (i := 77) rfl)) (hw _ (List.mem_of_getElem? (i := 47) rfl)) (hw _ (List.mem_of_getElem? (i := 79) rfl)) (rm11 l Z a0 hw n0 [] (s) (_) h0 A4.size e2 e4 e5 (by assumption)) rfl rfl pd_2 rfl rfl (by decide) (by decide) (Nat.le_of_ble_eq_true rfl) (by decide) (by decide) rfl rfl rfl)
  subst q7
  have A9 := A5.ishr (pc' := 10) d10_9 rfl
  have A10 := A9.topI (z := (4 : Int32)) (by decide)
  refine A10.retI d10_10 (by decide) (by decide) ⟨_, rfl, ⟨rfl, ?_⟩⟩
  have elit : (4 : Int32).toInt = 4 := rfl
  rfl
abbrev y13_2 : MethodName := (⟨"java/lang/AbstractStringBuilder", "newCapacity", "(I)I"⟩ : MethodName)
abbrev R13_2 : Room := { frames := 2, cells := 0, slots := 0, locals := 29 }
set_option maxRecDepth 65536 in
set_option maxHeartbeats 4000000 in
theorem ef13_2 (sb : Addr)  (mid : MethodId) : entryFrame mid #[(.ref sb), (.int (65 : Int32))] 6 = mkF mid 0 #[.val (.ref sb), .val (.int (65 : Int32)), .unset, .unset, .unset, .unset] [] := by first | (simp [entryFrame, mkF, argsToLocals, Value.category]; done) | rfl
set_option maxRecDepth 65536 in
set_option maxHeartbeats 40000000 in
theorem rm13_2 (l : Launch) (Z : State) (a0 : Array Value) (hw : ∀ d ∈ tables_1, d.before a0 Z = true) (n0 : Nat) (ws : List Jvm.Cond) (sb : Addr) (v : Addr) (f : Nat → Value) (h0 : Heap) (hn0 : n0 ≤ h0.size) (e0 : Exa Z h0 sb "java/lang/StringBuilder") (e1 : Fld Z h0 sb "java/lang/AbstractStringBuilder" "value" "[B" (.ref v)) (e2 : Fld Z h0 sb "java/lang/AbstractStringBuilder" "coder" "B" (.int (0 : Int32))) (e3 : Ars Z h0 v .byte 61 f) :
    Ctr l Z n0 y13_2 jdk_68_method_10_code 6 (some .int) ws R13_2 #[(.ref sb), (.int (65 : Int32))] h0 (QI fun r h => (h0 = h) ∧ (r = (124 : Int32))) := by
  refine ctr_of pn13 hn0 (ef13_2 sb) fun G A0 => ?_
  have A1 := A0.aloadN (v := (.ref sb)) (pc' := 1) d13_0 rfl rfl rfl
  have A2 := A1.getF (pc' := 4) (host := "") d13_1 (Or.inl (hw _ (List.mem_of_getElem? (i := 49) rfl))) Via.refl e1 rfl
  have A3 := A2.alen (z := (61 : Int32)) (pc' := 5) d13_4 e3 rfl rfl
  have A4 := A3.istoreN (Ls' := #[.val (.ref sb), .val (.int (65 : Int32)), .val (.int (61 : Int32)), .unset, .unset, .unset]) (pc' := 6) d13_5 rfl rfl
  have A5 := A4.iloadN (v := (65 : Int32)) (pc' := 7) d13_6 rfl rfl
  have A6 := A5.aloadN (v := (.ref sb)) (pc' := 8) d13_7 rfl rfl rfl
  have A7 := A6.getF (pc' := 11) (host := "") d13_8 (Or.inl (hw _ (List.mem_of_getElem? (i := 51) rfl))) Via.refl e2 rfl
  have A8 := A7.ishl (pc' := 12) d13_11 rfl
  have A9 := A8.topI (z := (65 : Int32)) (by decide)
  have A10 := A9.istoreN (Ls' := #[.val (.ref sb), .val (.int (65 : Int32)), .val (.int (61 : Int32)), .val (.int (65 : Int32)), .unset, .unset]) (pc' := 13) d13_12 rfl rfl
  have A11 := A10.iloadN (v := (65 : Int32)) (pc' := 14) d13_13 rfl rfl
  have A12 := A11.iloadN (v := (61 : Int32)) (pc' := 15) d13_14 rfl rfl
  have A13 := A12.isub (pc' := 16) d13_15 rfl
  have A14 := A13.topI (z := (4 : Int32)) (by decide)
  have A15 := A14.istore (Ls' := #[.val (.ref sb), .val (.int (65 : Int32)), .val (.int (61 : Int32)), .val (.int (65 : Int32)), .val (.int (4 : Int32)), .unset]) (pc' := 18) d13_16 rfl rfl
  have A16 := A15.iloadN (v := (61 : Int32)) (pc' := 19) d13_18 rfl rfl
  have A17 := A16.iload (v := (4 : Int32)) (pc' := 21) d13_19 rfl rfl
  have A18 := A17.iloadN (v := (61 : Int32)) (pc' := 22) d13_21 rfl rfl
  have A19 := A18.iconst (z := (2 : Int32)) (pc' := 23) d13_22 rfl rfl
  have A20 := A19.aloadN (v := (.ref sb)) (pc' := 24) d13_23 rfl rfl rfl
  have A21 := A20.getF (pc' := 27) (host := "") d13_24 (Or.inl (hw _ (List.mem_of_getElem? (i := 51) rfl))) Via.refl e2 rfl
  have A22 := A21.ishl (pc' := 28) d13_27 rfl
  have A23 := A22.topI (z := (2 : Int32)) (by decide)
  have A24 := A23.iadd (pc' := 29) d13_28 rfl
  have A25 := A24.topI (z := (63 : Int32)) (by decide)
  obtain ⟨r27, _, ⟨rfl, q28⟩, A26⟩ := W.kI (A25.callS (argsL := [(.int (61 : Int32)), (.int (4 : Int32)), (.int (63 : Int32))]) (rest := []) (C' := 0) (S' := 0) (pc' := 32) d13_29 (hw _ (List.mem_of_getElem? (i := 94) rfl)) (hw _ (List.mem_of_getElem? (i := 95) rfl)) (hw _ (List.mem_of_getElem? (i := 96) rfl)) (hw _ (List.mem_of_getElem? (i := 97) rfl)) (rm14_2 l Z a0 hw n0 []   h0 A25.size ) rfl rfl pd_3 rfl rfl (by decide) (by decide) (Nat.le_of_ble_eq_true rfl) (by decide) (by decide) rfl rfl rfl)
  subst q28
  have A30 := A26.istore (Ls' := #[.val (.ref sb), .val (.int (65 : Int32)), .val (.int (61 : Int32)), .val (.int (65 : Int32)), .val (.int (4 : Int32)), .val (.int (124 : Int32))]) (pc' := 34) d13_32 rfl rfl
  have A31 := A30.iload (v := (124 : Int32)) (pc' := 36) d13_34 rfl rfl
  have A32 := A31.ldc (z := (2147483647 : Int32)) (pc' := 38) d13_36 (hw _ (List.mem_of_getElem? (i := 103) rfl)) rfl
  have A34 := A32.icmpYes (pc' := 51) d13_38 (feq (ine (x := (124 : Int32)) (y := (2147483647 : Int32)) rfl rfl (by decide : ¬ ((124 : Int) = 2147483647)))).2 (by decide) (by decide)
  have A35 := A34.iload (v := (124 : Int32)) (pc' := 53) d13_51 rfl rfl
  have A36 := A35.aloadN (v := (.ref sb)) (pc' := 54) d13_53 rfl rfl rfl
  have A37 := A36.getF (pc' := 57) (host := "") d13_54 (Or.inl (hw _ (List.mem_of_getElem? (i := 51) rfl))) Via.refl e2 rfl
  have A38 := A37.ishr (pc' := 58) d13_57 rfl
  have A39 := A38.topI (z := (124 : Int32)) (by decide)
  refine A39.retI d13_58 (by decide) (by decide) ⟨_, rfl, ⟨rfl, ?_⟩⟩
  have elit : (124 : Int32).toInt = 124 := rfl
  rfl
abbrev y16_2 : MethodName := (⟨"java/util/Arrays", "copyOf", "([BI)[B"⟩ : MethodName)
abbrev R16_2 : Room := { frames := 1, cells := 1, slots := 124, locals := 18 }
set_option maxRecDepth 65536 in
set_option maxHeartbeats 4000000 in
theorem ef16_2 (v : Addr)  (mid : MethodId) : entryFrame mid #[(.ref v), (.int (124 : Int32))] 3 = mkF mid 0 #[.val (.ref v), .val (.int (124 : Int32)), .unset] [] := by first | (simp [entryFrame, mkF, argsToLocals, Value.category]; done) | rfl
set_option maxRecDepth 65536 in
set_option maxHeartbeats 40000000 in
theorem rm16_2 (l : Launch) (Z : State) (a0 : Array Value) (hw : ∀ d ∈ tables_1, d.before a0 Z = true) (n0 : Nat) (ws : List Jvm.Cond) (v : Addr) (f : Nat → Value) (h0 : Heap) (hn0 : n0 ≤ h0.size) (e0 : Ars Z h0 v .byte 61 f) :
    Ctr l Z n0 y16_2 jdk_65_method_121_code 3 (some (.array .byte)) ws R16_2 #[(.ref v), (.int (124 : Int32))] h0 (QA fun r h => ∃ g : Nat → Value, (Keep h0 h []) ∧ (n0 ≤ r) ∧ (h0.size ≤ r) ∧ (Ars Z h r .byte 124 g) ∧ (True)) := by
  refine ctr_of pn16 hn0 (ef16_2 v) fun G A0 => ?_
  have A1 := A0.iloadN (v := (124 : Int32)) (pc' := 1) d16_0 rfl rfl
  have A2 := A1.aloadN (v := (.ref v)) (pc' := 2) d16_1 rfl rfl rfl
  have A3 := A2.alen (z := (61 : Int32)) (pc' := 3) d16_2 e0 rfl rfl
  have A5 := A3.icmpYes (pc' := 14) d16_3 (feq (ine (x := (124 : Int32)) (y := (61 : Int32)) rfl rfl (by decide : ¬ ((124 : Int) = 61)))).2 (by decide) (by decide)
  have A6 := A5.iloadN (v := (124 : Int32)) (pc' := 15) d16_14 rfl rfl
  obtain ⟨h7, b8, eb9, g10, E11, X12, XE14, A13⟩ := A6.newP (z := (124 : Int32)) (N := 124) (cap := 124) (C' := 1) (S' := 124) (pc' := 17) d16_15 (hw _ (List.mem_of_getElem? (i := 48) rfl)) rfl (by decide) (by decide) (by decide) (by decide) rfl rfl rfl rfl
  have ne15 : v ≠ b8 := Nat.ne_of_lt (Nat.lt_of_lt_of_le e0.lt (Nat.le_of_eq eb9.symm))
  change Exa Z h7 b8 "[B" at XE14
  change Ars Z h7 b8 .byte 124 (fun _ => (.int (0 : Int32))) at X12
  have A16 := A13.astoreN (Ls' := #[.val (.ref v), .val (.int (124 : Int32)), .val (.ref b8)]) (pc' := 18) d16_17 rfl rfl rfl
  have A17 := A16.aloadN (v := (.ref v)) (pc' := 19) d16_18 rfl rfl rfl
  have A18 := A17.iconst (z := (0 : Int32)) (pc' := 20) d16_19 rfl rfl
  have A19 := A18.aloadN (v := (.ref b8)) (pc' := 21) d16_20 rfl rfl rfl
  have A20 := A19.iconst (z := (0 : Int32)) (pc' := 22) d16_21 rfl rfl
  have A21 := A20.aloadN (v := (.ref v)) (pc' := 23) d16_22 rfl rfl rfl
  have f22 := (e0.ext E11)
  have A23 := A21.alen (z := (61 : Int32)) (pc' := 24) d16_23 f22 rfl rfl
  have A24 := A23.iloadN (v := (124 : Int32)) (pc' := 25) d16_24 rfl rfl
  obtain ⟨r26, _, ⟨rfl, q27⟩, A25⟩ := W.kI (A24.callS (argsL := [(.int (61 : Int32)), (.int (124 : Int32))]) (rest := [(.int (0 : Int32)), (.ref b8), (.int (0 : Int32)), (.ref v)]) (C' := 1) (S' := 124) (pc' := 28) d16_25 (hw _ (List.mem_of_getElem? (i := 108) rfl)) (hw _ (List.mem_of_getElem? (i := 109) rfl)) (hw _ (List.mem_of_getElem? (i := 100) rfl)) (hw _ (List.mem_of_getElem? (i := 110) rfl)) (rm17_61_124 l Z a0 hw n0 []   h7 A24.size ) rfl rfl pd_1 rfl rfl (by decide) (by decide) (Nat.le_of_ble_eq_true rfl) (by decide) (by decide) rfl rfl rfl)
  subst q27
  obtain ⟨h29, K30, X31, A32⟩ := A25.acopy (i := 0) (j := 0) (k := 61) (pc' := 31) d16_28 (hw _ (List.mem_of_getElem? (i := 111) rfl)) (hw _ (List.mem_of_getElem? (i := 114) rfl)) (hw _ (List.mem_of_getElem? (i := 112) rfl)) (hw _ (List.mem_of_getElem? (i := 113) rfl)) f22 X12 rfl rfl rfl rfl (by decide) (by decide) g10 rfl (by decide) (Nat.le_of_ble_eq_true rfl) rfl
  have A33 := A32.aloadN (v := (.ref b8)) (pc' := 32) d16_31 rfl rfl rfl
  have z34 : h0.size ≤ b8 := Nat.le_trans (Nat.le_refl _) (Nat.le_of_eq eb9.symm)
  have K35 : Keep h0 h29 [] := (((Keep.refl h0 []).ext E11).trans K30 (allS (Or.inr z34) all0))
  refine A33.retA d16_32 (by decide) (by decide) rfl rfl rfl ⟨_, rfl, ⟨(cpy f 0 (fun _ => (.int (0 : Int32))) 0 61), K35, g10, z34, X31, ?_⟩⟩
  trivial
abbrev y12_2 : MethodName := (⟨"java/lang/AbstractStringBuilder", "ensureCapacityInternal", "(I)V"⟩ : MethodName)
abbrev R12_2 : Room := { frames := 3, cells := 1, slots := 124, locals := 48 }
set_option maxRecDepth 65536 in
set_option maxHeartbeats 4000000 in
theorem ef12_2 (sb : Addr)  (mid : MethodId) : entryFrame mid #[(.ref sb), (.int (65 : Int32))] 3 = mkF mid 0 #[.val (.ref sb), .val (.int (65 : Int32)), .unset] [] := by first | (simp [entryFrame, mkF, argsToLocals, Value.category]; done) | rfl
set_option maxRecDepth 65536 in
set_option maxHeartbeats 40000000 in
theorem rm12_2 (l : Launch) (Z : State) (a0 : Array Value) (hw : ∀ d ∈ tables_1, d.before a0 Z = true) (n0 : Nat) (ws : List Jvm.Cond) (sb : Addr) (v : Addr) (f : Nat → Value) (h0 : Heap) (hn0 : n0 ≤ h0.size) (e0 : Exa Z h0 sb "java/lang/StringBuilder") (e1 : Fld Z h0 sb "java/lang/AbstractStringBuilder" "value" "[B" (.ref v)) (e2 : Fld Z h0 sb "java/lang/AbstractStringBuilder" "coder" "B" (.int (0 : Int32))) (e3 : Ars Z h0 v .byte 61 f) (e4 : Fld Z h0 sb "java/lang/AbstractStringBuilder" "count" "I" (.int (61 : Int32))) (e5 : n0 ≤ sb) (e6 : sb ≠ v) :
    Ctr l Z n0 y12_2 jdk_68_method_9_code 3 (none) ws R12_2 #[(.ref sb), (.int (65 : Int32))] h0 (QV fun h => ∃ v2 : Addr, ∃ g : Nat → Value, (Keep h0 h [sb]) ∧ (n0 ≤ v2) ∧ (h0.size ≤ v2) ∧ (Fld Z h sb "java/lang/AbstractStringBuilder" "value" "[B" (.ref v2)) ∧ (Fld Z h sb "java/lang/AbstractStringBuilder" "coder" "B" (.int (0 : Int32))) ∧ (Fld Z h sb "java/lang/AbstractStringBuilder" "count" "I" (.int (61 : Int32))) ∧ (Ars Z h v2 .byte 124 g) ∧ (True)) := by
  refine ctr_of pn12 hn0 (ef12_2 sb) fun G A0 => ?_
  have A1 := A0.aloadN (v := (.ref sb)) (pc' := 1) d12_0 rfl rfl rfl
  have A2 := A1.getF (pc' := 4) (host := "") d12_1 (Or.inl (hw _ (List.mem_of_getElem? (i := 49) rfl))) Via.refl e1 rfl
  have A3 := A2.alen (z := (61 : Int32)) (pc' := 5) d12_4 e3 rfl rfl
  have A4 := A3.aloadN (v := (.ref sb)) (pc' := 6) d12_5 rfl rfl rfl
  have A5 := A4.getF (pc' := 9) (host := "") d12_6 (Or.inl (hw _ (List.mem_of_getElem? (i := 51) rfl))) Via.refl e2 rfl
  have A6 := A5.ishr (pc' := 10) d12_9 rfl
  have A7 := A6.topI (z := (61 : Int32)) (by decide)
  have A8 := A7.istoreN (Ls' := #[.val (.ref sb), .val (.int (65 : Int32)), .val (.int (61 : Int32))]) (pc' := 11) d12_10 rfl rfl
  have A9 := A8.iloadN (v := (65 : Int32)) (pc' := 12) d12_11 rfl rfl
  have A10 := A9.iloadN (v := (61 : Int32)) (pc' := 13) d12_12 rfl rfl
  have A11 := A10.isub (pc' := 14) d12_13 rfl
  have A12 := A11.topI (z := (4 : Int32)) (by decide)
  have A14 := A12.ifNo (pc' := 17) d12_14 (tlt (igt (x := (4 : Int32)) (y := (0 : Int32)) rfl rfl (by decide : (0 : Int) < 4))).2.2.2 rfl
  have A15 := A14.aloadN (v := (.ref sb)) (pc' := 18) d12_17 rfl rfl rfl
  have A16 := A15.aloadN (v := (.ref sb)) (pc' := 19) d12_18 rfl rfl rfl
  have A17 := A16.getF (pc' := 22) (host := "") d12_19 (Or.inl (hw _ (List.mem_of_getElem? (i := 49) rfl))) Via.refl e1 rfl
  have A18 := A17.aloadN (v := (.ref sb)) (pc' := 23) d12_22 rfl rfl rfl
  have A19 := A18.iloadN (v := (65 : Int32)) (pc' := 24) d12_23 rfl rfl
  obtain ⟨r21, _, ⟨rfl, q22⟩, A20⟩ := W.kI (A19.callP2 (a := sb) (argsL := [(.int (65 : Int32))]) (rest := [(.ref v), (.ref sb)]) (C' := 0) (S' := 0) (pc' := 27) d12_24 e0 (hw _ (List.mem_of_getElem? (i := 89) rfl)) (hw _ (List.mem_of_getElem? (i := 90) rfl)) (hw _ (List.mem_of_getElem? (i := 91) rfl)) (hw _ (List.mem_of_getElem? (i := 92) rfl)) (hw _ (List.mem_of_getElem? (i := 43) rfl)) (hw _ (List.mem_of_getElem? (i := 93) rfl)) (rm13_2 l Z a0 hw n0 [] (sb) (v) (f) h0 A19.size e0 e1 e2 e3) rfl rfl pd_4 rfl rfl (by decide) (by decide) (Nat.le_of_ble_eq_true rfl) (by decide) (by decide) rfl rfl rfl)
  subst q22
  have A24 := A20.aloadN (v := (.ref sb)) (pc' := 28) d12_27 rfl rfl rfl
  have A25 := A24.getF (pc' := 31) (host := "") d12_28 (Or.inl (hw _ (List.mem_of_getElem? (i := 51) rfl))) Via.refl e2 rfl
  have A26 := A25.ishl (pc' := 32) d12_31 rfl
  have A27 := A26.topI (z := (124 : Int32)) (by decide)
  obtain ⟨r29, h31, ⟨u33, K32, g34, z35, f36, q30⟩, A28⟩ := W.kA (A27.callS (argsL := [(.ref v), (.int (124 : Int32))]) (rest := [(.ref sb)]) (C' := 1) (S' := 124) (pc' := 35) d12_32 (hw _ (List.mem_of_getElem? (i := 104) rfl)) (hw _ (List.mem_of_getElem? (i := 105) rfl)) (hw _ (List.mem_of_getElem? (i := 106) rfl)) (hw _ (List.mem_of_getElem? (i := 107) rfl)) (rm16_2 l Z a0 hw n0 [] (v) (f) h0 A27.size e3) rfl rfl pd_5 rfl rfl (by decide) (by decide) (Nat.le_of_ble_eq_true rfl) (by decide) (by decide) rfl rfl rfl)
  have ne37 : sb ≠ r29 := Nat.ne_of_lt (Nat.lt_of_lt_of_le e0.lt z35)
  have ne38 : v ≠ r29 := Nat.ne_of_lt (Nat.lt_of_lt_of_le e3.lt z35)
  have f39 := (e1.keep K32 nin0)
  have f40 := (e0.keep K32)
  obtain ⟨h42, w43, A41⟩ := A28.putF (pc' := 38) (ty := (.array .byte)) (host := "") d12_35 (Or.inl (hw _ (List.mem_of_getElem? (i := 49) rfl))) Via.refl f39 f40 (Or.inl (hw _ (List.mem_of_getElem? (i := 50) rfl))) (hw _ (List.mem_of_getElem? (i := 34) rfl)) (by decide) rfl rfl e5 rfl
  have f44 := f39.same w43
  have K45 : Keep h0 h42 [sb] := (((Keep.refl h0 [sb]).trans K32 all0).wr w43 (Or.inl (List.mem_of_getElem? (i := 0) rfl)))
  have z46 : h0.size ≤ r29 := Nat.le_trans (Nat.le_refl _) z35
  have f47 := ((e2.keep K32 nin0).other w43 (Or.inr (slot_ne (Or.inl (hw _ (List.mem_of_getElem? (i := 52) rfl))) (Or.inl (hw _ (List.mem_of_getElem? (i := 50) rfl))) (by decide) (t := .byte) (t' := (.array .byte)) (by decide) (by decide))))
  have f48 := ((e4.keep K32 nin0).other w43 (Or.inr (slot_ne (Or.inl (hw _ (List.mem_of_getElem? (i := 83) rfl))) (Or.inl (hw _ (List.mem_of_getElem? (i := 50) rfl))) (by decide) (t := .int) (t' := (.array .byte)) (by decide) (by decide))))
  have f49 := (f36.other w43 (Ne.symm ne37))
  refine A41.retV d12_38 (by decide) (by decide) ⟨rfl, ⟨r29, u33, K45, g34, z46, f44, f47, f48, f49, ?_⟩⟩
  trivial
abbrev y19_2 : MethodName := (⟨"java/lang/AbstractStringBuilder", "inflateIfNeededFor", "(Ljava/lang/String;)V"⟩ : MethodName)
abbrev R19_2 : Room := { frames := 1, cells := 0, slots := 0, locals := 13 }
set_option maxRecDepth 65536 in
set_option maxHeartbeats 4000000 in
theorem ef19_2 (sb : Addr) (s : Addr)  (mid : MethodId) : entryFrame mid #[(.ref sb), (.ref s)] 2 = mkF mid 0 #[.val (.ref sb), .val (.ref s)] [] := by first | (simp [entryFrame, mkF, argsToLocals, Value.category]; done) | rfl
set_option maxRecDepth 65536 in
set_option maxHeartbeats 40000000 in
theorem rm19_2 (l : Launch) (Z : State) (a0 : Array Value) (hw : ∀ d ∈ tables_1, d.before a0 Z = true) (n0 : Nat) (ws : List Jvm.Cond) (sb : Addr) (s : Addr) (cs : Int32) (h0 : Heap) (hn0 : n0 ≤ h0.size) (e0 : Fld Z h0 sb "java/lang/AbstractStringBuilder" "coder" "B" (.int (0 : Int32))) (e1 : Exa Z h0 s "java/lang/String") (e2 : Fld Z h0 s "java/lang/String" "coder" "B" (.int (0 : Int32))) (e3 : Old Z n0 h0) (e4 : Sta Z Z.heap "java/lang/String" "COMPACT_STRINGS" "Z" (.int cs)) (e5 : cs.toInt ≠ 0) :
    Ctr l Z n0 y19_2 jdk_68_method_71_code 2 (none) ws R19_2 #[(.ref sb), (.ref s)] h0 (QV fun h => (h0 = h) ∧ (True)) := by
  refine ctr_of pn19 hn0 (ef19_2 sb s) fun G A0 => ?_
  have f2 := e4.ext e3.2
  have A1 := A0.getS (pc' := 3) (host := "") d19_0 (Or.inl (hw _ (List.mem_of_getElem? (i := 46) rfl))) Via.refl f2 rfl
  by_cases c3 : cs.toInt = 0
  · exfalso
    omega
  · have A5 := A1.ifNo (pc' := 6) d19_3 (feq (ine (x := cs) (y := (0 : Int32)) rfl rfl c3)).1 rfl
    have A6 := A5.aloadN (v := (.ref sb)) (pc' := 7) d19_6 rfl rfl rfl
    have A7 := A6.getF (pc' := 10) (host := "") d19_7 (Or.inl (hw _ (List.mem_of_getElem? (i := 51) rfl))) Via.refl e0 rfl
    have A8 := A7.aloadN (v := (.ref s)) (pc' := 11) d19_10 rfl rfl rfl
    obtain ⟨r10, _, ⟨rfl, q11⟩, A9⟩ := W.kI (A8.callV (a := s) (argsL := []) (rest := [(.int (0 : Int32))]) (C' := 0) (S' := 0) (pc' := 14) d19_11 e1 (hw _ (List.mem_of_getElem? (i := 125) rfl)) (hw _ (List.mem_of_getElem? (i := 76) rfl)) (fun hZ => notFace_of_selects (args := #[]) (mvT hZ (hw _ (List.mem_of_getElem? (i := 78) rfl)))) (hw _ (List.mem_of_getElem? (i := 78) rfl)) (hw _ (List.mem_of_getElem? (i := 77) rfl)) (hw _ (List.mem_of_getElem? (i := 47) rfl)) (hw _ (List.mem_of_getElem? (i := 79) rfl)) (rm11 l Z a0 hw n0 [] (s) (_) h0 A8.size e2 e3 e4 (by assumption)) rfl rfl pd_2 rfl rfl (by decide) (by decide) (Nat.le_of_ble_eq_true rfl) (by decide) (by decide) rfl rfl rfl)
    subst q11
    have A14 := A9.icmpYes (pc' := 21) d19_14 (teq (ieq (x := (0 : Int32)) (y := (0 : Int32)) rfl rfl (by decide : (0 : Int) = 0))).1 (by decide) (by decide)
    refine A14.retV d19_21 (by decide) (by decide) ⟨rfl, ⟨rfl, ?_⟩⟩
    trivial
abbrev y20_2 : MethodName := (⟨"java/lang/String", "getBytes", "([BIB)V"⟩ : MethodName)
abbrev R20_2 : Room := { frames := 1, cells := 0, slots := 0, locals := 18 }
set_option maxRecDepth 65536 in
set_option maxHeartbeats 4000000 in
theorem ef20_2 (s : Addr) (v : Addr)  (mid : MethodId) : entryFrame mid #[(.ref s), (.ref v), (.int (61 : Int32)), (.int (0 : Int32))] 4 = mkF mid 0 #[.val (.ref s), .val (.ref v), .val (.int (61 : Int32)), .val (.int (0 : Int32))] [] := by first | (simp [entryFrame, mkF, argsToLocals, Value.category]; done) | rfl
set_option maxRecDepth 65536 in
set_option maxHeartbeats 40000000 in
theorem rm20_2 (l : Launch) (Z : State) (a0 : Array Value) (hw : ∀ d ∈ tables_1, d.before a0 Z = true) (n0 : Nat) (ws : List Jvm.Cond) (s : Addr) (v : Addr) (b : Addr) (k : Nat → Value) (f : Nat → Value) (cs : Int32) (h0 : Heap) (hn0 : n0 ≤ h0.size) (e0 : Exa Z h0 s "java/lang/String") (e1 : Fld Z h0 s "java/lang/String" "value" "[B" (.ref b)) (e2 : Fld Z h0 s "java/lang/String" "coder" "B" (.int (0 : Int32))) (e3 : Ars Z h0 b .byte 4 k) (e4 : Ars Z h0 v .byte 124 f) (e5 : n0 ≤ v) (e6 : Old Z n0 h0) (e7 : Sta Z Z.heap "java/lang/String" "COMPACT_STRINGS" "Z" (.int cs)) (e8 : cs.toInt ≠ 0) :
    Ctr l Z n0 y20_2 jdk_42_method_147_code 4 (none) ws R20_2 #[(.ref s), (.ref v), (.int (61 : Int32)), (.int (0 : Int32))] h0 (QV fun h => ∃ g : Nat → Value, (Keep h0 h [v]) ∧ (Ars Z h v .byte 124 g) ∧ (True)) := by
  refine ctr_of pn20 hn0 (ef20_2 s v) fun G A0 => ?_
  have A1 := A0.aloadN (v := (.ref s)) (pc' := 1) d20_0 rfl rfl rfl
  obtain ⟨r3, _, ⟨rfl, q4⟩, A2⟩ := W.kI (A1.callV (a := s) (argsL := []) (rest := []) (C' := 0) (S' := 0) (pc' := 4) d20_1 e0 (hw _ (List.mem_of_getElem? (i := 75) rfl)) (hw _ (List.mem_of_getElem? (i := 76) rfl)) (fun hZ => notFace_of_selects (args := #[]) (mvT hZ (hw _ (List.mem_of_getElem? (i := 78) rfl)))) (hw _ (List.mem_of_getElem? (i := 78) rfl)) (hw _ (List.mem_of_getElem? (i := 77) rfl)) (hw _ (List.mem_of_getElem? (i := 47) rfl)) (hw _ (List.mem_of_getElem? (i := 79) rfl)) (rm11 l Z a0 hw n0 [] (s) (_) h0 A1.size e2 e6 e7 (by assumption)) rfl rfl pd_2 rfl rfl (by decide) (by decide) (Nat.le_of_ble_eq_true rfl) (by decide) (by decide) rfl rfl rfl)
  subst q4
  have A6 := A2.iloadN (v := (0 : Int32)) (pc' := 5) d20_4 rfl rfl
  have A8 := A6.icmpNo (pc' := 8) d20_5 (teq (ieq (x := (0 : Int32)) (y := (0 : Int32)) rfl rfl (by decide : (0 : Int) = 0))).2 rfl
  have A9 := A8.aloadN (v := (.ref s)) (pc' := 9) d20_8 rfl rfl rfl
  have A10 := A9.getF (pc' := 12) (host := "") d20_9 (Or.inl (hw _ (List.mem_of_getElem? (i := 74) rfl))) Via.refl e1 rfl
  have A11 := A10.iconst (z := (0 : Int32)) (pc' := 13) d20_12 rfl rfl
  have A12 := A11.aloadN (v := (.ref v)) (pc' := 14) d20_13 rfl rfl rfl
  have A13 := A12.iloadN (v := (61 : Int32)) (pc' := 15) d20_14 rfl rfl
  have A14 := A13.iloadN (v := (0 : Int32)) (pc' := 16) d20_15 rfl rfl
  have A15 := A14.ishl (pc' := 17) d20_16 rfl
  have A16 := A15.topI (z := (61 : Int32)) (by decide)
  have A17 := A16.aloadN (v := (.ref s)) (pc' := 18) d20_17 rfl rfl rfl
  have A18 := A17.getF (pc' := 21) (host := "") d20_18 (Or.inl (hw _ (List.mem_of_getElem? (i := 74) rfl))) Via.refl e1 rfl
  have A19 := A18.alen (z := (4 : Int32)) (pc' := 22) d20_21 e3 rfl rfl
  obtain ⟨h20, K21, X22, A23⟩ := A19.acopy (i := 0) (j := 61) (k := 4) (pc' := 25) d20_22 (hw _ (List.mem_of_getElem? (i := 131) rfl)) (hw _ (List.mem_of_getElem? (i := 114) rfl)) (hw _ (List.mem_of_getElem? (i := 112) rfl)) (hw _ (List.mem_of_getElem? (i := 113) rfl)) e3 e4 rfl rfl rfl rfl (by decide) (by decide) e5 rfl (by decide) (Nat.le_of_ble_eq_true rfl) rfl
  have A24 := A23.goto (pc' := 43) d20_25 (by decide) (by decide)
  have K25 : Keep h0 h20 [v] := ((Keep.refl h0 [v]).trans K21 (allS (Or.inl (List.mem_of_getElem? (i := 0) rfl)) all0))
  refine A24.retV d20_43 (by decide) (by decide) ⟨rfl, ⟨(cpy k 0 f 61 4), K25, X22, ?_⟩⟩
  trivial
abbrev y18_2 : MethodName := (⟨"java/lang/AbstractStringBuilder", "putStringAt", "(ILjava/lang/String;)V"⟩ : MethodName)
abbrev R18_2 : Room := { frames := 2, cells := 0, slots := 0, locals := 33 }
set_option maxRecDepth 65536 in
set_option maxHeartbeats 4000000 in
theorem ef18_2 (sb : Addr) (s : Addr)  (mid : MethodId) : entryFrame mid #[(.ref sb), (.int (61 : Int32)), (.ref s)] 3 = mkF mid 0 #[.val (.ref sb), .val (.int (61 : Int32)), .val (.ref s)] [] := by first | (simp [entryFrame, mkF, argsToLocals, Value.category]; done) | rfl
set_option maxRecDepth 65536 in
set_option maxHeartbeats 40000000 in
theorem rm18_2 (l : Launch) (Z : State) (a0 : Array Value) (hw : ∀ d ∈ tables_1, d.before a0 Z = true) (n0 : Nat) (ws : List Jvm.Cond) (sb : Addr) (s : Addr) (v : Addr) (b : Addr) (k : Nat → Value) (f : Nat → Value) (cs : Int32) (h0 : Heap) (hn0 : n0 ≤ h0.size) (e0 : Exa Z h0 sb "java/lang/StringBuilder") (e1 : Fld Z h0 sb "java/lang/AbstractStringBuilder" "value" "[B" (.ref v)) (e2 : Fld Z h0 sb "java/lang/AbstractStringBuilder" "coder" "B" (.int (0 : Int32))) (e3 : Exa Z h0 s "java/lang/String") (e4 : Fld Z h0 s "java/lang/String" "value" "[B" (.ref b)) (e5 : Fld Z h0 s "java/lang/String" "coder" "B" (.int (0 : Int32))) (e6 : Ars Z h0 b .byte 4 k) (e7 : Ars Z h0 v .byte 124 f) (e8 : n0 ≤ v) (e9 : Old Z n0 h0) (e10 : Sta Z Z.heap "java/lang/String" "COMPACT_STRINGS" "Z" (.int cs)) (e11 : cs.toInt ≠ 0) :
    Ctr l Z n0 y18_2 jdk_68_method_73_code 3 (none) ws R18_2 #[(.ref sb), (.int (61 : Int32)), (.ref s)] h0 (QV fun h => ∃ g : Nat → Value, (Keep h0 h [v]) ∧ (Ars Z h v .byte 124 g) ∧ (True)) := by
  refine ctr_of pn18 hn0 (ef18_2 sb s) fun G A0 => ?_
  have A1 := A0.aloadN (v := (.ref sb)) (pc' := 1) d18_0 rfl rfl rfl
  have A2 := A1.aloadN (v := (.ref s)) (pc' := 2) d18_1 rfl rfl rfl
  obtain ⟨_, ⟨rfl, q5⟩, A3⟩ := W.kV (A2.callP2 (a := sb) (argsL := [(.ref s)]) (rest := []) (C' := 0) (S' := 0) (pc' := 5) d18_2 e0 (hw _ (List.mem_of_getElem? (i := 120) rfl)) (hw _ (List.mem_of_getElem? (i := 121) rfl)) (hw _ (List.mem_of_getElem? (i := 122) rfl)) (hw _ (List.mem_of_getElem? (i := 123) rfl)) (hw _ (List.mem_of_getElem? (i := 43) rfl)) (hw _ (List.mem_of_getElem? (i := 124) rfl)) (rm19_2 l Z a0 hw n0 [] (sb) (s) (_) h0 A2.size e2 e3 e5 e9 e10 (by assumption)) rfl rfl pd_6 rfl rfl (by decide) (by decide) (Nat.le_of_ble_eq_true rfl) (by decide) (by decide) rfl rfl rfl)
  have A7 := A3.aloadN (v := (.ref s)) (pc' := 6) d18_5 rfl rfl rfl
  have A8 := A7.aloadN (v := (.ref sb)) (pc' := 7) d18_6 rfl rfl rfl
  have A9 := A8.getF (pc' := 10) (host := "") d18_7 (Or.inl (hw _ (List.mem_of_getElem? (i := 49) rfl))) Via.refl e1 rfl
  have A10 := A9.iloadN (v := (61 : Int32)) (pc' := 11) d18_10 rfl rfl
  have A11 := A10.aloadN (v := (.ref sb)) (pc' := 12) d18_11 rfl rfl rfl
  have A12 := A11.getF (pc' := 15) (host := "") d18_12 (Or.inl (hw _ (List.mem_of_getElem? (i := 51) rfl))) Via.refl e2 rfl
  obtain ⟨h16, ⟨u18, K17, f19, q15⟩, A13⟩ := W.kV (A12.callV (a := s) (argsL := [(.ref v), (.int (61 : Int32)), (.int (0 : Int32))]) (rest := []) (C' := 0) (S' := 0) (pc' := 18) d18_15 e3 (hw _ (List.mem_of_getElem? (i := 126) rfl)) (hw _ (List.mem_of_getElem? (i := 127) rfl)) (fun hZ => notFace_of_selects (args := #[]) (mvT hZ (hw _ (List.mem_of_getElem? (i := 129) rfl)))) (hw _ (List.mem_of_getElem? (i := 129) rfl)) (hw _ (List.mem_of_getElem? (i := 128) rfl)) (hw _ (List.mem_of_getElem? (i := 47) rfl)) (hw _ (List.mem_of_getElem? (i := 130) rfl)) (rm20_2 l Z a0 hw n0 [] (s) (v) (b) (k) (f) (_) h0 A12.size e3 e4 e5 e6 e7 e8 e9 e10 (by assumption)) rfl rfl pd_7 rfl rfl (by decide) (by decide) (Nat.le_of_ble_eq_true rfl) (by decide) (by decide) rfl rfl rfl)
  have K20 : Keep h0 h16 [v] := ((Keep.refl h0 [v]).trans K17 (allS (Or.inl (List.mem_of_getElem? (i := 0) rfl)) all0))
  refine A13.retV d18_18 (by decide) (by decide) ⟨rfl, ⟨u18, K20, f19, ?_⟩⟩
  trivial
abbrev y9_2 : MethodName := (⟨"java/lang/AbstractStringBuilder", "append", "(Ljava/lang/String;)Ljava/lang/AbstractStringBuilder;"⟩ : MethodName)
abbrev R9_2 : Room := { frames := 4, cells := 1, slots := 124, locals := 62 }
set_option maxRecDepth 65536 in
set_option maxHeartbeats 4000000 in
theorem ef9_2 (sb : Addr) (s : Addr)  (mid : MethodId) : entryFrame mid #[(.ref sb), (.ref s)] 3 = mkF mid 0 #[.val (.ref sb), .val (.ref s), .unset] [] := by first | (simp [entryFrame, mkF, argsToLocals, Value.category]; done) | rfl
set_option maxRecDepth 65536 in
set_option maxHeartbeats 40000000 in
theorem rm9_2 (l : Launch) (Z : State) (a0 : Array Value) (hw : ∀ d ∈ tables_1, d.before a0 Z = true) (n0 : Nat) (ws : List Jvm.Cond) (sb : Addr) (s : Addr) (v : Addr) (b : Addr) (k : Nat → Value) (f : Nat → Value) (cs : Int32) (h0 : Heap) (hn0 : n0 ≤ h0.size) (e0 : Exa Z h0 sb "java/lang/StringBuilder") (e1 : Fld Z h0 sb "java/lang/AbstractStringBuilder" "value" "[B" (.ref v)) (e2 : Fld Z h0 sb "java/lang/AbstractStringBuilder" "coder" "B" (.int (0 : Int32))) (e3 : Ars Z h0 v .byte 61 f) (e4 : Fld Z h0 sb "java/lang/AbstractStringBuilder" "count" "I" (.int (61 : Int32))) (e5 : n0 ≤ sb) (e6 : sb ≠ v) (e7 : Exa Z h0 s "java/lang/String") (e8 : Fld Z h0 s "java/lang/String" "value" "[B" (.ref b)) (e9 : Fld Z h0 s "java/lang/String" "coder" "B" (.int (0 : Int32))) (e10 : Ars Z h0 b .byte 4 k) (e11 : sb ≠ s) (e12 : sb ≠ b) (e13 : Old Z n0 h0) (e14 : Sta Z Z.heap "java/lang/String" "COMPACT_STRINGS" "Z" (.int cs)) (e15 : cs.toInt ≠ 0) :
    Ctr l Z n0 y9_2 jdk_68_method_22_code 3 (some (.object "java/lang/AbstractStringBuilder")) ws R9_2 #[(.ref sb), (.ref s)] h0 (QA fun r h => ∃ v2 : Addr, ∃ g : Nat → Value, (Keep h0 h [sb]) ∧ (n0 ≤ v2) ∧ (h0.size ≤ v2) ∧ (Fld Z h sb "java/lang/AbstractStringBuilder" "value" "[B" (.ref v2)) ∧ (Fld Z h sb "java/lang/AbstractStringBuilder" "coder" "B" (.int (0 : Int32))) ∧ (Fld Z h sb "java/lang/AbstractStringBuilder" "count" "I" (.int (65 : Int32))) ∧ (Ars Z h v2 .byte 124 g) ∧ (sb ≠ v2) ∧ (r = sb)) := by
  refine ctr_of pn9 hn0 (ef9_2 sb s) fun G A0 => ?_
  have A1 := A0.aloadN (v := (.ref s)) (pc' := 1) d9_0 rfl rfl rfl
  have A2 := A1.ifnonnullYes (pc' := 9) d9_1 (by decide) (by decide)
  have A3 := A2.aloadN (v := (.ref s)) (pc' := 10) d9_9 rfl rfl rfl
  obtain ⟨r5, _, ⟨rfl, q6⟩, A4⟩ := W.kI (A3.callV (a := s) (argsL := []) (rest := []) (C' := 0) (S' := 0) (pc' := 13) d9_10 e7 (hw _ (List.mem_of_getElem? (i := 69) rfl)) (hw _ (List.mem_of_getElem? (i := 70) rfl)) (fun hZ => notFace_of_selects (args := #[]) (mvT hZ (hw _ (List.mem_of_getElem? (i := 72) rfl)))) (hw _ (List.mem_of_getElem? (i := 72) rfl)) (hw _ (List.mem_of_getElem? (i := 71) rfl)) (hw _ (List.mem_of_getElem? (i := 47) rfl)) (hw _ (List.mem_of_getElem? (i := 73) rfl)) (rm10_2 l Z a0 hw n0 [] (s) (b) (k) (_) h0 A3.size e7 e8 e9 e10 e13 e14 (by assumption)) rfl rfl pd_8 rfl rfl (by decide) (by decide) (Nat.le_of_ble_eq_true rfl) (by decide) (by decide) rfl rfl rfl)
  subst q6
  have A8 := A4.istoreN (Ls' := #[.val (.ref sb), .val (.ref s), .val (.int (4 : Int32))]) (pc' := 14) d9_13 rfl rfl
  have A9 := A8.aloadN (v := (.ref sb)) (pc' := 15) d9_14 rfl rfl rfl
  have A10 := A9.aloadN (v := (.ref sb)) (pc' := 16) d9_15 rfl rfl rfl
  have A11 := A10.getF (pc' := 19) (host := "") d9_16 (Or.inl (hw _ (List.mem_of_getElem? (i := 82) rfl))) Via.refl e4 rfl
  have A12 := A11.iloadN (v := (4 : Int32)) (pc' := 20) d9_19 rfl rfl
  have A13 := A12.iadd (pc' := 21) d9_20 rfl
  have A14 := A13.topI (z := (65 : Int32)) (by decide)
  obtain ⟨h18, ⟨b20, u21, K19, g22, z23, f24, f25, f26, f27, q17⟩, A15⟩ := W.kV (A14.callP2 (a := sb) (argsL := [(.int (65 : Int32))]) (rest := []) (C' := 1) (S' := 124) (pc' := 24) d9_21 e0 (hw _ (List.mem_of_getElem? (i := 84) rfl)) (hw _ (List.mem_of_getElem? (i := 85) rfl)) (hw _ (List.mem_of_getElem? (i := 86) rfl)) (hw _ (List.mem_of_getElem? (i := 87) rfl)) (hw _ (List.mem_of_getElem? (i := 43) rfl)) (hw _ (List.mem_of_getElem? (i := 88) rfl)) (rm12_2 l Z a0 hw n0 [] (sb) (v) (f) h0 A14.size e0 e1 e2 e3 e4 e5 e6) rfl rfl pd_0 rfl rfl (by decide) (by decide) (Nat.le_of_ble_eq_true rfl) (by decide) (by decide) rfl rfl rfl)
  have ne28 : sb ≠ b20 := Nat.ne_of_lt (Nat.lt_of_lt_of_le e0.lt z23)
  have ne29 : v ≠ b20 := Nat.ne_of_lt (Nat.lt_of_lt_of_le e3.lt z23)
  have ne30 : s ≠ b20 := Nat.ne_of_lt (Nat.lt_of_lt_of_le e7.lt z23)
  have ne31 : b ≠ b20 := Nat.ne_of_lt (Nat.lt_of_lt_of_le e10.lt z23)
  have A32 := A15.aloadN (v := (.ref sb)) (pc' := 25) d9_24 rfl rfl rfl
  have A33 := A32.aloadN (v := (.ref sb)) (pc' := 26) d9_25 rfl rfl rfl
  have A34 := A33.getF (pc' := 29) (host := "") d9_26 (Or.inl (hw _ (List.mem_of_getElem? (i := 82) rfl))) Via.refl f26 rfl
  have A35 := A34.aloadN (v := (.ref s)) (pc' := 30) d9_29 rfl rfl rfl
  have f36 := (e0.keep K19)
  have f37 := (e7.keep K19)
  have f38 := (e8.keep K19 (ninS (Ne.symm e11) nin0))
  have f39 := (e9.keep K19 (ninS (Ne.symm e11) nin0))
  have f40 := (e10.keep K19 (ninS (Ne.symm e12) nin0))
  have f41 := (e13.keep K19 (allS e5 all0))
  obtain ⟨h45, ⟨u47, K46, f48, q44⟩, A42⟩ := W.kV (A35.callP2 (a := sb) (argsL := [(.int (61 : Int32)), (.ref s)]) (rest := []) (C' := 1) (S' := 124) (pc' := 33) d9_30 f36 (hw _ (List.mem_of_getElem? (i := 115) rfl)) (hw _ (List.mem_of_getElem? (i := 116) rfl)) (hw _ (List.mem_of_getElem? (i := 117) rfl)) (hw _ (List.mem_of_getElem? (i := 118) rfl)) (hw _ (List.mem_of_getElem? (i := 43) rfl)) (hw _ (List.mem_of_getElem? (i := 119) rfl)) (rm18_2 l Z a0 hw n0 [] (sb) (s) (b20) (b) (k) (u21) (_) h18 A35.size f36 f24 f25 f37 f38 f39 f40 f27 g22 f41 e14 (by assumption)) rfl rfl pd_9 rfl rfl (by decide) (by decide) (Nat.le_of_ble_eq_true rfl) (by decide) (by decide) rfl rfl rfl)
  have A49 := A42.aloadN (v := (.ref sb)) (pc' := 34) d9_33 rfl rfl rfl
  have A50 := A49.dup (pc' := 35) d9_34 rfl rfl
  have f52 := (f26.keep K46 (ninS ne28 nin0))
  have A51 := A50.getF (pc' := 38) (host := "") d9_35 (Or.inl (hw _ (List.mem_of_getElem? (i := 82) rfl))) Via.refl f52 rfl
  have A53 := A51.iloadN (v := (4 : Int32)) (pc' := 39) d9_38 rfl rfl
  have A54 := A53.iadd (pc' := 40) d9_39 rfl
  have A55 := A54.topI (z := (65 : Int32)) (by decide)
  have f56 := (f36.keep K46)
  obtain ⟨h58, w59, A57⟩ := A55.putF (pc' := 43) (ty := .int) (host := "") d9_40 (Or.inl (hw _ (List.mem_of_getElem? (i := 82) rfl))) Via.refl f52 f56 (Or.inl (hw _ (List.mem_of_getElem? (i := 83) rfl))) (hw _ (List.mem_of_getElem? (i := 34) rfl)) (by decide) rfl rfl e5 rfl
  have f60 := f52.same w59
  have A61 := A57.aloadN (v := (.ref sb)) (pc' := 44) d9_43 rfl rfl rfl
  have z62 : h0.size ≤ b20 := Nat.le_trans (Nat.le_refl _) z23
  have K63 : Keep h0 h58 [sb] := ((((Keep.refl h0 [sb]).trans K19 (allS (Or.inl (List.mem_of_getElem? (i := 0) rfl)) all0)).trans K46 (allS (Or.inr z62) all0)).wr w59 (Or.inl (List.mem_of_getElem? (i := 0) rfl)))
  have f64 := ((f24.keep K46 (ninS ne28 nin0)).other w59 (Or.inr (slot_ne (Or.inl (hw _ (List.mem_of_getElem? (i := 50) rfl))) (Or.inl (hw _ (List.mem_of_getElem? (i := 83) rfl))) (by decide) (t := (.array .byte)) (t' := .int) (by decide) (by decide))))
  have f65 := ((f25.keep K46 (ninS ne28 nin0)).other w59 (Or.inr (slot_ne (Or.inl (hw _ (List.mem_of_getElem? (i := 52) rfl))) (Or.inl (hw _ (List.mem_of_getElem? (i := 83) rfl))) (by decide) (t := .byte) (t' := .int) (by decide) (by decide))))
  have f66 := (f48.other w59 (Ne.symm ne28))
  refine A61.retA d9_44 (by decide) (by decide) rfl rfl rfl ⟨_, rfl, ⟨b20, u47, K63, g22, z62, f64, f65, f60, f66, ne28, ?_⟩⟩
  rfl
abbrev y8_2 : MethodName := (⟨"java/lang/StringBuilder", "append", "(Ljava/lang/String;)Ljava/lang/StringBuilder;"⟩ : MethodName)
abbrev R8_2 : Room := { frames := 5, cells := 1, slots := 124, locals := 76 }
set_option maxRecDepth 65536 in
set_option maxHeartbeats 4000000 in
theorem ef8_2 (sb : Addr) (s : Addr)  (mid : MethodId) : entryFrame mid #[(.ref sb), (.ref s)] 2 = mkF mid 0 #[.val (.ref sb), .val (.ref s)] [] := by first | (simp [entryFrame, mkF, argsToLocals, Value.category]; done) | rfl
set_option maxRecDepth 65536 in
set_option maxHeartbeats 40000000 in
theorem rm8_2 (l : Launch) (Z : State) (a0 : Array Value) (hw : ∀ d ∈ tables_1, d.before a0 Z = true) (n0 : Nat) (ws : List Jvm.Cond) (sb : Addr) (s : Addr) (v : Addr) (b : Addr) (k : Nat → Value) (f : Nat → Value) (cs : Int32) (h0 : Heap) (hn0 : n0 ≤ h0.size) (e0 : Exa Z h0 sb "java/lang/StringBuilder") (e1 : Fld Z h0 sb "java/lang/AbstractStringBuilder" "value" "[B" (.ref v)) (e2 : Fld Z h0 sb "java/lang/AbstractStringBuilder" "coder" "B" (.int (0 : Int32))) (e3 : Ars Z h0 v .byte 61 f) (e4 : Fld Z h0 sb "java/lang/AbstractStringBuilder" "count" "I" (.int (61 : Int32))) (e5 : n0 ≤ sb) (e6 : sb ≠ v) (e7 : Exa Z h0 s "java/lang/String") (e8 : Fld Z h0 s "java/lang/String" "value" "[B" (.ref b)) (e9 : Fld Z h0 s "java/lang/String" "coder" "B" (.int (0 : Int32))) (e10 : Ars Z h0 b .byte 4 k) (e11 : sb ≠ s) (e12 : sb ≠ b) (e13 : Old Z n0 h0) (e14 : Sta Z Z.heap "java/lang/String" "COMPACT_STRINGS" "Z" (.int cs)) (e15 : cs.toInt ≠ 0) :
    Ctr l Z n0 y8_2 jdk_67_method_7_code 2 (some (.object "java/lang/StringBuilder")) ws R8_2 #[(.ref sb), (.ref s)] h0 (QA fun r h => ∃ v2 : Addr, ∃ g : Nat → Value, (Keep h0 h [sb]) ∧ (n0 ≤ v2) ∧ (h0.size ≤ v2) ∧ (Fld Z h sb "java/lang/AbstractStringBuilder" "value" "[B" (.ref v2)) ∧ (Fld Z h sb "java/lang/AbstractStringBuilder" "coder" "B" (.int (0 : Int32))) ∧ (Fld Z h sb "java/lang/AbstractStringBuilder" "count" "I" (.int (65 : Int32))) ∧ (Ars Z h v2 .byte 124 g) ∧ (sb ≠ v2) ∧ (r = sb)) := by
  refine ctr_of pn8 hn0 (ef8_2 sb s) fun G A0 => ?_
  have A1 := A0.aloadN (v := (.ref sb)) (pc' := 1) d8_0 rfl rfl rfl
  have A2 := A1.aloadN (v := (.ref s)) (pc' := 2) d8_1 rfl rfl rfl
  obtain ⟨r4, h6, ⟨b8, u9, K7, g10, z11, f12, f13, f14, f15, f16, q5⟩, A3⟩ := W.kA (A2.callX (a := sb) (argsL := [(.ref s)]) (rest := []) (C' := 1) (S' := 124) (pc' := 5) d8_2 (by decide) e0 (hw _ (List.mem_of_getElem? (i := 64) rfl)) (hw _ (List.mem_of_getElem? (i := 65) rfl)) (hw _ (List.mem_of_getElem? (i := 66) rfl)) (hw _ (List.mem_of_getElem? (i := 67) rfl)) (hw _ (List.mem_of_getElem? (i := 87) rfl)) (hw _ (List.mem_of_getElem? (i := 85) rfl)) rfl (hw _ (List.mem_of_getElem? (i := 43) rfl)) (hw _ (List.mem_of_getElem? (i := 68) rfl)) (rm9_2 l Z a0 hw n0 [] (sb) (s) (v) (b) (k) (f) (_) h0 A2.size e0 e1 e2 e3 e4 e5 e6 e7 e8 e9 e10 e11 e12 e13 e14 (by assumption)) rfl rfl pd_10 rfl rfl (by decide) (by decide) (Nat.le_of_ble_eq_true rfl) (by decide) (by decide) rfl rfl rfl)
  have ne17 : sb ≠ b8 := Nat.ne_of_lt (Nat.lt_of_lt_of_le e0.lt z11)
  have ne18 : v ≠ b8 := Nat.ne_of_lt (Nat.lt_of_lt_of_le e3.lt z11)
  have ne19 : s ≠ b8 := Nat.ne_of_lt (Nat.lt_of_lt_of_le e7.lt z11)
  have ne20 : b ≠ b8 := Nat.ne_of_lt (Nat.lt_of_lt_of_le e10.lt z11)
  have A21 := A3.pop (pc' := 6) d8_5 rfl rfl
  have A22 := A21.aloadN (v := (.ref sb)) (pc' := 7) d8_6 rfl rfl rfl
  have K23 : Keep h0 h6 [sb] := ((Keep.refl h0 [sb]).trans K7 (allS (Or.inl (List.mem_of_getElem? (i := 0) rfl)) all0))
  have z24 : h0.size ≤ b8 := Nat.le_trans (Nat.le_refl _) z11
  refine A22.retA d8_7 (by decide) (by decide) rfl rfl rfl ⟨_, rfl, ⟨b8, u9, K23, g10, z24, f12, f13, f14, f15, f16, ?_⟩⟩
  rfl
theorem pn32 : plainFor (⟨"java/util/Arrays", "checkLength", "(II)V"⟩ : MethodName) = true := by first | exact plainFor_of_name (by first | (simp [plainName, overriddenIn]; done) | decide +kernel) | exact Jvm.Free.JP.mathPlain rfl (by decide +kernel) | decide +kernel
theorem d32_0 : decode jdk_65_method_131_code 0 = .ok (.iload_n 1, 1) := by decide +kernel
theorem d32_1 : decode jdk_65_method_131_code 1 = .ok (.iload_n 0, 1) := by decide +kernel
theorem d32_2 : decode jdk_65_method_131_code 2 = .ok (.if_icmp .ge 35, 3) := by decide +kernel
theorem d32_37 : decode jdk_65_method_131_code 37 = .ok (.return_, 1) := by decide +kernel
abbrev y32 : MethodName := (⟨"java/util/Arrays", "checkLength", "(II)V"⟩ : MethodName)
abbrev R32 : Room := { frames := 0, cells := 0, slots := 0, locals := 0 }
set_option maxRecDepth 65536 in
set_option maxHeartbeats 4000000 in
theorem ef32   (mid : MethodId) : entryFrame mid #[(.int (0 : Int32)), (.int (65 : Int32))] 2 = mkF mid 0 #[.val (.int (0 : Int32)), .val (.int (65 : Int32))] [] := by first | (simp [entryFrame, mkF, argsToLocals, Value.category]; done) | rfl
set_option maxRecDepth 65536 in
set_option maxHeartbeats 40000000 in
theorem rm32 (l : Launch) (Z : State) (a0 : Array Value) (hw : ∀ d ∈ tables_1, d.before a0 Z = true) (n0 : Nat) (ws : List Jvm.Cond)   (h0 : Heap) (hn0 : n0 ≤ h0.size)  :
    Ctr l Z n0 y32 jdk_65_method_131_code 2 (none) ws R32 #[(.int (0 : Int32)), (.int (65 : Int32))] h0 (QV fun h => (h0 = h) ∧ (True)) := by
  refine ctr_of pn32 hn0 (ef32 ) fun G A0 => ?_
  have A1 := A0.iloadN (v := (65 : Int32)) (pc' := 1) d32_0 rfl rfl
  have A2 := A1.iloadN (v := (0 : Int32)) (pc' := 2) d32_1 rfl rfl
  have A4 := A2.icmpYes (pc' := 37) d32_2 (flt (inlt (x := (65 : Int32)) (y := (0 : Int32)) rfl rfl (by decide : ¬ ((65 : Int) < 0)))).2.1 (by decide) (by decide)
  refine A4.retV d32_37 (by decide) (by decide) ⟨rfl, ⟨rfl, ?_⟩⟩
  trivial
theorem pn31 : plainFor (⟨"java/util/Arrays", "copyOfRangeByte", "([BII)[B"⟩ : MethodName) = true := by first | exact plainFor_of_name (by first | (simp [plainName, overriddenIn]; done) | decide +kernel) | exact Jvm.Free.JP.mathPlain rfl (by decide +kernel) | decide +kernel
theorem d31_0 : decode jdk_65_method_133_code 0 = .ok (.iload_n 1, 1) := by decide +kernel
theorem d31_1 : decode jdk_65_method_133_code 1 = .ok (.iload_n 2, 1) := by decide +kernel
theorem d31_2 : decode jdk_65_method_133_code 2 = .ok (.invokestatic 343, 3) := by decide +kernel
theorem d31_5 : decode jdk_65_method_133_code 5 = .ok (.iload_n 2, 1) := by decide +kernel
theorem d31_6 : decode jdk_65_method_133_code 6 = .ok (.iload_n 1, 1) := by decide +kernel
theorem d31_7 : decode jdk_65_method_133_code 7 = .ok (.isub, 1) := by decide +kernel
theorem d31_8 : decode jdk_65_method_133_code 8 = .ok (.istore_n 3, 1) := by decide +kernel
theorem d31_9 : decode jdk_65_method_133_code 9 = .ok (.iload_n 3, 1) := by decide +kernel
theorem d31_10 : decode jdk_65_method_133_code 10 = .ok (.newarray .byte, 2) := by decide +kernel
theorem d31_12 : decode jdk_65_method_133_code 12 = .ok (.astore 4, 2) := by decide +kernel
theorem d31_14 : decode jdk_65_method_133_code 14 = .ok (.aload_n 0, 1) := by decide +kernel
theorem d31_15 : decode jdk_65_method_133_code 15 = .ok (.iload_n 1, 1) := by decide +kernel
theorem d31_16 : decode jdk_65_method_133_code 16 = .ok (.aload 4, 2) := by decide +kernel
theorem d31_18 : decode jdk_65_method_133_code 18 = .ok (.iconst 0, 1) := by decide +kernel
theorem d31_19 : decode jdk_65_method_133_code 19 = .ok (.aload_n 0, 1) := by decide +kernel
theorem d31_20 : decode jdk_65_method_133_code 20 = .ok (.arraylength, 1) := by decide +kernel
theorem d31_21 : decode jdk_65_method_133_code 21 = .ok (.iload_n 1, 1) := by decide +kernel
theorem d31_22 : decode jdk_65_method_133_code 22 = .ok (.isub, 1) := by decide +kernel
theorem d31_23 : decode jdk_65_method_133_code 23 = .ok (.iload_n 3, 1) := by decide +kernel
theorem d31_24 : decode jdk_65_method_133_code 24 = .ok (.invokestatic 304, 3) := by decide +kernel
theorem d31_27 : decode jdk_65_method_133_code 27 = .ok (.invokestatic 150, 3) := by decide +kernel
theorem d31_30 : decode jdk_65_method_133_code 30 = .ok (.aload 4, 2) := by decide +kernel
theorem d31_32 : decode jdk_65_method_133_code 32 = .ok (.areturn, 1) := by decide +kernel
abbrev y31 : MethodName := (⟨"java/util/Arrays", "copyOfRangeByte", "([BII)[B"⟩ : MethodName)
abbrev R31 : Room := { frames := 1, cells := 1, slots := 65, locals := 18 }
set_option maxRecDepth 65536 in
set_option maxHeartbeats 4000000 in
theorem ef31 (v : Addr)  (mid : MethodId) : entryFrame mid #[(.ref v), (.int (0 : Int32)), (.int (65 : Int32))] 5 = mkF mid 0 #[.val (.ref v), .val (.int (0 : Int32)), .val (.int (65 : Int32)), .unset, .unset] [] := by first | (simp [entryFrame, mkF, argsToLocals, Value.category]; done) | rfl
set_option maxRecDepth 65536 in
set_option maxHeartbeats 40000000 in
theorem rm31 (l : Launch) (Z : State) (a0 : Array Value) (hw : ∀ d ∈ tables_1, d.before a0 Z = true) (n0 : Nat) (ws : List Jvm.Cond) (v : Addr) (f : Nat → Value) (h0 : Heap) (hn0 : n0 ≤ h0.size) (e0 : Ars Z h0 v .byte 124 f) :
    Ctr l Z n0 y31 jdk_65_method_133_code 5 (some (.array .byte)) ws R31 #[(.ref v), (.int (0 : Int32)), (.int (65 : Int32))] h0 (QA fun r h => ∃ g : Nat → Value, (Keep h0 h []) ∧ (n0 ≤ r) ∧ (h0.size ≤ r) ∧ (Ars Z h r .byte 65 g) ∧ (True)) := by
  refine ctr_of pn31 hn0 (ef31 v) fun G A0 => ?_
  have A1 := A0.iloadN (v := (0 : Int32)) (pc' := 1) d31_0 rfl rfl
  have A2 := A1.iloadN (v := (65 : Int32)) (pc' := 2) d31_1 rfl rfl
  obtain ⟨_, ⟨rfl, q5⟩, A3⟩ := W.kV (A2.callS (argsL := [(.int (0 : Int32)), (.int (65 : Int32))]) (rest := []) (C' := 0) (S' := 0) (pc' := 5) d31_2 (hw _ (List.mem_of_getElem? (i := 180) rfl)) (hw _ (List.mem_of_getElem? (i := 181) rfl)) (hw _ (List.mem_of_getElem? (i := 106) rfl)) (hw _ (List.mem_of_getElem? (i := 182) rfl)) (rm32 l Z a0 hw n0 []   h0 A2.size ) rfl rfl pd_11 rfl rfl (by decide) (by decide) (Nat.le_of_ble_eq_true rfl) (by decide) (by decide) rfl rfl rfl)
  have A7 := A3.iloadN (v := (65 : Int32)) (pc' := 6) d31_5 rfl rfl
  have A8 := A7.iloadN (v := (0 : Int32)) (pc' := 7) d31_6 rfl rfl
  have A9 := A8.isub (pc' := 8) d31_7 rfl
  have A10 := A9.topI (z := (65 : Int32)) (by decide)
  have A11 := A10.istoreN (Ls' := #[.val (.ref v), .val (.int (0 : Int32)), .val (.int (65 : Int32)), .val (.int (65 : Int32)), .unset]) (pc' := 9) d31_8 rfl rfl
  have A12 := A11.iloadN (v := (65 : Int32)) (pc' := 10) d31_9 rfl rfl
  obtain ⟨h13, b14, eb15, g16, E17, X18, XE20, A19⟩ := A12.newP (z := (65 : Int32)) (N := 65) (cap := 65) (C' := 1) (S' := 65) (pc' := 12) d31_10 (hw _ (List.mem_of_getElem? (i := 48) rfl)) rfl (by decide) (by decide) (by decide) (by decide) rfl rfl rfl rfl
  have ne21 : v ≠ b14 := Nat.ne_of_lt (Nat.lt_of_lt_of_le e0.lt (Nat.le_of_eq eb15.symm))
  change Exa Z h13 b14 "[B" at XE20
  change Ars Z h13 b14 .byte 65 (fun _ => (.int (0 : Int32))) at X18
  have A22 := A19.astore (Ls' := #[.val (.ref v), .val (.int (0 : Int32)), .val (.int (65 : Int32)), .val (.int (65 : Int32)), .val (.ref b14)]) (pc' := 14) d31_12 rfl rfl rfl
  have A23 := A22.aloadN (v := (.ref v)) (pc' := 15) d31_14 rfl rfl rfl
  have A24 := A23.iloadN (v := (0 : Int32)) (pc' := 16) d31_15 rfl rfl
  have A25 := A24.aload (v := (.ref b14)) (pc' := 18) d31_16 rfl rfl rfl
  have A26 := A25.iconst (z := (0 : Int32)) (pc' := 19) d31_18 rfl rfl
  have A27 := A26.aloadN (v := (.ref v)) (pc' := 20) d31_19 rfl rfl rfl
  have f28 := (e0.ext E17)
  have A29 := A27.alen (z := (124 : Int32)) (pc' := 21) d31_20 f28 rfl rfl
  have A30 := A29.iloadN (v := (0 : Int32)) (pc' := 22) d31_21 rfl rfl
  have A31 := A30.isub (pc' := 23) d31_22 rfl
  have A32 := A31.topI (z := (124 : Int32)) (by decide)
  have A33 := A32.iloadN (v := (65 : Int32)) (pc' := 24) d31_23 rfl rfl
  obtain ⟨r35, _, ⟨rfl, q36⟩, A34⟩ := W.kI (A33.callS (argsL := [(.int (124 : Int32)), (.int (65 : Int32))]) (rest := [(.int (0 : Int32)), (.ref b14), (.int (0 : Int32)), (.ref v)]) (C' := 1) (S' := 65) (pc' := 27) d31_24 (hw _ (List.mem_of_getElem? (i := 108) rfl)) (hw _ (List.mem_of_getElem? (i := 109) rfl)) (hw _ (List.mem_of_getElem? (i := 100) rfl)) (hw _ (List.mem_of_getElem? (i := 110) rfl)) (rm17_124_65 l Z a0 hw n0 []   h13 A33.size ) rfl rfl pd_1 rfl rfl (by decide) (by decide) (Nat.le_of_ble_eq_true rfl) (by decide) (by decide) rfl rfl rfl)
  subst q36
  obtain ⟨h38, K39, X40, A41⟩ := A34.acopy (i := 0) (j := 0) (k := 65) (pc' := 30) d31_27 (hw _ (List.mem_of_getElem? (i := 111) rfl)) (hw _ (List.mem_of_getElem? (i := 114) rfl)) (hw _ (List.mem_of_getElem? (i := 112) rfl)) (hw _ (List.mem_of_getElem? (i := 113) rfl)) f28 X18 rfl rfl rfl rfl (by decide) (by decide) g16 rfl (by decide) (Nat.le_of_ble_eq_true rfl) rfl
  have A42 := A41.aload (v := (.ref b14)) (pc' := 32) d31_30 rfl rfl rfl
  have z43 : h0.size ≤ b14 := Nat.le_trans (Nat.le_refl _) (Nat.le_of_eq eb15.symm)
  have K44 : Keep h0 h38 [] := (((Keep.refl h0 []).ext E17).trans K39 (allS (Or.inr z43) all0))
  refine A42.retA d31_32 (by decide) (by decide) rfl rfl rfl ⟨_, rfl, ⟨(cpy f 0 (fun _ => (.int (0 : Int32))) 0 65), K44, g16, z43, X40, ?_⟩⟩
  trivial
theorem pn30 : plainFor (⟨"java/util/Arrays", "copyOfRange", "([BII)[B"⟩ : MethodName) = true := by first | exact plainFor_of_name (by first | (simp [plainName, overriddenIn]; done) | decide +kernel) | exact Jvm.Free.JP.mathPlain rfl (by decide +kernel) | decide +kernel
theorem d30_0 : decode jdk_65_method_132_code 0 = .ok (.iload_n 1, 1) := by decide +kernel
theorem d30_1 : decode jdk_65_method_132_code 1 = .ok (.ifCond .ne 9, 3) := by decide +kernel
theorem d30_4 : decode jdk_65_method_132_code 4 = .ok (.iload_n 2, 1) := by decide +kernel
theorem d30_5 : decode jdk_65_method_132_code 5 = .ok (.aload_n 0, 1) := by decide +kernel
theorem d30_6 : decode jdk_65_method_132_code 6 = .ok (.arraylength, 1) := by decide +kernel
theorem d30_7 : decode jdk_65_method_132_code 7 = .ok (.if_icmp .eq 10, 3) := by decide +kernel
theorem d30_10 : decode jdk_65_method_132_code 10 = .ok (.aload_n 0, 1) := by decide +kernel
theorem d30_11 : decode jdk_65_method_132_code 11 = .ok (.iload_n 1, 1) := by decide +kernel
theorem d30_12 : decode jdk_65_method_132_code 12 = .ok (.iload_n 2, 1) := by decide +kernel
theorem d30_13 : decode jdk_65_method_132_code 13 = .ok (.invokestatic 339, 3) := by decide +kernel
theorem d30_16 : decode jdk_65_method_132_code 16 = .ok (.areturn, 1) := by decide +kernel
abbrev y30 : MethodName := (⟨"java/util/Arrays", "copyOfRange", "([BII)[B"⟩ : MethodName)
abbrev R30 : Room := { frames := 2, cells := 1, slots := 65, locals := 34 }
set_option maxRecDepth 65536 in
set_option maxHeartbeats 4000000 in
theorem ef30 (v : Addr)  (mid : MethodId) : entryFrame mid #[(.ref v), (.int (0 : Int32)), (.int (65 : Int32))] 3 = mkF mid 0 #[.val (.ref v), .val (.int (0 : Int32)), .val (.int (65 : Int32))] [] := by first | (simp [entryFrame, mkF, argsToLocals, Value.category]; done) | rfl
set_option maxRecDepth 65536 in
set_option maxHeartbeats 40000000 in
theorem rm30 (l : Launch) (Z : State) (a0 : Array Value) (hw : ∀ d ∈ tables_1, d.before a0 Z = true) (n0 : Nat) (ws : List Jvm.Cond) (v : Addr) (f : Nat → Value) (h0 : Heap) (hn0 : n0 ≤ h0.size) (e0 : Ars Z h0 v .byte 124 f) :
    Ctr l Z n0 y30 jdk_65_method_132_code 3 (some (.array .byte)) ws R30 #[(.ref v), (.int (0 : Int32)), (.int (65 : Int32))] h0 (QA fun r h => ∃ g : Nat → Value, (Keep h0 h []) ∧ (n0 ≤ r) ∧ (h0.size ≤ r) ∧ (Ars Z h r .byte 65 g) ∧ (True)) := by
  refine ctr_of pn30 hn0 (ef30 v) fun G A0 => ?_
  have A1 := A0.iloadN (v := (0 : Int32)) (pc' := 1) d30_0 rfl rfl
  have A3 := A1.ifNo (pc' := 4) d30_1 (teq (ieq (x := (0 : Int32)) (y := (0 : Int32)) rfl rfl (by decide : (0 : Int) = 0))).2 rfl
  have A4 := A3.iloadN (v := (65 : Int32)) (pc' := 5) d30_4 rfl rfl
  have A5 := A4.aloadN (v := (.ref v)) (pc' := 6) d30_5 rfl rfl rfl
  have A6 := A5.alen (z := (124 : Int32)) (pc' := 7) d30_6 e0 rfl rfl
  have A8 := A6.icmpNo (pc' := 10) d30_7 (feq (ine (x := (65 : Int32)) (y := (124 : Int32)) rfl rfl (by decide : ¬ ((65 : Int) = 124)))).1 rfl
  have A9 := A8.aloadN (v := (.ref v)) (pc' := 11) d30_10 rfl rfl rfl
  have A10 := A9.iloadN (v := (0 : Int32)) (pc' := 12) d30_11 rfl rfl
  have A11 := A10.iloadN (v := (65 : Int32)) (pc' := 13) d30_12 rfl rfl
  obtain ⟨r13, h15, ⟨u17, K16, g18, z19, f20, q14⟩, A12⟩ := W.kA (A11.callS (argsL := [(.ref v), (.int (0 : Int32)), (.int (65 : Int32))]) (rest := []) (C' := 1) (S' := 65) (pc' := 16) d30_13 (hw _ (List.mem_of_getElem? (i := 177) rfl)) (hw _ (List.mem_of_getElem? (i := 178) rfl)) (hw _ (List.mem_of_getElem? (i := 106) rfl)) (hw _ (List.mem_of_getElem? (i := 179) rfl)) (rm31 l Z a0 hw n0 [] (v) (f) h0 A11.size e0) rfl rfl pd_12 rfl rfl (by decide) (by decide) (Nat.le_of_ble_eq_true rfl) (by decide) (by decide) rfl rfl rfl)
  have ne21 : v ≠ r13 := Nat.ne_of_lt (Nat.lt_of_lt_of_le e0.lt z19)
  have K22 : Keep h0 h15 [] := ((Keep.refl h0 []).trans K16 all0)
  have z23 : h0.size ≤ r13 := Nat.le_trans (Nat.le_refl _) z19
  refine A12.retA d30_16 (by decide) (by decide) rfl rfl rfl ⟨_, rfl, ⟨u17, K22, g18, z23, f20, ?_⟩⟩
  trivial
abbrev y28_t : MethodName := (⟨"java/lang/AbstractStringBuilder", "length", "()I"⟩ : MethodName)
abbrev R28_t : Room := { frames := 0, cells := 0, slots := 0, locals := 0 }
set_option maxRecDepth 65536 in
set_option maxHeartbeats 4000000 in
theorem ef28_t (sb : Addr)  (mid : MethodId) : entryFrame mid #[(.ref sb)] 1 = mkF mid 0 #[.val (.ref sb)] [] := by first | (simp [entryFrame, mkF, argsToLocals, Value.category]; done) | rfl
set_option maxRecDepth 65536 in
set_option maxHeartbeats 40000000 in
theorem rm28_t (l : Launch) (Z : State) (a0 : Array Value) (hw : ∀ d ∈ tables_1, d.before a0 Z = true) (n0 : Nat) (ws : List Jvm.Cond) (sb : Addr)  (h0 : Heap) (hn0 : n0 ≤ h0.size) (e0 : Fld Z h0 sb "java/lang/AbstractStringBuilder" "count" "I" (.int (65 : Int32))) :
    Ctr l Z n0 y28_t jdk_68_method_6_code 1 (some .int) ws R28_t #[(.ref sb)] h0 (QI fun r h => (h0 = h) ∧ (r = (65 : Int32))) := by
  refine ctr_of pn28 hn0 (ef28_t sb) fun G A0 => ?_
  have A1 := A0.aloadN (v := (.ref sb)) (pc' := 1) d28_0 rfl rfl rfl
  have A2 := A1.getF (pc' := 4) (host := "") d28_1 (Or.inl (hw _ (List.mem_of_getElem? (i := 82) rfl))) Via.refl e0 rfl
  refine A2.retI d28_4 (by decide) (by decide) ⟨_, rfl, ⟨rfl, ?_⟩⟩
  have elit : (65 : Int32).toInt = 65 := rfl
  rfl
theorem pn27 : plainFor (⟨"java/lang/StringBuilder", "length", "()I"⟩ : MethodName) = true := by first | exact plainFor_of_name (by first | (simp [plainName, overriddenIn]; done) | decide +kernel) | exact Jvm.Free.JP.mathPlain rfl (by decide +kernel) | decide +kernel
theorem d27_0 : decode jdk_67_method_93_code 0 = .ok (.aload_n 0, 1) := by decide +kernel
theorem d27_1 : decode jdk_67_method_93_code 1 = .ok (.invokespecial 343, 3) := by decide +kernel
theorem d27_4 : decode jdk_67_method_93_code 4 = .ok (.ireturn, 1) := by decide +kernel
abbrev y27 : MethodName := (⟨"java/lang/StringBuilder", "length", "()I"⟩ : MethodName)
abbrev R27 : Room := { frames := 1, cells := 0, slots := 0, locals := 12 }
set_option maxRecDepth 65536 in
set_option maxHeartbeats 4000000 in
theorem ef27 (sb : Addr)  (mid : MethodId) : entryFrame mid #[(.ref sb)] 1 = mkF mid 0 #[.val (.ref sb)] [] := by first | (simp [entryFrame, mkF, argsToLocals, Value.category]; done) | rfl
set_option maxRecDepth 65536 in
set_option maxHeartbeats 40000000 in
theorem rm27 (l : Launch) (Z : State) (a0 : Array Value) (hw : ∀ d ∈ tables_1, d.before a0 Z = true) (n0 : Nat) (ws : List Jvm.Cond) (sb : Addr)  (h0 : Heap) (hn0 : n0 ≤ h0.size) (e0 : Exa Z h0 sb "java/lang/StringBuilder") (e1 : Fld Z h0 sb "java/lang/AbstractStringBuilder" "count" "I" (.int (65 : Int32))) :
    Ctr l Z n0 y27 jdk_67_method_93_code 1 (some .int) ws R27 #[(.ref sb)] h0 (QI fun r h => (h0 = h) ∧ (r = (65 : Int32))) := by
  refine ctr_of pn27 hn0 (ef27 sb) fun G A0 => ?_
  have A1 := A0.aloadN (v := (.ref sb)) (pc' := 1) d27_0 rfl rfl rfl
  obtain ⟨r3, _, ⟨rfl, q4⟩, A2⟩ := W.kI (A1.callX (a := sb) (argsL := []) (rest := []) (C' := 0) (S' := 0) (pc' := 4) d27_1 (by decide) e0 (hw _ (List.mem_of_getElem? (i := 167) rfl)) (hw _ (List.mem_of_getElem? (i := 163) rfl)) (hw _ (List.mem_of_getElem? (i := 66) rfl)) (hw _ (List.mem_of_getElem? (i := 162) rfl)) (hw _ (List.mem_of_getElem? (i := 87) rfl)) (hw _ (List.mem_of_getElem? (i := 85) rfl)) rfl (hw _ (List.mem_of_getElem? (i := 43) rfl)) (hw _ (List.mem_of_getElem? (i := 168) rfl)) (rm28_t l Z a0 hw n0 [] (sb)  h0 A1.size e1) rfl rfl pd_8 rfl rfl (by decide) (by decide) (Nat.le_of_ble_eq_true rfl) (by decide) (by decide) rfl rfl rfl)
  subst q4
  refine A2.retI d27_4 (by decide) (by decide) ⟨_, rfl, ⟨rfl, ?_⟩⟩
  have elit : (65 : Int32).toInt = 65 := rfl
  rfl
theorem pn25 : plainFor (⟨"java/lang/String", "<init>", "(Ljava/lang/AbstractStringBuilder;Ljava/lang/Void;)V"⟩ : MethodName) = true := by first | exact plainFor_of_name (by first | (simp [plainName, overriddenIn]; done) | decide +kernel) | exact Jvm.Free.JP.mathPlain rfl (by decide +kernel) | decide +kernel
theorem d25_0 : decode jdk_42_method_150_code 0 = .ok (.aload_n 0, 1) := by decide +kernel
theorem d25_1 : decode jdk_42_method_150_code 1 = .ok (.invokespecial 1, 3) := by decide +kernel
theorem d25_4 : decode jdk_42_method_150_code 4 = .ok (.aload_n 1, 1) := by decide +kernel
theorem d25_5 : decode jdk_42_method_150_code 5 = .ok (.invokevirtual 552, 3) := by decide +kernel
theorem d25_8 : decode jdk_42_method_150_code 8 = .ok (.astore_n 3, 1) := by decide +kernel
theorem d25_9 : decode jdk_42_method_150_code 9 = .ok (.aload_n 1, 1) := by decide +kernel
theorem d25_10 : decode jdk_42_method_150_code 10 = .ok (.invokevirtual 549, 3) := by decide +kernel
theorem d25_13 : decode jdk_42_method_150_code 13 = .ok (.istore 4, 2) := by decide +kernel
theorem d25_15 : decode jdk_42_method_150_code 15 = .ok (.aload_n 1, 1) := by decide +kernel
theorem d25_16 : decode jdk_42_method_150_code 16 = .ok (.invokevirtual 1047, 3) := by decide +kernel
theorem d25_19 : decode jdk_42_method_150_code 19 = .ok (.ifCond .eq 22, 3) := by decide +kernel
theorem d25_22 : decode jdk_42_method_150_code 22 = .ok (.aload_n 0, 1) := by decide +kernel
theorem d25_23 : decode jdk_42_method_150_code 23 = .ok (.iconst 0, 1) := by decide +kernel
theorem d25_24 : decode jdk_42_method_150_code 24 = .ok (.putfield 15, 3) := by decide +kernel
theorem d25_27 : decode jdk_42_method_150_code 27 = .ok (.aload_n 0, 1) := by decide +kernel
theorem d25_28 : decode jdk_42_method_150_code 28 = .ok (.aload_n 3, 1) := by decide +kernel
theorem d25_29 : decode jdk_42_method_150_code 29 = .ok (.iconst 0, 1) := by decide +kernel
theorem d25_30 : decode jdk_42_method_150_code 30 = .ok (.iload 4, 2) := by decide +kernel
theorem d25_32 : decode jdk_42_method_150_code 32 = .ok (.invokestatic 54, 3) := by decide +kernel
theorem d25_35 : decode jdk_42_method_150_code 35 = .ok (.putfield 9, 3) := by decide +kernel
theorem d25_38 : decode jdk_42_method_150_code 38 = .ok (.goto 59, 3) := by decide +kernel
theorem d25_97 : decode jdk_42_method_150_code 97 = .ok (.return_, 1) := by decide +kernel
abbrev y25 : MethodName := (⟨"java/lang/String", "<init>", "(Ljava/lang/AbstractStringBuilder;Ljava/lang/Void;)V"⟩ : MethodName)
abbrev R25 : Room := { frames := 3, cells := 1, slots := 65, locals := 49 }
set_option maxRecDepth 65536 in
set_option maxHeartbeats 4000000 in
theorem ef25 (s : Addr) (sb : Addr)  (mid : MethodId) : entryFrame mid #[(.ref s), (.ref sb), .null] 5 = mkF mid 0 #[.val (.ref s), .val (.ref sb), .val .null, .unset, .unset] [] := by first | (simp [entryFrame, mkF, argsToLocals, Value.category]; done) | rfl
set_option maxRecDepth 65536 in
set_option maxHeartbeats 40000000 in
theorem rm25 (l : Launch) (Z : State) (a0 : Array Value) (hw : ∀ d ∈ tables_1, d.before a0 Z = true) (n0 : Nat) (ws : List Jvm.Cond) (s : Addr) (sb : Addr) (v : Addr) (f : Nat → Value) (cs : Int32) (h0 : Heap) (hn0 : n0 ≤ h0.size) (e0 : Exa Z h0 s "java/lang/String") (e1 : Fld Z h0 s "java/lang/String" "value" "[B" .null) (e2 : Fld Z h0 s "java/lang/String" "coder" "B" (.int (0 : Int32))) (e3 : n0 ≤ s) (e4 : Exa Z h0 sb "java/lang/StringBuilder") (e5 : Fld Z h0 sb "java/lang/AbstractStringBuilder" "value" "[B" (.ref v)) (e6 : Fld Z h0 sb "java/lang/AbstractStringBuilder" "coder" "B" (.int (0 : Int32))) (e7 : Fld Z h0 sb "java/lang/AbstractStringBuilder" "count" "I" (.int (65 : Int32))) (e8 : Ars Z h0 v .byte 124 f) (e9 : s ≠ sb) (e10 : s ≠ v) (e11 : Old Z n0 h0) (e12 : Sta Z Z.heap "java/lang/String" "COMPACT_STRINGS" "Z" (.int cs)) (e13 : cs.toInt ≠ 0) :
    Ctr l Z n0 y25 jdk_42_method_150_code 5 (none) ws R25 #[(.ref s), (.ref sb), .null] h0 (QV fun h => (Keep h0 h [s]) ∧ (True)) := by
  refine ctr_of pn25 hn0 (ef25 s sb) fun G A0 => ?_
  have A1 := A0.aloadN (v := (.ref s)) (pc' := 1) d25_0 rfl rfl rfl
  have A2 := A1.initO (pc' := 4) d25_1 (hw _ (List.mem_of_getElem? (i := 155) rfl)) (hw _ (List.mem_of_getElem? (i := 8) rfl)) (hw _ (List.mem_of_getElem? (i := 9) rfl)) rfl (by decide) (Nat.le_of_ble_eq_true rfl) rfl
  have A3 := A2.aloadN (v := (.ref sb)) (pc' := 5) d25_4 rfl rfl rfl
  obtain ⟨r5, _, ⟨rfl, q6⟩, A4⟩ := W.kA (A3.callV (a := sb) (argsL := []) (rest := []) (C' := 0) (S' := 0) (pc' := 8) d25_5 e4 (hw _ (List.mem_of_getElem? (i := 156) rfl)) (hw _ (List.mem_of_getElem? (i := 157) rfl)) (fun hZ => notFace_of_selects (args := #[]) (mvT hZ (hw _ (List.mem_of_getElem? (i := 159) rfl)))) (hw _ (List.mem_of_getElem? (i := 159) rfl)) (hw _ (List.mem_of_getElem? (i := 158) rfl)) (hw _ (List.mem_of_getElem? (i := 43) rfl)) (hw _ (List.mem_of_getElem? (i := 160) rfl)) (rm26 l Z a0 hw n0 [] (sb) (v) h0 A3.size e5) rfl rfl pd_13 rfl rfl (by decide) (by decide) (Nat.le_of_ble_eq_true rfl) (by decide) (by decide) rfl rfl rfl)
  have A8 := A4.cast (Ls' := #[.val (.ref s), .val (.ref sb), .val .null, .unset, .unset]) (St' := [(.ref v)]) rfl rfl (by rw [q6])
  have A9 := A8.astoreN (Ls' := #[.val (.ref s), .val (.ref sb), .val .null, .val (.ref v), .unset]) (pc' := 9) d25_8 rfl rfl rfl
  have A10 := A9.aloadN (v := (.ref sb)) (pc' := 10) d25_9 rfl rfl rfl
  obtain ⟨r12, _, ⟨rfl, q13⟩, A11⟩ := W.kI (A10.callV (a := sb) (argsL := []) (rest := []) (C' := 0) (S' := 0) (pc' := 13) d25_10 e4 (hw _ (List.mem_of_getElem? (i := 161) rfl)) (hw _ (List.mem_of_getElem? (i := 162) rfl)) (fun hZ => nf_same (args := #[]) (args' := #[]) (mvT hZ (hw _ (List.mem_of_getElem? (i := 87) rfl))) (mvT hZ (hw _ (List.mem_of_getElem? (i := 85) rfl))) rfl) (hw _ (List.mem_of_getElem? (i := 164) rfl)) (hw _ (List.mem_of_getElem? (i := 165) rfl)) (hw _ (List.mem_of_getElem? (i := 35) rfl)) (hw _ (List.mem_of_getElem? (i := 166) rfl)) (rm27 l Z a0 hw n0 [] (sb)  h0 A10.size e4 e7) rfl rfl pd_8 rfl rfl (by decide) (by decide) (Nat.le_of_ble_eq_true rfl) (by decide) (by decide) rfl rfl rfl)
  subst q13
  have A15 := A11.istore (Ls' := #[.val (.ref s), .val (.ref sb), .val .null, .val (.ref v), .val (.int (65 : Int32))]) (pc' := 15) d25_13 rfl rfl
  have A16 := A15.aloadN (v := (.ref sb)) (pc' := 16) d25_15 rfl rfl rfl
  obtain ⟨r18, _, ⟨rfl, q19⟩, A17⟩ := W.kI (A16.callV (a := sb) (argsL := []) (rest := []) (C' := 0) (S' := 0) (pc' := 19) d25_16 e4 (hw _ (List.mem_of_getElem? (i := 169) rfl)) (hw _ (List.mem_of_getElem? (i := 170) rfl)) (fun hZ => notFace_of_selects (args := #[]) (mvT hZ (hw _ (List.mem_of_getElem? (i := 172) rfl)))) (hw _ (List.mem_of_getElem? (i := 172) rfl)) (hw _ (List.mem_of_getElem? (i := 171) rfl)) (hw _ (List.mem_of_getElem? (i := 43) rfl)) (hw _ (List.mem_of_getElem? (i := 173) rfl)) (rm29 l Z a0 hw n0 [] (sb) (_) h0 A16.size e6 e11 e12 (by assumption)) rfl rfl pd_14 rfl rfl (by decide) (by decide) (Nat.le_of_ble_eq_true rfl) (by decide) (by decide) rfl rfl rfl)
  subst q19
  have A22 := A17.ifNo (pc' := 22) d25_19 (feq (ine (x := (1 : Int32)) (y := (0 : Int32)) rfl rfl (by decide : ¬ ((1 : Int) = 0)))).1 rfl
  have A23 := A22.aloadN (v := (.ref s)) (pc' := 23) d25_22 rfl rfl rfl
  have A24 := A23.iconst (z := (0 : Int32)) (pc' := 24) d25_23 rfl rfl
  obtain ⟨h26, w27, A25⟩ := A24.putFN (pc' := 27) (ty := .byte) (v' := (.int (0 : Int32))) d25_24 (hw _ (List.mem_of_getElem? (i := 81) rfl)) Via.refl e2 e0 (Or.inr ⟨(hw _ (List.mem_of_getElem? (i := 56) rfl)), rfl, rfl⟩) (hw _ (List.mem_of_getElem? (i := 54) rfl)) (by decide) rfl rfl e3 rfl
  have f28 := e2.same w27
  have A29 := A25.aloadN (v := (.ref s)) (pc' := 28) d25_27 rfl rfl rfl
  have A30 := A29.aloadN (v := (.ref v)) (pc' := 29) d25_28 rfl rfl rfl
  have A31 := A30.iconst (z := (0 : Int32)) (pc' := 30) d25_29 rfl rfl
  have A32 := A31.iload (v := (65 : Int32)) (pc' := 32) d25_30 rfl rfl
  have f33 := (e8.other w27 (Ne.symm e10))
  obtain ⟨r35, h37, ⟨u39, K38, g40, z41, f42, q36⟩, A34⟩ := W.kA (A32.callS (argsL := [(.ref v), (.int (0 : Int32)), (.int (65 : Int32))]) (rest := [(.ref s)]) (C' := 1) (S' := 65) (pc' := 35) d25_32 (hw _ (List.mem_of_getElem? (i := 174) rfl)) (hw _ (List.mem_of_getElem? (i := 175) rfl)) (hw _ (List.mem_of_getElem? (i := 106) rfl)) (hw _ (List.mem_of_getElem? (i := 176) rfl)) (rm30 l Z a0 hw n0 [] (v) (f) h26 A32.size f33) rfl rfl pd_12 rfl rfl (by decide) (by decide) (Nat.le_of_ble_eq_true rfl) (by decide) (by decide) rfl rfl rfl)
  have f43 := (e0.wr w27)
  have ne44 : s ≠ r35 := Nat.ne_of_lt (Nat.lt_of_lt_of_le f43.lt z41)
  have f45 := (e4.wr w27)
  have ne46 : sb ≠ r35 := Nat.ne_of_lt (Nat.lt_of_lt_of_le f45.lt z41)
  have ne47 : v ≠ r35 := Nat.ne_of_lt (Nat.lt_of_lt_of_le f33.lt z41)
  have f48 := ((e1.other w27 (Or.inr (slot_ne (Or.inr (hw _ (List.mem_of_getElem? (i := 55) rfl))) (Or.inr (hw _ (List.mem_of_getElem? (i := 56) rfl))) (by decide) (t := (.array .byte)) (t' := .byte) (by decide) (by decide)))).keep K38 nin0)
  have f49 := (f43.keep K38)
  obtain ⟨h51, w52, A50⟩ := A34.putF (pc' := 38) (ty := (.array .byte)) (host := "") d25_35 (Or.inl (hw _ (List.mem_of_getElem? (i := 74) rfl))) Via.refl f48 f49 (Or.inr ⟨(hw _ (List.mem_of_getElem? (i := 55) rfl)), rfl, rfl⟩) (hw _ (List.mem_of_getElem? (i := 54) rfl)) (by decide) rfl rfl e3 rfl
  have f53 := f48.same w52
  have A54 := A50.goto (pc' := 97) d25_38 (by decide) (by decide)
  have K55 : Keep h0 h51 [s] := ((((Keep.refl h0 [s]).wr w27 (Or.inl (List.mem_of_getElem? (i := 0) rfl))).trans K38 all0).wr w52 (Or.inl (List.mem_of_getElem? (i := 0) rfl)))
  refine A54.retV d25_97 (by decide) (by decide) ⟨rfl, ⟨K55, ?_⟩⟩
  trivial
theorem pn24 : plainFor (⟨"java/lang/String", "<init>", "(Ljava/lang/StringBuilder;)V"⟩ : MethodName) = true := by first | exact plainFor_of_name (by first | (simp [plainName, overriddenIn]; done) | decide +kernel) | exact Jvm.Free.JP.mathPlain rfl (by decide +kernel) | decide +kernel
theorem d24_0 : decode jdk_42_method_53_code 0 = .ok (.aload_n 0, 1) := by decide +kernel
theorem d24_1 : decode jdk_42_method_53_code 1 = .ok (.aload_n 1, 1) := by decide +kernel
theorem d24_2 : decode jdk_42_method_53_code 2 = .ok (.aconst_null, 1) := by decide +kernel
theorem d24_3 : decode jdk_42_method_53_code 3 = .ok (.invokespecial 489, 3) := by decide +kernel
theorem d24_6 : decode jdk_42_method_53_code 6 = .ok (.return_, 1) := by decide +kernel
abbrev y24 : MethodName := (⟨"java/lang/String", "<init>", "(Ljava/lang/StringBuilder;)V"⟩ : MethodName)
abbrev R24 : Room := { frames := 4, cells := 1, slots := 65, locals := 65 }
set_option maxRecDepth 65536 in
set_option maxHeartbeats 4000000 in
theorem ef24 (s : Addr) (sb : Addr)  (mid : MethodId) : entryFrame mid #[(.ref s), (.ref sb)] 2 = mkF mid 0 #[.val (.ref s), .val (.ref sb)] [] := by first | (simp [entryFrame, mkF, argsToLocals, Value.category]; done) | rfl
set_option maxRecDepth 65536 in
set_option maxHeartbeats 40000000 in
theorem rm24 (l : Launch) (Z : State) (a0 : Array Value) (hw : ∀ d ∈ tables_1, d.before a0 Z = true) (n0 : Nat) (ws : List Jvm.Cond) (s : Addr) (sb : Addr) (v : Addr) (f : Nat → Value) (cs : Int32) (h0 : Heap) (hn0 : n0 ≤ h0.size) (e0 : Exa Z h0 s "java/lang/String") (e1 : Fld Z h0 s "java/lang/String" "value" "[B" .null) (e2 : Fld Z h0 s "java/lang/String" "coder" "B" (.int (0 : Int32))) (e3 : n0 ≤ s) (e4 : Exa Z h0 sb "java/lang/StringBuilder") (e5 : Fld Z h0 sb "java/lang/AbstractStringBuilder" "value" "[B" (.ref v)) (e6 : Fld Z h0 sb "java/lang/AbstractStringBuilder" "coder" "B" (.int (0 : Int32))) (e7 : Fld Z h0 sb "java/lang/AbstractStringBuilder" "count" "I" (.int (65 : Int32))) (e8 : Ars Z h0 v .byte 124 f) (e9 : s ≠ sb) (e10 : s ≠ v) (e11 : Old Z n0 h0) (e12 : Sta Z Z.heap "java/lang/String" "COMPACT_STRINGS" "Z" (.int cs)) (e13 : cs.toInt ≠ 0) :
    Ctr l Z n0 y24 jdk_42_method_53_code 2 (none) ws R24 #[(.ref s), (.ref sb)] h0 (QV fun h => (Keep h0 h [s]) ∧ (True)) := by
  refine ctr_of pn24 hn0 (ef24 s sb) fun G A0 => ?_
  have A1 := A0.aloadN (v := (.ref s)) (pc' := 1) d24_0 rfl rfl rfl
  have A2 := A1.aloadN (v := (.ref sb)) (pc' := 2) d24_1 rfl rfl rfl
  have A3 := A2.aconstNull (pc' := 3) d24_2 rfl
  obtain ⟨h7, ⟨K8, q6⟩, A4⟩ := W.kV (A3.callI (a := s) (argsL := [(.ref sb), .null]) (rest := []) (C' := 1) (S' := 65) (pc' := 6) d24_3 rfl (hw _ (List.mem_of_getElem? (i := 152) rfl)) (hw _ (List.mem_of_getElem? (i := 153) rfl)) (hw _ (List.mem_of_getElem? (i := 47) rfl)) (hw _ (List.mem_of_getElem? (i := 154) rfl)) (rm25 l Z a0 hw n0 [] (s) (sb) (v) (f) (_) h0 A3.size e0 e1 e2 e3 e4 e5 e6 e7 e8 e9 e10 e11 e12 (by assumption)) rfl rfl pd_15 rfl rfl (by decide) (by decide) (Nat.le_of_ble_eq_true rfl) (by decide) (by decide) rfl rfl rfl)
  have K9 : Keep h0 h7 [s] := ((Keep.refl h0 [s]).trans K8 (allS (Or.inl (List.mem_of_getElem? (i := 0) rfl)) all0))
  refine A4.retV d24_6 (by decide) (by decide) ⟨rfl, ⟨K9, ?_⟩⟩
  trivial
theorem pn23 : plainFor (⟨"java/lang/StringBuilder", "toString", "()Ljava/lang/String;"⟩ : MethodName) = true := by first | exact plainFor_of_name (by first | (simp [plainName, overriddenIn]; done) | decide +kernel) | exact Jvm.Free.JP.mathPlain rfl (by decide +kernel) | decide +kernel
theorem d23_0 : decode jdk_67_method_42_code 0 = .ok (.new 18, 3) := by decide +kernel
theorem d23_3 : decode jdk_67_method_42_code 3 = .ok (.dup, 1) := by decide +kernel
theorem d23_4 : decode jdk_67_method_42_code 4 = .ok (.aload_n 0, 1) := by decide +kernel
theorem d23_5 : decode jdk_67_method_42_code 5 = .ok (.invokespecial 137, 3) := by decide +kernel
theorem d23_8 : decode jdk_67_method_42_code 8 = .ok (.areturn, 1) := by decide +kernel
abbrev y23 : MethodName := (⟨"java/lang/StringBuilder", "toString", "()Ljava/lang/String;"⟩ : MethodName)
abbrev R23 : Room := { frames := 5, cells := 2, slots := 69, locals := 79 }
set_option maxRecDepth 65536 in
set_option maxHeartbeats 4000000 in
theorem ef23 (sb : Addr)  (mid : MethodId) : entryFrame mid #[(.ref sb)] 1 = mkF mid 0 #[.val (.ref sb)] [] := by first | (simp [entryFrame, mkF, argsToLocals, Value.category]; done) | rfl
set_option maxRecDepth 65536 in
set_option maxHeartbeats 40000000 in
theorem rm23 (l : Launch) (Z : State) (a0 : Array Value) (hw : ∀ d ∈ tables_1, d.before a0 Z = true) (n0 : Nat) (ws : List Jvm.Cond) (sb : Addr) (v : Addr) (f : Nat → Value) (cs : Int32) (h0 : Heap) (hn0 : n0 ≤ h0.size) (e0 : Exa Z h0 sb "java/lang/StringBuilder") (e1 : Fld Z h0 sb "java/lang/AbstractStringBuilder" "value" "[B" (.ref v)) (e2 : Fld Z h0 sb "java/lang/AbstractStringBuilder" "coder" "B" (.int (0 : Int32))) (e3 : Fld Z h0 sb "java/lang/AbstractStringBuilder" "count" "I" (.int (65 : Int32))) (e4 : Ars Z h0 v .byte 124 f) (e5 : Old Z n0 h0) (e6 : Sta Z Z.heap "java/lang/String" "COMPACT_STRINGS" "Z" (.int cs)) (e7 : cs.toInt ≠ 0) :
    Ctr l Z n0 y23 jdk_67_method_42_code 1 (some (.object "java/lang/String")) ws R23 #[(.ref sb)] h0 (QA fun r h => (Keep h0 h []) ∧ (True)) := by
  refine ctr_of pn23 hn0 (ef23 sb) fun G A0 => ?_
  obtain ⟨h1, b2, eb3, g4, E5, X6, D7, A8⟩ := A0.newO (C' := 1) (S' := 4) (pc' := 3) d23_0 (hw _ (List.mem_of_getElem? (i := 147) rfl)) (hw _ (List.mem_of_getElem? (i := 54) rfl)) (hw _ (List.mem_of_getElem? (i := 47) rfl)) (by decide) (by decide) rfl rfl rfl
  have ne9 : sb ≠ b2 := Nat.ne_of_lt (Nat.lt_of_lt_of_le e0.lt (Nat.le_of_eq eb3.symm))
  have ne10 : v ≠ b2 := Nat.ne_of_lt (Nat.lt_of_lt_of_le e4.lt (Nat.le_of_eq eb3.symm))
  have f11 : Fld Z h1 b2 "java/lang/String" "value" "[B" .null := D7 (Or.inr (hw _ (List.mem_of_getElem? (i := 55) rfl))) (ty := (.array .byte)) (by decide)
  have f12 : Fld Z h1 b2 "java/lang/String" "coder" "B" (.int (0 : Int32)) := D7 (Or.inr (hw _ (List.mem_of_getElem? (i := 56) rfl))) (ty := .byte) (by decide)
  have A13 := A8.dup (pc' := 4) d23_3 rfl rfl
  have A14 := A13.aloadN (v := (.ref sb)) (pc' := 5) d23_4 rfl rfl rfl
  have f15 := (e0.ext E5)
  have f16 := (e1.ext E5)
  have f17 := (e2.ext E5)
  have f18 := (e3.ext E5)
  have f19 := (e4.ext E5)
  have f20 := (e5.ext E5)
  obtain ⟨h24, ⟨K25, q23⟩, A21⟩ := W.kV (A14.callI (a := b2) (argsL := [(.ref sb)]) (rest := [(.ref b2)]) (C' := 2) (S' := 69) (pc' := 8) d23_5 rfl (hw _ (List.mem_of_getElem? (i := 148) rfl)) (hw _ (List.mem_of_getElem? (i := 149) rfl)) (hw _ (List.mem_of_getElem? (i := 47) rfl)) (hw _ (List.mem_of_getElem? (i := 151) rfl)) (rm24 l Z a0 hw n0 [] (b2) (sb) (v) (f) (_) h1 A14.size X6 f11 f12 g4 f15 f16 f17 f18 f19 (Ne.symm ne9) (Ne.symm ne10) f20 e6 (by assumption)) rfl rfl pd_16 rfl rfl (by decide) (by decide) (Nat.le_of_ble_eq_true rfl) (by decide) (by decide) rfl rfl rfl)
  have z26 : h0.size ≤ b2 := Nat.le_trans (Nat.le_refl _) (Nat.le_of_eq eb3.symm)
  have K27 : Keep h0 h24 [] := (((Keep.refl h0 []).ext E5).trans K25 (allS (Or.inr z26) all0))
  refine A21.retA d23_8 (by decide) (by decide) rfl rfl rfl ⟨_, rfl, ⟨K27, ?_⟩⟩
  trivial
theorem pn34 : plainFor (⟨"java/util/Optional", "<init>", "(Ljava/lang/Object;)V"⟩ : MethodName) = true := by first | exact plainFor_of_name (by first | (simp [plainName, overriddenIn]; done) | decide +kernel) | exact Jvm.Free.JP.mathPlain rfl (by decide +kernel) | decide +kernel
theorem d34_0 : decode jdk_32_method_2_code 0 = .ok (.aload_n 0, 1) := by decide +kernel
theorem d34_1 : decode jdk_32_method_2_code 1 = .ok (.invokespecial 7, 3) := by decide +kernel
theorem d34_4 : decode jdk_32_method_2_code 4 = .ok (.aload_n 0, 1) := by decide +kernel
theorem d34_5 : decode jdk_32_method_2_code 5 = .ok (.aload_n 1, 1) := by decide +kernel
theorem d34_6 : decode jdk_32_method_2_code 6 = .ok (.putfield 13, 3) := by decide +kernel
theorem d34_9 : decode jdk_32_method_2_code 9 = .ok (.return_, 1) := by decide +kernel
abbrev y34 : MethodName := (⟨"java/util/Optional", "<init>", "(Ljava/lang/Object;)V"⟩ : MethodName)
abbrev R34 : Room := { frames := 1, cells := 0, slots := 0, locals := 12 }
set_option maxRecDepth 65536 in
set_option maxHeartbeats 4000000 in
theorem ef34 (o : Addr) (x : Addr)  (mid : MethodId) : entryFrame mid #[(.ref o), (.ref x)] 2 = mkF mid 0 #[.val (.ref o), .val (.ref x)] [] := by first | (simp [entryFrame, mkF, argsToLocals, Value.category]; done) | rfl
set_option maxRecDepth 65536 in
set_option maxHeartbeats 40000000 in
theorem rm34 (l : Launch) (Z : State) (a0 : Array Value) (hw : ∀ d ∈ tables_1, d.before a0 Z = true) (n0 : Nat) (ws : List Jvm.Cond) (o : Addr) (x : Addr)  (h0 : Heap) (hn0 : n0 ≤ h0.size) (e0 : Exa Z h0 o "java/util/Optional") (e1 : n0 ≤ o) (e2 : Fld Z h0 o "java/util/Optional" "value" "Ljava/lang/Object;" .null) :
    Ctr l Z n0 y34 jdk_32_method_2_code 2 (none) ws R34 #[(.ref o), (.ref x)] h0 (QV fun h => (Keep h0 h [o]) ∧ (True)) := by
  refine ctr_of pn34 hn0 (ef34 o x) fun G A0 => ?_
  have A1 := A0.aloadN (v := (.ref o)) (pc' := 1) d34_0 rfl rfl rfl
  have A2 := A1.initO (pc' := 4) d34_1 (hw _ (List.mem_of_getElem? (i := 199) rfl)) (hw _ (List.mem_of_getElem? (i := 8) rfl)) (hw _ (List.mem_of_getElem? (i := 9) rfl)) rfl (by decide) (Nat.le_of_ble_eq_true rfl) rfl
  have A3 := A2.aloadN (v := (.ref o)) (pc' := 5) d34_4 rfl rfl rfl
  have A4 := A3.aloadN (v := (.ref x)) (pc' := 6) d34_5 rfl rfl rfl
  obtain ⟨h6, w7, A5⟩ := A4.putF (pc' := 9) (ty := (.object "java/lang/Object")) (host := "") d34_6 (Or.inl (hw _ (List.mem_of_getElem? (i := 200) rfl))) Via.refl e2 e0 (Or.inr ⟨(hw _ (List.mem_of_getElem? (i := 201) rfl)), rfl, rfl⟩) (hw _ (List.mem_of_getElem? (i := 194) rfl)) (by decide) rfl rfl e1 rfl
  have f8 := e2.same w7
  have K9 : Keep h0 h6 [o] := ((Keep.refl h0 [o]).wr w7 (Or.inl (List.mem_of_getElem? (i := 0) rfl)))
  refine A5.retV d34_9 (by decide) (by decide) ⟨rfl, ⟨K9, ?_⟩⟩
  trivial
theorem pn33 : plainFor (⟨"java/util/Optional", "ofNullable", "(Ljava/lang/Object;)Ljava/util/Optional;"⟩ : MethodName) = true := by first | exact plainFor_of_name (by first | (simp [plainName, overriddenIn]; done) | decide +kernel) | exact Jvm.Free.JP.mathPlain rfl (by decide +kernel) | decide +kernel
theorem d33_0 : decode jdk_32_method_4_code 0 = .ok (.aload_n 0, 1) := by decide +kernel
theorem d33_1 : decode jdk_32_method_4_code 1 = .ok (.ifnonnull 9, 3) := by decide +kernel
theorem d33_10 : decode jdk_32_method_4_code 10 = .ok (.new 2, 3) := by decide +kernel
theorem d33_13 : decode jdk_32_method_4_code 13 = .ok (.dup, 1) := by decide +kernel
theorem d33_14 : decode jdk_32_method_4_code 14 = .ok (.aload_n 0, 1) := by decide +kernel
theorem d33_15 : decode jdk_32_method_4_code 15 = .ok (.invokespecial 23, 3) := by decide +kernel
theorem d33_18 : decode jdk_32_method_4_code 18 = .ok (.areturn, 1) := by decide +kernel
abbrev y33_r : MethodName := (⟨"java/util/Optional", "ofNullable", "(Ljava/lang/Object;)Ljava/util/Optional;"⟩ : MethodName)
abbrev R33_r : Room := { frames := 2, cells := 1, slots := 1, locals := 26 }
set_option maxRecDepth 65536 in
set_option maxHeartbeats 4000000 in
theorem ef33_r (x : Addr)  (mid : MethodId) : entryFrame mid #[(.ref x)] 1 = mkF mid 0 #[.val (.ref x)] [] := by first | (simp [entryFrame, mkF, argsToLocals, Value.category]; done) | rfl
set_option maxRecDepth 65536 in
set_option maxHeartbeats 40000000 in
theorem rm33_r (l : Launch) (Z : State) (a0 : Array Value) (hw : ∀ d ∈ tables_1, d.before a0 Z = true) (n0 : Nat) (ws : List Jvm.Cond) (x : Addr)  (h0 : Heap) (hn0 : n0 ≤ h0.size)  :
    Ctr l Z n0 y33_r jdk_32_method_4_code 1 (some (.object "java/util/Optional")) ws R33_r #[(.ref x)] h0 (QA fun r h => (Keep h0 h []) ∧ (True)) := by
  refine ctr_of pn33 hn0 (ef33_r x) fun G A0 => ?_
  have A1 := A0.aloadN (v := (.ref x)) (pc' := 1) d33_0 rfl rfl rfl
  have A2 := A1.ifnonnullYes (pc' := 10) d33_1 (by decide) (by decide)
  obtain ⟨h3, b4, eb5, g6, E7, X8, D9, A10⟩ := A2.newO (C' := 1) (S' := 1) (pc' := 13) d33_10 (hw _ (List.mem_of_getElem? (i := 193) rfl)) (hw _ (List.mem_of_getElem? (i := 194) rfl)) (hw _ (List.mem_of_getElem? (i := 191) rfl)) (by decide) (by decide) rfl rfl rfl
  have f11 : Fld Z h3 b4 "java/util/Optional" "value" "Ljava/lang/Object;" .null := D9 (Or.inr (hw _ (List.mem_of_getElem? (i := 201) rfl))) (ty := (.object "java/lang/Object")) (by decide)
  have A12 := A10.dup (pc' := 14) d33_13 rfl rfl
  have A13 := A12.aloadN (v := (.ref x)) (pc' := 15) d33_14 rfl rfl rfl
  obtain ⟨h17, ⟨K18, q16⟩, A14⟩ := W.kV (A13.callI (a := b4) (argsL := [(.ref x)]) (rest := [(.ref b4)]) (C' := 1) (S' := 1) (pc' := 18) d33_15 rfl (hw _ (List.mem_of_getElem? (i := 195) rfl)) (hw _ (List.mem_of_getElem? (i := 196) rfl)) (hw _ (List.mem_of_getElem? (i := 191) rfl)) (hw _ (List.mem_of_getElem? (i := 198) rfl)) (rm34 l Z a0 hw n0 [] (b4) (x)  h3 A13.size X8 g6 f11) rfl rfl pd_17 rfl rfl (by decide) (by decide) (Nat.le_of_ble_eq_true rfl) (by decide) (by decide) rfl rfl rfl)
  have z19 : h0.size ≤ b4 := Nat.le_trans (Nat.le_refl _) (Nat.le_of_eq eb5.symm)
  have K20 : Keep h0 h17 [] := (((Keep.refl h0 []).ext E7).trans K18 (allS (Or.inr z19) all0))
  refine A14.retA d33_18 (by decide) (by decide) rfl rfl rfl ⟨_, rfl, ⟨K20, ?_⟩⟩
  trivial
theorem d33_4 : decode jdk_32_method_4_code 4 = .ok (.getstatic 1, 3) := by decide +kernel
theorem d33_7 : decode jdk_32_method_4_code 7 = .ok (.goto 11, 3) := by decide +kernel
abbrev y33_n : MethodName := (⟨"java/util/Optional", "ofNullable", "(Ljava/lang/Object;)Ljava/util/Optional;"⟩ : MethodName)
abbrev R33_n : Room := { frames := 0, cells := 0, slots := 0, locals := 0 }
set_option maxRecDepth 65536 in
set_option maxHeartbeats 4000000 in
theorem ef33_n   (mid : MethodId) : entryFrame mid #[.null] 1 = mkF mid 0 #[.val .null] [] := by first | (simp [entryFrame, mkF, argsToLocals, Value.category]; done) | rfl
set_option maxRecDepth 65536 in
set_option maxHeartbeats 40000000 in
theorem rm33_n (l : Launch) (Z : State) (a0 : Array Value) (hw : ∀ d ∈ tables_1, d.before a0 Z = true) (n0 : Nat) (ws : List Jvm.Cond)  (em : Addr) (h0 : Heap) (hn0 : n0 ≤ h0.size) (e0 : Old Z n0 h0) (e1 : Sta Z Z.heap "java/util/Optional" "EMPTY" "Ljava/util/Optional;" (.ref em)) :
    Ctr l Z n0 y33_n jdk_32_method_4_code 1 (some (.object "java/util/Optional")) ws R33_n #[.null] h0 (QA fun r h => (h0 = h) ∧ (True)) := by
  refine ctr_of pn33 hn0 (ef33_n ) fun G A0 => ?_
  have A1 := A0.aloadN (v := .null) (pc' := 1) d33_0 rfl rfl rfl
  have A2 := A1.ifnonnullNo (pc' := 4) d33_1 rfl
  have f4 := e1.ext e0.2
  have A3 := A2.getS (pc' := 7) (host := "") d33_4 (Or.inl (hw _ (List.mem_of_getElem? (i := 208) rfl))) Via.refl f4 rfl
  have A5 := A3.goto (pc' := 18) d33_7 (by decide) (by decide)
  refine A5.retA d33_18 (by decide) (by decide) rfl rfl rfl ⟨_, rfl, ⟨rfl, ?_⟩⟩
  trivial
theorem pn35 : plainFor (⟨"java/lang/Math", "max", "(JJ)J"⟩ : MethodName) = true := by first | exact plainFor_of_name (by first | (simp [plainName, overriddenIn]; done) | decide +kernel) | exact Jvm.Free.JP.mathPlain rfl (by decide +kernel) | decide +kernel
theorem d35_0 : decode jdk_29_method_66_code 0 = .ok (.lload_n 0, 1) := by decide +kernel
theorem d35_1 : decode jdk_29_method_66_code 1 = .ok (.lload_n 2, 1) := by decide +kernel
theorem d35_2 : decode jdk_29_method_66_code 2 = .ok (.lcmp, 1) := by decide +kernel
theorem d35_3 : decode jdk_29_method_66_code 3 = .ok (.ifCond .lt 7, 3) := by decide +kernel
theorem d35_6 : decode jdk_29_method_66_code 6 = .ok (.lload_n 0, 1) := by decide +kernel
theorem d35_7 : decode jdk_29_method_66_code 7 = .ok (.goto 4, 3) := by decide +kernel
theorem d35_10 : decode jdk_29_method_66_code 10 = .ok (.lload_n 2, 1) := by decide +kernel
theorem d35_11 : decode jdk_29_method_66_code 11 = .ok (.lreturn, 1) := by decide +kernel
abbrev y35 : MethodName := (⟨"java/lang/Math", "max", "(JJ)J"⟩ : MethodName)
abbrev R35 : Room := { frames := 0, cells := 0, slots := 0, locals := 0 }
set_option maxRecDepth 65536 in
set_option maxHeartbeats 4000000 in
theorem ef35 (x : Int64) (z : Int64)  (mid : MethodId) : entryFrame mid #[(.long x), (.long z)] 4 = mkF mid 0 #[.val (.long x), .second, .val (.long z), .second] [] := by first | (simp [entryFrame, mkF, argsToLocals, Value.category]; done) | rfl
set_option maxRecDepth 65536 in
set_option maxHeartbeats 40000000 in
theorem rm35 (l : Launch) (Z : State) (a0 : Array Value) (hw : ∀ d ∈ tables_1, d.before a0 Z = true) (n0 : Nat) (ws : List Jvm.Cond) (x : Int64) (z : Int64)  (h0 : Heap) (hn0 : n0 ≤ h0.size)  :
    Ctr l Z n0 y35 jdk_29_method_66_code 4 (some .long) ws R35 #[(.long x), (.long z)] h0 (QJ fun r h => (h0 = h) ∧ ((x.toInt < z.toInt ∧ r.toInt = z.toInt) ∨ (¬ (x.toInt < z.toInt) ∧ r.toInt = x.toInt))) := by
  refine ctr_of pn35 hn0 (ef35 x z) fun G A0 => ?_
  have A1 := A0.lloadN (v := x) (pc' := 1) d35_0 rfl rfl
  have A2 := A1.lloadN (v := z) (pc' := 2) d35_1 rfl rfl
  have A3 := A2.lcmp (pc' := 3) d35_2 rfl
  by_cases c4 : x.toInt < z.toInt
  · have A5 := A3.ifYes (pc' := 10) d35_3 (tlt (llt (x := x) (y := z) rfl rfl c4)).1 (by decide) (by decide)
    have A6 := A5.lloadN (v := z) (pc' := 11) d35_10 rfl rfl
    refine A6.retJ d35_11 (by decide) (by decide) ⟨_, rfl, ⟨rfl, ?_⟩⟩
    omega
  · have A7 := A3.ifNo (pc' := 6) d35_3 (flt (lnlt (x := x) (y := z) rfl rfl c4)).1 rfl
    have A8 := A7.lloadN (v := x) (pc' := 7) d35_6 rfl rfl
    have A9 := A8.goto (pc' := 11) d35_7 (by decide) (by decide)
    refine A9.retJ d35_11 (by decide) (by decide) ⟨_, rfl, ⟨rfl, ?_⟩⟩
    omega
theorem pn22 : plainFor (⟨"java/lang/String", "valueOf", "(Ljava/lang/Object;)Ljava/lang/String;"⟩ : MethodName) = true := by first | exact plainFor_of_name (by first | (simp [plainName, overriddenIn]; done) | decide +kernel) | exact Jvm.Free.JP.mathPlain rfl (by decide +kernel) | decide +kernel
theorem d22_0 : decode jdk_42_method_133_code 0 = .ok (.aload_n 0, 1) := by decide +kernel
theorem d22_1 : decode jdk_42_method_133_code 1 = .ok (.ifnonnull 9, 3) := by decide +kernel
theorem d22_4 : decode jdk_42_method_133_code 4 = .ok (.ldc_w 1005, 3) := by decide +kernel
theorem d22_7 : decode jdk_42_method_133_code 7 = .ok (.goto 7, 3) := by decide +kernel
theorem d22_14 : decode jdk_42_method_133_code 14 = .ok (.areturn, 1) := by decide +kernel
abbrev y22 : MethodName := (⟨"java/lang/String", "valueOf", "(Ljava/lang/Object;)Ljava/lang/String;"⟩ : MethodName)
abbrev R22 : Room := { frames := 0, cells := 2, slots := 20, locals := 0 }
set_option maxRecDepth 65536 in
set_option maxHeartbeats 4000000 in
theorem ef22   (mid : MethodId) : entryFrame mid #[.null] 1 = mkF mid 0 #[.val .null] [] := by first | (simp [entryFrame, mkF, argsToLocals, Value.category]; done) | rfl
set_option maxRecDepth 65536 in
set_option maxHeartbeats 40000000 in
theorem rm22 (l : Launch) (Z : State) (a0 : Array Value) (hw : ∀ d ∈ tables_1, d.before a0 Z = true) (n0 : Nat) (ws : List Jvm.Cond)   (h0 : Heap) (hn0 : n0 ≤ h0.size)  :
    CtrU l Z consts_1 n0 y22 jdk_42_method_133_code 1 (some (.object "java/lang/String")) ws R22 #[.null] h0 (QA fun r h => ∃ b : Addr, ∃ g : Nat → Value, (Keep h0 h []) ∧ (Exa Z h r "java/lang/String") ∧ (Fld Z h r "java/lang/String" "coder" "B" (.int (0 : Int32))) ∧ (Fld Z h r "java/lang/String" "value" "[B" (.ref b)) ∧ (Ars Z h b .byte 4 g) ∧ (True)) := by
  refine ctrU_of (own_ew hw) pn22 hn0 (ef22 ) fun G A0 => ?_
  have A1 := A0.aloadN (v := .null) (pc' := 1) d22_0 rfl rfl rfl
  have A2 := A1.ifnonnullNo (pc' := 4) d22_1 rfl
  obtain ⟨h3, sr4, sb5, E6, X7, f8, f9, X10, A11⟩ := A2.ldcStrW (n := 16) (N := 4) (z := (4 : Int32)) (C' := 2) (S' := 20) (pc' := 7) d22_4 (hw _ (List.mem_of_getElem? (i := 140) rfl)) (own_sa hw) (by decide) ⟨by decide, rfl⟩ rfl rfl (by decide) (by decide) (by decide) (by decide) (by decide) rfl rfl rfl
  have A12 := A11.goto (pc' := 14) d22_7 (by decide) (by decide)
  have K13 : Keep h0 h3 [] := ((Keep.refl h0 []).ext E6)
  refine A12.retA d22_14 (by decide) (by decide) rfl rfl rfl ⟨_, rfl, ⟨sb5, (lfn _), K13, X7, f8, f9, X10, ?_⟩⟩
  trivial
theorem pn21 : plainFor (⟨"java/lang/StringBuilder", "append", "(Ljava/lang/Object;)Ljava/lang/StringBuilder;"⟩ : MethodName) = true := by first | exact plainFor_of_name (by first | (simp [plainName, overriddenIn]; done) | decide +kernel) | exact Jvm.Free.JP.mathPlain rfl (by decide +kernel) | decide +kernel
theorem d21_0 : decode jdk_67_method_6_code 0 = .ok (.aload_n 0, 1) := by decide +kernel
theorem d21_1 : decode jdk_67_method_6_code 1 = .ok (.aload_n 1, 1) := by decide +kernel
theorem d21_2 : decode jdk_67_method_6_code 2 = .ok (.invokestatic 17, 3) := by decide +kernel
theorem d21_5 : decode jdk_67_method_6_code 5 = .ok (.invokevirtual 23, 3) := by decide +kernel
theorem d21_8 : decode jdk_67_method_6_code 8 = .ok (.areturn, 1) := by decide +kernel
abbrev y21 : MethodName := (⟨"java/lang/StringBuilder", "append", "(Ljava/lang/Object;)Ljava/lang/StringBuilder;"⟩ : MethodName)
abbrev R21 : Room := { frames := 6, cells := 3, slots := 144, locals := 89 }
set_option maxRecDepth 65536 in
set_option maxHeartbeats 4000000 in
theorem ef21 (sb : Addr)  (mid : MethodId) : entryFrame mid #[(.ref sb), .null] 2 = mkF mid 0 #[.val (.ref sb), .val .null] [] := by first | (simp [entryFrame, mkF, argsToLocals, Value.category]; done) | rfl
set_option maxRecDepth 65536 in
set_option maxHeartbeats 40000000 in
theorem rm21 (l : Launch) (Z : State) (a0 : Array Value) (hw : ∀ d ∈ tables_1, d.before a0 Z = true) (n0 : Nat) (ws : List Jvm.Cond) (sb : Addr) (v : Addr) (f : Nat → Value) (cs : Int32) (h0 : Heap) (hn0 : n0 ≤ h0.size) (e0 : Exa Z h0 sb "java/lang/StringBuilder") (e1 : Fld Z h0 sb "java/lang/AbstractStringBuilder" "value" "[B" (.ref v)) (e2 : Fld Z h0 sb "java/lang/AbstractStringBuilder" "coder" "B" (.int (0 : Int32))) (e3 : Ars Z h0 v .byte 61 f) (e4 : Fld Z h0 sb "java/lang/AbstractStringBuilder" "count" "I" (.int (61 : Int32))) (e5 : n0 ≤ sb) (e6 : sb ≠ v) (e7 : Old Z n0 h0) (e8 : Sta Z Z.heap "java/lang/String" "COMPACT_STRINGS" "Z" (.int cs)) (e9 : cs.toInt ≠ 0) :
    CtrU l Z consts_1 n0 y21 jdk_67_method_6_code 2 (some (.object "java/lang/StringBuilder")) ws R21 #[(.ref sb), .null] h0 (QA fun r h => ∃ v2 : Addr, ∃ g : Nat → Value, (Keep h0 h [sb]) ∧ (n0 ≤ v2) ∧ (h0.size ≤ v2) ∧ (Fld Z h sb "java/lang/AbstractStringBuilder" "value" "[B" (.ref v2)) ∧ (Fld Z h sb "java/lang/AbstractStringBuilder" "coder" "B" (.int (0 : Int32))) ∧ (Fld Z h sb "java/lang/AbstractStringBuilder" "count" "I" (.int (65 : Int32))) ∧ (Ars Z h v2 .byte 124 g) ∧ (sb ≠ v2) ∧ (r = sb)) := by
  refine ctrU_of (own_ew hw) pn21 hn0 (ef21 sb) fun G A0 => ?_
  have A1 := A0.aloadN (v := (.ref sb)) (pc' := 1) d21_0 rfl rfl rfl
  have A2 := A1.aloadN (v := .null) (pc' := 2) d21_1 rfl rfl rfl
  obtain ⟨r4, h6, ⟨u8, u9, K7, f10, f11, f12, f13, q5⟩, A3⟩ := U.kA (A2.callS (argsL := [.null]) (rest := [(.ref sb)]) (C' := 2) (S' := 20) (pc' := 5) d21_2 (hw _ (List.mem_of_getElem? (i := 137) rfl)) (hw _ (List.mem_of_getElem? (i := 138) rfl)) (hw _ (List.mem_of_getElem? (i := 47) rfl)) (hw _ (List.mem_of_getElem? (i := 139) rfl)) (rm22 l Z a0 hw n0 []   h0 A2.size ) rfl rfl pd_18 rfl rfl (by decide) (by decide) (Nat.le_of_ble_eq_true rfl) (by decide) (by decide) rfl rfl rfl)
  have f14 := (e0.keep K7)
  have ne15 : sb ≠ r4 := Exa.ne f14 f10 (by decide)
  have ne16 : sb ≠ u8 := Exa.neArs f14 f13 (hw _ (List.mem_of_getElem? (i := 34) rfl))
  have f17 := (e1.keep K7 nin0)
  have f18 := (e2.keep K7 nin0)
  have f19 := (e3.keep K7 nin0)
  have f20 := (e4.keep K7 nin0)
  have f21 := (e7.keep K7 all0)
  obtain ⟨r23, h25, ⟨b27, u28, K26, g29, z30, f31, f32, f33, f34, f35, q24⟩, A22⟩ := U.kA (A3.callV (a := sb) (argsL := [(.ref r4)]) (rest := []) (C' := 3) (S' := 144) (pc' := 8) d21_5 f14 (hw _ (List.mem_of_getElem? (i := 141) rfl)) (hw _ (List.mem_of_getElem? (i := 60) rfl)) (fun hZ => notFace_of_selects (args := #[]) (mvT hZ (hw _ (List.mem_of_getElem? (i := 62) rfl)))) (hw _ (List.mem_of_getElem? (i := 62) rfl)) (hw _ (List.mem_of_getElem? (i := 61) rfl)) (hw _ (List.mem_of_getElem? (i := 35) rfl)) (hw _ (List.mem_of_getElem? (i := 63) rfl)) (Ctr.toU (rm8_2 l Z a0 hw n0 [] (sb) (r4) (v) (u8) (u9) (f) (_) h6 A3.size f14 f17 f18 f19 f20 e5 e6 f10 f12 f11 f13 ne15 ne16 f21 e8 (by assumption)) (own_ew hw) (fun v h' q => by obtain ⟨_, _, _, _, K, -⟩ := q; exact ⟨_, K, (allUS f14 (by decide) (by decide) allU0)⟩)) rfl rfl pd_19 rfl rfl (by decide) (by decide) (Nat.le_of_ble_eq_true rfl) (by decide) (by decide) rfl rfl rfl)
  have ne36 : sb ≠ b27 := Nat.ne_of_lt (Nat.lt_of_lt_of_le f14.lt z30)
  have ne37 : v ≠ b27 := Nat.ne_of_lt (Nat.lt_of_lt_of_le f19.lt z30)
  have ne38 : r4 ≠ b27 := Nat.ne_of_lt (Nat.lt_of_lt_of_le f10.lt z30)
  have ne39 : u8 ≠ b27 := Nat.ne_of_lt (Nat.lt_of_lt_of_le f13.lt z30)
  have K40 : Keep h0 h25 [sb] := (((Keep.refl h0 [sb]).trans K7 all0).trans K26 (allS (Or.inl (List.mem_of_getElem? (i := 0) rfl)) all0))
  have z41 : h0.size ≤ b27 := Nat.le_trans (Nat.le_trans (Nat.le_refl _) K7.1) z30
  refine A22.retA d21_8 (by decide) (by decide) rfl rfl rfl ⟨_, rfl, ⟨b27, u28, K40, g29, z41, f31, f32, f33, f34, f35, ?_⟩⟩
  assumption
theorem pn5 : plainFor (⟨"com/example/steady_quorum/steadyquorum/server/AcceptFailures", "failed", "(Ljava/io/IOException;J)Ljava/util/Optional;"⟩ : MethodName) = true := by first | exact plainFor_of_name (by first | (simp [plainName, overriddenIn]; done) | decide +kernel) | exact Jvm.Free.JP.mathPlain rfl (by decide +kernel) | decide +kernel
theorem d5_0 : decode prog_78_method_2_code 0 = .ok (.aload_n 0, 1) := by decide +kernel
theorem d5_1 : decode prog_78_method_2_code 1 = .ok (.iconst 1, 1) := by decide +kernel
theorem d5_2 : decode prog_78_method_2_code 2 = .ok (.putfield 7, 3) := by decide +kernel
theorem d5_5 : decode prog_78_method_2_code 5 = .ok (.aload_n 0, 1) := by decide +kernel
theorem d5_6 : decode prog_78_method_2_code 6 = .ok (.lload_n 2, 1) := by decide +kernel
theorem d5_7 : decode prog_78_method_2_code 7 = .ok (.getstatic 13, 3) := by decide +kernel
theorem d5_10 : decode prog_78_method_2_code 10 = .ok (.ladd, 1) := by decide +kernel
theorem d5_11 : decode prog_78_method_2_code 11 = .ok (.putfield 17, 3) := by decide +kernel
theorem d5_14 : decode prog_78_method_2_code 14 = .ok (.aconst_null, 1) := by decide +kernel
theorem d5_15 : decode prog_78_method_2_code 15 = .ok (.astore 4, 2) := by decide +kernel
theorem d5_17 : decode prog_78_method_2_code 17 = .ok (.aload_n 0, 1) := by decide +kernel
theorem d5_18 : decode prog_78_method_2_code 18 = .ok (.getfield 20, 3) := by decide +kernel
theorem d5_21 : decode prog_78_method_2_code 21 = .ok (.ifCond .eq 16, 3) := by decide +kernel
theorem d5_37 : decode prog_78_method_2_code 37 = .ok (.new 29, 3) := by decide +kernel
theorem d5_40 : decode prog_78_method_2_code 40 = .ok (.dup, 1) := by decide +kernel
theorem d5_41 : decode prog_78_method_2_code 41 = .ok (.invokespecial 31, 3) := by decide +kernel
theorem d5_44 : decode prog_78_method_2_code 44 = .ok (.ldc 32, 2) := by decide +kernel
theorem d5_46 : decode prog_78_method_2_code 46 = .ok (.invokevirtual 34, 3) := by decide +kernel
theorem d5_49 : decode prog_78_method_2_code 49 = .ok (.aload_n 1, 1) := by decide +kernel
theorem d5_50 : decode prog_78_method_2_code 50 = .ok (.invokevirtual 38, 3) := by decide +kernel
theorem d5_53 : decode prog_78_method_2_code 53 = .ok (.invokevirtual 41, 3) := by decide +kernel
theorem d5_56 : decode prog_78_method_2_code 56 = .ok (.astore 4, 2) := by decide +kernel
theorem d5_58 : decode prog_78_method_2_code 58 = .ok (.aload_n 0, 1) := by decide +kernel
theorem d5_59 : decode prog_78_method_2_code 59 = .ok (.getfield 45, 3) := by decide +kernel
theorem d5_62 : decode prog_78_method_2_code 62 = .ok (.lconst 0, 1) := by decide +kernel
theorem d5_63 : decode prog_78_method_2_code 63 = .ok (.lcmp, 1) := by decide +kernel
theorem d5_64 : decode prog_78_method_2_code 64 = .ok (.ifCond .le 37, 3) := by decide +kernel
theorem d5_101 : decode prog_78_method_2_code 101 = .ok (.aload_n 0, 1) := by decide +kernel
theorem d5_102 : decode prog_78_method_2_code 102 = .ok (.iconst 1, 1) := by decide +kernel
theorem d5_103 : decode prog_78_method_2_code 103 = .ok (.putfield 20, 3) := by decide +kernel
theorem d5_106 : decode prog_78_method_2_code 106 = .ok (.aload_n 0, 1) := by decide +kernel
theorem d5_107 : decode prog_78_method_2_code 107 = .ok (.lload_n 2, 1) := by decide +kernel
theorem d5_108 : decode prog_78_method_2_code 108 = .ok (.putfield 23, 3) := by decide +kernel
theorem d5_111 : decode prog_78_method_2_code 111 = .ok (.aload_n 0, 1) := by decide +kernel
theorem d5_112 : decode prog_78_method_2_code 112 = .ok (.lconst 0, 1) := by decide +kernel
theorem d5_113 : decode prog_78_method_2_code 113 = .ok (.putfield 45, 3) := by decide +kernel
theorem d5_116 : decode prog_78_method_2_code 116 = .ok (.aload_n 0, 1) := by decide +kernel
theorem d5_117 : decode prog_78_method_2_code 117 = .ok (.iconst 1, 1) := by decide +kernel
theorem d5_118 : decode prog_78_method_2_code 118 = .ok (.putfield 55, 3) := by decide +kernel
theorem d5_121 : decode prog_78_method_2_code 121 = .ok (.goto 13, 3) := by decide +kernel
theorem d5_134 : decode prog_78_method_2_code 134 = .ok (.aload 4, 2) := by decide +kernel
theorem d5_136 : decode prog_78_method_2_code 136 = .ok (.invokestatic 58, 3) := by decide +kernel
theorem d5_139 : decode prog_78_method_2_code 139 = .ok (.areturn, 1) := by decide +kernel
abbrev y5_1 : MethodName := (⟨"com/example/steady_quorum/steadyquorum/server/AcceptFailures", "failed", "(Ljava/io/IOException;J)Ljava/util/Optional;"⟩ : MethodName)
abbrev R5_1 : Room := { frames := 7, cells := 11, slots := 543, locals := 102 }
set_option maxRecDepth 65536 in
set_option maxHeartbeats 4000000 in
theorem ef5_1 (o : Addr) (t : Int64)  (mid : MethodId) : entryFrame mid #[(.ref o), .null, (.long t)] 5 = mkF mid 0 #[.val (.ref o), .val .null, .val (.long t), .second, .unset] [] := by first | (simp [entryFrame, mkF, argsToLocals, Value.category]; done) | rfl
set_option maxRecDepth 65536 in
set_option maxHeartbeats 40000000 in
theorem rm5_1 (l : Launch) (Z : State) (a0 : Array Value) (hw : ∀ d ∈ tables_1, d.before a0 Z = true) (n0 : Nat) (ws : List Jvm.Cond) (o : Addr) (t : Int64) (rs : Int32) (ra : Int64) (wa : Int64) (eu : Int32) (em : Addr) (cs : Int32) (h0 : Heap) (hn0 : n0 ≤ h0.size) (e0 : Exa Z h0 o "com/example/steady_quorum/steadyquorum/server/AcceptFailures") (e1 : n0 ≤ o) (e2 : Fld Z h0 o "com/example/steady_quorum/steadyquorum/server/AcceptFailures" "resting" "Z" (.int rs)) (e3 : Fld Z h0 o "com/example/steady_quorum/steadyquorum/server/AcceptFailures" "restEndsAt" "J" (.long ra)) (e4 : Fld Z h0 o "com/example/steady_quorum/steadyquorum/server/AcceptFailures" "warned" "Z" (.int (0 : Int32))) (e5 : Fld Z h0 o "com/example/steady_quorum/steadyquorum/server/AcceptFailures" "unwarned" "J" (.long (0 : Int64))) (e6 : Fld Z h0 o "com/example/steady_quorum/steadyquorum/server/AcceptFailures" "warnedAt" "J" (.long wa)) (e7 : Fld Z h0 o "com/example/steady_quorum/steadyquorum/server/AcceptFailures" "endUntold" "Z" (.int eu)) (e8 : Old Z n0 h0) (e9 : Sta Z Z.heap "java/lang/String" "COMPACT_STRINGS" "Z" (.int cs)) (e10 : cs.toInt ≠ 0) (e11 : Sta Z Z.heap "java/util/Optional" "EMPTY" "Ljava/util/Optional;" (.ref em)) (e12 : Sta Z Z.heap "com/example/steady_quorum/steadyquorum/server/AcceptFailures" "PAUSE_NANOS" "J" (.long (100000000 : Int64))) (e13 : Sta Z Z.heap "com/example/steady_quorum/steadyquorum/server/AcceptFailures" "WARNING_INTERVAL_NANOS" "J" (.long (60000000000 : Int64))) :
    CtrU l Z consts_1 n0 y5_1 prog_78_method_2_code 5 (some (.object "java/util/Optional")) ws R5_1 #[(.ref o), .null, (.long t)] h0 (QA fun r h => (Keep h0 h [o]) ∧ (Fld Z h o "com/example/steady_quorum/steadyquorum/server/AcceptFailures" "resting" "Z" (.int (1 : Int32))) ∧ (Fld Z h o "com/example/steady_quorum/steadyquorum/server/AcceptFailures" "restEndsAt" "J" (.long (t + (100000000 : Int64)))) ∧ (Fld Z h o "com/example/steady_quorum/steadyquorum/server/AcceptFailures" "warned" "Z" (.int (1 : Int32))) ∧ (Fld Z h o "com/example/steady_quorum/steadyquorum/server/AcceptFailures" "warnedAt" "J" (.long t)) ∧ (Fld Z h o "com/example/steady_quorum/steadyquorum/server/AcceptFailures" "unwarned" "J" (.long (0 : Int64))) ∧ (Fld Z h o "com/example/steady_quorum/steadyquorum/server/AcceptFailures" "endUntold" "Z" (.int (1 : Int32))) ∧ (True)) := by
  refine ctrU_of (own_ew hw) pn5 hn0 (ef5_1 o t) fun G A0 => ?_
  have A1 := A0.aloadN (v := (.ref o)) (pc' := 1) d5_0 rfl rfl rfl
  have A2 := A1.iconst (z := (1 : Int32)) (pc' := 2) d5_1 rfl rfl
  obtain ⟨h4, w5, A3⟩ := A2.putFN (pc' := 5) (ty := .boolean) (v' := (.int (1 : Int32))) d5_2 (hw _ (List.mem_of_getElem? (i := 15) rfl)) Via.refl e2 e0 (Or.inl (hw _ (List.mem_of_getElem? (i := 16) rfl))) (hw _ (List.mem_of_getElem? (i := 2) rfl)) (by decide) rfl rfl (by decide) (by decide) e1 rfl
  have f6 := e2.same w5
  have A7 := A3.aloadN (v := (.ref o)) (pc' := 6) d5_5 rfl rfl rfl
  have A8 := A7.lloadN (v := t) (pc' := 7) d5_6 rfl rfl
  have f10 := (e8.wr w5 e1)
  have f11 := e12.ext f10.2
  have A9 := A8.getS (pc' := 10) (host := "") d5_7 (Or.inl (hw _ (List.mem_of_getElem? (i := 27) rfl))) Via.refl f11 rfl
  have A12 := A9.ladd (pc' := 11) d5_10 rfl
  have f13 := (e3.other w5 (Or.inr (slot_ne (Or.inl (hw _ (List.mem_of_getElem? (i := 30) rfl))) (Or.inl (hw _ (List.mem_of_getElem? (i := 16) rfl))) (by decide) (t := .long) (t' := .boolean) (by decide) (by decide))))
  have f14 := (e0.wr w5)
  obtain ⟨h16, w17, A15⟩ := A12.putF (pc' := 14) (ty := .long) (host := "") d5_11 (Or.inl (hw _ (List.mem_of_getElem? (i := 29) rfl))) Via.refl f13 f14 (Or.inl (hw _ (List.mem_of_getElem? (i := 30) rfl))) (hw _ (List.mem_of_getElem? (i := 2) rfl)) (by decide) rfl rfl (by decide) (by decide) e1 rfl
  have f18 := f13.same w17
  have A19 := A15.aconstNull (pc' := 15) d5_14 rfl
  have A20 := A19.astore (Ls' := #[.val (.ref o), .val .null, .val (.long t), .second, .val .null]) (pc' := 17) d5_15 rfl rfl rfl
  have A21 := A20.aloadN (v := (.ref o)) (pc' := 18) d5_17 rfl rfl rfl
  have f23 := ((e4.other w5 (Or.inr (slot_ne (Or.inl (hw _ (List.mem_of_getElem? (i := 32) rfl))) (Or.inl (hw _ (List.mem_of_getElem? (i := 16) rfl))) (by decide) (t := .boolean) (t' := .boolean) (by decide) (by decide)))).other w17 (Or.inr (slot_ne (Or.inl (hw _ (List.mem_of_getElem? (i := 32) rfl))) (Or.inl (hw _ (List.mem_of_getElem? (i := 30) rfl))) (by decide) (t := .boolean) (t' := .long) (by decide) (by decide))))
  have A22 := A21.getF (pc' := 21) (host := "") d5_18 (Or.inl (hw _ (List.mem_of_getElem? (i := 31) rfl))) Via.refl f23 rfl
  have A25 := A22.ifYes (pc' := 37) d5_21 (teq (ieq (x := (0 : Int32)) (y := (0 : Int32)) rfl rfl (by decide : (0 : Int) = 0))).1 (by decide) (by decide)
  obtain ⟨h26, b27, eb28, g29, E30, X31, D32, A33⟩ := A25.newO (C' := 1) (S' := 4) (pc' := 40) d5_37 (hw _ (List.mem_of_getElem? (i := 33) rfl)) (hw _ (List.mem_of_getElem? (i := 34) rfl)) (hw _ (List.mem_of_getElem? (i := 35) rfl)) (by decide) (by decide) rfl rfl rfl
  have f34 := (f14.wr w17)
  have ne35 : o ≠ b27 := Nat.ne_of_lt (Nat.lt_of_lt_of_le f34.lt (Nat.le_of_eq eb28.symm))
  have f36 : Fld Z h26 b27 "java/lang/AbstractStringBuilder" "value" "[B" .null := D32 (Or.inl (hw _ (List.mem_of_getElem? (i := 50) rfl))) (ty := (.array .byte)) (by decide)
  have f37 : Fld Z h26 b27 "java/lang/AbstractStringBuilder" "coder" "B" (.int (0 : Int32)) := D32 (Or.inl (hw _ (List.mem_of_getElem? (i := 52) rfl))) (ty := .byte) (by decide)
  have f38 : Fld Z h26 b27 "java/lang/AbstractStringBuilder" "count" "I" (.int (0 : Int32)) := D32 (Or.inl (hw _ (List.mem_of_getElem? (i := 83) rfl))) (ty := .int) (by decide)
  have A39 := A33.dup (pc' := 41) d5_40 rfl rfl
  have f40 := ((f10.wr w17 e1).ext E30)
  obtain ⟨h44, ⟨b46, K45, g47, z48, f49, f50, f51, f52, q43⟩, A41⟩ := U.kV (A39.callI (a := b27) (argsL := []) (rest := [(.ref b27)]) (C' := 2) (S' := 20) (pc' := 44) d5_41 rfl (hw _ (List.mem_of_getElem? (i := 36) rfl)) (hw _ (List.mem_of_getElem? (i := 37) rfl)) (hw _ (List.mem_of_getElem? (i := 35) rfl)) (hw _ (List.mem_of_getElem? (i := 38) rfl)) (Ctr.toU (rm6 l Z a0 hw n0 [] (b27) (_) h26 A39.size X31 g29 f36 f37 f38 f40 e9 (by assumption)) (own_ew hw) (fun v h' q => by obtain ⟨_, _, K, -⟩ := q; exact ⟨_, K, (allUS X31 (by decide) (by decide) allU0)⟩)) rfl rfl pd_20 rfl rfl (by decide) (by decide) (Nat.le_of_ble_eq_true rfl) (by decide) (by decide) rfl rfl rfl)
  have f53 := (f34.ext E30)
  have ne54 : o ≠ b46 := Nat.ne_of_lt (Nat.lt_of_lt_of_le f53.lt z48)
  have ne55 : b27 ≠ b46 := Nat.ne_of_lt (Nat.lt_of_lt_of_le X31.lt z48)
  have f65 := (f53.keep K45)
  have f66 := (X31.keep K45)
  obtain ⟨h56, sr57, sb58, E59, X60, f61, f62, X63, A64⟩ := A41.ldcStr (n := 244) (N := 61) (z := (61 : Int32)) (C' := 4) (S' := 268) (pc' := 46) d5_44 (hw _ (List.mem_of_getElem? (i := 53) rfl)) (own_sa hw) (by decide) ⟨by decide, rfl⟩ rfl rfl (by decide) (by decide) (by decide) (by decide) (by decide) rfl rfl rfl
  have f67 := (f65.ext E59)
  have ne68 : o ≠ sr57 := Exa.ne f67 X60 (by decide)
  have ne69 : o ≠ sb58 := Exa.neArs f67 X63 (hw _ (List.mem_of_getElem? (i := 2) rfl))
  have f70 := (f66.ext E59)
  have ne71 : b27 ≠ sr57 := Exa.ne f70 X60 (by decide)
  have ne72 : b27 ≠ sb58 := Exa.neArs f70 X63 (hw _ (List.mem_of_getElem? (i := 34) rfl))
  have f73 := (f49.ext E59)
  have f74 := (f50.ext E59)
  have f75 := (f52.ext E59)
  have f76 := (f51.ext E59)
  have f77 := ((f40.keep K45 (allS g29 all0)).ext E59)
  obtain ⟨r79, h81, ⟨b83, u84, K82, g85, z86, f87, f88, f89, f90, f91, q80⟩, A78⟩ := U.kA (A64.callV (a := b27) (argsL := [(.ref sr57)]) (rest := []) (C' := 5) (S' := 329) (pc' := 49) d5_46 f70 (hw _ (List.mem_of_getElem? (i := 59) rfl)) (hw _ (List.mem_of_getElem? (i := 60) rfl)) (fun hZ => notFace_of_selects (args := #[]) (mvT hZ (hw _ (List.mem_of_getElem? (i := 62) rfl)))) (hw _ (List.mem_of_getElem? (i := 62) rfl)) (hw _ (List.mem_of_getElem? (i := 61) rfl)) (hw _ (List.mem_of_getElem? (i := 35) rfl)) (hw _ (List.mem_of_getElem? (i := 63) rfl)) (Ctr.toU (rm8_1 l Z a0 hw n0 [] (b27) (sr57) (b46) (sb58) ((lfn _)) ((fun _ => (.int (0 : Int32)))) (_) h56 A64.size f70 f73 f74 f75 f76 g29 ne55 X60 f62 f61 X63 ne71 ne72 f77 e9 (by assumption)) (own_ew hw) (fun v h' q => by obtain ⟨_, _, _, _, K, -⟩ := q; exact ⟨_, K, (allUS f70 (by decide) (by decide) allU0)⟩)) rfl rfl pd_19 rfl rfl (by decide) (by decide) (Nat.le_of_ble_eq_true rfl) (by decide) (by decide) rfl rfl rfl)
  have ne92 : o ≠ b83 := Nat.ne_of_lt (Nat.lt_of_lt_of_le f67.lt z86)
  have ne93 : b27 ≠ b83 := Nat.ne_of_lt (Nat.lt_of_lt_of_le f70.lt z86)
  have ne94 : b46 ≠ b83 := Nat.ne_of_lt (Nat.lt_of_lt_of_le f75.lt z86)
  have ne95 : sr57 ≠ b83 := Nat.ne_of_lt (Nat.lt_of_lt_of_le X60.lt z86)
  have ne96 : sb58 ≠ b83 := Nat.ne_of_lt (Nat.lt_of_lt_of_le X63.lt z86)
  have A97 := A78.cast (Ls' := #[.val (.ref o), .val .null, .val (.long t), .second, .val .null]) (St' := [(.ref b27)]) rfl rfl (by rw [q80])
  have A98 := A97.aloadN (v := .null) (pc' := 50) d5_49 rfl rfl rfl
  have f99 := (f70.keep K82)
  have f100 := (f77.keep K82 (allS g29 all0))
  obtain ⟨r102, h104, ⟨b106, u107, K105, g108, z109, f110, f111, f112, f113, f114, q103⟩, A101⟩ := U.kA (A98.callV (a := b27) (argsL := [.null]) (rest := []) (C' := 8) (S' := 473) (pc' := 53) d5_50 f99 (hw _ (List.mem_of_getElem? (i := 132) rfl)) (hw _ (List.mem_of_getElem? (i := 133) rfl)) (fun hZ => notFace_of_selects (args := #[]) (mvT hZ (hw _ (List.mem_of_getElem? (i := 135) rfl)))) (hw _ (List.mem_of_getElem? (i := 135) rfl)) (hw _ (List.mem_of_getElem? (i := 134) rfl)) (hw _ (List.mem_of_getElem? (i := 35) rfl)) (hw _ (List.mem_of_getElem? (i := 136) rfl)) (rm21 l Z a0 hw n0 [] (b27) (b83) (u84) (_) h81 A98.size f99 f87 f88 f90 f89 g29 f91 f100 e9 (by assumption)) rfl rfl pd_21 rfl rfl (by decide) (by decide) (Nat.le_of_ble_eq_true rfl) (by decide) (by decide) rfl rfl rfl)
  have f115 := (f67.keep K82)
  have ne116 : o ≠ b106 := Nat.ne_of_lt (Nat.lt_of_lt_of_le f115.lt z109)
  have ne117 : b27 ≠ b106 := Nat.ne_of_lt (Nat.lt_of_lt_of_le f99.lt z109)
  have f118 := (f75.keep K82 (ninS (Ne.symm ne55) nin0))
  have ne119 : b46 ≠ b106 := Nat.ne_of_lt (Nat.lt_of_lt_of_le f118.lt z109)
  have f120 := (X60.keep K82)
  have ne121 : sr57 ≠ b106 := Nat.ne_of_lt (Nat.lt_of_lt_of_le f120.lt z109)
  have f122 := (X63.keep K82 (ninS (Ne.symm ne72) nin0))
  have ne123 : sb58 ≠ b106 := Nat.ne_of_lt (Nat.lt_of_lt_of_le f122.lt z109)
  have ne124 : b83 ≠ b106 := Nat.ne_of_lt (Nat.lt_of_lt_of_le f90.lt z109)
  have A125 := A101.cast (Ls' := #[.val (.ref o), .val .null, .val (.long t), .second, .val .null]) (St' := [(.ref b27)]) rfl rfl (by rw [q103])
  have f126 := (f99.keep K105)
  have f127 := (f100.keep K105 (allS g29 all0))
  obtain ⟨r129, h131, ⟨K132, q130⟩, A128⟩ := U.kA (A125.callV (a := b27) (argsL := []) (rest := []) (C' := 10) (S' := 542) (pc' := 56) d5_53 f126 (hw _ (List.mem_of_getElem? (i := 142) rfl)) (hw _ (List.mem_of_getElem? (i := 143) rfl)) (fun hZ => notFace_of_selects (args := #[]) (mvT hZ (hw _ (List.mem_of_getElem? (i := 145) rfl)))) (hw _ (List.mem_of_getElem? (i := 145) rfl)) (hw _ (List.mem_of_getElem? (i := 144) rfl)) (hw _ (List.mem_of_getElem? (i := 35) rfl)) (hw _ (List.mem_of_getElem? (i := 146) rfl)) (Ctr.toU (rm23 l Z a0 hw n0 [] (b27) (b106) (u107) (_) h104 A125.size f126 f110 f111 f112 f113 f127 e9 (by assumption)) (own_ew hw) (fun v h' q => by obtain ⟨_, _, K, -⟩ := q; exact ⟨_, K, allU0⟩)) rfl rfl pd_22 rfl rfl (by decide) (by decide) (Nat.le_of_ble_eq_true rfl) (by decide) (by decide) rfl rfl rfl)
  have A133 := A128.astore (Ls' := #[.val (.ref o), .val .null, .val (.long t), .second, .val (.ref r129)]) (pc' := 58) d5_56 rfl rfl rfl
  have A134 := A133.aloadN (v := (.ref o)) (pc' := 59) d5_58 rfl rfl rfl
  have f136 := ((((((((e5.other w5 (Or.inr (slot_ne (Or.inl (hw _ (List.mem_of_getElem? (i := 184) rfl))) (Or.inl (hw _ (List.mem_of_getElem? (i := 16) rfl))) (by decide) (t := .long) (t' := .boolean) (by decide) (by decide)))).other w17 (Or.inr (slot_ne (Or.inl (hw _ (List.mem_of_getElem? (i := 184) rfl))) (Or.inl (hw _ (List.mem_of_getElem? (i := 30) rfl))) (by decide) (t := .long) (t' := .long) (by decide) (by decide)))).ext E30).keep K45 (ninS ne35 nin0)).ext E59).keep K82 (ninS ne35 nin0)).keep K105 (ninS ne35 nin0)).keep K132 nin0)
  have A135 := A134.getF (pc' := 62) (host := "") d5_59 (Or.inl (hw _ (List.mem_of_getElem? (i := 183) rfl))) Via.refl f136 rfl
  have A137 := A135.lconst (z := (0 : Int64)) (pc' := 63) d5_62 rfl rfl
  have A138 := A137.lcmp (pc' := 64) d5_63 rfl
  have A140 := A138.ifYes (pc' := 101) d5_64 (flt (lngt (x := (0 : Int64)) (y := (0 : Int64)) rfl rfl (by decide : ¬ ((0 : Int) < 0)))).2.2.2 (by decide) (by decide)
  have A141 := A140.aloadN (v := (.ref o)) (pc' := 102) d5_101 rfl rfl rfl
  have A142 := A141.iconst (z := (1 : Int32)) (pc' := 103) d5_102 rfl rfl
  have f143 := ((((((f23.ext E30).keep K45 (ninS ne35 nin0)).ext E59).keep K82 (ninS ne35 nin0)).keep K105 (ninS ne35 nin0)).keep K132 nin0)
  have f144 := ((f115.keep K105).keep K132)
  obtain ⟨h146, w147, A145⟩ := A142.putFN (pc' := 106) (ty := .boolean) (v' := (.int (1 : Int32))) d5_103 (hw _ (List.mem_of_getElem? (i := 31) rfl)) Via.refl f143 f144 (Or.inl (hw _ (List.mem_of_getElem? (i := 32) rfl))) (hw _ (List.mem_of_getElem? (i := 2) rfl)) (by decide) rfl rfl (by decide) (by decide) e1 rfl
  have f148 := f143.same w147
  have A149 := A145.aloadN (v := (.ref o)) (pc' := 107) d5_106 rfl rfl rfl
  have A150 := A149.lloadN (v := t) (pc' := 108) d5_107 rfl rfl
  have f151 := (((((((((e6.other w5 (Or.inr (slot_ne (Or.inl (hw _ (List.mem_of_getElem? (i := 186) rfl))) (Or.inl (hw _ (List.mem_of_getElem? (i := 16) rfl))) (by decide) (t := .long) (t' := .boolean) (by decide) (by decide)))).other w17 (Or.inr (slot_ne (Or.inl (hw _ (List.mem_of_getElem? (i := 186) rfl))) (Or.inl (hw _ (List.mem_of_getElem? (i := 30) rfl))) (by decide) (t := .long) (t' := .long) (by decide) (by decide)))).ext E30).keep K45 (ninS ne35 nin0)).ext E59).keep K82 (ninS ne35 nin0)).keep K105 (ninS ne35 nin0)).keep K132 nin0).other w147 (Or.inr (slot_ne (Or.inl (hw _ (List.mem_of_getElem? (i := 186) rfl))) (Or.inl (hw _ (List.mem_of_getElem? (i := 32) rfl))) (by decide) (t := .long) (t' := .boolean) (by decide) (by decide))))
  have f152 := (f144.wr w147)
  obtain ⟨h154, w155, A153⟩ := A150.putF (pc' := 111) (ty := .long) (host := "") d5_108 (Or.inl (hw _ (List.mem_of_getElem? (i := 185) rfl))) Via.refl f151 f152 (Or.inl (hw _ (List.mem_of_getElem? (i := 186) rfl))) (hw _ (List.mem_of_getElem? (i := 2) rfl)) (by decide) rfl rfl (by decide) (by decide) e1 rfl
  have f156 := f151.same w155
  have A157 := A153.aloadN (v := (.ref o)) (pc' := 112) d5_111 rfl rfl rfl
  have A158 := A157.lconst (z := (0 : Int64)) (pc' := 113) d5_112 rfl rfl
  have f159 := ((f136.other w147 (Or.inr (slot_ne (Or.inl (hw _ (List.mem_of_getElem? (i := 184) rfl))) (Or.inl (hw _ (List.mem_of_getElem? (i := 32) rfl))) (by decide) (t := .long) (t' := .boolean) (by decide) (by decide)))).other w155 (Or.inr (slot_ne (Or.inl (hw _ (List.mem_of_getElem? (i := 184) rfl))) (Or.inl (hw _ (List.mem_of_getElem? (i := 186) rfl))) (by decide) (t := .long) (t' := .long) (by decide) (by decide))))
  have f160 := (f152.wr w155)
  obtain ⟨h162, w163, A161⟩ := A158.putF (pc' := 116) (ty := .long) (host := "") d5_113 (Or.inl (hw _ (List.mem_of_getElem? (i := 183) rfl))) Via.refl f159 f160 (Or.inl (hw _ (List.mem_of_getElem? (i := 184) rfl))) (hw _ (List.mem_of_getElem? (i := 2) rfl)) (by decide) rfl rfl (by decide) (by decide) e1 rfl
  have f164 := f159.same w163
  have A165 := A161.aloadN (v := (.ref o)) (pc' := 117) d5_116 rfl rfl rfl
  have A166 := A165.iconst (z := (1 : Int32)) (pc' := 118) d5_117 rfl rfl
  have f167 := (((((((((((e7.other w5 (Or.inr (slot_ne (Or.inl (hw _ (List.mem_of_getElem? (i := 188) rfl))) (Or.inl (hw _ (List.mem_of_getElem? (i := 16) rfl))) (by decide) (t := .boolean) (t' := .boolean) (by decide) (by decide)))).other w17 (Or.inr (slot_ne (Or.inl (hw _ (List.mem_of_getElem? (i := 188) rfl))) (Or.inl (hw _ (List.mem_of_getElem? (i := 30) rfl))) (by decide) (t := .boolean) (t' := .long) (by decide) (by decide)))).ext E30).keep K45 (ninS ne35 nin0)).ext E59).keep K82 (ninS ne35 nin0)).keep K105 (ninS ne35 nin0)).keep K132 nin0).other w147 (Or.inr (slot_ne (Or.inl (hw _ (List.mem_of_getElem? (i := 188) rfl))) (Or.inl (hw _ (List.mem_of_getElem? (i := 32) rfl))) (by decide) (t := .boolean) (t' := .boolean) (by decide) (by decide)))).other w155 (Or.inr (slot_ne (Or.inl (hw _ (List.mem_of_getElem? (i := 188) rfl))) (Or.inl (hw _ (List.mem_of_getElem? (i := 186) rfl))) (by decide) (t := .boolean) (t' := .long) (by decide) (by decide)))).other w163 (Or.inr (slot_ne (Or.inl (hw _ (List.mem_of_getElem? (i := 188) rfl))) (Or.inl (hw _ (List.mem_of_getElem? (i := 184) rfl))) (by decide) (t := .boolean) (t' := .long) (by decide) (by decide))))
  have f168 := (f160.wr w163)
  obtain ⟨h170, w171, A169⟩ := A166.putFN (pc' := 121) (ty := .boolean) (v' := (.int (1 : Int32))) d5_118 (hw _ (List.mem_of_getElem? (i := 187) rfl)) Via.refl f167 f168 (Or.inl (hw _ (List.mem_of_getElem? (i := 188) rfl))) (hw _ (List.mem_of_getElem? (i := 2) rfl)) (by decide) rfl rfl (by decide) (by decide) e1 rfl
  have f172 := f167.same w171
  have A173 := A169.goto (pc' := 134) d5_121 (by decide) (by decide)
  have A174 := A173.aload (v := (.ref r129)) (pc' := 136) d5_134 rfl rfl rfl
  obtain ⟨r176, h178, ⟨K179, q177⟩, A175⟩ := U.kA (A174.callS (argsL := [(.ref r129)]) (rest := []) (C' := 11) (S' := 543) (pc' := 139) d5_136 (hw _ (List.mem_of_getElem? (i := 189) rfl)) (hw _ (List.mem_of_getElem? (i := 190) rfl)) (hw _ (List.mem_of_getElem? (i := 191) rfl)) (hw _ (List.mem_of_getElem? (i := 192) rfl)) (Ctr.toU (rm33_r l Z a0 hw n0 [] (r129)  h170 A174.size ) (own_ew hw) (fun v h' q => by obtain ⟨_, _, K, -⟩ := q; exact ⟨_, K, allU0⟩)) rfl rfl pd_23 rfl rfl (by decide) (by decide) (Nat.le_of_ble_eq_true rfl) (by decide) (by decide) rfl rfl rfl)
  have z180 : h0.size ≤ b27 := Nat.le_trans (Nat.le_trans (Nat.le_trans (Nat.le_refl _) (Nat.le_of_eq w5.size.symm)) (Nat.le_of_eq w17.size.symm)) (Nat.le_of_eq eb28.symm)
  have K181 : Keep h0 h178 [o] := ((((((((((((((Keep.refl h0 [o]).wr w5 (Or.inl (List.mem_of_getElem? (i := 0) rfl))).wr w17 (Or.inl (List.mem_of_getElem? (i := 0) rfl))).ext E30).trans K45 (allS (Or.inr z180) all0)).ext E59).trans K82 (allS (Or.inr z180) all0)).trans K105 (allS (Or.inr z180) all0)).trans K132 all0).wr w147 (Or.inl (List.mem_of_getElem? (i := 0) rfl))).wr w155 (Or.inl (List.mem_of_getElem? (i := 0) rfl))).wr w163 (Or.inl (List.mem_of_getElem? (i := 0) rfl))).wr w171 (Or.inl (List.mem_of_getElem? (i := 0) rfl))).trans K179 all0)
  have f182 := ((((((((((((f6.other w17 (Or.inr (slot_ne (Or.inl (hw _ (List.mem_of_getElem? (i := 16) rfl))) (Or.inl (hw _ (List.mem_of_getElem? (i := 30) rfl))) (by decide) (t := .boolean) (t' := .long) (by decide) (by decide)))).ext E30).keep K45 (ninS ne35 nin0)).ext E59).keep K82 (ninS ne35 nin0)).keep K105 (ninS ne35 nin0)).keep K132 nin0).other w147 (Or.inr (slot_ne (Or.inl (hw _ (List.mem_of_getElem? (i := 16) rfl))) (Or.inl (hw _ (List.mem_of_getElem? (i := 32) rfl))) (by decide) (t := .boolean) (t' := .boolean) (by decide) (by decide)))).other w155 (Or.inr (slot_ne (Or.inl (hw _ (List.mem_of_getElem? (i := 16) rfl))) (Or.inl (hw _ (List.mem_of_getElem? (i := 186) rfl))) (by decide) (t := .boolean) (t' := .long) (by decide) (by decide)))).other w163 (Or.inr (slot_ne (Or.inl (hw _ (List.mem_of_getElem? (i := 16) rfl))) (Or.inl (hw _ (List.mem_of_getElem? (i := 184) rfl))) (by decide) (t := .boolean) (t' := .long) (by decide) (by decide)))).other w171 (Or.inr (slot_ne (Or.inl (hw _ (List.mem_of_getElem? (i := 16) rfl))) (Or.inl (hw _ (List.mem_of_getElem? (i := 188) rfl))) (by decide) (t := .boolean) (t' := .boolean) (by decide) (by decide)))).keep K179 nin0)
  have f183 := (((((((((((f18.ext E30).keep K45 (ninS ne35 nin0)).ext E59).keep K82 (ninS ne35 nin0)).keep K105 (ninS ne35 nin0)).keep K132 nin0).other w147 (Or.inr (slot_ne (Or.inl (hw _ (List.mem_of_getElem? (i := 30) rfl))) (Or.inl (hw _ (List.mem_of_getElem? (i := 32) rfl))) (by decide) (t := .long) (t' := .boolean) (by decide) (by decide)))).other w155 (Or.inr (slot_ne (Or.inl (hw _ (List.mem_of_getElem? (i := 30) rfl))) (Or.inl (hw _ (List.mem_of_getElem? (i := 186) rfl))) (by decide) (t := .long) (t' := .long) (by decide) (by decide)))).other w163 (Or.inr (slot_ne (Or.inl (hw _ (List.mem_of_getElem? (i := 30) rfl))) (Or.inl (hw _ (List.mem_of_getElem? (i := 184) rfl))) (by decide) (t := .long) (t' := .long) (by decide) (by decide)))).other w171 (Or.inr (slot_ne (Or.inl (hw _ (List.mem_of_getElem? (i := 30) rfl))) (Or.inl (hw _ (List.mem_of_getElem? (i := 188) rfl))) (by decide) (t := .long) (t' := .boolean) (by decide) (by decide)))).keep K179 nin0)
  have f184 := ((((f148.other w155 (Or.inr (slot_ne (Or.inl (hw _ (List.mem_of_getElem? (i := 32) rfl))) (Or.inl (hw _ (List.mem_of_getElem? (i := 186) rfl))) (by decide) (t := .boolean) (t' := .long) (by decide) (by decide)))).other w163 (Or.inr (slot_ne (Or.inl (hw _ (List.mem_of_getElem? (i := 32) rfl))) (Or.inl (hw _ (List.mem_of_getElem? (i := 184) rfl))) (by decide) (t := .boolean) (t' := .long) (by decide) (by decide)))).other w171 (Or.inr (slot_ne (Or.inl (hw _ (List.mem_of_getElem? (i := 32) rfl))) (Or.inl (hw _ (List.mem_of_getElem? (i := 188) rfl))) (by decide) (t := .boolean) (t' := .boolean) (by decide) (by decide)))).keep K179 nin0)
  have f185 := (((f156.other w163 (Or.inr (slot_ne (Or.inl (hw _ (List.mem_of_getElem? (i := 186) rfl))) (Or.inl (hw _ (List.mem_of_getElem? (i := 184) rfl))) (by decide) (t := .long) (t' := .long) (by decide) (by decide)))).other w171 (Or.inr (slot_ne (Or.inl (hw _ (List.mem_of_getElem? (i := 186) rfl))) (Or.inl (hw _ (List.mem_of_getElem? (i := 188) rfl))) (by decide) (t := .long) (t' := .boolean) (by decide) (by decide)))).keep K179 nin0)
  have f186 := ((f164.other w171 (Or.inr (slot_ne (Or.inl (hw _ (List.mem_of_getElem? (i := 184) rfl))) (Or.inl (hw _ (List.mem_of_getElem? (i := 188) rfl))) (by decide) (t := .long) (t' := .boolean) (by decide) (by decide)))).keep K179 nin0)
  have f187 := (f172.keep K179 nin0)
  refine A175.retA d5_139 (by decide) (by decide) rfl rfl rfl ⟨_, rfl, ⟨K181, f182, f183, f184, f185, f186, f187, ?_⟩⟩
  trivial
theorem d5_24 : decode prog_78_method_2_code 24 = .ok (.lload_n 2, 1) := by decide +kernel
theorem d5_25 : decode prog_78_method_2_code 25 = .ok (.aload_n 0, 1) := by decide +kernel
theorem d5_26 : decode prog_78_method_2_code 26 = .ok (.getfield 23, 3) := by decide +kernel
theorem d5_29 : decode prog_78_method_2_code 29 = .ok (.lsub, 1) := by decide +kernel
theorem d5_30 : decode prog_78_method_2_code 30 = .ok (.getstatic 26, 3) := by decide +kernel
theorem d5_33 : decode prog_78_method_2_code 33 = .ok (.lcmp, 1) := by decide +kernel
theorem d5_34 : decode prog_78_method_2_code 34 = .ok (.ifCond .lt 90, 3) := by decide +kernel
theorem d5_124 : decode prog_78_method_2_code 124 = .ok (.aload_n 0, 1) := by decide +kernel
theorem d5_125 : decode prog_78_method_2_code 125 = .ok (.dup, 1) := by decide +kernel
theorem d5_126 : decode prog_78_method_2_code 126 = .ok (.getfield 45, 3) := by decide +kernel
theorem d5_129 : decode prog_78_method_2_code 129 = .ok (.lconst 1, 1) := by decide +kernel
theorem d5_130 : decode prog_78_method_2_code 130 = .ok (.ladd, 1) := by decide +kernel
theorem d5_131 : decode prog_78_method_2_code 131 = .ok (.putfield 45, 3) := by decide +kernel
abbrev y5_2 : MethodName := (⟨"com/example/steady_quorum/steadyquorum/server/AcceptFailures", "failed", "(Ljava/io/IOException;J)Ljava/util/Optional;"⟩ : MethodName)
abbrev R5_2 : Room := { frames := 7, cells := 11, slots := 543, locals := 102 }
set_option maxRecDepth 65536 in
set_option maxHeartbeats 4000000 in
theorem ef5_2 (o : Addr) (t : Int64)  (mid : MethodId) : entryFrame mid #[(.ref o), .null, (.long t)] 5 = mkF mid 0 #[.val (.ref o), .val .null, .val (.long t), .second, .unset] [] := by first | (simp [entryFrame, mkF, argsToLocals, Value.category]; done) | rfl
set_option maxRecDepth 65536 in
set_option maxHeartbeats 40000000 in
theorem rm5_2 (l : Launch) (Z : State) (a0 : Array Value) (hw : ∀ d ∈ tables_1, d.before a0 Z = true) (n0 : Nat) (ws : List Jvm.Cond) (o : Addr) (t : Int64) (rs : Int32) (ra : Int64) (wa : Int64) (eu : Int32) (em : Addr) (cs : Int32) (h0 : Heap) (hn0 : n0 ≤ h0.size) (e0 : Exa Z h0 o "com/example/steady_quorum/steadyquorum/server/AcceptFailures") (e1 : n0 ≤ o) (e2 : Fld Z h0 o "com/example/steady_quorum/steadyquorum/server/AcceptFailures" "resting" "Z" (.int rs)) (e3 : Fld Z h0 o "com/example/steady_quorum/steadyquorum/server/AcceptFailures" "restEndsAt" "J" (.long ra)) (e4 : Fld Z h0 o "com/example/steady_quorum/steadyquorum/server/AcceptFailures" "warned" "Z" (.int (1 : Int32))) (e5 : Fld Z h0 o "com/example/steady_quorum/steadyquorum/server/AcceptFailures" "unwarned" "J" (.long (0 : Int64))) (e6 : Fld Z h0 o "com/example/steady_quorum/steadyquorum/server/AcceptFailures" "warnedAt" "J" (.long wa)) (e7 : Fld Z h0 o "com/example/steady_quorum/steadyquorum/server/AcceptFailures" "endUntold" "Z" (.int eu)) (e8 : Old Z n0 h0) (e9 : Sta Z Z.heap "java/lang/String" "COMPACT_STRINGS" "Z" (.int cs)) (e10 : cs.toInt ≠ 0) (e11 : Sta Z Z.heap "java/util/Optional" "EMPTY" "Ljava/util/Optional;" (.ref em)) (e12 : Sta Z Z.heap "com/example/steady_quorum/steadyquorum/server/AcceptFailures" "PAUSE_NANOS" "J" (.long (100000000 : Int64))) (e13 : Sta Z Z.heap "com/example/steady_quorum/steadyquorum/server/AcceptFailures" "WARNING_INTERVAL_NANOS" "J" (.long (60000000000 : Int64))) :
    CtrU l Z consts_1 n0 y5_2 prog_78_method_2_code 5 (some (.object "java/util/Optional")) ws R5_2 #[(.ref o), .null, (.long t)] h0 (QA fun r h => (Keep h0 h [o]) ∧ (Fld Z h o "com/example/steady_quorum/steadyquorum/server/AcceptFailures" "resting" "Z" (.int (1 : Int32))) ∧ (Fld Z h o "com/example/steady_quorum/steadyquorum/server/AcceptFailures" "restEndsAt" "J" (.long (t + (100000000 : Int64)))) ∧ (True)) := by
  refine ctrU_of (own_ew hw) pn5 hn0 (ef5_2 o t) fun G A0 => ?_
  have A1 := A0.aloadN (v := (.ref o)) (pc' := 1) d5_0 rfl rfl rfl
  have A2 := A1.iconst (z := (1 : Int32)) (pc' := 2) d5_1 rfl rfl
  obtain ⟨h4, w5, A3⟩ := A2.putFN (pc' := 5) (ty := .boolean) (v' := (.int (1 : Int32))) d5_2 (hw _ (List.mem_of_getElem? (i := 15) rfl)) Via.refl e2 e0 (Or.inl (hw _ (List.mem_of_getElem? (i := 16) rfl))) (hw _ (List.mem_of_getElem? (i := 2) rfl)) (by decide) rfl rfl (by decide) (by decide) e1 rfl
  have f6 := e2.same w5
  have A7 := A3.aloadN (v := (.ref o)) (pc' := 6) d5_5 rfl rfl rfl
  have A8 := A7.lloadN (v := t) (pc' := 7) d5_6 rfl rfl
  have f10 := (e8.wr w5 e1)
  have f11 := e12.ext f10.2
  have A9 := A8.getS (pc' := 10) (host := "") d5_7 (Or.inl (hw _ (List.mem_of_getElem? (i := 27) rfl))) Via.refl f11 rfl
  have A12 := A9.ladd (pc' := 11) d5_10 rfl
  have f13 := (e3.other w5 (Or.inr (slot_ne (Or.inl (hw _ (List.mem_of_getElem? (i := 30) rfl))) (Or.inl (hw _ (List.mem_of_getElem? (i := 16) rfl))) (by decide) (t := .long) (t' := .boolean) (by decide) (by decide))))
  have f14 := (e0.wr w5)
  obtain ⟨h16, w17, A15⟩ := A12.putF (pc' := 14) (ty := .long) (host := "") d5_11 (Or.inl (hw _ (List.mem_of_getElem? (i := 29) rfl))) Via.refl f13 f14 (Or.inl (hw _ (List.mem_of_getElem? (i := 30) rfl))) (hw _ (List.mem_of_getElem? (i := 2) rfl)) (by decide) rfl rfl (by decide) (by decide) e1 rfl
  have f18 := f13.same w17
  have A19 := A15.aconstNull (pc' := 15) d5_14 rfl
  have A20 := A19.astore (Ls' := #[.val (.ref o), .val .null, .val (.long t), .second, .val .null]) (pc' := 17) d5_15 rfl rfl rfl
  have A21 := A20.aloadN (v := (.ref o)) (pc' := 18) d5_17 rfl rfl rfl
  have f23 := ((e4.other w5 (Or.inr (slot_ne (Or.inl (hw _ (List.mem_of_getElem? (i := 32) rfl))) (Or.inl (hw _ (List.mem_of_getElem? (i := 16) rfl))) (by decide) (t := .boolean) (t' := .boolean) (by decide) (by decide)))).other w17 (Or.inr (slot_ne (Or.inl (hw _ (List.mem_of_getElem? (i := 32) rfl))) (Or.inl (hw _ (List.mem_of_getElem? (i := 30) rfl))) (by decide) (t := .boolean) (t' := .long) (by decide) (by decide))))
  have A22 := A21.getF (pc' := 21) (host := "") d5_18 (Or.inl (hw _ (List.mem_of_getElem? (i := 31) rfl))) Via.refl f23 rfl
  have A25 := A22.ifNo (pc' := 24) d5_21 (feq (ine (x := (1 : Int32)) (y := (0 : Int32)) rfl rfl (by decide : ¬ ((1 : Int) = 0)))).1 rfl
  have A26 := A25.lloadN (v := t) (pc' := 25) d5_24 rfl rfl
  have A27 := A26.aloadN (v := (.ref o)) (pc' := 26) d5_25 rfl rfl rfl
  have f29 := ((e6.other w5 (Or.inr (slot_ne (Or.inl (hw _ (List.mem_of_getElem? (i := 186) rfl))) (Or.inl (hw _ (List.mem_of_getElem? (i := 16) rfl))) (by decide) (t := .long) (t' := .boolean) (by decide) (by decide)))).other w17 (Or.inr (slot_ne (Or.inl (hw _ (List.mem_of_getElem? (i := 186) rfl))) (Or.inl (hw _ (List.mem_of_getElem? (i := 30) rfl))) (by decide) (t := .long) (t' := .long) (by decide) (by decide))))
  have A28 := A27.getF (pc' := 29) (host := "") d5_26 (Or.inl (hw _ (List.mem_of_getElem? (i := 185) rfl))) Via.refl f29 rfl
  have A30 := A28.lsub (pc' := 30) d5_29 rfl
  have f32 := (f10.wr w17 e1)
  have f33 := e13.ext f32.2
  have A31 := A30.getS (pc' := 33) (host := "") d5_30 (Or.inl (hw _ (List.mem_of_getElem? (i := 206) rfl))) Via.refl f33 rfl
  have A34 := A31.lcmp (pc' := 34) d5_33 rfl
  by_cases c35 : (t - wa).toInt < 60000000000
  · have A36 := A34.ifYes (pc' := 124) d5_34 (tlt (llt (x := (t - wa)) (y := (60000000000 : Int64)) rfl rfl c35)).1 (by decide) (by decide)
    have A37 := A36.aloadN (v := (.ref o)) (pc' := 125) d5_124 rfl rfl rfl
    have A38 := A37.dup (pc' := 126) d5_125 rfl rfl
    have f40 := ((e5.other w5 (Or.inr (slot_ne (Or.inl (hw _ (List.mem_of_getElem? (i := 184) rfl))) (Or.inl (hw _ (List.mem_of_getElem? (i := 16) rfl))) (by decide) (t := .long) (t' := .boolean) (by decide) (by decide)))).other w17 (Or.inr (slot_ne (Or.inl (hw _ (List.mem_of_getElem? (i := 184) rfl))) (Or.inl (hw _ (List.mem_of_getElem? (i := 30) rfl))) (by decide) (t := .long) (t' := .long) (by decide) (by decide))))
    have A39 := A38.getF (pc' := 129) (host := "") d5_126 (Or.inl (hw _ (List.mem_of_getElem? (i := 183) rfl))) Via.refl f40 rfl
    have A41 := A39.lconst (z := (1 : Int64)) (pc' := 130) d5_129 rfl rfl
    have A42 := A41.ladd (pc' := 131) d5_130 rfl
    have A43 := A42.topJ (z := (1 : Int64)) (by decide)
    have f44 := (f14.wr w17)
    obtain ⟨h46, w47, A45⟩ := A43.putF (pc' := 134) (ty := .long) (host := "") d5_131 (Or.inl (hw _ (List.mem_of_getElem? (i := 183) rfl))) Via.refl f40 f44 (Or.inl (hw _ (List.mem_of_getElem? (i := 184) rfl))) (hw _ (List.mem_of_getElem? (i := 2) rfl)) (by decide) rfl rfl (by decide) (by decide) e1 rfl
    have f48 := f40.same w47
    have A49 := A45.aload (v := .null) (pc' := 136) d5_134 rfl rfl rfl
    have f50 := (f32.wr w47 e1)
    obtain ⟨r52, _, ⟨rfl, q53⟩, A51⟩ := U.kA (A49.callS (argsL := [.null]) (rest := []) (C' := 0) (S' := 0) (pc' := 139) d5_136 (hw _ (List.mem_of_getElem? (i := 189) rfl)) (hw _ (List.mem_of_getElem? (i := 190) rfl)) (hw _ (List.mem_of_getElem? (i := 191) rfl)) (hw _ (List.mem_of_getElem? (i := 192) rfl)) (Ctr.toU (rm33_n l Z a0 hw n0 []  (_) h46 A49.size f50 e11) (own_ew hw) (fun v h' q => by obtain ⟨_, _, rfl, -⟩ := q; exact ⟨[], Keep.refl _ [], allU0⟩)) rfl rfl pd_23 rfl rfl (by decide) (by decide) (Nat.le_of_ble_eq_true rfl) (by decide) (by decide) rfl rfl rfl)
    have K55 : Keep h0 h46 [o] := ((((Keep.refl h0 [o]).wr w5 (Or.inl (List.mem_of_getElem? (i := 0) rfl))).wr w17 (Or.inl (List.mem_of_getElem? (i := 0) rfl))).wr w47 (Or.inl (List.mem_of_getElem? (i := 0) rfl)))
    have f56 := ((f6.other w17 (Or.inr (slot_ne (Or.inl (hw _ (List.mem_of_getElem? (i := 16) rfl))) (Or.inl (hw _ (List.mem_of_getElem? (i := 30) rfl))) (by decide) (t := .boolean) (t' := .long) (by decide) (by decide)))).other w47 (Or.inr (slot_ne (Or.inl (hw _ (List.mem_of_getElem? (i := 16) rfl))) (Or.inl (hw _ (List.mem_of_getElem? (i := 184) rfl))) (by decide) (t := .boolean) (t' := .long) (by decide) (by decide))))
    have f57 := (f18.other w47 (Or.inr (slot_ne (Or.inl (hw _ (List.mem_of_getElem? (i := 30) rfl))) (Or.inl (hw _ (List.mem_of_getElem? (i := 184) rfl))) (by decide) (t := .long) (t' := .long) (by decide) (by decide))))
    refine A51.retA d5_139 (by decide) (by decide) rfl rfl rfl ⟨_, rfl, ⟨K55, f56, f57, ?_⟩⟩
    trivial
  · have A58 := A34.ifNo (pc' := 37) d5_34 (flt (lnlt (x := (t - wa)) (y := (60000000000 : Int64)) rfl rfl c35)).1 rfl
    obtain ⟨h59, b60, eb61, g62, E63, X64, D65, A66⟩ := A58.newO (C' := 1) (S' := 4) (pc' := 40) d5_37 (hw _ (List.mem_of_getElem? (i := 33) rfl)) (hw _ (List.mem_of_getElem? (i := 34) rfl)) (hw _ (List.mem_of_getElem? (i := 35) rfl)) (by decide) (by decide) rfl rfl rfl
    have f67 := (f14.wr w17)
    have ne68 : o ≠ b60 := Nat.ne_of_lt (Nat.lt_of_lt_of_le f67.lt (Nat.le_of_eq eb61.symm))
    have f69 : Fld Z h59 b60 "java/lang/AbstractStringBuilder" "value" "[B" .null := D65 (Or.inl (hw _ (List.mem_of_getElem? (i := 50) rfl))) (ty := (.array .byte)) (by decide)
    have f70 : Fld Z h59 b60 "java/lang/AbstractStringBuilder" "coder" "B" (.int (0 : Int32)) := D65 (Or.inl (hw _ (List.mem_of_getElem? (i := 52) rfl))) (ty := .byte) (by decide)
    have f71 : Fld Z h59 b60 "java/lang/AbstractStringBuilder" "count" "I" (.int (0 : Int32)) := D65 (Or.inl (hw _ (List.mem_of_getElem? (i := 83) rfl))) (ty := .int) (by decide)
    have A72 := A66.dup (pc' := 41) d5_40 rfl rfl
    have f73 := (f32.ext E63)
    obtain ⟨h77, ⟨b79, K78, g80, z81, f82, f83, f84, f85, q76⟩, A74⟩ := U.kV (A72.callI (a := b60) (argsL := []) (rest := [(.ref b60)]) (C' := 2) (S' := 20) (pc' := 44) d5_41 rfl (hw _ (List.mem_of_getElem? (i := 36) rfl)) (hw _ (List.mem_of_getElem? (i := 37) rfl)) (hw _ (List.mem_of_getElem? (i := 35) rfl)) (hw _ (List.mem_of_getElem? (i := 38) rfl)) (Ctr.toU (rm6 l Z a0 hw n0 [] (b60) (_) h59 A72.size X64 g62 f69 f70 f71 f73 e9 (by assumption)) (own_ew hw) (fun v h' q => by obtain ⟨_, _, K, -⟩ := q; exact ⟨_, K, (allUS X64 (by decide) (by decide) allU0)⟩)) rfl rfl pd_20 rfl rfl (by decide) (by decide) (Nat.le_of_ble_eq_true rfl) (by decide) (by decide) rfl rfl rfl)
    have f86 := (f67.ext E63)
    have ne87 : o ≠ b79 := Nat.ne_of_lt (Nat.lt_of_lt_of_le f86.lt z81)
    have ne88 : b60 ≠ b79 := Nat.ne_of_lt (Nat.lt_of_lt_of_le X64.lt z81)
    have f98 := (f86.keep K78)
    have f99 := (X64.keep K78)
    obtain ⟨h89, sr90, sb91, E92, X93, f94, f95, X96, A97⟩ := A74.ldcStr (n := 244) (N := 61) (z := (61 : Int32)) (C' := 4) (S' := 268) (pc' := 46) d5_44 (hw _ (List.mem_of_getElem? (i := 53) rfl)) (own_sa hw) (by decide) ⟨by decide, rfl⟩ rfl rfl (by decide) (by decide) (by decide) (by decide) (by decide) rfl rfl rfl
    have f100 := (f98.ext E92)
    have ne101 : o ≠ sr90 := Exa.ne f100 X93 (by decide)
    have ne102 : o ≠ sb91 := Exa.neArs f100 X96 (hw _ (List.mem_of_getElem? (i := 2) rfl))
    have f103 := (f99.ext E92)
    have ne104 : b60 ≠ sr90 := Exa.ne f103 X93 (by decide)
    have ne105 : b60 ≠ sb91 := Exa.neArs f103 X96 (hw _ (List.mem_of_getElem? (i := 34) rfl))
    have f106 := (f82.ext E92)
    have f107 := (f83.ext E92)
    have f108 := (f85.ext E92)
    have f109 := (f84.ext E92)
    have f110 := ((f73.keep K78 (allS g62 all0)).ext E92)
    obtain ⟨r112, h114, ⟨b116, u117, K115, g118, z119, f120, f121, f122, f123, f124, q113⟩, A111⟩ := U.kA (A97.callV (a := b60) (argsL := [(.ref sr90)]) (rest := []) (C' := 5) (S' := 329) (pc' := 49) d5_46 f103 (hw _ (List.mem_of_getElem? (i := 59) rfl)) (hw _ (List.mem_of_getElem? (i := 60) rfl)) (fun hZ => notFace_of_selects (args := #[]) (mvT hZ (hw _ (List.mem_of_getElem? (i := 62) rfl)))) (hw _ (List.mem_of_getElem? (i := 62) rfl)) (hw _ (List.mem_of_getElem? (i := 61) rfl)) (hw _ (List.mem_of_getElem? (i := 35) rfl)) (hw _ (List.mem_of_getElem? (i := 63) rfl)) (Ctr.toU (rm8_1 l Z a0 hw n0 [] (b60) (sr90) (b79) (sb91) ((lfn _)) ((fun _ => (.int (0 : Int32)))) (_) h89 A97.size f103 f106 f107 f108 f109 g62 ne88 X93 f95 f94 X96 ne104 ne105 f110 e9 (by assumption)) (own_ew hw) (fun v h' q => by obtain ⟨_, _, _, _, K, -⟩ := q; exact ⟨_, K, (allUS f103 (by decide) (by decide) allU0)⟩)) rfl rfl pd_19 rfl rfl (by decide) (by decide) (Nat.le_of_ble_eq_true rfl) (by decide) (by decide) rfl rfl rfl)
    have ne125 : o ≠ b116 := Nat.ne_of_lt (Nat.lt_of_lt_of_le f100.lt z119)
    have ne126 : b60 ≠ b116 := Nat.ne_of_lt (Nat.lt_of_lt_of_le f103.lt z119)
    have ne127 : b79 ≠ b116 := Nat.ne_of_lt (Nat.lt_of_lt_of_le f108.lt z119)
    have ne128 : sr90 ≠ b116 := Nat.ne_of_lt (Nat.lt_of_lt_of_le X93.lt z119)
    have ne129 : sb91 ≠ b116 := Nat.ne_of_lt (Nat.lt_of_lt_of_le X96.lt z119)
    have A130 := A111.cast (Ls' := #[.val (.ref o), .val .null, .val (.long t), .second, .val .null]) (St' := [(.ref b60)]) rfl rfl (by rw [q113])
    have A131 := A130.aloadN (v := .null) (pc' := 50) d5_49 rfl rfl rfl
    have f132 := (f103.keep K115)
    have f133 := (f110.keep K115 (allS g62 all0))
    obtain ⟨r135, h137, ⟨b139, u140, K138, g141, z142, f143, f144, f145, f146, f147, q136⟩, A134⟩ := U.kA (A131.callV (a := b60) (argsL := [.null]) (rest := []) (C' := 8) (S' := 473) (pc' := 53) d5_50 f132 (hw _ (List.mem_of_getElem? (i := 132) rfl)) (hw _ (List.mem_of_getElem? (i := 133) rfl)) (fun hZ => notFace_of_selects (args := #[]) (mvT hZ (hw _ (List.mem_of_getElem? (i := 135) rfl)))) (hw _ (List.mem_of_getElem? (i := 135) rfl)) (hw _ (List.mem_of_getElem? (i := 134) rfl)) (hw _ (List.mem_of_getElem? (i := 35) rfl)) (hw _ (List.mem_of_getElem? (i := 136) rfl)) (rm21 l Z a0 hw n0 [] (b60) (b116) (u117) (_) h114 A131.size f132 f120 f121 f123 f122 g62 f124 f133 e9 (by assumption)) rfl rfl pd_21 rfl rfl (by decide) (by decide) (Nat.le_of_ble_eq_true rfl) (by decide) (by decide) rfl rfl rfl)
    have f148 := (f100.keep K115)
    have ne149 : o ≠ b139 := Nat.ne_of_lt (Nat.lt_of_lt_of_le f148.lt z142)
    have ne150 : b60 ≠ b139 := Nat.ne_of_lt (Nat.lt_of_lt_of_le f132.lt z142)
    have f151 := (f108.keep K115 (ninS (Ne.symm ne88) nin0))
    have ne152 : b79 ≠ b139 := Nat.ne_of_lt (Nat.lt_of_lt_of_le f151.lt z142)
    have f153 := (X93.keep K115)
    have ne154 : sr90 ≠ b139 := Nat.ne_of_lt (Nat.lt_of_lt_of_le f153.lt z142)
    have f155 := (X96.keep K115 (ninS (Ne.symm ne105) nin0))
    have ne156 : sb91 ≠ b139 := Nat.ne_of_lt (Nat.lt_of_lt_of_le f155.lt z142)
    have ne157 : b116 ≠ b139 := Nat.ne_of_lt (Nat.lt_of_lt_of_le f123.lt z142)
    have A158 := A134.cast (Ls' := #[.val (.ref o), .val .null, .val (.long t), .second, .val .null]) (St' := [(.ref b60)]) rfl rfl (by rw [q136])
    have f159 := (f132.keep K138)
    have f160 := (f133.keep K138 (allS g62 all0))
    obtain ⟨r162, h164, ⟨K165, q163⟩, A161⟩ := U.kA (A158.callV (a := b60) (argsL := []) (rest := []) (C' := 10) (S' := 542) (pc' := 56) d5_53 f159 (hw _ (List.mem_of_getElem? (i := 142) rfl)) (hw _ (List.mem_of_getElem? (i := 143) rfl)) (fun hZ => notFace_of_selects (args := #[]) (mvT hZ (hw _ (List.mem_of_getElem? (i := 145) rfl)))) (hw _ (List.mem_of_getElem? (i := 145) rfl)) (hw _ (List.mem_of_getElem? (i := 144) rfl)) (hw _ (List.mem_of_getElem? (i := 35) rfl)) (hw _ (List.mem_of_getElem? (i := 146) rfl)) (Ctr.toU (rm23 l Z a0 hw n0 [] (b60) (b139) (u140) (_) h137 A158.size f159 f143 f144 f145 f146 f160 e9 (by assumption)) (own_ew hw) (fun v h' q => by obtain ⟨_, _, K, -⟩ := q; exact ⟨_, K, allU0⟩)) rfl rfl pd_22 rfl rfl (by decide) (by decide) (Nat.le_of_ble_eq_true rfl) (by decide) (by decide) rfl rfl rfl)
    have A166 := A161.astore (Ls' := #[.val (.ref o), .val .null, .val (.long t), .second, .val (.ref r162)]) (pc' := 58) d5_56 rfl rfl rfl
    have A167 := A166.aloadN (v := (.ref o)) (pc' := 59) d5_58 rfl rfl rfl
    have f169 := ((((((((e5.other w5 (Or.inr (slot_ne (Or.inl (hw _ (List.mem_of_getElem? (i := 184) rfl))) (Or.inl (hw _ (List.mem_of_getElem? (i := 16) rfl))) (by decide) (t := .long) (t' := .boolean) (by decide) (by decide)))).other w17 (Or.inr (slot_ne (Or.inl (hw _ (List.mem_of_getElem? (i := 184) rfl))) (Or.inl (hw _ (List.mem_of_getElem? (i := 30) rfl))) (by decide) (t := .long) (t' := .long) (by decide) (by decide)))).ext E63).keep K78 (ninS ne68 nin0)).ext E92).keep K115 (ninS ne68 nin0)).keep K138 (ninS ne68 nin0)).keep K165 nin0)
    have A168 := A167.getF (pc' := 62) (host := "") d5_59 (Or.inl (hw _ (List.mem_of_getElem? (i := 183) rfl))) Via.refl f169 rfl
    have A170 := A168.lconst (z := (0 : Int64)) (pc' := 63) d5_62 rfl rfl
    have A171 := A170.lcmp (pc' := 64) d5_63 rfl
    have A173 := A171.ifYes (pc' := 101) d5_64 (flt (lngt (x := (0 : Int64)) (y := (0 : Int64)) rfl rfl (by decide : ¬ ((0 : Int) < 0)))).2.2.2 (by decide) (by decide)
    have A174 := A173.aloadN (v := (.ref o)) (pc' := 102) d5_101 rfl rfl rfl
    have A175 := A174.iconst (z := (1 : Int32)) (pc' := 103) d5_102 rfl rfl
    have f176 := ((((((f23.ext E63).keep K78 (ninS ne68 nin0)).ext E92).keep K115 (ninS ne68 nin0)).keep K138 (ninS ne68 nin0)).keep K165 nin0)
    have f177 := ((f148.keep K138).keep K165)
    obtain ⟨h179, w180, A178⟩ := A175.putFN (pc' := 106) (ty := .boolean) (v' := (.int (1 : Int32))) d5_103 (hw _ (List.mem_of_getElem? (i := 31) rfl)) Via.refl f176 f177 (Or.inl (hw _ (List.mem_of_getElem? (i := 32) rfl))) (hw _ (List.mem_of_getElem? (i := 2) rfl)) (by decide) rfl rfl (by decide) (by decide) e1 rfl
    have f181 := f176.same w180
    have A182 := A178.aloadN (v := (.ref o)) (pc' := 107) d5_106 rfl rfl rfl
    have A183 := A182.lloadN (v := t) (pc' := 108) d5_107 rfl rfl
    have f184 := (((((((f29.ext E63).keep K78 (ninS ne68 nin0)).ext E92).keep K115 (ninS ne68 nin0)).keep K138 (ninS ne68 nin0)).keep K165 nin0).other w180 (Or.inr (slot_ne (Or.inl (hw _ (List.mem_of_getElem? (i := 186) rfl))) (Or.inl (hw _ (List.mem_of_getElem? (i := 32) rfl))) (by decide) (t := .long) (t' := .boolean) (by decide) (by decide))))
    have f185 := (f177.wr w180)
    obtain ⟨h187, w188, A186⟩ := A183.putF (pc' := 111) (ty := .long) (host := "") d5_108 (Or.inl (hw _ (List.mem_of_getElem? (i := 185) rfl))) Via.refl f184 f185 (Or.inl (hw _ (List.mem_of_getElem? (i := 186) rfl))) (hw _ (List.mem_of_getElem? (i := 2) rfl)) (by decide) rfl rfl (by decide) (by decide) e1 rfl
    have f189 := f184.same w188
    have A190 := A186.aloadN (v := (.ref o)) (pc' := 112) d5_111 rfl rfl rfl
    have A191 := A190.lconst (z := (0 : Int64)) (pc' := 113) d5_112 rfl rfl
    have f192 := ((f169.other w180 (Or.inr (slot_ne (Or.inl (hw _ (List.mem_of_getElem? (i := 184) rfl))) (Or.inl (hw _ (List.mem_of_getElem? (i := 32) rfl))) (by decide) (t := .long) (t' := .boolean) (by decide) (by decide)))).other w188 (Or.inr (slot_ne (Or.inl (hw _ (List.mem_of_getElem? (i := 184) rfl))) (Or.inl (hw _ (List.mem_of_getElem? (i := 186) rfl))) (by decide) (t := .long) (t' := .long) (by decide) (by decide))))
    have f193 := (f185.wr w188)
    obtain ⟨h195, w196, A194⟩ := A191.putF (pc' := 116) (ty := .long) (host := "") d5_113 (Or.inl (hw _ (List.mem_of_getElem? (i := 183) rfl))) Via.refl f192 f193 (Or.inl (hw _ (List.mem_of_getElem? (i := 184) rfl))) (hw _ (List.mem_of_getElem? (i := 2) rfl)) (by decide) rfl rfl (by decide) (by decide) e1 rfl
    have f197 := f192.same w196
    have A198 := A194.aloadN (v := (.ref o)) (pc' := 117) d5_116 rfl rfl rfl
    have A199 := A198.iconst (z := (1 : Int32)) (pc' := 118) d5_117 rfl rfl
    have f200 := (((((((((((e7.other w5 (Or.inr (slot_ne (Or.inl (hw _ (List.mem_of_getElem? (i := 188) rfl))) (Or.inl (hw _ (List.mem_of_getElem? (i := 16) rfl))) (by decide) (t := .boolean) (t' := .boolean) (by decide) (by decide)))).other w17 (Or.inr (slot_ne (Or.inl (hw _ (List.mem_of_getElem? (i := 188) rfl))) (Or.inl (hw _ (List.mem_of_getElem? (i := 30) rfl))) (by decide) (t := .boolean) (t' := .long) (by decide) (by decide)))).ext E63).keep K78 (ninS ne68 nin0)).ext E92).keep K115 (ninS ne68 nin0)).keep K138 (ninS ne68 nin0)).keep K165 nin0).other w180 (Or.inr (slot_ne (Or.inl (hw _ (List.mem_of_getElem? (i := 188) rfl))) (Or.inl (hw _ (List.mem_of_getElem? (i := 32) rfl))) (by decide) (t := .boolean) (t' := .boolean) (by decide) (by decide)))).other w188 (Or.inr (slot_ne (Or.inl (hw _ (List.mem_of_getElem? (i := 188) rfl))) (Or.inl (hw _ (List.mem_of_getElem? (i := 186) rfl))) (by decide) (t := .boolean) (t' := .long) (by decide) (by decide)))).other w196 (Or.inr (slot_ne (Or.inl (hw _ (List.mem_of_getElem? (i := 188) rfl))) (Or.inl (hw _ (List.mem_of_getElem? (i := 184) rfl))) (by decide) (t := .boolean) (t' := .long) (by decide) (by decide))))
    have f201 := (f193.wr w196)
    obtain ⟨h203, w204, A202⟩ := A199.putFN (pc' := 121) (ty := .boolean) (v' := (.int (1 : Int32))) d5_118 (hw _ (List.mem_of_getElem? (i := 187) rfl)) Via.refl f200 f201 (Or.inl (hw _ (List.mem_of_getElem? (i := 188) rfl))) (hw _ (List.mem_of_getElem? (i := 2) rfl)) (by decide) rfl rfl (by decide) (by decide) e1 rfl
    have f205 := f200.same w204
    have A206 := A202.goto (pc' := 134) d5_121 (by decide) (by decide)
    have A207 := A206.aload (v := (.ref r162)) (pc' := 136) d5_134 rfl rfl rfl
    obtain ⟨r209, h211, ⟨K212, q210⟩, A208⟩ := U.kA (A207.callS (argsL := [(.ref r162)]) (rest := []) (C' := 11) (S' := 543) (pc' := 139) d5_136 (hw _ (List.mem_of_getElem? (i := 189) rfl)) (hw _ (List.mem_of_getElem? (i := 190) rfl)) (hw _ (List.mem_of_getElem? (i := 191) rfl)) (hw _ (List.mem_of_getElem? (i := 192) rfl)) (Ctr.toU (rm33_r l Z a0 hw n0 [] (r162)  h203 A207.size ) (own_ew hw) (fun v h' q => by obtain ⟨_, _, K, -⟩ := q; exact ⟨_, K, allU0⟩)) rfl rfl pd_23 rfl rfl (by decide) (by decide) (Nat.le_of_ble_eq_true rfl) (by decide) (by decide) rfl rfl rfl)
    have z213 : h0.size ≤ b60 := Nat.le_trans (Nat.le_trans (Nat.le_trans (Nat.le_refl _) (Nat.le_of_eq w5.size.symm)) (Nat.le_of_eq w17.size.symm)) (Nat.le_of_eq eb61.symm)
    have K214 : Keep h0 h211 [o] := ((((((((((((((Keep.refl h0 [o]).wr w5 (Or.inl (List.mem_of_getElem? (i := 0) rfl))).wr w17 (Or.inl (List.mem_of_getElem? (i := 0) rfl))).ext E63).trans K78 (allS (Or.inr z213) all0)).ext E92).trans K115 (allS (Or.inr z213) all0)).trans K138 (allS (Or.inr z213) all0)).trans K165 all0).wr w180 (Or.inl (List.mem_of_getElem? (i := 0) rfl))).wr w188 (Or.inl (List.mem_of_getElem? (i := 0) rfl))).wr w196 (Or.inl (List.mem_of_getElem? (i := 0) rfl))).wr w204 (Or.inl (List.mem_of_getElem? (i := 0) rfl))).trans K212 all0)
    have f215 := ((((((((((((f6.other w17 (Or.inr (slot_ne (Or.inl (hw _ (List.mem_of_getElem? (i := 16) rfl))) (Or.inl (hw _ (List.mem_of_getElem? (i := 30) rfl))) (by decide) (t := .boolean) (t' := .long) (by decide) (by decide)))).ext E63).keep K78 (ninS ne68 nin0)).ext E92).keep K115 (ninS ne68 nin0)).keep K138 (ninS ne68 nin0)).keep K165 nin0).other w180 (Or.inr (slot_ne (Or.inl (hw _ (List.mem_of_getElem? (i := 16) rfl))) (Or.inl (hw _ (List.mem_of_getElem? (i := 32) rfl))) (by decide) (t := .boolean) (t' := .boolean) (by decide) (by decide)))).other w188 (Or.inr (slot_ne (Or.inl (hw _ (List.mem_of_getElem? (i := 16) rfl))) (Or.inl (hw _ (List.mem_of_getElem? (i := 186) rfl))) (by decide) (t := .boolean) (t' := .long) (by decide) (by decide)))).other w196 (Or.inr (slot_ne (Or.inl (hw _ (List.mem_of_getElem? (i := 16) rfl))) (Or.inl (hw _ (List.mem_of_getElem? (i := 184) rfl))) (by decide) (t := .boolean) (t' := .long) (by decide) (by decide)))).other w204 (Or.inr (slot_ne (Or.inl (hw _ (List.mem_of_getElem? (i := 16) rfl))) (Or.inl (hw _ (List.mem_of_getElem? (i := 188) rfl))) (by decide) (t := .boolean) (t' := .boolean) (by decide) (by decide)))).keep K212 nin0)
    have f216 := (((((((((((f18.ext E63).keep K78 (ninS ne68 nin0)).ext E92).keep K115 (ninS ne68 nin0)).keep K138 (ninS ne68 nin0)).keep K165 nin0).other w180 (Or.inr (slot_ne (Or.inl (hw _ (List.mem_of_getElem? (i := 30) rfl))) (Or.inl (hw _ (List.mem_of_getElem? (i := 32) rfl))) (by decide) (t := .long) (t' := .boolean) (by decide) (by decide)))).other w188 (Or.inr (slot_ne (Or.inl (hw _ (List.mem_of_getElem? (i := 30) rfl))) (Or.inl (hw _ (List.mem_of_getElem? (i := 186) rfl))) (by decide) (t := .long) (t' := .long) (by decide) (by decide)))).other w196 (Or.inr (slot_ne (Or.inl (hw _ (List.mem_of_getElem? (i := 30) rfl))) (Or.inl (hw _ (List.mem_of_getElem? (i := 184) rfl))) (by decide) (t := .long) (t' := .long) (by decide) (by decide)))).other w204 (Or.inr (slot_ne (Or.inl (hw _ (List.mem_of_getElem? (i := 30) rfl))) (Or.inl (hw _ (List.mem_of_getElem? (i := 188) rfl))) (by decide) (t := .long) (t' := .boolean) (by decide) (by decide)))).keep K212 nin0)
    refine A208.retA d5_139 (by decide) (by decide) rfl rfl rfl ⟨_, rfl, ⟨K214, f215, f216, ?_⟩⟩
    trivial
theorem pn3 : plainFor (⟨"com/example/steady_quorum/steadyquorum/server/AcceptFailures", "resumeDue", "(J)Z"⟩ : MethodName) = true := by first | exact plainFor_of_name (by first | (simp [plainName, overriddenIn]; done) | decide +kernel) | exact Jvm.Free.JP.mathPlain rfl (by decide +kernel) | decide +kernel
theorem d3_0 : decode prog_78_method_5_code 0 = .ok (.aload_n 0, 1) := by decide +kernel
theorem d3_1 : decode prog_78_method_5_code 1 = .ok (.getfield 7, 3) := by decide +kernel
theorem d3_4 : decode prog_78_method_5_code 4 = .ok (.ifCond .eq 18, 3) := by decide +kernel
theorem d3_7 : decode prog_78_method_5_code 7 = .ok (.lload_n 1, 1) := by decide +kernel
theorem d3_8 : decode prog_78_method_5_code 8 = .ok (.aload_n 0, 1) := by decide +kernel
theorem d3_9 : decode prog_78_method_5_code 9 = .ok (.getfield 17, 3) := by decide +kernel
theorem d3_12 : decode prog_78_method_5_code 12 = .ok (.lsub, 1) := by decide +kernel
theorem d3_13 : decode prog_78_method_5_code 13 = .ok (.lconst 0, 1) := by decide +kernel
theorem d3_14 : decode prog_78_method_5_code 14 = .ok (.lcmp, 1) := by decide +kernel
theorem d3_15 : decode prog_78_method_5_code 15 = .ok (.ifCond .lt 7, 3) := by decide +kernel
theorem d3_18 : decode prog_78_method_5_code 18 = .ok (.iconst 1, 1) := by decide +kernel
theorem d3_19 : decode prog_78_method_5_code 19 = .ok (.goto 4, 3) := by decide +kernel
theorem d3_22 : decode prog_78_method_5_code 22 = .ok (.iconst 0, 1) := by decide +kernel
theorem d3_23 : decode prog_78_method_5_code 23 = .ok (.istore_n 3, 1) := by decide +kernel
theorem d3_24 : decode prog_78_method_5_code 24 = .ok (.iload_n 3, 1) := by decide +kernel
theorem d3_25 : decode prog_78_method_5_code 25 = .ok (.ifCond .eq 8, 3) := by decide +kernel
theorem d3_28 : decode prog_78_method_5_code 28 = .ok (.aload_n 0, 1) := by decide +kernel
theorem d3_29 : decode prog_78_method_5_code 29 = .ok (.iconst 0, 1) := by decide +kernel
theorem d3_30 : decode prog_78_method_5_code 30 = .ok (.putfield 7, 3) := by decide +kernel
theorem d3_33 : decode prog_78_method_5_code 33 = .ok (.iload_n 3, 1) := by decide +kernel
theorem d3_34 : decode prog_78_method_5_code 34 = .ok (.ireturn, 1) := by decide +kernel
abbrev y3 : MethodName := (⟨"com/example/steady_quorum/steadyquorum/server/AcceptFailures", "resumeDue", "(J)Z"⟩ : MethodName)
abbrev R3 : Room := { frames := 0, cells := 0, slots := 0, locals := 0 }
set_option maxRecDepth 65536 in
set_option maxHeartbeats 4000000 in
theorem ef3 (o : Addr) (n : Int64)  (mid : MethodId) : entryFrame mid #[(.ref o), (.long n)] 4 = mkF mid 0 #[.val (.ref o), .val (.long n), .second, .unset] [] := by first | (simp [entryFrame, mkF, argsToLocals, Value.category]; done) | rfl
set_option maxRecDepth 65536 in
set_option maxHeartbeats 40000000 in
theorem rm3 (l : Launch) (Z : State) (a0 : Array Value) (hw : ∀ d ∈ tables_1, d.before a0 Z = true) (n0 : Nat) (ws : List Jvm.Cond) (o : Addr) (n : Int64) (rs : Int32) (ra : Int64) (wv : Int32) (uw : Int64) (wa : Int64) (eu : Int32) (h0 : Heap) (hn0 : n0 ≤ h0.size) (e0 : Exa Z h0 o "com/example/steady_quorum/steadyquorum/server/AcceptFailures") (e1 : n0 ≤ o) (e2 : Fld Z h0 o "com/example/steady_quorum/steadyquorum/server/AcceptFailures" "resting" "Z" (.int rs)) (e3 : Fld Z h0 o "com/example/steady_quorum/steadyquorum/server/AcceptFailures" "restEndsAt" "J" (.long ra)) (e4 : rs.toInt = 0 ∨ rs.toInt = 1) (e5 : Fld Z h0 o "com/example/steady_quorum/steadyquorum/server/AcceptFailures" "warned" "Z" (.int wv)) (e6 : Fld Z h0 o "com/example/steady_quorum/steadyquorum/server/AcceptFailures" "unwarned" "J" (.long uw)) (e7 : Fld Z h0 o "com/example/steady_quorum/steadyquorum/server/AcceptFailures" "warnedAt" "J" (.long wa)) (e8 : Fld Z h0 o "com/example/steady_quorum/steadyquorum/server/AcceptFailures" "endUntold" "Z" (.int eu)) :
    Ctr l Z n0 y3 prog_78_method_5_code 4 (some .boolean) ws R3 #[(.ref o), (.long n)] h0 (QI fun r h => ∃ rs2 : Int32, (Keep h0 h [o]) ∧ (Fld Z h o "com/example/steady_quorum/steadyquorum/server/AcceptFailures" "resting" "Z" (.int rs2)) ∧ (Fld Z h o "com/example/steady_quorum/steadyquorum/server/AcceptFailures" "restEndsAt" "J" (.long ra)) ∧ (Fld Z h o "com/example/steady_quorum/steadyquorum/server/AcceptFailures" "warned" "Z" (.int wv)) ∧ (Fld Z h o "com/example/steady_quorum/steadyquorum/server/AcceptFailures" "unwarned" "J" (.long uw)) ∧ (Fld Z h o "com/example/steady_quorum/steadyquorum/server/AcceptFailures" "warnedAt" "J" (.long wa)) ∧ (Fld Z h o "com/example/steady_quorum/steadyquorum/server/AcceptFailures" "endUntold" "Z" (.int eu)) ∧ ((rs.toInt = 1 ∧ 0 ≤ (n - ra).toInt ∧ r.toInt = 1 ∧ rs2.toInt = 0) ∨ (¬ (rs.toInt = 1 ∧ 0 ≤ (n - ra).toInt) ∧ r.toInt = 0 ∧ rs2.toInt = rs.toInt))) := by
  refine ctr_of pn3 hn0 (ef3 o n) fun G A0 => ?_
  have z0 : (0 : Int32).toInt = 0 := rfl
  have A1 := A0.aloadN (v := (.ref o)) (pc' := 1) d3_0 rfl rfl rfl
  have A2 := A1.getF (pc' := 4) (host := "") d3_1 (Or.inl (hw _ (List.mem_of_getElem? (i := 15) rfl))) Via.refl e2 rfl
  by_cases c3 : rs.toInt = 0
  · have A4 := A2.ifYes (pc' := 22) d3_4 (teq (ieq (x := rs) (y := (0 : Int32)) rfl rfl c3)).1 (by decide) (by decide)
    have A5 := A4.iconst (z := (0 : Int32)) (pc' := 23) d3_22 rfl rfl
    have A6 := A5.istoreN (Ls' := #[.val (.ref o), .val (.long n), .second, .val (.int (0 : Int32))]) (pc' := 24) d3_23 rfl rfl
    have A7 := A6.iloadN (v := (0 : Int32)) (pc' := 25) d3_24 rfl rfl
    have A9 := A7.ifYes (pc' := 33) d3_25 (teq (ieq (x := (0 : Int32)) (y := (0 : Int32)) rfl rfl (by decide : (0 : Int) = 0))).1 (by decide) (by decide)
    have A10 := A9.iloadN (v := (0 : Int32)) (pc' := 34) d3_33 rfl rfl
    have K11 : Keep h0 h0 [o] := (Keep.refl h0 [o])
    refine A10.retN (t := .boolean) (z' := (0 : Int32)) d3_34 (by decide) (by decide) (by simp) rfl ⟨_, rfl, ⟨rs, K11, e2, e3, e5, e6, e7, e8, ?_⟩⟩
    have elit : (0 : Int32).toInt = 0 := rfl
    first | exact Or.inl ⟨by omega, by omega, rfl, rfl⟩ | exact Or.inr ⟨by omega, rfl, rfl⟩
  · have A12 := A2.ifNo (pc' := 7) d3_4 (feq (ine (x := rs) (y := (0 : Int32)) rfl rfl c3)).1 rfl
    have A13 := A12.lloadN (v := n) (pc' := 8) d3_7 rfl rfl
    have A14 := A13.aloadN (v := (.ref o)) (pc' := 9) d3_8 rfl rfl rfl
    have A15 := A14.getF (pc' := 12) (host := "") d3_9 (Or.inl (hw _ (List.mem_of_getElem? (i := 29) rfl))) Via.refl e3 rfl
    have A16 := A15.lsub (pc' := 13) d3_12 rfl
    have A17 := A16.lconst (z := (0 : Int64)) (pc' := 14) d3_13 rfl rfl
    have A18 := A17.lcmp (pc' := 15) d3_14 rfl
    by_cases c19 : (n - ra).toInt < 0
    · have A20 := A18.ifYes (pc' := 22) d3_15 (tlt (llt (x := (n - ra)) (y := (0 : Int64)) rfl rfl c19)).1 (by decide) (by decide)
      have A21 := A20.iconst (z := (0 : Int32)) (pc' := 23) d3_22 rfl rfl
      have A22 := A21.istoreN (Ls' := #[.val (.ref o), .val (.long n), .second, .val (.int (0 : Int32))]) (pc' := 24) d3_23 rfl rfl
      have A23 := A22.iloadN (v := (0 : Int32)) (pc' := 25) d3_24 rfl rfl
      have A25 := A23.ifYes (pc' := 33) d3_25 (teq (ieq (x := (0 : Int32)) (y := (0 : Int32)) rfl rfl (by decide : (0 : Int) = 0))).1 (by decide) (by decide)
      have A26 := A25.iloadN (v := (0 : Int32)) (pc' := 34) d3_33 rfl rfl
      have K27 : Keep h0 h0 [o] := (Keep.refl h0 [o])
      refine A26.retN (t := .boolean) (z' := (0 : Int32)) d3_34 (by decide) (by decide) (by simp) rfl ⟨_, rfl, ⟨rs, K27, e2, e3, e5, e6, e7, e8, ?_⟩⟩
      have elit : (0 : Int32).toInt = 0 := rfl
      first | exact Or.inl ⟨by omega, by omega, rfl, rfl⟩ | exact Or.inr ⟨by omega, rfl, rfl⟩
    · have A28 := A18.ifNo (pc' := 18) d3_15 (flt (lnlt (x := (n - ra)) (y := (0 : Int64)) rfl rfl c19)).1 rfl
      have A29 := A28.iconst (z := (1 : Int32)) (pc' := 19) d3_18 rfl rfl
      have A30 := A29.goto (pc' := 23) d3_19 (by decide) (by decide)
      have A31 := A30.istoreN (Ls' := #[.val (.ref o), .val (.long n), .second, .val (.int (1 : Int32))]) (pc' := 24) d3_23 rfl rfl
      have A32 := A31.iloadN (v := (1 : Int32)) (pc' := 25) d3_24 rfl rfl
      have A34 := A32.ifNo (pc' := 28) d3_25 (feq (ine (x := (1 : Int32)) (y := (0 : Int32)) rfl rfl (by decide : ¬ ((1 : Int) = 0)))).1 rfl
      have A35 := A34.aloadN (v := (.ref o)) (pc' := 29) d3_28 rfl rfl rfl
      have A36 := A35.iconst (z := (0 : Int32)) (pc' := 30) d3_29 rfl rfl
      obtain ⟨h38, w39, A37⟩ := A36.putFN (pc' := 33) (ty := .boolean) (v' := (.int (0 : Int32))) d3_30 (hw _ (List.mem_of_getElem? (i := 15) rfl)) Via.refl e2 e0 (Or.inl (hw _ (List.mem_of_getElem? (i := 16) rfl))) (hw _ (List.mem_of_getElem? (i := 2) rfl)) (by decide) rfl rfl e1 rfl
      have f40 := e2.same w39
      have A41 := A37.iloadN (v := (1 : Int32)) (pc' := 34) d3_33 rfl rfl
      have K42 : Keep h0 h38 [o] := ((Keep.refl h0 [o]).wr w39 (Or.inl (List.mem_of_getElem? (i := 0) rfl)))
      have f43 := (e3.other w39 (Or.inr (slot_ne (Or.inl (hw _ (List.mem_of_getElem? (i := 30) rfl))) (Or.inl (hw _ (List.mem_of_getElem? (i := 16) rfl))) (by decide) (t := .long) (t' := .boolean) (by decide) (by decide))))
      have f44 := (e5.other w39 (Or.inr (slot_ne (Or.inl (hw _ (List.mem_of_getElem? (i := 32) rfl))) (Or.inl (hw _ (List.mem_of_getElem? (i := 16) rfl))) (by decide) (t := .boolean) (t' := .boolean) (by decide) (by decide))))
      have f45 := (e6.other w39 (Or.inr (slot_ne (Or.inl (hw _ (List.mem_of_getElem? (i := 184) rfl))) (Or.inl (hw _ (List.mem_of_getElem? (i := 16) rfl))) (by decide) (t := .long) (t' := .boolean) (by decide) (by decide))))
      have f46 := (e7.other w39 (Or.inr (slot_ne (Or.inl (hw _ (List.mem_of_getElem? (i := 186) rfl))) (Or.inl (hw _ (List.mem_of_getElem? (i := 16) rfl))) (by decide) (t := .long) (t' := .boolean) (by decide) (by decide))))
      have f47 := (e8.other w39 (Or.inr (slot_ne (Or.inl (hw _ (List.mem_of_getElem? (i := 188) rfl))) (Or.inl (hw _ (List.mem_of_getElem? (i := 16) rfl))) (by decide) (t := .boolean) (t' := .boolean) (by decide) (by decide))))
      refine A41.retN (t := .boolean) (z' := (1 : Int32)) d3_34 (by decide) (by decide) (by simp) rfl ⟨_, rfl, ⟨(0 : Int32), K42, f40, f43, f44, f45, f46, f47, ?_⟩⟩
      have elit : (1 : Int32).toInt = 1 := rfl
      first | exact Or.inl ⟨by omega, by omega, rfl, rfl⟩ | exact Or.inr ⟨by omega, rfl, rfl⟩
abbrev y3_b : MethodName := (⟨"com/example/steady_quorum/steadyquorum/server/AcceptFailures", "resumeDue", "(J)Z"⟩ : MethodName)
abbrev R3_b : Room := { frames := 0, cells := 0, slots := 0, locals := 0 }
set_option maxRecDepth 65536 in
set_option maxHeartbeats 4000000 in
theorem ef3_b (o : Addr) (n : Int64)  (mid : MethodId) : entryFrame mid #[(.ref o), (.long n)] 4 = mkF mid 0 #[.val (.ref o), .val (.long n), .second, .unset] [] := by first | (simp [entryFrame, mkF, argsToLocals, Value.category]; done) | rfl
set_option maxRecDepth 65536 in
set_option maxHeartbeats 40000000 in
theorem rm3_b (l : Launch) (Z : State) (a0 : Array Value) (hw : ∀ d ∈ tables_1, d.before a0 Z = true) (n0 : Nat) (ws : List Jvm.Cond) (o : Addr) (n : Int64) (rs : Int32) (ra : Int64) (h0 : Heap) (hn0 : n0 ≤ h0.size) (e0 : Exa Z h0 o "com/example/steady_quorum/steadyquorum/server/AcceptFailures") (e1 : n0 ≤ o) (e2 : Fld Z h0 o "com/example/steady_quorum/steadyquorum/server/AcceptFailures" "resting" "Z" (.int rs)) (e3 : Fld Z h0 o "com/example/steady_quorum/steadyquorum/server/AcceptFailures" "restEndsAt" "J" (.long ra)) (e4 : rs.toInt = 0 ∨ rs.toInt = 1) :
    Ctr l Z n0 y3_b prog_78_method_5_code 4 (some .boolean) ws R3_b #[(.ref o), (.long n)] h0 (QI fun r h => ∃ rs2 : Int32, (Keep h0 h [o]) ∧ (Fld Z h o "com/example/steady_quorum/steadyquorum/server/AcceptFailures" "resting" "Z" (.int rs2)) ∧ (Fld Z h o "com/example/steady_quorum/steadyquorum/server/AcceptFailures" "restEndsAt" "J" (.long ra)) ∧ ((rs.toInt = 1 ∧ 0 ≤ (n - ra).toInt ∧ r.toInt = 1 ∧ rs2.toInt = 0) ∨ (¬ (rs.toInt = 1 ∧ 0 ≤ (n - ra).toInt) ∧ r.toInt = 0 ∧ rs2.toInt = rs.toInt))) := by
  refine ctr_of pn3 hn0 (ef3_b o n) fun G A0 => ?_
  have z0 : (0 : Int32).toInt = 0 := rfl
  have A1 := A0.aloadN (v := (.ref o)) (pc' := 1) d3_0 rfl rfl rfl
  have A2 := A1.getF (pc' := 4) (host := "") d3_1 (Or.inl (hw _ (List.mem_of_getElem? (i := 15) rfl))) Via.refl e2 rfl
  by_cases c3 : rs.toInt = 0
  · have A4 := A2.ifYes (pc' := 22) d3_4 (teq (ieq (x := rs) (y := (0 : Int32)) rfl rfl c3)).1 (by decide) (by decide)
    have A5 := A4.iconst (z := (0 : Int32)) (pc' := 23) d3_22 rfl rfl
    have A6 := A5.istoreN (Ls' := #[.val (.ref o), .val (.long n), .second, .val (.int (0 : Int32))]) (pc' := 24) d3_23 rfl rfl
    have A7 := A6.iloadN (v := (0 : Int32)) (pc' := 25) d3_24 rfl rfl
    have A9 := A7.ifYes (pc' := 33) d3_25 (teq (ieq (x := (0 : Int32)) (y := (0 : Int32)) rfl rfl (by decide : (0 : Int) = 0))).1 (by decide) (by decide)
    have A10 := A9.iloadN (v := (0 : Int32)) (pc' := 34) d3_33 rfl rfl
    have K11 : Keep h0 h0 [o] := (Keep.refl h0 [o])
    refine A10.retN (t := .boolean) (z' := (0 : Int32)) d3_34 (by decide) (by decide) (by simp) rfl ⟨_, rfl, ⟨rs, K11, e2, e3, ?_⟩⟩
    have elit : (0 : Int32).toInt = 0 := rfl
    first | exact Or.inl ⟨by omega, by omega, rfl, rfl⟩ | exact Or.inr ⟨by omega, rfl, rfl⟩
  · have A12 := A2.ifNo (pc' := 7) d3_4 (feq (ine (x := rs) (y := (0 : Int32)) rfl rfl c3)).1 rfl
    have A13 := A12.lloadN (v := n) (pc' := 8) d3_7 rfl rfl
    have A14 := A13.aloadN (v := (.ref o)) (pc' := 9) d3_8 rfl rfl rfl
    have A15 := A14.getF (pc' := 12) (host := "") d3_9 (Or.inl (hw _ (List.mem_of_getElem? (i := 29) rfl))) Via.refl e3 rfl
    have A16 := A15.lsub (pc' := 13) d3_12 rfl
    have A17 := A16.lconst (z := (0 : Int64)) (pc' := 14) d3_13 rfl rfl
    have A18 := A17.lcmp (pc' := 15) d3_14 rfl
    by_cases c19 : (n - ra).toInt < 0
    · have A20 := A18.ifYes (pc' := 22) d3_15 (tlt (llt (x := (n - ra)) (y := (0 : Int64)) rfl rfl c19)).1 (by decide) (by decide)
      have A21 := A20.iconst (z := (0 : Int32)) (pc' := 23) d3_22 rfl rfl
      have A22 := A21.istoreN (Ls' := #[.val (.ref o), .val (.long n), .second, .val (.int (0 : Int32))]) (pc' := 24) d3_23 rfl rfl
      have A23 := A22.iloadN (v := (0 : Int32)) (pc' := 25) d3_24 rfl rfl
      have A25 := A23.ifYes (pc' := 33) d3_25 (teq (ieq (x := (0 : Int32)) (y := (0 : Int32)) rfl rfl (by decide : (0 : Int) = 0))).1 (by decide) (by decide)
      have A26 := A25.iloadN (v := (0 : Int32)) (pc' := 34) d3_33 rfl rfl
      have K27 : Keep h0 h0 [o] := (Keep.refl h0 [o])
      refine A26.retN (t := .boolean) (z' := (0 : Int32)) d3_34 (by decide) (by decide) (by simp) rfl ⟨_, rfl, ⟨rs, K27, e2, e3, ?_⟩⟩
      have elit : (0 : Int32).toInt = 0 := rfl
      first | exact Or.inl ⟨by omega, by omega, rfl, rfl⟩ | exact Or.inr ⟨by omega, rfl, rfl⟩
    · have A28 := A18.ifNo (pc' := 18) d3_15 (flt (lnlt (x := (n - ra)) (y := (0 : Int64)) rfl rfl c19)).1 rfl
      have A29 := A28.iconst (z := (1 : Int32)) (pc' := 19) d3_18 rfl rfl
      have A30 := A29.goto (pc' := 23) d3_19 (by decide) (by decide)
      have A31 := A30.istoreN (Ls' := #[.val (.ref o), .val (.long n), .second, .val (.int (1 : Int32))]) (pc' := 24) d3_23 rfl rfl
      have A32 := A31.iloadN (v := (1 : Int32)) (pc' := 25) d3_24 rfl rfl
      have A34 := A32.ifNo (pc' := 28) d3_25 (feq (ine (x := (1 : Int32)) (y := (0 : Int32)) rfl rfl (by decide : ¬ ((1 : Int) = 0)))).1 rfl
      have A35 := A34.aloadN (v := (.ref o)) (pc' := 29) d3_28 rfl rfl rfl
      have A36 := A35.iconst (z := (0 : Int32)) (pc' := 30) d3_29 rfl rfl
      obtain ⟨h38, w39, A37⟩ := A36.putFN (pc' := 33) (ty := .boolean) (v' := (.int (0 : Int32))) d3_30 (hw _ (List.mem_of_getElem? (i := 15) rfl)) Via.refl e2 e0 (Or.inl (hw _ (List.mem_of_getElem? (i := 16) rfl))) (hw _ (List.mem_of_getElem? (i := 2) rfl)) (by decide) rfl rfl e1 rfl
      have f40 := e2.same w39
      have A41 := A37.iloadN (v := (1 : Int32)) (pc' := 34) d3_33 rfl rfl
      have K42 : Keep h0 h38 [o] := ((Keep.refl h0 [o]).wr w39 (Or.inl (List.mem_of_getElem? (i := 0) rfl)))
      have f43 := (e3.other w39 (Or.inr (slot_ne (Or.inl (hw _ (List.mem_of_getElem? (i := 30) rfl))) (Or.inl (hw _ (List.mem_of_getElem? (i := 16) rfl))) (by decide) (t := .long) (t' := .boolean) (by decide) (by decide))))
      refine A41.retN (t := .boolean) (z' := (1 : Int32)) d3_34 (by decide) (by decide) (by simp) rfl ⟨_, rfl, ⟨(0 : Int32), K42, f40, f43, ?_⟩⟩
      have elit : (1 : Int32).toInt = 1 := rfl
      first | exact Or.inl ⟨by omega, by omega, rfl, rfl⟩ | exact Or.inr ⟨by omega, rfl, rfl⟩
theorem pn4 : plainFor (⟨"com/example/steady_quorum/steadyquorum/server/AcceptFailures", "restLeftNanos", "(J)J"⟩ : MethodName) = true := by first | exact plainFor_of_name (by first | (simp [plainName, overriddenIn]; done) | decide +kernel) | exact Jvm.Free.JP.mathPlain rfl (by decide +kernel) | decide +kernel
theorem d4_0 : decode prog_78_method_4_code 0 = .ok (.aload_n 0, 1) := by decide +kernel
theorem d4_1 : decode prog_78_method_4_code 1 = .ok (.getfield 7, 3) := by decide +kernel
theorem d4_4 : decode prog_78_method_4_code 4 = .ok (.ifCond .eq 16, 3) := by decide +kernel
theorem d4_7 : decode prog_78_method_4_code 7 = .ok (.lconst 0, 1) := by decide +kernel
theorem d4_8 : decode prog_78_method_4_code 8 = .ok (.aload_n 0, 1) := by decide +kernel
theorem d4_9 : decode prog_78_method_4_code 9 = .ok (.getfield 17, 3) := by decide +kernel
theorem d4_12 : decode prog_78_method_4_code 12 = .ok (.lload_n 1, 1) := by decide +kernel
theorem d4_13 : decode prog_78_method_4_code 13 = .ok (.lsub, 1) := by decide +kernel
theorem d4_14 : decode prog_78_method_4_code 14 = .ok (.invokestatic 66, 3) := by decide +kernel
theorem d4_17 : decode prog_78_method_4_code 17 = .ok (.goto 4, 3) := by decide +kernel
theorem d4_20 : decode prog_78_method_4_code 20 = .ok (.lconst 0, 1) := by decide +kernel
theorem d4_21 : decode prog_78_method_4_code 21 = .ok (.lreturn, 1) := by decide +kernel
abbrev y4 : MethodName := (⟨"com/example/steady_quorum/steadyquorum/server/AcceptFailures", "restLeftNanos", "(J)J"⟩ : MethodName)
abbrev R4 : Room := { frames := 1, cells := 0, slots := 0, locals := 15 }
set_option maxRecDepth 65536 in
set_option maxHeartbeats 4000000 in
theorem ef4 (o : Addr) (n : Int64)  (mid : MethodId) : entryFrame mid #[(.ref o), (.long n)] 3 = mkF mid 0 #[.val (.ref o), .val (.long n), .second] [] := by first | (simp [entryFrame, mkF, argsToLocals, Value.category]; done) | rfl
set_option maxRecDepth 65536 in
set_option maxHeartbeats 40000000 in
theorem rm4 (l : Launch) (Z : State) (a0 : Array Value) (hw : ∀ d ∈ tables_1, d.before a0 Z = true) (n0 : Nat) (ws : List Jvm.Cond) (o : Addr) (n : Int64) (rs : Int32) (ra : Int64) (h0 : Heap) (hn0 : n0 ≤ h0.size) (e0 : Fld Z h0 o "com/example/steady_quorum/steadyquorum/server/AcceptFailures" "resting" "Z" (.int rs)) (e1 : Fld Z h0 o "com/example/steady_quorum/steadyquorum/server/AcceptFailures" "restEndsAt" "J" (.long ra)) (e2 : rs.toInt = 0 ∨ rs.toInt = 1) :
    Ctr l Z n0 y4 prog_78_method_4_code 3 (some .long) ws R4 #[(.ref o), (.long n)] h0 (QJ fun r h => (h0 = h) ∧ ((rs.toInt = 0 ∧ r.toInt = 0) ∨ (rs.toInt ≠ 0 ∧ ((0 < (ra - n).toInt ∧ r.toInt = (ra - n).toInt) ∨ (¬ (0 < (ra - n).toInt) ∧ r.toInt = 0))))) := by
  refine ctr_of pn4 hn0 (ef4 o n) fun G A0 => ?_
  have A1 := A0.aloadN (v := (.ref o)) (pc' := 1) d4_0 rfl rfl rfl
  have A2 := A1.getF (pc' := 4) (host := "") d4_1 (Or.inl (hw _ (List.mem_of_getElem? (i := 15) rfl))) Via.refl e0 rfl
  by_cases c3 : rs.toInt = 0
  · have A4 := A2.ifYes (pc' := 20) d4_4 (teq (ieq (x := rs) (y := (0 : Int32)) rfl rfl c3)).1 (by decide) (by decide)
    have A5 := A4.lconst (z := (0 : Int64)) (pc' := 21) d4_20 rfl rfl
    refine A5.retJ d4_21 (by decide) (by decide) ⟨_, rfl, ⟨rfl, ?_⟩⟩
    exact Or.inl ⟨by omega, rfl⟩
  · have A6 := A2.ifNo (pc' := 7) d4_4 (feq (ine (x := rs) (y := (0 : Int32)) rfl rfl c3)).1 rfl
    have A7 := A6.lconst (z := (0 : Int64)) (pc' := 8) d4_7 rfl rfl
    have A8 := A7.aloadN (v := (.ref o)) (pc' := 9) d4_8 rfl rfl rfl
    have A9 := A8.getF (pc' := 12) (host := "") d4_9 (Or.inl (hw _ (List.mem_of_getElem? (i := 29) rfl))) Via.refl e1 rfl
    have A10 := A9.lloadN (v := n) (pc' := 13) d4_12 rfl rfl
    have A11 := A10.lsub (pc' := 14) d4_13 rfl
    obtain ⟨r13, _, ⟨rfl, q14⟩, A12⟩ := W.kJ (A11.callS (argsL := [(.long (0 : Int64)), (.long (ra - n))]) (rest := []) (C' := 0) (S' := 0) (pc' := 17) d4_14 (hw _ (List.mem_of_getElem? (i := 205) rfl)) (hw _ (List.mem_of_getElem? (i := 203) rfl)) (hw _ (List.mem_of_getElem? (i := 100) rfl)) (hw _ (List.mem_of_getElem? (i := 204) rfl)) (rm35 l Z a0 hw n0 [] ((0 : Int64)) ((ra - n))  h0 A11.size ) rfl rfl pd_24 rfl rfl (by decide) (by decide) (Nat.le_of_ble_eq_true rfl) (by decide) (by decide) rfl rfl rfl)
    have A16 := A12.goto (pc' := 21) d4_17 (by decide) (by decide)
    refine A16.retJ d4_21 (by decide) (by decide) ⟨_, rfl, ⟨rfl, ?_⟩⟩
    rcases q14 with ⟨h1, h2⟩ | ⟨h1, h2⟩
    · exact Or.inr ⟨by omega, Or.inl ⟨h1, h2⟩⟩
    · exact Or.inr ⟨by omega, Or.inr ⟨h1, h2⟩⟩
theorem pn1 : plainFor (⟨"com/example/steady_quorum/steadyquorum/server/AcceptFailures", "<init>", "()V"⟩ : MethodName) = true := by first | exact plainFor_of_name (by first | (simp [plainName, overriddenIn]; done) | decide +kernel) | exact Jvm.Free.JP.mathPlain rfl (by decide +kernel) | decide +kernel
theorem d1_0 : decode prog_78_method_1_code 0 = .ok (.aload_n 0, 1) := by decide +kernel
theorem d1_1 : decode prog_78_method_1_code 1 = .ok (.invokespecial 1, 3) := by decide +kernel
theorem d1_4 : decode prog_78_method_1_code 4 = .ok (.return_, 1) := by decide +kernel
abbrev y1 : MethodName := (⟨"com/example/steady_quorum/steadyquorum/server/AcceptFailures", "<init>", "()V"⟩ : MethodName)
abbrev R1 : Room := { frames := 1, cells := 0, slots := 0, locals := 12 }
set_option maxRecDepth 65536 in
set_option maxHeartbeats 4000000 in
theorem ef1 (o : Addr)  (mid : MethodId) : entryFrame mid #[(.ref o)] 1 = mkF mid 0 #[.val (.ref o)] [] := by first | (simp [entryFrame, mkF, argsToLocals, Value.category]; done) | rfl
set_option maxRecDepth 65536 in
set_option maxHeartbeats 40000000 in
theorem rm1 (l : Launch) (Z : State) (a0 : Array Value) (hw : ∀ d ∈ tables_1, d.before a0 Z = true) (n0 : Nat) (ws : List Jvm.Cond) (o : Addr)  (h0 : Heap) (hn0 : n0 ≤ h0.size)  :
    Ctr l Z n0 y1 prog_78_method_1_code 1 (none) ws R1 #[(.ref o)] h0 (QV fun h => (h0 = h) ∧ (True)) := by
  refine ctr_of pn1 hn0 (ef1 o) fun G A0 => ?_
  have A1 := A0.aloadN (v := (.ref o)) (pc' := 1) d1_0 rfl rfl rfl
  have A2 := A1.initO (pc' := 4) d1_1 (hw _ (List.mem_of_getElem? (i := 7) rfl)) (hw _ (List.mem_of_getElem? (i := 8) rfl)) (hw _ (List.mem_of_getElem? (i := 9) rfl)) rfl (by decide) (Nat.le_of_ble_eq_true rfl) rfl
  refine A2.retV d1_4 (by decide) (by decide) ⟨rfl, ⟨rfl, ?_⟩⟩
  trivial
theorem own_lf0 {v0 v1 v2 v3 v4 v5 v6 v7 v8 v9 v10 v11 v12 v13 v14 v15 v16 v17 v18 v19 v20 v21 v22 v23 v24 v25 v26 : Int} (h0 : v0 = 0) (h1 : v1 = 0) (h2 : (v2 = 1 ∧ 0 ≤ v3 ∧ v4 = 1 ∧ v5 = 0) ∨ (¬ (v2 = 1 ∧ 0 ≤ v3) ∧ v4 = 0 ∧ v5 = v2)) (h3 : v4 = 0) (h4 : (v5 = 0 ∧ v6 = 0) ∨ (v5 ≠ 0 ∧ ((0 < v7 ∧ v6 = v7) ∨ (¬ (0 < v7) ∧ v6 = 0)))) (h5 : v6 = 0) (h6 : (v5 = 1 ∧ 0 ≤ v8 ∧ v9 = 1 ∧ v10 = 0) ∨ (¬ (v5 = 1 ∧ 0 ≤ v8) ∧ v9 = 0 ∧ v10 = v5)) (h7 : v9 = 0) (h8 : (v10 = 0 ∧ v11 = 0) ∨ (v10 ≠ 0 ∧ ((0 < v12 ∧ v11 = v12) ∨ (¬ (0 < v12) ∧ v11 = 0)))) (h9 : ¬ (v11 = 0)) (h10 : v13 = v14) (h11 : v15 = v16) (h12 : v17 = v18) (h13 : v19 = v20) (h14 : v21 = v22) (h15 : v23 = v24) (h16 : v2 = 0) (h17 : v25 = 1) (h18 : v26 = 0) : False := by omega
theorem own_lf1 {v0 v1 v2 v3 v4 v5 v6 v7 v8 v9 v10 v11 v12 v13 v14 v15 v16 v17 v18 v19 v20 v21 v22 v23 v24 : Int} (h0 : v0 = 0) (h1 : v1 = 0) (h2 : (v2 = 1 ∧ 0 ≤ v3 ∧ v4 = 1 ∧ v5 = 0) ∨ (¬ (v2 = 1 ∧ 0 ≤ v3) ∧ v4 = 0 ∧ v5 = v2)) (h3 : v4 = 0) (h4 : (v5 = 0 ∧ v6 = 0) ∨ (v5 ≠ 0 ∧ ((0 < v7 ∧ v6 = v7) ∨ (¬ (0 < v7) ∧ v6 = 0)))) (h5 : v6 = 0) (h6 : (v5 = 1 ∧ 0 ≤ v8 ∧ v9 = 1 ∧ v10 = 0) ∨ (¬ (v5 = 1 ∧ 0 ≤ v8) ∧ v9 = 0 ∧ v10 = v5)) (h7 : ¬ (v9 = 0)) (h8 : v11 = v12) (h9 : v13 = v14) (h10 : v15 = v16) (h11 : v17 = v18) (h12 : v19 = v20) (h13 : v21 = v22) (h14 : v2 = 0) (h15 : v23 = 1) (h16 : v24 = 0) : False := by omega
theorem own_lf2 {v0 v1 v2 v3 v4 v5 v6 v7 v8 v9 v10 v11 v12 v13 v14 v15 v16 v17 v18 v19 v20 v21 : Int} (h0 : v0 = 0) (h1 : v1 = 0) (h2 : (v2 = 1 ∧ 0 ≤ v3 ∧ v4 = 1 ∧ v5 = 0) ∨ (¬ (v2 = 1 ∧ 0 ≤ v3) ∧ v4 = 0 ∧ v5 = v2)) (h3 : v4 = 0) (h4 : (v5 = 0 ∧ v6 = 0) ∨ (v5 ≠ 0 ∧ ((0 < v7 ∧ v6 = v7) ∨ (¬ (0 < v7) ∧ v6 = 0)))) (h5 : ¬ (v6 = 0)) (h6 : v8 = v9) (h7 : v10 = v11) (h8 : v12 = v13) (h9 : v14 = v15) (h10 : v16 = v17) (h11 : v18 = v19) (h12 : v2 = 0) (h13 : v20 = 1) (h14 : v21 = 0) : False := by omega
theorem own_lf3 {v0 v1 v2 v3 v4 v5 v6 v7 v8 v9 v10 v11 v12 v13 v14 v15 v16 v17 v18 v19 : Int} (h0 : v0 = 0) (h1 : v1 = 0) (h2 : (v2 = 1 ∧ 0 ≤ v3 ∧ v4 = 1 ∧ v5 = 0) ∨ (¬ (v2 = 1 ∧ 0 ≤ v3) ∧ v4 = 0 ∧ v5 = v2)) (h3 : ¬ (v4 = 0)) (h4 : v6 = v7) (h5 : v8 = v9) (h6 : v10 = v11) (h7 : v12 = v13) (h8 : v14 = v15) (h9 : v16 = v17) (h10 : v2 = 0) (h11 : v18 = 1) (h12 : v19 = 0) : False := by omega
theorem own_lf4 {v0 v1 v2 v3 v4 v5 v6 v7 v8 v9 v10 v11 v12 v13 v14 v15 v16 v17 v18 v19 v20 v21 v22 v23 v24 v25 : Int} (h0 : v0 = 0) (h1 : ¬ (v1 = 0)) (h2 : (v2 = 1 ∧ 0 ≤ v3 ∧ v4 = 1 ∧ v5 = 0) ∨ (¬ (v2 = 1 ∧ 0 ≤ v3) ∧ v4 = 0 ∧ v5 = v2)) (h3 : v4 = 0) (h4 : (v5 = 0 ∧ v6 = 0) ∨ (v5 ≠ 0 ∧ ((0 < v7 ∧ v6 = v7) ∨ (¬ (0 < v7) ∧ v6 = 0)))) (h5 : v6 = 0) (h6 : v8 < 0) (h7 : (v9 = 1 ∧ 0 ≤ v10 ∧ v11 = 1 ∧ v12 = 0) ∨ (¬ (v9 = 1 ∧ 0 ≤ v10) ∧ v11 = 0 ∧ v12 = v9)) (h8 : v11 = 0) (h9 : (v13 < v14 ∧ v15 = v14) ∨ (¬ (v13 < v14) ∧ v15 = v13)) (h10 : (v12 = 0 ∧ v16 = 0) ∨ (v12 ≠ 0 ∧ ((0 < v17 ∧ v16 = v17) ∨ (¬ (0 < v17) ∧ v16 = 0)))) (h11 : ¬ (v16 = v15)) (h12 : v18 = v19) (h13 : v20 = v21) (h14 : v22 = v23) (h15 : v24 = v25) (h16 : v10 = v8) (h17 : v17 = v14) (h18 : v2 = 0) (h19 : v9 = 1) (h20 : v13 = 0) : False := by omega
theorem own_lf5 {v0 v1 v2 v3 v4 v5 v6 v7 v8 v9 v10 v11 v12 v13 v14 v15 v16 v17 v18 v19 v20 v21 v22 v23 : Int} (h0 : v0 = 0) (h1 : ¬ (v1 = 0)) (h2 : (v2 = 1 ∧ 0 ≤ v3 ∧ v4 = 1 ∧ v5 = 0) ∨ (¬ (v2 = 1 ∧ 0 ≤ v3) ∧ v4 = 0 ∧ v5 = v2)) (h3 : v4 = 0) (h4 : (v5 = 0 ∧ v6 = 0) ∨ (v5 ≠ 0 ∧ ((0 < v7 ∧ v6 = v7) ∨ (¬ (0 < v7) ∧ v6 = 0)))) (h5 : v6 = 0) (h6 : v8 < 0) (h7 : (v9 = 1 ∧ 0 ≤ v10 ∧ v11 = 1 ∧ v12 = 0) ∨ (¬ (v9 = 1 ∧ 0 ≤ v10) ∧ v11 = 0 ∧ v12 = v9)) (h8 : ¬ (v11 = 0)) (h9 : v13 = v14) (h10 : v15 = v16) (h11 : v17 = v18) (h12 : v19 = v20) (h13 : v10 = v8) (h14 : v21 = v22) (h15 : v2 = 0) (h16 : v9 = 1) (h17 : v23 = 0) : False := by omega
theorem own_lf6 {v0 v1 v2 v3 v4 v5 v6 v7 v8 v9 v10 v11 v12 v13 v14 v15 v16 v17 v18 v19 v20 v21 v22 v23 v24 : Int} (h0 : v0 = 0) (h1 : ¬ (v1 = 0)) (h2 : (v2 = 1 ∧ 0 ≤ v3 ∧ v4 = 1 ∧ v5 = 0) ∨ (¬ (v2 = 1 ∧ 0 ≤ v3) ∧ v4 = 0 ∧ v5 = v2)) (h3 : v4 = 0) (h4 : (v5 = 0 ∧ v6 = 0) ∨ (v5 ≠ 0 ∧ ((0 < v7 ∧ v6 = v7) ∨ (¬ (0 < v7) ∧ v6 = 0)))) (h5 : v6 = 0) (h6 : ¬ (v8 < 0)) (h7 : (v9 = 1 ∧ 0 ≤ v10 ∧ v11 = 1 ∧ v12 = 0) ∨ (¬ (v9 = 1 ∧ 0 ≤ v10) ∧ v11 = 0 ∧ v12 = v9)) (h8 : v11 = 1) (h9 : (v12 = 0 ∧ v13 = 0) ∨ (v12 ≠ 0 ∧ ((0 < v14 ∧ v13 = v14) ∨ (¬ (0 < v14) ∧ v13 = 0)))) (h10 : ¬ (v13 = 0)) (h11 : v15 = v16) (h12 : v17 = v18) (h13 : v19 = v20) (h14 : v21 = v22) (h15 : v10 = v8) (h16 : v14 = v23) (h17 : v2 = 0) (h18 : v9 = 1) (h19 : v24 = 0) : False := by omega
theorem own_lf7 {v0 v1 v2 v3 v4 v5 v6 v7 v8 v9 v10 v11 v12 v13 v14 v15 v16 v17 v18 v19 v20 v21 v22 v23 : Int} (h0 : v0 = 0) (h1 : ¬ (v1 = 0)) (h2 : (v2 = 1 ∧ 0 ≤ v3 ∧ v4 = 1 ∧ v5 = 0) ∨ (¬ (v2 = 1 ∧ 0 ≤ v3) ∧ v4 = 0 ∧ v5 = v2)) (h3 : v4 = 0) (h4 : (v5 = 0 ∧ v6 = 0) ∨ (v5 ≠ 0 ∧ ((0 < v7 ∧ v6 = v7) ∨ (¬ (0 < v7) ∧ v6 = 0)))) (h5 : v6 = 0) (h6 : ¬ (v8 < 0)) (h7 : (v9 = 1 ∧ 0 ≤ v10 ∧ v11 = 1 ∧ v12 = 0) ∨ (¬ (v9 = 1 ∧ 0 ≤ v10) ∧ v11 = 0 ∧ v12 = v9)) (h8 : ¬ (v11 = 1)) (h9 : v13 = v14) (h10 : v15 = v16) (h11 : v17 = v18) (h12 : v19 = v20) (h13 : v10 = v8) (h14 : v21 = v22) (h15 : v2 = 0) (h16 : v9 = 1) (h17 : v23 = 0) : False := by omega
theorem own_lf8 {v0 v1 v2 v3 v4 v5 v6 v7 v8 v9 v10 v11 v12 v13 v14 v15 v16 v17 v18 v19 v20 v21 : Int} (h0 : v0 = 0) (h1 : ¬ (v1 = 0)) (h2 : (v2 = 1 ∧ 0 ≤ v3 ∧ v4 = 1 ∧ v5 = 0) ∨ (¬ (v2 = 1 ∧ 0 ≤ v3) ∧ v4 = 0 ∧ v5 = v2)) (h3 : v4 = 0) (h4 : (v5 = 0 ∧ v6 = 0) ∨ (v5 ≠ 0 ∧ ((0 < v7 ∧ v6 = v7) ∨ (¬ (0 < v7) ∧ v6 = 0)))) (h5 : ¬ (v6 = 0)) (h6 : v8 = v9) (h7 : v10 = v11) (h8 : v12 = v13) (h9 : v14 = v15) (h10 : v16 = v17) (h11 : v18 = v19) (h12 : v2 = 0) (h13 : v20 = 1) (h14 : v21 = 0) : False := by omega
theorem own_lf9 {v0 v1 v2 v3 v4 v5 v6 v7 v8 v9 v10 v11 v12 v13 v14 v15 v16 v17 v18 v19 : Int} (h0 : v0 = 0) (h1 : ¬ (v1 = 0)) (h2 : (v2 = 1 ∧ 0 ≤ v3 ∧ v4 = 1 ∧ v5 = 0) ∨ (¬ (v2 = 1 ∧ 0 ≤ v3) ∧ v4 = 0 ∧ v5 = v2)) (h3 : ¬ (v4 = 0)) (h4 : v6 = v7) (h5 : v8 = v9) (h6 : v10 = v11) (h7 : v12 = v13) (h8 : v14 = v15) (h9 : v16 = v17) (h10 : v2 = 0) (h11 : v18 = 1) (h12 : v19 = 0) : False := by omega
theorem own_lf10 {v0 v1 v2 v3 v4 v5 v6 v7 v8 v9 v10 v11 v12 v13 v14 v15 v16 v17 v18 v19 v20 v21 v22 v23 v24 : Int} (h0 : ¬ (v0 = 0)) (h1 : v1 = 0) (h2 : v2 < 0) (h3 : (v3 = 1 ∧ 0 ≤ v4 ∧ v5 = 1 ∧ v6 = 0) ∨ (¬ (v3 = 1 ∧ 0 ≤ v4) ∧ v5 = 0 ∧ v6 = v3)) (h4 : v5 = 0) (h5 : (v7 < v8 ∧ v9 = v8) ∨ (¬ (v7 < v8) ∧ v9 = v7)) (h6 : (v6 = 0 ∧ v10 = 0) ∨ (v6 ≠ 0 ∧ ((0 < v11 ∧ v10 = v11) ∨ (¬ (0 < v11) ∧ v10 = 0)))) (h7 : v10 = v9) (h8 : v12 < 0) (h9 : (v6 = 1 ∧ 0 ≤ v13 ∧ v14 = 1 ∧ v15 = 0) ∨ (¬ (v6 = 1 ∧ 0 ≤ v13) ∧ v14 = 0 ∧ v15 = v6)) (h10 : v14 = 0) (h11 : (v7 < v16 ∧ v17 = v16) ∨ (¬ (v7 < v16) ∧ v17 = v7)) (h12 : (v15 = 0 ∧ v18 = 0) ∨ (v15 ≠ 0 ∧ ((0 < v19 ∧ v18 = v19) ∨ (¬ (0 < v19) ∧ v18 = 0)))) (h13 : ¬ (v18 = v17)) (h14 : v4 = v2) (h15 : v11 = v8) (h16 : v13 = v12) (h17 : v19 = v16) (h18 : v20 = v21) (h19 : v22 = v23) (h20 : v24 = 0) (h21 : v3 = 1) (h22 : v7 = 0) : False := by omega
theorem own_lf11 {v0 v1 v2 v3 v4 v5 v6 v7 v8 v9 v10 v11 v12 v13 v14 v15 v16 v17 v18 v19 v20 v21 v22 : Int} (h0 : ¬ (v0 = 0)) (h1 : v1 = 0) (h2 : v2 < 0) (h3 : (v3 = 1 ∧ 0 ≤ v4 ∧ v5 = 1 ∧ v6 = 0) ∨ (¬ (v3 = 1 ∧ 0 ≤ v4) ∧ v5 = 0 ∧ v6 = v3)) (h4 : v5 = 0) (h5 : (v7 < v8 ∧ v9 = v8) ∨ (¬ (v7 < v8) ∧ v9 = v7)) (h6 : (v6 = 0 ∧ v10 = 0) ∨ (v6 ≠ 0 ∧ ((0 < v11 ∧ v10 = v11) ∨ (¬ (0 < v11) ∧ v10 = 0)))) (h7 : v10 = v9) (h8 : v12 < 0) (h9 : (v6 = 1 ∧ 0 ≤ v13 ∧ v14 = 1 ∧ v15 = 0) ∨ (¬ (v6 = 1 ∧ 0 ≤ v13) ∧ v14 = 0 ∧ v15 = v6)) (h10 : ¬ (v14 = 0)) (h11 : v4 = v2) (h12 : v11 = v8) (h13 : v13 = v12) (h14 : v16 = v17) (h15 : v18 = v19) (h16 : v20 = v21) (h17 : v22 = 0) (h18 : v3 = 1) (h19 : v7 = 0) : False := by omega
theorem own_lf12 {v0 v1 v2 v3 v4 v5 v6 v7 v8 v9 v10 v11 v12 v13 v14 v15 v16 v17 v18 v19 v20 v21 v22 v23 : Int} (h0 : ¬ (v0 = 0)) (h1 : v1 = 0) (h2 : v2 < 0) (h3 : (v3 = 1 ∧ 0 ≤ v4 ∧ v5 = 1 ∧ v6 = 0) ∨ (¬ (v3 = 1 ∧ 0 ≤ v4) ∧ v5 = 0 ∧ v6 = v3)) (h4 : v5 = 0) (h5 : (v7 < v8 ∧ v9 = v8) ∨ (¬ (v7 < v8) ∧ v9 = v7)) (h6 : (v6 = 0 ∧ v10 = 0) ∨ (v6 ≠ 0 ∧ ((0 < v11 ∧ v10 = v11) ∨ (¬ (0 < v11) ∧ v10 = 0)))) (h7 : v10 = v9) (h8 : ¬ (v12 < 0)) (h9 : (v6 = 1 ∧ 0 ≤ v13 ∧ v14 = 1 ∧ v15 = 0) ∨ (¬ (v6 = 1 ∧ 0 ≤ v13) ∧ v14 = 0 ∧ v15 = v6)) (h10 : v14 = 1) (h11 : (v15 = 0 ∧ v16 = 0) ∨ (v15 ≠ 0 ∧ ((0 < v17 ∧ v16 = v17) ∨ (¬ (0 < v17) ∧ v16 = 0)))) (h12 : ¬ (v16 = 0)) (h13 : v4 = v2) (h14 : v11 = v8) (h15 : v13 = v12) (h16 : v17 = v18) (h17 : v19 = v20) (h18 : v21 = v22) (h19 : v23 = 0) (h20 : v3 = 1) (h21 : v7 = 0) : False := by omega
theorem own_lf13 {v0 v1 v2 v3 v4 v5 v6 v7 v8 v9 v10 v11 v12 v13 v14 v15 v16 v17 v18 v19 v20 v21 v22 : Int} (h0 : ¬ (v0 = 0)) (h1 : v1 = 0) (h2 : v2 < 0) (h3 : (v3 = 1 ∧ 0 ≤ v4 ∧ v5 = 1 ∧ v6 = 0) ∨ (¬ (v3 = 1 ∧ 0 ≤ v4) ∧ v5 = 0 ∧ v6 = v3)) (h4 : v5 = 0) (h5 : (v7 < v8 ∧ v9 = v8) ∨ (¬ (v7 < v8) ∧ v9 = v7)) (h6 : (v6 = 0 ∧ v10 = 0) ∨ (v6 ≠ 0 ∧ ((0 < v11 ∧ v10 = v11) ∨ (¬ (0 < v11) ∧ v10 = 0)))) (h7 : v10 = v9) (h8 : ¬ (v12 < 0)) (h9 : (v6 = 1 ∧ 0 ≤ v13 ∧ v14 = 1 ∧ v15 = 0) ∨ (¬ (v6 = 1 ∧ 0 ≤ v13) ∧ v14 = 0 ∧ v15 = v6)) (h10 : ¬ (v14 = 1)) (h11 : v4 = v2) (h12 : v11 = v8) (h13 : v13 = v12) (h14 : v16 = v17) (h15 : v18 = v19) (h16 : v20 = v21) (h17 : v22 = 0) (h18 : v3 = 1) (h19 : v7 = 0) : False := by omega
theorem own_lf14 {v0 v1 v2 v3 v4 v5 v6 v7 v8 v9 v10 v11 v12 v13 v14 v15 v16 v17 v18 v19 v20 : Int} (h0 : ¬ (v0 = 0)) (h1 : v1 = 0) (h2 : v2 < 0) (h3 : (v3 = 1 ∧ 0 ≤ v4 ∧ v5 = 1 ∧ v6 = 0) ∨ (¬ (v3 = 1 ∧ 0 ≤ v4) ∧ v5 = 0 ∧ v6 = v3)) (h4 : v5 = 0) (h5 : (v7 < v8 ∧ v9 = v8) ∨ (¬ (v7 < v8) ∧ v9 = v7)) (h6 : (v6 = 0 ∧ v10 = 0) ∨ (v6 ≠ 0 ∧ ((0 < v11 ∧ v10 = v11) ∨ (¬ (0 < v11) ∧ v10 = 0)))) (h7 : ¬ (v10 = v9)) (h8 : v4 = v2) (h9 : v11 = v8) (h10 : v12 = v13) (h11 : v14 = v15) (h12 : v16 = v17) (h13 : v18 = v19) (h14 : v20 = 0) (h15 : v3 = 1) (h16 : v7 = 0) : False := by omega
theorem own_lf15 {v0 v1 v2 v3 v4 v5 v6 v7 v8 v9 v10 v11 v12 v13 v14 v15 v16 v17 v18 : Int} (h0 : ¬ (v0 = 0)) (h1 : v1 = 0) (h2 : v2 < 0) (h3 : (v3 = 1 ∧ 0 ≤ v4 ∧ v5 = 1 ∧ v6 = 0) ∨ (¬ (v3 = 1 ∧ 0 ≤ v4) ∧ v5 = 0 ∧ v6 = v3)) (h4 : ¬ (v5 = 0)) (h5 : v4 = v2) (h6 : v7 = v8) (h7 : v9 = v10) (h8 : v11 = v12) (h9 : v13 = v14) (h10 : v15 = v16) (h11 : v17 = 0) (h12 : v3 = 1) (h13 : v18 = 0) : False := by omega
theorem own_lf16 {v0 v1 v2 v3 v4 v5 v6 v7 v8 v9 v10 v11 v12 v13 v14 v15 v16 v17 v18 v19 v20 v21 v22 : Int} (h0 : ¬ (v0 = 0)) (h1 : v1 = 0) (h2 : ¬ (v2 < 0)) (h3 : (v3 = 1 ∧ 0 ≤ v4 ∧ v5 = 1 ∧ v6 = 0) ∨ (¬ (v3 = 1 ∧ 0 ≤ v4) ∧ v5 = 0 ∧ v6 = v3)) (h4 : v5 = 1) (h5 : (v6 = 0 ∧ v7 = 0) ∨ (v6 ≠ 0 ∧ ((0 < v8 ∧ v7 = v8) ∨ (¬ (0 < v8) ∧ v7 = 0)))) (h6 : v7 = 0) (h7 : (v6 = 1 ∧ 0 ≤ v9 ∧ v10 = 1 ∧ v11 = 0) ∨ (¬ (v6 = 1 ∧ 0 ≤ v9) ∧ v10 = 0 ∧ v11 = v6)) (h8 : v10 = 0) (h9 : (v11 = 0 ∧ v12 = 0) ∨ (v11 ≠ 0 ∧ ((0 < v13 ∧ v12 = v13) ∨ (¬ (0 < v13) ∧ v12 = 0)))) (h10 : ¬ (v12 = 0)) (h11 : v4 = v2) (h12 : v8 = v14) (h13 : v9 = v15) (h14 : v13 = v16) (h15 : v17 = v18) (h16 : v19 = v20) (h17 : v21 = 0) (h18 : v3 = 1) (h19 : v22 = 0) : False := by omega
theorem own_lf17 {v0 v1 v2 v3 v4 v5 v6 v7 v8 v9 v10 v11 v12 v13 v14 v15 v16 v17 v18 v19 v20 v21 : Int} (h0 : ¬ (v0 = 0)) (h1 : v1 = 0) (h2 : ¬ (v2 < 0)) (h3 : (v3 = 1 ∧ 0 ≤ v4 ∧ v5 = 1 ∧ v6 = 0) ∨ (¬ (v3 = 1 ∧ 0 ≤ v4) ∧ v5 = 0 ∧ v6 = v3)) (h4 : v5 = 1) (h5 : (v6 = 0 ∧ v7 = 0) ∨ (v6 ≠ 0 ∧ ((0 < v8 ∧ v7 = v8) ∨ (¬ (0 < v8) ∧ v7 = 0)))) (h6 : v7 = 0) (h7 : (v6 = 1 ∧ 0 ≤ v9 ∧ v10 = 1 ∧ v11 = 0) ∨ (¬ (v6 = 1 ∧ 0 ≤ v9) ∧ v10 = 0 ∧ v11 = v6)) (h8 : ¬ (v10 = 0)) (h9 : v4 = v2) (h10 : v8 = v12) (h11 : v9 = v13) (h12 : v14 = v15) (h13 : v16 = v17) (h14 : v18 = v19) (h15 : v20 = 0) (h16 : v3 = 1) (h17 : v21 = 0) : False := by omega
theorem own_lf18 {v0 v1 v2 v3 v4 v5 v6 v7 v8 v9 v10 v11 v12 v13 v14 v15 v16 v17 v18 v19 : Int} (h0 : ¬ (v0 = 0)) (h1 : v1 = 0) (h2 : ¬ (v2 < 0)) (h3 : (v3 = 1 ∧ 0 ≤ v4 ∧ v5 = 1 ∧ v6 = 0) ∨ (¬ (v3 = 1 ∧ 0 ≤ v4) ∧ v5 = 0 ∧ v6 = v3)) (h4 : v5 = 1) (h5 : (v6 = 0 ∧ v7 = 0) ∨ (v6 ≠ 0 ∧ ((0 < v8 ∧ v7 = v8) ∨ (¬ (0 < v8) ∧ v7 = 0)))) (h6 : ¬ (v7 = 0)) (h7 : v4 = v2) (h8 : v8 = v9) (h9 : v10 = v11) (h10 : v12 = v13) (h11 : v14 = v15) (h12 : v16 = v17) (h13 : v18 = 0) (h14 : v3 = 1) (h15 : v19 = 0) : False := by omega
theorem own_lf19 {v0 v1 v2 v3 v4 v5 v6 v7 v8 v9 v10 v11 v12 v13 v14 v15 v16 v17 v18 : Int} (h0 : ¬ (v0 = 0)) (h1 : v1 = 0) (h2 : ¬ (v2 < 0)) (h3 : (v3 = 1 ∧ 0 ≤ v4 ∧ v5 = 1 ∧ v6 = 0) ∨ (¬ (v3 = 1 ∧ 0 ≤ v4) ∧ v5 = 0 ∧ v6 = v3)) (h4 : ¬ (v5 = 1)) (h5 : v4 = v2) (h6 : v7 = v8) (h7 : v9 = v10) (h8 : v11 = v12) (h9 : v13 = v14) (h10 : v15 = v16) (h11 : v17 = 0) (h12 : v3 = 1) (h13 : v18 = 0) : False := by omega
theorem own_lf20 {v0 v1 v2 v3 v4 v5 v6 v7 v8 v9 v10 v11 v12 v13 v14 v15 v16 v17 v18 v19 v20 v21 v22 v23 v24 : Int} (h0 : ¬ (v0 = 0)) (h1 : ¬ (v1 = 0)) (h2 : v2 < 0) (h3 : (v3 = 1 ∧ 0 ≤ v4 ∧ v5 = 1 ∧ v6 = 0) ∨ (¬ (v3 = 1 ∧ 0 ≤ v4) ∧ v5 = 0 ∧ v6 = v3)) (h4 : v5 = 0) (h5 : (v7 < v8 ∧ v9 = v8) ∨ (¬ (v7 < v8) ∧ v9 = v7)) (h6 : (v6 = 0 ∧ v10 = 0) ∨ (v6 ≠ 0 ∧ ((0 < v11 ∧ v10 = v11) ∨ (¬ (0 < v11) ∧ v10 = 0)))) (h7 : v10 = v9) (h8 : v12 < 0) (h9 : (v3 = 1 ∧ 0 ≤ v13 ∧ v14 = 1 ∧ v15 = 0) ∨ (¬ (v3 = 1 ∧ 0 ≤ v13) ∧ v14 = 0 ∧ v15 = v3)) (h10 : v14 = 0) (h11 : (v7 < v16 ∧ v17 = v16) ∨ (¬ (v7 < v16) ∧ v17 = v7)) (h12 : (v15 = 0 ∧ v18 = 0) ∨ (v15 ≠ 0 ∧ ((0 < v19 ∧ v18 = v19) ∨ (¬ (0 < v19) ∧ v18 = 0)))) (h13 : ¬ (v18 = v17)) (h14 : v4 = v2) (h15 : v11 = v8) (h16 : v20 = v21) (h17 : v22 = v23) (h18 : v13 = v12) (h19 : v19 = v16) (h20 : v24 = 0) (h21 : v3 = 1) (h22 : v7 = 0) : False := by omega
theorem own_lf21 {v0 v1 v2 v3 v4 v5 v6 v7 v8 v9 v10 v11 v12 v13 v14 v15 v16 v17 v18 v19 v20 v21 v22 : Int} (h0 : ¬ (v0 = 0)) (h1 : ¬ (v1 = 0)) (h2 : v2 < 0) (h3 : (v3 = 1 ∧ 0 ≤ v4 ∧ v5 = 1 ∧ v6 = 0) ∨ (¬ (v3 = 1 ∧ 0 ≤ v4) ∧ v5 = 0 ∧ v6 = v3)) (h4 : v5 = 0) (h5 : (v7 < v8 ∧ v9 = v8) ∨ (¬ (v7 < v8) ∧ v9 = v7)) (h6 : (v6 = 0 ∧ v10 = 0) ∨ (v6 ≠ 0 ∧ ((0 < v11 ∧ v10 = v11) ∨ (¬ (0 < v11) ∧ v10 = 0)))) (h7 : v10 = v9) (h8 : v12 < 0) (h9 : (v3 = 1 ∧ 0 ≤ v13 ∧ v14 = 1 ∧ v15 = 0) ∨ (¬ (v3 = 1 ∧ 0 ≤ v13) ∧ v14 = 0 ∧ v15 = v3)) (h10 : ¬ (v14 = 0)) (h11 : v4 = v2) (h12 : v11 = v8) (h13 : v16 = v17) (h14 : v18 = v19) (h15 : v13 = v12) (h16 : v20 = v21) (h17 : v22 = 0) (h18 : v3 = 1) (h19 : v7 = 0) : False := by omega
theorem own_lf22 {v0 v1 v2 v3 v4 v5 v6 v7 v8 v9 v10 v11 v12 v13 v14 v15 v16 v17 v18 v19 v20 v21 v22 v23 : Int} (h0 : ¬ (v0 = 0)) (h1 : ¬ (v1 = 0)) (h2 : v2 < 0) (h3 : (v3 = 1 ∧ 0 ≤ v4 ∧ v5 = 1 ∧ v6 = 0) ∨ (¬ (v3 = 1 ∧ 0 ≤ v4) ∧ v5 = 0 ∧ v6 = v3)) (h4 : v5 = 0) (h5 : (v7 < v8 ∧ v9 = v8) ∨ (¬ (v7 < v8) ∧ v9 = v7)) (h6 : (v6 = 0 ∧ v10 = 0) ∨ (v6 ≠ 0 ∧ ((0 < v11 ∧ v10 = v11) ∨ (¬ (0 < v11) ∧ v10 = 0)))) (h7 : v10 = v9) (h8 : ¬ (v12 < 0)) (h9 : (v3 = 1 ∧ 0 ≤ v13 ∧ v14 = 1 ∧ v15 = 0) ∨ (¬ (v3 = 1 ∧ 0 ≤ v13) ∧ v14 = 0 ∧ v15 = v3)) (h10 : v14 = 1) (h11 : (v15 = 0 ∧ v16 = 0) ∨ (v15 ≠ 0 ∧ ((0 < v17 ∧ v16 = v17) ∨ (¬ (0 < v17) ∧ v16 = 0)))) (h12 : ¬ (v16 = 0)) (h13 : v4 = v2) (h14 : v11 = v8) (h15 : v18 = v19) (h16 : v20 = v21) (h17 : v13 = v12) (h18 : v17 = v22) (h19 : v23 = 0) (h20 : v3 = 1) (h21 : v7 = 0) : False := by omega
theorem own_lf23 {v0 v1 v2 v3 v4 v5 v6 v7 v8 v9 v10 v11 v12 v13 v14 v15 v16 v17 v18 v19 v20 v21 v22 : Int} (h0 : ¬ (v0 = 0)) (h1 : ¬ (v1 = 0)) (h2 : v2 < 0) (h3 : (v3 = 1 ∧ 0 ≤ v4 ∧ v5 = 1 ∧ v6 = 0) ∨ (¬ (v3 = 1 ∧ 0 ≤ v4) ∧ v5 = 0 ∧ v6 = v3)) (h4 : v5 = 0) (h5 : (v7 < v8 ∧ v9 = v8) ∨ (¬ (v7 < v8) ∧ v9 = v7)) (h6 : (v6 = 0 ∧ v10 = 0) ∨ (v6 ≠ 0 ∧ ((0 < v11 ∧ v10 = v11) ∨ (¬ (0 < v11) ∧ v10 = 0)))) (h7 : v10 = v9) (h8 : ¬ (v12 < 0)) (h9 : (v3 = 1 ∧ 0 ≤ v13 ∧ v14 = 1 ∧ v15 = 0) ∨ (¬ (v3 = 1 ∧ 0 ≤ v13) ∧ v14 = 0 ∧ v15 = v3)) (h10 : ¬ (v14 = 1)) (h11 : v4 = v2) (h12 : v11 = v8) (h13 : v16 = v17) (h14 : v18 = v19) (h15 : v13 = v12) (h16 : v20 = v21) (h17 : v22 = 0) (h18 : v3 = 1) (h19 : v7 = 0) : False := by omega
theorem own_lf24 {v0 v1 v2 v3 v4 v5 v6 v7 v8 v9 v10 v11 v12 v13 v14 v15 v16 v17 v18 v19 v20 : Int} (h0 : ¬ (v0 = 0)) (h1 : ¬ (v1 = 0)) (h2 : v2 < 0) (h3 : (v3 = 1 ∧ 0 ≤ v4 ∧ v5 = 1 ∧ v6 = 0) ∨ (¬ (v3 = 1 ∧ 0 ≤ v4) ∧ v5 = 0 ∧ v6 = v3)) (h4 : v5 = 0) (h5 : (v7 < v8 ∧ v9 = v8) ∨ (¬ (v7 < v8) ∧ v9 = v7)) (h6 : (v6 = 0 ∧ v10 = 0) ∨ (v6 ≠ 0 ∧ ((0 < v11 ∧ v10 = v11) ∨ (¬ (0 < v11) ∧ v10 = 0)))) (h7 : ¬ (v10 = v9)) (h8 : v4 = v2) (h9 : v11 = v8) (h10 : v12 = v13) (h11 : v14 = v15) (h12 : v16 = v17) (h13 : v18 = v19) (h14 : v20 = 0) (h15 : v3 = 1) (h16 : v7 = 0) : False := by omega
theorem own_lf25 {v0 v1 v2 v3 v4 v5 v6 v7 v8 v9 v10 v11 v12 v13 v14 v15 v16 v17 v18 : Int} (h0 : ¬ (v0 = 0)) (h1 : ¬ (v1 = 0)) (h2 : v2 < 0) (h3 : (v3 = 1 ∧ 0 ≤ v4 ∧ v5 = 1 ∧ v6 = 0) ∨ (¬ (v3 = 1 ∧ 0 ≤ v4) ∧ v5 = 0 ∧ v6 = v3)) (h4 : ¬ (v5 = 0)) (h5 : v4 = v2) (h6 : v7 = v8) (h7 : v9 = v10) (h8 : v11 = v12) (h9 : v13 = v14) (h10 : v15 = v16) (h11 : v17 = 0) (h12 : v3 = 1) (h13 : v18 = 0) : False := by omega
theorem own_lf26 {v0 v1 v2 v3 v4 v5 v6 v7 v8 v9 v10 v11 v12 v13 v14 v15 v16 v17 v18 v19 v20 v21 v22 v23 : Int} (h0 : ¬ (v0 = 0)) (h1 : ¬ (v1 = 0)) (h2 : ¬ (v2 < 0)) (h3 : (v3 = 1 ∧ 0 ≤ v4 ∧ v5 = 1 ∧ v6 = 0) ∨ (¬ (v3 = 1 ∧ 0 ≤ v4) ∧ v5 = 0 ∧ v6 = v3)) (h4 : v5 = 1) (h5 : (v6 = 0 ∧ v7 = 0) ∨ (v6 ≠ 0 ∧ ((0 < v8 ∧ v7 = v8) ∨ (¬ (0 < v8) ∧ v7 = 0)))) (h6 : v7 = 0) (h7 : v9 < 0) (h8 : (v3 = 1 ∧ 0 ≤ v10 ∧ v11 = 1 ∧ v12 = 0) ∨ (¬ (v3 = 1 ∧ 0 ≤ v10) ∧ v11 = 0 ∧ v12 = v3)) (h9 : v11 = 0) (h10 : (v13 < v14 ∧ v15 = v14) ∨ (¬ (v13 < v14) ∧ v15 = v13)) (h11 : (v12 = 0 ∧ v16 = 0) ∨ (v12 ≠ 0 ∧ ((0 < v17 ∧ v16 = v17) ∨ (¬ (0 < v17) ∧ v16 = 0)))) (h12 : ¬ (v16 = v15)) (h13 : v4 = v2) (h14 : v8 = v18) (h15 : v19 = v20) (h16 : v21 = v22) (h17 : v10 = v9) (h18 : v17 = v14) (h19 : v23 = 0) (h20 : v3 = 1) (h21 : v13 = 0) : False := by omega
theorem own_lf27 {v0 v1 v2 v3 v4 v5 v6 v7 v8 v9 v10 v11 v12 v13 v14 v15 v16 v17 v18 v19 v20 v21 : Int} (h0 : ¬ (v0 = 0)) (h1 : ¬ (v1 = 0)) (h2 : ¬ (v2 < 0)) (h3 : (v3 = 1 ∧ 0 ≤ v4 ∧ v5 = 1 ∧ v6 = 0) ∨ (¬ (v3 = 1 ∧ 0 ≤ v4) ∧ v5 = 0 ∧ v6 = v3)) (h4 : v5 = 1) (h5 : (v6 = 0 ∧ v7 = 0) ∨ (v6 ≠ 0 ∧ ((0 < v8 ∧ v7 = v8) ∨ (¬ (0 < v8) ∧ v7 = 0)))) (h6 : v7 = 0) (h7 : v9 < 0) (h8 : (v3 = 1 ∧ 0 ≤ v10 ∧ v11 = 1 ∧ v12 = 0) ∨ (¬ (v3 = 1 ∧ 0 ≤ v10) ∧ v11 = 0 ∧ v12 = v3)) (h9 : ¬ (v11 = 0)) (h10 : v4 = v2) (h11 : v8 = v13) (h12 : v14 = v15) (h13 : v16 = v17) (h14 : v10 = v9) (h15 : v18 = v19) (h16 : v20 = 0) (h17 : v3 = 1) (h18 : v21 = 0) : False := by omega
theorem own_lf28 {v0 v1 v2 v3 v4 v5 v6 v7 v8 v9 v10 v11 v12 v13 v14 v15 v16 v17 v18 v19 v20 v21 v22 : Int} (h0 : ¬ (v0 = 0)) (h1 : ¬ (v1 = 0)) (h2 : ¬ (v2 < 0)) (h3 : (v3 = 1 ∧ 0 ≤ v4 ∧ v5 = 1 ∧ v6 = 0) ∨ (¬ (v3 = 1 ∧ 0 ≤ v4) ∧ v5 = 0 ∧ v6 = v3)) (h4 : v5 = 1) (h5 : (v6 = 0 ∧ v7 = 0) ∨ (v6 ≠ 0 ∧ ((0 < v8 ∧ v7 = v8) ∨ (¬ (0 < v8) ∧ v7 = 0)))) (h6 : v7 = 0) (h7 : ¬ (v9 < 0)) (h8 : (v3 = 1 ∧ 0 ≤ v10 ∧ v11 = 1 ∧ v12 = 0) ∨ (¬ (v3 = 1 ∧ 0 ≤ v10) ∧ v11 = 0 ∧ v12 = v3)) (h9 : v11 = 1) (h10 : (v12 = 0 ∧ v13 = 0) ∨ (v12 ≠ 0 ∧ ((0 < v14 ∧ v13 = v14) ∨ (¬ (0 < v14) ∧ v13 = 0)))) (h11 : ¬ (v13 = 0)) (h12 : v4 = v2) (h13 : v8 = v15) (h14 : v16 = v17) (h15 : v18 = v19) (h16 : v10 = v9) (h17 : v14 = v20) (h18 : v21 = 0) (h19 : v3 = 1) (h20 : v22 = 0) : False := by omega
theorem own_lf29 {v0 v1 v2 v3 v4 v5 v6 v7 v8 v9 v10 v11 v12 v13 v14 v15 v16 v17 v18 v19 v20 v21 : Int} (h0 : ¬ (v0 = 0)) (h1 : ¬ (v1 = 0)) (h2 : ¬ (v2 < 0)) (h3 : (v3 = 1 ∧ 0 ≤ v4 ∧ v5 = 1 ∧ v6 = 0) ∨ (¬ (v3 = 1 ∧ 0 ≤ v4) ∧ v5 = 0 ∧ v6 = v3)) (h4 : v5 = 1) (h5 : (v6 = 0 ∧ v7 = 0) ∨ (v6 ≠ 0 ∧ ((0 < v8 ∧ v7 = v8) ∨ (¬ (0 < v8) ∧ v7 = 0)))) (h6 : v7 = 0) (h7 : ¬ (v9 < 0)) (h8 : (v3 = 1 ∧ 0 ≤ v10 ∧ v11 = 1 ∧ v12 = 0) ∨ (¬ (v3 = 1 ∧ 0 ≤ v10) ∧ v11 = 0 ∧ v12 = v3)) (h9 : ¬ (v11 = 1)) (h10 : v4 = v2) (h11 : v8 = v13) (h12 : v14 = v15) (h13 : v16 = v17) (h14 : v10 = v9) (h15 : v18 = v19) (h16 : v20 = 0) (h17 : v3 = 1) (h18 : v21 = 0) : False := by omega
theorem own_lf30 {v0 v1 v2 v3 v4 v5 v6 v7 v8 v9 v10 v11 v12 v13 v14 v15 v16 v17 v18 v19 : Int} (h0 : ¬ (v0 = 0)) (h1 : ¬ (v1 = 0)) (h2 : ¬ (v2 < 0)) (h3 : (v3 = 1 ∧ 0 ≤ v4 ∧ v5 = 1 ∧ v6 = 0) ∨ (¬ (v3 = 1 ∧ 0 ≤ v4) ∧ v5 = 0 ∧ v6 = v3)) (h4 : v5 = 1) (h5 : (v6 = 0 ∧ v7 = 0) ∨ (v6 ≠ 0 ∧ ((0 < v8 ∧ v7 = v8) ∨ (¬ (0 < v8) ∧ v7 = 0)))) (h6 : ¬ (v7 = 0)) (h7 : v4 = v2) (h8 : v8 = v9) (h9 : v10 = v11) (h10 : v12 = v13) (h11 : v14 = v15) (h12 : v16 = v17) (h13 : v18 = 0) (h14 : v3 = 1) (h15 : v19 = 0) : False := by omega
theorem own_lf31 {v0 v1 v2 v3 v4 v5 v6 v7 v8 v9 v10 v11 v12 v13 v14 v15 v16 v17 v18 : Int} (h0 : ¬ (v0 = 0)) (h1 : ¬ (v1 = 0)) (h2 : ¬ (v2 < 0)) (h3 : (v3 = 1 ∧ 0 ≤ v4 ∧ v5 = 1 ∧ v6 = 0) ∨ (¬ (v3 = 1 ∧ 0 ≤ v4) ∧ v5 = 0 ∧ v6 = v3)) (h4 : ¬ (v5 = 1)) (h5 : v4 = v2) (h6 : v7 = v8) (h7 : v9 = v10) (h8 : v11 = v12) (h9 : v13 = v14) (h10 : v15 = v16) (h11 : v17 = 0) (h12 : v3 = 1) (h13 : v18 = 0) : False := by omega
theorem pn0 : plainFor x = true := plainFor_of_name (by first | (simp [plainName, overriddenIn, x]; done) | decide +kernel)
abbrev y0 : MethodName := x
abbrev R0 : Room := room_1
set_option maxRecDepth 65536 in
set_option maxHeartbeats 4000000 in
theorem ef0 (t0 : Int64) (d1 : Int64) (d2 : Int64) (fl : Int32)  (mid : MethodId) : entryFrame mid #[(.long t0), (.long d1), (.long d2), (.int fl)] maxLocals = mkF mid 0 #[.val (.long t0), .second, .val (.long d1), .second, .val (.long d2), .second, .val (.int fl), .unset, .unset, .unset, .unset, .unset, .unset, .unset, .unset, .unset, .unset, .unset, .unset, .unset, .unset, .unset, .unset, .unset, .unset, .unset] [] := by first | (simp [entryFrame, mkF, argsToLocals, Value.category, maxLocals]; done) | rfl
set_option maxRecDepth 65536 in
set_option maxHeartbeats 40000000 in
theorem rm0 (l : Launch) (Z : State) (a0 : Array Value) (hw : ∀ d ∈ tables_1, d.before a0 Z = true) (n0 : Nat) (ws : List Jvm.Cond) (t0 : Int64) (d1 : Int64) (d2 : Int64) (fl : Int32) (cs : Int32) (em : Addr) (h0 : Heap) (hn0 : n0 ≤ h0.size) (e0 : Old Z n0 h0) (e1 : Sta Z Z.heap "java/lang/String" "COMPACT_STRINGS" "Z" (.int cs)) (e2 : cs.toInt ≠ 0) (e3 : Sta Z Z.heap "java/util/Optional" "EMPTY" "Ljava/util/Optional;" (.ref em)) (e4 : Sta Z Z.heap "com/example/steady_quorum/steadyquorum/server/AcceptFailures" "PAUSE_NANOS" "J" (.long (100000000 : Int64))) (e5 : Sta Z Z.heap "com/example/steady_quorum/steadyquorum/server/AcceptFailures" "WARNING_INTERVAL_NANOS" "J" (.long (60000000000 : Int64))) :
    CtrU l Z consts_1 n0 y0 code maxLocals ret ws R0 #[(.long t0), (.long d1), (.long d2), (.int fl)] h0 (QI fun r h => (True) ∧ (r = 1)) := by
  refine ctrU_of (own_ew hw) pn0 hn0 (ef0 t0 d1 d2 fl) fun G A0 => ?_
  have i0 := congrArg Int64.toInt (show ((t0 + d1) - (t0 + (100000000 : Int64))) = (d1 - (100000000 : Int64)) by grind)
  have i1 := congrArg Int64.toInt (show ((t0 + (100000000 : Int64)) - (t0 + d1)) = ((100000000 : Int64) - d1) by grind)
  have i2 := congrArg Int64.toInt (show (((t0 + d1) + d2) - (t0 + (100000000 : Int64))) = ((d1 + d2) - (100000000 : Int64)) by grind)
  have i3 := congrArg Int64.toInt (show ((t0 + (100000000 : Int64)) - ((t0 + d1) + d2)) = (((100000000 : Int64) - d1) - d2) by grind)
  have i4 := congrArg Int64.toInt (show (((t0 + d1) + d2) - ((t0 + d1) + (100000000 : Int64))) = (d2 - (100000000 : Int64)) by grind)
  have i5 := congrArg Int64.toInt (show (((t0 + d1) + (100000000 : Int64)) - ((t0 + d1) + d2)) = ((100000000 : Int64) - d2) by grind)
  have z0 : (0 : Int32).toInt = 0 := rfl
  have z1 : (1 : Int32).toInt = 1 := rfl
  have z2 : (0 : Int64).toInt = 0 := rfl
  have A1 := A0.ldc2 (z := (100000000 : Int64)) (pc' := 3) at_0 (hw _ (List.mem_of_getElem? (i := 0) rfl)) rfl
  have A2 := A1.lstore (Ls' := #[.val (.long t0), .second, .val (.long d1), .second, .val (.long d2), .second, .val (.int fl), .val (.long (100000000 : Int64)), .second, .unset, .unset, .unset, .unset, .unset, .unset, .unset, .unset, .unset, .unset, .unset, .unset, .unset, .unset, .unset, .unset, .unset]) (pc' := 5) at_3 rfl rfl
  have A3 := A2.iload (v := fl) (pc' := 7) at_5 rfl rfl
  have A4 := A3.iconst (z := (1 : Int32)) (pc' := 8) at_7 rfl rfl
  have A5 := A4.iand (pc' := 9) at_8 rfl
  by_cases c6 : (fl &&& (1 : Int32)).toInt = 0
  · have A7 := A5.ifYes (pc' := 16) at_9 (teq (ieq (x := (fl &&& (1 : Int32))) (y := (0 : Int32)) rfl rfl c6)).1 (by decide) (by decide)
    have A8 := A7.iconst (z := (0 : Int32)) (pc' := 17) at_16 rfl rfl
    have A9 := A8.istore (Ls' := #[.val (.long t0), .second, .val (.long d1), .second, .val (.long d2), .second, .val (.int fl), .val (.long (100000000 : Int64)), .second, .val (.int (0 : Int32)), .unset, .unset, .unset, .unset, .unset, .unset, .unset, .unset, .unset, .unset, .unset, .unset, .unset, .unset, .unset, .unset]) (pc' := 19) at_17 rfl rfl
    have A10 := A9.iload (v := fl) (pc' := 21) at_19 rfl rfl
    have A11 := A10.iconst (z := (2 : Int32)) (pc' := 22) at_21 rfl rfl
    have A12 := A11.iand (pc' := 23) at_22 rfl
    by_cases c13 : (fl &&& (2 : Int32)).toInt = 0
    · have A14 := A12.ifYes (pc' := 30) at_23 (teq (ieq (x := (fl &&& (2 : Int32))) (y := (0 : Int32)) rfl rfl c13)).1 (by decide) (by decide)
      have A15 := A14.iconst (z := (0 : Int32)) (pc' := 31) at_30 rfl rfl
      have A16 := A15.istore (Ls' := #[.val (.long t0), .second, .val (.long d1), .second, .val (.long d2), .second, .val (.int fl), .val (.long (100000000 : Int64)), .second, .val (.int (0 : Int32)), .val (.int (0 : Int32)), .unset, .unset, .unset, .unset, .unset, .unset, .unset, .unset, .unset, .unset, .unset, .unset, .unset, .unset, .unset]) (pc' := 33) at_31 rfl rfl
      obtain ⟨h17, b18, eb19, g20, E21, X22, D23, A24⟩ := A16.newO (C' := 1) (S' := 6) (pc' := 36) at_33 (hw _ (List.mem_of_getElem? (i := 1) rfl)) (hw _ (List.mem_of_getElem? (i := 2) rfl)) (hw _ (List.mem_of_getElem? (i := 3) rfl)) (by decide) (by decide) rfl rfl rfl
      have f25 : Fld Z h17 b18 "com/example/steady_quorum/steadyquorum/server/AcceptFailures" "resting" "Z" (.int (0 : Int32)) := D23 (Or.inl (hw _ (List.mem_of_getElem? (i := 16) rfl))) (ty := .boolean) (by decide)
      have f26 : Fld Z h17 b18 "com/example/steady_quorum/steadyquorum/server/AcceptFailures" "restEndsAt" "J" (.long (0 : Int64)) := D23 (Or.inl (hw _ (List.mem_of_getElem? (i := 30) rfl))) (ty := .long) (by decide)
      have f27 : Fld Z h17 b18 "com/example/steady_quorum/steadyquorum/server/AcceptFailures" "warned" "Z" (.int (0 : Int32)) := D23 (Or.inl (hw _ (List.mem_of_getElem? (i := 32) rfl))) (ty := .boolean) (by decide)
      have f28 : Fld Z h17 b18 "com/example/steady_quorum/steadyquorum/server/AcceptFailures" "unwarned" "J" (.long (0 : Int64)) := D23 (Or.inl (hw _ (List.mem_of_getElem? (i := 184) rfl))) (ty := .long) (by decide)
      have f29 : Fld Z h17 b18 "com/example/steady_quorum/steadyquorum/server/AcceptFailures" "warnedAt" "J" (.long (0 : Int64)) := D23 (Or.inl (hw _ (List.mem_of_getElem? (i := 186) rfl))) (ty := .long) (by decide)
      have f30 : Fld Z h17 b18 "com/example/steady_quorum/steadyquorum/server/AcceptFailures" "endUntold" "Z" (.int (0 : Int32)) := D23 (Or.inl (hw _ (List.mem_of_getElem? (i := 188) rfl))) (ty := .boolean) (by decide)
      have A31 := A24.dup (pc' := 37) at_36 rfl rfl
      obtain ⟨_, ⟨rfl, q34⟩, A32⟩ := U.kV (A31.callI (a := b18) (argsL := []) (rest := [(.ref b18)]) (C' := 1) (S' := 6) (pc' := 40) at_37 rfl (hw _ (List.mem_of_getElem? (i := 4) rfl)) (hw _ (List.mem_of_getElem? (i := 5) rfl)) (hw _ (List.mem_of_getElem? (i := 3) rfl)) (hw _ (List.mem_of_getElem? (i := 6) rfl)) (Ctr.toU (rm1 l Z a0 hw n0 [] (b18)  h17 A31.size ) (own_ew hw) (fun v h' q => by obtain ⟨_, rfl, -⟩ := q; exact ⟨[], Keep.refl _ [], allU0⟩)) rfl rfl pd_20 rfl rfl (by decide) (by decide) (Nat.le_of_ble_eq_true rfl) (by decide) (by decide) rfl rfl rfl)
      have A36 := A32.astore (Ls' := #[.val (.long t0), .second, .val (.long d1), .second, .val (.long d2), .second, .val (.int fl), .val (.long (100000000 : Int64)), .second, .val (.int (0 : Int32)), .val (.int (0 : Int32)), .val (.ref b18), .unset, .unset, .unset, .unset, .unset, .unset, .unset, .unset, .unset, .unset, .unset, .unset, .unset, .unset]) (pc' := 42) at_40 rfl rfl rfl
      have A37 := A36.iload (v := (0 : Int32)) (pc' := 44) at_42 rfl rfl
      have A39 := A37.ifYes (pc' := 55) at_44 (teq (ieq (x := (0 : Int32)) (y := (0 : Int32)) rfl rfl (by decide : (0 : Int) = 0))).1 (by decide) (by decide)
      have A40 := A39.lloadN (v := t0) (pc' := 56) at_55 rfl rfl
      have A41 := A40.lloadN (v := d1) (pc' := 57) at_56 rfl rfl
      have A42 := A41.ladd (pc' := 58) at_57 rfl
      have A43 := A42.lstore (Ls' := #[.val (.long t0), .second, .val (.long d1), .second, .val (.long d2), .second, .val (.int fl), .val (.long (100000000 : Int64)), .second, .val (.int (0 : Int32)), .val (.int (0 : Int32)), .val (.ref b18), .val (.long (t0 + d1)), .second, .unset, .unset, .unset, .unset, .unset, .unset, .unset, .unset, .unset, .unset, .unset, .unset]) (pc' := 60) at_58 rfl rfl
      have A44 := A43.iload (v := (0 : Int32)) (pc' := 62) at_60 rfl rfl
      have A46 := A44.ifYes (pc' := 78) at_62 (teq (ieq (x := (0 : Int32)) (y := (0 : Int32)) rfl rfl (by decide : (0 : Int) = 0))).1 (by decide) (by decide)
      have A47 := A46.iconst (z := (0 : Int32)) (pc' := 79) at_78 rfl rfl
      have A48 := A47.istore (Ls' := #[.val (.long t0), .second, .val (.long d1), .second, .val (.long d2), .second, .val (.int fl), .val (.long (100000000 : Int64)), .second, .val (.int (0 : Int32)), .val (.int (0 : Int32)), .val (.ref b18), .val (.long (t0 + d1)), .second, .val (.int (0 : Int32)), .unset, .unset, .unset, .unset, .unset, .unset, .unset, .unset, .unset, .unset, .unset]) (pc' := 81) at_79 rfl rfl
      have A49 := A48.aload (v := (.ref b18)) (pc' := 83) at_81 rfl rfl rfl
      have A50 := A49.lload (v := (t0 + d1)) (pc' := 85) at_83 rfl rfl
      obtain ⟨r52, h54, ⟨u56, K55, f57, f58, f59, f60, f61, f62, q53⟩, A51⟩ := U.kI (A50.callV (a := b18) (argsL := [(.long (t0 + d1))]) (rest := []) (C' := 1) (S' := 6) (pc' := 88) at_85 X22 (hw _ (List.mem_of_getElem? (i := 10) rfl)) (hw _ (List.mem_of_getElem? (i := 11) rfl)) (fun hZ => notFace_of_selects (args := #[]) (mvT hZ (hw _ (List.mem_of_getElem? (i := 13) rfl)))) (hw _ (List.mem_of_getElem? (i := 13) rfl)) (hw _ (List.mem_of_getElem? (i := 12) rfl)) (hw _ (List.mem_of_getElem? (i := 3) rfl)) (hw _ (List.mem_of_getElem? (i := 14) rfl)) (Ctr.toU (rm3 l Z a0 hw n0 [] (b18) ((t0 + d1)) ((0 : Int32)) ((0 : Int64)) ((0 : Int32)) ((0 : Int64)) ((0 : Int64)) ((0 : Int32)) h17 A50.size X22 g20 f25 f26 (by first | exact Or.inl rfl | exact Or.inr rfl | (refine own_rs (by assumption) ?_; first | exact Or.inl rfl | exact Or.inr rfl | (refine own_rs (by assumption) ?_; first | exact Or.inl rfl | exact Or.inr rfl))) f27 f28 f29 f30) (own_ew hw) (fun v h' q => by obtain ⟨_, _, _, K, -⟩ := q; exact ⟨_, K, (allUS X22 (by decide) (by decide) allU0)⟩)) rfl rfl pd_25 rfl rfl (by decide) (by decide) (Nat.le_of_ble_eq_true rfl) (by decide) (by decide) rfl rfl rfl)
      have A63 := A51.istore (Ls' := #[.val (.long t0), .second, .val (.long d1), .second, .val (.long d2), .second, .val (.int fl), .val (.long (100000000 : Int64)), .second, .val (.int (0 : Int32)), .val (.int (0 : Int32)), .val (.ref b18), .val (.long (t0 + d1)), .second, .val (.int (0 : Int32)), .val (.int r52), .unset, .unset, .unset, .unset, .unset, .unset, .unset, .unset, .unset, .unset]) (pc' := 90) at_88 rfl rfl
      have A64 := A63.iload (v := r52) (pc' := 92) at_90 rfl rfl
      have A65 := A64.iload (v := (0 : Int32)) (pc' := 94) at_92 rfl rfl
      by_cases c66 : r52.toInt = 0
      · have A67 := A65.icmpYes (pc' := 99) at_94 (teq (ieq (x := r52) (y := (0 : Int32)) rfl rfl c66)).1 (by decide) (by decide)
        have A68 := A67.iload (v := (0 : Int32)) (pc' := 101) at_99 rfl rfl
        have A70 := A68.ifYes (pc' := 113) at_101 (teq (ieq (x := (0 : Int32)) (y := (0 : Int32)) rfl rfl (by decide : (0 : Int) = 0))).1 (by decide) (by decide)
        have A71 := A70.iconst (z := (0 : Int32)) (pc' := 114) at_113 rfl rfl
        have A72 := A71.istore (Ls' := #[.val (.long t0), .second, .val (.long d1), .second, .val (.long d2), .second, .val (.int fl), .val (.long (100000000 : Int64)), .second, .val (.int (0 : Int32)), .val (.int (0 : Int32)), .val (.ref b18), .val (.long (t0 + d1)), .second, .val (.int (0 : Int32)), .val (.int r52), .val (.int (0 : Int32)), .unset, .unset, .unset, .unset, .unset, .unset, .unset, .unset, .unset]) (pc' := 116) at_114 rfl rfl
        have A73 := A72.iload (v := (0 : Int32)) (pc' := 118) at_116 rfl rfl
        have A75 := A73.ifYes (pc' := 132) at_118 (teq (ieq (x := (0 : Int32)) (y := (0 : Int32)) rfl rfl (by decide : (0 : Int) = 0))).1 (by decide) (by decide)
        have A76 := A75.lconst (z := (0 : Int64)) (pc' := 133) at_132 rfl rfl
        have A77 := A76.lstore (Ls' := #[.val (.long t0), .second, .val (.long d1), .second, .val (.long d2), .second, .val (.int fl), .val (.long (100000000 : Int64)), .second, .val (.int (0 : Int32)), .val (.int (0 : Int32)), .val (.ref b18), .val (.long (t0 + d1)), .second, .val (.int (0 : Int32)), .val (.int r52), .val (.int (0 : Int32)), .val (.long (0 : Int64)), .second, .unset, .unset, .unset, .unset, .unset, .unset, .unset]) (pc' := 135) at_133 rfl rfl
        have A78 := A77.aload (v := (.ref b18)) (pc' := 137) at_135 rfl rfl rfl
        have A79 := A78.lload (v := (t0 + d1)) (pc' := 139) at_137 rfl rfl
        have f82 := (X22.keep K55)
        obtain ⟨r81, _, ⟨rfl, q83⟩, A80⟩ := U.kJ (A79.callV (a := b18) (argsL := [(.long (t0 + d1))]) (rest := []) (C' := 1) (S' := 6) (pc' := 142) at_139 f82 (hw _ (List.mem_of_getElem? (i := 17) rfl)) (hw _ (List.mem_of_getElem? (i := 18) rfl)) (fun hZ => notFace_of_selects (args := #[]) (mvT hZ (hw _ (List.mem_of_getElem? (i := 20) rfl)))) (hw _ (List.mem_of_getElem? (i := 20) rfl)) (hw _ (List.mem_of_getElem? (i := 19) rfl)) (hw _ (List.mem_of_getElem? (i := 3) rfl)) (hw _ (List.mem_of_getElem? (i := 21) rfl)) (Ctr.toU (rm4 l Z a0 hw n0 [] (b18) ((t0 + d1)) (u56) ((0 : Int64)) h54 A79.size f57 f58 (by first | exact Or.inl rfl | exact Or.inr rfl | (refine own_rs (by assumption) ?_; first | exact Or.inl rfl | exact Or.inr rfl | (refine own_rs (by assumption) ?_; first | exact Or.inl rfl | exact Or.inr rfl)))) (own_ew hw) (fun v h' q => by obtain ⟨_, _, rfl, -⟩ := q; exact ⟨[], Keep.refl _ [], allU0⟩)) rfl rfl pd_26 rfl rfl (by decide) (by decide) (Nat.le_of_ble_eq_true rfl) (by decide) (by decide) rfl rfl rfl)
        have A85 := A80.lload (v := (0 : Int64)) (pc' := 144) at_142 rfl rfl
        have A86 := A85.lcmp (pc' := 145) at_144 rfl
        by_cases c87 : r81.toInt = 0
        · have A88 := A86.ifYes (pc' := 150) at_145 (teq (leq (x := r81) (y := (0 : Int64)) rfl rfl c87)).1 (by decide) (by decide)
          have A89 := A88.lload (v := (t0 + d1)) (pc' := 152) at_150 rfl rfl
          have A90 := A89.lload (v := d2) (pc' := 154) at_152 rfl rfl
          have A91 := A90.ladd (pc' := 155) at_154 rfl
          have A92 := A91.lstore (Ls' := #[.val (.long t0), .second, .val (.long d1), .second, .val (.long d2), .second, .val (.int fl), .val (.long (100000000 : Int64)), .second, .val (.int (0 : Int32)), .val (.int (0 : Int32)), .val (.ref b18), .val (.long (t0 + d1)), .second, .val (.int (0 : Int32)), .val (.int r52), .val (.int (0 : Int32)), .val (.long (0 : Int64)), .second, .val (.long ((t0 + d1) + d2)), .second, .unset, .unset, .unset, .unset, .unset]) (pc' := 157) at_155 rfl rfl
          have A93 := A92.iload (v := (0 : Int32)) (pc' := 159) at_157 rfl rfl
          have A95 := A93.ifYes (pc' := 191) at_159 (teq (ieq (x := (0 : Int32)) (y := (0 : Int32)) rfl rfl (by decide : (0 : Int) = 0))).1 (by decide) (by decide)
          have A96 := A95.iload (v := (0 : Int32)) (pc' := 193) at_191 rfl rfl
          have A98 := A96.ifYes (pc' := 212) at_193 (teq (ieq (x := (0 : Int32)) (y := (0 : Int32)) rfl rfl (by decide : (0 : Int) = 0))).1 (by decide) (by decide)
          have A99 := A98.iconst (z := (0 : Int32)) (pc' := 213) at_212 rfl rfl
          have A100 := A99.istore (Ls' := #[.val (.long t0), .second, .val (.long d1), .second, .val (.long d2), .second, .val (.int fl), .val (.long (100000000 : Int64)), .second, .val (.int (0 : Int32)), .val (.int (0 : Int32)), .val (.ref b18), .val (.long (t0 + d1)), .second, .val (.int (0 : Int32)), .val (.int r52), .val (.int (0 : Int32)), .val (.long (0 : Int64)), .second, .val (.long ((t0 + d1) + d2)), .second, .val (.int (0 : Int32)), .unset, .unset, .unset, .unset]) (pc' := 215) at_213 rfl rfl
          have A101 := A100.aload (v := (.ref b18)) (pc' := 217) at_215 rfl rfl rfl
          have A102 := A101.lload (v := ((t0 + d1) + d2)) (pc' := 219) at_217 rfl rfl
          obtain ⟨r104, h106, ⟨u108, K107, f109, f110, q105⟩, A103⟩ := U.kI (A102.callV (a := b18) (argsL := [(.long ((t0 + d1) + d2))]) (rest := []) (C' := 1) (S' := 6) (pc' := 222) at_219 f82 (hw _ (List.mem_of_getElem? (i := 10) rfl)) (hw _ (List.mem_of_getElem? (i := 11) rfl)) (fun hZ => notFace_of_selects (args := #[]) (mvT hZ (hw _ (List.mem_of_getElem? (i := 13) rfl)))) (hw _ (List.mem_of_getElem? (i := 13) rfl)) (hw _ (List.mem_of_getElem? (i := 12) rfl)) (hw _ (List.mem_of_getElem? (i := 3) rfl)) (hw _ (List.mem_of_getElem? (i := 14) rfl)) (Ctr.toU (rm3_b l Z a0 hw n0 [] (b18) (((t0 + d1) + d2)) (u56) ((0 : Int64)) h54 A102.size f82 g20 f57 f58 (by first | exact Or.inl rfl | exact Or.inr rfl | (refine own_rs (by assumption) ?_; first | exact Or.inl rfl | exact Or.inr rfl | (refine own_rs (by assumption) ?_; first | exact Or.inl rfl | exact Or.inr rfl)))) (own_ew hw) (fun v h' q => by obtain ⟨_, _, _, K, -⟩ := q; exact ⟨_, K, (allUS f82 (by decide) (by decide) allU0)⟩)) rfl rfl pd_25 rfl rfl (by decide) (by decide) (Nat.le_of_ble_eq_true rfl) (by decide) (by decide) rfl rfl rfl)
          have A111 := A103.istore (Ls' := #[.val (.long t0), .second, .val (.long d1), .second, .val (.long d2), .second, .val (.int fl), .val (.long (100000000 : Int64)), .second, .val (.int (0 : Int32)), .val (.int (0 : Int32)), .val (.ref b18), .val (.long (t0 + d1)), .second, .val (.int (0 : Int32)), .val (.int r52), .val (.int (0 : Int32)), .val (.long (0 : Int64)), .second, .val (.long ((t0 + d1) + d2)), .second, .val (.int (0 : Int32)), .val (.int r104), .unset, .unset, .unset]) (pc' := 224) at_222 rfl rfl
          have A112 := A111.iload (v := r104) (pc' := 226) at_224 rfl rfl
          have A113 := A112.iload (v := (0 : Int32)) (pc' := 228) at_226 rfl rfl
          by_cases c114 : r104.toInt = 0
          · have A115 := A113.icmpYes (pc' := 233) at_228 (teq (ieq (x := r104) (y := (0 : Int32)) rfl rfl c114)).1 (by decide) (by decide)
            have A116 := A115.iload (v := (0 : Int32)) (pc' := 235) at_233 rfl rfl
            have A118 := A116.ifYes (pc' := 251) at_235 (teq (ieq (x := (0 : Int32)) (y := (0 : Int32)) rfl rfl (by decide : (0 : Int) = 0))).1 (by decide) (by decide)
            have A119 := A118.iload (v := (0 : Int32)) (pc' := 253) at_251 rfl rfl
            have A121 := A119.ifYes (pc' := 265) at_253 (teq (ieq (x := (0 : Int32)) (y := (0 : Int32)) rfl rfl (by decide : (0 : Int) = 0))).1 (by decide) (by decide)
            have A122 := A121.iconst (z := (0 : Int32)) (pc' := 266) at_265 rfl rfl
            have A123 := A122.istore (Ls' := #[.val (.long t0), .second, .val (.long d1), .second, .val (.long d2), .second, .val (.int fl), .val (.long (100000000 : Int64)), .second, .val (.int (0 : Int32)), .val (.int (0 : Int32)), .val (.ref b18), .val (.long (t0 + d1)), .second, .val (.int (0 : Int32)), .val (.int r52), .val (.int (0 : Int32)), .val (.long (0 : Int64)), .second, .val (.long ((t0 + d1) + d2)), .second, .val (.int (0 : Int32)), .val (.int r104), .val (.int (0 : Int32)), .unset, .unset]) (pc' := 268) at_266 rfl rfl
            have A124 := A123.iload (v := (0 : Int32)) (pc' := 270) at_268 rfl rfl
            have A126 := A124.ifYes (pc' := 300) at_270 (teq (ieq (x := (0 : Int32)) (y := (0 : Int32)) rfl rfl (by decide : (0 : Int) = 0))).1 (by decide) (by decide)
            have A127 := A126.lconst (z := (0 : Int64)) (pc' := 301) at_300 rfl rfl
            have A128 := A127.lstore (Ls' := #[.val (.long t0), .second, .val (.long d1), .second, .val (.long d2), .second, .val (.int fl), .val (.long (100000000 : Int64)), .second, .val (.int (0 : Int32)), .val (.int (0 : Int32)), .val (.ref b18), .val (.long (t0 + d1)), .second, .val (.int (0 : Int32)), .val (.int r52), .val (.int (0 : Int32)), .val (.long (0 : Int64)), .second, .val (.long ((t0 + d1) + d2)), .second, .val (.int (0 : Int32)), .val (.int r104), .val (.int (0 : Int32)), .val (.long (0 : Int64)), .second]) (pc' := 303) at_301 rfl rfl
            have A129 := A128.aload (v := (.ref b18)) (pc' := 305) at_303 rfl rfl rfl
            have A130 := A129.lload (v := ((t0 + d1) + d2)) (pc' := 307) at_305 rfl rfl
            have f133 := (f82.keep K107)
            obtain ⟨r132, _, ⟨rfl, q134⟩, A131⟩ := U.kJ (A130.callV (a := b18) (argsL := [(.long ((t0 + d1) + d2))]) (rest := []) (C' := 1) (S' := 6) (pc' := 310) at_307 f133 (hw _ (List.mem_of_getElem? (i := 17) rfl)) (hw _ (List.mem_of_getElem? (i := 18) rfl)) (fun hZ => notFace_of_selects (args := #[]) (mvT hZ (hw _ (List.mem_of_getElem? (i := 20) rfl)))) (hw _ (List.mem_of_getElem? (i := 20) rfl)) (hw _ (List.mem_of_getElem? (i := 19) rfl)) (hw _ (List.mem_of_getElem? (i := 3) rfl)) (hw _ (List.mem_of_getElem? (i := 21) rfl)) (Ctr.toU (rm4 l Z a0 hw n0 [] (b18) (((t0 + d1) + d2)) (u108) ((0 : Int64)) h106 A130.size f109 f110 (by first | exact Or.inl rfl | exact Or.inr rfl | (refine own_rs (by assumption) ?_; first | exact Or.inl rfl | exact Or.inr rfl | (refine own_rs (by assumption) ?_; first | exact Or.inl rfl | exact Or.inr rfl)))) (own_ew hw) (fun v h' q => by obtain ⟨_, _, rfl, -⟩ := q; exact ⟨[], Keep.refl _ [], allU0⟩)) rfl rfl pd_26 rfl rfl (by decide) (by decide) (Nat.le_of_ble_eq_true rfl) (by decide) (by decide) rfl rfl rfl)
            have A136 := A131.lload (v := (0 : Int64)) (pc' := 312) at_310 rfl rfl
            have A137 := A136.lcmp (pc' := 313) at_312 rfl
            by_cases c138 : r132.toInt = 0
            · have A139 := A137.ifNo (pc' := 316) at_313 (teq (leq (x := r132) (y := (0 : Int64)) rfl rfl c138)).2 rfl
              have A140 := A139.iconst (z := (1 : Int32)) (pc' := 317) at_316 rfl rfl
              have A141 := A140.goto (pc' := 321) at_317 (by decide) (by decide)
              refine A141.retN (t := .boolean) (z' := (1 : Int32)) at_321 (by decide) (by decide) (by simp) rfl ⟨_, rfl, ⟨trivial, ?_⟩⟩
              have elit : (1 : Int32).toInt = 1 := rfl
              rfl
            · have A142 := A137.ifYes (pc' := 320) at_313 (feq (lne (x := r132) (y := (0 : Int64)) rfl rfl c138)).2 (by decide) (by decide)
              have A143 := A142.iconst (z := (0 : Int32)) (pc' := 321) at_320 rfl rfl
              refine A143.retN (t := .boolean) (z' := (0 : Int32)) at_321 (by decide) (by decide) (by simp) rfl ⟨_, rfl, ⟨trivial, ?_⟩⟩
              have elit : (0 : Int32).toInt = 0 := rfl
              exfalso
              exact own_lf0 c6 c13 q53 c66 q83 c87 q105 c114 q134 c138 i0 i1 i2 i3 i4 i5 z0 z1 z2
          · have A144 := A113.icmpNo (pc' := 231) at_228 (feq (ine (x := r104) (y := (0 : Int32)) rfl rfl c114)).1 rfl
            have A145 := A144.iconst (z := (0 : Int32)) (pc' := 232) at_231 rfl rfl
            refine A145.retN (t := .boolean) (z' := (0 : Int32)) at_232 (by decide) (by decide) (by simp) rfl ⟨_, rfl, ⟨trivial, ?_⟩⟩
            have elit : (0 : Int32).toInt = 0 := rfl
            exfalso
            exact own_lf1 c6 c13 q53 c66 q83 c87 q105 c114 i0 i1 i2 i3 i4 i5 z0 z1 z2
        · have A146 := A86.ifNo (pc' := 148) at_145 (feq (lne (x := r81) (y := (0 : Int64)) rfl rfl c87)).1 rfl
          have A147 := A146.iconst (z := (0 : Int32)) (pc' := 149) at_148 rfl rfl
          refine A147.retN (t := .boolean) (z' := (0 : Int32)) at_149 (by decide) (by decide) (by simp) rfl ⟨_, rfl, ⟨trivial, ?_⟩⟩
          have elit : (0 : Int32).toInt = 0 := rfl
          exfalso
          exact own_lf2 c6 c13 q53 c66 q83 c87 i0 i1 i2 i3 i4 i5 z0 z1 z2
      · have A148 := A65.icmpNo (pc' := 97) at_94 (feq (ine (x := r52) (y := (0 : Int32)) rfl rfl c66)).1 rfl
        have A149 := A148.iconst (z := (0 : Int32)) (pc' := 98) at_97 rfl rfl
        refine A149.retN (t := .boolean) (z' := (0 : Int32)) at_98 (by decide) (by decide) (by simp) rfl ⟨_, rfl, ⟨trivial, ?_⟩⟩
        have elit : (0 : Int32).toInt = 0 := rfl
        exfalso
        exact own_lf3 c6 c13 q53 c66 i0 i1 i2 i3 i4 i5 z0 z1 z2
    · have A150 := A12.ifNo (pc' := 26) at_23 (feq (ine (x := (fl &&& (2 : Int32))) (y := (0 : Int32)) rfl rfl c13)).1 rfl
      have A151 := A150.iconst (z := (1 : Int32)) (pc' := 27) at_26 rfl rfl
      have A152 := A151.goto (pc' := 31) at_27 (by decide) (by decide)
      have A153 := A152.istore (Ls' := #[.val (.long t0), .second, .val (.long d1), .second, .val (.long d2), .second, .val (.int fl), .val (.long (100000000 : Int64)), .second, .val (.int (0 : Int32)), .val (.int (1 : Int32)), .unset, .unset, .unset, .unset, .unset, .unset, .unset, .unset, .unset, .unset, .unset, .unset, .unset, .unset, .unset]) (pc' := 33) at_31 rfl rfl
      obtain ⟨h154, b155, eb156, g157, E158, X159, D160, A161⟩ := A153.newO (C' := 1) (S' := 6) (pc' := 36) at_33 (hw _ (List.mem_of_getElem? (i := 1) rfl)) (hw _ (List.mem_of_getElem? (i := 2) rfl)) (hw _ (List.mem_of_getElem? (i := 3) rfl)) (by decide) (by decide) rfl rfl rfl
      have f162 : Fld Z h154 b155 "com/example/steady_quorum/steadyquorum/server/AcceptFailures" "resting" "Z" (.int (0 : Int32)) := D160 (Or.inl (hw _ (List.mem_of_getElem? (i := 16) rfl))) (ty := .boolean) (by decide)
      have f163 : Fld Z h154 b155 "com/example/steady_quorum/steadyquorum/server/AcceptFailures" "restEndsAt" "J" (.long (0 : Int64)) := D160 (Or.inl (hw _ (List.mem_of_getElem? (i := 30) rfl))) (ty := .long) (by decide)
      have f164 : Fld Z h154 b155 "com/example/steady_quorum/steadyquorum/server/AcceptFailures" "warned" "Z" (.int (0 : Int32)) := D160 (Or.inl (hw _ (List.mem_of_getElem? (i := 32) rfl))) (ty := .boolean) (by decide)
      have f165 : Fld Z h154 b155 "com/example/steady_quorum/steadyquorum/server/AcceptFailures" "unwarned" "J" (.long (0 : Int64)) := D160 (Or.inl (hw _ (List.mem_of_getElem? (i := 184) rfl))) (ty := .long) (by decide)
      have f166 : Fld Z h154 b155 "com/example/steady_quorum/steadyquorum/server/AcceptFailures" "warnedAt" "J" (.long (0 : Int64)) := D160 (Or.inl (hw _ (List.mem_of_getElem? (i := 186) rfl))) (ty := .long) (by decide)
      have f167 : Fld Z h154 b155 "com/example/steady_quorum/steadyquorum/server/AcceptFailures" "endUntold" "Z" (.int (0 : Int32)) := D160 (Or.inl (hw _ (List.mem_of_getElem? (i := 188) rfl))) (ty := .boolean) (by decide)
      have A168 := A161.dup (pc' := 37) at_36 rfl rfl
      obtain ⟨_, ⟨rfl, q171⟩, A169⟩ := U.kV (A168.callI (a := b155) (argsL := []) (rest := [(.ref b155)]) (C' := 1) (S' := 6) (pc' := 40) at_37 rfl (hw _ (List.mem_of_getElem? (i := 4) rfl)) (hw _ (List.mem_of_getElem? (i := 5) rfl)) (hw _ (List.mem_of_getElem? (i := 3) rfl)) (hw _ (List.mem_of_getElem? (i := 6) rfl)) (Ctr.toU (rm1 l Z a0 hw n0 [] (b155)  h154 A168.size ) (own_ew hw) (fun v h' q => by obtain ⟨_, rfl, -⟩ := q; exact ⟨[], Keep.refl _ [], allU0⟩)) rfl rfl pd_20 rfl rfl (by decide) (by decide) (Nat.le_of_ble_eq_true rfl) (by decide) (by decide) rfl rfl rfl)
      have A173 := A169.astore (Ls' := #[.val (.long t0), .second, .val (.long d1), .second, .val (.long d2), .second, .val (.int fl), .val (.long (100000000 : Int64)), .second, .val (.int (0 : Int32)), .val (.int (1 : Int32)), .val (.ref b155), .unset, .unset, .unset, .unset, .unset, .unset, .unset, .unset, .unset, .unset, .unset, .unset, .unset, .unset]) (pc' := 42) at_40 rfl rfl rfl
      have A174 := A173.iload (v := (0 : Int32)) (pc' := 44) at_42 rfl rfl
      have A176 := A174.ifYes (pc' := 55) at_44 (teq (ieq (x := (0 : Int32)) (y := (0 : Int32)) rfl rfl (by decide : (0 : Int) = 0))).1 (by decide) (by decide)
      have A177 := A176.lloadN (v := t0) (pc' := 56) at_55 rfl rfl
      have A178 := A177.lloadN (v := d1) (pc' := 57) at_56 rfl rfl
      have A179 := A178.ladd (pc' := 58) at_57 rfl
      have A180 := A179.lstore (Ls' := #[.val (.long t0), .second, .val (.long d1), .second, .val (.long d2), .second, .val (.int fl), .val (.long (100000000 : Int64)), .second, .val (.int (0 : Int32)), .val (.int (1 : Int32)), .val (.ref b155), .val (.long (t0 + d1)), .second, .unset, .unset, .unset, .unset, .unset, .unset, .unset, .unset, .unset, .unset, .unset, .unset]) (pc' := 60) at_58 rfl rfl
      have A181 := A180.iload (v := (0 : Int32)) (pc' := 62) at_60 rfl rfl
      have A183 := A181.ifYes (pc' := 78) at_62 (teq (ieq (x := (0 : Int32)) (y := (0 : Int32)) rfl rfl (by decide : (0 : Int) = 0))).1 (by decide) (by decide)
      have A184 := A183.iconst (z := (0 : Int32)) (pc' := 79) at_78 rfl rfl
      have A185 := A184.istore (Ls' := #[.val (.long t0), .second, .val (.long d1), .second, .val (.long d2), .second, .val (.int fl), .val (.long (100000000 : Int64)), .second, .val (.int (0 : Int32)), .val (.int (1 : Int32)), .val (.ref b155), .val (.long (t0 + d1)), .second, .val (.int (0 : Int32)), .unset, .unset, .unset, .unset, .unset, .unset, .unset, .unset, .unset, .unset, .unset]) (pc' := 81) at_79 rfl rfl
      have A186 := A185.aload (v := (.ref b155)) (pc' := 83) at_81 rfl rfl rfl
      have A187 := A186.lload (v := (t0 + d1)) (pc' := 85) at_83 rfl rfl
      obtain ⟨r189, h191, ⟨u193, K192, f194, f195, f196, f197, f198, f199, q190⟩, A188⟩ := U.kI (A187.callV (a := b155) (argsL := [(.long (t0 + d1))]) (rest := []) (C' := 1) (S' := 6) (pc' := 88) at_85 X159 (hw _ (List.mem_of_getElem? (i := 10) rfl)) (hw _ (List.mem_of_getElem? (i := 11) rfl)) (fun hZ => notFace_of_selects (args := #[]) (mvT hZ (hw _ (List.mem_of_getElem? (i := 13) rfl)))) (hw _ (List.mem_of_getElem? (i := 13) rfl)) (hw _ (List.mem_of_getElem? (i := 12) rfl)) (hw _ (List.mem_of_getElem? (i := 3) rfl)) (hw _ (List.mem_of_getElem? (i := 14) rfl)) (Ctr.toU (rm3 l Z a0 hw n0 [] (b155) ((t0 + d1)) ((0 : Int32)) ((0 : Int64)) ((0 : Int32)) ((0 : Int64)) ((0 : Int64)) ((0 : Int32)) h154 A187.size X159 g157 f162 f163 (by first | exact Or.inl rfl | exact Or.inr rfl | (refine own_rs (by assumption) ?_; first | exact Or.inl rfl | exact Or.inr rfl | (refine own_rs (by assumption) ?_; first | exact Or.inl rfl | exact Or.inr rfl))) f164 f165 f166 f167) (own_ew hw) (fun v h' q => by obtain ⟨_, _, _, K, -⟩ := q; exact ⟨_, K, (allUS X159 (by decide) (by decide) allU0)⟩)) rfl rfl pd_25 rfl rfl (by decide) (by decide) (Nat.le_of_ble_eq_true rfl) (by decide) (by decide) rfl rfl rfl)
      have A200 := A188.istore (Ls' := #[.val (.long t0), .second, .val (.long d1), .second, .val (.long d2), .second, .val (.int fl), .val (.long (100000000 : Int64)), .second, .val (.int (0 : Int32)), .val (.int (1 : Int32)), .val (.ref b155), .val (.long (t0 + d1)), .second, .val (.int (0 : Int32)), .val (.int r189), .unset, .unset, .unset, .unset, .unset, .unset, .unset, .unset, .unset, .unset]) (pc' := 90) at_88 rfl rfl
      have A201 := A200.iload (v := r189) (pc' := 92) at_90 rfl rfl
      have A202 := A201.iload (v := (0 : Int32)) (pc' := 94) at_92 rfl rfl
      by_cases c203 : r189.toInt = 0
      · have A204 := A202.icmpYes (pc' := 99) at_94 (teq (ieq (x := r189) (y := (0 : Int32)) rfl rfl c203)).1 (by decide) (by decide)
        have A205 := A204.iload (v := (0 : Int32)) (pc' := 101) at_99 rfl rfl
        have A207 := A205.ifYes (pc' := 113) at_101 (teq (ieq (x := (0 : Int32)) (y := (0 : Int32)) rfl rfl (by decide : (0 : Int) = 0))).1 (by decide) (by decide)
        have A208 := A207.iconst (z := (0 : Int32)) (pc' := 114) at_113 rfl rfl
        have A209 := A208.istore (Ls' := #[.val (.long t0), .second, .val (.long d1), .second, .val (.long d2), .second, .val (.int fl), .val (.long (100000000 : Int64)), .second, .val (.int (0 : Int32)), .val (.int (1 : Int32)), .val (.ref b155), .val (.long (t0 + d1)), .second, .val (.int (0 : Int32)), .val (.int r189), .val (.int (0 : Int32)), .unset, .unset, .unset, .unset, .unset, .unset, .unset, .unset, .unset]) (pc' := 116) at_114 rfl rfl
        have A210 := A209.iload (v := (0 : Int32)) (pc' := 118) at_116 rfl rfl
        have A212 := A210.ifYes (pc' := 132) at_118 (teq (ieq (x := (0 : Int32)) (y := (0 : Int32)) rfl rfl (by decide : (0 : Int) = 0))).1 (by decide) (by decide)
        have A213 := A212.lconst (z := (0 : Int64)) (pc' := 133) at_132 rfl rfl
        have A214 := A213.lstore (Ls' := #[.val (.long t0), .second, .val (.long d1), .second, .val (.long d2), .second, .val (.int fl), .val (.long (100000000 : Int64)), .second, .val (.int (0 : Int32)), .val (.int (1 : Int32)), .val (.ref b155), .val (.long (t0 + d1)), .second, .val (.int (0 : Int32)), .val (.int r189), .val (.int (0 : Int32)), .val (.long (0 : Int64)), .second, .unset, .unset, .unset, .unset, .unset, .unset, .unset]) (pc' := 135) at_133 rfl rfl
        have A215 := A214.aload (v := (.ref b155)) (pc' := 137) at_135 rfl rfl rfl
        have A216 := A215.lload (v := (t0 + d1)) (pc' := 139) at_137 rfl rfl
        have f219 := (X159.keep K192)
        obtain ⟨r218, _, ⟨rfl, q220⟩, A217⟩ := U.kJ (A216.callV (a := b155) (argsL := [(.long (t0 + d1))]) (rest := []) (C' := 1) (S' := 6) (pc' := 142) at_139 f219 (hw _ (List.mem_of_getElem? (i := 17) rfl)) (hw _ (List.mem_of_getElem? (i := 18) rfl)) (fun hZ => notFace_of_selects (args := #[]) (mvT hZ (hw _ (List.mem_of_getElem? (i := 20) rfl)))) (hw _ (List.mem_of_getElem? (i := 20) rfl)) (hw _ (List.mem_of_getElem? (i := 19) rfl)) (hw _ (List.mem_of_getElem? (i := 3) rfl)) (hw _ (List.mem_of_getElem? (i := 21) rfl)) (Ctr.toU (rm4 l Z a0 hw n0 [] (b155) ((t0 + d1)) (u193) ((0 : Int64)) h191 A216.size f194 f195 (by first | exact Or.inl rfl | exact Or.inr rfl | (refine own_rs (by assumption) ?_; first | exact Or.inl rfl | exact Or.inr rfl | (refine own_rs (by assumption) ?_; first | exact Or.inl rfl | exact Or.inr rfl)))) (own_ew hw) (fun v h' q => by obtain ⟨_, _, rfl, -⟩ := q; exact ⟨[], Keep.refl _ [], allU0⟩)) rfl rfl pd_26 rfl rfl (by decide) (by decide) (Nat.le_of_ble_eq_true rfl) (by decide) (by decide) rfl rfl rfl)
        have A222 := A217.lload (v := (0 : Int64)) (pc' := 144) at_142 rfl rfl
        have A223 := A222.lcmp (pc' := 145) at_144 rfl
        by_cases c224 : r218.toInt = 0
        · have A225 := A223.ifYes (pc' := 150) at_145 (teq (leq (x := r218) (y := (0 : Int64)) rfl rfl c224)).1 (by decide) (by decide)
          have A226 := A225.lload (v := (t0 + d1)) (pc' := 152) at_150 rfl rfl
          have A227 := A226.lload (v := d2) (pc' := 154) at_152 rfl rfl
          have A228 := A227.ladd (pc' := 155) at_154 rfl
          have A229 := A228.lstore (Ls' := #[.val (.long t0), .second, .val (.long d1), .second, .val (.long d2), .second, .val (.int fl), .val (.long (100000000 : Int64)), .second, .val (.int (0 : Int32)), .val (.int (1 : Int32)), .val (.ref b155), .val (.long (t0 + d1)), .second, .val (.int (0 : Int32)), .val (.int r189), .val (.int (0 : Int32)), .val (.long (0 : Int64)), .second, .val (.long ((t0 + d1) + d2)), .second, .unset, .unset, .unset, .unset, .unset]) (pc' := 157) at_155 rfl rfl
          have A230 := A229.iload (v := (1 : Int32)) (pc' := 159) at_157 rfl rfl
          have A232 := A230.ifNo (pc' := 162) at_159 (feq (ine (x := (1 : Int32)) (y := (0 : Int32)) rfl rfl (by decide : ¬ ((1 : Int) = 0)))).1 rfl
          have A233 := A232.aload (v := (.ref b155)) (pc' := 164) at_162 rfl rfl rfl
          have A234 := A233.aconstNull (pc' := 165) at_164 rfl
          have A235 := A234.lload (v := (t0 + d1)) (pc' := 167) at_165 rfl rfl
          have f236 := ((e0.ext E158).keep K192 (allS g157 all0))
          obtain ⟨r238, h240, ⟨K241, f242, f243, f244, f245, f246, f247, q239⟩, A237⟩ := U.kA (A235.callV (a := b155) (argsL := [.null, (.long (t0 + d1))]) (rest := []) (C' := 12) (S' := 549) (pc' := 170) at_167 f219 (hw _ (List.mem_of_getElem? (i := 22) rfl)) (hw _ (List.mem_of_getElem? (i := 23) rfl)) (fun hZ => notFace_of_selects (args := #[]) (mvT hZ (hw _ (List.mem_of_getElem? (i := 25) rfl)))) (hw _ (List.mem_of_getElem? (i := 25) rfl)) (hw _ (List.mem_of_getElem? (i := 24) rfl)) (hw _ (List.mem_of_getElem? (i := 3) rfl)) (hw _ (List.mem_of_getElem? (i := 26) rfl)) (rm5_1 l Z a0 hw n0 [] (b155) ((t0 + d1)) (u193) ((0 : Int64)) ((0 : Int64)) ((0 : Int32)) (_) (_) h191 A235.size f219 g157 f194 f195 f196 f197 f198 f199 f236 e1 (by assumption) e3 e4 e5) rfl rfl pd_27 rfl rfl (by decide) (by decide) (Nat.le_of_ble_eq_true rfl) (by decide) (by decide) rfl rfl rfl)
          have A248 := A237.pop (pc' := 171) at_170 rfl rfl
          have A249 := A248.lload (v := d2) (pc' := 173) at_171 rfl rfl
          have A250 := A249.lload (v := (100000000 : Int64)) (pc' := 175) at_173 rfl rfl
          have A251 := A250.lsub (pc' := 176) at_175 rfl
          have A252 := A251.lconst (z := (0 : Int64)) (pc' := 177) at_176 rfl rfl
          have A253 := A252.lcmp (pc' := 178) at_177 rfl
          by_cases c254 : (d2 - (100000000 : Int64)).toInt < 0
          · have A255 := A253.ifYes (pc' := 185) at_178 (tlt (llt (x := (d2 - (100000000 : Int64))) (y := (0 : Int64)) rfl rfl c254)).1 (by decide) (by decide)
            have A256 := A255.iconst (z := (0 : Int32)) (pc' := 186) at_185 rfl rfl
            have A257 := A256.istore (Ls' := #[.val (.long t0), .second, .val (.long d1), .second, .val (.long d2), .second, .val (.int fl), .val (.long (100000000 : Int64)), .second, .val (.int (0 : Int32)), .val (.int (1 : Int32)), .val (.ref b155), .val (.long (t0 + d1)), .second, .val (.int (0 : Int32)), .val (.int r189), .val (.int (0 : Int32)), .val (.long (0 : Int64)), .second, .val (.long ((t0 + d1) + d2)), .second, .val (.int (0 : Int32)), .unset, .unset, .unset, .unset]) (pc' := 188) at_186 rfl rfl
            have A258 := A257.goto (pc' := 215) at_188 (by decide) (by decide)
            have A259 := A258.aload (v := (.ref b155)) (pc' := 217) at_215 rfl rfl rfl
            have A260 := A259.lload (v := ((t0 + d1) + d2)) (pc' := 219) at_217 rfl rfl
            have f261 := (f219.keep K241)
            obtain ⟨r263, h265, ⟨u267, K266, f268, f269, q264⟩, A262⟩ := U.kI (A260.callV (a := b155) (argsL := [(.long ((t0 + d1) + d2))]) (rest := []) (C' := 12) (S' := 549) (pc' := 222) at_219 f261 (hw _ (List.mem_of_getElem? (i := 10) rfl)) (hw _ (List.mem_of_getElem? (i := 11) rfl)) (fun hZ => notFace_of_selects (args := #[]) (mvT hZ (hw _ (List.mem_of_getElem? (i := 13) rfl)))) (hw _ (List.mem_of_getElem? (i := 13) rfl)) (hw _ (List.mem_of_getElem? (i := 12) rfl)) (hw _ (List.mem_of_getElem? (i := 3) rfl)) (hw _ (List.mem_of_getElem? (i := 14) rfl)) (Ctr.toU (rm3_b l Z a0 hw n0 [] (b155) (((t0 + d1) + d2)) ((1 : Int32)) (((t0 + d1) + (100000000 : Int64))) h240 A260.size f261 g157 f242 f243 (by first | exact Or.inl rfl | exact Or.inr rfl | (refine own_rs (by assumption) ?_; first | exact Or.inl rfl | exact Or.inr rfl | (refine own_rs (by assumption) ?_; first | exact Or.inl rfl | exact Or.inr rfl)))) (own_ew hw) (fun v h' q => by obtain ⟨_, _, _, K, -⟩ := q; exact ⟨_, K, (allUS f261 (by decide) (by decide) allU0)⟩)) rfl rfl pd_25 rfl rfl (by decide) (by decide) (Nat.le_of_ble_eq_true rfl) (by decide) (by decide) rfl rfl rfl)
            have A270 := A262.istore (Ls' := #[.val (.long t0), .second, .val (.long d1), .second, .val (.long d2), .second, .val (.int fl), .val (.long (100000000 : Int64)), .second, .val (.int (0 : Int32)), .val (.int (1 : Int32)), .val (.ref b155), .val (.long (t0 + d1)), .second, .val (.int (0 : Int32)), .val (.int r189), .val (.int (0 : Int32)), .val (.long (0 : Int64)), .second, .val (.long ((t0 + d1) + d2)), .second, .val (.int (0 : Int32)), .val (.int r263), .unset, .unset, .unset]) (pc' := 224) at_222 rfl rfl
            have A271 := A270.iload (v := r263) (pc' := 226) at_224 rfl rfl
            have A272 := A271.iload (v := (0 : Int32)) (pc' := 228) at_226 rfl rfl
            by_cases c273 : r263.toInt = 0
            · have A274 := A272.icmpYes (pc' := 233) at_228 (teq (ieq (x := r263) (y := (0 : Int32)) rfl rfl c273)).1 (by decide) (by decide)
              have A275 := A274.iload (v := (1 : Int32)) (pc' := 235) at_233 rfl rfl
              have A277 := A275.ifNo (pc' := 238) at_235 (feq (ine (x := (1 : Int32)) (y := (0 : Int32)) rfl rfl (by decide : ¬ ((1 : Int) = 0)))).1 rfl
              have A278 := A277.iload (v := (0 : Int32)) (pc' := 240) at_238 rfl rfl
              have A280 := A278.ifNo (pc' := 243) at_240 (teq (ieq (x := (0 : Int32)) (y := (0 : Int32)) rfl rfl (by decide : (0 : Int) = 0))).2 rfl
              have A281 := A280.iconst (z := (1 : Int32)) (pc' := 244) at_243 rfl rfl
              have A282 := A281.goto (pc' := 266) at_244 (by decide) (by decide)
              have A283 := A282.istore (Ls' := #[.val (.long t0), .second, .val (.long d1), .second, .val (.long d2), .second, .val (.int fl), .val (.long (100000000 : Int64)), .second, .val (.int (0 : Int32)), .val (.int (1 : Int32)), .val (.ref b155), .val (.long (t0 + d1)), .second, .val (.int (0 : Int32)), .val (.int r189), .val (.int (0 : Int32)), .val (.long (0 : Int64)), .second, .val (.long ((t0 + d1) + d2)), .second, .val (.int (0 : Int32)), .val (.int r263), .val (.int (1 : Int32)), .unset, .unset]) (pc' := 268) at_266 rfl rfl
              have A284 := A283.iload (v := (1 : Int32)) (pc' := 270) at_268 rfl rfl
              have A286 := A284.ifNo (pc' := 273) at_270 (feq (ine (x := (1 : Int32)) (y := (0 : Int32)) rfl rfl (by decide : ¬ ((1 : Int) = 0)))).1 rfl
              have A287 := A286.lconst (z := (0 : Int64)) (pc' := 274) at_273 rfl rfl
              have A288 := A287.iload (v := (1 : Int32)) (pc' := 276) at_274 rfl rfl
              have A290 := A288.ifNo (pc' := 279) at_276 (feq (ine (x := (1 : Int32)) (y := (0 : Int32)) rfl rfl (by decide : ¬ ((1 : Int) = 0)))).1 rfl
              have A291 := A290.lload (v := (100000000 : Int64)) (pc' := 281) at_279 rfl rfl
              have A292 := A291.lload (v := d2) (pc' := 283) at_281 rfl rfl
              have A293 := A292.lsub (pc' := 284) at_283 rfl
              have A294 := A293.goto (pc' := 294) at_284 (by decide) (by decide)
              obtain ⟨r296, _, ⟨rfl, q297⟩, A295⟩ := U.kJ (A294.callS (argsL := [(.long (0 : Int64)), (.long ((100000000 : Int64) - d2))]) (rest := []) (C' := 12) (S' := 549) (pc' := 297) at_294 (hw _ (List.mem_of_getElem? (i := 202) rfl)) (hw _ (List.mem_of_getElem? (i := 203) rfl)) (hw _ (List.mem_of_getElem? (i := 100) rfl)) (hw _ (List.mem_of_getElem? (i := 204) rfl)) (Ctr.toU (rm35 l Z a0 hw n0 [] ((0 : Int64)) (((100000000 : Int64) - d2))  h265 A294.size ) (own_ew hw) (fun v h' q => by obtain ⟨_, _, rfl, -⟩ := q; exact ⟨[], Keep.refl _ [], allU0⟩)) rfl rfl pd_24 rfl rfl (by decide) (by decide) (Nat.le_of_ble_eq_true rfl) (by decide) (by decide) rfl rfl rfl)
              have A299 := A295.goto (pc' := 301) at_297 (by decide) (by decide)
              have A300 := A299.lstore (Ls' := #[.val (.long t0), .second, .val (.long d1), .second, .val (.long d2), .second, .val (.int fl), .val (.long (100000000 : Int64)), .second, .val (.int (0 : Int32)), .val (.int (1 : Int32)), .val (.ref b155), .val (.long (t0 + d1)), .second, .val (.int (0 : Int32)), .val (.int r189), .val (.int (0 : Int32)), .val (.long (0 : Int64)), .second, .val (.long ((t0 + d1) + d2)), .second, .val (.int (0 : Int32)), .val (.int r263), .val (.int (1 : Int32)), .val (.long r296), .second]) (pc' := 303) at_301 rfl rfl
              have A301 := A300.aload (v := (.ref b155)) (pc' := 305) at_303 rfl rfl rfl
              have A302 := A301.lload (v := ((t0 + d1) + d2)) (pc' := 307) at_305 rfl rfl
              have f305 := (f261.keep K266)
              obtain ⟨r304, _, ⟨rfl, q306⟩, A303⟩ := U.kJ (A302.callV (a := b155) (argsL := [(.long ((t0 + d1) + d2))]) (rest := []) (C' := 12) (S' := 549) (pc' := 310) at_307 f305 (hw _ (List.mem_of_getElem? (i := 17) rfl)) (hw _ (List.mem_of_getElem? (i := 18) rfl)) (fun hZ => notFace_of_selects (args := #[]) (mvT hZ (hw _ (List.mem_of_getElem? (i := 20) rfl)))) (hw _ (List.mem_of_getElem? (i := 20) rfl)) (hw _ (List.mem_of_getElem? (i := 19) rfl)) (hw _ (List.mem_of_getElem? (i := 3) rfl)) (hw _ (List.mem_of_getElem? (i := 21) rfl)) (Ctr.toU (rm4 l Z a0 hw n0 [] (b155) (((t0 + d1) + d2)) (u267) (((t0 + d1) + (100000000 : Int64))) h265 A302.size f268 f269 (by first | exact Or.inl rfl | exact Or.inr rfl | (refine own_rs (by assumption) ?_; first | exact Or.inl rfl | exact Or.inr rfl | (refine own_rs (by assumption) ?_; first | exact Or.inl rfl | exact Or.inr rfl)))) (own_ew hw) (fun v h' q => by obtain ⟨_, _, rfl, -⟩ := q; exact ⟨[], Keep.refl _ [], allU0⟩)) rfl rfl pd_26 rfl rfl (by decide) (by decide) (Nat.le_of_ble_eq_true rfl) (by decide) (by decide) rfl rfl rfl)
              have A308 := A303.lload (v := r296) (pc' := 312) at_310 rfl rfl
              have A309 := A308.lcmp (pc' := 313) at_312 rfl
              by_cases c310 : r304.toInt = r296.toInt
              · have A311 := A309.ifNo (pc' := 316) at_313 (teq (leq (x := r304) (y := r296) rfl rfl c310)).2 rfl
                have A312 := A311.iconst (z := (1 : Int32)) (pc' := 317) at_316 rfl rfl
                have A313 := A312.goto (pc' := 321) at_317 (by decide) (by decide)
                refine A313.retN (t := .boolean) (z' := (1 : Int32)) at_321 (by decide) (by decide) (by simp) rfl ⟨_, rfl, ⟨trivial, ?_⟩⟩
                have elit : (1 : Int32).toInt = 1 := rfl
                rfl
              · have A314 := A309.ifYes (pc' := 320) at_313 (feq (lne (x := r304) (y := r296) rfl rfl c310)).2 (by decide) (by decide)
                have A315 := A314.iconst (z := (0 : Int32)) (pc' := 321) at_320 rfl rfl
                refine A315.retN (t := .boolean) (z' := (0 : Int32)) at_321 (by decide) (by decide) (by simp) rfl ⟨_, rfl, ⟨trivial, ?_⟩⟩
                have elit : (0 : Int32).toInt = 0 := rfl
                exfalso
                exact own_lf4 c6 c13 q190 c203 q220 c224 c254 q264 c273 q297 q306 c310 i0 i1 i2 i3 i4 i5 z0 z1 z2
            · have A316 := A272.icmpNo (pc' := 231) at_228 (feq (ine (x := r263) (y := (0 : Int32)) rfl rfl c273)).1 rfl
              have A317 := A316.iconst (z := (0 : Int32)) (pc' := 232) at_231 rfl rfl
              refine A317.retN (t := .boolean) (z' := (0 : Int32)) at_232 (by decide) (by decide) (by simp) rfl ⟨_, rfl, ⟨trivial, ?_⟩⟩
              have elit : (0 : Int32).toInt = 0 := rfl
              exfalso
              exact own_lf5 c6 c13 q190 c203 q220 c224 c254 q264 c273 i0 i1 i2 i3 i4 i5 z0 z1 z2
          · have A318 := A253.ifNo (pc' := 181) at_178 (flt (lnlt (x := (d2 - (100000000 : Int64))) (y := (0 : Int64)) rfl rfl c254)).1 rfl
            have A319 := A318.iconst (z := (1 : Int32)) (pc' := 182) at_181 rfl rfl
            have A320 := A319.goto (pc' := 186) at_182 (by decide) (by decide)
            have A321 := A320.istore (Ls' := #[.val (.long t0), .second, .val (.long d1), .second, .val (.long d2), .second, .val (.int fl), .val (.long (100000000 : Int64)), .second, .val (.int (0 : Int32)), .val (.int (1 : Int32)), .val (.ref b155), .val (.long (t0 + d1)), .second, .val (.int (0 : Int32)), .val (.int r189), .val (.int (0 : Int32)), .val (.long (0 : Int64)), .second, .val (.long ((t0 + d1) + d2)), .second, .val (.int (1 : Int32)), .unset, .unset, .unset, .unset]) (pc' := 188) at_186 rfl rfl
            have A322 := A321.goto (pc' := 215) at_188 (by decide) (by decide)
            have A323 := A322.aload (v := (.ref b155)) (pc' := 217) at_215 rfl rfl rfl
            have A324 := A323.lload (v := ((t0 + d1) + d2)) (pc' := 219) at_217 rfl rfl
            have f325 := (f219.keep K241)
            obtain ⟨r327, h329, ⟨u331, K330, f332, f333, q328⟩, A326⟩ := U.kI (A324.callV (a := b155) (argsL := [(.long ((t0 + d1) + d2))]) (rest := []) (C' := 12) (S' := 549) (pc' := 222) at_219 f325 (hw _ (List.mem_of_getElem? (i := 10) rfl)) (hw _ (List.mem_of_getElem? (i := 11) rfl)) (fun hZ => notFace_of_selects (args := #[]) (mvT hZ (hw _ (List.mem_of_getElem? (i := 13) rfl)))) (hw _ (List.mem_of_getElem? (i := 13) rfl)) (hw _ (List.mem_of_getElem? (i := 12) rfl)) (hw _ (List.mem_of_getElem? (i := 3) rfl)) (hw _ (List.mem_of_getElem? (i := 14) rfl)) (Ctr.toU (rm3_b l Z a0 hw n0 [] (b155) (((t0 + d1) + d2)) ((1 : Int32)) (((t0 + d1) + (100000000 : Int64))) h240 A324.size f325 g157 f242 f243 (by first | exact Or.inl rfl | exact Or.inr rfl | (refine own_rs (by assumption) ?_; first | exact Or.inl rfl | exact Or.inr rfl | (refine own_rs (by assumption) ?_; first | exact Or.inl rfl | exact Or.inr rfl)))) (own_ew hw) (fun v h' q => by obtain ⟨_, _, _, K, -⟩ := q; exact ⟨_, K, (allUS f325 (by decide) (by decide) allU0)⟩)) rfl rfl pd_25 rfl rfl (by decide) (by decide) (Nat.le_of_ble_eq_true rfl) (by decide) (by decide) rfl rfl rfl)
            have A334 := A326.istore (Ls' := #[.val (.long t0), .second, .val (.long d1), .second, .val (.long d2), .second, .val (.int fl), .val (.long (100000000 : Int64)), .second, .val (.int (0 : Int32)), .val (.int (1 : Int32)), .val (.ref b155), .val (.long (t0 + d1)), .second, .val (.int (0 : Int32)), .val (.int r189), .val (.int (0 : Int32)), .val (.long (0 : Int64)), .second, .val (.long ((t0 + d1) + d2)), .second, .val (.int (1 : Int32)), .val (.int r327), .unset, .unset, .unset]) (pc' := 224) at_222 rfl rfl
            have A335 := A334.iload (v := r327) (pc' := 226) at_224 rfl rfl
            have A336 := A335.iload (v := (1 : Int32)) (pc' := 228) at_226 rfl rfl
            by_cases c337 : r327.toInt = 1
            · have A338 := A336.icmpYes (pc' := 233) at_228 (teq (ieq (x := r327) (y := (1 : Int32)) rfl rfl c337)).1 (by decide) (by decide)
              have A339 := A338.iload (v := (1 : Int32)) (pc' := 235) at_233 rfl rfl
              have A341 := A339.ifNo (pc' := 238) at_235 (feq (ine (x := (1 : Int32)) (y := (0 : Int32)) rfl rfl (by decide : ¬ ((1 : Int) = 0)))).1 rfl
              have A342 := A341.iload (v := (1 : Int32)) (pc' := 240) at_238 rfl rfl
              have A344 := A342.ifYes (pc' := 247) at_240 (feq (ine (x := (1 : Int32)) (y := (0 : Int32)) rfl rfl (by decide : ¬ ((1 : Int) = 0)))).2 (by decide) (by decide)
              have A345 := A344.iconst (z := (0 : Int32)) (pc' := 248) at_247 rfl rfl
              have A346 := A345.goto (pc' := 266) at_248 (by decide) (by decide)
              have A347 := A346.istore (Ls' := #[.val (.long t0), .second, .val (.long d1), .second, .val (.long d2), .second, .val (.int fl), .val (.long (100000000 : Int64)), .second, .val (.int (0 : Int32)), .val (.int (1 : Int32)), .val (.ref b155), .val (.long (t0 + d1)), .second, .val (.int (0 : Int32)), .val (.int r189), .val (.int (0 : Int32)), .val (.long (0 : Int64)), .second, .val (.long ((t0 + d1) + d2)), .second, .val (.int (1 : Int32)), .val (.int r327), .val (.int (0 : Int32)), .unset, .unset]) (pc' := 268) at_266 rfl rfl
              have A348 := A347.iload (v := (0 : Int32)) (pc' := 270) at_268 rfl rfl
              have A350 := A348.ifYes (pc' := 300) at_270 (teq (ieq (x := (0 : Int32)) (y := (0 : Int32)) rfl rfl (by decide : (0 : Int) = 0))).1 (by decide) (by decide)
              have A351 := A350.lconst (z := (0 : Int64)) (pc' := 301) at_300 rfl rfl
              have A352 := A351.lstore (Ls' := #[.val (.long t0), .second, .val (.long d1), .second, .val (.long d2), .second, .val (.int fl), .val (.long (100000000 : Int64)), .second, .val (.int (0 : Int32)), .val (.int (1 : Int32)), .val (.ref b155), .val (.long (t0 + d1)), .second, .val (.int (0 : Int32)), .val (.int r189), .val (.int (0 : Int32)), .val (.long (0 : Int64)), .second, .val (.long ((t0 + d1) + d2)), .second, .val (.int (1 : Int32)), .val (.int r327), .val (.int (0 : Int32)), .val (.long (0 : Int64)), .second]) (pc' := 303) at_301 rfl rfl
              have A353 := A352.aload (v := (.ref b155)) (pc' := 305) at_303 rfl rfl rfl
              have A354 := A353.lload (v := ((t0 + d1) + d2)) (pc' := 307) at_305 rfl rfl
              have f357 := (f325.keep K330)
              obtain ⟨r356, _, ⟨rfl, q358⟩, A355⟩ := U.kJ (A354.callV (a := b155) (argsL := [(.long ((t0 + d1) + d2))]) (rest := []) (C' := 12) (S' := 549) (pc' := 310) at_307 f357 (hw _ (List.mem_of_getElem? (i := 17) rfl)) (hw _ (List.mem_of_getElem? (i := 18) rfl)) (fun hZ => notFace_of_selects (args := #[]) (mvT hZ (hw _ (List.mem_of_getElem? (i := 20) rfl)))) (hw _ (List.mem_of_getElem? (i := 20) rfl)) (hw _ (List.mem_of_getElem? (i := 19) rfl)) (hw _ (List.mem_of_getElem? (i := 3) rfl)) (hw _ (List.mem_of_getElem? (i := 21) rfl)) (Ctr.toU (rm4 l Z a0 hw n0 [] (b155) (((t0 + d1) + d2)) (u331) (((t0 + d1) + (100000000 : Int64))) h329 A354.size f332 f333 (by first | exact Or.inl rfl | exact Or.inr rfl | (refine own_rs (by assumption) ?_; first | exact Or.inl rfl | exact Or.inr rfl | (refine own_rs (by assumption) ?_; first | exact Or.inl rfl | exact Or.inr rfl)))) (own_ew hw) (fun v h' q => by obtain ⟨_, _, rfl, -⟩ := q; exact ⟨[], Keep.refl _ [], allU0⟩)) rfl rfl pd_26 rfl rfl (by decide) (by decide) (Nat.le_of_ble_eq_true rfl) (by decide) (by decide) rfl rfl rfl)
              have A360 := A355.lload (v := (0 : Int64)) (pc' := 312) at_310 rfl rfl
              have A361 := A360.lcmp (pc' := 313) at_312 rfl
              by_cases c362 : r356.toInt = 0
              · have A363 := A361.ifNo (pc' := 316) at_313 (teq (leq (x := r356) (y := (0 : Int64)) rfl rfl c362)).2 rfl
                have A364 := A363.iconst (z := (1 : Int32)) (pc' := 317) at_316 rfl rfl
                have A365 := A364.goto (pc' := 321) at_317 (by decide) (by decide)
                refine A365.retN (t := .boolean) (z' := (1 : Int32)) at_321 (by decide) (by decide) (by simp) rfl ⟨_, rfl, ⟨trivial, ?_⟩⟩
                have elit : (1 : Int32).toInt = 1 := rfl
                rfl
              · have A366 := A361.ifYes (pc' := 320) at_313 (feq (lne (x := r356) (y := (0 : Int64)) rfl rfl c362)).2 (by decide) (by decide)
                have A367 := A366.iconst (z := (0 : Int32)) (pc' := 321) at_320 rfl rfl
                refine A367.retN (t := .boolean) (z' := (0 : Int32)) at_321 (by decide) (by decide) (by simp) rfl ⟨_, rfl, ⟨trivial, ?_⟩⟩
                have elit : (0 : Int32).toInt = 0 := rfl
                exfalso
                exact own_lf6 c6 c13 q190 c203 q220 c224 c254 q328 c337 q358 c362 i0 i1 i2 i3 i4 i5 z0 z1 z2
            · have A368 := A336.icmpNo (pc' := 231) at_228 (feq (ine (x := r327) (y := (1 : Int32)) rfl rfl c337)).1 rfl
              have A369 := A368.iconst (z := (0 : Int32)) (pc' := 232) at_231 rfl rfl
              refine A369.retN (t := .boolean) (z' := (0 : Int32)) at_232 (by decide) (by decide) (by simp) rfl ⟨_, rfl, ⟨trivial, ?_⟩⟩
              have elit : (0 : Int32).toInt = 0 := rfl
              exfalso
              exact own_lf7 c6 c13 q190 c203 q220 c224 c254 q328 c337 i0 i1 i2 i3 i4 i5 z0 z1 z2
        · have A370 := A223.ifNo (pc' := 148) at_145 (feq (lne (x := r218) (y := (0 : Int64)) rfl rfl c224)).1 rfl
          have A371 := A370.iconst (z := (0 : Int32)) (pc' := 149) at_148 rfl rfl
          refine A371.retN (t := .boolean) (z' := (0 : Int32)) at_149 (by decide) (by decide) (by simp) rfl ⟨_, rfl, ⟨trivial, ?_⟩⟩
          have elit : (0 : Int32).toInt = 0 := rfl
          exfalso
          exact own_lf8 c6 c13 q190 c203 q220 c224 i0 i1 i2 i3 i4 i5 z0 z1 z2
      · have A372 := A202.icmpNo (pc' := 97) at_94 (feq (ine (x := r189) (y := (0 : Int32)) rfl rfl c203)).1 rfl
        have A373 := A372.iconst (z := (0 : Int32)) (pc' := 98) at_97 rfl rfl
        refine A373.retN (t := .boolean) (z' := (0 : Int32)) at_98 (by decide) (by decide) (by simp) rfl ⟨_, rfl, ⟨trivial, ?_⟩⟩
        have elit : (0 : Int32).toInt = 0 := rfl
        exfalso
        exact own_lf9 c6 c13 q190 c203 i0 i1 i2 i3 i4 i5 z0 z1 z2
  · have A374 := A5.ifNo (pc' := 12) at_9 (feq (ine (x := (fl &&& (1 : Int32))) (y := (0 : Int32)) rfl rfl c6)).1 rfl
    have A375 := A374.iconst (z := (1 : Int32)) (pc' := 13) at_12 rfl rfl
    have A376 := A375.goto (pc' := 17) at_13 (by decide) (by decide)
    have A377 := A376.istore (Ls' := #[.val (.long t0), .second, .val (.long d1), .second, .val (.long d2), .second, .val (.int fl), .val (.long (100000000 : Int64)), .second, .val (.int (1 : Int32)), .unset, .unset, .unset, .unset, .unset, .unset, .unset, .unset, .unset, .unset, .unset, .unset, .unset, .unset, .unset, .unset]) (pc' := 19) at_17 rfl rfl
    have A378 := A377.iload (v := fl) (pc' := 21) at_19 rfl rfl
    have A379 := A378.iconst (z := (2 : Int32)) (pc' := 22) at_21 rfl rfl
    have A380 := A379.iand (pc' := 23) at_22 rfl
    by_cases c381 : (fl &&& (2 : Int32)).toInt = 0
    · have A382 := A380.ifYes (pc' := 30) at_23 (teq (ieq (x := (fl &&& (2 : Int32))) (y := (0 : Int32)) rfl rfl c381)).1 (by decide) (by decide)
      have A383 := A382.iconst (z := (0 : Int32)) (pc' := 31) at_30 rfl rfl
      have A384 := A383.istore (Ls' := #[.val (.long t0), .second, .val (.long d1), .second, .val (.long d2), .second, .val (.int fl), .val (.long (100000000 : Int64)), .second, .val (.int (1 : Int32)), .val (.int (0 : Int32)), .unset, .unset, .unset, .unset, .unset, .unset, .unset, .unset, .unset, .unset, .unset, .unset, .unset, .unset, .unset]) (pc' := 33) at_31 rfl rfl
      obtain ⟨h385, b386, eb387, g388, E389, X390, D391, A392⟩ := A384.newO (C' := 1) (S' := 6) (pc' := 36) at_33 (hw _ (List.mem_of_getElem? (i := 1) rfl)) (hw _ (List.mem_of_getElem? (i := 2) rfl)) (hw _ (List.mem_of_getElem? (i := 3) rfl)) (by decide) (by decide) rfl rfl rfl
      have f393 : Fld Z h385 b386 "com/example/steady_quorum/steadyquorum/server/AcceptFailures" "resting" "Z" (.int (0 : Int32)) := D391 (Or.inl (hw _ (List.mem_of_getElem? (i := 16) rfl))) (ty := .boolean) (by decide)
      have f394 : Fld Z h385 b386 "com/example/steady_quorum/steadyquorum/server/AcceptFailures" "restEndsAt" "J" (.long (0 : Int64)) := D391 (Or.inl (hw _ (List.mem_of_getElem? (i := 30) rfl))) (ty := .long) (by decide)
      have f395 : Fld Z h385 b386 "com/example/steady_quorum/steadyquorum/server/AcceptFailures" "warned" "Z" (.int (0 : Int32)) := D391 (Or.inl (hw _ (List.mem_of_getElem? (i := 32) rfl))) (ty := .boolean) (by decide)
      have f396 : Fld Z h385 b386 "com/example/steady_quorum/steadyquorum/server/AcceptFailures" "unwarned" "J" (.long (0 : Int64)) := D391 (Or.inl (hw _ (List.mem_of_getElem? (i := 184) rfl))) (ty := .long) (by decide)
      have f397 : Fld Z h385 b386 "com/example/steady_quorum/steadyquorum/server/AcceptFailures" "warnedAt" "J" (.long (0 : Int64)) := D391 (Or.inl (hw _ (List.mem_of_getElem? (i := 186) rfl))) (ty := .long) (by decide)
      have f398 : Fld Z h385 b386 "com/example/steady_quorum/steadyquorum/server/AcceptFailures" "endUntold" "Z" (.int (0 : Int32)) := D391 (Or.inl (hw _ (List.mem_of_getElem? (i := 188) rfl))) (ty := .boolean) (by decide)
      have A399 := A392.dup (pc' := 37) at_36 rfl rfl
      obtain ⟨_, ⟨rfl, q402⟩, A400⟩ := U.kV (A399.callI (a := b386) (argsL := []) (rest := [(.ref b386)]) (C' := 1) (S' := 6) (pc' := 40) at_37 rfl (hw _ (List.mem_of_getElem? (i := 4) rfl)) (hw _ (List.mem_of_getElem? (i := 5) rfl)) (hw _ (List.mem_of_getElem? (i := 3) rfl)) (hw _ (List.mem_of_getElem? (i := 6) rfl)) (Ctr.toU (rm1 l Z a0 hw n0 [] (b386)  h385 A399.size ) (own_ew hw) (fun v h' q => by obtain ⟨_, rfl, -⟩ := q; exact ⟨[], Keep.refl _ [], allU0⟩)) rfl rfl pd_20 rfl rfl (by decide) (by decide) (Nat.le_of_ble_eq_true rfl) (by decide) (by decide) rfl rfl rfl)
      have A404 := A400.astore (Ls' := #[.val (.long t0), .second, .val (.long d1), .second, .val (.long d2), .second, .val (.int fl), .val (.long (100000000 : Int64)), .second, .val (.int (1 : Int32)), .val (.int (0 : Int32)), .val (.ref b386), .unset, .unset, .unset, .unset, .unset, .unset, .unset, .unset, .unset, .unset, .unset, .unset, .unset, .unset]) (pc' := 42) at_40 rfl rfl rfl
      have A405 := A404.iload (v := (1 : Int32)) (pc' := 44) at_42 rfl rfl
      have A407 := A405.ifNo (pc' := 47) at_44 (feq (ine (x := (1 : Int32)) (y := (0 : Int32)) rfl rfl (by decide : ¬ ((1 : Int) = 0)))).1 rfl
      have A408 := A407.aload (v := (.ref b386)) (pc' := 49) at_47 rfl rfl rfl
      have A409 := A408.aconstNull (pc' := 50) at_49 rfl
      have A410 := A409.lloadN (v := t0) (pc' := 51) at_50 rfl rfl
      have f411 := (e0.ext E389)
      obtain ⟨r413, h415, ⟨K416, f417, f418, f419, f420, f421, f422, q414⟩, A412⟩ := U.kA (A410.callV (a := b386) (argsL := [.null, (.long t0)]) (rest := []) (C' := 12) (S' := 549) (pc' := 54) at_51 X390 (hw _ (List.mem_of_getElem? (i := 22) rfl)) (hw _ (List.mem_of_getElem? (i := 23) rfl)) (fun hZ => notFace_of_selects (args := #[]) (mvT hZ (hw _ (List.mem_of_getElem? (i := 25) rfl)))) (hw _ (List.mem_of_getElem? (i := 25) rfl)) (hw _ (List.mem_of_getElem? (i := 24) rfl)) (hw _ (List.mem_of_getElem? (i := 3) rfl)) (hw _ (List.mem_of_getElem? (i := 26) rfl)) (rm5_1 l Z a0 hw n0 [] (b386) (t0) ((0 : Int32)) ((0 : Int64)) ((0 : Int64)) ((0 : Int32)) (_) (_) h385 A410.size X390 g388 f393 f394 f395 f396 f397 f398 f411 e1 (by assumption) e3 e4 e5) rfl rfl pd_27 rfl rfl (by decide) (by decide) (Nat.le_of_ble_eq_true rfl) (by decide) (by decide) rfl rfl rfl)
      have A423 := A412.pop (pc' := 55) at_54 rfl rfl
      have A424 := A423.lloadN (v := t0) (pc' := 56) at_55 rfl rfl
      have A425 := A424.lloadN (v := d1) (pc' := 57) at_56 rfl rfl
      have A426 := A425.ladd (pc' := 58) at_57 rfl
      have A427 := A426.lstore (Ls' := #[.val (.long t0), .second, .val (.long d1), .second, .val (.long d2), .second, .val (.int fl), .val (.long (100000000 : Int64)), .second, .val (.int (1 : Int32)), .val (.int (0 : Int32)), .val (.ref b386), .val (.long (t0 + d1)), .second, .unset, .unset, .unset, .unset, .unset, .unset, .unset, .unset, .unset, .unset, .unset, .unset]) (pc' := 60) at_58 rfl rfl
      have A428 := A427.iload (v := (1 : Int32)) (pc' := 62) at_60 rfl rfl
      have A430 := A428.ifNo (pc' := 65) at_62 (feq (ine (x := (1 : Int32)) (y := (0 : Int32)) rfl rfl (by decide : ¬ ((1 : Int) = 0)))).1 rfl
      have A431 := A430.lloadN (v := d1) (pc' := 66) at_65 rfl rfl
      have A432 := A431.lload (v := (100000000 : Int64)) (pc' := 68) at_66 rfl rfl
      have A433 := A432.lsub (pc' := 69) at_68 rfl
      have A434 := A433.lconst (z := (0 : Int64)) (pc' := 70) at_69 rfl rfl
      have A435 := A434.lcmp (pc' := 71) at_70 rfl
      by_cases c436 : (d1 - (100000000 : Int64)).toInt < 0
      · have A437 := A435.ifYes (pc' := 78) at_71 (tlt (llt (x := (d1 - (100000000 : Int64))) (y := (0 : Int64)) rfl rfl c436)).1 (by decide) (by decide)
        have A438 := A437.iconst (z := (0 : Int32)) (pc' := 79) at_78 rfl rfl
        have A439 := A438.istore (Ls' := #[.val (.long t0), .second, .val (.long d1), .second, .val (.long d2), .second, .val (.int fl), .val (.long (100000000 : Int64)), .second, .val (.int (1 : Int32)), .val (.int (0 : Int32)), .val (.ref b386), .val (.long (t0 + d1)), .second, .val (.int (0 : Int32)), .unset, .unset, .unset, .unset, .unset, .unset, .unset, .unset, .unset, .unset, .unset]) (pc' := 81) at_79 rfl rfl
        have A440 := A439.aload (v := (.ref b386)) (pc' := 83) at_81 rfl rfl rfl
        have A441 := A440.lload (v := (t0 + d1)) (pc' := 85) at_83 rfl rfl
        have f442 := (X390.keep K416)
        obtain ⟨r444, h446, ⟨u448, K447, f449, f450, f451, f452, f453, f454, q445⟩, A443⟩ := U.kI (A441.callV (a := b386) (argsL := [(.long (t0 + d1))]) (rest := []) (C' := 12) (S' := 549) (pc' := 88) at_85 f442 (hw _ (List.mem_of_getElem? (i := 10) rfl)) (hw _ (List.mem_of_getElem? (i := 11) rfl)) (fun hZ => notFace_of_selects (args := #[]) (mvT hZ (hw _ (List.mem_of_getElem? (i := 13) rfl)))) (hw _ (List.mem_of_getElem? (i := 13) rfl)) (hw _ (List.mem_of_getElem? (i := 12) rfl)) (hw _ (List.mem_of_getElem? (i := 3) rfl)) (hw _ (List.mem_of_getElem? (i := 14) rfl)) (Ctr.toU (rm3 l Z a0 hw n0 [] (b386) ((t0 + d1)) ((1 : Int32)) ((t0 + (100000000 : Int64))) ((1 : Int32)) ((0 : Int64)) (t0) ((1 : Int32)) h415 A441.size f442 g388 f417 f418 (by first | exact Or.inl rfl | exact Or.inr rfl | (refine own_rs (by assumption) ?_; first | exact Or.inl rfl | exact Or.inr rfl | (refine own_rs (by assumption) ?_; first | exact Or.inl rfl | exact Or.inr rfl))) f419 f421 f420 f422) (own_ew hw) (fun v h' q => by obtain ⟨_, _, _, K, -⟩ := q; exact ⟨_, K, (allUS f442 (by decide) (by decide) allU0)⟩)) rfl rfl pd_25 rfl rfl (by decide) (by decide) (Nat.le_of_ble_eq_true rfl) (by decide) (by decide) rfl rfl rfl)
        have A455 := A443.istore (Ls' := #[.val (.long t0), .second, .val (.long d1), .second, .val (.long d2), .second, .val (.int fl), .val (.long (100000000 : Int64)), .second, .val (.int (1 : Int32)), .val (.int (0 : Int32)), .val (.ref b386), .val (.long (t0 + d1)), .second, .val (.int (0 : Int32)), .val (.int r444), .unset, .unset, .unset, .unset, .unset, .unset, .unset, .unset, .unset, .unset]) (pc' := 90) at_88 rfl rfl
        have A456 := A455.iload (v := r444) (pc' := 92) at_90 rfl rfl
        have A457 := A456.iload (v := (0 : Int32)) (pc' := 94) at_92 rfl rfl
        by_cases c458 : r444.toInt = 0
        · have A459 := A457.icmpYes (pc' := 99) at_94 (teq (ieq (x := r444) (y := (0 : Int32)) rfl rfl c458)).1 (by decide) (by decide)
          have A460 := A459.iload (v := (1 : Int32)) (pc' := 101) at_99 rfl rfl
          have A462 := A460.ifNo (pc' := 104) at_101 (feq (ine (x := (1 : Int32)) (y := (0 : Int32)) rfl rfl (by decide : ¬ ((1 : Int) = 0)))).1 rfl
          have A463 := A462.iload (v := (0 : Int32)) (pc' := 106) at_104 rfl rfl
          have A465 := A463.ifNo (pc' := 109) at_106 (teq (ieq (x := (0 : Int32)) (y := (0 : Int32)) rfl rfl (by decide : (0 : Int) = 0))).2 rfl
          have A466 := A465.iconst (z := (1 : Int32)) (pc' := 110) at_109 rfl rfl
          have A467 := A466.goto (pc' := 114) at_110 (by decide) (by decide)
          have A468 := A467.istore (Ls' := #[.val (.long t0), .second, .val (.long d1), .second, .val (.long d2), .second, .val (.int fl), .val (.long (100000000 : Int64)), .second, .val (.int (1 : Int32)), .val (.int (0 : Int32)), .val (.ref b386), .val (.long (t0 + d1)), .second, .val (.int (0 : Int32)), .val (.int r444), .val (.int (1 : Int32)), .unset, .unset, .unset, .unset, .unset, .unset, .unset, .unset, .unset]) (pc' := 116) at_114 rfl rfl
          have A469 := A468.iload (v := (1 : Int32)) (pc' := 118) at_116 rfl rfl
          have A471 := A469.ifNo (pc' := 121) at_118 (feq (ine (x := (1 : Int32)) (y := (0 : Int32)) rfl rfl (by decide : ¬ ((1 : Int) = 0)))).1 rfl
          have A472 := A471.lconst (z := (0 : Int64)) (pc' := 122) at_121 rfl rfl
          have A473 := A472.lload (v := (100000000 : Int64)) (pc' := 124) at_122 rfl rfl
          have A474 := A473.lloadN (v := d1) (pc' := 125) at_124 rfl rfl
          have A475 := A474.lsub (pc' := 126) at_125 rfl
          obtain ⟨r477, _, ⟨rfl, q478⟩, A476⟩ := U.kJ (A475.callS (argsL := [(.long (0 : Int64)), (.long ((100000000 : Int64) - d1))]) (rest := []) (C' := 12) (S' := 549) (pc' := 129) at_126 (hw _ (List.mem_of_getElem? (i := 202) rfl)) (hw _ (List.mem_of_getElem? (i := 203) rfl)) (hw _ (List.mem_of_getElem? (i := 100) rfl)) (hw _ (List.mem_of_getElem? (i := 204) rfl)) (Ctr.toU (rm35 l Z a0 hw n0 [] ((0 : Int64)) (((100000000 : Int64) - d1))  h446 A475.size ) (own_ew hw) (fun v h' q => by obtain ⟨_, _, rfl, -⟩ := q; exact ⟨[], Keep.refl _ [], allU0⟩)) rfl rfl pd_24 rfl rfl (by decide) (by decide) (Nat.le_of_ble_eq_true rfl) (by decide) (by decide) rfl rfl rfl)
          have A480 := A476.goto (pc' := 133) at_129 (by decide) (by decide)
          have A481 := A480.lstore (Ls' := #[.val (.long t0), .second, .val (.long d1), .second, .val (.long d2), .second, .val (.int fl), .val (.long (100000000 : Int64)), .second, .val (.int (1 : Int32)), .val (.int (0 : Int32)), .val (.ref b386), .val (.long (t0 + d1)), .second, .val (.int (0 : Int32)), .val (.int r444), .val (.int (1 : Int32)), .val (.long r477), .second, .unset, .unset, .unset, .unset, .unset, .unset, .unset]) (pc' := 135) at_133 rfl rfl
          have A482 := A481.aload (v := (.ref b386)) (pc' := 137) at_135 rfl rfl rfl
          have A483 := A482.lload (v := (t0 + d1)) (pc' := 139) at_137 rfl rfl
          have f486 := (f442.keep K447)
          obtain ⟨r485, _, ⟨rfl, q487⟩, A484⟩ := U.kJ (A483.callV (a := b386) (argsL := [(.long (t0 + d1))]) (rest := []) (C' := 12) (S' := 549) (pc' := 142) at_139 f486 (hw _ (List.mem_of_getElem? (i := 17) rfl)) (hw _ (List.mem_of_getElem? (i := 18) rfl)) (fun hZ => notFace_of_selects (args := #[]) (mvT hZ (hw _ (List.mem_of_getElem? (i := 20) rfl)))) (hw _ (List.mem_of_getElem? (i := 20) rfl)) (hw _ (List.mem_of_getElem? (i := 19) rfl)) (hw _ (List.mem_of_getElem? (i := 3) rfl)) (hw _ (List.mem_of_getElem? (i := 21) rfl)) (Ctr.toU (rm4 l Z a0 hw n0 [] (b386) ((t0 + d1)) (u448) ((t0 + (100000000 : Int64))) h446 A483.size f449 f450 (by first | exact Or.inl rfl | exact Or.inr rfl | (refine own_rs (by assumption) ?_; first | exact Or.inl rfl | exact Or.inr rfl | (refine own_rs (by assumption) ?_; first | exact Or.inl rfl | exact Or.inr rfl)))) (own_ew hw) (fun v h' q => by obtain ⟨_, _, rfl, -⟩ := q; exact ⟨[], Keep.refl _ [], allU0⟩)) rfl rfl pd_26 rfl rfl (by decide) (by decide) (Nat.le_of_ble_eq_true rfl) (by decide) (by decide) rfl rfl rfl)
          have A489 := A484.lload (v := r477) (pc' := 144) at_142 rfl rfl
          have A490 := A489.lcmp (pc' := 145) at_144 rfl
          by_cases c491 : r485.toInt = r477.toInt
          · have A492 := A490.ifYes (pc' := 150) at_145 (teq (leq (x := r485) (y := r477) rfl rfl c491)).1 (by decide) (by decide)
            have A493 := A492.lload (v := (t0 + d1)) (pc' := 152) at_150 rfl rfl
            have A494 := A493.lload (v := d2) (pc' := 154) at_152 rfl rfl
            have A495 := A494.ladd (pc' := 155) at_154 rfl
            have A496 := A495.lstore (Ls' := #[.val (.long t0), .second, .val (.long d1), .second, .val (.long d2), .second, .val (.int fl), .val (.long (100000000 : Int64)), .second, .val (.int (1 : Int32)), .val (.int (0 : Int32)), .val (.ref b386), .val (.long (t0 + d1)), .second, .val (.int (0 : Int32)), .val (.int r444), .val (.int (1 : Int32)), .val (.long r477), .second, .val (.long ((t0 + d1) + d2)), .second, .unset, .unset, .unset, .unset, .unset]) (pc' := 157) at_155 rfl rfl
            have A497 := A496.iload (v := (0 : Int32)) (pc' := 159) at_157 rfl rfl
            have A499 := A497.ifYes (pc' := 191) at_159 (teq (ieq (x := (0 : Int32)) (y := (0 : Int32)) rfl rfl (by decide : (0 : Int) = 0))).1 (by decide) (by decide)
            have A500 := A499.iload (v := (1 : Int32)) (pc' := 193) at_191 rfl rfl
            have A502 := A500.ifNo (pc' := 196) at_193 (feq (ine (x := (1 : Int32)) (y := (0 : Int32)) rfl rfl (by decide : ¬ ((1 : Int) = 0)))).1 rfl
            have A503 := A502.lloadN (v := d1) (pc' := 197) at_196 rfl rfl
            have A504 := A503.lload (v := d2) (pc' := 199) at_197 rfl rfl
            have A505 := A504.ladd (pc' := 200) at_199 rfl
            have A506 := A505.lload (v := (100000000 : Int64)) (pc' := 202) at_200 rfl rfl
            have A507 := A506.lsub (pc' := 203) at_202 rfl
            have A508 := A507.lconst (z := (0 : Int64)) (pc' := 204) at_203 rfl rfl
            have A509 := A508.lcmp (pc' := 205) at_204 rfl
            by_cases c510 : ((d1 + d2) - (100000000 : Int64)).toInt < 0
            · have A511 := A509.ifYes (pc' := 212) at_205 (tlt (llt (x := ((d1 + d2) - (100000000 : Int64))) (y := (0 : Int64)) rfl rfl c510)).1 (by decide) (by decide)
              have A512 := A511.iconst (z := (0 : Int32)) (pc' := 213) at_212 rfl rfl
              have A513 := A512.istore (Ls' := #[.val (.long t0), .second, .val (.long d1), .second, .val (.long d2), .second, .val (.int fl), .val (.long (100000000 : Int64)), .second, .val (.int (1 : Int32)), .val (.int (0 : Int32)), .val (.ref b386), .val (.long (t0 + d1)), .second, .val (.int (0 : Int32)), .val (.int r444), .val (.int (1 : Int32)), .val (.long r477), .second, .val (.long ((t0 + d1) + d2)), .second, .val (.int (0 : Int32)), .unset, .unset, .unset, .unset]) (pc' := 215) at_213 rfl rfl
              have A514 := A513.aload (v := (.ref b386)) (pc' := 217) at_215 rfl rfl rfl
              have A515 := A514.lload (v := ((t0 + d1) + d2)) (pc' := 219) at_217 rfl rfl
              obtain ⟨r517, h519, ⟨u521, K520, f522, f523, q518⟩, A516⟩ := U.kI (A515.callV (a := b386) (argsL := [(.long ((t0 + d1) + d2))]) (rest := []) (C' := 12) (S' := 549) (pc' := 222) at_219 f486 (hw _ (List.mem_of_getElem? (i := 10) rfl)) (hw _ (List.mem_of_getElem? (i := 11) rfl)) (fun hZ => notFace_of_selects (args := #[]) (mvT hZ (hw _ (List.mem_of_getElem? (i := 13) rfl)))) (hw _ (List.mem_of_getElem? (i := 13) rfl)) (hw _ (List.mem_of_getElem? (i := 12) rfl)) (hw _ (List.mem_of_getElem? (i := 3) rfl)) (hw _ (List.mem_of_getElem? (i := 14) rfl)) (Ctr.toU (rm3_b l Z a0 hw n0 [] (b386) (((t0 + d1) + d2)) (u448) ((t0 + (100000000 : Int64))) h446 A515.size f486 g388 f449 f450 (by first | exact Or.inl rfl | exact Or.inr rfl | (refine own_rs (by assumption) ?_; first | exact Or.inl rfl | exact Or.inr rfl | (refine own_rs (by assumption) ?_; first | exact Or.inl rfl | exact Or.inr rfl)))) (own_ew hw) (fun v h' q => by obtain ⟨_, _, _, K, -⟩ := q; exact ⟨_, K, (allUS f486 (by decide) (by decide) allU0)⟩)) rfl rfl pd_25 rfl rfl (by decide) (by decide) (Nat.le_of_ble_eq_true rfl) (by decide) (by decide) rfl rfl rfl)
              have A524 := A516.istore (Ls' := #[.val (.long t0), .second, .val (.long d1), .second, .val (.long d2), .second, .val (.int fl), .val (.long (100000000 : Int64)), .second, .val (.int (1 : Int32)), .val (.int (0 : Int32)), .val (.ref b386), .val (.long (t0 + d1)), .second, .val (.int (0 : Int32)), .val (.int r444), .val (.int (1 : Int32)), .val (.long r477), .second, .val (.long ((t0 + d1) + d2)), .second, .val (.int (0 : Int32)), .val (.int r517), .unset, .unset, .unset]) (pc' := 224) at_222 rfl rfl
              have A525 := A524.iload (v := r517) (pc' := 226) at_224 rfl rfl
              have A526 := A525.iload (v := (0 : Int32)) (pc' := 228) at_226 rfl rfl
              by_cases c527 : r517.toInt = 0
              · have A528 := A526.icmpYes (pc' := 233) at_228 (teq (ieq (x := r517) (y := (0 : Int32)) rfl rfl c527)).1 (by decide) (by decide)
                have A529 := A528.iload (v := (0 : Int32)) (pc' := 235) at_233 rfl rfl
                have A531 := A529.ifYes (pc' := 251) at_235 (teq (ieq (x := (0 : Int32)) (y := (0 : Int32)) rfl rfl (by decide : (0 : Int) = 0))).1 (by decide) (by decide)
                have A532 := A531.iload (v := (1 : Int32)) (pc' := 253) at_251 rfl rfl
                have A534 := A532.ifNo (pc' := 256) at_253 (feq (ine (x := (1 : Int32)) (y := (0 : Int32)) rfl rfl (by decide : ¬ ((1 : Int) = 0)))).1 rfl
                have A535 := A534.iload (v := (0 : Int32)) (pc' := 258) at_256 rfl rfl
                have A537 := A535.ifNo (pc' := 261) at_258 (teq (ieq (x := (0 : Int32)) (y := (0 : Int32)) rfl rfl (by decide : (0 : Int) = 0))).2 rfl
                have A538 := A537.iconst (z := (1 : Int32)) (pc' := 262) at_261 rfl rfl
                have A539 := A538.goto (pc' := 266) at_262 (by decide) (by decide)
                have A540 := A539.istore (Ls' := #[.val (.long t0), .second, .val (.long d1), .second, .val (.long d2), .second, .val (.int fl), .val (.long (100000000 : Int64)), .second, .val (.int (1 : Int32)), .val (.int (0 : Int32)), .val (.ref b386), .val (.long (t0 + d1)), .second, .val (.int (0 : Int32)), .val (.int r444), .val (.int (1 : Int32)), .val (.long r477), .second, .val (.long ((t0 + d1) + d2)), .second, .val (.int (0 : Int32)), .val (.int r517), .val (.int (1 : Int32)), .unset, .unset]) (pc' := 268) at_266 rfl rfl
                have A541 := A540.iload (v := (1 : Int32)) (pc' := 270) at_268 rfl rfl
                have A543 := A541.ifNo (pc' := 273) at_270 (feq (ine (x := (1 : Int32)) (y := (0 : Int32)) rfl rfl (by decide : ¬ ((1 : Int) = 0)))).1 rfl
                have A544 := A543.lconst (z := (0 : Int64)) (pc' := 274) at_273 rfl rfl
                have A545 := A544.iload (v := (0 : Int32)) (pc' := 276) at_274 rfl rfl
                have A547 := A545.ifYes (pc' := 287) at_276 (teq (ieq (x := (0 : Int32)) (y := (0 : Int32)) rfl rfl (by decide : (0 : Int) = 0))).1 (by decide) (by decide)
                have A548 := A547.lload (v := (100000000 : Int64)) (pc' := 289) at_287 rfl rfl
                have A549 := A548.lloadN (v := d1) (pc' := 290) at_289 rfl rfl
                have A550 := A549.lsub (pc' := 291) at_290 rfl
                have A551 := A550.lload (v := d2) (pc' := 293) at_291 rfl rfl
                have A552 := A551.lsub (pc' := 294) at_293 rfl
                obtain ⟨r554, _, ⟨rfl, q555⟩, A553⟩ := U.kJ (A552.callS (argsL := [(.long (0 : Int64)), (.long (((100000000 : Int64) - d1) - d2))]) (rest := []) (C' := 12) (S' := 549) (pc' := 297) at_294 (hw _ (List.mem_of_getElem? (i := 202) rfl)) (hw _ (List.mem_of_getElem? (i := 203) rfl)) (hw _ (List.mem_of_getElem? (i := 100) rfl)) (hw _ (List.mem_of_getElem? (i := 204) rfl)) (Ctr.toU (rm35 l Z a0 hw n0 [] ((0 : Int64)) ((((100000000 : Int64) - d1) - d2))  h519 A552.size ) (own_ew hw) (fun v h' q => by obtain ⟨_, _, rfl, -⟩ := q; exact ⟨[], Keep.refl _ [], allU0⟩)) rfl rfl pd_24 rfl rfl (by decide) (by decide) (Nat.le_of_ble_eq_true rfl) (by decide) (by decide) rfl rfl rfl)
                have A557 := A553.goto (pc' := 301) at_297 (by decide) (by decide)
                have A558 := A557.lstore (Ls' := #[.val (.long t0), .second, .val (.long d1), .second, .val (.long d2), .second, .val (.int fl), .val (.long (100000000 : Int64)), .second, .val (.int (1 : Int32)), .val (.int (0 : Int32)), .val (.ref b386), .val (.long (t0 + d1)), .second, .val (.int (0 : Int32)), .val (.int r444), .val (.int (1 : Int32)), .val (.long r477), .second, .val (.long ((t0 + d1) + d2)), .second, .val (.int (0 : Int32)), .val (.int r517), .val (.int (1 : Int32)), .val (.long r554), .second]) (pc' := 303) at_301 rfl rfl
                have A559 := A558.aload (v := (.ref b386)) (pc' := 305) at_303 rfl rfl rfl
                have A560 := A559.lload (v := ((t0 + d1) + d2)) (pc' := 307) at_305 rfl rfl
                have f563 := (f486.keep K520)
                obtain ⟨r562, _, ⟨rfl, q564⟩, A561⟩ := U.kJ (A560.callV (a := b386) (argsL := [(.long ((t0 + d1) + d2))]) (rest := []) (C' := 12) (S' := 549) (pc' := 310) at_307 f563 (hw _ (List.mem_of_getElem? (i := 17) rfl)) (hw _ (List.mem_of_getElem? (i := 18) rfl)) (fun hZ => notFace_of_selects (args := #[]) (mvT hZ (hw _ (List.mem_of_getElem? (i := 20) rfl)))) (hw _ (List.mem_of_getElem? (i := 20) rfl)) (hw _ (List.mem_of_getElem? (i := 19) rfl)) (hw _ (List.mem_of_getElem? (i := 3) rfl)) (hw _ (List.mem_of_getElem? (i := 21) rfl)) (Ctr.toU (rm4 l Z a0 hw n0 [] (b386) (((t0 + d1) + d2)) (u521) ((t0 + (100000000 : Int64))) h519 A560.size f522 f523 (by first | exact Or.inl rfl | exact Or.inr rfl | (refine own_rs (by assumption) ?_; first | exact Or.inl rfl | exact Or.inr rfl | (refine own_rs (by assumption) ?_; first | exact Or.inl rfl | exact Or.inr rfl)))) (own_ew hw) (fun v h' q => by obtain ⟨_, _, rfl, -⟩ := q; exact ⟨[], Keep.refl _ [], allU0⟩)) rfl rfl pd_26 rfl rfl (by decide) (by decide) (Nat.le_of_ble_eq_true rfl) (by decide) (by decide) rfl rfl rfl)
                have A566 := A561.lload (v := r554) (pc' := 312) at_310 rfl rfl
                have A567 := A566.lcmp (pc' := 313) at_312 rfl
                by_cases c568 : r562.toInt = r554.toInt
                · have A569 := A567.ifNo (pc' := 316) at_313 (teq (leq (x := r562) (y := r554) rfl rfl c568)).2 rfl
                  have A570 := A569.iconst (z := (1 : Int32)) (pc' := 317) at_316 rfl rfl
                  have A571 := A570.goto (pc' := 321) at_317 (by decide) (by decide)
                  refine A571.retN (t := .boolean) (z' := (1 : Int32)) at_321 (by decide) (by decide) (by simp) rfl ⟨_, rfl, ⟨trivial, ?_⟩⟩
                  have elit : (1 : Int32).toInt = 1 := rfl
                  rfl
                · have A572 := A567.ifYes (pc' := 320) at_313 (feq (lne (x := r562) (y := r554) rfl rfl c568)).2 (by decide) (by decide)
                  have A573 := A572.iconst (z := (0 : Int32)) (pc' := 321) at_320 rfl rfl
                  refine A573.retN (t := .boolean) (z' := (0 : Int32)) at_321 (by decide) (by decide) (by simp) rfl ⟨_, rfl, ⟨trivial, ?_⟩⟩
                  have elit : (0 : Int32).toInt = 0 := rfl
                  exfalso
                  exact own_lf10 c6 c381 c436 q445 c458 q478 q487 c491 c510 q518 c527 q555 q564 c568 i0 i1 i2 i3 i4 i5 z0 z1 z2
              · have A574 := A526.icmpNo (pc' := 231) at_228 (feq (ine (x := r517) (y := (0 : Int32)) rfl rfl c527)).1 rfl
                have A575 := A574.iconst (z := (0 : Int32)) (pc' := 232) at_231 rfl rfl
                refine A575.retN (t := .boolean) (z' := (0 : Int32)) at_232 (by decide) (by decide) (by simp) rfl ⟨_, rfl, ⟨trivial, ?_⟩⟩
                have elit : (0 : Int32).toInt = 0 := rfl
                exfalso
                exact own_lf11 c6 c381 c436 q445 c458 q478 q487 c491 c510 q518 c527 i0 i1 i2 i3 i4 i5 z0 z1 z2
            · have A576 := A509.ifNo (pc' := 208) at_205 (flt (lnlt (x := ((d1 + d2) - (100000000 : Int64))) (y := (0 : Int64)) rfl rfl c510)).1 rfl
              have A577 := A576.iconst (z := (1 : Int32)) (pc' := 209) at_208 rfl rfl
              have A578 := A577.goto (pc' := 213) at_209 (by decide) (by decide)
              have A579 := A578.istore (Ls' := #[.val (.long t0), .second, .val (.long d1), .second, .val (.long d2), .second, .val (.int fl), .val (.long (100000000 : Int64)), .second, .val (.int (1 : Int32)), .val (.int (0 : Int32)), .val (.ref b386), .val (.long (t0 + d1)), .second, .val (.int (0 : Int32)), .val (.int r444), .val (.int (1 : Int32)), .val (.long r477), .second, .val (.long ((t0 + d1) + d2)), .second, .val (.int (1 : Int32)), .unset, .unset, .unset, .unset]) (pc' := 215) at_213 rfl rfl
              have A580 := A579.aload (v := (.ref b386)) (pc' := 217) at_215 rfl rfl rfl
              have A581 := A580.lload (v := ((t0 + d1) + d2)) (pc' := 219) at_217 rfl rfl
              obtain ⟨r583, h585, ⟨u587, K586, f588, f589, q584⟩, A582⟩ := U.kI (A581.callV (a := b386) (argsL := [(.long ((t0 + d1) + d2))]) (rest := []) (C' := 12) (S' := 549) (pc' := 222) at_219 f486 (hw _ (List.mem_of_getElem? (i := 10) rfl)) (hw _ (List.mem_of_getElem? (i := 11) rfl)) (fun hZ => notFace_of_selects (args := #[]) (mvT hZ (hw _ (List.mem_of_getElem? (i := 13) rfl)))) (hw _ (List.mem_of_getElem? (i := 13) rfl)) (hw _ (List.mem_of_getElem? (i := 12) rfl)) (hw _ (List.mem_of_getElem? (i := 3) rfl)) (hw _ (List.mem_of_getElem? (i := 14) rfl)) (Ctr.toU (rm3_b l Z a0 hw n0 [] (b386) (((t0 + d1) + d2)) (u448) ((t0 + (100000000 : Int64))) h446 A581.size f486 g388 f449 f450 (by first | exact Or.inl rfl | exact Or.inr rfl | (refine own_rs (by assumption) ?_; first | exact Or.inl rfl | exact Or.inr rfl | (refine own_rs (by assumption) ?_; first | exact Or.inl rfl | exact Or.inr rfl)))) (own_ew hw) (fun v h' q => by obtain ⟨_, _, _, K, -⟩ := q; exact ⟨_, K, (allUS f486 (by decide) (by decide) allU0)⟩)) rfl rfl pd_25 rfl rfl (by decide) (by decide) (Nat.le_of_ble_eq_true rfl) (by decide) (by decide) rfl rfl rfl)
              have A590 := A582.istore (Ls' := #[.val (.long t0), .second, .val (.long d1), .second, .val (.long d2), .second, .val (.int fl), .val (.long (100000000 : Int64)), .second, .val (.int (1 : Int32)), .val (.int (0 : Int32)), .val (.ref b386), .val (.long (t0 + d1)), .second, .val (.int (0 : Int32)), .val (.int r444), .val (.int (1 : Int32)), .val (.long r477), .second, .val (.long ((t0 + d1) + d2)), .second, .val (.int (1 : Int32)), .val (.int r583), .unset, .unset, .unset]) (pc' := 224) at_222 rfl rfl
              have A591 := A590.iload (v := r583) (pc' := 226) at_224 rfl rfl
              have A592 := A591.iload (v := (1 : Int32)) (pc' := 228) at_226 rfl rfl
              by_cases c593 : r583.toInt = 1
              · have A594 := A592.icmpYes (pc' := 233) at_228 (teq (ieq (x := r583) (y := (1 : Int32)) rfl rfl c593)).1 (by decide) (by decide)
                have A595 := A594.iload (v := (0 : Int32)) (pc' := 235) at_233 rfl rfl
                have A597 := A595.ifYes (pc' := 251) at_235 (teq (ieq (x := (0 : Int32)) (y := (0 : Int32)) rfl rfl (by decide : (0 : Int) = 0))).1 (by decide) (by decide)
                have A598 := A597.iload (v := (1 : Int32)) (pc' := 253) at_251 rfl rfl
                have A600 := A598.ifNo (pc' := 256) at_253 (feq (ine (x := (1 : Int32)) (y := (0 : Int32)) rfl rfl (by decide : ¬ ((1 : Int) = 0)))).1 rfl
                have A601 := A600.iload (v := (1 : Int32)) (pc' := 258) at_256 rfl rfl
                have A603 := A601.ifYes (pc' := 265) at_258 (feq (ine (x := (1 : Int32)) (y := (0 : Int32)) rfl rfl (by decide : ¬ ((1 : Int) = 0)))).2 (by decide) (by decide)
                have A604 := A603.iconst (z := (0 : Int32)) (pc' := 266) at_265 rfl rfl
                have A605 := A604.istore (Ls' := #[.val (.long t0), .second, .val (.long d1), .second, .val (.long d2), .second, .val (.int fl), .val (.long (100000000 : Int64)), .second, .val (.int (1 : Int32)), .val (.int (0 : Int32)), .val (.ref b386), .val (.long (t0 + d1)), .second, .val (.int (0 : Int32)), .val (.int r444), .val (.int (1 : Int32)), .val (.long r477), .second, .val (.long ((t0 + d1) + d2)), .second, .val (.int (1 : Int32)), .val (.int r583), .val (.int (0 : Int32)), .unset, .unset]) (pc' := 268) at_266 rfl rfl
                have A606 := A605.iload (v := (0 : Int32)) (pc' := 270) at_268 rfl rfl
                have A608 := A606.ifYes (pc' := 300) at_270 (teq (ieq (x := (0 : Int32)) (y := (0 : Int32)) rfl rfl (by decide : (0 : Int) = 0))).1 (by decide) (by decide)
                have A609 := A608.lconst (z := (0 : Int64)) (pc' := 301) at_300 rfl rfl
                have A610 := A609.lstore (Ls' := #[.val (.long t0), .second, .val (.long d1), .second, .val (.long d2), .second, .val (.int fl), .val (.long (100000000 : Int64)), .second, .val (.int (1 : Int32)), .val (.int (0 : Int32)), .val (.ref b386), .val (.long (t0 + d1)), .second, .val (.int (0 : Int32)), .val (.int r444), .val (.int (1 : Int32)), .val (.long r477), .second, .val (.long ((t0 + d1) + d2)), .second, .val (.int (1 : Int32)), .val (.int r583), .val (.int (0 : Int32)), .val (.long (0 : Int64)), .second]) (pc' := 303) at_301 rfl rfl
                have A611 := A610.aload (v := (.ref b386)) (pc' := 305) at_303 rfl rfl rfl
                have A612 := A611.lload (v := ((t0 + d1) + d2)) (pc' := 307) at_305 rfl rfl
                have f615 := (f486.keep K586)
                obtain ⟨r614, _, ⟨rfl, q616⟩, A613⟩ := U.kJ (A612.callV (a := b386) (argsL := [(.long ((t0 + d1) + d2))]) (rest := []) (C' := 12) (S' := 549) (pc' := 310) at_307 f615 (hw _ (List.mem_of_getElem? (i := 17) rfl)) (hw _ (List.mem_of_getElem? (i := 18) rfl)) (fun hZ => notFace_of_selects (args := #[]) (mvT hZ (hw _ (List.mem_of_getElem? (i := 20) rfl)))) (hw _ (List.mem_of_getElem? (i := 20) rfl)) (hw _ (List.mem_of_getElem? (i := 19) rfl)) (hw _ (List.mem_of_getElem? (i := 3) rfl)) (hw _ (List.mem_of_getElem? (i := 21) rfl)) (Ctr.toU (rm4 l Z a0 hw n0 [] (b386) (((t0 + d1) + d2)) (u587) ((t0 + (100000000 : Int64))) h585 A612.size f588 f589 (by first | exact Or.inl rfl | exact Or.inr rfl | (refine own_rs (by assumption) ?_; first | exact Or.inl rfl | exact Or.inr rfl | (refine own_rs (by assumption) ?_; first | exact Or.inl rfl | exact Or.inr rfl)))) (own_ew hw) (fun v h' q => by obtain ⟨_, _, rfl, -⟩ := q; exact ⟨[], Keep.refl _ [], allU0⟩)) rfl rfl pd_26 rfl rfl (by decide) (by decide) (Nat.le_of_ble_eq_true rfl) (by decide) (by decide) rfl rfl rfl)
                have A618 := A613.lload (v := (0 : Int64)) (pc' := 312) at_310 rfl rfl
                have A619 := A618.lcmp (pc' := 313) at_312 rfl
                by_cases c620 : r614.toInt = 0
                · have A621 := A619.ifNo (pc' := 316) at_313 (teq (leq (x := r614) (y := (0 : Int64)) rfl rfl c620)).2 rfl
                  have A622 := A621.iconst (z := (1 : Int32)) (pc' := 317) at_316 rfl rfl
                  have A623 := A622.goto (pc' := 321) at_317 (by decide) (by decide)
                  refine A623.retN (t := .boolean) (z' := (1 : Int32)) at_321 (by decide) (by decide) (by simp) rfl ⟨_, rfl, ⟨trivial, ?_⟩⟩
                  have elit : (1 : Int32).toInt = 1 := rfl
                  rfl
                · have A624 := A619.ifYes (pc' := 320) at_313 (feq (lne (x := r614) (y := (0 : Int64)) rfl rfl c620)).2 (by decide) (by decide)
                  have A625 := A624.iconst (z := (0 : Int32)) (pc' := 321) at_320 rfl rfl
                  refine A625.retN (t := .boolean) (z' := (0 : Int32)) at_321 (by decide) (by decide) (by simp) rfl ⟨_, rfl, ⟨trivial, ?_⟩⟩
                  have elit : (0 : Int32).toInt = 0 := rfl
                  exfalso
                  exact own_lf12 c6 c381 c436 q445 c458 q478 q487 c491 c510 q584 c593 q616 c620 i0 i1 i2 i3 i4 i5 z0 z1 z2
              · have A626 := A592.icmpNo (pc' := 231) at_228 (feq (ine (x := r583) (y := (1 : Int32)) rfl rfl c593)).1 rfl
                have A627 := A626.iconst (z := (0 : Int32)) (pc' := 232) at_231 rfl rfl
                refine A627.retN (t := .boolean) (z' := (0 : Int32)) at_232 (by decide) (by decide) (by simp) rfl ⟨_, rfl, ⟨trivial, ?_⟩⟩
                have elit : (0 : Int32).toInt = 0 := rfl
                exfalso
                exact own_lf13 c6 c381 c436 q445 c458 q478 q487 c491 c510 q584 c593 i0 i1 i2 i3 i4 i5 z0 z1 z2
          · have A628 := A490.ifNo (pc' := 148) at_145 (feq (lne (x := r485) (y := r477) rfl rfl c491)).1 rfl
            have A629 := A628.iconst (z := (0 : Int32)) (pc' := 149) at_148 rfl rfl
            refine A629.retN (t := .boolean) (z' := (0 : Int32)) at_149 (by decide) (by decide) (by simp) rfl ⟨_, rfl, ⟨trivial, ?_⟩⟩
            have elit : (0 : Int32).toInt = 0 := rfl
            exfalso
            exact own_lf14 c6 c381 c436 q445 c458 q478 q487 c491 i0 i1 i2 i3 i4 i5 z0 z1 z2
        · have A630 := A457.icmpNo (pc' := 97) at_94 (feq (ine (x := r444) (y := (0 : Int32)) rfl rfl c458)).1 rfl
          have A631 := A630.iconst (z := (0 : Int32)) (pc' := 98) at_97 rfl rfl
          refine A631.retN (t := .boolean) (z' := (0 : Int32)) at_98 (by decide) (by decide) (by simp) rfl ⟨_, rfl, ⟨trivial, ?_⟩⟩
          have elit : (0 : Int32).toInt = 0 := rfl
          exfalso
          exact own_lf15 c6 c381 c436 q445 c458 i0 i1 i2 i3 i4 i5 z0 z1 z2
      · have A632 := A435.ifNo (pc' := 74) at_71 (flt (lnlt (x := (d1 - (100000000 : Int64))) (y := (0 : Int64)) rfl rfl c436)).1 rfl
        have A633 := A632.iconst (z := (1 : Int32)) (pc' := 75) at_74 rfl rfl
        have A634 := A633.goto (pc' := 79) at_75 (by decide) (by decide)
        have A635 := A634.istore (Ls' := #[.val (.long t0), .second, .val (.long d1), .second, .val (.long d2), .second, .val (.int fl), .val (.long (100000000 : Int64)), .second, .val (.int (1 : Int32)), .val (.int (0 : Int32)), .val (.ref b386), .val (.long (t0 + d1)), .second, .val (.int (1 : Int32)), .unset, .unset, .unset, .unset, .unset, .unset, .unset, .unset, .unset, .unset, .unset]) (pc' := 81) at_79 rfl rfl
        have A636 := A635.aload (v := (.ref b386)) (pc' := 83) at_81 rfl rfl rfl
        have A637 := A636.lload (v := (t0 + d1)) (pc' := 85) at_83 rfl rfl
        have f638 := (X390.keep K416)
        obtain ⟨r640, h642, ⟨u644, K643, f645, f646, f647, f648, f649, f650, q641⟩, A639⟩ := U.kI (A637.callV (a := b386) (argsL := [(.long (t0 + d1))]) (rest := []) (C' := 12) (S' := 549) (pc' := 88) at_85 f638 (hw _ (List.mem_of_getElem? (i := 10) rfl)) (hw _ (List.mem_of_getElem? (i := 11) rfl)) (fun hZ => notFace_of_selects (args := #[]) (mvT hZ (hw _ (List.mem_of_getElem? (i := 13) rfl)))) (hw _ (List.mem_of_getElem? (i := 13) rfl)) (hw _ (List.mem_of_getElem? (i := 12) rfl)) (hw _ (List.mem_of_getElem? (i := 3) rfl)) (hw _ (List.mem_of_getElem? (i := 14) rfl)) (Ctr.toU (rm3 l Z a0 hw n0 [] (b386) ((t0 + d1)) ((1 : Int32)) ((t0 + (100000000 : Int64))) ((1 : Int32)) ((0 : Int64)) (t0) ((1 : Int32)) h415 A637.size f638 g388 f417 f418 (by first | exact Or.inl rfl | exact Or.inr rfl | (refine own_rs (by assumption) ?_; first | exact Or.inl rfl | exact Or.inr rfl | (refine own_rs (by assumption) ?_; first | exact Or.inl rfl | exact Or.inr rfl))) f419 f421 f420 f422) (own_ew hw) (fun v h' q => by obtain ⟨_, _, _, K, -⟩ := q; exact ⟨_, K, (allUS f638 (by decide) (by decide) allU0)⟩)) rfl rfl pd_25 rfl rfl (by decide) (by decide) (Nat.le_of_ble_eq_true rfl) (by decide) (by decide) rfl rfl rfl)
        have A651 := A639.istore (Ls' := #[.val (.long t0), .second, .val (.long d1), .second, .val (.long d2), .second, .val (.int fl), .val (.long (100000000 : Int64)), .second, .val (.int (1 : Int32)), .val (.int (0 : Int32)), .val (.ref b386), .val (.long (t0 + d1)), .second, .val (.int (1 : Int32)), .val (.int r640), .unset, .unset, .unset, .unset, .unset, .unset, .unset, .unset, .unset, .unset]) (pc' := 90) at_88 rfl rfl
        have A652 := A651.iload (v := r640) (pc' := 92) at_90 rfl rfl
        have A653 := A652.iload (v := (1 : Int32)) (pc' := 94) at_92 rfl rfl
        by_cases c654 : r640.toInt = 1
        · have A655 := A653.icmpYes (pc' := 99) at_94 (teq (ieq (x := r640) (y := (1 : Int32)) rfl rfl c654)).1 (by decide) (by decide)
          have A656 := A655.iload (v := (1 : Int32)) (pc' := 101) at_99 rfl rfl
          have A658 := A656.ifNo (pc' := 104) at_101 (feq (ine (x := (1 : Int32)) (y := (0 : Int32)) rfl rfl (by decide : ¬ ((1 : Int) = 0)))).1 rfl
          have A659 := A658.iload (v := (1 : Int32)) (pc' := 106) at_104 rfl rfl
          have A661 := A659.ifYes (pc' := 113) at_106 (feq (ine (x := (1 : Int32)) (y := (0 : Int32)) rfl rfl (by decide : ¬ ((1 : Int) = 0)))).2 (by decide) (by decide)
          have A662 := A661.iconst (z := (0 : Int32)) (pc' := 114) at_113 rfl rfl
          have A663 := A662.istore (Ls' := #[.val (.long t0), .second, .val (.long d1), .second, .val (.long d2), .second, .val (.int fl), .val (.long (100000000 : Int64)), .second, .val (.int (1 : Int32)), .val (.int (0 : Int32)), .val (.ref b386), .val (.long (t0 + d1)), .second, .val (.int (1 : Int32)), .val (.int r640), .val (.int (0 : Int32)), .unset, .unset, .unset, .unset, .unset, .unset, .unset, .unset, .unset]) (pc' := 116) at_114 rfl rfl
          have A664 := A663.iload (v := (0 : Int32)) (pc' := 118) at_116 rfl rfl
          have A666 := A664.ifYes (pc' := 132) at_118 (teq (ieq (x := (0 : Int32)) (y := (0 : Int32)) rfl rfl (by decide : (0 : Int) = 0))).1 (by decide) (by decide)
          have A667 := A666.lconst (z := (0 : Int64)) (pc' := 133) at_132 rfl rfl
          have A668 := A667.lstore (Ls' := #[.val (.long t0), .second, .val (.long d1), .second, .val (.long d2), .second, .val (.int fl), .val (.long (100000000 : Int64)), .second, .val (.int (1 : Int32)), .val (.int (0 : Int32)), .val (.ref b386), .val (.long (t0 + d1)), .second, .val (.int (1 : Int32)), .val (.int r640), .val (.int (0 : Int32)), .val (.long (0 : Int64)), .second, .unset, .unset, .unset, .unset, .unset, .unset, .unset]) (pc' := 135) at_133 rfl rfl
          have A669 := A668.aload (v := (.ref b386)) (pc' := 137) at_135 rfl rfl rfl
          have A670 := A669.lload (v := (t0 + d1)) (pc' := 139) at_137 rfl rfl
          have f673 := (f638.keep K643)
          obtain ⟨r672, _, ⟨rfl, q674⟩, A671⟩ := U.kJ (A670.callV (a := b386) (argsL := [(.long (t0 + d1))]) (rest := []) (C' := 12) (S' := 549) (pc' := 142) at_139 f673 (hw _ (List.mem_of_getElem? (i := 17) rfl)) (hw _ (List.mem_of_getElem? (i := 18) rfl)) (fun hZ => notFace_of_selects (args := #[]) (mvT hZ (hw _ (List.mem_of_getElem? (i := 20) rfl)))) (hw _ (List.mem_of_getElem? (i := 20) rfl)) (hw _ (List.mem_of_getElem? (i := 19) rfl)) (hw _ (List.mem_of_getElem? (i := 3) rfl)) (hw _ (List.mem_of_getElem? (i := 21) rfl)) (Ctr.toU (rm4 l Z a0 hw n0 [] (b386) ((t0 + d1)) (u644) ((t0 + (100000000 : Int64))) h642 A670.size f645 f646 (by first | exact Or.inl rfl | exact Or.inr rfl | (refine own_rs (by assumption) ?_; first | exact Or.inl rfl | exact Or.inr rfl | (refine own_rs (by assumption) ?_; first | exact Or.inl rfl | exact Or.inr rfl)))) (own_ew hw) (fun v h' q => by obtain ⟨_, _, rfl, -⟩ := q; exact ⟨[], Keep.refl _ [], allU0⟩)) rfl rfl pd_26 rfl rfl (by decide) (by decide) (Nat.le_of_ble_eq_true rfl) (by decide) (by decide) rfl rfl rfl)
          have A676 := A671.lload (v := (0 : Int64)) (pc' := 144) at_142 rfl rfl
          have A677 := A676.lcmp (pc' := 145) at_144 rfl
          by_cases c678 : r672.toInt = 0
          · have A679 := A677.ifYes (pc' := 150) at_145 (teq (leq (x := r672) (y := (0 : Int64)) rfl rfl c678)).1 (by decide) (by decide)
            have A680 := A679.lload (v := (t0 + d1)) (pc' := 152) at_150 rfl rfl
            have A681 := A680.lload (v := d2) (pc' := 154) at_152 rfl rfl
            have A682 := A681.ladd (pc' := 155) at_154 rfl
            have A683 := A682.lstore (Ls' := #[.val (.long t0), .second, .val (.long d1), .second, .val (.long d2), .second, .val (.int fl), .val (.long (100000000 : Int64)), .second, .val (.int (1 : Int32)), .val (.int (0 : Int32)), .val (.ref b386), .val (.long (t0 + d1)), .second, .val (.int (1 : Int32)), .val (.int r640), .val (.int (0 : Int32)), .val (.long (0 : Int64)), .second, .val (.long ((t0 + d1) + d2)), .second, .unset, .unset, .unset, .unset, .unset]) (pc' := 157) at_155 rfl rfl
            have A684 := A683.iload (v := (0 : Int32)) (pc' := 159) at_157 rfl rfl
            have A686 := A684.ifYes (pc' := 191) at_159 (teq (ieq (x := (0 : Int32)) (y := (0 : Int32)) rfl rfl (by decide : (0 : Int) = 0))).1 (by decide) (by decide)
            have A687 := A686.iload (v := (0 : Int32)) (pc' := 193) at_191 rfl rfl
            have A689 := A687.ifYes (pc' := 212) at_193 (teq (ieq (x := (0 : Int32)) (y := (0 : Int32)) rfl rfl (by decide : (0 : Int) = 0))).1 (by decide) (by decide)
            have A690 := A689.iconst (z := (0 : Int32)) (pc' := 213) at_212 rfl rfl
            have A691 := A690.istore (Ls' := #[.val (.long t0), .second, .val (.long d1), .second, .val (.long d2), .second, .val (.int fl), .val (.long (100000000 : Int64)), .second, .val (.int (1 : Int32)), .val (.int (0 : Int32)), .val (.ref b386), .val (.long (t0 + d1)), .second, .val (.int (1 : Int32)), .val (.int r640), .val (.int (0 : Int32)), .val (.long (0 : Int64)), .second, .val (.long ((t0 + d1) + d2)), .second, .val (.int (0 : Int32)), .unset, .unset, .unset, .unset]) (pc' := 215) at_213 rfl rfl
            have A692 := A691.aload (v := (.ref b386)) (pc' := 217) at_215 rfl rfl rfl
            have A693 := A692.lload (v := ((t0 + d1) + d2)) (pc' := 219) at_217 rfl rfl
            obtain ⟨r695, h697, ⟨u699, K698, f700, f701, q696⟩, A694⟩ := U.kI (A693.callV (a := b386) (argsL := [(.long ((t0 + d1) + d2))]) (rest := []) (C' := 12) (S' := 549) (pc' := 222) at_219 f673 (hw _ (List.mem_of_getElem? (i := 10) rfl)) (hw _ (List.mem_of_getElem? (i := 11) rfl)) (fun hZ => notFace_of_selects (args := #[]) (mvT hZ (hw _ (List.mem_of_getElem? (i := 13) rfl)))) (hw _ (List.mem_of_getElem? (i := 13) rfl)) (hw _ (List.mem_of_getElem? (i := 12) rfl)) (hw _ (List.mem_of_getElem? (i := 3) rfl)) (hw _ (List.mem_of_getElem? (i := 14) rfl)) (Ctr.toU (rm3_b l Z a0 hw n0 [] (b386) (((t0 + d1) + d2)) (u644) ((t0 + (100000000 : Int64))) h642 A693.size f673 g388 f645 f646 (by first | exact Or.inl rfl | exact Or.inr rfl | (refine own_rs (by assumption) ?_; first | exact Or.inl rfl | exact Or.inr rfl | (refine own_rs (by assumption) ?_; first | exact Or.inl rfl | exact Or.inr rfl)))) (own_ew hw) (fun v h' q => by obtain ⟨_, _, _, K, -⟩ := q; exact ⟨_, K, (allUS f673 (by decide) (by decide) allU0)⟩)) rfl rfl pd_25 rfl rfl (by decide) (by decide) (Nat.le_of_ble_eq_true rfl) (by decide) (by decide) rfl rfl rfl)
            have A702 := A694.istore (Ls' := #[.val (.long t0), .second, .val (.long d1), .second, .val (.long d2), .second, .val (.int fl), .val (.long (100000000 : Int64)), .second, .val (.int (1 : Int32)), .val (.int (0 : Int32)), .val (.ref b386), .val (.long (t0 + d1)), .second, .val (.int (1 : Int32)), .val (.int r640), .val (.int (0 : Int32)), .val (.long (0 : Int64)), .second, .val (.long ((t0 + d1) + d2)), .second, .val (.int (0 : Int32)), .val (.int r695), .unset, .unset, .unset]) (pc' := 224) at_222 rfl rfl
            have A703 := A702.iload (v := r695) (pc' := 226) at_224 rfl rfl
            have A704 := A703.iload (v := (0 : Int32)) (pc' := 228) at_226 rfl rfl
            by_cases c705 : r695.toInt = 0
            · have A706 := A704.icmpYes (pc' := 233) at_228 (teq (ieq (x := r695) (y := (0 : Int32)) rfl rfl c705)).1 (by decide) (by decide)
              have A707 := A706.iload (v := (0 : Int32)) (pc' := 235) at_233 rfl rfl
              have A709 := A707.ifYes (pc' := 251) at_235 (teq (ieq (x := (0 : Int32)) (y := (0 : Int32)) rfl rfl (by decide : (0 : Int) = 0))).1 (by decide) (by decide)
              have A710 := A709.iload (v := (0 : Int32)) (pc' := 253) at_251 rfl rfl
              have A712 := A710.ifYes (pc' := 265) at_253 (teq (ieq (x := (0 : Int32)) (y := (0 : Int32)) rfl rfl (by decide : (0 : Int) = 0))).1 (by decide) (by decide)
              have A713 := A712.iconst (z := (0 : Int32)) (pc' := 266) at_265 rfl rfl
              have A714 := A713.istore (Ls' := #[.val (.long t0), .second, .val (.long d1), .second, .val (.long d2), .second, .val (.int fl), .val (.long (100000000 : Int64)), .second, .val (.int (1 : Int32)), .val (.int (0 : Int32)), .val (.ref b386), .val (.long (t0 + d1)), .second, .val (.int (1 : Int32)), .val (.int r640), .val (.int (0 : Int32)), .val (.long (0 : Int64)), .second, .val (.long ((t0 + d1) + d2)), .second, .val (.int (0 : Int32)), .val (.int r695), .val (.int (0 : Int32)), .unset, .unset]) (pc' := 268) at_266 rfl rfl
              have A715 := A714.iload (v := (0 : Int32)) (pc' := 270) at_268 rfl rfl
              have A717 := A715.ifYes (pc' := 300) at_270 (teq (ieq (x := (0 : Int32)) (y := (0 : Int32)) rfl rfl (by decide : (0 : Int) = 0))).1 (by decide) (by decide)
              have A718 := A717.lconst (z := (0 : Int64)) (pc' := 301) at_300 rfl rfl
              have A719 := A718.lstore (Ls' := #[.val (.long t0), .second, .val (.long d1), .second, .val (.long d2), .second, .val (.int fl), .val (.long (100000000 : Int64)), .second, .val (.int (1 : Int32)), .val (.int (0 : Int32)), .val (.ref b386), .val (.long (t0 + d1)), .second, .val (.int (1 : Int32)), .val (.int r640), .val (.int (0 : Int32)), .val (.long (0 : Int64)), .second, .val (.long ((t0 + d1) + d2)), .second, .val (.int (0 : Int32)), .val (.int r695), .val (.int (0 : Int32)), .val (.long (0 : Int64)), .second]) (pc' := 303) at_301 rfl rfl
              have A720 := A719.aload (v := (.ref b386)) (pc' := 305) at_303 rfl rfl rfl
              have A721 := A720.lload (v := ((t0 + d1) + d2)) (pc' := 307) at_305 rfl rfl
              have f724 := (f673.keep K698)
              obtain ⟨r723, _, ⟨rfl, q725⟩, A722⟩ := U.kJ (A721.callV (a := b386) (argsL := [(.long ((t0 + d1) + d2))]) (rest := []) (C' := 12) (S' := 549) (pc' := 310) at_307 f724 (hw _ (List.mem_of_getElem? (i := 17) rfl)) (hw _ (List.mem_of_getElem? (i := 18) rfl)) (fun hZ => notFace_of_selects (args := #[]) (mvT hZ (hw _ (List.mem_of_getElem? (i := 20) rfl)))) (hw _ (List.mem_of_getElem? (i := 20) rfl)) (hw _ (List.mem_of_getElem? (i := 19) rfl)) (hw _ (List.mem_of_getElem? (i := 3) rfl)) (hw _ (List.mem_of_getElem? (i := 21) rfl)) (Ctr.toU (rm4 l Z a0 hw n0 [] (b386) (((t0 + d1) + d2)) (u699) ((t0 + (100000000 : Int64))) h697 A721.size f700 f701 (by first | exact Or.inl rfl | exact Or.inr rfl | (refine own_rs (by assumption) ?_; first | exact Or.inl rfl | exact Or.inr rfl | (refine own_rs (by assumption) ?_; first | exact Or.inl rfl | exact Or.inr rfl)))) (own_ew hw) (fun v h' q => by obtain ⟨_, _, rfl, -⟩ := q; exact ⟨[], Keep.refl _ [], allU0⟩)) rfl rfl pd_26 rfl rfl (by decide) (by decide) (Nat.le_of_ble_eq_true rfl) (by decide) (by decide) rfl rfl rfl)
              have A727 := A722.lload (v := (0 : Int64)) (pc' := 312) at_310 rfl rfl
              have A728 := A727.lcmp (pc' := 313) at_312 rfl
              by_cases c729 : r723.toInt = 0
              · have A730 := A728.ifNo (pc' := 316) at_313 (teq (leq (x := r723) (y := (0 : Int64)) rfl rfl c729)).2 rfl
                have A731 := A730.iconst (z := (1 : Int32)) (pc' := 317) at_316 rfl rfl
                have A732 := A731.goto (pc' := 321) at_317 (by decide) (by decide)
                refine A732.retN (t := .boolean) (z' := (1 : Int32)) at_321 (by decide) (by decide) (by simp) rfl ⟨_, rfl, ⟨trivial, ?_⟩⟩
                have elit : (1 : Int32).toInt = 1 := rfl
                rfl
              · have A733 := A728.ifYes (pc' := 320) at_313 (feq (lne (x := r723) (y := (0 : Int64)) rfl rfl c729)).2 (by decide) (by decide)
                have A734 := A733.iconst (z := (0 : Int32)) (pc' := 321) at_320 rfl rfl
                refine A734.retN (t := .boolean) (z' := (0 : Int32)) at_321 (by decide) (by decide) (by simp) rfl ⟨_, rfl, ⟨trivial, ?_⟩⟩
                have elit : (0 : Int32).toInt = 0 := rfl
                exfalso
                exact own_lf16 c6 c381 c436 q641 c654 q674 c678 q696 c705 q725 c729 i0 i1 i2 i3 i4 i5 z0 z1 z2
            · have A735 := A704.icmpNo (pc' := 231) at_228 (feq (ine (x := r695) (y := (0 : Int32)) rfl rfl c705)).1 rfl
              have A736 := A735.iconst (z := (0 : Int32)) (pc' := 232) at_231 rfl rfl
              refine A736.retN (t := .boolean) (z' := (0 : Int32)) at_232 (by decide) (by decide) (by simp) rfl ⟨_, rfl, ⟨trivial, ?_⟩⟩
              have elit : (0 : Int32).toInt = 0 := rfl
              exfalso
              exact own_lf17 c6 c381 c436 q641 c654 q674 c678 q696 c705 i0 i1 i2 i3 i4 i5 z0 z1 z2
          · have A737 := A677.ifNo (pc' := 148) at_145 (feq (lne (x := r672) (y := (0 : Int64)) rfl rfl c678)).1 rfl
            have A738 := A737.iconst (z := (0 : Int32)) (pc' := 149) at_148 rfl rfl
            refine A738.retN (t := .boolean) (z' := (0 : Int32)) at_149 (by decide) (by decide) (by simp) rfl ⟨_, rfl, ⟨trivial, ?_⟩⟩
            have elit : (0 : Int32).toInt = 0 := rfl
            exfalso
            exact own_lf18 c6 c381 c436 q641 c654 q674 c678 i0 i1 i2 i3 i4 i5 z0 z1 z2
        · have A739 := A653.icmpNo (pc' := 97) at_94 (feq (ine (x := r640) (y := (1 : Int32)) rfl rfl c654)).1 rfl
          have A740 := A739.iconst (z := (0 : Int32)) (pc' := 98) at_97 rfl rfl
          refine A740.retN (t := .boolean) (z' := (0 : Int32)) at_98 (by decide) (by decide) (by simp) rfl ⟨_, rfl, ⟨trivial, ?_⟩⟩
          have elit : (0 : Int32).toInt = 0 := rfl
          exfalso
          exact own_lf19 c6 c381 c436 q641 c654 i0 i1 i2 i3 i4 i5 z0 z1 z2
    · have A741 := A380.ifNo (pc' := 26) at_23 (feq (ine (x := (fl &&& (2 : Int32))) (y := (0 : Int32)) rfl rfl c381)).1 rfl
      have A742 := A741.iconst (z := (1 : Int32)) (pc' := 27) at_26 rfl rfl
      have A743 := A742.goto (pc' := 31) at_27 (by decide) (by decide)
      have A744 := A743.istore (Ls' := #[.val (.long t0), .second, .val (.long d1), .second, .val (.long d2), .second, .val (.int fl), .val (.long (100000000 : Int64)), .second, .val (.int (1 : Int32)), .val (.int (1 : Int32)), .unset, .unset, .unset, .unset, .unset, .unset, .unset, .unset, .unset, .unset, .unset, .unset, .unset, .unset, .unset]) (pc' := 33) at_31 rfl rfl
      obtain ⟨h745, b746, eb747, g748, E749, X750, D751, A752⟩ := A744.newO (C' := 1) (S' := 6) (pc' := 36) at_33 (hw _ (List.mem_of_getElem? (i := 1) rfl)) (hw _ (List.mem_of_getElem? (i := 2) rfl)) (hw _ (List.mem_of_getElem? (i := 3) rfl)) (by decide) (by decide) rfl rfl rfl
      have f753 : Fld Z h745 b746 "com/example/steady_quorum/steadyquorum/server/AcceptFailures" "resting" "Z" (.int (0 : Int32)) := D751 (Or.inl (hw _ (List.mem_of_getElem? (i := 16) rfl))) (ty := .boolean) (by decide)
      have f754 : Fld Z h745 b746 "com/example/steady_quorum/steadyquorum/server/AcceptFailures" "restEndsAt" "J" (.long (0 : Int64)) := D751 (Or.inl (hw _ (List.mem_of_getElem? (i := 30) rfl))) (ty := .long) (by decide)
      have f755 : Fld Z h745 b746 "com/example/steady_quorum/steadyquorum/server/AcceptFailures" "warned" "Z" (.int (0 : Int32)) := D751 (Or.inl (hw _ (List.mem_of_getElem? (i := 32) rfl))) (ty := .boolean) (by decide)
      have f756 : Fld Z h745 b746 "com/example/steady_quorum/steadyquorum/server/AcceptFailures" "unwarned" "J" (.long (0 : Int64)) := D751 (Or.inl (hw _ (List.mem_of_getElem? (i := 184) rfl))) (ty := .long) (by decide)
      have f757 : Fld Z h745 b746 "com/example/steady_quorum/steadyquorum/server/AcceptFailures" "warnedAt" "J" (.long (0 : Int64)) := D751 (Or.inl (hw _ (List.mem_of_getElem? (i := 186) rfl))) (ty := .long) (by decide)
      have f758 : Fld Z h745 b746 "com/example/steady_quorum/steadyquorum/server/AcceptFailures" "endUntold" "Z" (.int (0 : Int32)) := D751 (Or.inl (hw _ (List.mem_of_getElem? (i := 188) rfl))) (ty := .boolean) (by decide)
      have A759 := A752.dup (pc' := 37) at_36 rfl rfl
      obtain ⟨_, ⟨rfl, q762⟩, A760⟩ := U.kV (A759.callI (a := b746) (argsL := []) (rest := [(.ref b746)]) (C' := 1) (S' := 6) (pc' := 40) at_37 rfl (hw _ (List.mem_of_getElem? (i := 4) rfl)) (hw _ (List.mem_of_getElem? (i := 5) rfl)) (hw _ (List.mem_of_getElem? (i := 3) rfl)) (hw _ (List.mem_of_getElem? (i := 6) rfl)) (Ctr.toU (rm1 l Z a0 hw n0 [] (b746)  h745 A759.size ) (own_ew hw) (fun v h' q => by obtain ⟨_, rfl, -⟩ := q; exact ⟨[], Keep.refl _ [], allU0⟩)) rfl rfl pd_20 rfl rfl (by decide) (by decide) (Nat.le_of_ble_eq_true rfl) (by decide) (by decide) rfl rfl rfl)
      have A764 := A760.astore (Ls' := #[.val (.long t0), .second, .val (.long d1), .second, .val (.long d2), .second, .val (.int fl), .val (.long (100000000 : Int64)), .second, .val (.int (1 : Int32)), .val (.int (1 : Int32)), .val (.ref b746), .unset, .unset, .unset, .unset, .unset, .unset, .unset, .unset, .unset, .unset, .unset, .unset, .unset, .unset]) (pc' := 42) at_40 rfl rfl rfl
      have A765 := A764.iload (v := (1 : Int32)) (pc' := 44) at_42 rfl rfl
      have A767 := A765.ifNo (pc' := 47) at_44 (feq (ine (x := (1 : Int32)) (y := (0 : Int32)) rfl rfl (by decide : ¬ ((1 : Int) = 0)))).1 rfl
      have A768 := A767.aload (v := (.ref b746)) (pc' := 49) at_47 rfl rfl rfl
      have A769 := A768.aconstNull (pc' := 50) at_49 rfl
      have A770 := A769.lloadN (v := t0) (pc' := 51) at_50 rfl rfl
      have f771 := (e0.ext E749)
      obtain ⟨r773, h775, ⟨K776, f777, f778, f779, f780, f781, f782, q774⟩, A772⟩ := U.kA (A770.callV (a := b746) (argsL := [.null, (.long t0)]) (rest := []) (C' := 12) (S' := 549) (pc' := 54) at_51 X750 (hw _ (List.mem_of_getElem? (i := 22) rfl)) (hw _ (List.mem_of_getElem? (i := 23) rfl)) (fun hZ => notFace_of_selects (args := #[]) (mvT hZ (hw _ (List.mem_of_getElem? (i := 25) rfl)))) (hw _ (List.mem_of_getElem? (i := 25) rfl)) (hw _ (List.mem_of_getElem? (i := 24) rfl)) (hw _ (List.mem_of_getElem? (i := 3) rfl)) (hw _ (List.mem_of_getElem? (i := 26) rfl)) (rm5_1 l Z a0 hw n0 [] (b746) (t0) ((0 : Int32)) ((0 : Int64)) ((0 : Int64)) ((0 : Int32)) (_) (_) h745 A770.size X750 g748 f753 f754 f755 f756 f757 f758 f771 e1 (by assumption) e3 e4 e5) rfl rfl pd_27 rfl rfl (by decide) (by decide) (Nat.le_of_ble_eq_true rfl) (by decide) (by decide) rfl rfl rfl)
      have A783 := A772.pop (pc' := 55) at_54 rfl rfl
      have A784 := A783.lloadN (v := t0) (pc' := 56) at_55 rfl rfl
      have A785 := A784.lloadN (v := d1) (pc' := 57) at_56 rfl rfl
      have A786 := A785.ladd (pc' := 58) at_57 rfl
      have A787 := A786.lstore (Ls' := #[.val (.long t0), .second, .val (.long d1), .second, .val (.long d2), .second, .val (.int fl), .val (.long (100000000 : Int64)), .second, .val (.int (1 : Int32)), .val (.int (1 : Int32)), .val (.ref b746), .val (.long (t0 + d1)), .second, .unset, .unset, .unset, .unset, .unset, .unset, .unset, .unset, .unset, .unset, .unset, .unset]) (pc' := 60) at_58 rfl rfl
      have A788 := A787.iload (v := (1 : Int32)) (pc' := 62) at_60 rfl rfl
      have A790 := A788.ifNo (pc' := 65) at_62 (feq (ine (x := (1 : Int32)) (y := (0 : Int32)) rfl rfl (by decide : ¬ ((1 : Int) = 0)))).1 rfl
      have A791 := A790.lloadN (v := d1) (pc' := 66) at_65 rfl rfl
      have A792 := A791.lload (v := (100000000 : Int64)) (pc' := 68) at_66 rfl rfl
      have A793 := A792.lsub (pc' := 69) at_68 rfl
      have A794 := A793.lconst (z := (0 : Int64)) (pc' := 70) at_69 rfl rfl
      have A795 := A794.lcmp (pc' := 71) at_70 rfl
      by_cases c796 : (d1 - (100000000 : Int64)).toInt < 0
      · have A797 := A795.ifYes (pc' := 78) at_71 (tlt (llt (x := (d1 - (100000000 : Int64))) (y := (0 : Int64)) rfl rfl c796)).1 (by decide) (by decide)
        have A798 := A797.iconst (z := (0 : Int32)) (pc' := 79) at_78 rfl rfl
        have A799 := A798.istore (Ls' := #[.val (.long t0), .second, .val (.long d1), .second, .val (.long d2), .second, .val (.int fl), .val (.long (100000000 : Int64)), .second, .val (.int (1 : Int32)), .val (.int (1 : Int32)), .val (.ref b746), .val (.long (t0 + d1)), .second, .val (.int (0 : Int32)), .unset, .unset, .unset, .unset, .unset, .unset, .unset, .unset, .unset, .unset, .unset]) (pc' := 81) at_79 rfl rfl
        have A800 := A799.aload (v := (.ref b746)) (pc' := 83) at_81 rfl rfl rfl
        have A801 := A800.lload (v := (t0 + d1)) (pc' := 85) at_83 rfl rfl
        have f802 := (X750.keep K776)
        obtain ⟨r804, h806, ⟨u808, K807, f809, f810, f811, f812, f813, f814, q805⟩, A803⟩ := U.kI (A801.callV (a := b746) (argsL := [(.long (t0 + d1))]) (rest := []) (C' := 12) (S' := 549) (pc' := 88) at_85 f802 (hw _ (List.mem_of_getElem? (i := 10) rfl)) (hw _ (List.mem_of_getElem? (i := 11) rfl)) (fun hZ => notFace_of_selects (args := #[]) (mvT hZ (hw _ (List.mem_of_getElem? (i := 13) rfl)))) (hw _ (List.mem_of_getElem? (i := 13) rfl)) (hw _ (List.mem_of_getElem? (i := 12) rfl)) (hw _ (List.mem_of_getElem? (i := 3) rfl)) (hw _ (List.mem_of_getElem? (i := 14) rfl)) (Ctr.toU (rm3 l Z a0 hw n0 [] (b746) ((t0 + d1)) ((1 : Int32)) ((t0 + (100000000 : Int64))) ((1 : Int32)) ((0 : Int64)) (t0) ((1 : Int32)) h775 A801.size f802 g748 f777 f778 (by first | exact Or.inl rfl | exact Or.inr rfl | (refine own_rs (by assumption) ?_; first | exact Or.inl rfl | exact Or.inr rfl | (refine own_rs (by assumption) ?_; first | exact Or.inl rfl | exact Or.inr rfl))) f779 f781 f780 f782) (own_ew hw) (fun v h' q => by obtain ⟨_, _, _, K, -⟩ := q; exact ⟨_, K, (allUS f802 (by decide) (by decide) allU0)⟩)) rfl rfl pd_25 rfl rfl (by decide) (by decide) (Nat.le_of_ble_eq_true rfl) (by decide) (by decide) rfl rfl rfl)
        have A815 := A803.istore (Ls' := #[.val (.long t0), .second, .val (.long d1), .second, .val (.long d2), .second, .val (.int fl), .val (.long (100000000 : Int64)), .second, .val (.int (1 : Int32)), .val (.int (1 : Int32)), .val (.ref b746), .val (.long (t0 + d1)), .second, .val (.int (0 : Int32)), .val (.int r804), .unset, .unset, .unset, .unset, .unset, .unset, .unset, .unset, .unset, .unset]) (pc' := 90) at_88 rfl rfl
        have A816 := A815.iload (v := r804) (pc' := 92) at_90 rfl rfl
        have A817 := A816.iload (v := (0 : Int32)) (pc' := 94) at_92 rfl rfl
        by_cases c818 : r804.toInt = 0
        · have A819 := A817.icmpYes (pc' := 99) at_94 (teq (ieq (x := r804) (y := (0 : Int32)) rfl rfl c818)).1 (by decide) (by decide)
          have A820 := A819.iload (v := (1 : Int32)) (pc' := 101) at_99 rfl rfl
          have A822 := A820.ifNo (pc' := 104) at_101 (feq (ine (x := (1 : Int32)) (y := (0 : Int32)) rfl rfl (by decide : ¬ ((1 : Int) = 0)))).1 rfl
          have A823 := A822.iload (v := (0 : Int32)) (pc' := 106) at_104 rfl rfl
          have A825 := A823.ifNo (pc' := 109) at_106 (teq (ieq (x := (0 : Int32)) (y := (0 : Int32)) rfl rfl (by decide : (0 : Int) = 0))).2 rfl
          have A826 := A825.iconst (z := (1 : Int32)) (pc' := 110) at_109 rfl rfl
          have A827 := A826.goto (pc' := 114) at_110 (by decide) (by decide)
          have A828 := A827.istore (Ls' := #[.val (.long t0), .second, .val (.long d1), .second, .val (.long d2), .second, .val (.int fl), .val (.long (100000000 : Int64)), .second, .val (.int (1 : Int32)), .val (.int (1 : Int32)), .val (.ref b746), .val (.long (t0 + d1)), .second, .val (.int (0 : Int32)), .val (.int r804), .val (.int (1 : Int32)), .unset, .unset, .unset, .unset, .unset, .unset, .unset, .unset, .unset]) (pc' := 116) at_114 rfl rfl
          have A829 := A828.iload (v := (1 : Int32)) (pc' := 118) at_116 rfl rfl
          have A831 := A829.ifNo (pc' := 121) at_118 (feq (ine (x := (1 : Int32)) (y := (0 : Int32)) rfl rfl (by decide : ¬ ((1 : Int) = 0)))).1 rfl
          have A832 := A831.lconst (z := (0 : Int64)) (pc' := 122) at_121 rfl rfl
          have A833 := A832.lload (v := (100000000 : Int64)) (pc' := 124) at_122 rfl rfl
          have A834 := A833.lloadN (v := d1) (pc' := 125) at_124 rfl rfl
          have A835 := A834.lsub (pc' := 126) at_125 rfl
          obtain ⟨r837, _, ⟨rfl, q838⟩, A836⟩ := U.kJ (A835.callS (argsL := [(.long (0 : Int64)), (.long ((100000000 : Int64) - d1))]) (rest := []) (C' := 12) (S' := 549) (pc' := 129) at_126 (hw _ (List.mem_of_getElem? (i := 202) rfl)) (hw _ (List.mem_of_getElem? (i := 203) rfl)) (hw _ (List.mem_of_getElem? (i := 100) rfl)) (hw _ (List.mem_of_getElem? (i := 204) rfl)) (Ctr.toU (rm35 l Z a0 hw n0 [] ((0 : Int64)) (((100000000 : Int64) - d1))  h806 A835.size ) (own_ew hw) (fun v h' q => by obtain ⟨_, _, rfl, -⟩ := q; exact ⟨[], Keep.refl _ [], allU0⟩)) rfl rfl pd_24 rfl rfl (by decide) (by decide) (Nat.le_of_ble_eq_true rfl) (by decide) (by decide) rfl rfl rfl)
          have A840 := A836.goto (pc' := 133) at_129 (by decide) (by decide)
          have A841 := A840.lstore (Ls' := #[.val (.long t0), .second, .val (.long d1), .second, .val (.long d2), .second, .val (.int fl), .val (.long (100000000 : Int64)), .second, .val (.int (1 : Int32)), .val (.int (1 : Int32)), .val (.ref b746), .val (.long (t0 + d1)), .second, .val (.int (0 : Int32)), .val (.int r804), .val (.int (1 : Int32)), .val (.long r837), .second, .unset, .unset, .unset, .unset, .unset, .unset, .unset]) (pc' := 135) at_133 rfl rfl
          have A842 := A841.aload (v := (.ref b746)) (pc' := 137) at_135 rfl rfl rfl
          have A843 := A842.lload (v := (t0 + d1)) (pc' := 139) at_137 rfl rfl
          have f846 := (f802.keep K807)
          obtain ⟨r845, _, ⟨rfl, q847⟩, A844⟩ := U.kJ (A843.callV (a := b746) (argsL := [(.long (t0 + d1))]) (rest := []) (C' := 12) (S' := 549) (pc' := 142) at_139 f846 (hw _ (List.mem_of_getElem? (i := 17) rfl)) (hw _ (List.mem_of_getElem? (i := 18) rfl)) (fun hZ => notFace_of_selects (args := #[]) (mvT hZ (hw _ (List.mem_of_getElem? (i := 20) rfl)))) (hw _ (List.mem_of_getElem? (i := 20) rfl)) (hw _ (List.mem_of_getElem? (i := 19) rfl)) (hw _ (List.mem_of_getElem? (i := 3) rfl)) (hw _ (List.mem_of_getElem? (i := 21) rfl)) (Ctr.toU (rm4 l Z a0 hw n0 [] (b746) ((t0 + d1)) (u808) ((t0 + (100000000 : Int64))) h806 A843.size f809 f810 (by first | exact Or.inl rfl | exact Or.inr rfl | (refine own_rs (by assumption) ?_; first | exact Or.inl rfl | exact Or.inr rfl | (refine own_rs (by assumption) ?_; first | exact Or.inl rfl | exact Or.inr rfl)))) (own_ew hw) (fun v h' q => by obtain ⟨_, _, rfl, -⟩ := q; exact ⟨[], Keep.refl _ [], allU0⟩)) rfl rfl pd_26 rfl rfl (by decide) (by decide) (Nat.le_of_ble_eq_true rfl) (by decide) (by decide) rfl rfl rfl)
          have A849 := A844.lload (v := r837) (pc' := 144) at_142 rfl rfl
          have A850 := A849.lcmp (pc' := 145) at_144 rfl
          by_cases c851 : r845.toInt = r837.toInt
          · have A852 := A850.ifYes (pc' := 150) at_145 (teq (leq (x := r845) (y := r837) rfl rfl c851)).1 (by decide) (by decide)
            have A853 := A852.lload (v := (t0 + d1)) (pc' := 152) at_150 rfl rfl
            have A854 := A853.lload (v := d2) (pc' := 154) at_152 rfl rfl
            have A855 := A854.ladd (pc' := 155) at_154 rfl
            have A856 := A855.lstore (Ls' := #[.val (.long t0), .second, .val (.long d1), .second, .val (.long d2), .second, .val (.int fl), .val (.long (100000000 : Int64)), .second, .val (.int (1 : Int32)), .val (.int (1 : Int32)), .val (.ref b746), .val (.long (t0 + d1)), .second, .val (.int (0 : Int32)), .val (.int r804), .val (.int (1 : Int32)), .val (.long r837), .second, .val (.long ((t0 + d1) + d2)), .second, .unset, .unset, .unset, .unset, .unset]) (pc' := 157) at_155 rfl rfl
            have A857 := A856.iload (v := (1 : Int32)) (pc' := 159) at_157 rfl rfl
            have A859 := A857.ifNo (pc' := 162) at_159 (feq (ine (x := (1 : Int32)) (y := (0 : Int32)) rfl rfl (by decide : ¬ ((1 : Int) = 0)))).1 rfl
            have A860 := A859.aload (v := (.ref b746)) (pc' := 164) at_162 rfl rfl rfl
            have A861 := A860.aconstNull (pc' := 165) at_164 rfl
            have A862 := A861.lload (v := (t0 + d1)) (pc' := 167) at_165 rfl rfl
            have f863 := ((f771.keep K776 (allS g748 all0)).keep K807 (allS g748 all0))
            obtain ⟨r865, h867, ⟨K868, f869, f870, q866⟩, A864⟩ := U.kA (A862.callV (a := b746) (argsL := [.null, (.long (t0 + d1))]) (rest := []) (C' := 23) (S' := 1092) (pc' := 170) at_167 f846 (hw _ (List.mem_of_getElem? (i := 22) rfl)) (hw _ (List.mem_of_getElem? (i := 23) rfl)) (fun hZ => notFace_of_selects (args := #[]) (mvT hZ (hw _ (List.mem_of_getElem? (i := 25) rfl)))) (hw _ (List.mem_of_getElem? (i := 25) rfl)) (hw _ (List.mem_of_getElem? (i := 24) rfl)) (hw _ (List.mem_of_getElem? (i := 3) rfl)) (hw _ (List.mem_of_getElem? (i := 26) rfl)) (rm5_2 l Z a0 hw n0 [] (b746) ((t0 + d1)) (u808) ((t0 + (100000000 : Int64))) (t0) ((1 : Int32)) (_) (_) h806 A862.size f846 g748 f809 f810 f811 f812 f813 f814 f863 e1 (by assumption) e3 e4 e5) rfl rfl pd_27 rfl rfl (by decide) (by decide) (Nat.le_of_ble_eq_true rfl) (by decide) (by decide) rfl rfl rfl)
            have A871 := A864.pop (pc' := 171) at_170 rfl rfl
            have A872 := A871.lload (v := d2) (pc' := 173) at_171 rfl rfl
            have A873 := A872.lload (v := (100000000 : Int64)) (pc' := 175) at_173 rfl rfl
            have A874 := A873.lsub (pc' := 176) at_175 rfl
            have A875 := A874.lconst (z := (0 : Int64)) (pc' := 177) at_176 rfl rfl
            have A876 := A875.lcmp (pc' := 178) at_177 rfl
            by_cases c877 : (d2 - (100000000 : Int64)).toInt < 0
            · have A878 := A876.ifYes (pc' := 185) at_178 (tlt (llt (x := (d2 - (100000000 : Int64))) (y := (0 : Int64)) rfl rfl c877)).1 (by decide) (by decide)
              have A879 := A878.iconst (z := (0 : Int32)) (pc' := 186) at_185 rfl rfl
              have A880 := A879.istore (Ls' := #[.val (.long t0), .second, .val (.long d1), .second, .val (.long d2), .second, .val (.int fl), .val (.long (100000000 : Int64)), .second, .val (.int (1 : Int32)), .val (.int (1 : Int32)), .val (.ref b746), .val (.long (t0 + d1)), .second, .val (.int (0 : Int32)), .val (.int r804), .val (.int (1 : Int32)), .val (.long r837), .second, .val (.long ((t0 + d1) + d2)), .second, .val (.int (0 : Int32)), .unset, .unset, .unset, .unset]) (pc' := 188) at_186 rfl rfl
              have A881 := A880.goto (pc' := 215) at_188 (by decide) (by decide)
              have A882 := A881.aload (v := (.ref b746)) (pc' := 217) at_215 rfl rfl rfl
              have A883 := A882.lload (v := ((t0 + d1) + d2)) (pc' := 219) at_217 rfl rfl
              have f884 := (f846.keep K868)
              obtain ⟨r886, h888, ⟨u890, K889, f891, f892, q887⟩, A885⟩ := U.kI (A883.callV (a := b746) (argsL := [(.long ((t0 + d1) + d2))]) (rest := []) (C' := 23) (S' := 1092) (pc' := 222) at_219 f884 (hw _ (List.mem_of_getElem? (i := 10) rfl)) (hw _ (List.mem_of_getElem? (i := 11) rfl)) (fun hZ => notFace_of_selects (args := #[]) (mvT hZ (hw _ (List.mem_of_getElem? (i := 13) rfl)))) (hw _ (List.mem_of_getElem? (i := 13) rfl)) (hw _ (List.mem_of_getElem? (i := 12) rfl)) (hw _ (List.mem_of_getElem? (i := 3) rfl)) (hw _ (List.mem_of_getElem? (i := 14) rfl)) (Ctr.toU (rm3_b l Z a0 hw n0 [] (b746) (((t0 + d1) + d2)) ((1 : Int32)) (((t0 + d1) + (100000000 : Int64))) h867 A883.size f884 g748 f869 f870 (by first | exact Or.inl rfl | exact Or.inr rfl | (refine own_rs (by assumption) ?_; first | exact Or.inl rfl | exact Or.inr rfl | (refine own_rs (by assumption) ?_; first | exact Or.inl rfl | exact Or.inr rfl)))) (own_ew hw) (fun v h' q => by obtain ⟨_, _, _, K, -⟩ := q; exact ⟨_, K, (allUS f884 (by decide) (by decide) allU0)⟩)) rfl rfl pd_25 rfl rfl (by decide) (by decide) (Nat.le_of_ble_eq_true rfl) (by decide) (by decide) rfl rfl rfl)
              have A893 := A885.istore (Ls' := #[.val (.long t0), .second, .val (.long d1), .second, .val (.long d2), .second, .val (.int fl), .val (.long (100000000 : Int64)), .second, .val (.int (1 : Int32)), .val (.int (1 : Int32)), .val (.ref b746), .val (.long (t0 + d1)), .second, .val (.int (0 : Int32)), .val (.int r804), .val (.int (1 : Int32)), .val (.long r837), .second, .val (.long ((t0 + d1) + d2)), .second, .val (.int (0 : Int32)), .val (.int r886), .unset, .unset, .unset]) (pc' := 224) at_222 rfl rfl
              have A894 := A893.iload (v := r886) (pc' := 226) at_224 rfl rfl
              have A895 := A894.iload (v := (0 : Int32)) (pc' := 228) at_226 rfl rfl
              by_cases c896 : r886.toInt = 0
              · have A897 := A895.icmpYes (pc' := 233) at_228 (teq (ieq (x := r886) (y := (0 : Int32)) rfl rfl c896)).1 (by decide) (by decide)
                have A898 := A897.iload (v := (1 : Int32)) (pc' := 235) at_233 rfl rfl
                have A900 := A898.ifNo (pc' := 238) at_235 (feq (ine (x := (1 : Int32)) (y := (0 : Int32)) rfl rfl (by decide : ¬ ((1 : Int) = 0)))).1 rfl
                have A901 := A900.iload (v := (0 : Int32)) (pc' := 240) at_238 rfl rfl
                have A903 := A901.ifNo (pc' := 243) at_240 (teq (ieq (x := (0 : Int32)) (y := (0 : Int32)) rfl rfl (by decide : (0 : Int) = 0))).2 rfl
                have A904 := A903.iconst (z := (1 : Int32)) (pc' := 244) at_243 rfl rfl
                have A905 := A904.goto (pc' := 266) at_244 (by decide) (by decide)
                have A906 := A905.istore (Ls' := #[.val (.long t0), .second, .val (.long d1), .second, .val (.long d2), .second, .val (.int fl), .val (.long (100000000 : Int64)), .second, .val (.int (1 : Int32)), .val (.int (1 : Int32)), .val (.ref b746), .val (.long (t0 + d1)), .second, .val (.int (0 : Int32)), .val (.int r804), .val (.int (1 : Int32)), .val (.long r837), .second, .val (.long ((t0 + d1) + d2)), .second, .val (.int (0 : Int32)), .val (.int r886), .val (.int (1 : Int32)), .unset, .unset]) (pc' := 268) at_266 rfl rfl
                have A907 := A906.iload (v := (1 : Int32)) (pc' := 270) at_268 rfl rfl
                have A909 := A907.ifNo (pc' := 273) at_270 (feq (ine (x := (1 : Int32)) (y := (0 : Int32)) rfl rfl (by decide : ¬ ((1 : Int) = 0)))).1 rfl
                have A910 := A909.lconst (z := (0 : Int64)) (pc' := 274) at_273 rfl rfl
                have A911 := A910.iload (v := (1 : Int32)) (pc' := 276) at_274 rfl rfl
                have A913 := A911.ifNo (pc' := 279) at_276 (feq (ine (x := (1 : Int32)) (y := (0 : Int32)) rfl rfl (by decide : ¬ ((1 : Int) = 0)))).1 rfl
                have A914 := A913.lload (v := (100000000 : Int64)) (pc' := 281) at_279 rfl rfl
                have A915 := A914.lload (v := d2) (pc' := 283) at_281 rfl rfl
                have A916 := A915.lsub (pc' := 284) at_283 rfl
                have A917 := A916.goto (pc' := 294) at_284 (by decide) (by decide)
                obtain ⟨r919, _, ⟨rfl, q920⟩, A918⟩ := U.kJ (A917.callS (argsL := [(.long (0 : Int64)), (.long ((100000000 : Int64) - d2))]) (rest := []) (C' := 23) (S' := 1092) (pc' := 297) at_294 (hw _ (List.mem_of_getElem? (i := 202) rfl)) (hw _ (List.mem_of_getElem? (i := 203) rfl)) (hw _ (List.mem_of_getElem? (i := 100) rfl)) (hw _ (List.mem_of_getElem? (i := 204) rfl)) (Ctr.toU (rm35 l Z a0 hw n0 [] ((0 : Int64)) (((100000000 : Int64) - d2))  h888 A917.size ) (own_ew hw) (fun v h' q => by obtain ⟨_, _, rfl, -⟩ := q; exact ⟨[], Keep.refl _ [], allU0⟩)) rfl rfl pd_24 rfl rfl (by decide) (by decide) (Nat.le_of_ble_eq_true rfl) (by decide) (by decide) rfl rfl rfl)
                have A922 := A918.goto (pc' := 301) at_297 (by decide) (by decide)
                have A923 := A922.lstore (Ls' := #[.val (.long t0), .second, .val (.long d1), .second, .val (.long d2), .second, .val (.int fl), .val (.long (100000000 : Int64)), .second, .val (.int (1 : Int32)), .val (.int (1 : Int32)), .val (.ref b746), .val (.long (t0 + d1)), .second, .val (.int (0 : Int32)), .val (.int r804), .val (.int (1 : Int32)), .val (.long r837), .second, .val (.long ((t0 + d1) + d2)), .second, .val (.int (0 : Int32)), .val (.int r886), .val (.int (1 : Int32)), .val (.long r919), .second]) (pc' := 303) at_301 rfl rfl
                have A924 := A923.aload (v := (.ref b746)) (pc' := 305) at_303 rfl rfl rfl
                have A925 := A924.lload (v := ((t0 + d1) + d2)) (pc' := 307) at_305 rfl rfl
                have f928 := (f884.keep K889)
                obtain ⟨r927, _, ⟨rfl, q929⟩, A926⟩ := U.kJ (A925.callV (a := b746) (argsL := [(.long ((t0 + d1) + d2))]) (rest := []) (C' := 23) (S' := 1092) (pc' := 310) at_307 f928 (hw _ (List.mem_of_getElem? (i := 17) rfl)) (hw _ (List.mem_of_getElem? (i := 18) rfl)) (fun hZ => notFace_of_selects (args := #[]) (mvT hZ (hw _ (List.mem_of_getElem? (i := 20) rfl)))) (hw _ (List.mem_of_getElem? (i := 20) rfl)) (hw _ (List.mem_of_getElem? (i := 19) rfl)) (hw _ (List.mem_of_getElem? (i := 3) rfl)) (hw _ (List.mem_of_getElem? (i := 21) rfl)) (Ctr.toU (rm4 l Z a0 hw n0 [] (b746) (((t0 + d1) + d2)) (u890) (((t0 + d1) + (100000000 : Int64))) h888 A925.size f891 f892 (by first | exact Or.inl rfl | exact Or.inr rfl | (refine own_rs (by assumption) ?_; first | exact Or.inl rfl | exact Or.inr rfl | (refine own_rs (by assumption) ?_; first | exact Or.inl rfl | exact Or.inr rfl)))) (own_ew hw) (fun v h' q => by obtain ⟨_, _, rfl, -⟩ := q; exact ⟨[], Keep.refl _ [], allU0⟩)) rfl rfl pd_26 rfl rfl (by decide) (by decide) (Nat.le_of_ble_eq_true rfl) (by decide) (by decide) rfl rfl rfl)
                have A931 := A926.lload (v := r919) (pc' := 312) at_310 rfl rfl
                have A932 := A931.lcmp (pc' := 313) at_312 rfl
                by_cases c933 : r927.toInt = r919.toInt
                · have A934 := A932.ifNo (pc' := 316) at_313 (teq (leq (x := r927) (y := r919) rfl rfl c933)).2 rfl
                  have A935 := A934.iconst (z := (1 : Int32)) (pc' := 317) at_316 rfl rfl
                  have A936 := A935.goto (pc' := 321) at_317 (by decide) (by decide)
                  refine A936.retN (t := .boolean) (z' := (1 : Int32)) at_321 (by decide) (by decide) (by simp) rfl ⟨_, rfl, ⟨trivial, ?_⟩⟩
                  have elit : (1 : Int32).toInt = 1 := rfl
                  rfl
                · have A937 := A932.ifYes (pc' := 320) at_313 (feq (lne (x := r927) (y := r919) rfl rfl c933)).2 (by decide) (by decide)
                  have A938 := A937.iconst (z := (0 : Int32)) (pc' := 321) at_320 rfl rfl
                  refine A938.retN (t := .boolean) (z' := (0 : Int32)) at_321 (by decide) (by decide) (by simp) rfl ⟨_, rfl, ⟨trivial, ?_⟩⟩
                  have elit : (0 : Int32).toInt = 0 := rfl
                  exfalso
                  exact own_lf20 c6 c381 c796 q805 c818 q838 q847 c851 c877 q887 c896 q920 q929 c933 i0 i1 i2 i3 i4 i5 z0 z1 z2
              · have A939 := A895.icmpNo (pc' := 231) at_228 (feq (ine (x := r886) (y := (0 : Int32)) rfl rfl c896)).1 rfl
                have A940 := A939.iconst (z := (0 : Int32)) (pc' := 232) at_231 rfl rfl
                refine A940.retN (t := .boolean) (z' := (0 : Int32)) at_232 (by decide) (by decide) (by simp) rfl ⟨_, rfl, ⟨trivial, ?_⟩⟩
                have elit : (0 : Int32).toInt = 0 := rfl
                exfalso
                exact own_lf21 c6 c381 c796 q805 c818 q838 q847 c851 c877 q887 c896 i0 i1 i2 i3 i4 i5 z0 z1 z2
            · have A941 := A876.ifNo (pc' := 181) at_178 (flt (lnlt (x := (d2 - (100000000 : Int64))) (y := (0 : Int64)) rfl rfl c877)).1 rfl
              have A942 := A941.iconst (z := (1 : Int32)) (pc' := 182) at_181 rfl rfl
              have A943 := A942.goto (pc' := 186) at_182 (by decide) (by decide)
              have A944 := A943.istore (Ls' := #[.val (.long t0), .second, .val (.long d1), .second, .val (.long d2), .second, .val (.int fl), .val (.long (100000000 : Int64)), .second, .val (.int (1 : Int32)), .val (.int (1 : Int32)), .val (.ref b746), .val (.long (t0 + d1)), .second, .val (.int (0 : Int32)), .val (.int r804), .val (.int (1 : Int32)), .val (.long r837), .second, .val (.long ((t0 + d1) + d2)), .second, .val (.int (1 : Int32)), .unset, .unset, .unset, .unset]) (pc' := 188) at_186 rfl rfl
              have A945 := A944.goto (pc' := 215) at_188 (by decide) (by decide)
              have A946 := A945.aload (v := (.ref b746)) (pc' := 217) at_215 rfl rfl rfl
              have A947 := A946.lload (v := ((t0 + d1) + d2)) (pc' := 219) at_217 rfl rfl
              have f948 := (f846.keep K868)
              obtain ⟨r950, h952, ⟨u954, K953, f955, f956, q951⟩, A949⟩ := U.kI (A947.callV (a := b746) (argsL := [(.long ((t0 + d1) + d2))]) (rest := []) (C' := 23) (S' := 1092) (pc' := 222) at_219 f948 (hw _ (List.mem_of_getElem? (i := 10) rfl)) (hw _ (List.mem_of_getElem? (i := 11) rfl)) (fun hZ => notFace_of_selects (args := #[]) (mvT hZ (hw _ (List.mem_of_getElem? (i := 13) rfl)))) (hw _ (List.mem_of_getElem? (i := 13) rfl)) (hw _ (List.mem_of_getElem? (i := 12) rfl)) (hw _ (List.mem_of_getElem? (i := 3) rfl)) (hw _ (List.mem_of_getElem? (i := 14) rfl)) (Ctr.toU (rm3_b l Z a0 hw n0 [] (b746) (((t0 + d1) + d2)) ((1 : Int32)) (((t0 + d1) + (100000000 : Int64))) h867 A947.size f948 g748 f869 f870 (by first | exact Or.inl rfl | exact Or.inr rfl | (refine own_rs (by assumption) ?_; first | exact Or.inl rfl | exact Or.inr rfl | (refine own_rs (by assumption) ?_; first | exact Or.inl rfl | exact Or.inr rfl)))) (own_ew hw) (fun v h' q => by obtain ⟨_, _, _, K, -⟩ := q; exact ⟨_, K, (allUS f948 (by decide) (by decide) allU0)⟩)) rfl rfl pd_25 rfl rfl (by decide) (by decide) (Nat.le_of_ble_eq_true rfl) (by decide) (by decide) rfl rfl rfl)
              have A957 := A949.istore (Ls' := #[.val (.long t0), .second, .val (.long d1), .second, .val (.long d2), .second, .val (.int fl), .val (.long (100000000 : Int64)), .second, .val (.int (1 : Int32)), .val (.int (1 : Int32)), .val (.ref b746), .val (.long (t0 + d1)), .second, .val (.int (0 : Int32)), .val (.int r804), .val (.int (1 : Int32)), .val (.long r837), .second, .val (.long ((t0 + d1) + d2)), .second, .val (.int (1 : Int32)), .val (.int r950), .unset, .unset, .unset]) (pc' := 224) at_222 rfl rfl
              have A958 := A957.iload (v := r950) (pc' := 226) at_224 rfl rfl
              have A959 := A958.iload (v := (1 : Int32)) (pc' := 228) at_226 rfl rfl
              by_cases c960 : r950.toInt = 1
              · have A961 := A959.icmpYes (pc' := 233) at_228 (teq (ieq (x := r950) (y := (1 : Int32)) rfl rfl c960)).1 (by decide) (by decide)
                have A962 := A961.iload (v := (1 : Int32)) (pc' := 235) at_233 rfl rfl
                have A964 := A962.ifNo (pc' := 238) at_235 (feq (ine (x := (1 : Int32)) (y := (0 : Int32)) rfl rfl (by decide : ¬ ((1 : Int) = 0)))).1 rfl
                have A965 := A964.iload (v := (1 : Int32)) (pc' := 240) at_238 rfl rfl
                have A967 := A965.ifYes (pc' := 247) at_240 (feq (ine (x := (1 : Int32)) (y := (0 : Int32)) rfl rfl (by decide : ¬ ((1 : Int) = 0)))).2 (by decide) (by decide)
                have A968 := A967.iconst (z := (0 : Int32)) (pc' := 248) at_247 rfl rfl
                have A969 := A968.goto (pc' := 266) at_248 (by decide) (by decide)
                have A970 := A969.istore (Ls' := #[.val (.long t0), .second, .val (.long d1), .second, .val (.long d2), .second, .val (.int fl), .val (.long (100000000 : Int64)), .second, .val (.int (1 : Int32)), .val (.int (1 : Int32)), .val (.ref b746), .val (.long (t0 + d1)), .second, .val (.int (0 : Int32)), .val (.int r804), .val (.int (1 : Int32)), .val (.long r837), .second, .val (.long ((t0 + d1) + d2)), .second, .val (.int (1 : Int32)), .val (.int r950), .val (.int (0 : Int32)), .unset, .unset]) (pc' := 268) at_266 rfl rfl
                have A971 := A970.iload (v := (0 : Int32)) (pc' := 270) at_268 rfl rfl
                have A973 := A971.ifYes (pc' := 300) at_270 (teq (ieq (x := (0 : Int32)) (y := (0 : Int32)) rfl rfl (by decide : (0 : Int) = 0))).1 (by decide) (by decide)
                have A974 := A973.lconst (z := (0 : Int64)) (pc' := 301) at_300 rfl rfl
                have A975 := A974.lstore (Ls' := #[.val (.long t0), .second, .val (.long d1), .second, .val (.long d2), .second, .val (.int fl), .val (.long (100000000 : Int64)), .second, .val (.int (1 : Int32)), .val (.int (1 : Int32)), .val (.ref b746), .val (.long (t0 + d1)), .second, .val (.int (0 : Int32)), .val (.int r804), .val (.int (1 : Int32)), .val (.long r837), .second, .val (.long ((t0 + d1) + d2)), .second, .val (.int (1 : Int32)), .val (.int r950), .val (.int (0 : Int32)), .val (.long (0 : Int64)), .second]) (pc' := 303) at_301 rfl rfl
                have A976 := A975.aload (v := (.ref b746)) (pc' := 305) at_303 rfl rfl rfl
                have A977 := A976.lload (v := ((t0 + d1) + d2)) (pc' := 307) at_305 rfl rfl
                have f980 := (f948.keep K953)
                obtain ⟨r979, _, ⟨rfl, q981⟩, A978⟩ := U.kJ (A977.callV (a := b746) (argsL := [(.long ((t0 + d1) + d2))]) (rest := []) (C' := 23) (S' := 1092) (pc' := 310) at_307 f980 (hw _ (List.mem_of_getElem? (i := 17) rfl)) (hw _ (List.mem_of_getElem? (i := 18) rfl)) (fun hZ => notFace_of_selects (args := #[]) (mvT hZ (hw _ (List.mem_of_getElem? (i := 20) rfl)))) (hw _ (List.mem_of_getElem? (i := 20) rfl)) (hw _ (List.mem_of_getElem? (i := 19) rfl)) (hw _ (List.mem_of_getElem? (i := 3) rfl)) (hw _ (List.mem_of_getElem? (i := 21) rfl)) (Ctr.toU (rm4 l Z a0 hw n0 [] (b746) (((t0 + d1) + d2)) (u954) (((t0 + d1) + (100000000 : Int64))) h952 A977.size f955 f956 (by first | exact Or.inl rfl | exact Or.inr rfl | (refine own_rs (by assumption) ?_; first | exact Or.inl rfl | exact Or.inr rfl | (refine own_rs (by assumption) ?_; first | exact Or.inl rfl | exact Or.inr rfl)))) (own_ew hw) (fun v h' q => by obtain ⟨_, _, rfl, -⟩ := q; exact ⟨[], Keep.refl _ [], allU0⟩)) rfl rfl pd_26 rfl rfl (by decide) (by decide) (Nat.le_of_ble_eq_true rfl) (by decide) (by decide) rfl rfl rfl)
                have A983 := A978.lload (v := (0 : Int64)) (pc' := 312) at_310 rfl rfl
                have A984 := A983.lcmp (pc' := 313) at_312 rfl
                by_cases c985 : r979.toInt = 0
                · have A986 := A984.ifNo (pc' := 316) at_313 (teq (leq (x := r979) (y := (0 : Int64)) rfl rfl c985)).2 rfl
                  have A987 := A986.iconst (z := (1 : Int32)) (pc' := 317) at_316 rfl rfl
                  have A988 := A987.goto (pc' := 321) at_317 (by decide) (by decide)
                  refine A988.retN (t := .boolean) (z' := (1 : Int32)) at_321 (by decide) (by decide) (by simp) rfl ⟨_, rfl, ⟨trivial, ?_⟩⟩
                  have elit : (1 : Int32).toInt = 1 := rfl
                  rfl
                · have A989 := A984.ifYes (pc' := 320) at_313 (feq (lne (x := r979) (y := (0 : Int64)) rfl rfl c985)).2 (by decide) (by decide)
                  have A990 := A989.iconst (z := (0 : Int32)) (pc' := 321) at_320 rfl rfl
                  refine A990.retN (t := .boolean) (z' := (0 : Int32)) at_321 (by decide) (by decide) (by simp) rfl ⟨_, rfl, ⟨trivial, ?_⟩⟩
                  have elit : (0 : Int32).toInt = 0 := rfl
                  exfalso
                  exact own_lf22 c6 c381 c796 q805 c818 q838 q847 c851 c877 q951 c960 q981 c985 i0 i1 i2 i3 i4 i5 z0 z1 z2
              · have A991 := A959.icmpNo (pc' := 231) at_228 (feq (ine (x := r950) (y := (1 : Int32)) rfl rfl c960)).1 rfl
                have A992 := A991.iconst (z := (0 : Int32)) (pc' := 232) at_231 rfl rfl
                refine A992.retN (t := .boolean) (z' := (0 : Int32)) at_232 (by decide) (by decide) (by simp) rfl ⟨_, rfl, ⟨trivial, ?_⟩⟩
                have elit : (0 : Int32).toInt = 0 := rfl
                exfalso
                exact own_lf23 c6 c381 c796 q805 c818 q838 q847 c851 c877 q951 c960 i0 i1 i2 i3 i4 i5 z0 z1 z2
          · have A993 := A850.ifNo (pc' := 148) at_145 (feq (lne (x := r845) (y := r837) rfl rfl c851)).1 rfl
            have A994 := A993.iconst (z := (0 : Int32)) (pc' := 149) at_148 rfl rfl
            refine A994.retN (t := .boolean) (z' := (0 : Int32)) at_149 (by decide) (by decide) (by simp) rfl ⟨_, rfl, ⟨trivial, ?_⟩⟩
            have elit : (0 : Int32).toInt = 0 := rfl
            exfalso
            exact own_lf24 c6 c381 c796 q805 c818 q838 q847 c851 i0 i1 i2 i3 i4 i5 z0 z1 z2
        · have A995 := A817.icmpNo (pc' := 97) at_94 (feq (ine (x := r804) (y := (0 : Int32)) rfl rfl c818)).1 rfl
          have A996 := A995.iconst (z := (0 : Int32)) (pc' := 98) at_97 rfl rfl
          refine A996.retN (t := .boolean) (z' := (0 : Int32)) at_98 (by decide) (by decide) (by simp) rfl ⟨_, rfl, ⟨trivial, ?_⟩⟩
          have elit : (0 : Int32).toInt = 0 := rfl
          exfalso
          exact own_lf25 c6 c381 c796 q805 c818 i0 i1 i2 i3 i4 i5 z0 z1 z2
      · have A997 := A795.ifNo (pc' := 74) at_71 (flt (lnlt (x := (d1 - (100000000 : Int64))) (y := (0 : Int64)) rfl rfl c796)).1 rfl
        have A998 := A997.iconst (z := (1 : Int32)) (pc' := 75) at_74 rfl rfl
        have A999 := A998.goto (pc' := 79) at_75 (by decide) (by decide)
        have A1000 := A999.istore (Ls' := #[.val (.long t0), .second, .val (.long d1), .second, .val (.long d2), .second, .val (.int fl), .val (.long (100000000 : Int64)), .second, .val (.int (1 : Int32)), .val (.int (1 : Int32)), .val (.ref b746), .val (.long (t0 + d1)), .second, .val (.int (1 : Int32)), .unset, .unset, .unset, .unset, .unset, .unset, .unset, .unset, .unset, .unset, .unset]) (pc' := 81) at_79 rfl rfl
        have A1001 := A1000.aload (v := (.ref b746)) (pc' := 83) at_81 rfl rfl rfl
        have A1002 := A1001.lload (v := (t0 + d1)) (pc' := 85) at_83 rfl rfl
        have f1003 := (X750.keep K776)
        obtain ⟨r1005, h1007, ⟨u1009, K1008, f1010, f1011, f1012, f1013, f1014, f1015, q1006⟩, A1004⟩ := U.kI (A1002.callV (a := b746) (argsL := [(.long (t0 + d1))]) (rest := []) (C' := 12) (S' := 549) (pc' := 88) at_85 f1003 (hw _ (List.mem_of_getElem? (i := 10) rfl)) (hw _ (List.mem_of_getElem? (i := 11) rfl)) (fun hZ => notFace_of_selects (args := #[]) (mvT hZ (hw _ (List.mem_of_getElem? (i := 13) rfl)))) (hw _ (List.mem_of_getElem? (i := 13) rfl)) (hw _ (List.mem_of_getElem? (i := 12) rfl)) (hw _ (List.mem_of_getElem? (i := 3) rfl)) (hw _ (List.mem_of_getElem? (i := 14) rfl)) (Ctr.toU (rm3 l Z a0 hw n0 [] (b746) ((t0 + d1)) ((1 : Int32)) ((t0 + (100000000 : Int64))) ((1 : Int32)) ((0 : Int64)) (t0) ((1 : Int32)) h775 A1002.size f1003 g748 f777 f778 (by first | exact Or.inl rfl | exact Or.inr rfl | (refine own_rs (by assumption) ?_; first | exact Or.inl rfl | exact Or.inr rfl | (refine own_rs (by assumption) ?_; first | exact Or.inl rfl | exact Or.inr rfl))) f779 f781 f780 f782) (own_ew hw) (fun v h' q => by obtain ⟨_, _, _, K, -⟩ := q; exact ⟨_, K, (allUS f1003 (by decide) (by decide) allU0)⟩)) rfl rfl pd_25 rfl rfl (by decide) (by decide) (Nat.le_of_ble_eq_true rfl) (by decide) (by decide) rfl rfl rfl)
        have A1016 := A1004.istore (Ls' := #[.val (.long t0), .second, .val (.long d1), .second, .val (.long d2), .second, .val (.int fl), .val (.long (100000000 : Int64)), .second, .val (.int (1 : Int32)), .val (.int (1 : Int32)), .val (.ref b746), .val (.long (t0 + d1)), .second, .val (.int (1 : Int32)), .val (.int r1005), .unset, .unset, .unset, .unset, .unset, .unset, .unset, .unset, .unset, .unset]) (pc' := 90) at_88 rfl rfl
        have A1017 := A1016.iload (v := r1005) (pc' := 92) at_90 rfl rfl
        have A1018 := A1017.iload (v := (1 : Int32)) (pc' := 94) at_92 rfl rfl
        by_cases c1019 : r1005.toInt = 1
        · have A1020 := A1018.icmpYes (pc' := 99) at_94 (teq (ieq (x := r1005) (y := (1 : Int32)) rfl rfl c1019)).1 (by decide) (by decide)
          have A1021 := A1020.iload (v := (1 : Int32)) (pc' := 101) at_99 rfl rfl
          have A1023 := A1021.ifNo (pc' := 104) at_101 (feq (ine (x := (1 : Int32)) (y := (0 : Int32)) rfl rfl (by decide : ¬ ((1 : Int) = 0)))).1 rfl
          have A1024 := A1023.iload (v := (1 : Int32)) (pc' := 106) at_104 rfl rfl
          have A1026 := A1024.ifYes (pc' := 113) at_106 (feq (ine (x := (1 : Int32)) (y := (0 : Int32)) rfl rfl (by decide : ¬ ((1 : Int) = 0)))).2 (by decide) (by decide)
          have A1027 := A1026.iconst (z := (0 : Int32)) (pc' := 114) at_113 rfl rfl
          have A1028 := A1027.istore (Ls' := #[.val (.long t0), .second, .val (.long d1), .second, .val (.long d2), .second, .val (.int fl), .val (.long (100000000 : Int64)), .second, .val (.int (1 : Int32)), .val (.int (1 : Int32)), .val (.ref b746), .val (.long (t0 + d1)), .second, .val (.int (1 : Int32)), .val (.int r1005), .val (.int (0 : Int32)), .unset, .unset, .unset, .unset, .unset, .unset, .unset, .unset, .unset]) (pc' := 116) at_114 rfl rfl
          have A1029 := A1028.iload (v := (0 : Int32)) (pc' := 118) at_116 rfl rfl
          have A1031 := A1029.ifYes (pc' := 132) at_118 (teq (ieq (x := (0 : Int32)) (y := (0 : Int32)) rfl rfl (by decide : (0 : Int) = 0))).1 (by decide) (by decide)
          have A1032 := A1031.lconst (z := (0 : Int64)) (pc' := 133) at_132 rfl rfl
          have A1033 := A1032.lstore (Ls' := #[.val (.long t0), .second, .val (.long d1), .second, .val (.long d2), .second, .val (.int fl), .val (.long (100000000 : Int64)), .second, .val (.int (1 : Int32)), .val (.int (1 : Int32)), .val (.ref b746), .val (.long (t0 + d1)), .second, .val (.int (1 : Int32)), .val (.int r1005), .val (.int (0 : Int32)), .val (.long (0 : Int64)), .second, .unset, .unset, .unset, .unset, .unset, .unset, .unset]) (pc' := 135) at_133 rfl rfl
          have A1034 := A1033.aload (v := (.ref b746)) (pc' := 137) at_135 rfl rfl rfl
          have A1035 := A1034.lload (v := (t0 + d1)) (pc' := 139) at_137 rfl rfl
          have f1038 := (f1003.keep K1008)
          obtain ⟨r1037, _, ⟨rfl, q1039⟩, A1036⟩ := U.kJ (A1035.callV (a := b746) (argsL := [(.long (t0 + d1))]) (rest := []) (C' := 12) (S' := 549) (pc' := 142) at_139 f1038 (hw _ (List.mem_of_getElem? (i := 17) rfl)) (hw _ (List.mem_of_getElem? (i := 18) rfl)) (fun hZ => notFace_of_selects (args := #[]) (mvT hZ (hw _ (List.mem_of_getElem? (i := 20) rfl)))) (hw _ (List.mem_of_getElem? (i := 20) rfl)) (hw _ (List.mem_of_getElem? (i := 19) rfl)) (hw _ (List.mem_of_getElem? (i := 3) rfl)) (hw _ (List.mem_of_getElem? (i := 21) rfl)) (Ctr.toU (rm4 l Z a0 hw n0 [] (b746) ((t0 + d1)) (u1009) ((t0 + (100000000 : Int64))) h1007 A1035.size f1010 f1011 (by first | exact Or.inl rfl | exact Or.inr rfl | (refine own_rs (by assumption) ?_; first | exact Or.inl rfl | exact Or.inr rfl | (refine own_rs (by assumption) ?_; first | exact Or.inl rfl | exact Or.inr rfl)))) (own_ew hw) (fun v h' q => by obtain ⟨_, _, rfl, -⟩ := q; exact ⟨[], Keep.refl _ [], allU0⟩)) rfl rfl pd_26 rfl rfl (by decide) (by decide) (Nat.le_of_ble_eq_true rfl) (by decide) (by decide) rfl rfl rfl)
          have A1041 := A1036.lload (v := (0 : Int64)) (pc' := 144) at_142 rfl rfl
          have A1042 := A1041.lcmp (pc' := 145) at_144 rfl
          by_cases c1043 : r1037.toInt = 0
          · have A1044 := A1042.ifYes (pc' := 150) at_145 (teq (leq (x := r1037) (y := (0 : Int64)) rfl rfl c1043)).1 (by decide) (by decide)
            have A1045 := A1044.lload (v := (t0 + d1)) (pc' := 152) at_150 rfl rfl
            have A1046 := A1045.lload (v := d2) (pc' := 154) at_152 rfl rfl
            have A1047 := A1046.ladd (pc' := 155) at_154 rfl
            have A1048 := A1047.lstore (Ls' := #[.val (.long t0), .second, .val (.long d1), .second, .val (.long d2), .second, .val (.int fl), .val (.long (100000000 : Int64)), .second, .val (.int (1 : Int32)), .val (.int (1 : Int32)), .val (.ref b746), .val (.long (t0 + d1)), .second, .val (.int (1 : Int32)), .val (.int r1005), .val (.int (0 : Int32)), .val (.long (0 : Int64)), .second, .val (.long ((t0 + d1) + d2)), .second, .unset, .unset, .unset, .unset, .unset]) (pc' := 157) at_155 rfl rfl
            have A1049 := A1048.iload (v := (1 : Int32)) (pc' := 159) at_157 rfl rfl
            have A1051 := A1049.ifNo (pc' := 162) at_159 (feq (ine (x := (1 : Int32)) (y := (0 : Int32)) rfl rfl (by decide : ¬ ((1 : Int) = 0)))).1 rfl
            have A1052 := A1051.aload (v := (.ref b746)) (pc' := 164) at_162 rfl rfl rfl
            have A1053 := A1052.aconstNull (pc' := 165) at_164 rfl
            have A1054 := A1053.lload (v := (t0 + d1)) (pc' := 167) at_165 rfl rfl
            have f1055 := ((f771.keep K776 (allS g748 all0)).keep K1008 (allS g748 all0))
            obtain ⟨r1057, h1059, ⟨K1060, f1061, f1062, q1058⟩, A1056⟩ := U.kA (A1054.callV (a := b746) (argsL := [.null, (.long (t0 + d1))]) (rest := []) (C' := 23) (S' := 1092) (pc' := 170) at_167 f1038 (hw _ (List.mem_of_getElem? (i := 22) rfl)) (hw _ (List.mem_of_getElem? (i := 23) rfl)) (fun hZ => notFace_of_selects (args := #[]) (mvT hZ (hw _ (List.mem_of_getElem? (i := 25) rfl)))) (hw _ (List.mem_of_getElem? (i := 25) rfl)) (hw _ (List.mem_of_getElem? (i := 24) rfl)) (hw _ (List.mem_of_getElem? (i := 3) rfl)) (hw _ (List.mem_of_getElem? (i := 26) rfl)) (rm5_2 l Z a0 hw n0 [] (b746) ((t0 + d1)) (u1009) ((t0 + (100000000 : Int64))) (t0) ((1 : Int32)) (_) (_) h1007 A1054.size f1038 g748 f1010 f1011 f1012 f1013 f1014 f1015 f1055 e1 (by assumption) e3 e4 e5) rfl rfl pd_27 rfl rfl (by decide) (by decide) (Nat.le_of_ble_eq_true rfl) (by decide) (by decide) rfl rfl rfl)
            have A1063 := A1056.pop (pc' := 171) at_170 rfl rfl
            have A1064 := A1063.lload (v := d2) (pc' := 173) at_171 rfl rfl
            have A1065 := A1064.lload (v := (100000000 : Int64)) (pc' := 175) at_173 rfl rfl
            have A1066 := A1065.lsub (pc' := 176) at_175 rfl
            have A1067 := A1066.lconst (z := (0 : Int64)) (pc' := 177) at_176 rfl rfl
            have A1068 := A1067.lcmp (pc' := 178) at_177 rfl
            by_cases c1069 : (d2 - (100000000 : Int64)).toInt < 0
            · have A1070 := A1068.ifYes (pc' := 185) at_178 (tlt (llt (x := (d2 - (100000000 : Int64))) (y := (0 : Int64)) rfl rfl c1069)).1 (by decide) (by decide)
              have A1071 := A1070.iconst (z := (0 : Int32)) (pc' := 186) at_185 rfl rfl
              have A1072 := A1071.istore (Ls' := #[.val (.long t0), .second, .val (.long d1), .second, .val (.long d2), .second, .val (.int fl), .val (.long (100000000 : Int64)), .second, .val (.int (1 : Int32)), .val (.int (1 : Int32)), .val (.ref b746), .val (.long (t0 + d1)), .second, .val (.int (1 : Int32)), .val (.int r1005), .val (.int (0 : Int32)), .val (.long (0 : Int64)), .second, .val (.long ((t0 + d1) + d2)), .second, .val (.int (0 : Int32)), .unset, .unset, .unset, .unset]) (pc' := 188) at_186 rfl rfl
              have A1073 := A1072.goto (pc' := 215) at_188 (by decide) (by decide)
              have A1074 := A1073.aload (v := (.ref b746)) (pc' := 217) at_215 rfl rfl rfl
              have A1075 := A1074.lload (v := ((t0 + d1) + d2)) (pc' := 219) at_217 rfl rfl
              have f1076 := (f1038.keep K1060)
              obtain ⟨r1078, h1080, ⟨u1082, K1081, f1083, f1084, q1079⟩, A1077⟩ := U.kI (A1075.callV (a := b746) (argsL := [(.long ((t0 + d1) + d2))]) (rest := []) (C' := 23) (S' := 1092) (pc' := 222) at_219 f1076 (hw _ (List.mem_of_getElem? (i := 10) rfl)) (hw _ (List.mem_of_getElem? (i := 11) rfl)) (fun hZ => notFace_of_selects (args := #[]) (mvT hZ (hw _ (List.mem_of_getElem? (i := 13) rfl)))) (hw _ (List.mem_of_getElem? (i := 13) rfl)) (hw _ (List.mem_of_getElem? (i := 12) rfl)) (hw _ (List.mem_of_getElem? (i := 3) rfl)) (hw _ (List.mem_of_getElem? (i := 14) rfl)) (Ctr.toU (rm3_b l Z a0 hw n0 [] (b746) (((t0 + d1) + d2)) ((1 : Int32)) (((t0 + d1) + (100000000 : Int64))) h1059 A1075.size f1076 g748 f1061 f1062 (by first | exact Or.inl rfl | exact Or.inr rfl | (refine own_rs (by assumption) ?_; first | exact Or.inl rfl | exact Or.inr rfl | (refine own_rs (by assumption) ?_; first | exact Or.inl rfl | exact Or.inr rfl)))) (own_ew hw) (fun v h' q => by obtain ⟨_, _, _, K, -⟩ := q; exact ⟨_, K, (allUS f1076 (by decide) (by decide) allU0)⟩)) rfl rfl pd_25 rfl rfl (by decide) (by decide) (Nat.le_of_ble_eq_true rfl) (by decide) (by decide) rfl rfl rfl)
              have A1085 := A1077.istore (Ls' := #[.val (.long t0), .second, .val (.long d1), .second, .val (.long d2), .second, .val (.int fl), .val (.long (100000000 : Int64)), .second, .val (.int (1 : Int32)), .val (.int (1 : Int32)), .val (.ref b746), .val (.long (t0 + d1)), .second, .val (.int (1 : Int32)), .val (.int r1005), .val (.int (0 : Int32)), .val (.long (0 : Int64)), .second, .val (.long ((t0 + d1) + d2)), .second, .val (.int (0 : Int32)), .val (.int r1078), .unset, .unset, .unset]) (pc' := 224) at_222 rfl rfl
              have A1086 := A1085.iload (v := r1078) (pc' := 226) at_224 rfl rfl
              have A1087 := A1086.iload (v := (0 : Int32)) (pc' := 228) at_226 rfl rfl
              by_cases c1088 : r1078.toInt = 0
              · have A1089 := A1087.icmpYes (pc' := 233) at_228 (teq (ieq (x := r1078) (y := (0 : Int32)) rfl rfl c1088)).1 (by decide) (by decide)
                have A1090 := A1089.iload (v := (1 : Int32)) (pc' := 235) at_233 rfl rfl
                have A1092 := A1090.ifNo (pc' := 238) at_235 (feq (ine (x := (1 : Int32)) (y := (0 : Int32)) rfl rfl (by decide : ¬ ((1 : Int) = 0)))).1 rfl
                have A1093 := A1092.iload (v := (0 : Int32)) (pc' := 240) at_238 rfl rfl
                have A1095 := A1093.ifNo (pc' := 243) at_240 (teq (ieq (x := (0 : Int32)) (y := (0 : Int32)) rfl rfl (by decide : (0 : Int) = 0))).2 rfl
                have A1096 := A1095.iconst (z := (1 : Int32)) (pc' := 244) at_243 rfl rfl
                have A1097 := A1096.goto (pc' := 266) at_244 (by decide) (by decide)
                have A1098 := A1097.istore (Ls' := #[.val (.long t0), .second, .val (.long d1), .second, .val (.long d2), .second, .val (.int fl), .val (.long (100000000 : Int64)), .second, .val (.int (1 : Int32)), .val (.int (1 : Int32)), .val (.ref b746), .val (.long (t0 + d1)), .second, .val (.int (1 : Int32)), .val (.int r1005), .val (.int (0 : Int32)), .val (.long (0 : Int64)), .second, .val (.long ((t0 + d1) + d2)), .second, .val (.int (0 : Int32)), .val (.int r1078), .val (.int (1 : Int32)), .unset, .unset]) (pc' := 268) at_266 rfl rfl
                have A1099 := A1098.iload (v := (1 : Int32)) (pc' := 270) at_268 rfl rfl
                have A1101 := A1099.ifNo (pc' := 273) at_270 (feq (ine (x := (1 : Int32)) (y := (0 : Int32)) rfl rfl (by decide : ¬ ((1 : Int) = 0)))).1 rfl
                have A1102 := A1101.lconst (z := (0 : Int64)) (pc' := 274) at_273 rfl rfl
                have A1103 := A1102.iload (v := (1 : Int32)) (pc' := 276) at_274 rfl rfl
                have A1105 := A1103.ifNo (pc' := 279) at_276 (feq (ine (x := (1 : Int32)) (y := (0 : Int32)) rfl rfl (by decide : ¬ ((1 : Int) = 0)))).1 rfl
                have A1106 := A1105.lload (v := (100000000 : Int64)) (pc' := 281) at_279 rfl rfl
                have A1107 := A1106.lload (v := d2) (pc' := 283) at_281 rfl rfl
                have A1108 := A1107.lsub (pc' := 284) at_283 rfl
                have A1109 := A1108.goto (pc' := 294) at_284 (by decide) (by decide)
                obtain ⟨r1111, _, ⟨rfl, q1112⟩, A1110⟩ := U.kJ (A1109.callS (argsL := [(.long (0 : Int64)), (.long ((100000000 : Int64) - d2))]) (rest := []) (C' := 23) (S' := 1092) (pc' := 297) at_294 (hw _ (List.mem_of_getElem? (i := 202) rfl)) (hw _ (List.mem_of_getElem? (i := 203) rfl)) (hw _ (List.mem_of_getElem? (i := 100) rfl)) (hw _ (List.mem_of_getElem? (i := 204) rfl)) (Ctr.toU (rm35 l Z a0 hw n0 [] ((0 : Int64)) (((100000000 : Int64) - d2))  h1080 A1109.size ) (own_ew hw) (fun v h' q => by obtain ⟨_, _, rfl, -⟩ := q; exact ⟨[], Keep.refl _ [], allU0⟩)) rfl rfl pd_24 rfl rfl (by decide) (by decide) (Nat.le_of_ble_eq_true rfl) (by decide) (by decide) rfl rfl rfl)
                have A1114 := A1110.goto (pc' := 301) at_297 (by decide) (by decide)
                have A1115 := A1114.lstore (Ls' := #[.val (.long t0), .second, .val (.long d1), .second, .val (.long d2), .second, .val (.int fl), .val (.long (100000000 : Int64)), .second, .val (.int (1 : Int32)), .val (.int (1 : Int32)), .val (.ref b746), .val (.long (t0 + d1)), .second, .val (.int (1 : Int32)), .val (.int r1005), .val (.int (0 : Int32)), .val (.long (0 : Int64)), .second, .val (.long ((t0 + d1) + d2)), .second, .val (.int (0 : Int32)), .val (.int r1078), .val (.int (1 : Int32)), .val (.long r1111), .second]) (pc' := 303) at_301 rfl rfl
                have A1116 := A1115.aload (v := (.ref b746)) (pc' := 305) at_303 rfl rfl rfl
                have A1117 := A1116.lload (v := ((t0 + d1) + d2)) (pc' := 307) at_305 rfl rfl
                have f1120 := (f1076.keep K1081)
                obtain ⟨r1119, _, ⟨rfl, q1121⟩, A1118⟩ := U.kJ (A1117.callV (a := b746) (argsL := [(.long ((t0 + d1) + d2))]) (rest := []) (C' := 23) (S' := 1092) (pc' := 310) at_307 f1120 (hw _ (List.mem_of_getElem? (i := 17) rfl)) (hw _ (List.mem_of_getElem? (i := 18) rfl)) (fun hZ => notFace_of_selects (args := #[]) (mvT hZ (hw _ (List.mem_of_getElem? (i := 20) rfl)))) (hw _ (List.mem_of_getElem? (i := 20) rfl)) (hw _ (List.mem_of_getElem? (i := 19) rfl)) (hw _ (List.mem_of_getElem? (i := 3) rfl)) (hw _ (List.mem_of_getElem? (i := 21) rfl)) (Ctr.toU (rm4 l Z a0 hw n0 [] (b746) (((t0 + d1) + d2)) (u1082) (((t0 + d1) + (100000000 : Int64))) h1080 A1117.size f1083 f1084 (by first | exact Or.inl rfl | exact Or.inr rfl | (refine own_rs (by assumption) ?_; first | exact Or.inl rfl | exact Or.inr rfl | (refine own_rs (by assumption) ?_; first | exact Or.inl rfl | exact Or.inr rfl)))) (own_ew hw) (fun v h' q => by obtain ⟨_, _, rfl, -⟩ := q; exact ⟨[], Keep.refl _ [], allU0⟩)) rfl rfl pd_26 rfl rfl (by decide) (by decide) (Nat.le_of_ble_eq_true rfl) (by decide) (by decide) rfl rfl rfl)
                have A1123 := A1118.lload (v := r1111) (pc' := 312) at_310 rfl rfl
                have A1124 := A1123.lcmp (pc' := 313) at_312 rfl
                by_cases c1125 : r1119.toInt = r1111.toInt
                · have A1126 := A1124.ifNo (pc' := 316) at_313 (teq (leq (x := r1119) (y := r1111) rfl rfl c1125)).2 rfl
                  have A1127 := A1126.iconst (z := (1 : Int32)) (pc' := 317) at_316 rfl rfl
                  have A1128 := A1127.goto (pc' := 321) at_317 (by decide) (by decide)
                  refine A1128.retN (t := .boolean) (z' := (1 : Int32)) at_321 (by decide) (by decide) (by simp) rfl ⟨_, rfl, ⟨trivial, ?_⟩⟩
                  have elit : (1 : Int32).toInt = 1 := rfl
                  rfl
                · have A1129 := A1124.ifYes (pc' := 320) at_313 (feq (lne (x := r1119) (y := r1111) rfl rfl c1125)).2 (by decide) (by decide)
                  have A1130 := A1129.iconst (z := (0 : Int32)) (pc' := 321) at_320 rfl rfl
                  refine A1130.retN (t := .boolean) (z' := (0 : Int32)) at_321 (by decide) (by decide) (by simp) rfl ⟨_, rfl, ⟨trivial, ?_⟩⟩
                  have elit : (0 : Int32).toInt = 0 := rfl
                  exfalso
                  exact own_lf26 c6 c381 c796 q1006 c1019 q1039 c1043 c1069 q1079 c1088 q1112 q1121 c1125 i0 i1 i2 i3 i4 i5 z0 z1 z2
              · have A1131 := A1087.icmpNo (pc' := 231) at_228 (feq (ine (x := r1078) (y := (0 : Int32)) rfl rfl c1088)).1 rfl
                have A1132 := A1131.iconst (z := (0 : Int32)) (pc' := 232) at_231 rfl rfl
                refine A1132.retN (t := .boolean) (z' := (0 : Int32)) at_232 (by decide) (by decide) (by simp) rfl ⟨_, rfl, ⟨trivial, ?_⟩⟩
                have elit : (0 : Int32).toInt = 0 := rfl
                exfalso
                exact own_lf27 c6 c381 c796 q1006 c1019 q1039 c1043 c1069 q1079 c1088 i0 i1 i2 i3 i4 i5 z0 z1 z2
            · have A1133 := A1068.ifNo (pc' := 181) at_178 (flt (lnlt (x := (d2 - (100000000 : Int64))) (y := (0 : Int64)) rfl rfl c1069)).1 rfl
              have A1134 := A1133.iconst (z := (1 : Int32)) (pc' := 182) at_181 rfl rfl
              have A1135 := A1134.goto (pc' := 186) at_182 (by decide) (by decide)
              have A1136 := A1135.istore (Ls' := #[.val (.long t0), .second, .val (.long d1), .second, .val (.long d2), .second, .val (.int fl), .val (.long (100000000 : Int64)), .second, .val (.int (1 : Int32)), .val (.int (1 : Int32)), .val (.ref b746), .val (.long (t0 + d1)), .second, .val (.int (1 : Int32)), .val (.int r1005), .val (.int (0 : Int32)), .val (.long (0 : Int64)), .second, .val (.long ((t0 + d1) + d2)), .second, .val (.int (1 : Int32)), .unset, .unset, .unset, .unset]) (pc' := 188) at_186 rfl rfl
              have A1137 := A1136.goto (pc' := 215) at_188 (by decide) (by decide)
              have A1138 := A1137.aload (v := (.ref b746)) (pc' := 217) at_215 rfl rfl rfl
              have A1139 := A1138.lload (v := ((t0 + d1) + d2)) (pc' := 219) at_217 rfl rfl
              have f1140 := (f1038.keep K1060)
              obtain ⟨r1142, h1144, ⟨u1146, K1145, f1147, f1148, q1143⟩, A1141⟩ := U.kI (A1139.callV (a := b746) (argsL := [(.long ((t0 + d1) + d2))]) (rest := []) (C' := 23) (S' := 1092) (pc' := 222) at_219 f1140 (hw _ (List.mem_of_getElem? (i := 10) rfl)) (hw _ (List.mem_of_getElem? (i := 11) rfl)) (fun hZ => notFace_of_selects (args := #[]) (mvT hZ (hw _ (List.mem_of_getElem? (i := 13) rfl)))) (hw _ (List.mem_of_getElem? (i := 13) rfl)) (hw _ (List.mem_of_getElem? (i := 12) rfl)) (hw _ (List.mem_of_getElem? (i := 3) rfl)) (hw _ (List.mem_of_getElem? (i := 14) rfl)) (Ctr.toU (rm3_b l Z a0 hw n0 [] (b746) (((t0 + d1) + d2)) ((1 : Int32)) (((t0 + d1) + (100000000 : Int64))) h1059 A1139.size f1140 g748 f1061 f1062 (by first | exact Or.inl rfl | exact Or.inr rfl | (refine own_rs (by assumption) ?_; first | exact Or.inl rfl | exact Or.inr rfl | (refine own_rs (by assumption) ?_; first | exact Or.inl rfl | exact Or.inr rfl)))) (own_ew hw) (fun v h' q => by obtain ⟨_, _, _, K, -⟩ := q; exact ⟨_, K, (allUS f1140 (by decide) (by decide) allU0)⟩)) rfl rfl pd_25 rfl rfl (by decide) (by decide) (Nat.le_of_ble_eq_true rfl) (by decide) (by decide) rfl rfl rfl)
              have A1149 := A1141.istore (Ls' := #[.val (.long t0), .second, .val (.long d1), .second, .val (.long d2), .second, .val (.int fl), .val (.long (100000000 : Int64)), .second, .val (.int (1 : Int32)), .val (.int (1 : Int32)), .val (.ref b746), .val (.long (t0 + d1)), .second, .val (.int (1 : Int32)), .val (.int r1005), .val (.int (0 : Int32)), .val (.long (0 : Int64)), .second, .val (.long ((t0 + d1) + d2)), .second, .val (.int (1 : Int32)), .val (.int r1142), .unset, .unset, .unset]) (pc' := 224) at_222 rfl rfl
              have A1150 := A1149.iload (v := r1142) (pc' := 226) at_224 rfl rfl
              have A1151 := A1150.iload (v := (1 : Int32)) (pc' := 228) at_226 rfl rfl
              by_cases c1152 : r1142.toInt = 1
              · have A1153 := A1151.icmpYes (pc' := 233) at_228 (teq (ieq (x := r1142) (y := (1 : Int32)) rfl rfl c1152)).1 (by decide) (by decide)
                have A1154 := A1153.iload (v := (1 : Int32)) (pc' := 235) at_233 rfl rfl
                have A1156 := A1154.ifNo (pc' := 238) at_235 (feq (ine (x := (1 : Int32)) (y := (0 : Int32)) rfl rfl (by decide : ¬ ((1 : Int) = 0)))).1 rfl
                have A1157 := A1156.iload (v := (1 : Int32)) (pc' := 240) at_238 rfl rfl
                have A1159 := A1157.ifYes (pc' := 247) at_240 (feq (ine (x := (1 : Int32)) (y := (0 : Int32)) rfl rfl (by decide : ¬ ((1 : Int) = 0)))).2 (by decide) (by decide)
                have A1160 := A1159.iconst (z := (0 : Int32)) (pc' := 248) at_247 rfl rfl
                have A1161 := A1160.goto (pc' := 266) at_248 (by decide) (by decide)
                have A1162 := A1161.istore (Ls' := #[.val (.long t0), .second, .val (.long d1), .second, .val (.long d2), .second, .val (.int fl), .val (.long (100000000 : Int64)), .second, .val (.int (1 : Int32)), .val (.int (1 : Int32)), .val (.ref b746), .val (.long (t0 + d1)), .second, .val (.int (1 : Int32)), .val (.int r1005), .val (.int (0 : Int32)), .val (.long (0 : Int64)), .second, .val (.long ((t0 + d1) + d2)), .second, .val (.int (1 : Int32)), .val (.int r1142), .val (.int (0 : Int32)), .unset, .unset]) (pc' := 268) at_266 rfl rfl
                have A1163 := A1162.iload (v := (0 : Int32)) (pc' := 270) at_268 rfl rfl
                have A1165 := A1163.ifYes (pc' := 300) at_270 (teq (ieq (x := (0 : Int32)) (y := (0 : Int32)) rfl rfl (by decide : (0 : Int) = 0))).1 (by decide) (by decide)
                have A1166 := A1165.lconst (z := (0 : Int64)) (pc' := 301) at_300 rfl rfl
                have A1167 := A1166.lstore (Ls' := #[.val (.long t0), .second, .val (.long d1), .second, .val (.long d2), .second, .val (.int fl), .val (.long (100000000 : Int64)), .second, .val (.int (1 : Int32)), .val (.int (1 : Int32)), .val (.ref b746), .val (.long (t0 + d1)), .second, .val (.int (1 : Int32)), .val (.int r1005), .val (.int (0 : Int32)), .val (.long (0 : Int64)), .second, .val (.long ((t0 + d1) + d2)), .second, .val (.int (1 : Int32)), .val (.int r1142), .val (.int (0 : Int32)), .val (.long (0 : Int64)), .second]) (pc' := 303) at_301 rfl rfl
                have A1168 := A1167.aload (v := (.ref b746)) (pc' := 305) at_303 rfl rfl rfl
                have A1169 := A1168.lload (v := ((t0 + d1) + d2)) (pc' := 307) at_305 rfl rfl
                have f1172 := (f1140.keep K1145)
                obtain ⟨r1171, _, ⟨rfl, q1173⟩, A1170⟩ := U.kJ (A1169.callV (a := b746) (argsL := [(.long ((t0 + d1) + d2))]) (rest := []) (C' := 23) (S' := 1092) (pc' := 310) at_307 f1172 (hw _ (List.mem_of_getElem? (i := 17) rfl)) (hw _ (List.mem_of_getElem? (i := 18) rfl)) (fun hZ => notFace_of_selects (args := #[]) (mvT hZ (hw _ (List.mem_of_getElem? (i := 20) rfl)))) (hw _ (List.mem_of_getElem? (i := 20) rfl)) (hw _ (List.mem_of_getElem? (i := 19) rfl)) (hw _ (List.mem_of_getElem? (i := 3) rfl)) (hw _ (List.mem_of_getElem? (i := 21) rfl)) (Ctr.toU (rm4 l Z a0 hw n0 [] (b746) (((t0 + d1) + d2)) (u1146) (((t0 + d1) + (100000000 : Int64))) h1144 A1169.size f1147 f1148 (by first | exact Or.inl rfl | exact Or.inr rfl | (refine own_rs (by assumption) ?_; first | exact Or.inl rfl | exact Or.inr rfl | (refine own_rs (by assumption) ?_; first | exact Or.inl rfl | exact Or.inr rfl)))) (own_ew hw) (fun v h' q => by obtain ⟨_, _, rfl, -⟩ := q; exact ⟨[], Keep.refl _ [], allU0⟩)) rfl rfl pd_26 rfl rfl (by decide) (by decide) (Nat.le_of_ble_eq_true rfl) (by decide) (by decide) rfl rfl rfl)
                have A1175 := A1170.lload (v := (0 : Int64)) (pc' := 312) at_310 rfl rfl
                have A1176 := A1175.lcmp (pc' := 313) at_312 rfl
                by_cases c1177 : r1171.toInt = 0
                · have A1178 := A1176.ifNo (pc' := 316) at_313 (teq (leq (x := r1171) (y := (0 : Int64)) rfl rfl c1177)).2 rfl
                  have A1179 := A1178.iconst (z := (1 : Int32)) (pc' := 317) at_316 rfl rfl
                  have A1180 := A1179.goto (pc' := 321) at_317 (by decide) (by decide)
                  refine A1180.retN (t := .boolean) (z' := (1 : Int32)) at_321 (by decide) (by decide) (by simp) rfl ⟨_, rfl, ⟨trivial, ?_⟩⟩
                  have elit : (1 : Int32).toInt = 1 := rfl
                  rfl
                · have A1181 := A1176.ifYes (pc' := 320) at_313 (feq (lne (x := r1171) (y := (0 : Int64)) rfl rfl c1177)).2 (by decide) (by decide)
                  have A1182 := A1181.iconst (z := (0 : Int32)) (pc' := 321) at_320 rfl rfl
                  refine A1182.retN (t := .boolean) (z' := (0 : Int32)) at_321 (by decide) (by decide) (by simp) rfl ⟨_, rfl, ⟨trivial, ?_⟩⟩
                  have elit : (0 : Int32).toInt = 0 := rfl
                  exfalso
                  exact own_lf28 c6 c381 c796 q1006 c1019 q1039 c1043 c1069 q1143 c1152 q1173 c1177 i0 i1 i2 i3 i4 i5 z0 z1 z2
              · have A1183 := A1151.icmpNo (pc' := 231) at_228 (feq (ine (x := r1142) (y := (1 : Int32)) rfl rfl c1152)).1 rfl
                have A1184 := A1183.iconst (z := (0 : Int32)) (pc' := 232) at_231 rfl rfl
                refine A1184.retN (t := .boolean) (z' := (0 : Int32)) at_232 (by decide) (by decide) (by simp) rfl ⟨_, rfl, ⟨trivial, ?_⟩⟩
                have elit : (0 : Int32).toInt = 0 := rfl
                exfalso
                exact own_lf29 c6 c381 c796 q1006 c1019 q1039 c1043 c1069 q1143 c1152 i0 i1 i2 i3 i4 i5 z0 z1 z2
          · have A1185 := A1042.ifNo (pc' := 148) at_145 (feq (lne (x := r1037) (y := (0 : Int64)) rfl rfl c1043)).1 rfl
            have A1186 := A1185.iconst (z := (0 : Int32)) (pc' := 149) at_148 rfl rfl
            refine A1186.retN (t := .boolean) (z' := (0 : Int32)) at_149 (by decide) (by decide) (by simp) rfl ⟨_, rfl, ⟨trivial, ?_⟩⟩
            have elit : (0 : Int32).toInt = 0 := rfl
            exfalso
            exact own_lf30 c6 c381 c796 q1006 c1019 q1039 c1043 i0 i1 i2 i3 i4 i5 z0 z1 z2
        · have A1187 := A1018.icmpNo (pc' := 97) at_94 (feq (ine (x := r1005) (y := (1 : Int32)) rfl rfl c1019)).1 rfl
          have A1188 := A1187.iconst (z := (0 : Int32)) (pc' := 98) at_97 rfl rfl
          refine A1188.retN (t := .boolean) (z' := (0 : Int32)) at_98 (by decide) (by decide) (by simp) rfl ⟨_, rfl, ⟨trivial, ?_⟩⟩
          have elit : (0 : Int32).toInt = 0 := rfl
          exfalso
          exact own_lf31 c6 c381 c796 q1006 c1019 i0 i1 i2 i3 i4 i5 z0 z1 z2
set_option maxRecDepth 65536 in
set_option maxHeartbeats 40000000 in
theorem comes_1 {Post : Tables → Env → Array Value → State → Outcome → State → Prop} (hpost : ∀ tb e args s v u, (limb_1_1.after args s (.returned v) u = true ∧ limb_1_2.after args s (.returned v) u = true ∧ True) → ReturnedEndW s (.returned v) u (Jvm.fieldLocs frame_1_writes args s ++ Jvm.arrayLocs frame_1_arrays args s ++ Jvm.staticLocs frame_1_statics s) 48 3264 → Post tb e args s (.returned v) u) :
    ArmFor flags0 classFile x code maxLocals ret World_1 tables_1 room_1 Calls_1 rest_1 Pre_1 Post := by
  intro l hfl _ _ p e ha hc hk s m args below hf hA hF happ hP
  obtain ⟨hcalls, hrest, hpre⟩ := hP
  obtain ⟨-, -, -, hnamed, -, -, -, hat⟩ := (Spec.applies_iff hf).mp happ
  obtain ⟨hg, hn⟩ := and_e (Cond.before_iff.mp (show (Jvm.Cond.and given_1 narrow_1).before args s = true from hpre))
  obtain ⟨g1a, g1b⟩ := and_e hg
  obtain ⟨g2a, g2b⟩ := and_e g1b
  obtain ⟨g3a, g3b⟩ := and_e g2b
  obtain ⟨g4a, g4b⟩ := and_e g3b
  obtain ⟨w0, w1, w2, w3, rfl⟩ : ∃ w0 w1 w2 w3 : Value, args = #[w0, w1, w2, w3] := by
    have hs : args.size = 4 := by simpa [Cond.value, given_1] using g1a
    obtain ⟨L⟩ := args
    match L, hs with
    | [w0, w1, w2, w3], _ => exact ⟨w0, w1, w2, w3, rfl⟩
  have hw := fun d (hd : d ∈ tables_1) => atoms_spec (ws := Jvm.Cond.code x code maxLocals ret :: tables_1) hat d (List.mem_cons_of_mem _ hd)
  obtain ⟨i0, ei0⟩ := isL_v g2a
  obtain rfl : w0 = (.long i0) := Option.some.inj ei0
  obtain ⟨i1, ei1⟩ := isL_v g3a
  obtain rfl : w1 = (.long i1) := Option.some.inj ei1
  obtain ⟨i2, ei2⟩ := isL_v g4a
  obtain rfl : w2 = (.long i2) := Option.some.inj ei2
  obtain ⟨i3, ei3⟩ := is_v g4b
  obtain rfl : w3 = (.int i3) := Option.some.inj ei3
  obtain ⟨hsets, hown0⟩ := atoms_of _ (rest_1_c_eq ▸ (show rest_1_c.before _ s = true from hrest))
  have hs := fun k (w : Jvm.Cond) (e : jdkStatics_1[k]? = some w) => hsets w (List.mem_of_getElem? e)
  obtain ⟨cs, vcs⟩ := is_v (Cond.before_iff.mp (hs 1 _ rfl))
  have Tc := Sta.start vcs (Or.inl (hs 0 _ rfl))
  have ncs : cs.toInt ≠ 0 := own_csne vcs (Cond.before_iff.mp (hs 2 _ rfl))
  obtain ⟨em, vem⟩ := exa_v (Cond.before_iff.mp (hs 11 _ rfl))
  have Te := Sta.start vem (Or.inl (hs 10 _ rfl))
  obtain ⟨n1, n2⟩ := and_e hn
  have Tp := Sta.start (sta_long n1) (Or.inr ⟨(hw _ (List.mem_of_getElem? (i := 3) rfl)), (hw _ (List.mem_of_getElem? (i := 28) rfl))⟩)
  have Tw := Sta.start (sta_long n2) (Or.inr ⟨(hw _ (List.mem_of_getElem? (i := 3) rfl)), (hw _ (List.mem_of_getElem? (i := 207) rfl))⟩)
  obtain ⟨n, o, h1, h2, h3, _, L, rfl, ⟨N, ⟨r, rfl, hr⟩⟩, -, hq⟩ := rm0 l s _ hw s.heap.size tables_1 i0 i1 i2 i3 cs em s.heap (Nat.le_refl _) (Old.start s) Tc ncs Te Tp Tw p e ha hc hk s m _ below hf ((Spec.applies_iff_loose hf).mp happ).1 ⟨rfl, State.Warmed39.refl s, rfl, CHv.start (own_ew hw) (fun p hp => hcalls.1 p hp) (hs 2 _ rfl) (hw _ (List.mem_of_getElem? (i := 48) rfl)) (hw _ (List.mem_of_getElem? (i := 54) rfl))⟩ trivial
  have hr1 : r = 1 := hr.2
  subst hr1
  refine ⟨n, _, h1, h2, h3, hpost _ _ _ _ _ _ ⟨Cond.after_iff.mpr rfl, Cond.after_iff.mpr (eq_i res_at (Term.int_eval (1)) rfl), trivial⟩ ⟨hq.1, hq.2.1, hq.2.2.1, (hq.2.2.2.sift fun y hy => Or.inr (N y hy)).mono (by decide) (by decide)⟩⟩
theorem main_1_1 : Claimed_1_1 := comes_1 fun _ _ _ _ _ _ h hF => ⟨h.1, hF⟩
theorem main_1_2 : Claimed_1_2 := comes_1 fun _ _ _ _ _ _ h hF => ⟨h.2.1, hF⟩
end Jvm.Pilot.@@N@@
namespace Jvm.Pilot.@@N@@
open Jvm Jvm.ClassFile Sem Op Lib Jvm.Free Jvm.Stand Jvm.Pilot.@@N@@.Jvm.D
/-! MADE BY PROGRAM (witnessworld.py) out of the Statement's table words and the real class files: 24 classes; the members and pool entries that the words name. The judged class is class 1, her method 1. -/
namespace start1
open Jvm.ClassFile
def u (s : String) : CpInfo := .utf8 (stringToUtf16 s)
/-- a pool by its gaps: so many unusable entries, then the entry; so many at the end -/
def gap : Nat → List CpInfo → List CpInfo
  | 0, r => r
  | n + 1, r => .unusable :: gap n r
def poolList (es : List (Nat × CpInfo)) (last : Nat) : List CpInfo := es.foldr (fun e r => gap e.1 (e.2 :: r)) (gap last [])
def pool (es : List (Nat × CpInfo)) (last : Nat) : Array CpInfo := ⟨poolList es last⟩
def fileOf (pool : Array CpInfo) (this : Nat) (attrs : Array Attribute := #[]) (ms : Array MethodInfo := #[]) (fl : Nat := 33) (sup : Nat := 0) (ifs : Array Nat := #[]) (fds : Array FieldInfo := #[]) : ClassFile where
  minorVersion := 0
  majorVersion := 65
  constantPool := pool
  accessFlags := fl
  thisClass := this
  superClass := sup
  interfaces := ifs
  fields := fds
  methods := ms
  attributes := attrs
def plain (name : String) (sup : Option ClassId) : Class where
  name := name
  kind := .ordinary
  loader := none
  accessFlags := 33
  super := sup
  interfaces := #[]
  cf := none
  fields := #[]
  methods := #[]
  instanceTypes := #[]
  staticTypes := #[]
  resolved := #[]
  callSites := []
  init := .initialized
  statics := none
  mirror := none

def pool0 : Array CpInfo := pool [(5, u "<init>"), (0, u "()V"), (1, .class_ 10), (1, u "java/lang/Object")] 113

def k0c0 : Code := { maxStack := 0, maxLocals := 1, code := object_method_1_code, exceptionTable := #[], attributes := #[] }
def k0m0 : Method := { name := "<init>", desc := "()V", sig := { parameters := [], returnType := none }, accessFlags := 1, code := some k0c0 }
/-- java/lang/Object -/
def k0 : Class := { plain "java/lang/Object" none with
  accessFlags := 33
  interfaces := #[]
  cf := some (fileOf pool0 8 #[] #[{ accessFlags := 1, nameIndex := 5, descriptorIndex := 6, attributes := #[] }] 33 0 #[] #[])
  fields := #[]
  methods := #[k0m0]
  instanceTypes := #[]
  staticTypes := #[]
  resolved := Array.replicate 124 none
  statics := none }

def pool1 : Array CpInfo := pool [(2, .class_ 4), (0, .nameAndType 5 6), (0, u "java/lang/Object"), (0, u "<init>"), (0, u "()V"), (0, .long 100000000), (1, .class_ 10), (0, u "com/example/steady_quorum/steadyquorum/server/AcceptFailures"), (0, .methodref 9 3), (0, .methodref 9 13), (0, .nameAndType 14 15), (0, u "failed"), (0, u "(Ljava/io/IOException;J)Ljava/util/Optional;"), (0, .methodref 9 17), (0, .nameAndType 18 19), (0, u "resumeDue"), (0, u "(J)Z"), (0, .methodref 21 22), (0, .class_ 23), (0, .nameAndType 24 25), (0, u "java/lang/Math"), (0, u "max"), (0, u "(JJ)J"), (0, .methodref 9 27), (0, .nameAndType 28 29), (0, u "restLeftNanos"), (0, u "(J)J"), (0, .class_ 31), (0, u "com/example/steady_quorum/steadyquorum/server/AcceptFailuresResumeDuePinLaw"), (2, u "law"), (0, u "(JJJI)Z")] 3

def k1m0 : Method := { name := "<init>", desc := "()V", sig := { parameters := [], returnType := none }, accessFlags := 1, code := none }
def k1c1 : Code := { maxStack := 6, maxLocals := 26, code := code, exceptionTable := #[], attributes := #[] }
def k1m1 : Method := { name := "law", desc := "(JJJI)Z", sig := { parameters := [.long, .long, .long, .int], returnType := some .boolean }, accessFlags := 9, code := some k1c1 }
/-- com/example/steady_quorum/steadyquorum/server/AcceptFailuresResumeDuePinLaw -/
def k1 : Class := { plain "com/example/steady_quorum/steadyquorum/server/AcceptFailuresResumeDuePinLaw" (some 0) with
  accessFlags := 49
  interfaces := #[]
  cf := some (fileOf pool1 30 #[] #[{ accessFlags := 1, nameIndex := 5, descriptorIndex := 6, attributes := #[] }, { accessFlags := 9, nameIndex := 34, descriptorIndex := 35, attributes := #[] }] 49 2 #[] #[])
  fields := #[]
  methods := #[k1m0, k1m1]
  instanceTypes := #[]
  staticTypes := #[]
  resolved := Array.replicate 39 none
  statics := none }

def pool2 : Array CpInfo := pool [(1, .methodref 2 3), (0, .class_ 4), (0, .nameAndType 5 6), (0, u "java/lang/Object"), (0, u "<init>"), (0, u "()V"), (0, .fieldref 8 9), (0, .class_ 10), (0, .nameAndType 11 12), (0, u "com/example/steady_quorum/steadyquorum/server/AcceptFailures"), (0, u "resting"), (0, u "Z"), (0, .fieldref 8 14), (0, .nameAndType 15 16), (0, u "PAUSE_NANOS"), (0, u "J"), (0, .fieldref 8 18), (0, .nameAndType 19 16), (0, u "restEndsAt"), (0, .fieldref 8 21), (0, .nameAndType 22 12), (0, u "warned"), (0, .fieldref 8 24), (0, .nameAndType 25 16), (0, u "warnedAt"), (0, .fieldref 8 27), (0, .nameAndType 28 16), (0, u "WARNING_INTERVAL_NANOS"), (0, .class_ 30), (0, u "java/lang/StringBuilder"), (0, .methodref 29 3), (0, .string 33), (0, u "cannot accept client connections, trying again every 100 ms: "), (0, .methodref 29 35), (0, .nameAndType 36 37), (0, u "append"), (0, u "(Ljava/lang/String;)Ljava/lang/StringBuilder;"), (0, .methodref 29 39), (0, .nameAndType 36 40), (0, u "(Ljava/lang/Object;)Ljava/lang/StringBuilder;"), (0, .methodref 29 42), (0, .nameAndType 43 44), (0, u "toString"), (0, u "()Ljava/lang/String;"), (0, .fieldref 8 46), (0, .nameAndType 47 16), (0, u "unwarned"), (7, .fieldref 8 56), (0, .nameAndType 57 12), (0, u "endUntold"), (0, .methodref 59 60), (0, .class_ 61), (0, .nameAndType 62 63), (0, u "java/util/Optional"), (0, u "ofNullable"), (0, u "(Ljava/lang/Object;)Ljava/util/Optional;"), (2, .methodref 67 68), (0, .class_ 69), (0, .nameAndType 70 71), (0, u "java/lang/Math"), (0, u "max"), (0, u "(JJ)J"), (11, u "(J)J"), (5, u "PAUSE_MILLIS"), (1, u "WARNING_INTERVAL_SECONDS"), (2, u "failed"), (0, u "(Ljava/io/IOException;J)Ljava/util/Optional;"), (8, u "restLeftNanos"), (0, u "resumeDue"), (0, u "(J)Z")] 3

def k2c0 : Code := { maxStack := 1, maxLocals := 1, code := prog_78_method_1_code, exceptionTable := #[], attributes := #[] }
def k2m0 : Method := { name := "<init>", desc := "()V", sig := { parameters := [], returnType := none }, accessFlags := 0, code := some k2c0 }
def k2c1 : Code := { maxStack := 5, maxLocals := 5, code := prog_78_method_2_code, exceptionTable := #[], attributes := #[] }
def k2m1 : Method := { name := "failed", desc := "(Ljava/io/IOException;J)Ljava/util/Optional;", sig := { parameters := [(.object "java/io/IOException"), .long], returnType := some (.object "java/util/Optional") }, accessFlags := 0, code := some k2c1 }
def k2c2 : Code := { maxStack := 6, maxLocals := 3, code := prog_78_method_4_code, exceptionTable := #[], attributes := #[] }
def k2m2 : Method := { name := "restLeftNanos", desc := "(J)J", sig := { parameters := [.long], returnType := some .long }, accessFlags := 0, code := some k2c2 }
def k2c3 : Code := { maxStack := 4, maxLocals := 4, code := prog_78_method_5_code, exceptionTable := #[], attributes := #[] }
def k2m3 : Method := { name := "resumeDue", desc := "(J)Z", sig := { parameters := [.long], returnType := some .boolean }, accessFlags := 0, code := some k2c3 }
/-- com/example/steady_quorum/steadyquorum/server/AcceptFailures -/
def k2 : Class := { plain "com/example/steady_quorum/steadyquorum/server/AcceptFailures" (some 0) with
  accessFlags := 32
  interfaces := #[]
  cf := some (fileOf pool2 8 #[] #[{ accessFlags := 0, nameIndex := 5, descriptorIndex := 6, attributes := #[] }, { accessFlags := 0, nameIndex := 94, descriptorIndex := 95, attributes := #[] }, { accessFlags := 0, nameIndex := 104, descriptorIndex := 83, attributes := #[] }, { accessFlags := 0, nameIndex := 105, descriptorIndex := 106, attributes := #[] }] 32 2 #[] #[{ accessFlags := 26, nameIndex := 89, descriptorIndex := 16, attributes := #[] }, { accessFlags := 26, nameIndex := 91, descriptorIndex := 16, attributes := #[] }, { accessFlags := 26, nameIndex := 15, descriptorIndex := 16, attributes := #[] }, { accessFlags := 26, nameIndex := 28, descriptorIndex := 16, attributes := #[] }, { accessFlags := 2, nameIndex := 11, descriptorIndex := 12, attributes := #[] }, { accessFlags := 2, nameIndex := 19, descriptorIndex := 16, attributes := #[] }, { accessFlags := 2, nameIndex := 22, descriptorIndex := 12, attributes := #[] }, { accessFlags := 2, nameIndex := 25, descriptorIndex := 16, attributes := #[] }, { accessFlags := 2, nameIndex := 47, descriptorIndex := 16, attributes := #[] }, { accessFlags := 2, nameIndex := 57, descriptorIndex := 12, attributes := #[] }])
  fields := #[{ name := "PAUSE_MILLIS", type := .long, accessFlags := 26, slot := 0, constantValue := 0 }, { name := "WARNING_INTERVAL_SECONDS", type := .long, accessFlags := 26, slot := 1, constantValue := 0 }, { name := "PAUSE_NANOS", type := .long, accessFlags := 26, slot := 2, constantValue := 0 }, { name := "WARNING_INTERVAL_NANOS", type := .long, accessFlags := 26, slot := 3, constantValue := 0 }, { name := "resting", type := .boolean, accessFlags := 2, slot := 0, constantValue := 0 }, { name := "restEndsAt", type := .long, accessFlags := 2, slot := 1, constantValue := 0 }, { name := "warned", type := .boolean, accessFlags := 2, slot := 2, constantValue := 0 }, { name := "warnedAt", type := .long, accessFlags := 2, slot := 3, constantValue := 0 }, { name := "unwarned", type := .long, accessFlags := 2, slot := 4, constantValue := 0 }, { name := "endUntold", type := .boolean, accessFlags := 2, slot := 5, constantValue := 0 }]
  methods := #[k2m0, k2m1, k2m2, k2m3]
  instanceTypes := #[.boolean, .long, .boolean, .long, .long, .boolean]
  staticTypes := #[.long, .long, .long, .long]
  resolved := Array.replicate 110 none
  statics := some 0 }

def pool3 : Array CpInfo := pool [(1, .class_ 2), (0, u "java/lang/Appendable"), (0, .class_ 4), (0, u "java/lang/Object")] 9

/-- java/lang/Appendable -/
def k3 : Class := { plain "java/lang/Appendable" (some 0) with
  accessFlags := 1537
  interfaces := #[]
  cf := some (fileOf pool3 1 #[] #[] 1537 3 #[] #[])
  fields := #[]
  methods := #[]
  instanceTypes := #[]
  staticTypes := #[]
  resolved := Array.replicate 14 none
  statics := none }

def pool4 : Array CpInfo := pool [(2, .class_ 4), (1, u "java/lang/CharSequence"), (42, .class_ 48), (0, u "java/lang/CharSequence$1CodePointIterator"), (10, .class_ 60), (0, u "java/lang/CharSequence$1CharIterator"), (5, .class_ 67), (0, u "java/lang/Object")] 63

/-- java/lang/CharSequence -/
def k4 : Class := { plain "java/lang/CharSequence" (some 0) with
  accessFlags := 1537
  interfaces := #[]
  cf := some (fileOf pool4 2 #[.nestMembers #[47, 59]] #[] 1537 66 #[] #[])
  fields := #[]
  methods := #[]
  instanceTypes := #[]
  staticTypes := #[]
  resolved := Array.replicate 131 none
  statics := none }

def pool5 : Array CpInfo := pool [(1, .class_ 2), (0, u "java/lang/String"), (0, .methodref 4 5), (0, .class_ 6), (0, .nameAndType 7 8), (0, u "java/lang/Object"), (0, u "<init>"), (0, u "()V"), (1, .class_ 12), (1, u "java/lang/AbstractStringBuilder"), (0, u "EMPTYVALUE"), (0, u "[B"), (0, .fieldref 10 16), (0, .nameAndType 17 14), (0, u "value"), (0, .fieldref 1 19), (0, .nameAndType 20 21), (0, u "COMPACT_STRINGS"), (0, u "Z"), (0, .fieldref 10 23), (0, .nameAndType 24 25), (0, u "coder"), (0, u "B"), (6, .methodref 1 33), (0, .nameAndType 34 35), (0, u "length"), (0, u "()I"), (3, .integer 2147483647), (0, .methodref 1 41), (0, .nameAndType 24 42), (0, u "()B"), (2, u "append"), (0, u "(Ljava/lang/String;)Ljava/lang/AbstractStringBuilder;"), (1, .class_ 49), (0, u "java/lang/CharSequence"), (19, u "(Ljava/lang/String;)V"), (5, u "maybeLatin1"), (3, .fieldref 10 80), (0, .nameAndType 81 82), (0, u "count"), (0, u "I"), (2, u "isLatin1"), (0, u "()Z"), (13, .methodref 10 101), (0, .nameAndType 102 103), (0, u "ensureCapacityInternal"), (0, u "(I)V"), (0, .methodref 10 105), (0, .nameAndType 106 107), (0, u "newCapacity"), (0, u "(I)I"), (0, .methodref 109 110), (0, .class_ 111), (0, .nameAndType 112 113), (0, u "java/util/Arrays"), (0, u "copyOf"), (0, u "([BI)[B"), (0, .methodref 115 116), (0, .class_ 117), (0, .nameAndType 118 119), (0, u "jdk/internal/util/ArraysSupport"), (0, u "newLength"), (0, u "(III)I"), (88, .methodref 10 209), (0, .nameAndType 210 211), (0, u "putStringAt"), (0, u "(ILjava/lang/String;)V"), (5, u "inflateIfNeededFor"), (2, .nameAndType 221 222), (0, u "getBytes"), (0, u "([BIB)V"), (174, .methodref 10 398), (0, .nameAndType 217 69), (0, .methodref 1 220), (3, u "()[B"), (40, .class_ 445), (0, u "java/lang/Appendable"), (106, u "getValue")] 56

def k5m0 : Method := { name := "<init>", desc := "()V", sig := { parameters := [], returnType := none }, accessFlags := 0, code := none }
def k5c1 : Code := { maxStack := 2, maxLocals := 2, code := jdk_68_method_2_code, exceptionTable := #[], attributes := #[] }
def k5m1 : Method := { name := "<init>", desc := "(I)V", sig := { parameters := [.int], returnType := none }, accessFlags := 0, code := some k5c1 }
def k5c2 : Code := { maxStack := 1, maxLocals := 1, code := jdk_68_method_6_code, exceptionTable := #[], attributes := #[] }
def k5m2 : Method := { name := "length", desc := "()I", sig := { parameters := [], returnType := some .int }, accessFlags := 1, code := some k5c2 }
def k5c3 : Code := { maxStack := 4, maxLocals := 3, code := jdk_68_method_9_code, exceptionTable := #[], attributes := #[] }
def k5m3 : Method := { name := "ensureCapacityInternal", desc := "(I)V", sig := { parameters := [.int], returnType := none }, accessFlags := 2, code := some k5c3 }
def k5c4 : Code := { maxStack := 5, maxLocals := 6, code := jdk_68_method_10_code, exceptionTable := #[], attributes := #[] }
def k5m4 : Method := { name := "newCapacity", desc := "(I)I", sig := { parameters := [.int], returnType := some .int }, accessFlags := 2, code := some k5c4 }
def k5c5 : Code := { maxStack := 3, maxLocals := 3, code := jdk_68_method_22_code, exceptionTable := #[], attributes := #[] }
def k5m5 : Method := { name := "append", desc := "(Ljava/lang/String;)Ljava/lang/AbstractStringBuilder;", sig := { parameters := [(.object "java/lang/String")], returnType := some (.object "java/lang/AbstractStringBuilder") }, accessFlags := 1, code := some k5c5 }
def k5c6 : Code := { maxStack := 1, maxLocals := 1, code := jdk_68_method_64_code, exceptionTable := #[], attributes := #[] }
def k5m6 : Method := { name := "getValue", desc := "()[B", sig := { parameters := [], returnType := some (.array .byte) }, accessFlags := 16, code := some k5c6 }
def k5c7 : Code := { maxStack := 1, maxLocals := 1, code := jdk_68_method_68_code, exceptionTable := #[], attributes := #[] }
def k5m7 : Method := { name := "isLatin1", desc := "()Z", sig := { parameters := [], returnType := some .boolean }, accessFlags := 16, code := some k5c7 }
def k5c8 : Code := { maxStack := 2, maxLocals := 2, code := jdk_68_method_71_code, exceptionTable := #[], attributes := #[] }
def k5m8 : Method := { name := "inflateIfNeededFor", desc := "(Ljava/lang/String;)V", sig := { parameters := [(.object "java/lang/String")], returnType := none }, accessFlags := 2, code := some k5c8 }
def k5c9 : Code := { maxStack := 4, maxLocals := 3, code := jdk_68_method_73_code, exceptionTable := #[], attributes := #[] }
def k5m9 : Method := { name := "putStringAt", desc := "(ILjava/lang/String;)V", sig := { parameters := [.int, (.object "java/lang/String")], returnType := none }, accessFlags := 2, code := some k5c9 }
/-- java/lang/AbstractStringBuilder -/
def k5 : Class := { plain "java/lang/AbstractStringBuilder" (some 0) with
  accessFlags := 1056
  interfaces := #[3, 4]
  cf := some (fileOf pool5 10 #[] #[{ accessFlags := 0, nameIndex := 7, descriptorIndex := 8, attributes := #[] }, { accessFlags := 0, nameIndex := 7, descriptorIndex := 103, attributes := #[] }, { accessFlags := 1, nameIndex := 34, descriptorIndex := 35, attributes := #[] }, { accessFlags := 2, nameIndex := 102, descriptorIndex := 103, attributes := #[] }, { accessFlags := 2, nameIndex := 106, descriptorIndex := 107, attributes := #[] }, { accessFlags := 1, nameIndex := 45, descriptorIndex := 46, attributes := #[] }, { accessFlags := 16, nameIndex := 552, descriptorIndex := 403, attributes := #[] }, { accessFlags := 16, nameIndex := 85, descriptorIndex := 86, attributes := #[] }, { accessFlags := 2, nameIndex := 217, descriptorIndex := 69, attributes := #[] }, { accessFlags := 2, nameIndex := 210, descriptorIndex := 211, attributes := #[] }] 1056 4 #[444, 48] #[{ accessFlags := 0, nameIndex := 17, descriptorIndex := 14, attributes := #[] }, { accessFlags := 0, nameIndex := 24, descriptorIndex := 25, attributes := #[] }, { accessFlags := 0, nameIndex := 75, descriptorIndex := 21, attributes := #[] }, { accessFlags := 0, nameIndex := 81, descriptorIndex := 82, attributes := #[] }, { accessFlags := 26, nameIndex := 13, descriptorIndex := 14, attributes := #[] }])
  fields := #[{ name := "value", type := (.array .byte), accessFlags := 0, slot := 0, constantValue := 0 }, { name := "coder", type := .byte, accessFlags := 0, slot := 1, constantValue := 0 }, { name := "maybeLatin1", type := .boolean, accessFlags := 0, slot := 2, constantValue := 0 }, { name := "count", type := .int, accessFlags := 0, slot := 3, constantValue := 0 }, { name := "EMPTYVALUE", type := (.array .byte), accessFlags := 26, slot := 0, constantValue := 0 }]
  methods := #[k5m0, k5m1, k5m2, k5m3, k5m4, k5m5, k5m6, k5m7, k5m8, k5m9]
  instanceTypes := #[(.array .byte), .byte, .boolean, .int]
  staticTypes := #[(.array .byte)]
  resolved := Array.replicate 609 none
  statics := none }

def pool6 : Array CpInfo := pool [(1, .class_ 2), (0, u "java/io/Serializable"), (0, .class_ 4), (0, u "java/lang/Object")] 2

/-- java/io/Serializable -/
def k6 : Class := { plain "java/io/Serializable" (some 0) with
  accessFlags := 1537
  interfaces := #[]
  cf := some (fileOf pool6 1 #[] #[] 1537 3 #[] #[])
  fields := #[]
  methods := #[]
  instanceTypes := #[]
  staticTypes := #[]
  resolved := Array.replicate 7 none
  statics := none }

def pool7 : Array CpInfo := pool [(1, .class_ 2), (0, u "java/lang/Comparable"), (0, .class_ 4), (0, u "java/lang/Object")] 7

/-- java/lang/Comparable -/
def k7 : Class := { plain "java/lang/Comparable" (some 0) with
  accessFlags := 1537
  interfaces := #[]
  cf := some (fileOf pool7 1 #[] #[] 1537 3 #[] #[])
  fields := #[]
  methods := #[]
  instanceTypes := #[]
  staticTypes := #[]
  resolved := Array.replicate 12 none
  statics := none }

def pool8 : Array CpInfo := pool [(1, .methodref 2 3), (0, .class_ 4), (0, .nameAndType 5 6), (0, u "java/lang/AbstractStringBuilder"), (0, u "<init>"), (0, u "(I)V"), (10, .methodref 18 19), (0, .class_ 20), (0, .nameAndType 21 22), (0, u "java/lang/String"), (0, u "valueOf"), (0, u "(Ljava/lang/Object;)Ljava/lang/String;"), (0, .methodref 24 25), (0, .class_ 26), (0, .nameAndType 27 28), (0, u "java/lang/StringBuilder"), (0, u "append"), (0, u "(Ljava/lang/String;)Ljava/lang/StringBuilder;"), (0, .methodref 2 30), (0, .nameAndType 27 31), (0, u "(Ljava/lang/String;)Ljava/lang/AbstractStringBuilder;"), (105, .methodref 18 138), (0, .nameAndType 5 139), (0, u "(Ljava/lang/StringBuilder;)V"), (5, u "()V"), (10, u "()I"), (150, u "(Ljava/lang/Object;)Ljava/lang/StringBuilder;"), (35, .methodref 2 344), (0, .nameAndType 345 156), (0, u "length"), (3, .class_ 350), (0, u "java/lang/Appendable"), (0, .class_ 352), (0, u "java/io/Serializable"), (0, .class_ 354), (0, u "java/lang/Comparable"), (0, .class_ 356), (0, u "java/lang/CharSequence"), (0, u "serialVersionUID"), (0, u "J"), (40, u "toString"), (0, u "()Ljava/lang/String;")] 21

def k8c0 : Code := { maxStack := 2, maxLocals := 1, code := jdk_67_method_1_code, exceptionTable := #[], attributes := #[] }
def k8m0 : Method := { name := "<init>", desc := "()V", sig := { parameters := [], returnType := none }, accessFlags := 1, code := some k8c0 }
def k8c1 : Code := { maxStack := 2, maxLocals := 2, code := jdk_67_method_6_code, exceptionTable := #[], attributes := #[] }
def k8m1 : Method := { name := "append", desc := "(Ljava/lang/Object;)Ljava/lang/StringBuilder;", sig := { parameters := [(.object "java/lang/Object")], returnType := some (.object "java/lang/StringBuilder") }, accessFlags := 1, code := some k8c1 }
def k8c2 : Code := { maxStack := 2, maxLocals := 2, code := jdk_67_method_7_code, exceptionTable := #[], attributes := #[] }
def k8m2 : Method := { name := "append", desc := "(Ljava/lang/String;)Ljava/lang/StringBuilder;", sig := { parameters := [(.object "java/lang/String")], returnType := some (.object "java/lang/StringBuilder") }, accessFlags := 1, code := some k8c2 }
def k8c3 : Code := { maxStack := 3, maxLocals := 1, code := jdk_67_method_42_code, exceptionTable := #[], attributes := #[] }
def k8m3 : Method := { name := "toString", desc := "()Ljava/lang/String;", sig := { parameters := [], returnType := some (.object "java/lang/String") }, accessFlags := 1, code := some k8c3 }
def k8c4 : Code := { maxStack := 1, maxLocals := 1, code := jdk_67_method_93_code, exceptionTable := #[], attributes := #[] }
def k8m4 : Method := { name := "length", desc := "()I", sig := { parameters := [], returnType := some .int }, accessFlags := 4161, code := some k8c4 }
/-- java/lang/StringBuilder -/
def k8 : Class := { plain "java/lang/StringBuilder" (some 5) with
  accessFlags := 49
  interfaces := #[3, 6, 7, 4]
  cf := some (fileOf pool8 24 #[] #[{ accessFlags := 1, nameIndex := 5, descriptorIndex := 145, attributes := #[] }, { accessFlags := 1, nameIndex := 27, descriptorIndex := 307, attributes := #[] }, { accessFlags := 1, nameIndex := 27, descriptorIndex := 28, attributes := #[] }, { accessFlags := 1, nameIndex := 399, descriptorIndex := 400, attributes := #[] }, { accessFlags := 4161, nameIndex := 345, descriptorIndex := 156, attributes := #[] }] 49 2 #[349, 351, 353, 355] #[{ accessFlags := 24, nameIndex := 357, descriptorIndex := 358, attributes := #[] }])
  fields := #[{ name := "serialVersionUID", type := .long, accessFlags := 24, slot := 0, constantValue := 0 }]
  methods := #[k8m0, k8m1, k8m2, k8m3, k8m4]
  instanceTypes := #[(.array .byte), .byte, .boolean, .int]
  staticTypes := #[.long]
  resolved := Array.replicate 422 none
  statics := none }

def pool9 : Array CpInfo := pool [(1, .class_ 2), (0, u "java/lang/constant/Constable"), (0, .class_ 4), (0, u "java/lang/Object")] 6

/-- java/lang/constant/Constable -/
def k9 : Class := { plain "java/lang/constant/Constable" (some 0) with
  accessFlags := 1537
  interfaces := #[]
  cf := some (fileOf pool9 1 #[] #[] 1537 3 #[] #[])
  fields := #[]
  methods := #[]
  instanceTypes := #[]
  staticTypes := #[]
  resolved := Array.replicate 11 none
  statics := none }

def pool10 : Array CpInfo := pool [(1, .class_ 2), (0, u "java/lang/constant/ConstantDesc"), (0, .class_ 4), (0, u "java/lang/Object")] 32

/-- java/lang/constant/ConstantDesc -/
def k10 : Class := { plain "java/lang/constant/ConstantDesc" (some 0) with
  accessFlags := 1537
  interfaces := #[]
  cf := some (fileOf pool10 1 #[] #[] 1537 3 #[] #[])
  fields := #[]
  methods := #[]
  instanceTypes := #[]
  staticTypes := #[]
  resolved := Array.replicate 37 none
  statics := none }

def pool11 : Array CpInfo := pool [(1, .methodref 2 3), (0, .class_ 4), (0, .nameAndType 5 6), (0, u "java/lang/Object"), (0, u "<init>"), (0, u "()V"), (2, .fieldref 10 11), (0, .class_ 12), (0, .nameAndType 13 14), (0, u "java/lang/String"), (0, u "value"), (0, u "[B"), (0, .fieldref 10 16), (0, .nameAndType 17 18), (0, u "coder"), (0, u "B"), (2, u "hash"), (0, u "I"), (2, u "hashIsZero"), (0, u "Z"), (11, .fieldref 10 39), (0, .nameAndType 40 26), (0, u "COMPACT_STRINGS"), (13, .methodref 55 56), (0, .class_ 57), (0, .nameAndType 58 59), (0, u "java/util/Arrays"), (0, u "copyOfRange"), (0, u "([BII)[B"), (82, u "()Z"), (50, .class_ 195), (1, u "java/lang/System"), (16, .methodref 193 213), (0, .nameAndType 214 215), (0, u "arraycopy"), (0, u "(Ljava/lang/Object;ILjava/lang/Object;II)V"), (118, u "()I"), (0, .methodref 10 336), (0, .nameAndType 17 337), (0, u "()B"), (2, u "()[B"), (148, .methodref 10 490), (0, .nameAndType 5 491), (0, u "(Ljava/lang/AbstractStringBuilder;Ljava/lang/Void;)V"), (1, .nameAndType 494 142), (0, u "isLatin1"), (11, .nameAndType 507 334), (0, u "length"), (24, u "getBytes"), (16, .methodref 550 506), (0, .class_ 551), (0, u "java/lang/AbstractStringBuilder"), (0, .methodref 550 553), (0, .nameAndType 554 340), (0, u "getValue"), (20, .class_ 576), (0, u "java/lang/CharSequence"), (22, u "CASE_INSENSITIVE_ORDER"), (0, u "Ljava/util/Comparator;"), (181, u "valueOf"), (25, u "(Ljava/lang/Object;)Ljava/lang/String;"), (12, u "([BIB)V"), (183, .string 1006), (0, u "null"), (40, .methodref 550 493), (53, u "serialPersistentFields"), (0, u "[Ljava/io/ObjectStreamField;"), (0, .class_ 1104), (0, u "java/lang/String$CaseInsensitiveComparator"), (1, .class_ 1107), (0, u "java/io/Serializable"), (0, .class_ 1109), (0, u "java/lang/Comparable"), (0, .class_ 1111), (0, u "java/lang/constant/Constable"), (0, .class_ 1113), (0, u "java/lang/constant/ConstantDesc"), (2, u "serialVersionUID"), (0, u "J"), (3, u "REPL"), (0, u "C"), (2, u "LATIN1"), (1, u "UTF16"), (105, u "(Ljava/lang/StringBuilder;)V")] 217

def k11m0 : Method := { name := "<init>", desc := "()V", sig := { parameters := [], returnType := none }, accessFlags := 1, code := none }
def k11c1 : Code := { maxStack := 3, maxLocals := 2, code := jdk_42_method_53_code, exceptionTable := #[], attributes := #[] }
def k11m1 : Method := { name := "<init>", desc := "(Ljava/lang/StringBuilder;)V", sig := { parameters := [(.object "java/lang/StringBuilder")], returnType := none }, accessFlags := 1, code := some k11c1 }
def k11c2 : Code := { maxStack := 2, maxLocals := 1, code := jdk_42_method_54_code, exceptionTable := #[], attributes := #[] }
def k11m2 : Method := { name := "length", desc := "()I", sig := { parameters := [], returnType := some .int }, accessFlags := 1, code := some k11c2 }
def k11c3 : Code := { maxStack := 1, maxLocals := 1, code := jdk_42_method_133_code, exceptionTable := #[], attributes := #[] }
def k11m3 : Method := { name := "valueOf", desc := "(Ljava/lang/Object;)Ljava/lang/String;", sig := { parameters := [(.object "java/lang/Object")], returnType := some (.object "java/lang/String") }, accessFlags := 9, code := some k11c3 }
def k11c4 : Code := { maxStack := 5, maxLocals := 4, code := jdk_42_method_147_code, exceptionTable := #[], attributes := #[] }
def k11m4 : Method := { name := "getBytes", desc := "([BIB)V", sig := { parameters := [(.array .byte), .int, .byte], returnType := none }, accessFlags := 0, code := some k11c4 }
def k11c5 : Code := { maxStack := 5, maxLocals := 5, code := jdk_42_method_150_code, exceptionTable := #[], attributes := #[] }
def k11m5 : Method := { name := "<init>", desc := "(Ljava/lang/AbstractStringBuilder;Ljava/lang/Void;)V", sig := { parameters := [(.object "java/lang/AbstractStringBuilder"), (.object "java/lang/Void")], returnType := none }, accessFlags := 0, code := some k11c5 }
def k11c6 : Code := { maxStack := 1, maxLocals := 1, code := jdk_42_method_152_code, exceptionTable := #[], attributes := #[] }
def k11m6 : Method := { name := "coder", desc := "()B", sig := { parameters := [], returnType := some .byte }, accessFlags := 0, code := some k11c6 }
/-- java/lang/String -/
def k11 : Class := { plain "java/lang/String" (some 0) with
  accessFlags := 49
  interfaces := #[6, 7, 4, 9, 10]
  cf := some (fileOf pool11 10 #[.nestMembers #[1103]] #[{ accessFlags := 1, nameIndex := 5, descriptorIndex := 6, attributes := #[] }, { accessFlags := 1, nameIndex := 5, descriptorIndex := 1233, attributes := #[] }, { accessFlags := 1, nameIndex := 507, descriptorIndex := 334, attributes := #[] }, { accessFlags := 9, nameIndex := 782, descriptorIndex := 808, attributes := #[] }, { accessFlags := 0, nameIndex := 532, descriptorIndex := 821, attributes := #[] }, { accessFlags := 0, nameIndex := 5, descriptorIndex := 491, attributes := #[] }, { accessFlags := 0, nameIndex := 17, descriptorIndex := 337, attributes := #[] }] 49 2 #[1106, 1108, 575, 1110, 1112] #[{ accessFlags := 18, nameIndex := 13, descriptorIndex := 14, attributes := #[] }, { accessFlags := 18, nameIndex := 17, descriptorIndex := 18, attributes := #[] }, { accessFlags := 2, nameIndex := 21, descriptorIndex := 22, attributes := #[] }, { accessFlags := 2, nameIndex := 25, descriptorIndex := 26, attributes := #[] }, { accessFlags := 26, nameIndex := 1116, descriptorIndex := 1117, attributes := #[] }, { accessFlags := 24, nameIndex := 40, descriptorIndex := 26, attributes := #[] }, { accessFlags := 26, nameIndex := 1101, descriptorIndex := 1102, attributes := #[] }, { accessFlags := 26, nameIndex := 1121, descriptorIndex := 1122, attributes := #[] }, { accessFlags := 25, nameIndex := 599, descriptorIndex := 600, attributes := #[] }, { accessFlags := 24, nameIndex := 1125, descriptorIndex := 18, attributes := #[] }, { accessFlags := 24, nameIndex := 1127, descriptorIndex := 18, attributes := #[] }])
  fields := #[{ name := "value", type := (.array .byte), accessFlags := 18, slot := 0, constantValue := 0 }, { name := "coder", type := .byte, accessFlags := 18, slot := 1, constantValue := 0 }, { name := "hash", type := .int, accessFlags := 2, slot := 2, constantValue := 0 }, { name := "hashIsZero", type := .boolean, accessFlags := 2, slot := 3, constantValue := 0 }, { name := "serialVersionUID", type := .long, accessFlags := 26, slot := 0, constantValue := 0 }, { name := "COMPACT_STRINGS", type := .boolean, accessFlags := 24, slot := 1, constantValue := 0 }, { name := "serialPersistentFields", type := (.array (.object "java/io/ObjectStreamField")), accessFlags := 26, slot := 2, constantValue := 0 }, { name := "REPL", type := .char, accessFlags := 26, slot := 3, constantValue := 0 }, { name := "CASE_INSENSITIVE_ORDER", type := (.object "java/util/Comparator"), accessFlags := 25, slot := 4, constantValue := 0 }, { name := "LATIN1", type := .byte, accessFlags := 24, slot := 5, constantValue := 0 }, { name := "UTF16", type := .byte, accessFlags := 24, slot := 6, constantValue := 0 }]
  methods := #[k11m0, k11m1, k11m2, k11m3, k11m4, k11m5, k11m6]
  instanceTypes := #[(.array .byte), .byte, .int, .boolean]
  staticTypes := #[.long, .boolean, (.array (.object "java/io/ObjectStreamField")), .char, (.object "java/util/Comparator"), .byte, .byte]
  resolved := Array.replicate 1451 none
  statics := some 1 }

def pool12 : Array CpInfo := pool [(9, u "<init>"), (6, .class_ 18), (1, u "java/lang/Object"), (0, u "()V"), (1, .class_ 23), (1, u "jdk/internal/util/ArraysSupport"), (0, u "LOG2_ARRAY_LONG_INDEX_SCALE"), (0, u "I"), (2, u "U"), (0, u "Ljdk/internal/misc/Unsafe;"), (8, u "BIG_ENDIAN"), (0, u "Z"), (8, u "LOG2_BYTE_BIT_SIZE"), (4, u "LOG2_ARRAY_INT_INDEX_SCALE"), (54, u "JLA"), (0, u "Ljdk/internal/access/JavaLangAccess;"), (11, u "LOG2_ARRAY_BOOLEAN_INDEX_SCALE"), (9, u "LOG2_ARRAY_BYTE_INDEX_SCALE"), (5, u "LOG2_ARRAY_CHAR_INDEX_SCALE"), (5, u "LOG2_ARRAY_SHORT_INDEX_SCALE"), (18, u "LOG2_ARRAY_FLOAT_INDEX_SCALE"), (24, u "LOG2_ARRAY_DOUBLE_INDEX_SCALE"), (6, .methodref 195 196), (0, .class_ 197), (0, .nameAndType 198 199), (0, u "java/lang/Math"), (0, u "max"), (0, u "(II)I"), (0, .integer 2147483639), (76, u "T_BOOLEAN"), (2, u "T_CHAR"), (1, u "T_FLOAT"), (1, u "T_DOUBLE"), (1, u "T_BYTE"), (1, u "T_SHORT"), (1, u "T_INT"), (1, u "T_LONG"), (1, u "SOFT_MAX_ARRAY_LENGTH"), (56, u "newLength"), (0, u "(III)I")] 25

def k12m0 : Method := { name := "<init>", desc := "()V", sig := { parameters := [], returnType := none }, accessFlags := 2, code := none }
def k12c1 : Code := { maxStack := 3, maxLocals := 4, code := jdk_48_method_27_code, exceptionTable := #[], attributes := #[] }
def k12m1 : Method := { name := "newLength", desc := "(III)I", sig := { parameters := [.int, .int, .int], returnType := some .int }, accessFlags := 9, code := some k12c1 }
/-- jdk/internal/util/ArraysSupport -/
def k12 : Class := { plain "jdk/internal/util/ArraysSupport" (some 0) with
  accessFlags := 33
  interfaces := #[]
  cf := some (fileOf pool12 21 #[] #[{ accessFlags := 2, nameIndex := 9, descriptorIndex := 19, attributes := #[] }, { accessFlags := 9, nameIndex := 351, descriptorIndex := 352, attributes := #[] }] 33 16 #[] #[{ accessFlags := 24, nameIndex := 28, descriptorIndex := 29, attributes := #[] }, { accessFlags := 26, nameIndex := 38, descriptorIndex := 39, attributes := #[] }, { accessFlags := 25, nameIndex := 121, descriptorIndex := 25, attributes := #[] }, { accessFlags := 25, nameIndex := 131, descriptorIndex := 25, attributes := #[] }, { accessFlags := 25, nameIndex := 137, descriptorIndex := 25, attributes := #[] }, { accessFlags := 25, nameIndex := 143, descriptorIndex := 25, attributes := #[] }, { accessFlags := 25, nameIndex := 53, descriptorIndex := 25, attributes := #[] }, { accessFlags := 25, nameIndex := 24, descriptorIndex := 25, attributes := #[] }, { accessFlags := 25, nameIndex := 162, descriptorIndex := 25, attributes := #[] }, { accessFlags := 25, nameIndex := 187, descriptorIndex := 25, attributes := #[] }, { accessFlags := 26, nameIndex := 48, descriptorIndex := 25, attributes := #[] }, { accessFlags := 25, nameIndex := 277, descriptorIndex := 25, attributes := #[] }, { accessFlags := 25, nameIndex := 280, descriptorIndex := 25, attributes := #[] }, { accessFlags := 25, nameIndex := 282, descriptorIndex := 25, attributes := #[] }, { accessFlags := 25, nameIndex := 284, descriptorIndex := 25, attributes := #[] }, { accessFlags := 25, nameIndex := 286, descriptorIndex := 25, attributes := #[] }, { accessFlags := 25, nameIndex := 288, descriptorIndex := 25, attributes := #[] }, { accessFlags := 25, nameIndex := 290, descriptorIndex := 25, attributes := #[] }, { accessFlags := 25, nameIndex := 292, descriptorIndex := 25, attributes := #[] }, { accessFlags := 26, nameIndex := 108, descriptorIndex := 109, attributes := #[] }, { accessFlags := 25, nameIndex := 294, descriptorIndex := 25, attributes := #[] }])
  fields := #[{ name := "U", type := (.object "jdk/internal/misc/Unsafe"), accessFlags := 24, slot := 0, constantValue := 0 }, { name := "BIG_ENDIAN", type := .boolean, accessFlags := 26, slot := 1, constantValue := 0 }, { name := "LOG2_ARRAY_BOOLEAN_INDEX_SCALE", type := .int, accessFlags := 25, slot := 2, constantValue := 0 }, { name := "LOG2_ARRAY_BYTE_INDEX_SCALE", type := .int, accessFlags := 25, slot := 3, constantValue := 0 }, { name := "LOG2_ARRAY_CHAR_INDEX_SCALE", type := .int, accessFlags := 25, slot := 4, constantValue := 0 }, { name := "LOG2_ARRAY_SHORT_INDEX_SCALE", type := .int, accessFlags := 25, slot := 5, constantValue := 0 }, { name := "LOG2_ARRAY_INT_INDEX_SCALE", type := .int, accessFlags := 25, slot := 6, constantValue := 0 }, { name := "LOG2_ARRAY_LONG_INDEX_SCALE", type := .int, accessFlags := 25, slot := 7, constantValue := 0 }, { name := "LOG2_ARRAY_FLOAT_INDEX_SCALE", type := .int, accessFlags := 25, slot := 8, constantValue := 0 }, { name := "LOG2_ARRAY_DOUBLE_INDEX_SCALE", type := .int, accessFlags := 25, slot := 9, constantValue := 0 }, { name := "LOG2_BYTE_BIT_SIZE", type := .int, accessFlags := 26, slot := 10, constantValue := 0 }, { name := "T_BOOLEAN", type := .int, accessFlags := 25, slot := 11, constantValue := 0 }, { name := "T_CHAR", type := .int, accessFlags := 25, slot := 12, constantValue := 0 }, { name := "T_FLOAT", type := .int, accessFlags := 25, slot := 13, constantValue := 0 }, { name := "T_DOUBLE", type := .int, accessFlags := 25, slot := 14, constantValue := 0 }, { name := "T_BYTE", type := .int, accessFlags := 25, slot := 15, constantValue := 0 }, { name := "T_SHORT", type := .int, accessFlags := 25, slot := 16, constantValue := 0 }, { name := "T_INT", type := .int, accessFlags := 25, slot := 17, constantValue := 0 }, { name := "T_LONG", type := .int, accessFlags := 25, slot := 18, constantValue := 0 }, { name := "JLA", type := (.object "jdk/internal/access/JavaLangAccess"), accessFlags := 26, slot := 19, constantValue := 0 }, { name := "SOFT_MAX_ARRAY_LENGTH", type := .int, accessFlags := 25, slot := 20, constantValue := 0 }]
  methods := #[k12m0, k12m1]
  instanceTypes := #[]
  staticTypes := #[(.object "jdk/internal/misc/Unsafe"), .boolean, .int, .int, .int, .int, .int, .int, .int, .int, .int, .int, .int, .int, .int, .int, .int, .int, .int, (.object "jdk/internal/access/JavaLangAccess"), .int]
  resolved := Array.replicate 378 none
  statics := none }

def pool13 : Array CpInfo := pool [(1, .class_ 2), (0, u "java/lang/Math"), (1, .class_ 6), (1, u "java/lang/Object"), (0, u "<init>"), (0, u "()V"), (89, .class_ 100), (1, u "java/lang/Math$RandomNumberGeneratorHolder"), (20, u "(JJ)J"), (50, u "negativeZeroFloatBits"), (0, u "J"), (2, u "negativeZeroDoubleBits"), (21, u "max"), (2, u "min"), (43, u "$assertionsDisabled"), (0, u "Z"), (88, u "(II)I"), (2, u "twoToTheDoubleScaleDown"), (0, u "D"), (4, u "twoToTheDoubleScaleUp"), (9, u "E"), (3, u "PI"), (2, u "TAU"), (2, u "DEGREES_TO_RADIANS"), (0, u "RADIANS_TO_DEGREES")] 94

def k13m0 : Method := { name := "<init>", desc := "()V", sig := { parameters := [], returnType := none }, accessFlags := 2, code := none }
def k13c1 : Code := { maxStack := 2, maxLocals := 2, code := jdk_29_method_65_code, exceptionTable := #[], attributes := #[] }
def k13m1 : Method := { name := "max", desc := "(II)I", sig := { parameters := [.int, .int], returnType := some .int }, accessFlags := 9, code := some k13c1 }
def k13c2 : Code := { maxStack := 4, maxLocals := 4, code := jdk_29_method_66_code, exceptionTable := #[], attributes := #[] }
def k13m2 : Method := { name := "max", desc := "(JJ)J", sig := { parameters := [.long, .long], returnType := some .long }, accessFlags := 9, code := some k13c2 }
def k13c3 : Code := { maxStack := 2, maxLocals := 2, code := jdk_29_method_69_code, exceptionTable := #[], attributes := #[] }
def k13m3 : Method := { name := "min", desc := "(II)I", sig := { parameters := [.int, .int], returnType := some .int }, accessFlags := 9, code := some k13c3 }
/-- java/lang/Math -/
def k13 : Class := { plain "java/lang/Math" (some 0) with
  accessFlags := 49
  interfaces := #[]
  cf := some (fileOf pool13 1 #[.nestMembers #[98]] #[{ accessFlags := 2, nameIndex := 7, descriptorIndex := 8, attributes := #[] }, { accessFlags := 9, nameIndex := 198, descriptorIndex := 335, attributes := #[] }, { accessFlags := 9, nameIndex := 198, descriptorIndex := 121, attributes := #[] }, { accessFlags := 9, nameIndex := 201, descriptorIndex := 335, attributes := #[] }] 49 4 #[] #[{ accessFlags := 25, nameIndex := 354, descriptorIndex := 339, attributes := #[] }, { accessFlags := 25, nameIndex := 358, descriptorIndex := 339, attributes := #[] }, { accessFlags := 25, nameIndex := 361, descriptorIndex := 339, attributes := #[] }, { accessFlags := 26, nameIndex := 364, descriptorIndex := 339, attributes := #[] }, { accessFlags := 26, nameIndex := 365, descriptorIndex := 339, attributes := #[] }, { accessFlags := 26, nameIndex := 172, descriptorIndex := 173, attributes := #[] }, { accessFlags := 26, nameIndex := 176, descriptorIndex := 173, attributes := #[] }, { accessFlags := 8, nameIndex := 344, descriptorIndex := 339, attributes := #[] }, { accessFlags := 8, nameIndex := 338, descriptorIndex := 339, attributes := #[] }, { accessFlags := 4120, nameIndex := 245, descriptorIndex := 246, attributes := #[] }])
  fields := #[{ name := "E", type := .double, accessFlags := 25, slot := 0, constantValue := 0 }, { name := "PI", type := .double, accessFlags := 25, slot := 1, constantValue := 0 }, { name := "TAU", type := .double, accessFlags := 25, slot := 2, constantValue := 0 }, { name := "DEGREES_TO_RADIANS", type := .double, accessFlags := 26, slot := 3, constantValue := 0 }, { name := "RADIANS_TO_DEGREES", type := .double, accessFlags := 26, slot := 4, constantValue := 0 }, { name := "negativeZeroFloatBits", type := .long, accessFlags := 26, slot := 5, constantValue := 0 }, { name := "negativeZeroDoubleBits", type := .long, accessFlags := 26, slot := 6, constantValue := 0 }, { name := "twoToTheDoubleScaleUp", type := .double, accessFlags := 8, slot := 7, constantValue := 0 }, { name := "twoToTheDoubleScaleDown", type := .double, accessFlags := 8, slot := 8, constantValue := 0 }, { name := "$assertionsDisabled", type := .boolean, accessFlags := 4120, slot := 9, constantValue := 0 }]
  methods := #[k13m0, k13m1, k13m2, k13m3]
  instanceTypes := #[]
  staticTypes := #[.double, .double, .double, .double, .double, .long, .long, .double, .double, .boolean]
  resolved := Array.replicate 460 none
  statics := none }

def pool14 : Array CpInfo := pool [(2, .class_ 4), (1, u "java/lang/Object"), (0, u "<init>"), (0, u "()V"), (7, .class_ 16), (1, u "java/util/Arrays"), (57, .class_ 76), (1, u "java/util/Arrays$NaturalOrder"), (36, .class_ 115), (1, u "java/util/Arrays$LegacyMergeSort"), (1, u "Z"), (21, u "copyOfRange"), (10, .methodref 151 152), (0, .class_ 153), (0, .nameAndType 154 155), (0, u "java/lang/System"), (0, u "arraycopy"), (0, u "(Ljava/lang/Object;ILjava/lang/Object;II)V"), (146, u "copyOf"), (1, .methodref 305 306), (0, .class_ 307), (0, .nameAndType 308 309), (0, u "java/lang/Math"), (0, u "min"), (0, u "(II)I"), (29, .methodref 14 340), (0, .nameAndType 341 342), (0, u "copyOfRangeByte"), (0, u "([BII)[B"), (0, .methodref 14 344), (0, .nameAndType 345 346), (0, u "checkLength"), (0, u "(II)V"), (28, .class_ 376), (0, u "java/util/Arrays$ArrayList"), (68, u "$assertionsDisabled"), (269, u "MIN_ARRAY_SORT_GRAN"), (0, u "I"), (2, u "INSERTIONSORT_THRESHOLD"), (149, u "([BI)[B"), (105, .class_ 976), (0, u "java/util/Arrays$ArrayItr")] 52

def k14m0 : Method := { name := "<init>", desc := "()V", sig := { parameters := [], returnType := none }, accessFlags := 2, code := none }
def k14c1 : Code := { maxStack := 6, maxLocals := 3, code := jdk_65_method_121_code, exceptionTable := #[], attributes := #[] }
def k14m1 : Method := { name := "copyOf", desc := "([BI)[B", sig := { parameters := [(.array .byte), .int], returnType := some (.array .byte) }, accessFlags := 9, code := some k14c1 }
def k14c2 : Code := { maxStack := 4, maxLocals := 2, code := jdk_65_method_131_code, exceptionTable := #[], attributes := #[] }
def k14m2 : Method := { name := "checkLength", desc := "(II)V", sig := { parameters := [.int, .int], returnType := none }, accessFlags := 10, code := some k14c2 }
def k14c3 : Code := { maxStack := 3, maxLocals := 3, code := jdk_65_method_132_code, exceptionTable := #[], attributes := #[] }
def k14m3 : Method := { name := "copyOfRange", desc := "([BII)[B", sig := { parameters := [(.array .byte), .int, .int], returnType := some (.array .byte) }, accessFlags := 9, code := some k14c3 }
def k14c4 : Code := { maxStack := 6, maxLocals := 5, code := jdk_65_method_133_code, exceptionTable := #[], attributes := #[] }
def k14m4 : Method := { name := "copyOfRangeByte", desc := "([BII)[B", sig := { parameters := [(.array .byte), .int, .int], returnType := some (.array .byte) }, accessFlags := 10, code := some k14c4 }
/-- java/util/Arrays -/
def k14 : Class := { plain "java/util/Arrays" (some 0) with
  accessFlags := 49
  interfaces := #[]
  cf := some (fileOf pool14 14 #[.nestMembers #[975, 375, 113, 74]] #[{ accessFlags := 2, nameIndex := 5, descriptorIndex := 6, attributes := #[] }, { accessFlags := 9, nameIndex := 302, descriptorIndex := 869, attributes := #[] }, { accessFlags := 10, nameIndex := 345, descriptorIndex := 346, attributes := #[] }, { accessFlags := 9, nameIndex := 139, descriptorIndex := 342, attributes := #[] }, { accessFlags := 10, nameIndex := 341, descriptorIndex := 342, attributes := #[] }] 49 2 #[] #[{ accessFlags := 26, nameIndex := 715, descriptorIndex := 716, attributes := #[] }, { accessFlags := 26, nameIndex := 719, descriptorIndex := 716, attributes := #[] }, { accessFlags := 4120, nameIndex := 445, descriptorIndex := 117, attributes := #[] }])
  fields := #[{ name := "MIN_ARRAY_SORT_GRAN", type := .int, accessFlags := 26, slot := 0, constantValue := 0 }, { name := "INSERTIONSORT_THRESHOLD", type := .int, accessFlags := 26, slot := 1, constantValue := 0 }, { name := "$assertionsDisabled", type := .boolean, accessFlags := 4120, slot := 2, constantValue := 0 }]
  methods := #[k14m0, k14m1, k14m2, k14m3, k14m4]
  instanceTypes := #[]
  staticTypes := #[.int, .int, .boolean]
  resolved := Array.replicate 1029 none
  statics := none }

def pool15 : Array CpInfo := pool [(2, .class_ 4), (1, u "java/lang/Object"), (0, u "<init>"), (0, u "()V"), (1, .class_ 10), (1, u "java/lang/System"), (0, u "allowSecurityManager"), (0, u "I"), (16, u "cons"), (0, u "Ljava/io/Console;"), (77, .class_ 110), (1, u "java/lang/System$CallersHolder"), (43, u "initialErrStream"), (0, u "Ljava/io/PrintStream;"), (19, u "security"), (0, u "Ljava/lang/SecurityManager;"), (31, .class_ 209), (0, u "java/lang/System$1"), (7, u "props"), (0, u "Ljava/util/Properties;"), (2, u "lineSeparator"), (0, u "Ljava/lang/String;"), (96, .class_ 321), (1, u "java/lang/System$LoggerFinder"), (5, .class_ 328), (0, u "java/lang/System$Logger"), (67, u "err"), (2, u "out"), (91, u "notSupportedJnuEncoding"), (15, u "in"), (17, u "initialIn"), (0, u "Ljava/io/InputStream;"), (35, u "bootLayer"), (0, u "Ljava/lang/ModuleLayer;"), (99, .class_ 664), (0, u "java/lang/System$2"), (9, u "NEVER"), (2, u "MAYBE"), (49, u "arraycopy"), (0, u "(Ljava/lang/Object;ILjava/lang/Object;II)V"), (72, .class_ 802), (0, u "java/lang/System$Logger$Level")] 31

def k15m0 : Method := { name := "<init>", desc := "()V", sig := { parameters := [], returnType := none }, accessFlags := 2, code := none }
def k15m1 : Method := { name := "arraycopy", desc := "(Ljava/lang/Object;ILjava/lang/Object;II)V", sig := { parameters := [(.object "java/lang/Object"), .int, (.object "java/lang/Object"), .int, .int], returnType := none }, accessFlags := 265, code := none }
/-- java/lang/System -/
def k15 : Class := { plain "java/lang/System" (some 0) with
  accessFlags := 49
  interfaces := #[]
  cf := some (fileOf pool15 8 #[.nestMembers #[319, 327, 801, 108, 663, 208]] #[{ accessFlags := 2, nameIndex := 5, descriptorIndex := 6, attributes := #[] }, { accessFlags := 265, nameIndex := 727, descriptorIndex := 728, attributes := #[] }] 49 2 #[] #[{ accessFlags := 25, nameIndex := 507, descriptorIndex := 526, attributes := #[] }, { accessFlags := 25, nameIndex := 399, descriptorIndex := 155, attributes := #[] }, { accessFlags := 25, nameIndex := 396, descriptorIndex := 155, attributes := #[] }, { accessFlags := 10, nameIndex := 525, descriptorIndex := 526, attributes := #[] }, { accessFlags := 26, nameIndex := 674, descriptorIndex := 12, attributes := #[] }, { accessFlags := 26, nameIndex := 677, descriptorIndex := 12, attributes := #[] }, { accessFlags := 10, nameIndex := 11, descriptorIndex := 12, attributes := #[] }, { accessFlags := 74, nameIndex := 175, descriptorIndex := 176, attributes := #[] }, { accessFlags := 10, nameIndex := 491, descriptorIndex := 222, attributes := #[] }, { accessFlags := 74, nameIndex := 29, descriptorIndex := 30, attributes := #[] }, { accessFlags := 74, nameIndex := 154, descriptorIndex := 155, attributes := #[] }, { accessFlags := 10, nameIndex := 217, descriptorIndex := 218, attributes := #[] }, { accessFlags := 10, nameIndex := 221, descriptorIndex := 222, attributes := #[] }, { accessFlags := 8, nameIndex := 562, descriptorIndex := 563, attributes := #[] }])
  fields := #[{ name := "in", type := (.object "java/io/InputStream"), accessFlags := 25, slot := 0, constantValue := 0 }, { name := "out", type := (.object "java/io/PrintStream"), accessFlags := 25, slot := 1, constantValue := 0 }, { name := "err", type := (.object "java/io/PrintStream"), accessFlags := 25, slot := 2, constantValue := 0 }, { name := "initialIn", type := (.object "java/io/InputStream"), accessFlags := 10, slot := 3, constantValue := 0 }, { name := "NEVER", type := .int, accessFlags := 26, slot := 4, constantValue := 0 }, { name := "MAYBE", type := .int, accessFlags := 26, slot := 5, constantValue := 0 }, { name := "allowSecurityManager", type := .int, accessFlags := 10, slot := 6, constantValue := 0 }, { name := "security", type := (.object "java/lang/SecurityManager"), accessFlags := 74, slot := 7, constantValue := 0 }, { name := "notSupportedJnuEncoding", type := (.object "java/lang/String"), accessFlags := 10, slot := 8, constantValue := 0 }, { name := "cons", type := (.object "java/io/Console"), accessFlags := 74, slot := 9, constantValue := 0 }, { name := "initialErrStream", type := (.object "java/io/PrintStream"), accessFlags := 74, slot := 10, constantValue := 0 }, { name := "props", type := (.object "java/util/Properties"), accessFlags := 10, slot := 11, constantValue := 0 }, { name := "lineSeparator", type := (.object "java/lang/String"), accessFlags := 10, slot := 12, constantValue := 0 }, { name := "bootLayer", type := (.object "java/lang/ModuleLayer"), accessFlags := 8, slot := 13, constantValue := 0 }]
  methods := #[k15m0, k15m1]
  instanceTypes := #[]
  staticTypes := #[(.object "java/io/InputStream"), (.object "java/io/PrintStream"), (.object "java/io/PrintStream"), (.object "java/io/InputStream"), .int, .int, .int, (.object "java/lang/SecurityManager"), (.object "java/lang/String"), (.object "java/io/Console"), (.object "java/io/PrintStream"), (.object "java/util/Properties"), (.object "java/lang/String"), (.object "java/lang/ModuleLayer")]
  resolved := Array.replicate 834 none
  statics := none }

def pool16 : Array CpInfo := pool [(1, .fieldref 2 3), (0, .class_ 4), (0, .nameAndType 5 6), (0, u "java/util/Optional"), (0, u "EMPTY"), (0, u "Ljava/util/Optional;"), (0, .methodref 8 9), (0, .class_ 10), (0, .nameAndType 11 12), (0, u "java/lang/Object"), (0, u "<init>"), (0, u "()V"), (0, .fieldref 2 14), (0, .nameAndType 15 16), (0, u "value"), (0, u "Ljava/lang/Object;"), (6, .methodref 2 24), (0, .nameAndType 11 25), (0, u "(Ljava/lang/Object;)V"), (38, u "ofNullable"), (0, u "(Ljava/lang/Object;)Ljava/util/Optional;")] 121

def k16c0 : Code := { maxStack := 2, maxLocals := 2, code := jdk_32_method_2_code, exceptionTable := #[], attributes := #[] }
def k16m0 : Method := { name := "<init>", desc := "(Ljava/lang/Object;)V", sig := { parameters := [(.object "java/lang/Object")], returnType := none }, accessFlags := 2, code := some k16c0 }
def k16c1 : Code := { maxStack := 3, maxLocals := 1, code := jdk_32_method_4_code, exceptionTable := #[], attributes := #[] }
def k16m1 : Method := { name := "ofNullable", desc := "(Ljava/lang/Object;)Ljava/util/Optional;", sig := { parameters := [(.object "java/lang/Object")], returnType := some (.object "java/util/Optional") }, accessFlags := 9, code := some k16c1 }
/-- java/util/Optional -/
def k16 : Class := { plain "java/util/Optional" (some 0) with
  accessFlags := 49
  interfaces := #[]
  cf := some (fileOf pool16 2 #[] #[{ accessFlags := 2, nameIndex := 11, descriptorIndex := 25, attributes := #[] }, { accessFlags := 9, nameIndex := 64, descriptorIndex := 65, attributes := #[] }] 49 8 #[] #[{ accessFlags := 26, nameIndex := 5, descriptorIndex := 6, attributes := #[] }, { accessFlags := 18, nameIndex := 15, descriptorIndex := 16, attributes := #[] }])
  fields := #[{ name := "EMPTY", type := (.object "java/util/Optional"), accessFlags := 26, slot := 0, constantValue := 0 }, { name := "value", type := (.object "java/lang/Object"), accessFlags := 18, slot := 0, constantValue := 0 }]
  methods := #[k16m0, k16m1]
  instanceTypes := #[(.object "java/lang/Object")]
  staticTypes := #[(.object "java/util/Optional")]
  resolved := Array.replicate 187 none
  statics := some 2 }

def pool17 : Array CpInfo := pool [(4, .class_ 6), (1, u "java/lang/Object"), (0, u "<init>"), (0, u "()V"), (5, .class_ 16), (1, u "java/lang/StringLatin1"), (104, u "$assertionsDisabled"), (0, u "Z"), (98, .class_ 223), (1, u "java/lang/StringLatin1$LinesSpliterator"), (166, .class_ 391), (0, u "java/lang/StringLatin1$CharsSpliterator")] 3

def k17m0 : Method := { name := "<init>", desc := "()V", sig := { parameters := [], returnType := none }, accessFlags := 0, code := none }
/-- java/lang/StringLatin1 -/
def k17 : Class := { plain "java/lang/StringLatin1" (some 0) with
  accessFlags := 48
  interfaces := #[]
  cf := some (fileOf pool17 14 #[.nestMembers #[390, 221]] #[{ accessFlags := 0, nameIndex := 7, descriptorIndex := 8, attributes := #[] }] 48 4 #[] #[{ accessFlags := 4120, nameIndex := 121, descriptorIndex := 122, attributes := #[] }])
  fields := #[{ name := "$assertionsDisabled", type := .boolean, accessFlags := 4120, slot := 0, constantValue := 0 }]
  methods := #[k17m0]
  instanceTypes := #[]
  staticTypes := #[.boolean]
  resolved := Array.replicate 395 none
  statics := none }

def pool18 : Array CpInfo := pool [(2, .class_ 4), (1, u "java/lang/Object"), (0, u "<init>"), (0, u "()V"), (17, .class_ 26), (1, u "jdk/internal/util/Preconditions"), (28, .class_ 56), (0, u "jdk/internal/util/Preconditions$4"), (57, .class_ 115), (0, u "jdk/internal/util/Preconditions$1"), (7, u "SIOOBE_FORMATTER"), (0, u "Ljava/util/function/BiFunction;"), (0, .class_ 126), (0, u "jdk/internal/util/Preconditions$2"), (3, u "AIOOBE_FORMATTER"), (0, .class_ 132), (0, u "jdk/internal/util/Preconditions$3"), (3, u "IOOBE_FORMATTER")] 57

def k18m0 : Method := { name := "<init>", desc := "()V", sig := { parameters := [], returnType := none }, accessFlags := 1, code := none }
/-- jdk/internal/util/Preconditions -/
def k18 : Class := { plain "jdk/internal/util/Preconditions" (some 0) with
  accessFlags := 33
  interfaces := #[]
  cf := some (fileOf pool18 24 #[.nestMembers #[55, 131, 125, 114]] #[{ accessFlags := 1, nameIndex := 5, descriptorIndex := 6, attributes := #[] }] 33 2 #[] #[{ accessFlags := 25, nameIndex := 123, descriptorIndex := 124, attributes := #[] }, { accessFlags := 25, nameIndex := 130, descriptorIndex := 124, attributes := #[] }, { accessFlags := 25, nameIndex := 136, descriptorIndex := 124, attributes := #[] }])
  fields := #[{ name := "SIOOBE_FORMATTER", type := (.object "java/util/function/BiFunction"), accessFlags := 25, slot := 0, constantValue := 0 }, { name := "AIOOBE_FORMATTER", type := (.object "java/util/function/BiFunction"), accessFlags := 25, slot := 1, constantValue := 0 }, { name := "IOOBE_FORMATTER", type := (.object "java/util/function/BiFunction"), accessFlags := 25, slot := 2, constantValue := 0 }]
  methods := #[k18m0]
  instanceTypes := #[]
  staticTypes := #[(.object "java/util/function/BiFunction"), (.object "java/util/function/BiFunction"), (.object "java/util/function/BiFunction")]
  resolved := Array.replicate 194 none
  statics := some 3 }

def pool19 : Array CpInfo := pool [(1, u "java/lang/Cloneable"), (0, .class_ 1), (0, u "java/lang/Object"), (0, .class_ 3)] 3

/-- java/lang/Cloneable -/
def k19 : Class := { plain "java/lang/Cloneable" (some 0) with
  accessFlags := 1537
  interfaces := #[]
  cf := some (fileOf pool19 2 #[] #[] 1537 4 #[] #[])
  fields := #[]
  methods := #[]
  instanceTypes := #[]
  staticTypes := #[]
  resolved := Array.replicate 8 none
  statics := none }

/-- the primitive byte -/
def k20 : Class := { plain "byte" none with kind := .primitive 'B', accessFlags := 0x411 }
/-- [B -/
def k21 : Class := { plain "[B" (some 0) with kind := .array 20 .byte, interfaces := #[19, 6], accessFlags := 1041 }

/-- the primitive int -/
def k22 : Class := { plain "int" none with kind := .primitive 'I', accessFlags := 0x411 }
/-- [I -/
def k23 : Class := { plain "[I" (some 0) with kind := .array 22 .int, interfaces := #[19, 6], accessFlags := 1041 }

def heap : Heap := #[{ cls := 2, slots := #[.long 0, .long 0, .long 100000000, .long 60000000000], vm := .statics 2 },
  { cls := 11, slots := #[.long 0, .int 1, .null, .int 0, .null, .int 0, .int 0], vm := .statics 11 },
  { cls := 16, slots := #[.ref 4], vm := .statics 16 },
  { cls := 18, slots := #[.null, .null, .null], vm := .statics 18 },
  { cls := 16, slots := #[.null], vm := .none }]
def classes : Array Class := #[k0, k1, k2, k3, k4, k5, k6, k7, k8, k9, k10, k11, k12, k13, k14, k15, k16, k17, k18, k19, k20, k21, k22, k23]
def interned : List (Array UInt16 × Addr) := []
def slotsUsed : Nat := 16
def theMethod : MethodId := ⟨1, 1⟩
def args0 : Array Value := #[.long 5, .long 5, .long 5, .int 3]
def aboutOver (below : List Frame) : State where
  vm := { classes := classes, interned := interned.toArray }
  heap := heap
  slotsUsed := slotsUsed
  threads := #[{ frames := .invoking theMethod args0 :: below }]
def below0 : List Frame := [.native { method := ⟨0, 0⟩, args := #[] }]
def about1 : State := aboutOver below0
def p0 : Program := .bare "" "" ""
def e0 : Env := launch0.env 0 0 0
theorem w_frames : about1.frames = Frame.invoking theMethod args0 :: below0 := rfl
set_option maxRecDepth 65536 in
theorem w_args : argsFit about1.vm theMethod args0 = true := by decide +kernel
set_option maxRecDepth 65536 in
theorem w_heap : heapFits about1 = true := by decide +kernel
set_option maxRecDepth 65536 in
theorem w_runnable : about1.curStatus? = some .runnable := by decide +kernel
set_option maxRecDepth 65536 in
theorem w_alone : about1.alone = true := by decide +kernel
set_option maxRecDepth 65536 in
theorem w_named : about1.methodNamed? x = some theMethod := by decide +kernel
set_option maxRecDepth 65536 in
theorem w_hears : about1.hears theMethod below0 = true := by decide +kernel
set_option maxRecDepth 65536 in
theorem w_ripe : about1.ripe theMethod args0 below0 = true := by decide +kernel
theorem w_running : about1.status = .running := rfl
set_option maxRecDepth 65536 in
theorem w_room : about1.hasRoom e0.platform room_1 = true :=
  launch0.hasRoom_least _ room_1 (by decide +kernel) (by decide +kernel) (by decide +kernel) (by decide +kernel) (by decide +kernel) (by decide +kernel)
theorem allAtoms_all (ts : List Jvm.Cond) (a : Array Jvm.Value) (st : Jvm.State) : (allAtoms ts).before a st = ts.all (fun c => c.before a st) := by
  induction ts with
  | nil => rfl
  | cons c t ih =>
    show (Jvm.Cond.and c (allAtoms t)).before a st = _
    rw [Jvm.Cond.before_and, ih, List.all_cons]
def words1 : List Jvm.Cond := Jvm.Cond.code x code maxLocals ret :: tables_1
/-- a 'code' word, met by the world's own term for the bytes: nothing is compared byte by byte -/
theorem code_word {y : MethodName} {bytes : ByteArray} {mx : Nat} {rt : Option FieldType} {a : Array Value} {s : State} {m : MethodId} {meth : Method} {c : Code} (h1 : s.methodNamed? y = some m) (h2 : s.vm.method? m = some meth) (h3 : meth.code = some c) (h4 : c.code = bytes)
    (h5 : (c.maxLocals == mx && c.exceptionTable.isEmpty && decide (c.maxStack ≤ mostOperands) && decide (meth.sig.returnType = rt) && !meth.locks && decide (parseMethodDescriptor y.desc = some meth.sig)) = true) : (Jvm.Cond.code y bytes mx rt).before a s = true := by
  simp only [Bool.and_eq_true, beq_iff_eq, Bool.not_eq_true', decide_eq_true_eq] at h5
  obtain ⟨⟨⟨⟨⟨g1, g2⟩, g3⟩, g4⟩, g5⟩, g6⟩ := h5
  simp [Cond.before, Cond.holds, Cond.value, h1, h2, h3, h4, g1, g2, g3, g4, g5, g6]
def isCode : Jvm.Cond → Bool
  | .code _ _ _ _ => true
  | _ => false
theorem all_split {L : List Jvm.Cond} {P : Jvm.Cond → Bool} (h1 : L.all (fun c => isCode c || P c) = true) (h2 : ∀ c ∈ L.filter isCode, P c = true) : L.all P = true := by
  refine List.all_eq_true.mpr fun c hc => ?_
  have h := List.all_eq_true.mp h1 c hc
  rcases Bool.eq_false_or_eq_true (isCode c) with hi | hi
  · exact h2 c (List.mem_filter.mpr ⟨hc, hi⟩)
  · simpa [hi] using h
set_option maxRecDepth 65536 in
theorem w_c0 : (Jvm.Cond.code x code maxLocals ret).before args0 about1 = true := code_word (m := ⟨1, 1⟩) (meth := k1m1) (c := k1c1) (by decide +kernel) rfl rfl rfl (by decide +kernel)
set_option maxRecDepth 65536 in
theorem w_c1 : (Jvm.Cond.code ({ cls := "com/example/steady_quorum/steadyquorum/server/AcceptFailures", name := "<init>", desc := "()V" } : Jvm.MethodName) prog_78_method_1_code (1 : Nat) (Option.none : Option Jvm.ClassFile.FieldType)).before args0 about1 = true := code_word (m := ⟨2, 0⟩) (meth := k2m0) (c := k2c0) (by decide +kernel) rfl rfl rfl (by decide +kernel)
set_option maxRecDepth 65536 in
theorem w_c2 : (Jvm.Cond.code ({ cls := "java/lang/Object", name := "<init>", desc := "()V" } : Jvm.MethodName) object_method_1_code (1 : Nat) (Option.none : Option Jvm.ClassFile.FieldType)).before args0 about1 = true := code_word (m := ⟨0, 0⟩) (meth := k0m0) (c := k0c0) (by decide +kernel) rfl rfl rfl (by decide +kernel)
set_option maxRecDepth 65536 in
theorem w_c3 : (Jvm.Cond.code ({ cls := "com/example/steady_quorum/steadyquorum/server/AcceptFailures", name := "resumeDue", desc := "(J)Z" } : Jvm.MethodName) prog_78_method_5_code (4 : Nat) (Option.some Jvm.ClassFile.FieldType.boolean)).before args0 about1 = true := code_word (m := ⟨2, 3⟩) (meth := k2m3) (c := k2c3) (by decide +kernel) rfl rfl rfl (by decide +kernel)
set_option maxRecDepth 65536 in
theorem w_c4 : (Jvm.Cond.code ({ cls := "com/example/steady_quorum/steadyquorum/server/AcceptFailures", name := "restLeftNanos", desc := "(J)J" } : Jvm.MethodName) prog_78_method_4_code (3 : Nat) (Option.some Jvm.ClassFile.FieldType.long)).before args0 about1 = true := code_word (m := ⟨2, 2⟩) (meth := k2m2) (c := k2c2) (by decide +kernel) rfl rfl rfl (by decide +kernel)
set_option maxRecDepth 65536 in
theorem w_c5 : (Jvm.Cond.code ({ cls := "com/example/steady_quorum/steadyquorum/server/AcceptFailures", name := "failed", desc := "(Ljava/io/IOException;J)Ljava/util/Optional;" } : Jvm.MethodName) prog_78_method_2_code (5 : Nat) (Option.some (Jvm.ClassFile.FieldType.object "java/util/Optional"))).before args0 about1 = true := code_word (m := ⟨2, 1⟩) (meth := k2m1) (c := k2c1) (by decide +kernel) rfl rfl rfl (by decide +kernel)
set_option maxRecDepth 65536 in
theorem w_c6 : (Jvm.Cond.code ({ cls := "java/lang/StringBuilder", name := "<init>", desc := "()V" } : Jvm.MethodName) jdk_67_method_1_code (1 : Nat) (Option.none : Option Jvm.ClassFile.FieldType)).before args0 about1 = true := code_word (m := ⟨8, 0⟩) (meth := k8m0) (c := k8c0) (by decide +kernel) rfl rfl rfl (by decide +kernel)
set_option maxRecDepth 65536 in
theorem w_c7 : (Jvm.Cond.code ({ cls := "java/lang/AbstractStringBuilder", name := "<init>", desc := "(I)V" } : Jvm.MethodName) jdk_68_method_2_code (2 : Nat) (Option.none : Option Jvm.ClassFile.FieldType)).before args0 about1 = true := code_word (m := ⟨5, 1⟩) (meth := k5m1) (c := k5c1) (by decide +kernel) rfl rfl rfl (by decide +kernel)
set_option maxRecDepth 65536 in
theorem w_c8 : (Jvm.Cond.code ({ cls := "java/lang/StringBuilder", name := "append", desc := "(Ljava/lang/String;)Ljava/lang/StringBuilder;" } : Jvm.MethodName) jdk_67_method_7_code (2 : Nat) (Option.some (Jvm.ClassFile.FieldType.object "java/lang/StringBuilder"))).before args0 about1 = true := code_word (m := ⟨8, 2⟩) (meth := k8m2) (c := k8c2) (by decide +kernel) rfl rfl rfl (by decide +kernel)
set_option maxRecDepth 65536 in
theorem w_c9 : (Jvm.Cond.code ({ cls := "java/lang/AbstractStringBuilder", name := "append", desc := "(Ljava/lang/String;)Ljava/lang/AbstractStringBuilder;" } : Jvm.MethodName) jdk_68_method_22_code (3 : Nat) (Option.some (Jvm.ClassFile.FieldType.object "java/lang/AbstractStringBuilder"))).before args0 about1 = true := code_word (m := ⟨5, 5⟩) (meth := k5m5) (c := k5c5) (by decide +kernel) rfl rfl rfl (by decide +kernel)
set_option maxRecDepth 65536 in
theorem w_c10 : (Jvm.Cond.code ({ cls := "java/lang/String", name := "length", desc := "()I" } : Jvm.MethodName) jdk_42_method_54_code (1 : Nat) (Option.some Jvm.ClassFile.FieldType.int)).before args0 about1 = true := code_word (m := ⟨11, 2⟩) (meth := k11m2) (c := k11c2) (by decide +kernel) rfl rfl rfl (by decide +kernel)
set_option maxRecDepth 65536 in
theorem w_c11 : (Jvm.Cond.code ({ cls := "java/lang/String", name := "coder", desc := "()B" } : Jvm.MethodName) jdk_42_method_152_code (1 : Nat) (Option.some Jvm.ClassFile.FieldType.byte)).before args0 about1 = true := code_word (m := ⟨11, 6⟩) (meth := k11m6) (c := k11c6) (by decide +kernel) rfl rfl rfl (by decide +kernel)
set_option maxRecDepth 65536 in
theorem w_c12 : (Jvm.Cond.code ({ cls := "java/lang/AbstractStringBuilder", name := "ensureCapacityInternal", desc := "(I)V" } : Jvm.MethodName) jdk_68_method_9_code (3 : Nat) (Option.none : Option Jvm.ClassFile.FieldType)).before args0 about1 = true := code_word (m := ⟨5, 3⟩) (meth := k5m3) (c := k5c3) (by decide +kernel) rfl rfl rfl (by decide +kernel)
set_option maxRecDepth 65536 in
theorem w_c13 : (Jvm.Cond.code ({ cls := "java/lang/AbstractStringBuilder", name := "newCapacity", desc := "(I)I" } : Jvm.MethodName) jdk_68_method_10_code (6 : Nat) (Option.some Jvm.ClassFile.FieldType.int)).before args0 about1 = true := code_word (m := ⟨5, 4⟩) (meth := k5m4) (c := k5c4) (by decide +kernel) rfl rfl rfl (by decide +kernel)
set_option maxRecDepth 65536 in
theorem w_c14 : (Jvm.Cond.code ({ cls := "jdk/internal/util/ArraysSupport", name := "newLength", desc := "(III)I" } : Jvm.MethodName) jdk_48_method_27_code (4 : Nat) (Option.some Jvm.ClassFile.FieldType.int)).before args0 about1 = true := code_word (m := ⟨12, 1⟩) (meth := k12m1) (c := k12c1) (by decide +kernel) rfl rfl rfl (by decide +kernel)
set_option maxRecDepth 65536 in
theorem w_c15 : (Jvm.Cond.code ({ cls := "java/lang/Math", name := "max", desc := "(II)I" } : Jvm.MethodName) jdk_29_method_65_code (2 : Nat) (Option.some Jvm.ClassFile.FieldType.int)).before args0 about1 = true := code_word (m := ⟨13, 1⟩) (meth := k13m1) (c := k13c1) (by decide +kernel) rfl rfl rfl (by decide +kernel)
set_option maxRecDepth 65536 in
theorem w_c16 : (Jvm.Cond.code ({ cls := "java/util/Arrays", name := "copyOf", desc := "([BI)[B" } : Jvm.MethodName) jdk_65_method_121_code (3 : Nat) (Option.some (Jvm.ClassFile.FieldType.array Jvm.ClassFile.FieldType.byte))).before args0 about1 = true := code_word (m := ⟨14, 1⟩) (meth := k14m1) (c := k14c1) (by decide +kernel) rfl rfl rfl (by decide +kernel)
set_option maxRecDepth 65536 in
theorem w_c17 : (Jvm.Cond.code ({ cls := "java/lang/Math", name := "min", desc := "(II)I" } : Jvm.MethodName) jdk_29_method_69_code (2 : Nat) (Option.some Jvm.ClassFile.FieldType.int)).before args0 about1 = true := code_word (m := ⟨13, 3⟩) (meth := k13m3) (c := k13c3) (by decide +kernel) rfl rfl rfl (by decide +kernel)
set_option maxRecDepth 65536 in
theorem w_c18 : (Jvm.Cond.code ({ cls := "java/lang/AbstractStringBuilder", name := "putStringAt", desc := "(ILjava/lang/String;)V" } : Jvm.MethodName) jdk_68_method_73_code (3 : Nat) (Option.none : Option Jvm.ClassFile.FieldType)).before args0 about1 = true := code_word (m := ⟨5, 9⟩) (meth := k5m9) (c := k5c9) (by decide +kernel) rfl rfl rfl (by decide +kernel)
set_option maxRecDepth 65536 in
theorem w_c19 : (Jvm.Cond.code ({ cls := "java/lang/AbstractStringBuilder", name := "inflateIfNeededFor", desc := "(Ljava/lang/String;)V" } : Jvm.MethodName) jdk_68_method_71_code (2 : Nat) (Option.none : Option Jvm.ClassFile.FieldType)).before args0 about1 = true := code_word (m := ⟨5, 8⟩) (meth := k5m8) (c := k5c8) (by decide +kernel) rfl rfl rfl (by decide +kernel)
set_option maxRecDepth 65536 in
theorem w_c20 : (Jvm.Cond.code ({ cls := "java/lang/String", name := "getBytes", desc := "([BIB)V" } : Jvm.MethodName) jdk_42_method_147_code (4 : Nat) (Option.none : Option Jvm.ClassFile.FieldType)).before args0 about1 = true := code_word (m := ⟨11, 4⟩) (meth := k11m4) (c := k11c4) (by decide +kernel) rfl rfl rfl (by decide +kernel)
set_option maxRecDepth 65536 in
theorem w_c21 : (Jvm.Cond.code ({ cls := "java/lang/StringBuilder", name := "append", desc := "(Ljava/lang/Object;)Ljava/lang/StringBuilder;" } : Jvm.MethodName) jdk_67_method_6_code (2 : Nat) (Option.some (Jvm.ClassFile.FieldType.object "java/lang/StringBuilder"))).before args0 about1 = true := code_word (m := ⟨8, 1⟩) (meth := k8m1) (c := k8c1) (by decide +kernel) rfl rfl rfl (by decide +kernel)
set_option maxRecDepth 65536 in
theorem w_c22 : (Jvm.Cond.code ({ cls := "java/lang/String", name := "valueOf", desc := "(Ljava/lang/Object;)Ljava/lang/String;" } : Jvm.MethodName) jdk_42_method_133_code (1 : Nat) (Option.some (Jvm.ClassFile.FieldType.object "java/lang/String"))).before args0 about1 = true := code_word (m := ⟨11, 3⟩) (meth := k11m3) (c := k11c3) (by decide +kernel) rfl rfl rfl (by decide +kernel)
set_option maxRecDepth 65536 in
theorem w_c23 : (Jvm.Cond.code ({ cls := "java/lang/StringBuilder", name := "toString", desc := "()Ljava/lang/String;" } : Jvm.MethodName) jdk_67_method_42_code (1 : Nat) (Option.some (Jvm.ClassFile.FieldType.object "java/lang/String"))).before args0 about1 = true := code_word (m := ⟨8, 3⟩) (meth := k8m3) (c := k8c3) (by decide +kernel) rfl rfl rfl (by decide +kernel)
set_option maxRecDepth 65536 in
theorem w_c24 : (Jvm.Cond.code ({ cls := "java/lang/String", name := "<init>", desc := "(Ljava/lang/StringBuilder;)V" } : Jvm.MethodName) jdk_42_method_53_code (2 : Nat) (Option.none : Option Jvm.ClassFile.FieldType)).before args0 about1 = true := code_word (m := ⟨11, 1⟩) (meth := k11m1) (c := k11c1) (by decide +kernel) rfl rfl rfl (by decide +kernel)
set_option maxRecDepth 65536 in
theorem w_c25 : (Jvm.Cond.code ({ cls := "java/lang/String", name := "<init>", desc := "(Ljava/lang/AbstractStringBuilder;Ljava/lang/Void;)V" } : Jvm.MethodName) jdk_42_method_150_code (5 : Nat) (Option.none : Option Jvm.ClassFile.FieldType)).before args0 about1 = true := code_word (m := ⟨11, 5⟩) (meth := k11m5) (c := k11c5) (by decide +kernel) rfl rfl rfl (by decide +kernel)
set_option maxRecDepth 65536 in
theorem w_c26 : (Jvm.Cond.code ({ cls := "java/lang/AbstractStringBuilder", name := "getValue", desc := "()[B" } : Jvm.MethodName) jdk_68_method_64_code (1 : Nat) (Option.some (Jvm.ClassFile.FieldType.array Jvm.ClassFile.FieldType.byte))).before args0 about1 = true := code_word (m := ⟨5, 6⟩) (meth := k5m6) (c := k5c6) (by decide +kernel) rfl rfl rfl (by decide +kernel)
set_option maxRecDepth 65536 in
theorem w_c27 : (Jvm.Cond.code ({ cls := "java/lang/StringBuilder", name := "length", desc := "()I" } : Jvm.MethodName) jdk_67_method_93_code (1 : Nat) (Option.some Jvm.ClassFile.FieldType.int)).before args0 about1 = true := code_word (m := ⟨8, 4⟩) (meth := k8m4) (c := k8c4) (by decide +kernel) rfl rfl rfl (by decide +kernel)
set_option maxRecDepth 65536 in
theorem w_c28 : (Jvm.Cond.code ({ cls := "java/lang/AbstractStringBuilder", name := "length", desc := "()I" } : Jvm.MethodName) jdk_68_method_6_code (1 : Nat) (Option.some Jvm.ClassFile.FieldType.int)).before args0 about1 = true := code_word (m := ⟨5, 2⟩) (meth := k5m2) (c := k5c2) (by decide +kernel) rfl rfl rfl (by decide +kernel)
set_option maxRecDepth 65536 in
theorem w_c29 : (Jvm.Cond.code ({ cls := "java/lang/AbstractStringBuilder", name := "isLatin1", desc := "()Z" } : Jvm.MethodName) jdk_68_method_68_code (1 : Nat) (Option.some Jvm.ClassFile.FieldType.boolean)).before args0 about1 = true := code_word (m := ⟨5, 7⟩) (meth := k5m7) (c := k5c7) (by decide +kernel) rfl rfl rfl (by decide +kernel)
set_option maxRecDepth 65536 in
theorem w_c30 : (Jvm.Cond.code ({ cls := "java/util/Arrays", name := "copyOfRange", desc := "([BII)[B" } : Jvm.MethodName) jdk_65_method_132_code (3 : Nat) (Option.some (Jvm.ClassFile.FieldType.array Jvm.ClassFile.FieldType.byte))).before args0 about1 = true := code_word (m := ⟨14, 3⟩) (meth := k14m3) (c := k14c3) (by decide +kernel) rfl rfl rfl (by decide +kernel)
set_option maxRecDepth 65536 in
theorem w_c31 : (Jvm.Cond.code ({ cls := "java/util/Arrays", name := "copyOfRangeByte", desc := "([BII)[B" } : Jvm.MethodName) jdk_65_method_133_code (5 : Nat) (Option.some (Jvm.ClassFile.FieldType.array Jvm.ClassFile.FieldType.byte))).before args0 about1 = true := code_word (m := ⟨14, 4⟩) (meth := k14m4) (c := k14c4) (by decide +kernel) rfl rfl rfl (by decide +kernel)
set_option maxRecDepth 65536 in
theorem w_c32 : (Jvm.Cond.code ({ cls := "java/util/Arrays", name := "checkLength", desc := "(II)V" } : Jvm.MethodName) jdk_65_method_131_code (2 : Nat) (Option.none : Option Jvm.ClassFile.FieldType)).before args0 about1 = true := code_word (m := ⟨14, 2⟩) (meth := k14m2) (c := k14c2) (by decide +kernel) rfl rfl rfl (by decide +kernel)
set_option maxRecDepth 65536 in
theorem w_c33 : (Jvm.Cond.code ({ cls := "java/util/Optional", name := "ofNullable", desc := "(Ljava/lang/Object;)Ljava/util/Optional;" } : Jvm.MethodName) jdk_32_method_4_code (1 : Nat) (Option.some (Jvm.ClassFile.FieldType.object "java/util/Optional"))).before args0 about1 = true := code_word (m := ⟨16, 1⟩) (meth := k16m1) (c := k16c1) (by decide +kernel) rfl rfl rfl (by decide +kernel)
set_option maxRecDepth 65536 in
theorem w_c34 : (Jvm.Cond.code ({ cls := "java/util/Optional", name := "<init>", desc := "(Ljava/lang/Object;)V" } : Jvm.MethodName) jdk_32_method_2_code (2 : Nat) (Option.none : Option Jvm.ClassFile.FieldType)).before args0 about1 = true := code_word (m := ⟨16, 0⟩) (meth := k16m0) (c := k16c0) (by decide +kernel) rfl rfl rfl (by decide +kernel)
set_option maxRecDepth 65536 in
theorem w_c35 : (Jvm.Cond.code ({ cls := "java/lang/Math", name := "max", desc := "(JJ)J" } : Jvm.MethodName) jdk_29_method_66_code (4 : Nat) (Option.some Jvm.ClassFile.FieldType.long)).before args0 about1 = true := code_word (m := ⟨13, 2⟩) (meth := k13m2) (c := k13c2) (by decide +kernel) rfl rfl rfl (by decide +kernel)
def codes1 : List Jvm.Cond := [Jvm.Cond.code x code maxLocals ret, Jvm.Cond.code ({ cls := "com/example/steady_quorum/steadyquorum/server/AcceptFailures", name := "<init>", desc := "()V" } : Jvm.MethodName) prog_78_method_1_code (1 : Nat) (Option.none : Option Jvm.ClassFile.FieldType), Jvm.Cond.code ({ cls := "java/lang/Object", name := "<init>", desc := "()V" } : Jvm.MethodName) object_method_1_code (1 : Nat) (Option.none : Option Jvm.ClassFile.FieldType), Jvm.Cond.code ({ cls := "com/example/steady_quorum/steadyquorum/server/AcceptFailures", name := "resumeDue", desc := "(J)Z" } : Jvm.MethodName) prog_78_method_5_code (4 : Nat) (Option.some Jvm.ClassFile.FieldType.boolean), Jvm.Cond.code ({ cls := "com/example/steady_quorum/steadyquorum/server/AcceptFailures", name := "restLeftNanos", desc := "(J)J" } : Jvm.MethodName) prog_78_method_4_code (3 : Nat) (Option.some Jvm.ClassFile.FieldType.long), Jvm.Cond.code ({ cls := "com/example/steady_quorum/steadyquorum/server/AcceptFailures", name := "failed", desc := "(Ljava/io/IOException;J)Ljava/util/Optional;" } : Jvm.MethodName) prog_78_method_2_code (5 : Nat) (Option.some (Jvm.ClassFile.FieldType.object "java/util/Optional")), Jvm.Cond.code ({ cls := "java/lang/StringBuilder", name := "<init>", desc := "()V" } : Jvm.MethodName) jdk_67_method_1_code (1 : Nat) (Option.none : Option Jvm.ClassFile.FieldType), Jvm.Cond.code ({ cls := "java/lang/AbstractStringBuilder", name := "<init>", desc := "(I)V" } : Jvm.MethodName) jdk_68_method_2_code (2 : Nat) (Option.none : Option Jvm.ClassFile.FieldType), Jvm.Cond.code ({ cls := "java/lang/StringBuilder", name := "append", desc := "(Ljava/lang/String;)Ljava/lang/StringBuilder;" } : Jvm.MethodName) jdk_67_method_7_code (2 : Nat) (Option.some (Jvm.ClassFile.FieldType.object "java/lang/StringBuilder")), Jvm.Cond.code ({ cls := "java/lang/AbstractStringBuilder", name := "append", desc := "(Ljava/lang/String;)Ljava/lang/AbstractStringBuilder;" } : Jvm.MethodName) jdk_68_method_22_code (3 : Nat) (Option.some (Jvm.ClassFile.FieldType.object "java/lang/AbstractStringBuilder")), Jvm.Cond.code ({ cls := "java/lang/String", name := "length", desc := "()I" } : Jvm.MethodName) jdk_42_method_54_code (1 : Nat) (Option.some Jvm.ClassFile.FieldType.int), Jvm.Cond.code ({ cls := "java/lang/String", name := "coder", desc := "()B" } : Jvm.MethodName) jdk_42_method_152_code (1 : Nat) (Option.some Jvm.ClassFile.FieldType.byte), Jvm.Cond.code ({ cls := "java/lang/AbstractStringBuilder", name := "ensureCapacityInternal", desc := "(I)V" } : Jvm.MethodName) jdk_68_method_9_code (3 : Nat) (Option.none : Option Jvm.ClassFile.FieldType), Jvm.Cond.code ({ cls := "java/lang/AbstractStringBuilder", name := "newCapacity", desc := "(I)I" } : Jvm.MethodName) jdk_68_method_10_code (6 : Nat) (Option.some Jvm.ClassFile.FieldType.int), Jvm.Cond.code ({ cls := "jdk/internal/util/ArraysSupport", name := "newLength", desc := "(III)I" } : Jvm.MethodName) jdk_48_method_27_code (4 : Nat) (Option.some Jvm.ClassFile.FieldType.int), Jvm.Cond.code ({ cls := "java/lang/Math", name := "max", desc := "(II)I" } : Jvm.MethodName) jdk_29_method_65_code (2 : Nat) (Option.some Jvm.ClassFile.FieldType.int), Jvm.Cond.code ({ cls := "java/util/Arrays", name := "copyOf", desc := "([BI)[B" } : Jvm.MethodName) jdk_65_method_121_code (3 : Nat) (Option.some (Jvm.ClassFile.FieldType.array Jvm.ClassFile.FieldType.byte)), Jvm.Cond.code ({ cls := "java/lang/Math", name := "min", desc := "(II)I" } : Jvm.MethodName) jdk_29_method_69_code (2 : Nat) (Option.some Jvm.ClassFile.FieldType.int), Jvm.Cond.code ({ cls := "java/lang/AbstractStringBuilder", name := "putStringAt", desc := "(ILjava/lang/String;)V" } : Jvm.MethodName) jdk_68_method_73_code (3 : Nat) (Option.none : Option Jvm.ClassFile.FieldType), Jvm.Cond.code ({ cls := "java/lang/AbstractStringBuilder", name := "inflateIfNeededFor", desc := "(Ljava/lang/String;)V" } : Jvm.MethodName) jdk_68_method_71_code (2 : Nat) (Option.none : Option Jvm.ClassFile.FieldType), Jvm.Cond.code ({ cls := "java/lang/String", name := "getBytes", desc := "([BIB)V" } : Jvm.MethodName) jdk_42_method_147_code (4 : Nat) (Option.none : Option Jvm.ClassFile.FieldType), Jvm.Cond.code ({ cls := "java/lang/StringBuilder", name := "append", desc := "(Ljava/lang/Object;)Ljava/lang/StringBuilder;" } : Jvm.MethodName) jdk_67_method_6_code (2 : Nat) (Option.some (Jvm.ClassFile.FieldType.object "java/lang/StringBuilder")), Jvm.Cond.code ({ cls := "java/lang/String", name := "valueOf", desc := "(Ljava/lang/Object;)Ljava/lang/String;" } : Jvm.MethodName) jdk_42_method_133_code (1 : Nat) (Option.some (Jvm.ClassFile.FieldType.object "java/lang/String")), Jvm.Cond.code ({ cls := "java/lang/StringBuilder", name := "toString", desc := "()Ljava/lang/String;" } : Jvm.MethodName) jdk_67_method_42_code (1 : Nat) (Option.some (Jvm.ClassFile.FieldType.object "java/lang/String")), Jvm.Cond.code ({ cls := "java/lang/String", name := "<init>", desc := "(Ljava/lang/StringBuilder;)V" } : Jvm.MethodName) jdk_42_method_53_code (2 : Nat) (Option.none : Option Jvm.ClassFile.FieldType), Jvm.Cond.code ({ cls := "java/lang/String", name := "<init>", desc := "(Ljava/lang/AbstractStringBuilder;Ljava/lang/Void;)V" } : Jvm.MethodName) jdk_42_method_150_code (5 : Nat) (Option.none : Option Jvm.ClassFile.FieldType), Jvm.Cond.code ({ cls := "java/lang/AbstractStringBuilder", name := "getValue", desc := "()[B" } : Jvm.MethodName) jdk_68_method_64_code (1 : Nat) (Option.some (Jvm.ClassFile.FieldType.array Jvm.ClassFile.FieldType.byte)), Jvm.Cond.code ({ cls := "java/lang/StringBuilder", name := "length", desc := "()I" } : Jvm.MethodName) jdk_67_method_93_code (1 : Nat) (Option.some Jvm.ClassFile.FieldType.int), Jvm.Cond.code ({ cls := "java/lang/AbstractStringBuilder", name := "length", desc := "()I" } : Jvm.MethodName) jdk_68_method_6_code (1 : Nat) (Option.some Jvm.ClassFile.FieldType.int), Jvm.Cond.code ({ cls := "java/lang/AbstractStringBuilder", name := "isLatin1", desc := "()Z" } : Jvm.MethodName) jdk_68_method_68_code (1 : Nat) (Option.some Jvm.ClassFile.FieldType.boolean), Jvm.Cond.code ({ cls := "java/util/Arrays", name := "copyOfRange", desc := "([BII)[B" } : Jvm.MethodName) jdk_65_method_132_code (3 : Nat) (Option.some (Jvm.ClassFile.FieldType.array Jvm.ClassFile.FieldType.byte)), Jvm.Cond.code ({ cls := "java/util/Arrays", name := "copyOfRangeByte", desc := "([BII)[B" } : Jvm.MethodName) jdk_65_method_133_code (5 : Nat) (Option.some (Jvm.ClassFile.FieldType.array Jvm.ClassFile.FieldType.byte)), Jvm.Cond.code ({ cls := "java/util/Arrays", name := "checkLength", desc := "(II)V" } : Jvm.MethodName) jdk_65_method_131_code (2 : Nat) (Option.none : Option Jvm.ClassFile.FieldType), Jvm.Cond.code ({ cls := "java/util/Optional", name := "ofNullable", desc := "(Ljava/lang/Object;)Ljava/util/Optional;" } : Jvm.MethodName) jdk_32_method_4_code (1 : Nat) (Option.some (Jvm.ClassFile.FieldType.object "java/util/Optional")), Jvm.Cond.code ({ cls := "java/util/Optional", name := "<init>", desc := "(Ljava/lang/Object;)V" } : Jvm.MethodName) jdk_32_method_2_code (2 : Nat) (Option.none : Option Jvm.ClassFile.FieldType), Jvm.Cond.code ({ cls := "java/lang/Math", name := "max", desc := "(JJ)J" } : Jvm.MethodName) jdk_29_method_66_code (4 : Nat) (Option.some Jvm.ClassFile.FieldType.long)]
set_option maxRecDepth 65536 in
theorem codes_eq : words1.filter isCode = codes1 := rfl
theorem w_codes : ∀ c ∈ words1.filter isCode, c.before args0 about1 = true := by
  rw [codes_eq]
  intro c hc
  simp only [codes1, List.mem_cons, List.not_mem_nil, or_false] at hc
  rcases hc with rfl | rfl | rfl | rfl | rfl | rfl | rfl | rfl | rfl | rfl | rfl | rfl | rfl | rfl | rfl | rfl | rfl | rfl | rfl | rfl | rfl | rfl | rfl | rfl | rfl | rfl | rfl | rfl | rfl | rfl | rfl | rfl | rfl | rfl | rfl | rfl
  · exact w_c0
  · exact w_c1
  · exact w_c2
  · exact w_c3
  · exact w_c4
  · exact w_c5
  · exact w_c6
  · exact w_c7
  · exact w_c8
  · exact w_c9
  · exact w_c10
  · exact w_c11
  · exact w_c12
  · exact w_c13
  · exact w_c14
  · exact w_c15
  · exact w_c16
  · exact w_c17
  · exact w_c18
  · exact w_c19
  · exact w_c20
  · exact w_c21
  · exact w_c22
  · exact w_c23
  · exact w_c24
  · exact w_c25
  · exact w_c26
  · exact w_c27
  · exact w_c28
  · exact w_c29
  · exact w_c30
  · exact w_c31
  · exact w_c32
  · exact w_c33
  · exact w_c34
  · exact w_c35
set_option maxRecDepth 65536 in
theorem w_t1 : (words1.take 24).all (fun c => isCode c || c.before args0 about1) = true := by decide +kernel
set_option maxRecDepth 65536 in
theorem w_t2 : ((words1.drop 24).take 24).all (fun c => isCode c || c.before args0 about1) = true := by decide +kernel
set_option maxRecDepth 65536 in
theorem w_t3 : (((words1.drop 24).drop 24).take 24).all (fun c => isCode c || c.before args0 about1) = true := by decide +kernel
set_option maxRecDepth 65536 in
theorem w_t4 : ((((words1.drop 24).drop 24).drop 24).take 24).all (fun c => isCode c || c.before args0 about1) = true := by decide +kernel
set_option maxRecDepth 65536 in
theorem w_t5 : (((((words1.drop 24).drop 24).drop 24).drop 24).take 24).all (fun c => isCode c || c.before args0 about1) = true := by decide +kernel
set_option maxRecDepth 65536 in
theorem w_t6 : ((((((words1.drop 24).drop 24).drop 24).drop 24).drop 24).take 24).all (fun c => isCode c || c.before args0 about1) = true := by decide +kernel
set_option maxRecDepth 65536 in
theorem w_t7 : (((((((words1.drop 24).drop 24).drop 24).drop 24).drop 24).drop 24).take 24).all (fun c => isCode c || c.before args0 about1) = true := by decide +kernel
set_option maxRecDepth 65536 in
theorem w_t8 : ((((((((words1.drop 24).drop 24).drop 24).drop 24).drop 24).drop 24).drop 24).take 24).all (fun c => isCode c || c.before args0 about1) = true := by decide +kernel
set_option maxRecDepth 65536 in
theorem w_t9 : ((((((((words1.drop 24).drop 24).drop 24).drop 24).drop 24).drop 24).drop 24).drop 24).all (fun c => isCode c || c.before args0 about1) = true := by decide +kernel
theorem w_tables : (allAtoms (Jvm.Cond.code x code maxLocals ret :: tables_1)).before args0 about1 = true := by
  rw [allAtoms_all]
  show words1.all (fun c => c.before args0 about1) = true
  refine all_split ?_ w_codes
  rw [← List.take_append_drop 24 words1, List.all_append, w_t1, ← List.take_append_drop 24 (words1.drop 24), List.all_append, w_t2, ← List.take_append_drop 24 ((words1.drop 24).drop 24), List.all_append, w_t3, ← List.take_append_drop 24 (((words1.drop 24).drop 24).drop 24), List.all_append, w_t4, ← List.take_append_drop 24 ((((words1.drop 24).drop 24).drop 24).drop 24), List.all_append, w_t5, ← List.take_append_drop 24 (((((words1.drop 24).drop 24).drop 24).drop 24).drop 24), List.all_append, w_t6, ← List.take_append_drop 24 ((((((words1.drop 24).drop 24).drop 24).drop 24).drop 24).drop 24), List.all_append, w_t7, ← List.take_append_drop 24 (((((((words1.drop 24).drop 24).drop 24).drop 24).drop 24).drop 24).drop 24), List.all_append, w_t8, w_t9]
  rfl
set_option maxRecDepth 65536 in
theorem w_rest : rest_1_c.before args0 about1 = true := by decide +kernel
set_option maxRecDepth 65536 in
theorem w_case : (Jvm.Cond.and given_1 narrow_1).before args0 about1 = true := by decide +kernel
set_option maxRecDepth 65536 in
theorem w_consts : constsHeld consts_1 about1 := Jvm.Lit.constsHeldB_iff.mp (by decide +kernel)
theorem w_applies : (headSpec (Jvm.Cond.code x code maxLocals ret :: tables_1) room_1).applies x e0.platform about1 = true :=
  (Spec.applies_iff w_frames).mpr ⟨w_running, w_runnable, w_alone, w_named, w_hears, w_ripe, w_room, w_tables⟩
theorem atStart : AtStart classFile x code maxLocals ret World_1 tables_1 room_1 Calls_1 rest_1 Pre_1 launch0 p0 e0 about1 theMethod args0 below0 :=
  ⟨lists_1, trivial, launch0.admits_env _ _ _, launch0.least_env, fairChoices_fair.cas, fairChoices_fair.clock, w_frames, w_args, w_heap, w_applies, ⟨w_consts, trivial⟩, w_rest, w_case⟩
end start1
theorem witness_1 : WitnessClaimed_1 := ⟨start1.p0, start1.e0, start1.about1, start1.theMethod, start1.args0, start1.below0, start1.atStart⟩
end Jvm.Pilot.@@N@@
