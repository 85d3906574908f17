import JvmDerived
import JvmDerived.Pilot.@@N@@Statement
import JvmDerived.Pilot.@@N@@Code
set_option linter.unusedVariables false
set_option linter.unusedSimpArgs false
namespace Jvm.Pilot.@@N@@
open Jvm Jvm.ClassFile Sem Op Lib Jvm.Free Jvm.Stand Jvm.LawKit Jvm.RoadKit Bundle Jvm.Pilot.@@N@@.Jvm.D
/-! own kit, part 1: the walk by continuations -/
abbrev Cx : Type := Program × Env × State × MethodId × Array Value × List Frame × Method × Code × (Outcome → State → Prop)
abbrev Cx.p (x : Cx) : Program := x.1
abbrev Cx.e (x : Cx) : Env := x.2.1
abbrev Cx.s (x : Cx) : State := x.2.2.1
abbrev Cx.m (x : Cx) : MethodId := x.2.2.2.1
abbrev Cx.args (x : Cx) : Array Value := x.2.2.2.2.1
abbrev Cx.below (x : Cx) : List Frame := x.2.2.2.2.2.1
abbrev Cx.meth (x : Cx) : Method := x.2.2.2.2.2.2.1
abbrev Cx.c (x : Cx) : Code := x.2.2.2.2.2.2.2.1
abbrev Cx.F (x : Cx) : Outcome → State → Prop := x.2.2.2.2.2.2.2.2
abbrev BP : Type := Addr → Prop
abbrev QT : Type := Option Value → Heap → BP → Prop
/-- the end is reached from A -/
def Go (x : Cx) (A : State) : Prop := ∃ s₂ o, Steps x.p.tables x.e x.below A s₂ ∧ s₂.status = .running ∧ Ended s₂ x.below o ∧ x.F o s₂
theorem Go.from {x : Cx} {A A' : State} (G : Go x A') (st : ∀ t, Steps x.p.tables x.e x.below A' t → Steps x.p.tables x.e x.below A t) : Go x A := by
  obtain ⟨t, o, h1, r⟩ := G
  exact ⟨t, o, st _ h1, r⟩
/-- an instruction of the bytes: where it stands, its length, the place behind it -/
def Dc (bytes : ByteArray) (pc : Nat) (i : Instr) (len pc' : Nat) : Prop := decode bytes pc = .ok (i, len) ∧ pc' = pc + len
/-- a branch: where it stands, where it goes -/
def Db (bytes : ByteArray) (pc : Nat) (i : Instr) (o : Int) (pc' pc'' : Nat) : Prop := decode bytes pc = .ok (i, 3) ∧ pc' = pc + 3 ∧ 0 ≤ (pc : Int) + o ∧ ((pc : Int) + o).toNat = pc''
def k_inv (Z : State) (EL : List (String × Nat)) (B : BP) (vm : Vm) (h : Heap) : Prop :=
  CHv Z EL vm h ∧ (∀ y, Bk Z EL vm h y → B y) ∧ (∀ y, B y → y < h.size) ∧ Ext Z.heap h ∧ ∃ a0, EW Z a0 EL
def k_end (nw : Bool) (U : State) (o : Outcome) (U' : State) (L : List Loc) (k n : Nat) : Prop :=
  ReturnedEndW U o U' L k n ∧ (nw = true → U.WarmedH U'.vm)
/-- the booked places: none is lost, and what has come lies at n or above -/
def k_more (B B' : BP) (n : Nat) : Prop := (∀ y, B' y → B y ∨ n ≤ y) ∧ ∀ y, B y → B' y
theorem k_more.refl (B : BP) (n : Nat) : k_more B B n := ⟨fun _ q => Or.inl q, fun _ q => q⟩
theorem k_more.trans {B B' B'' : BP} {n n' : Nat} (a : k_more B B' n) (b : k_more B' B'' n') (q : n ≤ n') : k_more B B'' n := ⟨fun y hy => by
  rcases b.1 y hy with r | r
  · exact a.1 y r
  · exact Or.inr (Nat.le_trans q r), fun y hy => b.2 y (a.2 y hy)⟩
theorem k_more.no {B B' : BP} {n : Nat} (a : k_more B B' n) {y : Addr} (h1 : ¬ B y) (h2 : @LT.lt Nat _ y n) : ¬ B' y := fun q => by
  rcases a.1 y q with r | r
  · exact h1 r
  · exact absurd h2 (Nat.not_lt.mpr r)
/-- what a body promises -/
def ConQ (nw : Bool) (Z : State) (EL : List (String × Nat)) (rm : Room) (h : Heap) (B : BP) (ws : List Addr) (Q : QT) (U : State) (o : Outcome) (U' : State) : Prop :=
  ∃ v L B', o = .returned v ∧ Q v U'.heap B' ∧ Keep h U'.heap ws ∧ k_more B B' h.size ∧ Fr Z.heap.size L ∧ k_inv Z EL B' U'.vm U'.heap ∧ k_end nw U o U' L rm.cells rm.slots
def Con (nw : Bool) (l : Launch) (Z : State) (EL : List (String × Nat)) (y : MethodName) (bytes : ByteArray) (maxL : Nat) (ret : Option FieldType) (wl : List Jvm.Cond) (rm : Room) (as : Array Value) (h : Heap) (B : BP) (ws : List Addr) (Q : QT) : Prop :=
  MetFree l y (head1 (Cond.code y bytes maxL ret :: wl) rm) (fun a U => a = as ∧ Z.Warmed39 U.vm ∧ U.heap = h ∧ k_inv Z EL B U.vm h) (fun _ _ _ _ _ => True) (fun _ U o U' => ConQ nw Z EL rm h B ws Q U o U')
/-- the walk stands at T, heap h -/
def Wk (nw : Bool) (l : Launch) (Z : State) (EL : List (String × Nat)) (own : String) (bytes : ByteArray) (maxL : Nat) (ret : Option FieldType) (mnm : String) (R : Room) (h0 : Heap) (B0 : BP) (ws : List Addr) (Q : QT) (x : Cx) (T : State) (h : Heap) (B : BP) (k n : Nat) : Prop :=
  (x.p.tables.exec = Jvm.exec ∧ x.c.code = bytes ∧ x.c.maxLocals = maxL ∧ x.meth.sig.returnType = ret ∧ x.meth.locks = false ∧ x.meth.name = mnm ∧ x.F = ConQ nw Z EL R h0 B0 ws Q x.s) ∧
  ∃ vm0 k0 locs, Stand x.p l x.e R (x.s.setVm vm0) x.m x.args x.below x.meth x.c T locs k n ∧ T.heap = h ∧ x.s.Since vm0 k0 ∧ k0 ≤ h.size ∧ Z.Warmed39 vm0 ∧ vm0.findClass own = some x.m.cls ∧ k_inv Z EL B vm0 h ∧ Fr Z.heap.size locs ∧ Keep h0 h ws ∧ k_more B0 B h0.size ∧ (nw = true → x.s.WarmedH vm0)
theorem k_neN {x y : Nat} (q : x ≠ y) : x ≠ y := q
theorem k_ltE {Z : State} {h : Heap} {a : Addr} {C : String} (E : Exa Z h a C) : @LT.lt Nat _ a h.size := E.lt
section Inv
variable {Z : State} {EL : List (String × Nat)} {B : BP} {vm vm0 : Vm} {h h' : Heap}
theorem k_inv.lt (I : k_inv Z EL B vm h) : ¬ B h.size := fun q => Nat.lt_irrefl _ (I.2.2.1 _ q)
theorem k_inv.keep (I : k_inv Z EL B vm h) {ws : List Addr} (K : Keep h h' ws) (hw : ∀ x ∈ ws, ¬ B x ∧ Z.heap.size ≤ x) : k_inv Z EL B vm h' := by
  obtain ⟨i1, i2, i3, i4, i5⟩ := I
  have q := CHv.keepStep K (fun x hx b => (hw x hx).1 (i2 _ b)) i1
  refine ⟨q.1, fun y b => i2 y (q.2 y b), fun y b => Nat.lt_of_lt_of_le (i3 y b) K.1, ⟨Nat.le_trans i4.1 K.1, fun a c e => K.2.1 a c (i4.2 a c e) fun z => ?_⟩, i5⟩
  exact absurd (Array.getElem?_eq_some_iff.mp e).1 (Nat.not_lt.mpr (hw a z).2)
theorem k_inv.ext (I : k_inv Z EL B vm h) (E : Ext h h') : k_inv Z EL B vm h' := I.keep ((Keep.refl h []).ext E) (fun _ q => nomatch q)
theorem k_inv.wr (I : k_inv Z EL B vm h) {a : Addr} {sl : Nat} {v : Value} (W : Wr h h' a sl v) (hb : ¬ B a) (hz : Z.heap.size ≤ a) : k_inv Z EL B vm h' :=
  I.keep (Keep.of_wr W) (fun y q => by cases List.mem_singleton.mp q; exact ⟨hb, hz⟩)
theorem k_inv.vmT {p : Program} {l : Launch} {e : Env} {R : Room} {s : State} {m : MethodId} {args : Array Value} {below : List Frame} {meth : Method} {c : Code} {T : State} {locs : List Loc} {cells slots : Nat}
    (I : k_inv Z EL B vm0 h) (X : Stand p l e R (s.setVm vm0) m args below meth c T locs cells slots) (hZ : Z.Warmed39 vm0) : k_inv Z EL B T.vm h := by
  obtain ⟨i1, i2, i3, i4, a0, i5⟩ := I
  have q := CHv.at X hZ i5 i1
  refine ⟨q.1, fun y b => ?_, i3, i4, a0, i5⟩
  rcases q.2.2 y b with r | r
  · exact i2 y r
  · exact absurd (by obtain ⟨cell, hc⟩ := Bk.there b; exact (Array.getElem?_eq_some_iff.mp hc).1) (Nat.not_lt.mpr r)
end Inv
section Kit
variable {nw : Bool} {l : Launch} {Z : State} {EL : List (String × Nat)} {own : String} {bytes : ByteArray} {maxL : Nat} {ret : Option FieldType} {mnm : String} {R : Room} {h0 : Heap} {B0 : BP} {ws : List Addr} {Q : QT} {x : Cx} {T : State} {h : Heap} {B : BP} {k n : Nat} {a0 : Array Value} {pc pc' : Nat} {Ls : Array Slot} {st : List Value}
/-- a body is walked from its entry -/
theorem k_intro {y : MethodName} {wl : List Jvm.Cond} {as : Array Value} (hy : plainFor y = true) (hef' : Jvm.Sym.laidSlots as.toList ++ List.replicate (maxL - (Jvm.Sym.laidSlots as.toList).length) .unset = Ls.toList)
    (body : ∀ (x : Cx) (T : State), Wk nw l Z EL y.cls bytes maxL ret y.name R h0 B0 ws Q x T h0 B0 0 0 → Go x (T.setTop (mkF x.m 0 Ls []))) :
    Con nw l Z EL y bytes maxL ret wl R as h0 B0 ws Q := by
  have hef : ∀ m, entryFrame m as maxL = mkF m 0 Ls [] := fun m => by
    have : argsToLocals as maxL = Ls := Array.toList_inj.mp (by rw [Jvm.Sym.argsToLocals_toList]; exact hef')
    unfold entryFrame
    rw [this]
  refine MetFree.of_bodySF hy hisR ?_
  intro p e s m args below meth c s₁ Bd hml0 hP hK
  obtain ⟨rfl, hZ, hh, hI⟩ := hP
  have hown : s.vm.findClass y.cls = some m.cls := findClass_of_methodNamed Bd.named
  have hnm := (name_of_methodNamed Bd.named Bd.method).1
  have X0 : Stand p l e R s m args below meth c s₁ [] 0 0 := Stand.of_body Bd
  have e0 : s₁.heap = h0 := by rw [← hh, Bd.state]; rfl
  have W : Wk nw l Z EL y.cls bytes maxL ret y.name R h0 B0 ws Q (p, e, s, m, args, below, meth, c, fun o t => ConQ nw Z EL R h0 B0 ws Q s o t) s₁ h0 B0 0 0 :=
    ⟨⟨Bd.exec, Bd.bytes, hml0, Bd.returns, Bd.notSynchronized, hnm, rfl⟩, s.vm, h0.size, [], X0, e0, (State.WarmedH.refl s).since _, Nat.le_refl _, hZ, hown, hI, Fr.nil _, Keep.refl _ _, k_more.refl _ _, fun _ => State.WarmedH.refl s⟩
  obtain ⟨t, o, g1, g2, g3, g4⟩ := body _ _ W
  exact ⟨t, o, castTop (hef m) g1, g2, g3, g4⟩
theorem Wk.at (X : Wk nw l Z EL own bytes maxL ret mnm R h0 B0 ws Q x T h B k n) : At T x.m x.c x.below := by obtain ⟨-, _, _, _, X, -⟩ := X; exact X.here
theorem Wk.ex (X : Wk nw l Z EL own bytes maxL ret mnm R h0 B0 ws Q x T h B k n) : x.p.tables.exec = Jvm.exec := X.1.1
theorem Wk.dec (X : Wk nw l Z EL own bytes maxL ret mnm R h0 B0 ws Q x T h B k n) {r : Except ClassFile.DecodeError (Instr × Nat)} (hd : decode bytes pc = r) : decode x.c.code pc = r := by rw [X.1.2.1]; exact hd
theorem Wk.inv (X : Wk nw l Z EL own bytes maxL ret mnm R h0 B0 ws Q x T h B k n) : ∃ vm, k_inv Z EL B vm h := by obtain ⟨-, vm, _, _, -, -, -, -, -, -, hI, -⟩ := X; exact ⟨vm, hI⟩
theorem Wk.old (X : Wk nw l Z EL own bytes maxL ret mnm R h0 B0 ws Q x T h B k n) : Ext Z.heap h := by obtain ⟨vm, I⟩ := X.inv; exact I.2.2.2.1
theorem Wk.fresh (X : Wk nw l Z EL own bytes maxL ret mnm R h0 B0 ws Q x T h B k n) : ¬ B h.size := by obtain ⟨vm, I⟩ := X.inv; exact I.lt
theorem Wk.free (X : Wk nw l Z EL own bytes maxL ret mnm R h0 B0 ws Q x T h B k n) {y : Addr} (q : h.size ≤ y) : ¬ B y := fun b => by obtain ⟨vm, I⟩ := X.inv; exact absurd (I.2.2.1 y b) (Nat.not_lt.mpr q)
theorem Wk.kept (X : Wk nw l Z EL own bytes maxL ret mnm R h0 B0 ws Q x T h B k n) : Keep h0 h ws := by obtain ⟨-, _, _, _, -, -, -, -, -, -, -, -, K, -⟩ := X; exact K
theorem Wk.more (X : Wk nw l Z EL own bytes maxL ret mnm R h0 B0 ws Q x T h B k n) {k' n' : Nat} (h1 : k ≤ k') (h2 : n ≤ n') : Wk nw l Z EL own bytes maxL ret mnm R h0 B0 ws Q x T h B k' n' := by
  obtain ⟨a, vm0, k0, locs, X, r⟩ := X
  exact ⟨a, vm0, k0, locs, X.more h1 h2, r⟩
theorem Wk.sz (X : Wk nw l Z EL own bytes maxL ret mnm R h0 B0 ws Q x T h B k n) : h0.size ≤ h.size := X.kept.1
theorem Wk.szZ (X : Wk nw l Z EL own bytes maxL ret mnm R h0 B0 ws Q x T h B k n) : Z.heap.size ≤ h.size := X.old.1
/-! the ends -/
theorem k_leave (X : Wk nw l Z EL own bytes maxL ret mnm R h0 B0 ws Q x T h B k n) (hk : k ≤ R.cells) (hn : n ≤ R.slots) {v : Option Value} (hv : ret = none → v = none) (hQ : Q v h B)
    {A : State} (st : ∀ fs, (∀ (f : JFrame) (acts : List Action), f.method = x.m → f.locked = none → f.entered = [] → (doReturn x.e (T.setTop f) acts v).1 = T.setFrames fs) → Steps x.p.tables x.e x.below A (T.setFrames fs)) : Go x A := by
  obtain ⟨⟨-, -, -, hr, hlk, -, hF⟩, vm0, k0, locs, X, rfl, hS, hk0, hZ, hown, hI, hFr, hK, hM, hN⟩ := X
  obtain ⟨fs, g1, g2, g3, g4⟩ := X.leaveW hS hk0 (v := v) (fun q => hv (hr ▸ q)) hlk
  refine ⟨T.setFrames fs, .returned v, st fs g1, g2, g3, ?_⟩
  rw [hF]
  refine ⟨v, locs, B, rfl, hQ, hK, hM, hFr, (have q := hI.vmT X hZ; q), ⟨?_, fun q => State.WarmedH.trans (hN q) X.warmed⟩⟩
  obtain ⟨q1, q2, q3, q4⟩ := g4
  exact ⟨q1, q2, q3, q4.mono hk hn⟩
theorem g_return (X : Wk nw l Z EL own bytes maxL none mnm R h0 B0 ws Q x T h B k n) (hd : Dc bytes pc .return_ 1 pc') (hk : k ≤ R.cells) (hn : n ≤ R.slots) (hQ : Q none h B) : Go x (T.setTop (mkF x.m pc Ls [])) := by
  refine k_leave X hk hn (fun _ => rfl) hQ fun fs hl => ?_
  obtain ⟨⟨hx, hb, -, hr, -, -, -⟩, vm0, k0, locs, X, -⟩ := X
  exact X.returnOut hx hr (hb ▸ hd.1) hl
theorem g_areturn {t : FieldType} {w : Value} (X : Wk nw l Z EL own bytes maxL (some t) mnm R h0 B0 ws Q x T h B k n) (hd : Dc bytes pc .areturn 1 pc') (ht : t.isReference = true) (hnw : narrow t w = w) (hw : w.isRef = true) (hk : k ≤ R.cells) (hn : n ≤ R.slots) (hQ : Q (some w) h B) : Go x (T.setTop (mkF x.m pc Ls (w :: st))) := by
  refine k_leave X hk hn (fun q => by cases q) hQ fun fs hl => ?_
  obtain ⟨⟨hx, hb, -, hr, -, -, -⟩, vm0, k0, locs, X, -⟩ := X
  exact retOut X hx hr hnw (Or.inr (Or.inr (Or.inr (Or.inr ⟨rfl, ht, hw⟩)))) (hb ▸ hd.1) hl
theorem g_ireturn {t : FieldType} {w w' : Int32} (X : Wk nw l Z EL own bytes maxL (some t) mnm R h0 B0 ws Q x T h B k n) (hd : Dc bytes pc .ireturn 1 pc') (ht : t = .boolean ∨ t = .byte ∨ t = .char ∨ t = .short) (hw : RoadKit.nar t w = w') (hk : k ≤ R.cells) (hn : n ≤ R.slots) (hQ : Q (some (.int w')) h B) : Go x (T.setTop (mkF x.m pc Ls (.int w :: st))) := by
  subst hw
  refine k_leave X hk hn (fun q => by cases q) hQ fun fs hl => ?_
  obtain ⟨⟨hx, hb, -, hr, -, -, -⟩, vm0, k0, locs, X, -⟩ := X
  exact retN X hx hr ht (hb ▸ hd.1) hl
theorem g_ireturnI {w : Int32} (X : Wk nw l Z EL own bytes maxL (some .int) mnm R h0 B0 ws Q x T h B k n) (hd : Dc bytes pc .ireturn 1 pc') (hk : k ≤ R.cells) (hn : n ≤ R.slots) (hQ : Q (some (.int w)) h B) : Go x (T.setTop (mkF x.m pc Ls (.int w :: st))) := by
  refine k_leave X hk hn (fun q => by cases q) hQ fun fs hl => ?_
  obtain ⟨⟨hx, hb, -, hr, -, -, -⟩, vm0, k0, locs, X, -⟩ := X
  exact retOut X hx hr rfl (Or.inl ⟨rfl, Or.inl rfl, _, rfl⟩) (hb ▸ hd.1) hl
theorem g_lreturn {w : Int64} (X : Wk nw l Z EL own bytes maxL (some .long) mnm R h0 B0 ws Q x T h B k n) (hd : Dc bytes pc .lreturn 1 pc') (hk : k ≤ R.cells) (hn : n ≤ R.slots) (hQ : Q (some (.long w)) h B) : Go x (T.setTop (mkF x.m pc Ls (.long w :: st))) := by
  refine k_leave X hk hn (fun q => by cases q) hQ fun fs hl => ?_
  obtain ⟨⟨hx, hb, -, hr, -, -, -⟩, vm0, k0, locs, X, -⟩ := X
  exact retOut X hx hr rfl (Or.inr (Or.inl ⟨rfl, rfl, _, rfl⟩)) (hb ▸ hd.1) hl
theorem g_iloadN (X : Wk nw l Z EL own bytes maxL ret mnm R h0 B0 ws Q x T h B k n) {j : Fin 4} {v : Int32} (hd : Dc bytes pc (.iload_n j) 1 pc') (hl : Ls[j.val]? = some (.val (.int v))) (G : Go x (T.setTop (mkF x.m pc' Ls (.int v :: st)))) : Go x (T.setTop (mkF x.m pc Ls st)) := by
  obtain ⟨hd, rfl⟩ := hd
  exact G.from fun t q => XS.iloadN X.at X.ex rfl (X.dec hd) hl q
theorem g_iload (X : Wk nw l Z EL own bytes maxL ret mnm R h0 B0 ws Q x T h B k n) {j : Nat} {v : Int32} (hd : Dc bytes pc (.iload j) 2 pc') (hl : Ls[j]? = some (.val (.int v))) (G : Go x (T.setTop (mkF x.m pc' Ls (.int v :: st)))) : Go x (T.setTop (mkF x.m pc Ls st)) := by
  obtain ⟨hd, rfl⟩ := hd
  exact G.from fun t q => XS.iload X.at X.ex rfl (X.dec hd) hl q
theorem g_lloadN (X : Wk nw l Z EL own bytes maxL ret mnm R h0 B0 ws Q x T h B k n) {j : Fin 4} {v : Int64} (hd : Dc bytes pc (.lload_n j) 1 pc') (hl : Ls[j.val]? = some (.val (.long v))) (G : Go x (T.setTop (mkF x.m pc' Ls (.long v :: st)))) : Go x (T.setTop (mkF x.m pc Ls st)) := by
  obtain ⟨hd, rfl⟩ := hd
  exact G.from fun t q => XT.lloadN X.at X.ex rfl (X.dec hd) hl q
theorem g_lload (X : Wk nw l Z EL own bytes maxL ret mnm R h0 B0 ws Q x T h B k n) {j : Nat} {v : Int64} (hd : Dc bytes pc (.lload j) 2 pc') (hl : Ls[j]? = some (.val (.long v))) (G : Go x (T.setTop (mkF x.m pc' Ls (.long v :: st)))) : Go x (T.setTop (mkF x.m pc Ls st)) := by
  obtain ⟨hd, rfl⟩ := hd
  exact G.from fun t q => XT.lload X.at X.ex rfl (X.dec hd) hl q
theorem g_aloadN (X : Wk nw l Z EL own bytes maxL ret mnm R h0 B0 ws Q x T h B k n) {j : Fin 4} {v : Value} (hd : Dc bytes pc (.aload_n j) 1 pc') (hl : Ls[j.val]? = some (.val v)) (hv : v.isRef = true) (G : Go x (T.setTop (mkF x.m pc' Ls (v :: st)))) : Go x (T.setTop (mkF x.m pc Ls st)) := by
  obtain ⟨hd, rfl⟩ := hd
  exact G.from fun t q => XS.aloadN X.at X.ex rfl (X.dec hd) hl hv q
theorem g_aload (X : Wk nw l Z EL own bytes maxL ret mnm R h0 B0 ws Q x T h B k n) {j : Nat} {v : Value} (hd : Dc bytes pc (.aload j) 2 pc') (hl : Ls[j]? = some (.val v)) (hv : v.isRef = true) (G : Go x (T.setTop (mkF x.m pc' Ls (v :: st)))) : Go x (T.setTop (mkF x.m pc Ls st)) := by
  obtain ⟨hd, rfl⟩ := hd
  exact G.from fun t q => XS.aload X.at X.ex rfl (X.dec hd) hl hv q
theorem g_istoreN (X : Wk nw l Z EL own bytes maxL ret mnm R h0 B0 ws Q x T h B k n) {j : Fin 4} {v : Int32} (Ls' : Array Slot) (hd : Dc bytes pc (.istore_n j) 1 pc') (hl : storeLocals Ls j.val (.int v) = some Ls') (G : Go x (T.setTop (mkF x.m pc' Ls' st))) : Go x (T.setTop (mkF x.m pc Ls (.int v :: st))) := by
  obtain ⟨hd, rfl⟩ := hd
  exact G.from fun t q => XS.istoreN X.at X.ex rfl (X.dec hd) rfl hl q
theorem g_istore (X : Wk nw l Z EL own bytes maxL ret mnm R h0 B0 ws Q x T h B k n) {j : Nat} {v : Int32} (Ls' : Array Slot) (hd : Dc bytes pc (.istore j) 2 pc') (hl : storeLocals Ls j (.int v) = some Ls') (G : Go x (T.setTop (mkF x.m pc' Ls' st))) : Go x (T.setTop (mkF x.m pc Ls (.int v :: st))) := by
  obtain ⟨hd, rfl⟩ := hd
  exact G.from fun t q => XS.istore X.at X.ex rfl (X.dec hd) rfl hl q
theorem g_lstoreN (X : Wk nw l Z EL own bytes maxL ret mnm R h0 B0 ws Q x T h B k n) {j : Fin 4} {v : Int64} (Ls' : Array Slot) (hd : Dc bytes pc (.lstore_n j) 1 pc') (hl : storeLocals Ls j.val (.long v) = some Ls') (G : Go x (T.setTop (mkF x.m pc' Ls' st))) : Go x (T.setTop (mkF x.m pc Ls (.long v :: st))) := by
  obtain ⟨hd, rfl⟩ := hd
  exact G.from fun t q => XT.lstoreN X.at X.ex rfl (X.dec hd) rfl hl q
theorem g_lstore (X : Wk nw l Z EL own bytes maxL ret mnm R h0 B0 ws Q x T h B k n) {j : Nat} {v : Int64} (Ls' : Array Slot) (hd : Dc bytes pc (.lstore j) 2 pc') (hl : storeLocals Ls j (.long v) = some Ls') (G : Go x (T.setTop (mkF x.m pc' Ls' st))) : Go x (T.setTop (mkF x.m pc Ls (.long v :: st))) := by
  obtain ⟨hd, rfl⟩ := hd
  exact G.from fun t q => XT.lstore X.at X.ex rfl (X.dec hd) rfl hl q
theorem g_astoreN (X : Wk nw l Z EL own bytes maxL ret mnm R h0 B0 ws Q x T h B k n) {j : Fin 4} {v : Value} (Ls' : Array Slot) (hd : Dc bytes pc (.astore_n j) 1 pc') (hv : v.isRef = true) (hl : storeLocals Ls j.val v = some Ls') (G : Go x (T.setTop (mkF x.m pc' Ls' st))) : Go x (T.setTop (mkF x.m pc Ls (v :: st))) := by
  obtain ⟨hd, rfl⟩ := hd
  exact G.from fun t q => XS.astoreN X.at X.ex rfl (X.dec hd) rfl hv hl q
theorem g_astore (X : Wk nw l Z EL own bytes maxL ret mnm R h0 B0 ws Q x T h B k n) {j : Nat} {v : Value} (Ls' : Array Slot) (hd : Dc bytes pc (.astore j) 2 pc') (hv : v.isRef = true) (hl : storeLocals Ls j v = some Ls') (G : Go x (T.setTop (mkF x.m pc' Ls' st))) : Go x (T.setTop (mkF x.m pc Ls (v :: st))) := by
  obtain ⟨hd, rfl⟩ := hd
  exact G.from fun t q => XS.astore X.at X.ex rfl (X.dec hd) rfl hv hl q
theorem g_iconst (X : Wk nw l Z EL own bytes maxL ret mnm R h0 B0 ws Q x T h B k n) {i : Int} (v : Int32) (hd : Dc bytes pc (.iconst i) 1 pc') (hv : Int32.ofInt i = v) (G : Go x (T.setTop (mkF x.m pc' Ls (.int v :: st)))) : Go x (T.setTop (mkF x.m pc Ls st)) := by
  obtain ⟨hd, rfl⟩ := hd
  exact G.from fun t q => XT.iconstV X.at X.ex rfl v (X.dec hd) hv q
theorem g_bipush (X : Wk nw l Z EL own bytes maxL ret mnm R h0 B0 ws Q x T h B k n) {i : Int} (v : Int32) (hd : Dc bytes pc (.bipush i) 2 pc') (hv : (Int8.ofInt i).toInt32 = v) (G : Go x (T.setTop (mkF x.m pc' Ls (.int v :: st)))) : Go x (T.setTop (mkF x.m pc Ls st)) := by
  obtain ⟨hd, rfl⟩ := hd
  exact G.from fun t q => XT.bipushV X.at X.ex rfl v (X.dec hd) hv q
theorem g_sipush (X : Wk nw l Z EL own bytes maxL ret mnm R h0 B0 ws Q x T h B k n) {i : Int} (v : Int32) (hd : Dc bytes pc (.sipush i) 3 pc') (hv : (Int16.ofInt i).toInt32 = v) (G : Go x (T.setTop (mkF x.m pc' Ls (.int v :: st)))) : Go x (T.setTop (mkF x.m pc Ls st)) := by
  obtain ⟨hd, rfl⟩ := hd
  exact G.from fun t q => XT.sipushV X.at X.ex rfl v (X.dec hd) hv q
theorem g_lconst (X : Wk nw l Z EL own bytes maxL ret mnm R h0 B0 ws Q x T h B k n) {i : Fin 2} (v : Int64) (hd : Dc bytes pc (.lconst i) 1 pc') (hv : Int64.ofNat i = v) (G : Go x (T.setTop (mkF x.m pc' Ls (.long v :: st)))) : Go x (T.setTop (mkF x.m pc Ls st)) := by
  obtain ⟨hd, rfl⟩ := hd
  exact G.from fun t q => XT.lconstV X.at X.ex rfl v (X.dec hd) hv q
theorem g_aconst_null (X : Wk nw l Z EL own bytes maxL ret mnm R h0 B0 ws Q x T h B k n)  (hd : Dc bytes pc (.aconst_null) 1 pc')  (G : Go x (T.setTop (mkF x.m pc' Ls (.null :: st)))) : Go x (T.setTop (mkF x.m pc Ls st)) := by
  obtain ⟨hd, rfl⟩ := hd
  exact G.from fun t q => XS.aconstNull X.at X.ex rfl (X.dec hd) q
theorem g_iinc (X : Wk nw l Z EL own bytes maxL ret mnm R h0 B0 ws Q x T h B k n) {j : Nat} {cst : Int} {v r : Int32} (Ls' : Array Slot) (hd : Dc bytes pc (.iinc j cst) 3 pc') (hl : Ls[j]? = some (.val (.int v))) (hr : v + Int32.ofInt cst = r) (hl' : storeLocals Ls j (.int r) = some Ls') (G : Go x (T.setTop (mkF x.m pc' Ls' st))) : Go x (T.setTop (mkF x.m pc Ls st)) := by
  obtain ⟨hd, rfl⟩ := hd
  exact G.from fun t q => XS.iinc X.at X.ex rfl (X.dec hd) hl (hr ▸ hl') q
theorem g_iadd (X : Wk nw l Z EL own bytes maxL ret mnm R h0 B0 ws Q x T h B k n) {u v : Int32} (r : Int32) (hd : Dc bytes pc (.iadd) 1 pc') (hr : u + v = r) (G : Go x (T.setTop (mkF x.m pc' Ls (.int r :: st)))) : Go x (T.setTop (mkF x.m pc Ls (.int v :: .int u :: st))) := by
  obtain ⟨hd, rfl⟩ := hd
  exact G.from fun t q => XS.iadd X.at X.ex rfl (X.dec hd) rfl (hr ▸ q)
theorem g_isub (X : Wk nw l Z EL own bytes maxL ret mnm R h0 B0 ws Q x T h B k n) {u v : Int32} (r : Int32) (hd : Dc bytes pc (.isub) 1 pc') (hr : u - v = r) (G : Go x (T.setTop (mkF x.m pc' Ls (.int r :: st)))) : Go x (T.setTop (mkF x.m pc Ls (.int v :: .int u :: st))) := by
  obtain ⟨hd, rfl⟩ := hd
  exact G.from fun t q => XS.isub X.at X.ex rfl (X.dec hd) rfl (hr ▸ q)
theorem g_imul (X : Wk nw l Z EL own bytes maxL ret mnm R h0 B0 ws Q x T h B k n) {u v : Int32} (r : Int32) (hd : Dc bytes pc (.imul) 1 pc') (hr : u * v = r) (G : Go x (T.setTop (mkF x.m pc' Ls (.int r :: st)))) : Go x (T.setTop (mkF x.m pc Ls (.int v :: .int u :: st))) := by
  obtain ⟨hd, rfl⟩ := hd
  exact G.from fun t q => XS.imul X.at X.ex rfl (X.dec hd) rfl (hr ▸ q)
theorem g_iand (X : Wk nw l Z EL own bytes maxL ret mnm R h0 B0 ws Q x T h B k n) {u v : Int32} (r : Int32) (hd : Dc bytes pc (.iand) 1 pc') (hr : u &&& v = r) (G : Go x (T.setTop (mkF x.m pc' Ls (.int r :: st)))) : Go x (T.setTop (mkF x.m pc Ls (.int v :: .int u :: st))) := by
  obtain ⟨hd, rfl⟩ := hd
  exact G.from fun t q => XS.iand X.at X.ex rfl (X.dec hd) rfl (hr ▸ q)
theorem g_ior (X : Wk nw l Z EL own bytes maxL ret mnm R h0 B0 ws Q x T h B k n) {u v : Int32} (r : Int32) (hd : Dc bytes pc (.ior) 1 pc') (hr : u ||| v = r) (G : Go x (T.setTop (mkF x.m pc' Ls (.int r :: st)))) : Go x (T.setTop (mkF x.m pc Ls (.int v :: .int u :: st))) := by
  obtain ⟨hd, rfl⟩ := hd
  exact G.from fun t q => XT.ior X.at X.ex rfl (X.dec hd) rfl (hr ▸ q)
theorem g_ixor (X : Wk nw l Z EL own bytes maxL ret mnm R h0 B0 ws Q x T h B k n) {u v : Int32} (r : Int32) (hd : Dc bytes pc (.ixor) 1 pc') (hr : u ^^^ v = r) (G : Go x (T.setTop (mkF x.m pc' Ls (.int r :: st)))) : Go x (T.setTop (mkF x.m pc Ls (.int v :: .int u :: st))) := by
  obtain ⟨hd, rfl⟩ := hd
  exact G.from fun t q => XT.ixor X.at X.ex rfl (X.dec hd) rfl (hr ▸ q)
theorem g_ishl (X : Wk nw l Z EL own bytes maxL ret mnm R h0 B0 ws Q x T h B k n) {u v : Int32} (r : Int32) (hd : Dc bytes pc (.ishl) 1 pc') (hr : u <<< (v &&& 31) = r) (G : Go x (T.setTop (mkF x.m pc' Ls (.int r :: st)))) : Go x (T.setTop (mkF x.m pc Ls (.int v :: .int u :: st))) := by
  obtain ⟨hd, rfl⟩ := hd
  exact G.from fun t q => XT.ishl X.at X.ex rfl (X.dec hd) rfl (hr ▸ q)
theorem g_ishr (X : Wk nw l Z EL own bytes maxL ret mnm R h0 B0 ws Q x T h B k n) {u v : Int32} (r : Int32) (hd : Dc bytes pc (.ishr) 1 pc') (hr : u >>> (v &&& 31) = r) (G : Go x (T.setTop (mkF x.m pc' Ls (.int r :: st)))) : Go x (T.setTop (mkF x.m pc Ls (.int v :: .int u :: st))) := by
  obtain ⟨hd, rfl⟩ := hd
  exact G.from fun t q => XT.ishr X.at X.ex rfl (X.dec hd) rfl (hr ▸ q)
theorem g_iushr (X : Wk nw l Z EL own bytes maxL ret mnm R h0 B0 ws Q x T h B k n) {u v : Int32} (r : Int32) (hd : Dc bytes pc (.iushr) 1 pc') (hr : XT.ushr u v = r) (G : Go x (T.setTop (mkF x.m pc' Ls (.int r :: st)))) : Go x (T.setTop (mkF x.m pc Ls (.int v :: .int u :: st))) := by
  obtain ⟨hd, rfl⟩ := hd
  exact G.from fun t q => XT.iushr X.at X.ex rfl (X.dec hd) rfl (hr ▸ q)
theorem g_idiv (X : Wk nw l Z EL own bytes maxL ret mnm R h0 B0 ws Q x T h B k n) {u v : Int32} (r : Int32) (hd : Dc bytes pc (.idiv) 1 pc') (h0 : v ≠ 0) (hr : u / v = r) (G : Go x (T.setTop (mkF x.m pc' Ls (.int r :: st)))) : Go x (T.setTop (mkF x.m pc Ls (.int v :: .int u :: st))) := by
  obtain ⟨hd, rfl⟩ := hd
  exact G.from fun t q => XS.idiv X.at X.ex rfl (X.dec hd) rfl h0 (hr ▸ q)
theorem g_irem (X : Wk nw l Z EL own bytes maxL ret mnm R h0 B0 ws Q x T h B k n) {u v : Int32} (r : Int32) (hd : Dc bytes pc (.irem) 1 pc') (h0 : v ≠ 0) (hr : u % v = r) (G : Go x (T.setTop (mkF x.m pc' Ls (.int r :: st)))) : Go x (T.setTop (mkF x.m pc Ls (.int v :: .int u :: st))) := by
  obtain ⟨hd, rfl⟩ := hd
  exact G.from fun t q => XS.irem X.at X.ex rfl (X.dec hd) rfl h0 (by rw [irem_eq_mod u v, hr]; exact q)
theorem g_ladd (X : Wk nw l Z EL own bytes maxL ret mnm R h0 B0 ws Q x T h B k n) {u v : Int64} (r : Int64) (hd : Dc bytes pc (.ladd) 1 pc') (hr : u + v = r) (G : Go x (T.setTop (mkF x.m pc' Ls (.long r :: st)))) : Go x (T.setTop (mkF x.m pc Ls (.long v :: .long u :: st))) := by
  obtain ⟨hd, rfl⟩ := hd
  exact G.from fun t q => XT.ladd X.at X.ex rfl (X.dec hd) rfl (hr ▸ q)
theorem g_lsub (X : Wk nw l Z EL own bytes maxL ret mnm R h0 B0 ws Q x T h B k n) {u v : Int64} (r : Int64) (hd : Dc bytes pc (.lsub) 1 pc') (hr : u - v = r) (G : Go x (T.setTop (mkF x.m pc' Ls (.long r :: st)))) : Go x (T.setTop (mkF x.m pc Ls (.long v :: .long u :: st))) := by
  obtain ⟨hd, rfl⟩ := hd
  exact G.from fun t q => XT.lsub X.at X.ex rfl (X.dec hd) rfl (hr ▸ q)
theorem g_lmul (X : Wk nw l Z EL own bytes maxL ret mnm R h0 B0 ws Q x T h B k n) {u v : Int64} (r : Int64) (hd : Dc bytes pc (.lmul) 1 pc') (hr : u * v = r) (G : Go x (T.setTop (mkF x.m pc' Ls (.long r :: st)))) : Go x (T.setTop (mkF x.m pc Ls (.long v :: .long u :: st))) := by
  obtain ⟨hd, rfl⟩ := hd
  exact G.from fun t q => XT.lmul X.at X.ex rfl (X.dec hd) rfl (hr ▸ q)
theorem g_land (X : Wk nw l Z EL own bytes maxL ret mnm R h0 B0 ws Q x T h B k n) {u v : Int64} (r : Int64) (hd : Dc bytes pc (.land) 1 pc') (hr : u &&& v = r) (G : Go x (T.setTop (mkF x.m pc' Ls (.long r :: st)))) : Go x (T.setTop (mkF x.m pc Ls (.long v :: .long u :: st))) := by
  obtain ⟨hd, rfl⟩ := hd
  exact G.from fun t q => XT.land X.at X.ex rfl (X.dec hd) rfl (hr ▸ q)
theorem g_lor (X : Wk nw l Z EL own bytes maxL ret mnm R h0 B0 ws Q x T h B k n) {u v : Int64} (r : Int64) (hd : Dc bytes pc (.lor) 1 pc') (hr : u ||| v = r) (G : Go x (T.setTop (mkF x.m pc' Ls (.long r :: st)))) : Go x (T.setTop (mkF x.m pc Ls (.long v :: .long u :: st))) := by
  obtain ⟨hd, rfl⟩ := hd
  exact G.from fun t q => XT.lor X.at X.ex rfl (X.dec hd) rfl (hr ▸ q)
theorem g_lxor (X : Wk nw l Z EL own bytes maxL ret mnm R h0 B0 ws Q x T h B k n) {u v : Int64} (r : Int64) (hd : Dc bytes pc (.lxor) 1 pc') (hr : u ^^^ v = r) (G : Go x (T.setTop (mkF x.m pc' Ls (.long r :: st)))) : Go x (T.setTop (mkF x.m pc Ls (.long v :: .long u :: st))) := by
  obtain ⟨hd, rfl⟩ := hd
  exact G.from fun t q => XT.lxor X.at X.ex rfl (X.dec hd) rfl (hr ▸ q)
theorem g_lshl (X : Wk nw l Z EL own bytes maxL ret mnm R h0 B0 ws Q x T h B k n) {u : Int64} {v : Int32} (r : Int64) (hd : Dc bytes pc (.lshl) 1 pc') (hr : u <<< (v.toInt64 &&& 63) = r) (G : Go x (T.setTop (mkF x.m pc' Ls (.long r :: st)))) : Go x (T.setTop (mkF x.m pc Ls (.int v :: .long u :: st))) := by
  obtain ⟨hd, rfl⟩ := hd
  exact G.from fun t q => XT.lshl X.at X.ex rfl (X.dec hd) rfl (hr ▸ q)
theorem g_lshr (X : Wk nw l Z EL own bytes maxL ret mnm R h0 B0 ws Q x T h B k n) {u : Int64} {v : Int32} (r : Int64) (hd : Dc bytes pc (.lshr) 1 pc') (hr : u >>> (v.toInt64 &&& 63) = r) (G : Go x (T.setTop (mkF x.m pc' Ls (.long r :: st)))) : Go x (T.setTop (mkF x.m pc Ls (.int v :: .long u :: st))) := by
  obtain ⟨hd, rfl⟩ := hd
  exact G.from fun t q => XT.lshr X.at X.ex rfl (X.dec hd) rfl (hr ▸ q)
theorem g_lushr (X : Wk nw l Z EL own bytes maxL ret mnm R h0 B0 ws Q x T h B k n) {u : Int64} {v : Int32} (r : Int64) (hd : Dc bytes pc (.lushr) 1 pc') (hr : XT.ushrL u v = r) (G : Go x (T.setTop (mkF x.m pc' Ls (.long r :: st)))) : Go x (T.setTop (mkF x.m pc Ls (.int v :: .long u :: st))) := by
  obtain ⟨hd, rfl⟩ := hd
  exact G.from fun t q => XT.lushr X.at X.ex rfl (X.dec hd) rfl (hr ▸ q)
theorem g_ineg (X : Wk nw l Z EL own bytes maxL ret mnm R h0 B0 ws Q x T h B k n) {u : Int32} (r : Int32) (hd : Dc bytes pc (.ineg) 1 pc') (hr : -u = r) (G : Go x (T.setTop (mkF x.m pc' Ls (.int r :: st)))) : Go x (T.setTop (mkF x.m pc Ls (.int u :: st))) := by
  obtain ⟨hd, rfl⟩ := hd
  exact G.from fun t q => XS.ineg X.at X.ex rfl (X.dec hd) rfl (hr ▸ q)
theorem g_i2l (X : Wk nw l Z EL own bytes maxL ret mnm R h0 B0 ws Q x T h B k n) {u : Int32} (r : Int64) (hd : Dc bytes pc (.i2l) 1 pc') (hr : u.toInt64 = r) (G : Go x (T.setTop (mkF x.m pc' Ls (.long r :: st)))) : Go x (T.setTop (mkF x.m pc Ls (.int u :: st))) := by
  obtain ⟨hd, rfl⟩ := hd
  exact G.from fun t q => XT.i2l X.at X.ex rfl (X.dec hd) rfl (hr ▸ q)
theorem g_l2i (X : Wk nw l Z EL own bytes maxL ret mnm R h0 B0 ws Q x T h B k n) {u : Int64} (r : Int32) (hd : Dc bytes pc (.l2i) 1 pc') (hr : u.toInt32 = r) (G : Go x (T.setTop (mkF x.m pc' Ls (.int r :: st)))) : Go x (T.setTop (mkF x.m pc Ls (.long u :: st))) := by
  obtain ⟨hd, rfl⟩ := hd
  exact G.from fun t q => XT.l2i X.at X.ex rfl (X.dec hd) rfl (hr ▸ q)
theorem g_i2b (X : Wk nw l Z EL own bytes maxL ret mnm R h0 B0 ws Q x T h B k n) {u : Int32} (r : Int32) (hd : Dc bytes pc (.i2b) 1 pc') (hr : u.toInt8.toInt32 = r) (G : Go x (T.setTop (mkF x.m pc' Ls (.int r :: st)))) : Go x (T.setTop (mkF x.m pc Ls (.int u :: st))) := by
  obtain ⟨hd, rfl⟩ := hd
  exact G.from fun t q => XT.i2b X.at X.ex rfl (X.dec hd) rfl (hr ▸ q)
theorem g_i2c (X : Wk nw l Z EL own bytes maxL ret mnm R h0 B0 ws Q x T h B k n) {u : Int32} (r : Int32) (hd : Dc bytes pc (.i2c) 1 pc') (hr : u.toUInt32.toUInt16.toUInt32.toInt32 = r) (G : Go x (T.setTop (mkF x.m pc' Ls (.int r :: st)))) : Go x (T.setTop (mkF x.m pc Ls (.int u :: st))) := by
  obtain ⟨hd, rfl⟩ := hd
  exact G.from fun t q => XT.i2c X.at X.ex rfl (X.dec hd) rfl (hr ▸ q)
theorem g_i2s (X : Wk nw l Z EL own bytes maxL ret mnm R h0 B0 ws Q x T h B k n) {u : Int32} (r : Int32) (hd : Dc bytes pc (.i2s) 1 pc') (hr : u.toInt16.toInt32 = r) (G : Go x (T.setTop (mkF x.m pc' Ls (.int r :: st)))) : Go x (T.setTop (mkF x.m pc Ls (.int u :: st))) := by
  obtain ⟨hd, rfl⟩ := hd
  exact G.from fun t q => XT.i2s X.at X.ex rfl (X.dec hd) rfl (hr ▸ q)
theorem g_lcmp (X : Wk nw l Z EL own bytes maxL ret mnm R h0 B0 ws Q x T h B k n) {u v : Int64} (r : Int32) (hd : Dc bytes pc (.lcmp) 1 pc') (hr : XT.cmpL u v = r) (G : Go x (T.setTop (mkF x.m pc' Ls (.int r :: st)))) : Go x (T.setTop (mkF x.m pc Ls (.long v :: .long u :: st))) := by
  obtain ⟨hd, rfl⟩ := hd
  exact G.from fun t q => XT.lcmp X.at X.ex rfl (X.dec hd) rfl (hr ▸ q)
theorem g_dup (X : Wk nw l Z EL own bytes maxL ret mnm R h0 B0 ws Q x T h B k n) {v : Value} (hd : Dc bytes pc (.dup) 1 pc') (hc : v.category = 1) (G : Go x (T.setTop (mkF x.m pc' Ls (v :: v :: st)))) : Go x (T.setTop (mkF x.m pc Ls (v :: st))) := by
  obtain ⟨hd, rfl⟩ := hd
  exact G.from fun t q => XS.dup X.at X.ex rfl (X.dec hd) rfl hc q
theorem g_pop (X : Wk nw l Z EL own bytes maxL ret mnm R h0 B0 ws Q x T h B k n) {v : Value} (hd : Dc bytes pc (.pop) 1 pc') (hc : v.category = 1) (G : Go x (T.setTop (mkF x.m pc' Ls st))) : Go x (T.setTop (mkF x.m pc Ls (v :: st))) := by
  obtain ⟨hd, rfl⟩ := hd
  exact G.from fun t q => XT.pop X.at X.ex rfl (X.dec hd) rfl hc q
theorem g_dup_x1 (X : Wk nw l Z EL own bytes maxL ret mnm R h0 B0 ws Q x T h B k n) {u v : Value} (hd : Dc bytes pc (.dup_x1) 1 pc') (hc : u.category = 1) (hc' : v.category = 1) (G : Go x (T.setTop (mkF x.m pc' Ls (u :: v :: u :: st)))) : Go x (T.setTop (mkF x.m pc Ls (u :: v :: st))) := by
  obtain ⟨hd, rfl⟩ := hd
  exact G.from fun t q => XT.dupX1 X.at X.ex rfl (X.dec hd) rfl hc hc' q
theorem g_dup2 (X : Wk nw l Z EL own bytes maxL ret mnm R h0 B0 ws Q x T h B k n) {u v : Value} (hd : Dc bytes pc (.dup2) 1 pc') (hc : u.category = 1) (hc' : v.category = 1) (G : Go x (T.setTop (mkF x.m pc' Ls (u :: v :: u :: v :: st)))) : Go x (T.setTop (mkF x.m pc Ls (u :: v :: st))) := by
  obtain ⟨hd, rfl⟩ := hd
  exact G.from fun t q => XT.dup2 X.at X.ex rfl (X.dec hd) rfl hc hc' q
theorem g_dup2L (X : Wk nw l Z EL own bytes maxL ret mnm R h0 B0 ws Q x T h B k n) {u : Int64} (hd : Dc bytes pc (.dup2) 1 pc')  (G : Go x (T.setTop (mkF x.m pc' Ls (.long u :: .long u :: st)))) : Go x (T.setTop (mkF x.m pc Ls (.long u :: st))) := by
  obtain ⟨hd, rfl⟩ := hd
  exact G.from fun t q => XT.dup2L X.at X.ex rfl (X.dec hd) rfl q
theorem g_goto (X : Wk nw l Z EL own bytes maxL ret mnm R h0 B0 ws Q x T h B k n) {o : Int} {pc'' : Nat}  (hd : Db bytes pc (.goto o) o pc' pc'')  (G : Go x (T.setTop (mkF x.m pc'' Ls st))) : Go x (T.setTop (mkF x.m pc Ls st)) := by
  obtain ⟨hd, rfl, ho, rfl⟩ := hd
  exact G.from fun t q => XS.goto X.at X.ex rfl rfl (X.dec hd) ho rfl q
theorem g_ifT (X : Wk nw l Z EL own bytes maxL ret mnm R h0 B0 ws Q x T h B k n) {o : Int} {pc'' : Nat} {cd : ClassFile.Cond} {v : Int32} (hd : Db bytes pc (.ifCond cd o) o pc' pc'') (hc : ifCond.holds cd v = true) (G : Go x (T.setTop (mkF x.m pc'' Ls st))) : Go x (T.setTop (mkF x.m pc Ls (.int v :: st))) := by
  obtain ⟨hd, rfl, ho, rfl⟩ := hd
  exact G.from fun t q => XS.ifYes X.at X.ex rfl rfl (X.dec hd) rfl hc ho rfl q
theorem g_ifF (X : Wk nw l Z EL own bytes maxL ret mnm R h0 B0 ws Q x T h B k n) {o : Int} {pc'' : Nat} {cd : ClassFile.Cond} {v : Int32} (hd : Db bytes pc (.ifCond cd o) o pc' pc'') (hc : ifCond.holds cd v = false) (G : Go x (T.setTop (mkF x.m pc' Ls st))) : Go x (T.setTop (mkF x.m pc Ls (.int v :: st))) := by
  obtain ⟨hd, rfl, ho, rfl⟩ := hd
  exact G.from fun t q => XS.ifNo X.at X.ex rfl (X.dec hd) rfl hc q
theorem g_icmpT (X : Wk nw l Z EL own bytes maxL ret mnm R h0 B0 ws Q x T h B k n) {o : Int} {pc'' : Nat} {cd : ClassFile.Cond} {u v : Int32} (hd : Db bytes pc (.if_icmp cd o) o pc' pc'') (hc : if_icmp.holds cd u v = true) (G : Go x (T.setTop (mkF x.m pc'' Ls st))) : Go x (T.setTop (mkF x.m pc Ls (.int v :: .int u :: st))) := by
  obtain ⟨hd, rfl, ho, rfl⟩ := hd
  exact G.from fun t q => XS.icmpYes X.at X.ex rfl rfl (X.dec hd) rfl hc ho rfl q
theorem g_icmpF (X : Wk nw l Z EL own bytes maxL ret mnm R h0 B0 ws Q x T h B k n) {o : Int} {pc'' : Nat} {cd : ClassFile.Cond} {u v : Int32} (hd : Db bytes pc (.if_icmp cd o) o pc' pc'') (hc : if_icmp.holds cd u v = false) (G : Go x (T.setTop (mkF x.m pc' Ls st))) : Go x (T.setTop (mkF x.m pc Ls (.int v :: .int u :: st))) := by
  obtain ⟨hd, rfl, ho, rfl⟩ := hd
  exact G.from fun t q => XS.icmpNo X.at X.ex rfl (X.dec hd) rfl hc q
theorem g_acmpT (X : Wk nw l Z EL own bytes maxL ret mnm R h0 B0 ws Q x T h B k n) {o : Int} {pc'' : Nat} {cd : ClassFile.ACond} {u v : Value} (hd : Db bytes pc (.if_acmp cd o) o pc' pc'') (h1 : u.isRef = true) (h2 : v.isRef = true) (hc : XT.acmp cd u v = true) (G : Go x (T.setTop (mkF x.m pc'' Ls st))) : Go x (T.setTop (mkF x.m pc Ls (v :: u :: st))) := by
  obtain ⟨hd, rfl, ho, rfl⟩ := hd
  exact G.from fun t q => XT.acmpYes X.at X.ex rfl rfl (X.dec hd) rfl h1 h2 hc ho rfl q
theorem g_acmpF (X : Wk nw l Z EL own bytes maxL ret mnm R h0 B0 ws Q x T h B k n) {o : Int} {pc'' : Nat} {cd : ClassFile.ACond} {u v : Value} (hd : Db bytes pc (.if_acmp cd o) o pc' pc'') (h1 : u.isRef = true) (h2 : v.isRef = true) (hc : XT.acmp cd u v = false) (G : Go x (T.setTop (mkF x.m pc' Ls st))) : Go x (T.setTop (mkF x.m pc Ls (v :: u :: st))) := by
  obtain ⟨hd, rfl, ho, rfl⟩ := hd
  exact G.from fun t q => XT.acmpNo X.at X.ex rfl (X.dec hd) rfl h1 h2 hc q
theorem g_ifnullT (X : Wk nw l Z EL own bytes maxL ret mnm R h0 B0 ws Q x T h B k n) {o : Int} {pc'' : Nat}  (hd : Db bytes pc (.ifnull o) o pc' pc'')  (G : Go x (T.setTop (mkF x.m pc'' Ls st))) : Go x (T.setTop (mkF x.m pc Ls (.null :: st))) := by
  obtain ⟨hd, rfl, ho, rfl⟩ := hd
  exact G.from fun t q => XS.ifnullYes X.at X.ex rfl rfl (X.dec hd) rfl ho rfl q
theorem g_ifnullF (X : Wk nw l Z EL own bytes maxL ret mnm R h0 B0 ws Q x T h B k n) {o : Int} {pc'' : Nat} {a : Addr} (hd : Db bytes pc (.ifnull o) o pc' pc'')  (G : Go x (T.setTop (mkF x.m pc' Ls st))) : Go x (T.setTop (mkF x.m pc Ls (.ref a :: st))) := by
  obtain ⟨hd, rfl, ho, rfl⟩ := hd
  exact G.from fun t q => XS.ifnullNo X.at X.ex rfl (X.dec hd) rfl q
theorem g_ifnonnullT (X : Wk nw l Z EL own bytes maxL ret mnm R h0 B0 ws Q x T h B k n) {o : Int} {pc'' : Nat} {a : Addr} (hd : Db bytes pc (.ifnonnull o) o pc' pc'')  (G : Go x (T.setTop (mkF x.m pc'' Ls st))) : Go x (T.setTop (mkF x.m pc Ls (.ref a :: st))) := by
  obtain ⟨hd, rfl, ho, rfl⟩ := hd
  exact G.from fun t q => XT.ifnonnullYes X.at X.ex rfl rfl (X.dec hd) rfl ho rfl q
theorem g_ifnonnullF (X : Wk nw l Z EL own bytes maxL ret mnm R h0 B0 ws Q x T h B k n) {o : Int} {pc'' : Nat}  (hd : Db bytes pc (.ifnonnull o) o pc' pc'')  (G : Go x (T.setTop (mkF x.m pc' Ls st))) : Go x (T.setTop (mkF x.m pc Ls (.null :: st))) := by
  obtain ⟨hd, rfl, ho, rfl⟩ := hd
  exact G.from fun t q => XT.ifnonnullNo X.at X.ex rfl (X.dec hd) rfl q
end Kit
/-! own kit, part 3: fields, statics, objects, arrays -/
/-- the array at a holds just these values -/
def Ay (Z : State) (h : Heap) (a : Addr) (ty : FieldType) (vs : List Value) : Prop :=
  ∃ c : Cell, Arr Z h a c ty ∧ c.slots.toList = vs ∧ vs.length < 2 ^ 31 ∧ ∀ v ∈ vs, fits ty v = true
section Ay
variable {Z : State} {h h' : Heap} {a b : Addr} {ty : FieldType} {vs : List Value} {ws : List Addr}
theorem Ay.lt (A : Ay Z h a ty vs) : @LT.lt Nat _ a h.size := by obtain ⟨c, A, -⟩ := A; exact A.lt
theorem Ay.len (A : Ay Z h a ty vs) : vs.length < 2 ^ 31 := by obtain ⟨c, A, -, l, -⟩ := A; exact l
theorem Ay.fit (A : Ay Z h a ty vs) : ∀ v ∈ vs, fits ty v = true := by obtain ⟨c, A, -, -, f⟩ := A; exact f
theorem Ay.keep (A : Ay Z h a ty vs) (K : Keep h h' ws) (q : a ∉ ws) : Ay Z h' a ty vs := by obtain ⟨c, A, r⟩ := A; exact ⟨c, ⟨K.2.1 a c A.1 q, A.2⟩, r⟩
theorem Ay.ext (A : Ay Z h a ty vs) (E : Ext h h') : Ay Z h' a ty vs := by obtain ⟨c, A, r⟩ := A; exact ⟨c, A.ext E, r⟩
theorem Ay.arv (A : Ay Z h a ty vs) (d : Value) : ∃ k, Arv Z h a k ty vs.length.toInt32 vs d := by
  obtain ⟨c, A, e, l, f⟩ := A
  have hsz : c.slots.size = vs.length := by rw [← e]; simp
  have hn : (vs.length.toInt32).toNatClampNeg = vs.length := by
    have := len_toInt l
    rw [Int32.toNatClampNeg, this]; rfl
  refine ⟨c.cls, c, A, rfl, by rw [hn, hsz], ?_, fun i hi => ?_, fun i hi => ?_⟩
  · have := len_toInt l
    rw [Int32.lt_iff_toInt_lt, this, Int32.toInt_zero]; omega
  · have hi' : i < vs.length := by omega
    subst e
    simp only [Array.length_toList] at hi'
    simp [List.getD, hi]
  · have hi' : i < vs.length := by omega
    rw [List.getD_eq_getElem?_getD, List.getElem?_eq_getElem hi', Option.getD_some]
    exact f _ (List.getElem_mem _)
theorem Ay.of_arv {k : ClassId} {z : Int32} {d : Value} (A : Arv Z h a k ty z vs d) (hl : z.toNatClampNeg = vs.length) : Ay Z h a ty vs := by
  obtain ⟨c, A, -, s, nn, H, G⟩ := A
  have hsz : c.slots.size = vs.length := by rw [s, hl]
  refine ⟨c, A, ?_, ?_, ?_⟩
  · refine List.ext_getElem (by simpa using hsz) fun i h1 h2 => ?_
    have hi : i < c.slots.size := by omega
    have q := H i hi
    rw [Array.getElem?_eq_getElem hi, List.getD_eq_getElem?_getD, List.getElem?_eq_getElem h2, Option.getD_some] at q
    simpa using q
  · rw [← hl]
    have := z.toInt_lt
    rw [Int32.toNatClampNeg]
    omega
  · intro v hv
    obtain ⟨i, hi, rfl⟩ := List.mem_iff_getElem.mp hv
    have q := G i (by omega)
    rw [List.getD_eq_getElem?_getD, List.getElem?_eq_getElem hi, Option.getD_some] at q
    exact q
theorem i32_nat {i : Nat} (h : i < 2 ^ 31) : (Int32.ofNat i).toNatClampNeg = i ∧ ¬ Int32.ofNat i < 0 := by
  have e : (Int32.ofNat i).toInt = i := Int32.toInt_ofNat_small h
  refine ⟨by rw [Int32.toNatClampNeg, e]; rfl, ?_⟩
  rw [Int32.lt_iff_toInt_lt, e, Int32.toInt_zero]; omega
theorem Ay.at (A : Ay Z h a ty vs) {i : Nat} {v : Value} (hi : vs[i]? = some v) : ∃ c : Cell, Arr Z h a c ty ∧ ¬ (Int32.ofNat i < 0 ∨ c.slots.size ≤ (Int32.ofNat i).toNatClampNeg) ∧ c.slots[(Int32.ofNat i).toNatClampNeg]? = some v := by
  obtain ⟨c, A, e, l, -⟩ := A
  have hlt : i < vs.length := (List.getElem?_eq_some_iff.mp hi).1
  obtain ⟨q1, q2⟩ := i32_nat (Nat.lt_trans hlt l)
  refine ⟨c, A, ?_, ?_⟩
  · rw [q1]; rintro (r | r)
    · exact q2 r
    · rw [← e] at hlt; simp at hlt; omega
  · rw [q1, ← Array.getElem?_toList, e]; exact hi
theorem Ay.set (A : Ay Z h a ty vs) {i : Nat} (hi : i < vs.length) {v : Value} (hv : fits ty v = true) : ∃ c : Cell, Arr Z h a c ty ∧ ¬ (Int32.ofNat i < 0 ∨ c.slots.size ≤ (Int32.ofNat i).toNatClampNeg) ∧ ∀ h', Wr h h' a (Int32.ofNat i).toNatClampNeg v → Ay Z h' a ty (vs.set i v) := by
  obtain ⟨c, A, e, l, f⟩ := A
  obtain ⟨q1, q2⟩ := i32_nat (Nat.lt_trans hi l)
  refine ⟨c, A, ?_, fun h' W => ⟨_, A.same W, ?_, by simpa using l, ?_⟩⟩
  · rw [q1]; rintro (r | r)
    · exact q2 r
    · rw [← e] at hi; simp at hi; omega
  · rw [q1]; simp [Cell.setSlot, e]
  · intro w hw
    rcases List.mem_or_eq_of_mem_set hw with r | r
    · exact f w r
    · rw [r]; exact hv
end Ay
section Heap
variable {nw : Bool} {l : Launch} {Z : State} {EL : List (String × Nat)} {own : String} {bytes : ByteArray} {maxL : Nat} {ret : Option FieldType} {mnm : String} {R : Room} {h0 : Heap} {B0 : BP} {ws : List Addr} {Q : QT} {x : Cx} {T : State} {h : Heap} {B : BP} {k n : Nat} {a0 : Array Value} {pc pc' : Nat} {Ls : Array Slot} {st : List Value}
theorem g_getfield (X : Wk nw l Z EL own bytes maxL ret mnm R h0 B0 ws Q x T h B k n) {R0 O nm d : String} {idx : Nat} (hd : Dc bytes pc (.getfield idx) 3 pc') (w : (Cond.fieldLink own idx R0 nm d).before a0 Z = true) (via : Via Z R0 O nm d) {a : Addr} {v : Value} (F : Fld Z h a O nm d v)
    (K : ∀ T', Wk nw l Z EL own bytes maxL ret mnm R h0 B0 ws Q x T' h B k n → Go x (T'.setTop (mkF x.m pc' Ls (v :: st)))) : Go x (T.setTop (mkF x.m pc Ls (.ref a :: st))) := by
  obtain ⟨S, vm0, k0, locs, X, eT, hS, hk, hZ, hown, r⟩ := X
  obtain ⟨hd, rfl⟩ := hd
  obtain ⟨T', X', e', stp⟩ := getF X S.1 hZ hown (host := "") (Or.inl w) via eT F (g := mkF x.m pc Ls (.ref a :: st)) rfl rfl (S.2.1 ▸ hd)
  exact (K T' ⟨S, vm0, k0, locs, X', e', hS, hk, hZ, hown, r⟩).from stp
theorem g_getstatic (X : Wk nw l Z EL own bytes maxL ret mnm R h0 B0 ws Q x T h B k n) {R0 O nm d : String} {idx : Nat} (hd : Dc bytes pc (.getstatic idx) 3 pc') (w : (Cond.fieldLink own idx R0 nm d).before a0 Z = true) (via : Via Z R0 O nm d) {v : Value} (F : Sta Z Z.heap O nm d v)
    (K : ∀ T', Wk nw l Z EL own bytes maxL ret mnm R h0 B0 ws Q x T' h B k n → Go x (T'.setTop (mkF x.m pc' Ls (v :: st)))) : Go x (T.setTop (mkF x.m pc Ls st)) := by
  have F' := F.ext X.old
  obtain ⟨S, vm0, k0, locs, X, eT, hS, hk, hZ, hown, r⟩ := X
  obtain ⟨hd, rfl⟩ := hd
  obtain ⟨T', X', e', stp⟩ := getS (host := "") X S.1 hZ hown w via eT F' (g := mkF x.m pc Ls st) rfl (S.2.1 ▸ hd)
  exact (K T' ⟨S, vm0, k0, locs, X', e', hS, hk, hZ, hown, r⟩).from stp
/-- a step that writes one place -/
theorem Wk.wrote {T' : State} {h' : Heap} {vm0 : Vm} {k0 : Nat} {locs : List Loc} {a : Addr} {sl : Nat} {v : Value} (W : Wr h h' a sl v) (hB : ¬ B a) (hz : Z.heap.size ≤ a) (hw : a ∈ ws ∨ h0.size ≤ a)
    (S : x.p.tables.exec = Jvm.exec ∧ x.c.code = bytes ∧ x.c.maxLocals = maxL ∧ x.meth.sig.returnType = ret ∧ x.meth.locks = false ∧ x.meth.name = mnm ∧ x.F = ConQ nw Z EL R h0 B0 ws Q x.s)
    (X' : Stand x.p l x.e R (x.s.setVm vm0) x.m x.args x.below x.meth x.c T' (locs ++ [⟨a, sl⟩]) k n) (e' : T'.heap = h') (hS : x.s.Since vm0 k0) (hk : k0 ≤ h.size) (hZ : Z.Warmed39 vm0) (hown : vm0.findClass own = some x.m.cls)
    (hI : k_inv Z EL B vm0 h) (hFr : Fr Z.heap.size locs) (hK : Keep h0 h ws) (hM : k_more B0 B h0.size) (hN : nw = true → x.s.WarmedH vm0) : Wk nw l Z EL own bytes maxL ret mnm R h0 B0 ws Q x T' h' B k n :=
  ⟨S, vm0, k0, _, X', e', hS, by rw [W.size]; exact hk, hZ, hown, hI.wr W hB hz, Fr.snoc X' hFr hz, hK.wr W hw, hM, hN⟩
theorem g_putfield (X : Wk nw l Z EL own bytes maxL ret mnm R h0 B0 ws Q x T h B k n) {R0 O nm d C : String} {idx kk : Nat} {ty : FieldType} (hd : Dc bytes pc (.putfield idx) 3 pc') (w : (Cond.fieldLink own idx R0 nm d).before a0 Z = true) (via : Via Z R0 O nm d) {a : Addr} {v v' old : Value} (F : Fld Z h a O nm d old) (E : Exa Z h a C)
    (L : (Cond.lays C O nm d).before a0 Z = true ∨ ((Cond.laysFinal C O nm d).before a0 Z = true ∧ own = O ∧ mnm = "<init>")) (wi : (Cond.instantiable C kk).before a0 Z = true) (hty : parseFieldDescriptor d = some ty) (hn : narrow ty v = v') (hf : fits ty v' = true)
    (hB : ¬ B a) (hz : Z.heap.size ≤ a) (hw : a ∈ ws ∨ h0.size ≤ a)
    (K : ∀ T' h', Wk nw l Z EL own bytes maxL ret mnm R h0 B0 ws Q x T' h' B k n → Wr h h' a (RoadKit.slotOf Z O nm d) v' → Go x (T'.setTop (mkF x.m pc' Ls st))) : Go x (T.setTop (mkF x.m pc Ls (v :: .ref a :: st))) := by
  obtain ⟨S, vm0, k0, locs, X, eT, hS, hk, hZ, hown, hI, hFr, hK, hM, hN⟩ := X
  obtain ⟨hd, rfl⟩ := hd
  obtain ⟨T', h', X', e', W, stp⟩ := putFN X S.1 hZ hown w via eT F E (L.imp id fun q => ⟨q.1, q.2.1, S.2.2.2.2.2.1.trans q.2.2⟩) wi hty hn hf (g := mkF x.m pc Ls (v :: .ref a :: st)) rfl rfl (S.2.1 ▸ hd)
  exact (K T' h' (Wk.wrote W hB hz hw S X' e' hS hk hZ hown hI hFr hK hM hN) W).from stp
theorem g_new (X : Wk nw l Z EL own bytes maxL ret mnm R h0 B0 ws Q x T h B k n) {C : String} {idx nf : Nat} (hd : Dc bytes pc (.new idx) 3 pc') (w : (Cond.classLink own idx C).before a0 Z = true) (wi : (Cond.instantiable C nf).before a0 Z = true) (wz : (Cond.initialized C).before a0 Z = true) (k' n' : Nat) (ek : k + 1 = k') (en : n + nf = n') (hc : k' ≤ R.cells) (hs : n' ≤ R.slots)
    (K : ∀ T' h' a, Wk nw l Z EL own bytes maxL ret mnm R h0 B0 ws Q x T' h' B k' n' → Ext h h' → a = h.size → ¬ B a → Exa Z h' a C → (∀ {O nm d : String} {ty : FieldType}, Laid Z a0 C O nm d → parseFieldDescriptor d = some ty → Fld Z h' a O nm d (defaultValue ty)) → Go x (T'.setTop (mkF x.m pc' Ls (.ref a :: st)))) : Go x (T.setTop (mkF x.m pc Ls st)) := by
  have hB := X.fresh
  subst ek en
  obtain ⟨S, vm0, k0, locs, X, eT, hS, hk, hZ, hown, hI, hFr, hK, hM, hN⟩ := X
  obtain ⟨hd, rfl⟩ := hd
  obtain ⟨T', h', X', e', E, A, D, -, stp⟩ := newO X S.1 hZ hown w wi wz eT (g := mkF x.m pc Ls st) rfl (S.2.1 ▸ hd) hc hs
  exact (K T' h' _ ⟨S, vm0, k0, locs, X', e', hS, Nat.le_trans hk E.1, hZ, hown, hI.ext E, hFr, hK.ext E, hM, hN⟩ E rfl hB A D).from stp
theorem g_newarray (X : Wk nw l Z EL own bytes maxL ret mnm R h0 B0 ws Q x T h B k n) {aty : ArrayType} {ty : FieldType} (hd : Dc bytes pc (.newarray aty) 2 pc') (hty : newarray.typeOf aty = ty) (w : (Cond.arrayClass ty).before a0 Z = true) {j : Int32} (len cap : Nat) (hj : j = Int32.ofNat len) (hcap : len ≤ cap) (hbig : cap * 8 ≤ 536870912) (k' n' : Nat) (ek : k + 1 = k') (en : n + cap = n') (hc : k' ≤ R.cells) (hs : n' ≤ R.slots)
    (K : ∀ T' h' a, Wk nw l Z EL own bytes maxL ret mnm R h0 B0 ws Q x T' h' B k' n' → Ext h h' → a = h.size → ¬ B a → Ay Z h' a ty (List.replicate len (defaultValue ty)) → Go x (T'.setTop (mkF x.m pc' Ls (.ref a :: st)))) : Go x (T.setTop (mkF x.m pc Ls (.int j :: st))) := by
  have hB := X.fresh
  subst hty hj ek en
  obtain ⟨S, vm0, k0, locs, X, eT, hS, hk, hZ, hown, hI, hFr, hK, hM, hN⟩ := X
  obtain ⟨hd, rfl⟩ := hd
  have hlt : len < 2 ^ 31 := by omega
  obtain ⟨q1, q2⟩ := i32_nat hlt
  obtain ⟨T', h', cA, X', e', E, A, stp⟩ := newP X S.1 hZ w eT (g := mkF x.m pc Ls (.int (Int32.ofNat len) :: st)) rfl (S.2.1 ▸ hd) rfl q2 (cap := cap) (by rw [q1]; exact hcap) hbig hc hs
  refine (K T' h' _ ⟨S, vm0, k0, locs, X', e', hS, Nat.le_trans hk E.1, hZ, hown, hI.ext E, hFr, hK.ext E, hM, hN⟩ E rfl hB ⟨_, A, ?_, by simpa using hlt, ?_⟩).from stp
  · simp [newA, q1]
  · intro v hv
    rw [(List.mem_replicate.mp hv).2]
    cases aty <;> rfl
theorem g_arraylength (X : Wk nw l Z EL own bytes maxL ret mnm R h0 B0 ws Q x T h B k n) (hd : Dc bytes pc .arraylength 1 pc') {a : Addr} {ty : FieldType} {vs : List Value} (A : Ay Z h a ty vs) (r : Int32) (hr : Int32.ofNat vs.length = r)
    (G : Go x (T.setTop (mkF x.m pc' Ls (.int r :: st)))) : Go x (T.setTop (mkF x.m pc Ls (.ref a :: st))) := by
  subst hr
  obtain ⟨S, vm0, k0, locs, X, eT, hS, hk, hZ, hown, hI, hFr, hK, hM, hN⟩ := X
  obtain ⟨hd, rfl⟩ := hd
  obtain ⟨c, A, e, -, -⟩ := A
  refine G.from fun t q => X.arraylength S.1 (cell := c) (by rw [eT]; exact A.1) (State.isArrayOf_alike hZ.alike A.2.1) (g := mkF x.m pc Ls (.ref a :: st)) rfl rfl (S.2.1 ▸ hd) t ?_
  have hsz : c.slots.size = vs.length := by rw [← e]; simp
  rw [hsz]; exact q
theorem g_caload (X : Wk nw l Z EL own bytes maxL ret mnm R h0 B0 ws Q x T h B k n) (hd : Dc bytes pc .caload 1 pc') {a : Addr} {vs : List Value} (A : Ay Z h a .char vs) {j : Int32} (i : Nat) (hj : j = Int32.ofNat i) {v : Value} (hi : vs[i]? = some v)
    (G : Go x (T.setTop (mkF x.m pc' Ls (v :: st)))) : Go x (T.setTop (mkF x.m pc Ls (.int j :: .ref a :: st))) := by
  subst hj
  obtain ⟨S, vm0, k0, locs, X, eT, hS, hk, hZ, hown, hI, hFr, hK, hM, hN⟩ := X
  obtain ⟨hd, rfl⟩ := hd
  obtain ⟨c, A, h1, h2⟩ := A.at hi
  exact G.from fun t q => X.caload S.1 (by rw [eT]; exact A.1) (State.isArrayOf_alike hZ.alike A.2.1) A.2.2 h1 h2 (g := mkF x.m pc Ls (.int (Int32.ofNat i) :: .ref a :: st)) rfl rfl (S.2.1 ▸ hd) t q
theorem g_iaload (X : Wk nw l Z EL own bytes maxL ret mnm R h0 B0 ws Q x T h B k n) (hd : Dc bytes pc .iaload 1 pc') {a : Addr} {vs : List Value} (A : Ay Z h a .int vs) {j : Int32} (i : Nat) (hj : j = Int32.ofNat i) {v : Value} (hi : vs[i]? = some v)
    (G : Go x (T.setTop (mkF x.m pc' Ls (v :: st)))) : Go x (T.setTop (mkF x.m pc Ls (.int j :: .ref a :: st))) := by
  subst hj
  obtain ⟨S, vm0, k0, locs, X, eT, hS, hk, hZ, hown, hI, hFr, hK, hM, hN⟩ := X
  obtain ⟨hd, rfl⟩ := hd
  obtain ⟨c, A, h1, h2⟩ := A.at hi
  exact G.from fun t q => X.iaload S.1 (by rw [eT]; exact A.1) (State.isArrayOf_alike hZ.alike A.2.1) A.2.2 h1 h2 (g := mkF x.m pc Ls (.int (Int32.ofNat i) :: .ref a :: st)) rfl rfl (S.2.1 ▸ hd) t q
theorem g_laload (X : Wk nw l Z EL own bytes maxL ret mnm R h0 B0 ws Q x T h B k n) (hd : Dc bytes pc .laload 1 pc') {a : Addr} {vs : List Value} (A : Ay Z h a .long vs) {j : Int32} (i : Nat) (hj : j = Int32.ofNat i) {v : Value} (hi : vs[i]? = some v)
    (G : Go x (T.setTop (mkF x.m pc' Ls (v :: st)))) : Go x (T.setTop (mkF x.m pc Ls (.int j :: .ref a :: st))) := by
  subst hj
  obtain ⟨S, vm0, k0, locs, X, eT, hS, hk, hZ, hown, hI, hFr, hK, hM, hN⟩ := X
  obtain ⟨hd, rfl⟩ := hd
  obtain ⟨c, A, h1, h2⟩ := A.at hi
  exact G.from fun t q => X.laload S.1 (by rw [eT]; exact A.1) (State.isArrayOf_alike hZ.alike A.2.1) A.2.2 h1 h2 (g := mkF x.m pc Ls (.int (Int32.ofNat i) :: .ref a :: st)) rfl rfl (S.2.1 ▸ hd) t q
theorem g_baload (X : Wk nw l Z EL own bytes maxL ret mnm R h0 B0 ws Q x T h B k n) (hd : Dc bytes pc .baload 1 pc') {a : Addr} {vs : List Value} (A : Ay Z h a .byte vs) {j : Int32} (i : Nat) (hj : j = Int32.ofNat i) {v : Value} (hi : vs[i]? = some v)
    (G : Go x (T.setTop (mkF x.m pc' Ls (v :: st)))) : Go x (T.setTop (mkF x.m pc Ls (.int j :: .ref a :: st))) := by
  subst hj
  obtain ⟨S, vm0, k0, locs, X, eT, hS, hk, hZ, hown, hI, hFr, hK, hM, hN⟩ := X
  obtain ⟨hd, rfl⟩ := hd
  obtain ⟨c, A, h1, h2⟩ := A.at hi
  exact G.from fun t q => X.baloadBytes S.1 (by rw [eT]; exact A.1) (State.isArrayOf_alike hZ.alike A.2.1) A.2.2 h1 h2 (g := mkF x.m pc Ls (.int (Int32.ofNat i) :: .ref a :: st)) rfl rfl (S.2.1 ▸ hd) t q
theorem g_aaload (X : Wk nw l Z EL own bytes maxL ret mnm R h0 B0 ws Q x T h B k n) (hd : Dc bytes pc .aaload 1 pc') {a : Addr} {ty : FieldType} (hty : ty.isReference = true) {vs : List Value} (A : Ay Z h a ty vs) {j : Int32} (i : Nat) (hj : j = Int32.ofNat i) {v : Value} (hi : vs[i]? = some v)
    (G : Go x (T.setTop (mkF x.m pc' Ls (v :: st)))) : Go x (T.setTop (mkF x.m pc Ls (.int j :: .ref a :: st))) := by
  subst hj
  obtain ⟨S, vm0, k0, locs, X, eT, hS, hk, hZ, hown, hI, hFr, hK, hM, hN⟩ := X
  obtain ⟨hd, rfl⟩ := hd
  obtain ⟨c, A, h1, h2⟩ := A.at hi
  exact G.from fun t q => X.aaload S.1 (by rw [eT]; exact A.1) (State.isArrayOf_alike hZ.alike A.2.1) hty A.2.2 h1 h2 (g := mkF x.m pc Ls (.int (Int32.ofNat i) :: .ref a :: st)) rfl rfl (S.2.1 ▸ hd) t q
theorem g_iastore (X : Wk nw l Z EL own bytes maxL ret mnm R h0 B0 ws Q x T h B k n) (hd : Dc bytes pc .iastore 1 pc') {a : Addr} {vs : List Value} (A : Ay Z h a .int vs) {j : Int32} (i : Nat) (hj : j = Int32.ofNat i) {v : Int32} (v' : Int32) (hv : v = v') (hi : i < vs.length) (hB : ¬ B a) (hz : Z.heap.size ≤ a) (hw : a ∈ ws ∨ h0.size ≤ a)
    (K : ∀ T' h', Wk nw l Z EL own bytes maxL ret mnm R h0 B0 ws Q x T' h' B k n → Keep h h' [a] → Ay Z h' a .int (vs.set i (.int v')) → Go x (T'.setTop (mkF x.m pc' Ls st))) : Go x (T.setTop (mkF x.m pc Ls (.int v :: .int j :: .ref a :: st))) := by
  subst hj hv
  obtain ⟨S, vm0, k0, locs, X, eT, hS, hk, hZ, hown, hI, hFr, hK, hM, hN⟩ := X
  obtain ⟨hd, rfl⟩ := hd
  obtain ⟨c, A, h1, h2⟩ := A.set hi (v := .int v) rfl
  obtain ⟨T', h', X', e', Wr', stp⟩ := stI X S.1 hZ eT A h1 (g := mkF x.m pc Ls (.int v :: .int (Int32.ofNat i) :: .ref a :: st)) rfl rfl (S.2.1 ▸ hd)
  exact (K T' h' (Wk.wrote Wr' hB hz hw S X' e' hS hk hZ hown hI hFr hK hM hN) (Keep.of_wr Wr') (h2 h' Wr')).from stp
theorem g_castore (X : Wk nw l Z EL own bytes maxL ret mnm R h0 B0 ws Q x T h B k n) (hd : Dc bytes pc .castore 1 pc') {a : Addr} {vs : List Value} (A : Ay Z h a .char vs) {j : Int32} (i : Nat) (hj : j = Int32.ofNat i) {v : Int32} (v' : Int32) (hv : (RoadKit.nar .char v) = v') (hi : i < vs.length) (hB : ¬ B a) (hz : Z.heap.size ≤ a) (hw : a ∈ ws ∨ h0.size ≤ a)
    (K : ∀ T' h', Wk nw l Z EL own bytes maxL ret mnm R h0 B0 ws Q x T' h' B k n → Keep h h' [a] → Ay Z h' a .char (vs.set i (.int v')) → Go x (T'.setTop (mkF x.m pc' Ls st))) : Go x (T.setTop (mkF x.m pc Ls (.int v :: .int j :: .ref a :: st))) := by
  subst hj hv
  obtain ⟨S, vm0, k0, locs, X, eT, hS, hk, hZ, hown, hI, hFr, hK, hM, hN⟩ := X
  obtain ⟨hd, rfl⟩ := hd
  obtain ⟨c, A, h1, h2⟩ := A.set hi (v := .int (RoadKit.nar .char v)) (fits_nar_char v)
  obtain ⟨T', h', X', e', Wr', stp⟩ := stC X S.1 hZ eT A h1 (g := mkF x.m pc Ls (.int v :: .int (Int32.ofNat i) :: .ref a :: st)) rfl rfl (S.2.1 ▸ hd)
  exact (K T' h' (Wk.wrote Wr' hB hz hw S X' e' hS hk hZ hown hI hFr hK hM hN) (Keep.of_wr Wr') (h2 h' Wr')).from stp
theorem g_bastore (X : Wk nw l Z EL own bytes maxL ret mnm R h0 B0 ws Q x T h B k n) (hd : Dc bytes pc .bastore 1 pc') {a : Addr} {vs : List Value} (A : Ay Z h a .byte vs) {j : Int32} (i : Nat) (hj : j = Int32.ofNat i) {v : Int32} (v' : Int32) (hv : (RoadKit.nar .byte v) = v') (hi : i < vs.length) (hB : ¬ B a) (hz : Z.heap.size ≤ a) (hw : a ∈ ws ∨ h0.size ≤ a)
    (K : ∀ T' h', Wk nw l Z EL own bytes maxL ret mnm R h0 B0 ws Q x T' h' B k n → Keep h h' [a] → Ay Z h' a .byte (vs.set i (.int v')) → Go x (T'.setTop (mkF x.m pc' Ls st))) : Go x (T.setTop (mkF x.m pc Ls (.int v :: .int j :: .ref a :: st))) := by
  subst hj hv
  obtain ⟨S, vm0, k0, locs, X, eT, hS, hk, hZ, hown, hI, hFr, hK, hM, hN⟩ := X
  obtain ⟨hd, rfl⟩ := hd
  obtain ⟨c, A, h1, h2⟩ := A.set hi (v := .int (RoadKit.nar .byte v)) (fits_nar_byte v)
  obtain ⟨T', h', X', e', Wr', stp⟩ := stB X S.1 hZ eT A h1 (g := mkF x.m pc Ls (.int v :: .int (Int32.ofNat i) :: .ref a :: st)) rfl rfl (S.2.1 ▸ hd)
  exact (K T' h' (Wk.wrote Wr' hB hz hw S X' e' hS hk hZ hown hI hFr hK hM hN) (Keep.of_wr Wr') (h2 h' Wr')).from stp
theorem g_lastore (X : Wk nw l Z EL own bytes maxL ret mnm R h0 B0 ws Q x T h B k n) (hd : Dc bytes pc .lastore 1 pc') {a : Addr} {vs : List Value} (A : Ay Z h a .long vs) {j : Int32} (i : Nat) (hj : j = Int32.ofNat i) {v : Int64} (v' : Int64) (hv : v = v') (hi : i < vs.length) (hB : ¬ B a) (hz : Z.heap.size ≤ a) (hw : a ∈ ws ∨ h0.size ≤ a)
    (K : ∀ T' h', Wk nw l Z EL own bytes maxL ret mnm R h0 B0 ws Q x T' h' B k n → Keep h h' [a] → Ay Z h' a .long (vs.set i (.long v')) → Go x (T'.setTop (mkF x.m pc' Ls st))) : Go x (T.setTop (mkF x.m pc Ls (.long v :: .int j :: .ref a :: st))) := by
  subst hj hv
  obtain ⟨S, vm0, k0, locs, X, eT, hS, hk, hZ, hown, hI, hFr, hK, hM, hN⟩ := X
  obtain ⟨hd, rfl⟩ := hd
  obtain ⟨c, A, h1, h2⟩ := A.set hi (v := .long v) rfl
  obtain ⟨T', h', X', e', Wr', stp⟩ := stJ X S.1 hZ eT A h1 (g := mkF x.m pc Ls (.long v :: .int (Int32.ofNat i) :: .ref a :: st)) rfl rfl (S.2.1 ▸ hd)
  exact (K T' h' (Wk.wrote Wr' hB hz hw S X' e' hS hk hZ hown hI hFr hK hM hN) (Keep.of_wr Wr') (h2 h' Wr')).from stp
end Heap
/-! own kit, part 4: calls, constants, casts -/
/-- pure: the value r, the heap as it was -/
def PQ (r : Option Value) (h0 : Heap) (B0 : BP) : QT := fun v h B => v = r ∧ h = h0 ∧ B = B0
theorem k_ws1 {B : BP} {Z : State} {ws : List Addr} {h0 : Heap} {a : Addr} (q : ¬ B a ∧ Z.heap.size ≤ a ∧ (a ∈ ws ∨ h0.size ≤ a)) : ∀ z ∈ [a], ¬ B z ∧ Z.heap.size ≤ z ∧ (z ∈ ws ∨ h0.size ≤ z) := fun z hz => by cases List.mem_singleton.mp hz; exact q
theorem k_wsC {B : BP} {Z : State} {ws : List Addr} {h0 : Heap} {a : Addr} {L : List Addr} (q : ¬ B a ∧ Z.heap.size ≤ a ∧ (a ∈ ws ∨ h0.size ≤ a)) (r : ∀ z ∈ L, ¬ B z ∧ Z.heap.size ≤ z ∧ (z ∈ ws ∨ h0.size ≤ z)) : ∀ z ∈ a :: L, ¬ B z ∧ Z.heap.size ≤ z ∧ (z ∈ ws ∨ h0.size ≤ z) := fun z hz => by
  rcases List.mem_cons.mp hz with e | e
  · subst e; exact q
  · exact r z e
theorem k_narref (t : FieldType) {v : Value} (h : v.isRef = true) : narrow t v = v := by
  rcases ref_cases h with rfl | ⟨a, rfl⟩ <;> cases t <;> rfl
theorem k_fitref {t : FieldType} {v : Value} (ht : refKind t = true) (h : v.isRef = true) : fits t v = true := by
  rcases ref_cases h with rfl | ⟨a, rfl⟩ <;> cases t <;> first | rfl | cases ht
theorem k_top {x : Cx} {T : State} {pc : Nat} {Ls : Array Slot} {st : List Value} {v v' : Value} (e : v = v') (G : Go x (T.setTop (mkF x.m pc Ls (v' :: st)))) : Go x (T.setTop (mkF x.m pc Ls (v :: st))) := by subst e; exact G
section Calls
variable {nw : Bool} {l : Launch} {Z : State} {EL : List (String × Nat)} {own : String} {bytes : ByteArray} {maxL : Nat} {ret : Option FieldType} {mnm : String} {R : Room} {h0 : Heap} {B0 : BP} {ws : List Addr} {Q : QT} {x : Cx} {T : State} {h : Heap} {B : BP} {k n : Nat} {a0 : Array Value} {pc pc' : Nat} {Ls : Array Slot} {st : List Value}
/-- a callee's promise, as the library's calls take it -/
theorem conBack {p : Program} {e : Env} {below : List Frame} {s : State} {args : Array Value} {vm0 : Vm} {len W : Nat} {y : MethodName} {bytes' : ByteArray} {maxL' : Nat} {ret' : Option FieldType} {rm : Room} {as : Array Value} {ws' : List Addr} {Q' : QT}
    (C : Con nw l Z EL y bytes' maxL' ret' [] rm as h B ws' Q') (hZ : Z.Warmed39 vm0) (wc : (Cond.code y bytes' maxL' ret').before a0 Z = true) (wz : (Cond.initialized y.cls).before a0 Z = true) (hf : rm.frames + 1 ≤ R.frames) (hl : W + (maxL' + 11) + rm.locals ≤ R.locals) (hI : k_inv Z EL B vm0 h) :
    BackS l R p e below (s.setVm vm0) args y len W (fun A a => a = as ∧ A.U.heap = h ∧ A.cells + rm.cells ≤ R.cells ∧ A.slots + rm.slots ≤ R.slots)
      (fun A _ v D => ∃ L B', Q' v D.U.heap B' ∧ Keep h D.U.heap ws' ∧ k_more B B' h.size ∧ Fr Z.heap.size L ∧ D.locs = A.locs ++ L ∧ D.cells = A.cells + rm.cells ∧ D.slots = A.slots + rm.slots ∧ k_inv Z EL B' D.U.vm D.U.heap ∧ (nw = true → (s.setVm vm0).WarmedH D.U.vm)) :=
  BackS.of_freeW (bytes := bytes') (maxL := maxL') (ret := ret')
    (E := fun _ first o t L k n => k = rm.cells ∧ n = rm.slots ∧ ∃ v B', o = .returned v ∧ Q' v t.heap B' ∧ Keep h t.heap ws' ∧ k_more B B' h.size ∧ Fr Z.heap.size L ∧ k_inv Z EL B' t.vm t.heap ∧ (nw = true → first.WarmedH t.vm)) C hf hl
    (fun m meth c A a Y hp => have hU : Z.Warmed39 A.U.vm := wtrans (s := s.setVm vm0) hZ Y.warmed
      ⟨by show (Cond.and _ .tt).before a A.U = true; rw [Cond.before_and, mv hU wc]; rfl, mv hU wc, mv hU wz, hp.2.2.1, hp.2.2.2⟩)
    (fun m meth c A a g mk Y hp => ⟨hp.1, wtrans (s := s.setVm vm0) hZ Y.warmed, hp.2.1, (have q := hI.vmT Y hZ; q)⟩) (fun _ _ _ _ _ _ _ _ _ => trivial)
    (fun _ _ _ _ ⟨v, L, B', q1, q2, q3, q4, q5, q6, q7⟩ => ⟨L, _, _, q7.1, rfl, rfl, v, B', q1, q2, q3, q4, q5, q6, q7.2⟩)
    (fun m meth c A a g mk v t L k n Y hp _ _ ⟨e1, e2, v', B', q1, q2, q3, q4, q5, q6, q7⟩ => by
      cases q1; subst e1 e2
      exact ⟨L, B', q2, q3, q4, q5, rfl, rfl, rfl, q6, fun r => State.WarmedH.trans Y.warmed (q7 r)⟩)
theorem Wk.called {T' : State} {h' : Heap} {B' : BP} {vm0 vm1 : Vm} {k0 k' n' : Nat} {locs L : List Loc} {ws' : List Addr} (hK' : Keep h h' ws') (hws : ∀ z ∈ ws', ¬ B z ∧ Z.heap.size ≤ z ∧ (z ∈ ws ∨ h0.size ≤ z)) (hM' : k_more B B' h.size) (hFr' : Fr Z.heap.size L) (hI' : k_inv Z EL B' vm1 h')
    (S : x.p.tables.exec = Jvm.exec ∧ x.c.code = bytes ∧ x.c.maxLocals = maxL ∧ x.meth.sig.returnType = ret ∧ x.meth.locks = false ∧ x.meth.name = mnm ∧ x.F = ConQ nw Z EL R h0 B0 ws Q x.s)
    (X' : Stand x.p l x.e R ((x.s.setVm vm0).setVm vm1) x.m x.args x.below x.meth x.c T' (locs ++ L) k' n') (e' : T'.heap = h') (hS : x.s.Since vm0 k0) (hk : k0 ≤ h.size) (hS' : (x.s.setVm vm0).Since vm1 h'.size) (hZ : Z.Warmed39 vm0) (hown : vm0.findClass own = some x.m.cls)
    (hFr : Fr Z.heap.size locs) (hK : Keep h0 h ws) (hM : k_more B0 B h0.size) (hN : nw = true → x.s.WarmedH vm0) (hN' : nw = true → (x.s.setVm vm0).WarmedH vm1) : Wk nw l Z EL own bytes maxL ret mnm R h0 B0 ws Q x T' h' B' k' n' := by
  obtain ⟨q1, q2, q3, q4⟩ := rebS (Z := Z) (own := own) hS hk X' hS' hK'.1 hZ hown
  exact ⟨S, vm1, h'.size, _, q1, e', q2, Nat.le_refl _, q3, q4, hI', hFr.app hFr', hK.trans hK' fun z hz => (hws z hz).2.2, hM.trans hM' hK.1, fun r => State.WarmedH.trans (t := x.s.setVm vm0) (hN r) (hN' r)⟩
abbrev noHandle (y : MethodName) : Prop := y.cls ≠ "java/lang/invoke/MethodHandle" ∧ y.cls ≠ "java/lang/invoke/VarHandle"
theorem g_callS (X : Wk nw l Z EL own bytes maxL ret mnm R h0 B0 ws Q x T h B k n) {y : MethodName} {idx : Nat} {bytes' : ByteArray} {maxL' : Nat} {ret' : Option FieldType} {rm : Room} {ws' : List Addr} {Q' : QT} {ps : List FieldType} {rt : Option FieldType} (hd : Dc bytes pc (.invokestatic idx) 3 pc')
    (w1 : (Cond.methodLink own idx y).before a0 Z = true) (w2 : (Cond.static y).before a0 Z = true) (w3 : (Cond.initialized y.cls).before a0 Z = true) (w4 : (Cond.code y bytes' maxL' ret').before a0 Z = true) (hy : noHandle y) (hpd : parseMethodDescriptor y.desc = some ⟨ps, rt⟩)
    (argsL rest : List Value) (W : Nat) (C : Con nw l Z EL y bytes' maxL' ret' [] rm argsL.toArray h B ws' Q') (hlen : argsL.length = ps.length) (hst : st = argsL.reverse ++ rest) (hsz : Ls.size = maxL) (hW : (rest.map fun v => v.category).sum ≤ W) (hf : rm.frames + 1 ≤ R.frames) (hl : W + (maxL' + 11) + rm.locals ≤ R.locals) (k' n' : Nat) (ek : k + rm.cells = k') (en : n + rm.slots = n') (hc : k' ≤ R.cells) (hs : n' ≤ R.slots)
    (hws : ∀ z ∈ ws', ¬ B z ∧ Z.heap.size ≤ z ∧ (z ∈ ws ∨ h0.size ≤ z))
    (K : ∀ v T' h' B', Wk nw l Z EL own bytes maxL ret mnm R h0 B0 ws Q x T' h' B' k' n' → Keep h h' ws' → k_more B B' h.size → Q' v h' B' → Go x (T'.setTop (mkF x.m pc' Ls (v.toList ++ rest)))) : Go x (T.setTop (mkF x.m pc Ls st)) := by
  subst ek en
  obtain ⟨S, vm0, k0, locs, X, eT, hS, hk, hZ, hown, hI, hFr, hK, hM, hN⟩ := X
  obtain ⟨hd, rfl⟩ := hd
  obtain ⟨v, vm₁, ⟨T', L', k'', n''⟩, -, X', hS', hgr, ⟨L, B', q1, q2, q3, q4, e1, e2, e3, q5, q6⟩, stp⟩ := callSS X S.1 hown (mvT (s := x.s.setVm vm0) hZ w1) (mvT (s := x.s.setVm vm0) hZ w2) (mvT (s := x.s.setVm vm0) hZ w3) (mvT (s := x.s.setVm vm0) hZ w4) hy (conBack (W := W) C hZ w4 w3 hf hl hI) (g := mkF x.m pc Ls st) rfl (by rw [S.2.2.1]; exact hsz) (lenOf hpd hlen) hst (by show 2 * 0 + _ ≤ _; omega) (S.2.1 ▸ hd) (fun _ _ => ⟨rfl, eT, hc, hs⟩)
  dsimp only [Pt.U, Pt.locs, Pt.cells, Pt.slots] at X' hS' hgr q1 q2 q5 q6 e1 e2 e3 stp
  subst e1 e2 e3
  exact (K v T' _ B' (Wk.called q2 hws q3 q4 q5 S X' rfl hS hk hS' hZ hown hFr hK hM hN q6) q2 q3 q1).from fun t q => stp.trans q
theorem g_callI (X : Wk nw l Z EL own bytes maxL ret mnm R h0 B0 ws Q x T h B k n) {y : MethodName} {idx : Nat} {bytes' : ByteArray} {maxL' : Nat} {rm : Room} {ws' : List Addr} {Q' : QT} {ps : List FieldType} {rt : Option FieldType} (hd : Dc bytes pc (.invokespecial idx) 3 pc')
    (w1 : (Cond.methodLink own idx y).before a0 Z = true) (w2 : (Cond.instanceMethod y).before a0 Z = true) (w3 : (Cond.initialized y.cls).before a0 Z = true) (w4 : (Cond.code y bytes' maxL' none).before a0 Z = true) (hn : y.name = "<init>") (hy : noHandle y) (hpd : parseMethodDescriptor y.desc = some ⟨ps, rt⟩)
    (a : Addr) (argsL rest : List Value) (W : Nat) (C : Con nw l Z EL y bytes' maxL' none [] rm (.ref a :: argsL).toArray h B ws' Q') (hlen : argsL.length = ps.length) (hst : st = argsL.reverse ++ .ref a :: rest) (hsz : Ls.size = maxL) (hW : (rest.map fun v => v.category).sum ≤ W) (hf : rm.frames + 1 ≤ R.frames) (hl : W + (maxL' + 11) + rm.locals ≤ R.locals) (k' n' : Nat) (ek : k + rm.cells = k') (en : n + rm.slots = n') (hc : k' ≤ R.cells) (hs : n' ≤ R.slots)
    (hws : ∀ z ∈ ws', ¬ B z ∧ Z.heap.size ≤ z ∧ (z ∈ ws ∨ h0.size ≤ z))
    (K : ∀ v T' h' B', Wk nw l Z EL own bytes maxL ret mnm R h0 B0 ws Q x T' h' B' k' n' → Keep h h' ws' → k_more B B' h.size → Q' v h' B' → Go x (T'.setTop (mkF x.m pc' Ls (v.toList ++ rest)))) : Go x (T.setTop (mkF x.m pc Ls st)) := by
  subst ek en
  obtain ⟨S, vm0, k0, locs, X, eT, hS, hk, hZ, hown, hI, hFr, hK, hM, hN⟩ := X
  obtain ⟨hd, rfl⟩ := hd
  obtain ⟨v, vm₁, ⟨T', L', k'', n''⟩, -, X', hS', hgr, ⟨L, B', q1, q2, q3, q4, e1, e2, e3, q5, q6⟩, stp⟩ := X.specialBackS S.1 hn hown (mvT (s := x.s.setVm vm0) hZ w1) (mvT (s := x.s.setVm vm0) hZ w2) (mvT (s := x.s.setVm vm0) hZ w4) hy (conBack (W := W) C hZ w4 w3 hf hl hI) (g := mkF x.m pc Ls st) rfl (by rw [S.2.2.1]; exact hsz) (Steps.refl _) (lenOf hpd hlen) hst (by show 2 * 0 + _ ≤ _; omega) (S.2.1 ▸ hd) (fun _ _ => ⟨rfl, eT, hc, hs⟩)
  dsimp only [Pt.U, Pt.locs, Pt.cells, Pt.slots] at X' hS' hgr q1 q2 q5 q6 e1 e2 e3 stp
  subst e1 e2 e3
  exact (K v T' _ B' (Wk.called q2 hws q3 q4 q5 S X' rfl hS hk hS' hZ hown hFr hK hM hN q6) q2 q3 q1).from fun t q => stp.trans q
theorem g_callN (X : Wk nw l Z EL own bytes maxL ret mnm R h0 B0 ws Q x T h B k n) {host : String} {y : MethodName} {idx : Nat} {bytes' : ByteArray} {maxL' : Nat} {rm : Room} {ws' : List Addr} {Q' : QT} {ps : List FieldType} {rt : Option FieldType} (hd : Dc bytes pc (.invokespecial idx) 3 pc')
    (w1 : (Cond.methodLinkNest own idx y host).before a0 Z = true) (w2 : (Cond.instanceMethod y).before a0 Z = true) (w3 : (Cond.initialized y.cls).before a0 Z = true) (w4 : (Cond.code y bytes' maxL' none).before a0 Z = true) (hn : y.name = "<init>") (hy : noHandle y) (hpd : parseMethodDescriptor y.desc = some ⟨ps, rt⟩)
    (a : Addr) (argsL rest : List Value) (W : Nat) (C : Con nw l Z EL y bytes' maxL' none [] rm (.ref a :: argsL).toArray h B ws' Q') (hlen : argsL.length = ps.length) (hst : st = argsL.reverse ++ .ref a :: rest) (hsz : Ls.size = maxL) (hW : (rest.map fun v => v.category).sum ≤ W) (hf : rm.frames + 1 ≤ R.frames) (hl : W + (maxL' + 11) + rm.locals ≤ R.locals) (k' n' : Nat) (ek : k + rm.cells = k') (en : n + rm.slots = n') (hc : k' ≤ R.cells) (hs : n' ≤ R.slots)
    (hws : ∀ z ∈ ws', ¬ B z ∧ Z.heap.size ≤ z ∧ (z ∈ ws ∨ h0.size ≤ z))
    (K : ∀ v T' h' B', Wk nw l Z EL own bytes maxL ret mnm R h0 B0 ws Q x T' h' B' k' n' → Keep h h' ws' → k_more B B' h.size → Q' v h' B' → Go x (T'.setTop (mkF x.m pc' Ls (v.toList ++ rest)))) : Go x (T.setTop (mkF x.m pc Ls st)) := by
  subst ek en
  obtain ⟨S, vm0, k0, locs, X, eT, hS, hk, hZ, hown, hI, hFr, hK, hM, hN⟩ := X
  obtain ⟨hd, rfl⟩ := hd
  obtain ⟨v, vm₁, ⟨T', L', k'', n''⟩, -, X', hS', hgr, ⟨L, B', q1, q2, q3, q4, e1, e2, e3, q5, q6⟩, stp⟩ := X.specialBackNestS S.1 hn hown (Cond.methodLinkNest_wide hZ w1 :) (mvT (s := x.s.setVm vm0) hZ w2) (mvT (s := x.s.setVm vm0) hZ w4) hy (conBack (W := W) C hZ w4 w3 hf hl hI) (g := mkF x.m pc Ls st) rfl (by rw [S.2.2.1]; exact hsz) (Steps.refl _) (lenOf hpd hlen) hst (by show 2 * 0 + _ ≤ _; omega) (S.2.1 ▸ hd) (fun _ _ => ⟨rfl, eT, hc, hs⟩)
  dsimp only [Pt.U, Pt.locs, Pt.cells, Pt.slots] at X' hS' hgr q1 q2 q5 q6 e1 e2 e3 stp
  subst e1 e2 e3
  exact (K v T' _ B' (Wk.called q2 hws q3 q4 q5 S X' rfl hS hk hS' hZ hown hFr hK hM hN q6) q2 q3 q1).from fun t q => stp.trans q
theorem g_callV (X : Wk nw l Z EL own bytes maxL ret mnm R h0 B0 ws Q x T h B k n) {D : String} {y : MethodName} {idx : Nat} {bytes' : ByteArray} {maxL' : Nat} {ret' : Option FieldType} {rm : Room} {ws' : List Addr} {Q' : QT} {ps : List FieldType} {rt : Option FieldType} (hd : Dc bytes pc (.invokevirtual idx) 3 pc')
    (w1 : (Cond.methodLink own idx y).before a0 Z = true) (w2 : (Cond.declares y).before a0 Z = true) (w3 : (Cond.selects D y y).before a0 Z = true) (w4 : (Cond.instanceMethod y).before a0 Z = true) (w5 : (Cond.initialized y.cls).before a0 Z = true) (w6 : (Cond.code y bytes' maxL' ret').before a0 Z = true) (hy : noHandle y) (hpd : parseMethodDescriptor y.desc = some ⟨ps, rt⟩)
    (a : Addr) (argsL rest : List Value) (W : Nat) (E : Exa Z h a D) (C : Con nw l Z EL y bytes' maxL' ret' [] rm (.ref a :: argsL).toArray h B ws' Q') (hlen : argsL.length = ps.length) (hst : st = argsL.reverse ++ .ref a :: rest) (hsz : Ls.size = maxL) (hW : (rest.map fun v => v.category).sum ≤ W) (hf : rm.frames + 1 ≤ R.frames) (hl : W + (maxL' + 11) + rm.locals ≤ R.locals) (k' n' : Nat) (ek : k + rm.cells = k') (en : n + rm.slots = n') (hc : k' ≤ R.cells) (hs : n' ≤ R.slots)
    (hws : ∀ z ∈ ws', ¬ B z ∧ Z.heap.size ≤ z ∧ (z ∈ ws ∨ h0.size ≤ z))
    (K : ∀ v T' h' B', Wk nw l Z EL own bytes maxL ret mnm R h0 B0 ws Q x T' h' B' k' n' → Keep h h' ws' → k_more B B' h.size → Q' v h' B' → Go x (T'.setTop (mkF x.m pc' Ls (v.toList ++ rest)))) : Go x (T.setTop (mkF x.m pc Ls st)) := by
  subst ek en
  obtain ⟨S, vm0, k0, locs, X, eT, hS, hk, hZ, hown, hI, hFr, hK, hM, hN⟩ := X
  obtain ⟨hd, rfl⟩ := hd
  obtain ⟨cq, kq, qa, qb, qc⟩ := isOf (s := x.s.setVm vm0) hZ eT E
  obtain ⟨v, vm₁, ⟨T', L', k'', n''⟩, -, X', hS', hgr, ⟨L, B', q1, q2, q3, q4, e1, e2, e3, q5, q6⟩, stp⟩ := X.virtualBackS S.1 (y := y) (z := y) hown (mvT (s := x.s.setVm vm0) hZ w1) (mvT (s := x.s.setVm vm0) hZ w2) (notFace_of_selects (args := #[]) (mvT (s := x.s.setVm vm0) hZ w3)) (mvT (s := x.s.setVm vm0) hZ w3) (mvT (s := x.s.setVm vm0) hZ w4) hy (conBack (W := W) C hZ w6 w5 hf hl hI) qa qc (g := mkF x.m pc Ls st) rfl (by rw [S.2.2.1]; exact hsz) (Steps.refl _) (lenOf hpd hlen) hst (by show 2 * 0 + _ ≤ _; omega) (S.2.1 ▸ hd) (fun _ _ => ⟨rfl, eT, hc, hs⟩)
  dsimp only [Pt.U, Pt.locs, Pt.cells, Pt.slots] at X' hS' hgr q1 q2 q5 q6 e1 e2 e3 stp
  subst e1 e2 e3
  exact (K v T' _ B' (Wk.called q2 hws q3 q4 q5 S X' rfl hS hk hS' hZ hown hFr hK hM hN q6) q2 q3 q1).from fun t q => stp.trans q
theorem g_callSp (X : Wk nw l Z EL own bytes maxL ret mnm R h0 B0 ws Q x T h B k n) {y : MethodName} {idx : Nat} {bytes' : ByteArray} {maxL' : Nat} {ret' : Option FieldType} {rm : Room} {v : Value} {ps : List FieldType} {rt : Option FieldType} (hd : Dc bytes pc (.invokestatic idx) 3 pc')
    (w1 : (Cond.methodLink own idx y).before a0 Z = true) (w2 : (Cond.static y).before a0 Z = true) (w3 : (Cond.initialized y.cls).before a0 Z = true) (w4 : (Cond.code y bytes' maxL' ret').before a0 Z = true) (hy : noHandle y) (hpd : parseMethodDescriptor y.desc = some ⟨ps, rt⟩)
    (argsL rest : List Value) (W : Nat) (C : Con nw l Z EL y bytes' maxL' ret' [] rm argsL.toArray h B [] (PQ (some v) h B)) (hlen : argsL.length = ps.length) (hst : st = argsL.reverse ++ rest) (hsz : Ls.size = maxL) (hW : (rest.map fun v => v.category).sum ≤ W) (hf : rm.frames + 1 ≤ R.frames) (hl : W + (maxL' + 11) + rm.locals ≤ R.locals) (k' n' : Nat) (ek : k + rm.cells = k') (en : n + rm.slots = n') (hc : k' ≤ R.cells) (hs : n' ≤ R.slots)
    (K : ∀ T', Wk nw l Z EL own bytes maxL ret mnm R h0 B0 ws Q x T' h B k' n' → Go x (T'.setTop (mkF x.m pc' Ls (v :: rest)))) : Go x (T.setTop (mkF x.m pc Ls st)) :=
  g_callS X hd w1 w2 w3 w4 hy hpd argsL rest W C hlen hst hsz hW hf hl k' n' ek en hc hs (fun _ q => nomatch q) fun _ T' _ _ X' _ _ ⟨e1, e2, e3⟩ => by subst e1 e2 e3; exact K T' X'
theorem g_callSp0 (X : Wk nw l Z EL own bytes maxL ret mnm R h0 B0 ws Q x T h B k n) {y : MethodName} {idx : Nat} {bytes' : ByteArray} {maxL' : Nat} {ret' : Option FieldType} {rm : Room} {ps : List FieldType} {rt : Option FieldType} (hd : Dc bytes pc (.invokestatic idx) 3 pc')
    (w1 : (Cond.methodLink own idx y).before a0 Z = true) (w2 : (Cond.static y).before a0 Z = true) (w3 : (Cond.initialized y.cls).before a0 Z = true) (w4 : (Cond.code y bytes' maxL' ret').before a0 Z = true) (hy : noHandle y) (hpd : parseMethodDescriptor y.desc = some ⟨ps, rt⟩)
    (argsL rest : List Value) (W : Nat) (C : Con nw l Z EL y bytes' maxL' ret' [] rm argsL.toArray h B [] (PQ none h B)) (hlen : argsL.length = ps.length) (hst : st = argsL.reverse ++ rest) (hsz : Ls.size = maxL) (hW : (rest.map fun v => v.category).sum ≤ W) (hf : rm.frames + 1 ≤ R.frames) (hl : W + (maxL' + 11) + rm.locals ≤ R.locals) (k' n' : Nat) (ek : k + rm.cells = k') (en : n + rm.slots = n') (hc : k' ≤ R.cells) (hs : n' ≤ R.slots)
    (K : ∀ T', Wk nw l Z EL own bytes maxL ret mnm R h0 B0 ws Q x T' h B k' n' → Go x (T'.setTop (mkF x.m pc' Ls rest))) : Go x (T.setTop (mkF x.m pc Ls st)) :=
  g_callS X hd w1 w2 w3 w4 hy hpd argsL rest W C hlen hst hsz hW hf hl k' n' ek en hc hs (fun _ q => nomatch q) fun _ T' _ _ X' _ _ ⟨e1, e2, e3⟩ => by subst e1 e2 e3; exact K T' X'
theorem g_callVp (X : Wk nw l Z EL own bytes maxL ret mnm R h0 B0 ws Q x T h B k n) {D : String} {y : MethodName} {idx : Nat} {bytes' : ByteArray} {maxL' : Nat} {ret' : Option FieldType} {rm : Room} {v : Value} {ps : List FieldType} {rt : Option FieldType} (hd : Dc bytes pc (.invokevirtual idx) 3 pc')
    (w1 : (Cond.methodLink own idx y).before a0 Z = true) (w2 : (Cond.declares y).before a0 Z = true) (w3 : (Cond.selects D y y).before a0 Z = true) (w4 : (Cond.instanceMethod y).before a0 Z = true) (w5 : (Cond.initialized y.cls).before a0 Z = true) (w6 : (Cond.code y bytes' maxL' ret').before a0 Z = true) (hy : noHandle y) (hpd : parseMethodDescriptor y.desc = some ⟨ps, rt⟩)
    (a : Addr) (argsL rest : List Value) (W : Nat) (E : Exa Z h a D) (C : Con nw l Z EL y bytes' maxL' ret' [] rm (.ref a :: argsL).toArray h B [] (PQ (some v) h B)) (hlen : argsL.length = ps.length) (hst : st = argsL.reverse ++ .ref a :: rest) (hsz : Ls.size = maxL) (hW : (rest.map fun v => v.category).sum ≤ W) (hf : rm.frames + 1 ≤ R.frames) (hl : W + (maxL' + 11) + rm.locals ≤ R.locals) (k' n' : Nat) (ek : k + rm.cells = k') (en : n + rm.slots = n') (hc : k' ≤ R.cells) (hs : n' ≤ R.slots)
    (K : ∀ T', Wk nw l Z EL own bytes maxL ret mnm R h0 B0 ws Q x T' h B k' n' → Go x (T'.setTop (mkF x.m pc' Ls (v :: rest)))) : Go x (T.setTop (mkF x.m pc Ls st)) :=
  g_callV X hd w1 w2 w3 w4 w5 w6 hy hpd a argsL rest W E C hlen hst hsz hW hf hl k' n' ek en hc hs (fun _ q => nomatch q) fun _ T' _ _ X' _ _ ⟨e1, e2, e3⟩ => by subst e1 e2 e3; exact K T' X'
theorem g_callVp0 (X : Wk nw l Z EL own bytes maxL ret mnm R h0 B0 ws Q x T h B k n) {D : String} {y : MethodName} {idx : Nat} {bytes' : ByteArray} {maxL' : Nat} {ret' : Option FieldType} {rm : Room} {ps : List FieldType} {rt : Option FieldType} (hd : Dc bytes pc (.invokevirtual idx) 3 pc')
    (w1 : (Cond.methodLink own idx y).before a0 Z = true) (w2 : (Cond.declares y).before a0 Z = true) (w3 : (Cond.selects D y y).before a0 Z = true) (w4 : (Cond.instanceMethod y).before a0 Z = true) (w5 : (Cond.initialized y.cls).before a0 Z = true) (w6 : (Cond.code y bytes' maxL' ret').before a0 Z = true) (hy : noHandle y) (hpd : parseMethodDescriptor y.desc = some ⟨ps, rt⟩)
    (a : Addr) (argsL rest : List Value) (W : Nat) (E : Exa Z h a D) (C : Con nw l Z EL y bytes' maxL' ret' [] rm (.ref a :: argsL).toArray h B [] (PQ none h B)) (hlen : argsL.length = ps.length) (hst : st = argsL.reverse ++ .ref a :: rest) (hsz : Ls.size = maxL) (hW : (rest.map fun v => v.category).sum ≤ W) (hf : rm.frames + 1 ≤ R.frames) (hl : W + (maxL' + 11) + rm.locals ≤ R.locals) (k' n' : Nat) (ek : k + rm.cells = k') (en : n + rm.slots = n') (hc : k' ≤ R.cells) (hs : n' ≤ R.slots)
    (K : ∀ T', Wk nw l Z EL own bytes maxL ret mnm R h0 B0 ws Q x T' h B k' n' → Go x (T'.setTop (mkF x.m pc' Ls rest))) : Go x (T.setTop (mkF x.m pc Ls st)) :=
  g_callV X hd w1 w2 w3 w4 w5 w6 hy hpd a argsL rest W E C hlen hst hsz hW hf hl k' n' ek en hc hs (fun _ q => nomatch q) fun _ T' _ _ X' _ _ ⟨e1, e2, e3⟩ => by subst e1 e2 e3; exact K T' X'
theorem g_callIp0 (X : Wk nw l Z EL own bytes maxL ret mnm R h0 B0 ws Q x T h B k n) {y : MethodName} {idx : Nat} {bytes' : ByteArray} {maxL' : Nat} {rm : Room} {ps : List FieldType} {rt : Option FieldType} (hd : Dc bytes pc (.invokespecial idx) 3 pc')
    (w1 : (Cond.methodLink own idx y).before a0 Z = true) (w2 : (Cond.instanceMethod y).before a0 Z = true) (w3 : (Cond.initialized y.cls).before a0 Z = true) (w4 : (Cond.code y bytes' maxL' none).before a0 Z = true) (hn : y.name = "<init>") (hy : noHandle y) (hpd : parseMethodDescriptor y.desc = some ⟨ps, rt⟩)
    (a : Addr) (argsL rest : List Value) (W : Nat) (C : Con nw l Z EL y bytes' maxL' none [] rm (.ref a :: argsL).toArray h B [] (PQ none h B)) (hlen : argsL.length = ps.length) (hst : st = argsL.reverse ++ .ref a :: rest) (hsz : Ls.size = maxL) (hW : (rest.map fun v => v.category).sum ≤ W) (hf : rm.frames + 1 ≤ R.frames) (hl : W + (maxL' + 11) + rm.locals ≤ R.locals) (k' n' : Nat) (ek : k + rm.cells = k') (en : n + rm.slots = n') (hc : k' ≤ R.cells) (hs : n' ≤ R.slots)
    (K : ∀ T', Wk nw l Z EL own bytes maxL ret mnm R h0 B0 ws Q x T' h B k' n' → Go x (T'.setTop (mkF x.m pc' Ls rest))) : Go x (T.setTop (mkF x.m pc Ls st)) :=
  g_callI X hd w1 w2 w3 w4 hn hy hpd a argsL rest W C hlen hst hsz hW hf hl k' n' ek en hc hs (fun _ q => nomatch q) fun _ T' _ _ X' _ _ ⟨e1, e2, e3⟩ => by subst e1 e2 e3; exact K T' X'
theorem g_callF (X : Wk nw l Z EL own bytes maxL ret mnm R h0 B0 ws Q x T h B k n) {D : String} {y z : MethodName} {idx cnt : Nat} {bytes' : ByteArray} {maxL' : Nat} {ret' : Option FieldType} {rm : Room} {ws' : List Addr} {Q' : QT} {ps : List FieldType} {rt : Option FieldType} (hd : Dc bytes pc (.invokeinterface idx cnt) 5 pc')
    (w1 : (Cond.methodLink own idx y).before a0 Z = true) (w2 : (Cond.declares y).before a0 Z = true) (wa : (Cond.interfaceMethod y.cls y.cls y.name y.desc).before a0 Z = true) (wb : (Cond.publicMethod z).before a0 Z = true) (wc : (Cond.unhidden D y.name y.desc).before a0 Z = true) (wd : (Cond.castable D y.cls).before a0 Z = true) (w3 : (Cond.selects D y z).before a0 Z = true) (w4 : (Cond.instanceMethod z).before a0 Z = true) (w5 : (Cond.initialized z.cls).before a0 Z = true) (w6 : (Cond.code z bytes' maxL' ret').before a0 Z = true) (hy : noHandle y) (hpd : parseMethodDescriptor y.desc = some ⟨ps, rt⟩)
    (a : Addr) (argsL rest : List Value) (W : Nat) (E : Exa Z h a D) (C : Con nw l Z EL z bytes' maxL' ret' [] rm (.ref a :: argsL).toArray h B ws' Q') (hlen : argsL.length = ps.length) (hst : st = argsL.reverse ++ .ref a :: rest) (hsz : Ls.size = maxL) (hW : (rest.map fun v => v.category).sum ≤ W) (hf : rm.frames + 1 ≤ R.frames) (hl : W + (maxL' + 11) + rm.locals ≤ R.locals) (k' n' : Nat) (ek : k + rm.cells = k') (en : n + rm.slots = n') (hc : k' ≤ R.cells) (hs : n' ≤ R.slots)
    (hws : ∀ z ∈ ws', ¬ B z ∧ Z.heap.size ≤ z ∧ (z ∈ ws ∨ h0.size ≤ z))
    (K : ∀ v T' h' B', Wk nw l Z EL own bytes maxL ret mnm R h0 B0 ws Q x T' h' B' k' n' → Keep h h' ws' → k_more B B' h.size → Q' v h' B' → Go x (T'.setTop (mkF x.m pc' Ls (v.toList ++ rest)))) : Go x (T.setTop (mkF x.m pc Ls st)) := by
  subst ek en
  obtain ⟨S, vm0, k0, locs, X, eT, hS, hk, hZ, hown, hI, hFr, hK, hM, hN⟩ := X
  obtain ⟨hd, rfl⟩ := hd
  obtain ⟨cq, kq, qa, qb, qc⟩ := isOf (s := x.s.setVm vm0) hZ eT E
  obtain ⟨v, vm₁, ⟨T', L', k'', n''⟩, -, X', hS', hgr, ⟨L, B', q1, q2, q3, q4, e1, e2, e3, q5, q6⟩, stp⟩ := X.interfaceBackS S.1 (xi := y) (y := z) hown (mvT (s := x.s.setVm vm0) hZ w1) (mvT (s := x.s.setVm vm0) hZ w2) (mvT (s := x.s.setVm vm0) hZ wa (by simp [Cond.onTables, Cond.keepsFace, Cond.keeps, Cond.faceAtom, hy.1, hy.2])) (mvT (s := x.s.setVm vm0) hZ w3) (mvT (s := x.s.setVm vm0) hZ w4) (mvT (s := x.s.setVm vm0) hZ wb) (mvT (s := x.s.setVm vm0) hZ wc) (mvT (s := x.s.setVm vm0) hZ wd) hy (conBack (W := W) C hZ w6 w5 hf hl hI) qa qb qc (g := mkF x.m pc Ls st) rfl (by rw [S.2.2.1]; exact hsz) (Steps.refl _) (lenOf hpd hlen) hst (by show 2 * 0 + _ ≤ _; omega) (S.2.1 ▸ hd) (fun _ _ => ⟨rfl, eT, hc, hs⟩)
  dsimp only [Pt.U, Pt.locs, Pt.cells, Pt.slots] at X' hS' hgr q1 q2 q5 q6 e1 e2 e3 stp
  subst e1 e2 e3
  exact (K v T' _ B' (Wk.called q2 hws q3 q4 q5 S X' rfl hS hk hS' hZ hown hFr hK hM hN q6) q2 q3 q1).from fun t q => stp.trans q
theorem g_callFp (X : Wk nw l Z EL own bytes maxL ret mnm R h0 B0 ws Q x T h B k n) {D : String} {y z : MethodName} {idx cnt : Nat} {bytes' : ByteArray} {maxL' : Nat} {ret' : Option FieldType} {rm : Room} {v : Value} {ps : List FieldType} {rt : Option FieldType} (hd : Dc bytes pc (.invokeinterface idx cnt) 5 pc')
    (w1 : (Cond.methodLink own idx y).before a0 Z = true) (w2 : (Cond.declares y).before a0 Z = true) (wa : (Cond.interfaceMethod y.cls y.cls y.name y.desc).before a0 Z = true) (wb : (Cond.publicMethod z).before a0 Z = true) (wc : (Cond.unhidden D y.name y.desc).before a0 Z = true) (wd : (Cond.castable D y.cls).before a0 Z = true) (w3 : (Cond.selects D y z).before a0 Z = true) (w4 : (Cond.instanceMethod z).before a0 Z = true) (w5 : (Cond.initialized z.cls).before a0 Z = true) (w6 : (Cond.code z bytes' maxL' ret').before a0 Z = true) (hy : noHandle y) (hpd : parseMethodDescriptor y.desc = some ⟨ps, rt⟩)
    (a : Addr) (argsL rest : List Value) (W : Nat) (E : Exa Z h a D) (C : Con nw l Z EL z bytes' maxL' ret' [] rm (.ref a :: argsL).toArray h B [] (PQ (some v) h B)) (hlen : argsL.length = ps.length) (hst : st = argsL.reverse ++ .ref a :: rest) (hsz : Ls.size = maxL) (hW : (rest.map fun v => v.category).sum ≤ W) (hf : rm.frames + 1 ≤ R.frames) (hl : W + (maxL' + 11) + rm.locals ≤ R.locals) (k' n' : Nat) (ek : k + rm.cells = k') (en : n + rm.slots = n') (hc : k' ≤ R.cells) (hs : n' ≤ R.slots)
    (K : ∀ T', Wk nw l Z EL own bytes maxL ret mnm R h0 B0 ws Q x T' h B k' n' → Go x (T'.setTop (mkF x.m pc' Ls (v :: rest)))) : Go x (T.setTop (mkF x.m pc Ls st)) :=
  g_callF X hd w1 w2 wa wb wc wd w3 w4 w5 w6 hy hpd a argsL rest W E C hlen hst hsz hW hf hl k' n' ek en hc hs (fun _ q => nomatch q) fun _ T' _ _ X' _ _ ⟨e1, e2, e3⟩ => by subst e1 e2 e3; exact K T' X'
/-- Object.<init> -/
theorem g_init (X : Wk nw l Z EL own bytes maxL ret mnm R h0 B0 ws Q x T h B k n) {idx : Nat} {y : MethodName} {ob : ByteArray} (hd : Dc bytes pc (.invokespecial idx) 3 pc') (hy : y = Lib.objectInit) (hob : ob = ⟨#[0xb1]⟩) (w1 : (Cond.methodLink own idx y).before a0 Z = true) (w2 : (Cond.instanceMethod y).before a0 Z = true) (w3 : (Cond.code y ob 1 none).before a0 Z = true)
    (W : Nat) (hsz : Ls.size = maxL) (hf : 1 ≤ R.frames) {a : Addr} (hW : (st.map fun v => v.category).sum ≤ W) (hl : W + 12 ≤ R.locals)
    (K : ∀ T', Wk nw l Z EL own bytes maxL ret mnm R h0 B0 ws Q x T' h B k n → Go x (T'.setTop (mkF x.m pc' Ls st))) : Go x (T.setTop (mkF x.m pc Ls (.ref a :: st))) := by
  subst hy hob
  obtain ⟨S, vm0, k0, locs, X, eT, hS, hk, hZ, hown, r⟩ := X
  obtain ⟨hd, rfl⟩ := hd
  obtain ⟨T', X', e', stp⟩ := initO X S.1 hZ hown w1 w2 w3 eT (g := mkF x.m pc Ls (.ref a :: st)) rfl (by rw [S.2.2.1]; exact hsz) rfl (S.2.1 ▸ hd) hf (W := W) (by show 2 * 0 + _ ≤ _; omega) hl
  exact (K T' ⟨S, vm0, k0, locs, X', e', hS, hk, hZ, hown, r⟩).from stp
/-- a String constant, unread -/
theorem g_ldcO (X : Wk nw l Z EL own bytes maxL ret mnm R h0 B0 ws Q x T h B k n) {idx : Nat} {text : String} (hnw : nw = false) (hd : Dc bytes pc (.ldc idx) 2 pc') (w : (Cond.stringLink own idx text).before a0 Z = true) (wS : ∀ a ∈ Bundle.stringAtoms, a.before a0 Z = true) (cap : Nat) (hn : 4 * text.toList.length ≤ cap) (hbig : cap ≤ 536870912) (k' n' : Nat) (ek : k + 2 = k') (en : n + (cap + 4) = n') (hc : k' ≤ R.cells) (hs : n' ≤ R.slots)
    (K : ∀ T' h' B' a, Wk nw l Z EL own bytes maxL ret mnm R h0 B0 ws Q x T' h' B' k' n' → Ext h h' → k_more B B' h.size → Go x (T'.setTop (mkF x.m pc' Ls (.ref a :: st)))) : Go x (T.setTop (mkF x.m pc Ls st)) := by
  subst hnw ek en
  obtain ⟨S, vm0, k0, locs, X, eT, hS, hk, hZ, hown, ⟨i1, i2, i3, i4, b0, i5⟩, hFr, hK, hM, hN⟩ := X
  obtain ⟨hd, rfl⟩ := hd
  have w' : (Cond.stringLink own idx text).before b0 Z = true := w
  have wS' : ∀ a ∈ Bundle.stringAtoms, a.before b0 Z = true := fun d hd => by
    have q := wS d hd
    simp only [Bundle.stringAtoms, List.mem_cons, List.not_mem_nil, or_false] at hd
    rcases hd with rfl | rfl | rfl | rfl | rfl | rfl | rfl <;> exact q
  obtain ⟨a, T', h', k1, X', e', E, hS', hk', hZ', hown', hC, -, stp⟩ := ldcOH X S.1 hZ hown w' wS' eT hS hk i5 i1 (g := mkF x.m pc Ls st) rfl (S.2.1 ▸ hd) hn hbig hc hs
  have hM' : k_more B (fun y => B y ∨ Bk Z EL T'.vm h' y) h.size := by
    refine ⟨?_, fun y q => Or.inl q⟩
    rintro y (q | q)
    · exact Or.inl q
    · rcases hC.2.2 y q with r | r
      · exact Or.inl (i2 y r)
      · exact Or.inr r
  refine (K T' h' (fun y => B y ∨ Bk Z EL T'.vm h' y) a ⟨S, T'.vm, k1, locs, X', e', hS', hk', hZ', hown', ⟨hC.1, fun y q => Or.inr q, ?_, ⟨Nat.le_trans i4.1 E.1, fun b c q => E.2 _ _ (i4.2 b c q)⟩, b0, i5⟩, hFr, hK.ext E, hM.trans hM' hK.1, fun q => nomatch q⟩ E hM').from stp
  rintro y (q | q)
  · exact Nat.lt_of_lt_of_le (i3 y q) E.1
  · obtain ⟨cell, hc⟩ := Bk.there q; exact (Array.getElem?_eq_some_iff.mp hc).1
/-- a String constant of EL, read -/
theorem g_ldcC (X : Wk nw l Z EL own bytes maxL ret mnm R h0 B0 ws Q x T h B k n) {idx : Nat} {text : String} (hnw : nw = false) (hd : Dc bytes pc (.ldc idx) 2 pc') (w : (Cond.stringLink own idx text).before a0 Z = true) (wS : ∀ a ∈ Bundle.stringAtoms, a.before a0 Z = true) (hmem : (own, idx) ∈ EL) (bs : List Int32) (hlt : bs.length < 2 ^ 31) (ht : (∀ c ∈ text.toList, c.toNat < 256) ∧ text.toList.map (fun c => Value.int (Jvm.Lit.byteI c.toNat.toUInt16)) = bs.map Value.int) (cap : Nat) (hn : 4 * text.toList.length ≤ cap) (hbig : cap ≤ 536870912) (k' n' : Nat) (ek : k + 2 = k') (en : n + (cap + 4) = n') (hc : k' ≤ R.cells) (hs : n' ≤ R.slots)
    (K : ∀ T' h' B' a t, Wk nw l Z EL own bytes maxL ret mnm R h0 B0 ws Q x T' h' B' k' n' → Ext h h' → k_more B B' h.size → Exa Z h' a "java/lang/String" → Fld Z h' a "java/lang/String" "coder" "B" (.int 0) → Fld Z h' a "java/lang/String" "value" "[B" (.ref t) → Ay Z h' t .byte (bs.map Value.int) → a < h'.size → t < h'.size → (∀ z, ¬ B' z → z ≠ a ∧ z ≠ t) → Go x (T'.setTop (mkF x.m pc' Ls (.ref a :: st)))) : Go x (T.setTop (mkF x.m pc Ls st)) := by
  subst hnw ek en
  obtain ⟨S, vm0, k0, locs, X, eT, hS, hk, hZ, hown, ⟨i1, i2, i3, i4, b0, i5⟩, hFr, hK, hM, hN⟩ := X
  obtain ⟨hd, rfl⟩ := hd
  have w' : (Cond.stringLink own idx text).before b0 Z = true := w
  have wS' : ∀ a ∈ Bundle.stringAtoms, a.before b0 Z = true := fun d hd => by
    have q := wS d hd
    simp only [Bundle.stringAtoms, List.mem_cons, List.not_mem_nil, or_false] at hd
    rcases hd with rfl | rfl | rfl | rfl | rfl | rfl | rfl <;> exact q
  obtain ⟨z1, z2⟩ := i32_nat hlt
  obtain ⟨a, T', h', k1, t, kk, X', e', E, hS', hk', hZ', hown', p1, p2, p3, p4, p5, p6, hC, -, p7, stp⟩ := ldcCH X S.1 hZ hown w' wS' eT hS hk i5 hmem i1 (vs := bs.map Value.int) (z := Int32.ofNat bs.length) ht z2 (by rw [z1]; simp) (g := mkF x.m pc Ls st) rfl (S.2.1 ▸ hd) hn hbig hc hs
  have hM' : k_more B (fun y => B y ∨ Bk Z EL T'.vm h' y) h.size := by
    refine ⟨?_, fun y q => Or.inl q⟩
    rintro y (q | q)
    · exact Or.inl q
    · rcases hC.2.2 y q with r | r
      · exact Or.inl (i2 y r)
      · exact Or.inr r
  refine (K T' h' (fun y => B y ∨ Bk Z EL T'.vm h' y) a t ⟨S, T'.vm, k1, locs, X', e', hS', hk', hZ', hown', ⟨hC.1, fun y q => Or.inr q, ?_, ⟨Nat.le_trans i4.1 E.1, fun b c q => E.2 _ _ (i4.2 b c q)⟩, b0, i5⟩, hFr, hK.ext E, hM.trans hM' hK.1, fun q => nomatch q⟩ E hM' p1 p2 p3 (Ay.of_arv p4 (by rw [z1]; simp)) p5 p6 (fun z hz => p7 z fun q => hz (Or.inr q))).from stp
  rintro y (q | q)
  · exact Nat.lt_of_lt_of_le (i3 y q) E.1
  · obtain ⟨cell, hc⟩ := Bk.there q; exact (Array.getElem?_eq_some_iff.mp hc).1
theorem g_ldc2 (X : Wk nw l Z EL own bytes maxL ret mnm R h0 B0 ws Q x T h B k n) {idx : Nat} {v : Int64} (hd : Dc bytes pc (.ldc2_w idx) 3 pc') (w : (Cond.constantLong own idx v).before a0 Z = true) (G : Go x (T.setTop (mkF x.m pc' Ls (.long v :: st)))) : Go x (T.setTop (mkF x.m pc Ls st)) := by
  obtain ⟨S, vm0, k0, locs, X, eT, hS, hk, hZ, hown, r⟩ := X
  obtain ⟨hd, rfl⟩ := hd
  exact G.from fun t q => X.ldc2J S.1 hown (mvT (s := x.s.setVm vm0) hZ w) (g := mkF x.m pc Ls st) rfl (S.2.1 ▸ hd) q
theorem g_ldcI (X : Wk nw l Z EL own bytes maxL ret mnm R h0 B0 ws Q x T h B k n) {idx : Nat} {v : Int32} (hd : Dc bytes pc (.ldc idx) 2 pc') (w : (Cond.constant own idx v).before a0 Z = true) (G : Go x (T.setTop (mkF x.m pc' Ls (.int v :: st)))) : Go x (T.setTop (mkF x.m pc Ls st)) := by
  obtain ⟨S, vm0, k0, locs, X, eT, hS, hk, hZ, hown, r⟩ := X
  obtain ⟨hd, rfl⟩ := hd
  exact G.from fun t q => X.ldcI S.1 hown (mvT (s := x.s.setVm vm0) hZ w) (g := mkF x.m pc Ls st) rfl (S.2.1 ▸ hd) q
theorem g_ldcWI (X : Wk nw l Z EL own bytes maxL ret mnm R h0 B0 ws Q x T h B k n) {idx : Nat} {v : Int32} (hd : Dc bytes pc (.ldc_w idx) 3 pc') (w : (Cond.constant own idx v).before a0 Z = true) (G : Go x (T.setTop (mkF x.m pc' Ls (.int v :: st)))) : Go x (T.setTop (mkF x.m pc Ls st)) := by
  obtain ⟨S, vm0, k0, locs, X, eT, hS, hk, hZ, hown, r⟩ := X
  obtain ⟨hd, rfl⟩ := hd
  exact G.from fun t q => X.ldcWI S.1 hown (mvT (s := x.s.setVm vm0) hZ w) (g := mkF x.m pc Ls st) rfl (S.2.1 ▸ hd) q
theorem g_castY (X : Wk nw l Z EL own bytes maxL ret mnm R h0 B0 ws Q x T h B k n) {K : String} {idx : Nat} (hd : Dc bytes pc (.checkcast idx) 3 pc') (w : (Cond.classLink own idx K).before a0 Z = true) {a : Addr} (F : Ins Z h a K true)
    (K' : ∀ T', Wk nw l Z EL own bytes maxL ret mnm R h0 B0 ws Q x T' h B k n → Go x (T'.setTop (mkF x.m pc' Ls (.ref a :: st)))) : Go x (T.setTop (mkF x.m pc Ls (.ref a :: st))) := by
  obtain ⟨S, vm0, k0, locs, X, eT, hS, hk, hZ, hown, r⟩ := X
  obtain ⟨hd, rfl⟩ := hd
  obtain ⟨T', X', e', stp⟩ := castY X S.1 hZ hown w eT F (g := mkF x.m pc Ls (.ref a :: st)) rfl rfl (S.2.1 ▸ hd)
  exact (K' T' ⟨S, vm0, k0, locs, X', e', hS, hk, hZ, hown, r⟩).from stp
theorem g_instY (X : Wk nw l Z EL own bytes maxL ret mnm R h0 B0 ws Q x T h B k n) {K : String} {idx : Nat} (hd : Dc bytes pc (.instanceof idx) 3 pc') (w : (Cond.classLink own idx K).before a0 Z = true) {a : Addr} (F : Ins Z h a K true)
    (K' : ∀ T', Wk nw l Z EL own bytes maxL ret mnm R h0 B0 ws Q x T' h B k n → Go x (T'.setTop (mkF x.m pc' Ls (.int 1 :: st)))) : Go x (T.setTop (mkF x.m pc Ls (.ref a :: st))) := by
  obtain ⟨S, vm0, k0, locs, X, eT, hS, hk, hZ, hown, r⟩ := X
  obtain ⟨hd, rfl⟩ := hd
  obtain ⟨T', X', e', stp⟩ := instY X S.1 hZ hown w eT F (g := mkF x.m pc Ls (.ref a :: st)) rfl rfl (S.2.1 ▸ hd)
  exact (K' T' ⟨S, vm0, k0, locs, X', e', hS, hk, hZ, hown, r⟩).from stp
theorem g_instNo (X : Wk nw l Z EL own bytes maxL ret mnm R h0 B0 ws Q x T h B k n) {K C : String} {idx : Nat} (hd : Dc bytes pc (.instanceof idx) 3 pc') (w : (Cond.classLink own idx K).before a0 Z = true) {a : Addr} (E : Exa Z h a C) (F : ∃ c t, Z.vm.findClass C = some c ∧ Z.vm.findClass K = some t ∧ Z.vm.assignable c t = false)
    (K' : ∀ T', Wk nw l Z EL own bytes maxL ret mnm R h0 B0 ws Q x T' h B k n → Go x (T'.setTop (mkF x.m pc' Ls (.int 0 :: st)))) : Go x (T.setTop (mkF x.m pc Ls (.ref a :: st))) := by
  obtain ⟨S, vm0, k0, locs, X, eT, hS, hk, hZ, hown, r⟩ := X
  obtain ⟨hd, rfl⟩ := hd
  obtain ⟨T', X', e', stp⟩ := instNo X S.1 hZ hown w eT E F (g := mkF x.m pc Ls (.ref a :: st)) rfl rfl (S.2.1 ▸ hd)
  exact (K' T' ⟨S, vm0, k0, locs, X', e', hS, hk, hZ, hown, r⟩).from stp
theorem g_instNull (X : Wk nw l Z EL own bytes maxL ret mnm R h0 B0 ws Q x T h B k n) {idx : Nat} (hd : Dc bytes pc (.instanceof idx) 3 pc') (G : Go x (T.setTop (mkF x.m pc' Ls (.int 0 :: st)))) : Go x (T.setTop (mkF x.m pc Ls (.null :: st))) := by
  obtain ⟨S, vm0, k0, locs, X, eT, hS, hk, hZ, hown, r⟩ := X
  obtain ⟨hd, rfl⟩ := hd
  exact G.from fun t q => X.instanceofNull S.1 (g := mkF x.m pc Ls (.null :: st)) rfl rfl (S.2.1 ▸ hd) t q
theorem k_slice (vs : List Value) (d : Value) (sp nn : Nat) (h : sp + nn ≤ vs.length) : ((List.range nn).map fun i => vs.getD (sp + i) d) = (vs.drop sp).take nn := by
  refine List.ext_getElem (by simp; omega) fun i h1 h2 => ?_
  simp at h1
  simp [List.getD, List.getElem?_eq_getElem (show sp + i < vs.length by omega)]
theorem g_arraycopy (X : Wk nw l Z EL own bytes maxL ret mnm R h0 B0 ws Q x T h B k n) {idx : Nat} {y : MethodName} {ty : FieldType} {a b : Addr} {vs vd : List Value} (hd : Dc bytes pc (.invokestatic idx) 3 pc') (hy : y = Jvm.Stand.acN) (w1 : (Cond.methodLink own idx y).before a0 Z = true) (w2 : (Cond.native y).before a0 Z = true) (w3 : (Cond.static y).before a0 Z = true) (w4 : (Cond.initialized "java/lang/System").before a0 Z = true)
    (A : Ay Z h a ty vs) (D : Ay Z h b ty vd) (hp : refKind ty = false) (sp dp nn : Nat) (h4 : sp + nn ≤ vs.length) (h5 : dp + nn ≤ vd.length) {j1 j2 j3 : Int32} (e1 : j1 = Int32.ofNat sp) (e2 : j2 = Int32.ofNat dp) (e3 : j3 = Int32.ofNat nn) (hsz : Ls.size = maxL) (hB : ¬ B b) (hz : Z.heap.size ≤ b) (hw : b ∈ ws ∨ h0.size ≤ b)
    (W : Nat) (hW : (st.map fun v => v.category).sum ≤ W) (hf : 1 ≤ R.frames) (hl : W + (nativeFrameWords "java/lang/System" "arraycopy" 5 + 11) ≤ R.locals)
    (K : ∀ T' h', Wk nw l Z EL own bytes maxL ret mnm R h0 B0 ws Q x T' h' B k n → Keep h h' [b] → Ay Z h' b ty (vd.take dp ++ (vs.drop sp).take nn ++ vd.drop (dp + nn)) → Go x (T'.setTop (mkF x.m pc' Ls st))) : Go x (T.setTop (mkF x.m pc Ls (.int j3 :: .int j2 :: .ref b :: .int j1 :: .ref a :: st))) := by
  subst hy e1 e2 e3
  obtain ⟨S, vm0, k0, locs, X, eT, hS, hk, hZ, hown, hI, hFr, hK, hM, hN⟩ := X
  obtain ⟨hd, rfl⟩ := hd
  have la := A.len
  have lb := D.len
  obtain ⟨ka, A⟩ := A.arv (.int 0)
  obtain ⟨kb, D⟩ := D.arv (.int 0)
  obtain ⟨s1, s2⟩ := i32_nat (show sp < 2 ^ 31 by omega)
  obtain ⟨d1, d2⟩ := i32_nat (show dp < 2 ^ 31 by omega)
  obtain ⟨n1, n2⟩ := i32_nat (show nn < 2 ^ 31 by omega)
  have va : (vs.length.toInt32).toNatClampNeg = vs.length := (i32_nat la).1
  have vb : (vd.length.toInt32).toNatClampNeg = vd.length := (i32_nat lb).1
  obtain ⟨T', h', L, X', e', hL, K', D', stp⟩ := cpA X S.1 hZ hown w1 w2 w3 w4 eT A D (us := (List.range nn).map fun i => vs.getD (sp + i) (.int 0)) (Or.inl ⟨rfl, hp⟩) s2 d2 n2 (by rw [s1, n1, va]; exact h4) (by rw [d1, n1, vb]; exact h5) (by rw [s1, n1]) (by rw [d1, n1]; exact h5) hFr hz (g := mkF x.m pc Ls (.int (Int32.ofNat nn) :: .int (Int32.ofNat dp) :: .ref b :: .int (Int32.ofNat sp) :: .ref a :: st)) rfl (by rw [S.2.2.1]; exact hsz) rfl (S.2.1 ▸ hd) hf (W := W) (by show 2 * 0 + _ ≤ _; omega) hl
  rw [d1, n1, k_slice vs _ sp nn h4] at D'
  refine (K T' h' ⟨S, vm0, k0, L, X', e', hS, Nat.le_trans hk K'.1, hZ, hown, hI.keep K' (fun y q => by cases List.mem_singleton.mp q; exact ⟨hB, hz⟩), hL, hK.trans K' (fun y q => by cases List.mem_singleton.mp q; exact hw), hM, hN⟩ K' (Ay.of_arv D' ?_)).from stp
  rw [vb]; simp; omega
end Calls
/-! own kit, part 5: numbers and Strings -/
theorem k_inc (i : Nat) : Int32.ofNat i + Int32.ofInt 1 = Int32.ofNat (i + 1) := (inc_ofNat i).symm
theorem k_ofNat {i : Nat} (h : i < 2 ^ 31) : (Int32.ofNat i).toInt = i := Int32.toInt_ofNat_small h
theorem k_lt {i j : Nat} (h : i < j) (hj : j < 2 ^ 31) : Int32.ofNat i < Int32.ofNat j := by
  rw [Int32.lt_iff_toInt_lt, k_ofNat (by omega), k_ofNat hj]; omega
theorem k_nlt {i j : Nat} (h : j ≤ i) (hi : i < 2 ^ 31) : ¬ Int32.ofNat i < Int32.ofNat j := by
  rw [Int32.lt_iff_toInt_lt, k_ofNat hi, k_ofNat (by omega)]; omega
theorem k_eqn {i j : Nat} (hi : i < 2 ^ 31) (hj : j < 2 ^ 31) : Int32.ofNat i = Int32.ofNat j ↔ i = j := by
  rw [← Int32.toInt_inj, k_ofNat hi, k_ofNat hj]; omega
theorem k_sub {i j : Nat} (h : j ≤ i) : Int32.ofNat i - Int32.ofNat j = Int32.ofNat (i - j) := by
  have e : i = (i - j) + j := by omega
  rw [e, Int32.ofNat_add]
  simp
/-- the low byte, signed -/
def lo8 (c : Int32) : Int32 := c.toInt8.toInt32
theorem nar_b8 (c : Int32) : RoadKit.nar .byte (lo8 c) = lo8 c := by simp [RoadKit.nar, lo8]
theorem fit_b8 (c : Int32) : fits .byte (.int (lo8 c)) = true := fits_nar_byte c
/-- a String: its coder, its bytes; all of it lies under N -/
def Str (Z : State) (h : Heap) (N : Nat) (a : Addr) (cd : Int32) (bs : List Int32) : Prop :=
  ∃ t : Addr, @LT.lt Nat _ a N ∧ @LT.lt Nat _ t N ∧ Exa Z h a "java/lang/String" ∧ Fld Z h a "java/lang/String" "coder" "B" (.int cd) ∧ Fld Z h a "java/lang/String" "value" "[B" (.ref t) ∧ Ay Z h t .byte (bs.map Value.int)
theorem Str.keep {Z : State} {h h' : Heap} {N : Nat} {a : Addr} {cd : Int32} {bs : List Int32} {ws : List Addr} (S : Str Z h N a cd bs) (K : Keep h h' ws) (q : ∀ z ∈ ws, N ≤ z) : Str Z h' N a cd bs := by
  obtain ⟨t, l1, l2, e, f, g, r⟩ := S
  have n1 : a ∉ ws := fun z => absurd l1 (Nat.not_lt.mpr (q a z))
  have n2 : t ∉ ws := fun z => absurd l2 (Nat.not_lt.mpr (q t z))
  exact ⟨t, l1, l2, e.keep K, f.keep K n1, g.keep K n1, r.keep K n2⟩
theorem Ay.ne {Z : State} {a0 : Array Value} {h : Heap} {a t : Addr} {C : String} {n : Nat} {ty : FieldType} {vs : List Value} (E : Exa Z h a C) (w : (Cond.instantiable C n).before a0 Z = true) (A : Ay Z h t ty vs) : a ≠ t := by
  obtain ⟨c, A, -⟩ := A
  exact ne_arr E w A
theorem Str.keepX {Z : State} {h h' : Heap} {N : Nat} {a z : Addr} {cd : Int32} {bs : List Int32} {C : String} {n : Nat} {a0 : Array Value} (S : Str Z h N a cd bs) (K : Keep h h' [z]) (E : Exa Z h z C) (w : (Cond.instantiable C n).before a0 Z = true) (hn : "java/lang/String" ≠ C) : Str Z h' N a cd bs := by
  obtain ⟨t, l1, l2, e, f, g, r⟩ := S
  have n1 : a ∉ [z] := ninS (ne_exa e E hn) nin0
  have n2 : t ∉ [z] := ninS (Ne.symm (Ay.ne E w r)) nin0
  exact ⟨t, l1, l2, e.keep K, f.keep K n1, g.keep K n1, r.keep K n2⟩
theorem Str.ext {Z : State} {h h' : Heap} {N : Nat} {a : Addr} {cd : Int32} {bs : List Int32} (S : Str Z h N a cd bs) (E : Ext h h') : Str Z h' N a cd bs := S.keep ((Keep.refl h []).ext E) (fun _ q => nomatch q)
theorem Str.mono {Z : State} {h : Heap} {N N' : Nat} {a : Addr} {cd : Int32} {bs : List Int32} (S : Str Z h N a cd bs) (q : N ≤ N') : Str Z h N' a cd bs := by
  obtain ⟨t, l1, l2, r⟩ := S; exact ⟨t, Nat.lt_of_lt_of_le l1 q, Nat.lt_of_lt_of_le l2 q, r⟩
theorem Str.exa {Z : State} {h : Heap} {N : Nat} {a : Addr} {cd : Int32} {bs : List Int32} (S : Str Z h N a cd bs) : Exa Z h a "java/lang/String" := by obtain ⟨t, l1, l2, e, r⟩ := S; exact e
theorem Str.lt {Z : State} {h : Heap} {N : Nat} {a : Addr} {cd : Int32} {bs : List Int32} (S : Str Z h N a cd bs) : @LT.lt Nat _ a N := by obtain ⟨t, l1, r⟩ := S; exact l1
theorem Str.len {Z : State} {h : Heap} {N : Nat} {a : Addr} {cd : Int32} {bs : List Int32} (S : Str Z h N a cd bs) : bs.length < 2 ^ 31 := by obtain ⟨t, l1, l2, e, f, g, A⟩ := S; simpa using A.len
theorem k_fill (cs : List Int32) (f : Int32 → Int32) (i : Nat) (hi : i < cs.length) :
    (((cs.take i).map (fun c => Value.int (f c)) ++ List.replicate (cs.length - i) (Value.int 0)).set i (.int (f cs[i]))) = (cs.take (i + 1)).map (fun c => Value.int (f c)) ++ List.replicate (cs.length - (i + 1)) (Value.int 0) := by
  have e1 : ((cs.take i).map (fun c => Value.int (f c))).length = i := by simp; omega
  have e2 : cs.length - i = (cs.length - (i + 1)) + 1 := by omega
  rw [e2, List.replicate_succ, List.take_succ_eq_append_getElem hi, List.map_append]
  generalize (cs.take i).map (fun c => Value.int (f c)) = P at e1
  rw [List.set_append_right _ _ (by omega)]
  simp [e1]
/-- a String that is read -/
def StrV (Z : State) (h : Heap) (a : Addr) (cd : Int32) (bs : List Int32) : Prop :=
  ∃ t, Exa Z h a "java/lang/String" ∧ Fld Z h a "java/lang/String" "coder" "B" (.int cd) ∧ Fld Z h a "java/lang/String" "value" "[B" (.ref t) ∧ Ay Z h t .byte (bs.map Value.int)
theorem StrV.op {Z : State} {h : Heap} {a : Addr} {cd : Int32} {bs : List Int32} (S : StrV Z h a cd bs) : ∃ t, Exa Z h a "java/lang/String" ∧ Fld Z h a "java/lang/String" "coder" "B" (.int cd) ∧ Fld Z h a "java/lang/String" "value" "[B" (.ref t) ∧ Ay Z h t .byte (bs.map Value.int) := S
theorem Str.v {Z : State} {h : Heap} {N : Nat} {a : Addr} {cd : Int32} {bs : List Int32} (S : Str Z h N a cd bs) : StrV Z h a cd bs := by obtain ⟨t, -, -, r⟩ := S; exact ⟨t, r⟩
theorem Fld.uniq {Z : State} {h : Heap} {a : Addr} {C n d : String} {v w : Value} (F : Fld Z h a C n d v) (G : Fld Z h a C n d w) : v = w := by
  rcases Classical.em (v = w) with q | q
  · exact q
  · exact absurd rfl (F.ne G q)
theorem Ay.uniq {Z : State} {h : Heap} {a : Addr} {ty ty' : FieldType} {vs us : List Value} (F : Ay Z h a ty vs) (G : Ay Z h a ty' us) : vs = us := by
  obtain ⟨c, A, e, -⟩ := F
  obtain ⟨c', A', e', -⟩ := G
  cases A.1.symm.trans A'.1
  exact e.symm.trans e'
theorem StrV.uniq {Z : State} {h : Heap} {a : Addr} {cd cd' : Int32} {bs bs' : List Int32} (S : StrV Z h a cd bs) (S' : StrV Z h a cd' bs') : bs = bs' := by
  obtain ⟨t, -, -, f, A⟩ := S
  obtain ⟨t', -, -, f', A'⟩ := S'
  cases Value.ref.inj (Fld.uniq f f')
  have := A.uniq A'
  exact (List.map_inj_right (fun a b q => Value.int.inj q)).mp this
theorem StrV.len {Z : State} {h : Heap} {a : Addr} {cd : Int32} {bs : List Int32} (S : StrV Z h a cd bs) : bs.length < 2 ^ 31 := by obtain ⟨t, -, -, -, A⟩ := S; simpa using A.len
theorem k_shr0 (x : Int32) : x >>> ((0 : Int32) &&& 31) = x := by
  have : ((0 : Int32) &&& 31) = 0 := by decide
  rw [this]
  apply Int32.toBitVec_inj.mp
  simp
/-- an object of the class C (below Object alone) is none of K -/
theorem k_not {Z : State} {a0 : Array Value} {C K O : String} {n : Nat} (w : (Cond.superclass C O).before a0 Z = true) (wo : (Cond.noSuperclass O).before a0 Z = true) (wk : (Cond.instantiable K n).before a0 Z = true) (h1 : C ≠ K) (h2 : O ≠ K) : ∃ c t, Z.vm.findClass C = some c ∧ Z.vm.findClass K = some t ∧ Z.vm.assignable c t = false := by
  obtain ⟨t, k', g0, g2, g5, hi⟩ : ∃ t k', Z.vm.findClass K = some t ∧ Z.vm.classes[t]? = some k' ∧ k'.kind = .ordinary ∧ k'.isInterface = false := by
    obtain ⟨t, k', g1, g2, g3, g4, -⟩ := Cond.instantiable_spec wk
    exact ⟨t, k', g1, g2, g3, by simpa using (Bool.or_eq_false_iff.mp g4).1⟩
  obtain ⟨co, ko, o1, o2, o3, -, -⟩ := Cond.noSuperclass_spec wo
  obtain ⟨c, h0⟩ := found_sup w
  obtain ⟨p, k, kp, q1, q2, q3, q4, q5, -, q7⟩ := Cond.superclass_spec h0 w
  cases o1.symm.trans q1
  have ne := ids_ne h0 g0 h1
  have neo := ids_ne o1 g0 h2
  have no : ∀ fuel, Z.vm.isSubclassAux fuel co t = false := fun fuel => by
    cases fuel with
    | zero => rfl
    | succ f => simp [Vm.isSubclassAux, neo, o2, o3]
  have nc : ∀ fuel, Z.vm.isSubclassAux fuel c t = false := fun fuel => by
    cases fuel with
    | zero => rfl
    | succ f => simp [Vm.isSubclassAux, ne, q2, q4, no]
  refine ⟨c, t, h0, g0, ?_⟩
  show Z.vm.assignableAux (255 + 1) c t = false
  simp [Vm.assignableAux, ne, q2, g2, q5, g5, hi, Vm.isSubclass, nc]
theorem k_nn {i : Nat} (h : i < 2 ^ 31) : ¬ Int32.ofNat i < 0 := (i32_nat h).2
theorem k_ne0 {i : Nat} (h : 0 < i) (hi : i < 2 ^ 31) : ¬ Int32.ofNat i = 0 := fun q => by
  have := (k_eqn hi (by decide)).mp (show Int32.ofNat i = Int32.ofNat 0 from q)
  omega
theorem k_add (i j : Nat) : Int32.ofNat i + Int32.ofNat j = Int32.ofNat (i + j) := (Int32.ofNat_add i j).symm
theorem k_min {i j : Nat} (h : j ≤ i) (hi : i < 2 ^ 31) : (if Int32.ofNat j < Int32.ofNat i then Int32.ofNat j else Int32.ofNat i) = Int32.ofNat j := by
  rcases Nat.lt_or_ge j i with q | q
  · rw [if_pos (k_lt q hi)]
  · have : i = j := by omega
    subst this
    split <;> rfl
abbrev HW (Z : State) (a0 : Array Value) : Prop := ∀ d ∈ tables_1, d.before a0 Z = true
theorem w0 {Z : State} {a0 : Array Value} (hw : HW Z a0) : ((Jvm.Cond.methodLink "com/example/keen_queue/keenqueue/io/QueueKeysJobHashesPinLaw" (12 : Nat) ({ cls := "java/lang/String", name := "valueOf", desc := "(C)Ljava/lang/String;" } : Jvm.MethodName))).before a0 Z = true := hw _ (List.mem_of_getElem? (i := 0) rfl)
theorem w1 {Z : State} {a0 : Array Value} (hw : HW Z a0) : ((Jvm.Cond.static ({ cls := "java/lang/String", name := "valueOf", desc := "(C)Ljava/lang/String;" } : Jvm.MethodName))).before a0 Z = true := hw _ (List.mem_of_getElem? (i := 1) rfl)
theorem w2 {Z : State} {a0 : Array Value} (hw : HW Z a0) : ((Jvm.Cond.initialized "java/lang/String")).before a0 Z = true := hw _ (List.mem_of_getElem? (i := 2) rfl)
theorem w3 {Z : State} {a0 : Array Value} (hw : HW Z a0) : ((Jvm.Cond.code ({ cls := "java/lang/String", name := "valueOf", desc := "(C)Ljava/lang/String;" } : Jvm.MethodName) jdk_42_method_139_code (1 : Nat) (Option.some (Jvm.ClassFile.FieldType.object "java/lang/String")))).before a0 Z = true := hw _ (List.mem_of_getElem? (i := 3) rfl)
theorem w4 {Z : State} {a0 : Array Value} (hw : HW Z a0) : ((Jvm.Cond.fieldLink "java/lang/String" (38 : Nat) "java/lang/String" "COMPACT_STRINGS" "Z")).before a0 Z = true := hw _ (List.mem_of_getElem? (i := 4) rfl)
theorem w5 {Z : State} {a0 : Array Value} (hw : HW Z a0) : ((Jvm.Cond.methodLink "java/lang/String" (1015 : Nat) ({ cls := "java/lang/StringLatin1", name := "canEncode", desc := "(C)Z" } : Jvm.MethodName))).before a0 Z = true := hw _ (List.mem_of_getElem? (i := 5) rfl)
theorem w6 {Z : State} {a0 : Array Value} (hw : HW Z a0) : ((Jvm.Cond.static ({ cls := "java/lang/StringLatin1", name := "canEncode", desc := "(C)Z" } : Jvm.MethodName))).before a0 Z = true := hw _ (List.mem_of_getElem? (i := 6) rfl)
theorem w7 {Z : State} {a0 : Array Value} (hw : HW Z a0) : ((Jvm.Cond.initialized "java/lang/StringLatin1")).before a0 Z = true := hw _ (List.mem_of_getElem? (i := 7) rfl)
theorem w8 {Z : State} {a0 : Array Value} (hw : HW Z a0) : ((Jvm.Cond.code ({ cls := "java/lang/StringLatin1", name := "canEncode", desc := "(C)Z" } : Jvm.MethodName) jdk_43_method_3_code (1 : Nat) (Option.some Jvm.ClassFile.FieldType.boolean))).before a0 Z = true := hw _ (List.mem_of_getElem? (i := 8) rfl)
theorem w9 {Z : State} {a0 : Array Value} (hw : HW Z a0) : ((Jvm.Cond.classLink "java/lang/String" (10 : Nat) "java/lang/String")).before a0 Z = true := hw _ (List.mem_of_getElem? (i := 9) rfl)
theorem w10 {Z : State} {a0 : Array Value} (hw : HW Z a0) : ((Jvm.Cond.instantiable "java/lang/String" (4 : Nat))).before a0 Z = true := hw _ (List.mem_of_getElem? (i := 10) rfl)
theorem w11 {Z : State} {a0 : Array Value} (hw : HW Z a0) : ((Jvm.Cond.methodLink "java/lang/String" (1018 : Nat) ({ cls := "java/lang/StringLatin1", name := "toBytes", desc := "(C)[B" } : Jvm.MethodName))).before a0 Z = true := hw _ (List.mem_of_getElem? (i := 11) rfl)
theorem w12 {Z : State} {a0 : Array Value} (hw : HW Z a0) : ((Jvm.Cond.static ({ cls := "java/lang/StringLatin1", name := "toBytes", desc := "(C)[B" } : Jvm.MethodName))).before a0 Z = true := hw _ (List.mem_of_getElem? (i := 12) rfl)
theorem w13 {Z : State} {a0 : Array Value} (hw : HW Z a0) : ((Jvm.Cond.code ({ cls := "java/lang/StringLatin1", name := "toBytes", desc := "(C)[B" } : Jvm.MethodName) jdk_43_method_46_code (1 : Nat) (Option.some (Jvm.ClassFile.FieldType.array Jvm.ClassFile.FieldType.byte)))).before a0 Z = true := hw _ (List.mem_of_getElem? (i := 13) rfl)
theorem w14 {Z : State} {a0 : Array Value} (hw : HW Z a0) : ((Jvm.Cond.arrayClass Jvm.ClassFile.FieldType.byte)).before a0 Z = true := hw _ (List.mem_of_getElem? (i := 14) rfl)
theorem w15 {Z : State} {a0 : Array Value} (hw : HW Z a0) : ((Jvm.Cond.methodLink "java/lang/String" (209 : Nat) ({ cls := "java/lang/String", name := "<init>", desc := "([BB)V" } : Jvm.MethodName))).before a0 Z = true := hw _ (List.mem_of_getElem? (i := 15) rfl)
theorem w16 {Z : State} {a0 : Array Value} (hw : HW Z a0) : ((Jvm.Cond.instanceMethod ({ cls := "java/lang/String", name := "<init>", desc := "([BB)V" } : Jvm.MethodName))).before a0 Z = true := hw _ (List.mem_of_getElem? (i := 16) rfl)
theorem w18 {Z : State} {a0 : Array Value} (hw : HW Z a0) : ((Jvm.Cond.code ({ cls := "java/lang/String", name := "<init>", desc := "([BB)V" } : Jvm.MethodName) jdk_42_method_151_code (3 : Nat) (Option.none : Option Jvm.ClassFile.FieldType))).before a0 Z = true := hw _ (List.mem_of_getElem? (i := 18) rfl)
theorem w19 {Z : State} {a0 : Array Value} (hw : HW Z a0) : ((Jvm.Cond.methodLink "java/lang/String" (1 : Nat) ({ cls := "java/lang/Object", name := "<init>", desc := "()V" } : Jvm.MethodName))).before a0 Z = true := hw _ (List.mem_of_getElem? (i := 19) rfl)
theorem w20 {Z : State} {a0 : Array Value} (hw : HW Z a0) : ((Jvm.Cond.instanceMethod ({ cls := "java/lang/Object", name := "<init>", desc := "()V" } : Jvm.MethodName))).before a0 Z = true := hw _ (List.mem_of_getElem? (i := 20) rfl)
theorem w21 {Z : State} {a0 : Array Value} (hw : HW Z a0) : ((Jvm.Cond.code ({ cls := "java/lang/Object", name := "<init>", desc := "()V" } : Jvm.MethodName) object_method_1_code (1 : Nat) (Option.none : Option Jvm.ClassFile.FieldType))).before a0 Z = true := hw _ (List.mem_of_getElem? (i := 21) rfl)
theorem w22 {Z : State} {a0 : Array Value} (hw : HW Z a0) : ((Jvm.Cond.fieldLink "java/lang/String" (9 : Nat) "java/lang/String" "value" "[B")).before a0 Z = true := hw _ (List.mem_of_getElem? (i := 22) rfl)
theorem w23 {Z : State} {a0 : Array Value} (hw : HW Z a0) : ((Jvm.Cond.laysFinal "java/lang/String" "java/lang/String" "value" "[B")).before a0 Z = true := hw _ (List.mem_of_getElem? (i := 23) rfl)
theorem w24 {Z : State} {a0 : Array Value} (hw : HW Z a0) : ((Jvm.Cond.fieldLink "java/lang/String" (15 : Nat) "java/lang/String" "coder" "B")).before a0 Z = true := hw _ (List.mem_of_getElem? (i := 24) rfl)
theorem w25 {Z : State} {a0 : Array Value} (hw : HW Z a0) : ((Jvm.Cond.laysFinal "java/lang/String" "java/lang/String" "coder" "B")).before a0 Z = true := hw _ (List.mem_of_getElem? (i := 25) rfl)
theorem w26 {Z : State} {a0 : Array Value} (hw : HW Z a0) : ((Jvm.Cond.arrayClass Jvm.ClassFile.FieldType.int)).before a0 Z = true := hw _ (List.mem_of_getElem? (i := 26) rfl)
theorem w27 {Z : State} {a0 : Array Value} (hw : HW Z a0) : ((Jvm.Cond.methodLink "com/example/keen_queue/keenqueue/io/QueueKeysJobHashesPinLaw" (16 : Nat) ({ cls := "com/example/keen_queue/keenqueue/io/QueueKeysJobHashesPinLaw", name := "put", desc := "([IIC)I" } : Jvm.MethodName))).before a0 Z = true := hw _ (List.mem_of_getElem? (i := 27) rfl)
theorem w28 {Z : State} {a0 : Array Value} (hw : HW Z a0) : ((Jvm.Cond.static ({ cls := "com/example/keen_queue/keenqueue/io/QueueKeysJobHashesPinLaw", name := "put", desc := "([IIC)I" } : Jvm.MethodName))).before a0 Z = true := hw _ (List.mem_of_getElem? (i := 28) rfl)
theorem w29 {Z : State} {a0 : Array Value} (hw : HW Z a0) : ((Jvm.Cond.initialized "com/example/keen_queue/keenqueue/io/QueueKeysJobHashesPinLaw")).before a0 Z = true := hw _ (List.mem_of_getElem? (i := 29) rfl)
theorem w30 {Z : State} {a0 : Array Value} (hw : HW Z a0) : ((Jvm.Cond.code ({ cls := "com/example/keen_queue/keenqueue/io/QueueKeysJobHashesPinLaw", name := "put", desc := "([IIC)I" } : Jvm.MethodName) method_3_code (3 : Nat) (Option.some Jvm.ClassFile.FieldType.int))).before a0 Z = true := hw _ (List.mem_of_getElem? (i := 30) rfl)
theorem w31 {Z : State} {a0 : Array Value} (hw : HW Z a0) : ((Jvm.Cond.classLink "com/example/keen_queue/keenqueue/io/QueueKeysJobHashesPinLaw" (22 : Nat) "com/example/keen_queue/keenqueue/io/QueueKeys")).before a0 Z = true := hw _ (List.mem_of_getElem? (i := 31) rfl)
theorem w32 {Z : State} {a0 : Array Value} (hw : HW Z a0) : ((Jvm.Cond.instantiable "com/example/keen_queue/keenqueue/io/QueueKeys" (1 : Nat))).before a0 Z = true := hw _ (List.mem_of_getElem? (i := 32) rfl)
theorem w33 {Z : State} {a0 : Array Value} (hw : HW Z a0) : ((Jvm.Cond.initialized "com/example/keen_queue/keenqueue/io/QueueKeys")).before a0 Z = true := hw _ (List.mem_of_getElem? (i := 33) rfl)
theorem w34 {Z : State} {a0 : Array Value} (hw : HW Z a0) : ((Jvm.Cond.methodLink "com/example/keen_queue/keenqueue/io/QueueKeysJobHashesPinLaw" (24 : Nat) ({ cls := "com/example/keen_queue/keenqueue/io/QueueKeys", name := "<init>", desc := "(Ljava/lang/String;)V" } : Jvm.MethodName))).before a0 Z = true := hw _ (List.mem_of_getElem? (i := 34) rfl)
theorem w35 {Z : State} {a0 : Array Value} (hw : HW Z a0) : ((Jvm.Cond.instanceMethod ({ cls := "com/example/keen_queue/keenqueue/io/QueueKeys", name := "<init>", desc := "(Ljava/lang/String;)V" } : Jvm.MethodName))).before a0 Z = true := hw _ (List.mem_of_getElem? (i := 35) rfl)
theorem w36 {Z : State} {a0 : Array Value} (hw : HW Z a0) : ((Jvm.Cond.code ({ cls := "com/example/keen_queue/keenqueue/io/QueueKeys", name := "<init>", desc := "(Ljava/lang/String;)V" } : Jvm.MethodName) prog_1_method_1_code (2 : Nat) (Option.none : Option Jvm.ClassFile.FieldType))).before a0 Z = true := hw _ (List.mem_of_getElem? (i := 36) rfl)
theorem w37 {Z : State} {a0 : Array Value} (hw : HW Z a0) : ((Jvm.Cond.methodLink "com/example/keen_queue/keenqueue/io/QueueKeys" (1 : Nat) ({ cls := "java/lang/Object", name := "<init>", desc := "()V" } : Jvm.MethodName))).before a0 Z = true := hw _ (List.mem_of_getElem? (i := 37) rfl)
theorem w38 {Z : State} {a0 : Array Value} (hw : HW Z a0) : ((Jvm.Cond.stringLink "com/example/keen_queue/keenqueue/io/QueueKeys" (7 : Nat) "queueName")).before a0 Z = true := hw _ (List.mem_of_getElem? (i := 38) rfl)
theorem w39 {Z : State} {a0 : Array Value} (hw : HW Z a0) : ((Jvm.Cond.soleField "java/lang/String" "value")).before a0 Z = true := hw _ (List.mem_of_getElem? (i := 39) rfl)
theorem w40 {Z : State} {a0 : Array Value} (hw : HW Z a0) : ((Jvm.Cond.soleField "java/lang/String" "coder")).before a0 Z = true := hw _ (List.mem_of_getElem? (i := 40) rfl)
theorem w41 {Z : State} {a0 : Array Value} (hw : HW Z a0) : ((Jvm.Cond.methodLink "com/example/keen_queue/keenqueue/io/QueueKeys" (9 : Nat) ({ cls := "java/util/Objects", name := "requireNonNull", desc := "(Ljava/lang/Object;Ljava/lang/String;)Ljava/lang/Object;" } : Jvm.MethodName))).before a0 Z = true := hw _ (List.mem_of_getElem? (i := 41) rfl)
theorem w42 {Z : State} {a0 : Array Value} (hw : HW Z a0) : ((Jvm.Cond.static ({ cls := "java/util/Objects", name := "requireNonNull", desc := "(Ljava/lang/Object;Ljava/lang/String;)Ljava/lang/Object;" } : Jvm.MethodName))).before a0 Z = true := hw _ (List.mem_of_getElem? (i := 42) rfl)
theorem w43 {Z : State} {a0 : Array Value} (hw : HW Z a0) : ((Jvm.Cond.initialized "java/util/Objects")).before a0 Z = true := hw _ (List.mem_of_getElem? (i := 43) rfl)
theorem w44 {Z : State} {a0 : Array Value} (hw : HW Z a0) : ((Jvm.Cond.code ({ cls := "java/util/Objects", name := "requireNonNull", desc := "(Ljava/lang/Object;Ljava/lang/String;)Ljava/lang/Object;" } : Jvm.MethodName) jdk_31_method_11_code (2 : Nat) (Option.some (Jvm.ClassFile.FieldType.object "java/lang/Object")))).before a0 Z = true := hw _ (List.mem_of_getElem? (i := 44) rfl)
theorem w45 {Z : State} {a0 : Array Value} (hw : HW Z a0) : ((Jvm.Cond.methodLink "com/example/keen_queue/keenqueue/io/QueueKeys" (15 : Nat) ({ cls := "java/lang/String", name := "isEmpty", desc := "()Z" } : Jvm.MethodName))).before a0 Z = true := hw _ (List.mem_of_getElem? (i := 45) rfl)
theorem w46 {Z : State} {a0 : Array Value} (hw : HW Z a0) : ((Jvm.Cond.declares ({ cls := "java/lang/String", name := "isEmpty", desc := "()Z" } : Jvm.MethodName))).before a0 Z = true := hw _ (List.mem_of_getElem? (i := 46) rfl)
theorem w47 {Z : State} {a0 : Array Value} (hw : HW Z a0) : ((Jvm.Cond.instanceMethod ({ cls := "java/lang/String", name := "isEmpty", desc := "()Z" } : Jvm.MethodName))).before a0 Z = true := hw _ (List.mem_of_getElem? (i := 47) rfl)
theorem w48 {Z : State} {a0 : Array Value} (hw : HW Z a0) : ((Jvm.Cond.selects "java/lang/String" ({ cls := "java/lang/String", name := "isEmpty", desc := "()Z" } : Jvm.MethodName) ({ cls := "java/lang/String", name := "isEmpty", desc := "()Z" } : Jvm.MethodName))).before a0 Z = true := hw _ (List.mem_of_getElem? (i := 48) rfl)
theorem w49 {Z : State} {a0 : Array Value} (hw : HW Z a0) : ((Jvm.Cond.code ({ cls := "java/lang/String", name := "isEmpty", desc := "()Z" } : Jvm.MethodName) jdk_42_method_55_code (1 : Nat) (Option.some Jvm.ClassFile.FieldType.boolean))).before a0 Z = true := hw _ (List.mem_of_getElem? (i := 49) rfl)
theorem w50 {Z : State} {a0 : Array Value} (hw : HW Z a0) : ((Jvm.Cond.methodLink "com/example/keen_queue/keenqueue/io/QueueKeys" (28 : Nat) ({ cls := "java/lang/String", name := "indexOf", desc := "(I)I" } : Jvm.MethodName))).before a0 Z = true := hw _ (List.mem_of_getElem? (i := 50) rfl)
theorem w51 {Z : State} {a0 : Array Value} (hw : HW Z a0) : ((Jvm.Cond.declares ({ cls := "java/lang/String", name := "indexOf", desc := "(I)I" } : Jvm.MethodName))).before a0 Z = true := hw _ (List.mem_of_getElem? (i := 51) rfl)
theorem w52 {Z : State} {a0 : Array Value} (hw : HW Z a0) : ((Jvm.Cond.instanceMethod ({ cls := "java/lang/String", name := "indexOf", desc := "(I)I" } : Jvm.MethodName))).before a0 Z = true := hw _ (List.mem_of_getElem? (i := 52) rfl)
theorem w53 {Z : State} {a0 : Array Value} (hw : HW Z a0) : ((Jvm.Cond.selects "java/lang/String" ({ cls := "java/lang/String", name := "indexOf", desc := "(I)I" } : Jvm.MethodName) ({ cls := "java/lang/String", name := "indexOf", desc := "(I)I" } : Jvm.MethodName))).before a0 Z = true := hw _ (List.mem_of_getElem? (i := 53) rfl)
theorem w54 {Z : State} {a0 : Array Value} (hw : HW Z a0) : ((Jvm.Cond.code ({ cls := "java/lang/String", name := "indexOf", desc := "(I)I" } : Jvm.MethodName) jdk_42_method_79_code (2 : Nat) (Option.some Jvm.ClassFile.FieldType.int))).before a0 Z = true := hw _ (List.mem_of_getElem? (i := 54) rfl)
theorem w55 {Z : State} {a0 : Array Value} (hw : HW Z a0) : ((Jvm.Cond.methodLink "java/lang/String" (633 : Nat) ({ cls := "java/lang/String", name := "indexOf", desc := "(II)I" } : Jvm.MethodName))).before a0 Z = true := hw _ (List.mem_of_getElem? (i := 55) rfl)
theorem w56 {Z : State} {a0 : Array Value} (hw : HW Z a0) : ((Jvm.Cond.declares ({ cls := "java/lang/String", name := "indexOf", desc := "(II)I" } : Jvm.MethodName))).before a0 Z = true := hw _ (List.mem_of_getElem? (i := 56) rfl)
theorem w57 {Z : State} {a0 : Array Value} (hw : HW Z a0) : ((Jvm.Cond.instanceMethod ({ cls := "java/lang/String", name := "indexOf", desc := "(II)I" } : Jvm.MethodName))).before a0 Z = true := hw _ (List.mem_of_getElem? (i := 57) rfl)
theorem w58 {Z : State} {a0 : Array Value} (hw : HW Z a0) : ((Jvm.Cond.selects "java/lang/String" ({ cls := "java/lang/String", name := "indexOf", desc := "(II)I" } : Jvm.MethodName) ({ cls := "java/lang/String", name := "indexOf", desc := "(II)I" } : Jvm.MethodName))).before a0 Z = true := hw _ (List.mem_of_getElem? (i := 58) rfl)
theorem w59 {Z : State} {a0 : Array Value} (hw : HW Z a0) : ((Jvm.Cond.code ({ cls := "java/lang/String", name := "indexOf", desc := "(II)I" } : Jvm.MethodName) jdk_42_method_80_code (3 : Nat) (Option.some Jvm.ClassFile.FieldType.int))).before a0 Z = true := hw _ (List.mem_of_getElem? (i := 59) rfl)
theorem w60 {Z : State} {a0 : Array Value} (hw : HW Z a0) : ((Jvm.Cond.methodLink "java/lang/String" (492 : Nat) ({ cls := "java/lang/String", name := "isLatin1", desc := "()Z" } : Jvm.MethodName))).before a0 Z = true := hw _ (List.mem_of_getElem? (i := 60) rfl)
theorem w61 {Z : State} {a0 : Array Value} (hw : HW Z a0) : ((Jvm.Cond.declares ({ cls := "java/lang/String", name := "isLatin1", desc := "()Z" } : Jvm.MethodName))).before a0 Z = true := hw _ (List.mem_of_getElem? (i := 61) rfl)
theorem w62 {Z : State} {a0 : Array Value} (hw : HW Z a0) : ((Jvm.Cond.instanceMethod ({ cls := "java/lang/String", name := "isLatin1", desc := "()Z" } : Jvm.MethodName))).before a0 Z = true := hw _ (List.mem_of_getElem? (i := 62) rfl)
theorem w63 {Z : State} {a0 : Array Value} (hw : HW Z a0) : ((Jvm.Cond.selects "java/lang/String" ({ cls := "java/lang/String", name := "isLatin1", desc := "()Z" } : Jvm.MethodName) ({ cls := "java/lang/String", name := "isLatin1", desc := "()Z" } : Jvm.MethodName))).before a0 Z = true := hw _ (List.mem_of_getElem? (i := 63) rfl)
theorem w64 {Z : State} {a0 : Array Value} (hw : HW Z a0) : ((Jvm.Cond.code ({ cls := "java/lang/String", name := "isLatin1", desc := "()Z" } : Jvm.MethodName) jdk_42_method_154_code (1 : Nat) (Option.some Jvm.ClassFile.FieldType.boolean))).before a0 Z = true := hw _ (List.mem_of_getElem? (i := 64) rfl)
theorem w65 {Z : State} {a0 : Array Value} (hw : HW Z a0) : ((Jvm.Cond.methodLink "java/lang/String" (505 : Nat) ({ cls := "java/lang/String", name := "length", desc := "()I" } : Jvm.MethodName))).before a0 Z = true := hw _ (List.mem_of_getElem? (i := 65) rfl)
theorem w66 {Z : State} {a0 : Array Value} (hw : HW Z a0) : ((Jvm.Cond.declares ({ cls := "java/lang/String", name := "length", desc := "()I" } : Jvm.MethodName))).before a0 Z = true := hw _ (List.mem_of_getElem? (i := 66) rfl)
theorem w67 {Z : State} {a0 : Array Value} (hw : HW Z a0) : ((Jvm.Cond.instanceMethod ({ cls := "java/lang/String", name := "length", desc := "()I" } : Jvm.MethodName))).before a0 Z = true := hw _ (List.mem_of_getElem? (i := 67) rfl)
theorem w68 {Z : State} {a0 : Array Value} (hw : HW Z a0) : ((Jvm.Cond.selects "java/lang/String" ({ cls := "java/lang/String", name := "length", desc := "()I" } : Jvm.MethodName) ({ cls := "java/lang/String", name := "length", desc := "()I" } : Jvm.MethodName))).before a0 Z = true := hw _ (List.mem_of_getElem? (i := 68) rfl)
theorem w69 {Z : State} {a0 : Array Value} (hw : HW Z a0) : ((Jvm.Cond.code ({ cls := "java/lang/String", name := "length", desc := "()I" } : Jvm.MethodName) jdk_42_method_54_code (1 : Nat) (Option.some Jvm.ClassFile.FieldType.int))).before a0 Z = true := hw _ (List.mem_of_getElem? (i := 69) rfl)
theorem w70 {Z : State} {a0 : Array Value} (hw : HW Z a0) : ((Jvm.Cond.methodLink "java/lang/String" (335 : Nat) ({ cls := "java/lang/String", name := "coder", desc := "()B" } : Jvm.MethodName))).before a0 Z = true := hw _ (List.mem_of_getElem? (i := 70) rfl)
theorem w71 {Z : State} {a0 : Array Value} (hw : HW Z a0) : ((Jvm.Cond.declares ({ cls := "java/lang/String", name := "coder", desc := "()B" } : Jvm.MethodName))).before a0 Z = true := hw _ (List.mem_of_getElem? (i := 71) rfl)
theorem w72 {Z : State} {a0 : Array Value} (hw : HW Z a0) : ((Jvm.Cond.instanceMethod ({ cls := "java/lang/String", name := "coder", desc := "()B" } : Jvm.MethodName))).before a0 Z = true := hw _ (List.mem_of_getElem? (i := 72) rfl)
theorem w73 {Z : State} {a0 : Array Value} (hw : HW Z a0) : ((Jvm.Cond.selects "java/lang/String" ({ cls := "java/lang/String", name := "coder", desc := "()B" } : Jvm.MethodName) ({ cls := "java/lang/String", name := "coder", desc := "()B" } : Jvm.MethodName))).before a0 Z = true := hw _ (List.mem_of_getElem? (i := 73) rfl)
theorem w74 {Z : State} {a0 : Array Value} (hw : HW Z a0) : ((Jvm.Cond.code ({ cls := "java/lang/String", name := "coder", desc := "()B" } : Jvm.MethodName) jdk_42_method_152_code (1 : Nat) (Option.some Jvm.ClassFile.FieldType.byte))).before a0 Z = true := hw _ (List.mem_of_getElem? (i := 74) rfl)
theorem w75 {Z : State} {a0 : Array Value} (hw : HW Z a0) : ((Jvm.Cond.methodLink "java/lang/String" (637 : Nat) ({ cls := "java/lang/StringLatin1", name := "indexOf", desc := "([BIII)I" } : Jvm.MethodName))).before a0 Z = true := hw _ (List.mem_of_getElem? (i := 75) rfl)
theorem w76 {Z : State} {a0 : Array Value} (hw : HW Z a0) : ((Jvm.Cond.static ({ cls := "java/lang/StringLatin1", name := "indexOf", desc := "([BIII)I" } : Jvm.MethodName))).before a0 Z = true := hw _ (List.mem_of_getElem? (i := 76) rfl)
theorem w77 {Z : State} {a0 : Array Value} (hw : HW Z a0) : ((Jvm.Cond.code ({ cls := "java/lang/StringLatin1", name := "indexOf", desc := "([BIII)I" } : Jvm.MethodName) jdk_43_method_22_code (4 : Nat) (Option.some Jvm.ClassFile.FieldType.int))).before a0 Z = true := hw _ (List.mem_of_getElem? (i := 77) rfl)
theorem w78 {Z : State} {a0 : Array Value} (hw : HW Z a0) : ((Jvm.Cond.methodLink "java/lang/StringLatin1" (88 : Nat) ({ cls := "java/lang/StringLatin1", name := "canEncode", desc := "(I)Z" } : Jvm.MethodName))).before a0 Z = true := hw _ (List.mem_of_getElem? (i := 78) rfl)
theorem w79 {Z : State} {a0 : Array Value} (hw : HW Z a0) : ((Jvm.Cond.static ({ cls := "java/lang/StringLatin1", name := "canEncode", desc := "(I)Z" } : Jvm.MethodName))).before a0 Z = true := hw _ (List.mem_of_getElem? (i := 79) rfl)
theorem w80 {Z : State} {a0 : Array Value} (hw : HW Z a0) : ((Jvm.Cond.code ({ cls := "java/lang/StringLatin1", name := "canEncode", desc := "(I)Z" } : Jvm.MethodName) jdk_43_method_4_code (1 : Nat) (Option.some Jvm.ClassFile.FieldType.boolean))).before a0 Z = true := hw _ (List.mem_of_getElem? (i := 80) rfl)
theorem w81 {Z : State} {a0 : Array Value} (hw : HW Z a0) : ((Jvm.Cond.methodLink "java/lang/StringLatin1" (92 : Nat) ({ cls := "java/lang/Math", name := "max", desc := "(II)I" } : Jvm.MethodName))).before a0 Z = true := hw _ (List.mem_of_getElem? (i := 81) rfl)
theorem w82 {Z : State} {a0 : Array Value} (hw : HW Z a0) : ((Jvm.Cond.static ({ cls := "java/lang/Math", name := "max", desc := "(II)I" } : Jvm.MethodName))).before a0 Z = true := hw _ (List.mem_of_getElem? (i := 82) rfl)
theorem w83 {Z : State} {a0 : Array Value} (hw : HW Z a0) : ((Jvm.Cond.initialized "java/lang/Math")).before a0 Z = true := hw _ (List.mem_of_getElem? (i := 83) rfl)
theorem w84 {Z : State} {a0 : Array Value} (hw : HW Z a0) : ((Jvm.Cond.code ({ cls := "java/lang/Math", name := "max", desc := "(II)I" } : Jvm.MethodName) jdk_29_method_65_code (2 : Nat) (Option.some Jvm.ClassFile.FieldType.int))).before a0 Z = true := hw _ (List.mem_of_getElem? (i := 84) rfl)
theorem w85 {Z : State} {a0 : Array Value} (hw : HW Z a0) : ((Jvm.Cond.methodLink "java/lang/StringLatin1" (38 : Nat) ({ cls := "java/lang/Math", name := "min", desc := "(II)I" } : Jvm.MethodName))).before a0 Z = true := hw _ (List.mem_of_getElem? (i := 85) rfl)
theorem w86 {Z : State} {a0 : Array Value} (hw : HW Z a0) : ((Jvm.Cond.static ({ cls := "java/lang/Math", name := "min", desc := "(II)I" } : Jvm.MethodName))).before a0 Z = true := hw _ (List.mem_of_getElem? (i := 86) rfl)
theorem w87 {Z : State} {a0 : Array Value} (hw : HW Z a0) : ((Jvm.Cond.code ({ cls := "java/lang/Math", name := "min", desc := "(II)I" } : Jvm.MethodName) jdk_29_method_69_code (2 : Nat) (Option.some Jvm.ClassFile.FieldType.int))).before a0 Z = true := hw _ (List.mem_of_getElem? (i := 87) rfl)
theorem w88 {Z : State} {a0 : Array Value} (hw : HW Z a0) : ((Jvm.Cond.methodLink "java/lang/StringLatin1" (95 : Nat) ({ cls := "java/lang/StringLatin1", name := "indexOfChar", desc := "([BIII)I" } : Jvm.MethodName))).before a0 Z = true := hw _ (List.mem_of_getElem? (i := 88) rfl)
theorem w89 {Z : State} {a0 : Array Value} (hw : HW Z a0) : ((Jvm.Cond.static ({ cls := "java/lang/StringLatin1", name := "indexOfChar", desc := "([BIII)I" } : Jvm.MethodName))).before a0 Z = true := hw _ (List.mem_of_getElem? (i := 89) rfl)
theorem w90 {Z : State} {a0 : Array Value} (hw : HW Z a0) : ((Jvm.Cond.code ({ cls := "java/lang/StringLatin1", name := "indexOfChar", desc := "([BIII)I" } : Jvm.MethodName) jdk_43_method_23_code (6 : Nat) (Option.some Jvm.ClassFile.FieldType.int))).before a0 Z = true := hw _ (List.mem_of_getElem? (i := 90) rfl)
theorem w91 {Z : State} {a0 : Array Value} (hw : HW Z a0) : ((Jvm.Cond.classLink "com/example/keen_queue/keenqueue/io/QueueKeys" (38 : Nat) "java/lang/StringBuilder")).before a0 Z = true := hw _ (List.mem_of_getElem? (i := 91) rfl)
theorem w92 {Z : State} {a0 : Array Value} (hw : HW Z a0) : ((Jvm.Cond.instantiable "java/lang/StringBuilder" (4 : Nat))).before a0 Z = true := hw _ (List.mem_of_getElem? (i := 92) rfl)
theorem w93 {Z : State} {a0 : Array Value} (hw : HW Z a0) : ((Jvm.Cond.initialized "java/lang/StringBuilder")).before a0 Z = true := hw _ (List.mem_of_getElem? (i := 93) rfl)
theorem w94 {Z : State} {a0 : Array Value} (hw : HW Z a0) : ((Jvm.Cond.methodLink "com/example/keen_queue/keenqueue/io/QueueKeys" (40 : Nat) ({ cls := "java/lang/StringBuilder", name := "<init>", desc := "()V" } : Jvm.MethodName))).before a0 Z = true := hw _ (List.mem_of_getElem? (i := 94) rfl)
theorem w95 {Z : State} {a0 : Array Value} (hw : HW Z a0) : ((Jvm.Cond.instanceMethod ({ cls := "java/lang/StringBuilder", name := "<init>", desc := "()V" } : Jvm.MethodName))).before a0 Z = true := hw _ (List.mem_of_getElem? (i := 95) rfl)
theorem w96 {Z : State} {a0 : Array Value} (hw : HW Z a0) : ((Jvm.Cond.code ({ cls := "java/lang/StringBuilder", name := "<init>", desc := "()V" } : Jvm.MethodName) jdk_67_method_1_code (1 : Nat) (Option.none : Option Jvm.ClassFile.FieldType))).before a0 Z = true := hw _ (List.mem_of_getElem? (i := 96) rfl)
theorem w97 {Z : State} {a0 : Array Value} (hw : HW Z a0) : ((Jvm.Cond.methodLink "java/lang/StringBuilder" (1 : Nat) ({ cls := "java/lang/AbstractStringBuilder", name := "<init>", desc := "(I)V" } : Jvm.MethodName))).before a0 Z = true := hw _ (List.mem_of_getElem? (i := 97) rfl)
theorem w98 {Z : State} {a0 : Array Value} (hw : HW Z a0) : ((Jvm.Cond.instanceMethod ({ cls := "java/lang/AbstractStringBuilder", name := "<init>", desc := "(I)V" } : Jvm.MethodName))).before a0 Z = true := hw _ (List.mem_of_getElem? (i := 98) rfl)
theorem w101 {Z : State} {a0 : Array Value} (hw : HW Z a0) : ((Jvm.Cond.initialized "java/lang/AbstractStringBuilder")).before a0 Z = true := hw _ (List.mem_of_getElem? (i := 101) rfl)
theorem w102 {Z : State} {a0 : Array Value} (hw : HW Z a0) : ((Jvm.Cond.code ({ cls := "java/lang/AbstractStringBuilder", name := "<init>", desc := "(I)V" } : Jvm.MethodName) jdk_68_method_2_code (2 : Nat) (Option.none : Option Jvm.ClassFile.FieldType))).before a0 Z = true := hw _ (List.mem_of_getElem? (i := 102) rfl)
theorem w103 {Z : State} {a0 : Array Value} (hw : HW Z a0) : ((Jvm.Cond.methodLink "java/lang/AbstractStringBuilder" (3 : Nat) ({ cls := "java/lang/Object", name := "<init>", desc := "()V" } : Jvm.MethodName))).before a0 Z = true := hw _ (List.mem_of_getElem? (i := 103) rfl)
theorem w104 {Z : State} {a0 : Array Value} (hw : HW Z a0) : ((Jvm.Cond.fieldLink "java/lang/AbstractStringBuilder" (18 : Nat) "java/lang/String" "COMPACT_STRINGS" "Z")).before a0 Z = true := hw _ (List.mem_of_getElem? (i := 104) rfl)
theorem w105 {Z : State} {a0 : Array Value} (hw : HW Z a0) : ((Jvm.Cond.fieldLink "java/lang/AbstractStringBuilder" (15 : Nat) "java/lang/AbstractStringBuilder" "value" "[B")).before a0 Z = true := hw _ (List.mem_of_getElem? (i := 105) rfl)
theorem w106 {Z : State} {a0 : Array Value} (hw : HW Z a0) : ((Jvm.Cond.lays "java/lang/StringBuilder" "java/lang/AbstractStringBuilder" "value" "[B")).before a0 Z = true := hw _ (List.mem_of_getElem? (i := 106) rfl)
theorem w107 {Z : State} {a0 : Array Value} (hw : HW Z a0) : ((Jvm.Cond.fieldLink "java/lang/AbstractStringBuilder" (22 : Nat) "java/lang/AbstractStringBuilder" "coder" "B")).before a0 Z = true := hw _ (List.mem_of_getElem? (i := 107) rfl)
theorem w108 {Z : State} {a0 : Array Value} (hw : HW Z a0) : ((Jvm.Cond.lays "java/lang/StringBuilder" "java/lang/AbstractStringBuilder" "coder" "B")).before a0 Z = true := hw _ (List.mem_of_getElem? (i := 108) rfl)
theorem w109 {Z : State} {a0 : Array Value} (hw : HW Z a0) : ((Jvm.Cond.stringLink "com/example/keen_queue/keenqueue/io/QueueKeys" (41 : Nat) "kq:{")).before a0 Z = true := hw _ (List.mem_of_getElem? (i := 109) rfl)
theorem w110 {Z : State} {a0 : Array Value} (hw : HW Z a0) : ((Jvm.Cond.methodLink "com/example/keen_queue/keenqueue/io/QueueKeys" (43 : Nat) ({ cls := "java/lang/StringBuilder", name := "append", desc := "(Ljava/lang/String;)Ljava/lang/StringBuilder;" } : Jvm.MethodName))).before a0 Z = true := hw _ (List.mem_of_getElem? (i := 110) rfl)
theorem w111 {Z : State} {a0 : Array Value} (hw : HW Z a0) : ((Jvm.Cond.declares ({ cls := "java/lang/StringBuilder", name := "append", desc := "(Ljava/lang/String;)Ljava/lang/StringBuilder;" } : Jvm.MethodName))).before a0 Z = true := hw _ (List.mem_of_getElem? (i := 111) rfl)
theorem w112 {Z : State} {a0 : Array Value} (hw : HW Z a0) : ((Jvm.Cond.instanceMethod ({ cls := "java/lang/StringBuilder", name := "append", desc := "(Ljava/lang/String;)Ljava/lang/StringBuilder;" } : Jvm.MethodName))).before a0 Z = true := hw _ (List.mem_of_getElem? (i := 112) rfl)
theorem w113 {Z : State} {a0 : Array Value} (hw : HW Z a0) : ((Jvm.Cond.selects "java/lang/StringBuilder" ({ cls := "java/lang/StringBuilder", name := "append", desc := "(Ljava/lang/String;)Ljava/lang/StringBuilder;" } : Jvm.MethodName) ({ cls := "java/lang/StringBuilder", name := "append", desc := "(Ljava/lang/String;)Ljava/lang/StringBuilder;" } : Jvm.MethodName))).before a0 Z = true := hw _ (List.mem_of_getElem? (i := 113) rfl)
theorem w114 {Z : State} {a0 : Array Value} (hw : HW Z a0) : ((Jvm.Cond.code ({ cls := "java/lang/StringBuilder", name := "append", desc := "(Ljava/lang/String;)Ljava/lang/StringBuilder;" } : Jvm.MethodName) jdk_67_method_7_code (2 : Nat) (Option.some (Jvm.ClassFile.FieldType.object "java/lang/StringBuilder")))).before a0 Z = true := hw _ (List.mem_of_getElem? (i := 114) rfl)
theorem w115 {Z : State} {a0 : Array Value} (hw : HW Z a0) : ((Jvm.Cond.methodLink "java/lang/StringBuilder" (29 : Nat) ({ cls := "java/lang/AbstractStringBuilder", name := "append", desc := "(Ljava/lang/String;)Ljava/lang/AbstractStringBuilder;" } : Jvm.MethodName))).before a0 Z = true := hw _ (List.mem_of_getElem? (i := 115) rfl)
theorem w116 {Z : State} {a0 : Array Value} (hw : HW Z a0) : ((Jvm.Cond.instanceMethod ({ cls := "java/lang/AbstractStringBuilder", name := "append", desc := "(Ljava/lang/String;)Ljava/lang/AbstractStringBuilder;" } : Jvm.MethodName))).before a0 Z = true := hw _ (List.mem_of_getElem? (i := 116) rfl)
theorem w117 {Z : State} {a0 : Array Value} (hw : HW Z a0) : ((Jvm.Cond.superclass "java/lang/StringBuilder" "java/lang/AbstractStringBuilder")).before a0 Z = true := hw _ (List.mem_of_getElem? (i := 117) rfl)
theorem w119 {Z : State} {a0 : Array Value} (hw : HW Z a0) : ((Jvm.Cond.code ({ cls := "java/lang/AbstractStringBuilder", name := "append", desc := "(Ljava/lang/String;)Ljava/lang/AbstractStringBuilder;" } : Jvm.MethodName) jdk_68_method_22_code (3 : Nat) (Option.some (Jvm.ClassFile.FieldType.object "java/lang/AbstractStringBuilder")))).before a0 Z = true := hw _ (List.mem_of_getElem? (i := 119) rfl)
theorem w120 {Z : State} {a0 : Array Value} (hw : HW Z a0) : ((Jvm.Cond.methodLink "java/lang/AbstractStringBuilder" (32 : Nat) ({ cls := "java/lang/String", name := "length", desc := "()I" } : Jvm.MethodName))).before a0 Z = true := hw _ (List.mem_of_getElem? (i := 120) rfl)
theorem w121 {Z : State} {a0 : Array Value} (hw : HW Z a0) : ((Jvm.Cond.fieldLink "java/lang/AbstractStringBuilder" (79 : Nat) "java/lang/AbstractStringBuilder" "count" "I")).before a0 Z = true := hw _ (List.mem_of_getElem? (i := 121) rfl)
theorem w122 {Z : State} {a0 : Array Value} (hw : HW Z a0) : ((Jvm.Cond.lays "java/lang/StringBuilder" "java/lang/AbstractStringBuilder" "count" "I")).before a0 Z = true := hw _ (List.mem_of_getElem? (i := 122) rfl)
theorem w123 {Z : State} {a0 : Array Value} (hw : HW Z a0) : ((Jvm.Cond.methodLink "java/lang/AbstractStringBuilder" (100 : Nat) ({ cls := "java/lang/AbstractStringBuilder", name := "ensureCapacityInternal", desc := "(I)V" } : Jvm.MethodName))).before a0 Z = true := hw _ (List.mem_of_getElem? (i := 123) rfl)
theorem w124 {Z : State} {a0 : Array Value} (hw : HW Z a0) : ((Jvm.Cond.instanceMethod ({ cls := "java/lang/AbstractStringBuilder", name := "ensureCapacityInternal", desc := "(I)V" } : Jvm.MethodName))).before a0 Z = true := hw _ (List.mem_of_getElem? (i := 124) rfl)
theorem w126 {Z : State} {a0 : Array Value} (hw : HW Z a0) : ((Jvm.Cond.selects "java/lang/StringBuilder" ({ cls := "java/lang/AbstractStringBuilder", name := "ensureCapacityInternal", desc := "(I)V" } : Jvm.MethodName) ({ cls := "java/lang/AbstractStringBuilder", name := "ensureCapacityInternal", desc := "(I)V" } : Jvm.MethodName))).before a0 Z = true := hw _ (List.mem_of_getElem? (i := 126) rfl)
theorem w127 {Z : State} {a0 : Array Value} (hw : HW Z a0) : ((Jvm.Cond.code ({ cls := "java/lang/AbstractStringBuilder", name := "ensureCapacityInternal", desc := "(I)V" } : Jvm.MethodName) jdk_68_method_9_code (3 : Nat) (Option.none : Option Jvm.ClassFile.FieldType))).before a0 Z = true := hw _ (List.mem_of_getElem? (i := 127) rfl)
theorem w128 {Z : State} {a0 : Array Value} (hw : HW Z a0) : ((Jvm.Cond.methodLink "java/lang/AbstractStringBuilder" (208 : Nat) ({ cls := "java/lang/AbstractStringBuilder", name := "putStringAt", desc := "(ILjava/lang/String;)V" } : Jvm.MethodName))).before a0 Z = true := hw _ (List.mem_of_getElem? (i := 128) rfl)
theorem w129 {Z : State} {a0 : Array Value} (hw : HW Z a0) : ((Jvm.Cond.instanceMethod ({ cls := "java/lang/AbstractStringBuilder", name := "putStringAt", desc := "(ILjava/lang/String;)V" } : Jvm.MethodName))).before a0 Z = true := hw _ (List.mem_of_getElem? (i := 129) rfl)
theorem w131 {Z : State} {a0 : Array Value} (hw : HW Z a0) : ((Jvm.Cond.selects "java/lang/StringBuilder" ({ cls := "java/lang/AbstractStringBuilder", name := "putStringAt", desc := "(ILjava/lang/String;)V" } : Jvm.MethodName) ({ cls := "java/lang/AbstractStringBuilder", name := "putStringAt", desc := "(ILjava/lang/String;)V" } : Jvm.MethodName))).before a0 Z = true := hw _ (List.mem_of_getElem? (i := 131) rfl)
theorem w132 {Z : State} {a0 : Array Value} (hw : HW Z a0) : ((Jvm.Cond.code ({ cls := "java/lang/AbstractStringBuilder", name := "putStringAt", desc := "(ILjava/lang/String;)V" } : Jvm.MethodName) jdk_68_method_73_code (3 : Nat) (Option.none : Option Jvm.ClassFile.FieldType))).before a0 Z = true := hw _ (List.mem_of_getElem? (i := 132) rfl)
theorem w133 {Z : State} {a0 : Array Value} (hw : HW Z a0) : ((Jvm.Cond.methodLink "java/lang/AbstractStringBuilder" (397 : Nat) ({ cls := "java/lang/AbstractStringBuilder", name := "inflateIfNeededFor", desc := "(Ljava/lang/String;)V" } : Jvm.MethodName))).before a0 Z = true := hw _ (List.mem_of_getElem? (i := 133) rfl)
theorem w134 {Z : State} {a0 : Array Value} (hw : HW Z a0) : ((Jvm.Cond.instanceMethod ({ cls := "java/lang/AbstractStringBuilder", name := "inflateIfNeededFor", desc := "(Ljava/lang/String;)V" } : Jvm.MethodName))).before a0 Z = true := hw _ (List.mem_of_getElem? (i := 134) rfl)
theorem w136 {Z : State} {a0 : Array Value} (hw : HW Z a0) : ((Jvm.Cond.selects "java/lang/StringBuilder" ({ cls := "java/lang/AbstractStringBuilder", name := "inflateIfNeededFor", desc := "(Ljava/lang/String;)V" } : Jvm.MethodName) ({ cls := "java/lang/AbstractStringBuilder", name := "inflateIfNeededFor", desc := "(Ljava/lang/String;)V" } : Jvm.MethodName))).before a0 Z = true := hw _ (List.mem_of_getElem? (i := 136) rfl)
theorem w137 {Z : State} {a0 : Array Value} (hw : HW Z a0) : ((Jvm.Cond.code ({ cls := "java/lang/AbstractStringBuilder", name := "inflateIfNeededFor", desc := "(Ljava/lang/String;)V" } : Jvm.MethodName) jdk_68_method_71_code (2 : Nat) (Option.none : Option Jvm.ClassFile.FieldType))).before a0 Z = true := hw _ (List.mem_of_getElem? (i := 137) rfl)
theorem w138 {Z : State} {a0 : Array Value} (hw : HW Z a0) : ((Jvm.Cond.methodLink "java/lang/AbstractStringBuilder" (40 : Nat) ({ cls := "java/lang/String", name := "coder", desc := "()B" } : Jvm.MethodName))).before a0 Z = true := hw _ (List.mem_of_getElem? (i := 138) rfl)
theorem w139 {Z : State} {a0 : Array Value} (hw : HW Z a0) : ((Jvm.Cond.methodLink "java/lang/AbstractStringBuilder" (399 : Nat) ({ cls := "java/lang/String", name := "getBytes", desc := "([BIB)V" } : Jvm.MethodName))).before a0 Z = true := hw _ (List.mem_of_getElem? (i := 139) rfl)
theorem w140 {Z : State} {a0 : Array Value} (hw : HW Z a0) : ((Jvm.Cond.declares ({ cls := "java/lang/String", name := "getBytes", desc := "([BIB)V" } : Jvm.MethodName))).before a0 Z = true := hw _ (List.mem_of_getElem? (i := 140) rfl)
theorem w141 {Z : State} {a0 : Array Value} (hw : HW Z a0) : ((Jvm.Cond.instanceMethod ({ cls := "java/lang/String", name := "getBytes", desc := "([BIB)V" } : Jvm.MethodName))).before a0 Z = true := hw _ (List.mem_of_getElem? (i := 141) rfl)
theorem w142 {Z : State} {a0 : Array Value} (hw : HW Z a0) : ((Jvm.Cond.selects "java/lang/String" ({ cls := "java/lang/String", name := "getBytes", desc := "([BIB)V" } : Jvm.MethodName) ({ cls := "java/lang/String", name := "getBytes", desc := "([BIB)V" } : Jvm.MethodName))).before a0 Z = true := hw _ (List.mem_of_getElem? (i := 142) rfl)
theorem w143 {Z : State} {a0 : Array Value} (hw : HW Z a0) : ((Jvm.Cond.code ({ cls := "java/lang/String", name := "getBytes", desc := "([BIB)V" } : Jvm.MethodName) jdk_42_method_147_code (4 : Nat) (Option.none : Option Jvm.ClassFile.FieldType))).before a0 Z = true := hw _ (List.mem_of_getElem? (i := 143) rfl)
theorem w144 {Z : State} {a0 : Array Value} (hw : HW Z a0) : ((Jvm.Cond.methodLink "java/lang/String" (212 : Nat) ({ cls := "java/lang/System", name := "arraycopy", desc := "(Ljava/lang/Object;ILjava/lang/Object;II)V" } : Jvm.MethodName))).before a0 Z = true := hw _ (List.mem_of_getElem? (i := 144) rfl)
theorem w145 {Z : State} {a0 : Array Value} (hw : HW Z a0) : ((Jvm.Cond.static ({ cls := "java/lang/System", name := "arraycopy", desc := "(Ljava/lang/Object;ILjava/lang/Object;II)V" } : Jvm.MethodName))).before a0 Z = true := hw _ (List.mem_of_getElem? (i := 145) rfl)
theorem w146 {Z : State} {a0 : Array Value} (hw : HW Z a0) : ((Jvm.Cond.initialized "java/lang/System")).before a0 Z = true := hw _ (List.mem_of_getElem? (i := 146) rfl)
theorem w147 {Z : State} {a0 : Array Value} (hw : HW Z a0) : ((Jvm.Cond.native ({ cls := "java/lang/System", name := "arraycopy", desc := "(Ljava/lang/Object;ILjava/lang/Object;II)V" } : Jvm.MethodName))).before a0 Z = true := hw _ (List.mem_of_getElem? (i := 147) rfl)
theorem w148 {Z : State} {a0 : Array Value} (hw : HW Z a0) : ((Jvm.Cond.stringLink "com/example/keen_queue/keenqueue/io/QueueKeys" (47 : Nat) "}:")).before a0 Z = true := hw _ (List.mem_of_getElem? (i := 148) rfl)
theorem w149 {Z : State} {a0 : Array Value} (hw : HW Z a0) : ((Jvm.Cond.methodLink "com/example/keen_queue/keenqueue/io/QueueKeys" (49 : Nat) ({ cls := "java/lang/StringBuilder", name := "toString", desc := "()Ljava/lang/String;" } : Jvm.MethodName))).before a0 Z = true := hw _ (List.mem_of_getElem? (i := 149) rfl)
theorem w150 {Z : State} {a0 : Array Value} (hw : HW Z a0) : ((Jvm.Cond.declares ({ cls := "java/lang/StringBuilder", name := "toString", desc := "()Ljava/lang/String;" } : Jvm.MethodName))).before a0 Z = true := hw _ (List.mem_of_getElem? (i := 150) rfl)
theorem w151 {Z : State} {a0 : Array Value} (hw : HW Z a0) : ((Jvm.Cond.instanceMethod ({ cls := "java/lang/StringBuilder", name := "toString", desc := "()Ljava/lang/String;" } : Jvm.MethodName))).before a0 Z = true := hw _ (List.mem_of_getElem? (i := 151) rfl)
theorem w152 {Z : State} {a0 : Array Value} (hw : HW Z a0) : ((Jvm.Cond.selects "java/lang/StringBuilder" ({ cls := "java/lang/StringBuilder", name := "toString", desc := "()Ljava/lang/String;" } : Jvm.MethodName) ({ cls := "java/lang/StringBuilder", name := "toString", desc := "()Ljava/lang/String;" } : Jvm.MethodName))).before a0 Z = true := hw _ (List.mem_of_getElem? (i := 152) rfl)
theorem w153 {Z : State} {a0 : Array Value} (hw : HW Z a0) : ((Jvm.Cond.code ({ cls := "java/lang/StringBuilder", name := "toString", desc := "()Ljava/lang/String;" } : Jvm.MethodName) jdk_67_method_42_code (1 : Nat) (Option.some (Jvm.ClassFile.FieldType.object "java/lang/String")))).before a0 Z = true := hw _ (List.mem_of_getElem? (i := 153) rfl)
theorem w154 {Z : State} {a0 : Array Value} (hw : HW Z a0) : ((Jvm.Cond.classLink "java/lang/StringBuilder" (18 : Nat) "java/lang/String")).before a0 Z = true := hw _ (List.mem_of_getElem? (i := 154) rfl)
theorem w155 {Z : State} {a0 : Array Value} (hw : HW Z a0) : ((Jvm.Cond.methodLink "java/lang/StringBuilder" (137 : Nat) ({ cls := "java/lang/String", name := "<init>", desc := "(Ljava/lang/StringBuilder;)V" } : Jvm.MethodName))).before a0 Z = true := hw _ (List.mem_of_getElem? (i := 155) rfl)
theorem w156 {Z : State} {a0 : Array Value} (hw : HW Z a0) : ((Jvm.Cond.instanceMethod ({ cls := "java/lang/String", name := "<init>", desc := "(Ljava/lang/StringBuilder;)V" } : Jvm.MethodName))).before a0 Z = true := hw _ (List.mem_of_getElem? (i := 156) rfl)
theorem w157 {Z : State} {a0 : Array Value} (hw : HW Z a0) : ((Jvm.Cond.code ({ cls := "java/lang/String", name := "<init>", desc := "(Ljava/lang/StringBuilder;)V" } : Jvm.MethodName) jdk_42_method_53_code (2 : Nat) (Option.none : Option Jvm.ClassFile.FieldType))).before a0 Z = true := hw _ (List.mem_of_getElem? (i := 157) rfl)
theorem w158 {Z : State} {a0 : Array Value} (hw : HW Z a0) : ((Jvm.Cond.methodLink "java/lang/String" (489 : Nat) ({ cls := "java/lang/String", name := "<init>", desc := "(Ljava/lang/AbstractStringBuilder;Ljava/lang/Void;)V" } : Jvm.MethodName))).before a0 Z = true := hw _ (List.mem_of_getElem? (i := 158) rfl)
theorem w159 {Z : State} {a0 : Array Value} (hw : HW Z a0) : ((Jvm.Cond.instanceMethod ({ cls := "java/lang/String", name := "<init>", desc := "(Ljava/lang/AbstractStringBuilder;Ljava/lang/Void;)V" } : Jvm.MethodName))).before a0 Z = true := hw _ (List.mem_of_getElem? (i := 159) rfl)
theorem w160 {Z : State} {a0 : Array Value} (hw : HW Z a0) : ((Jvm.Cond.code ({ cls := "java/lang/String", name := "<init>", desc := "(Ljava/lang/AbstractStringBuilder;Ljava/lang/Void;)V" } : Jvm.MethodName) jdk_42_method_150_code (5 : Nat) (Option.none : Option Jvm.ClassFile.FieldType))).before a0 Z = true := hw _ (List.mem_of_getElem? (i := 160) rfl)
theorem w161 {Z : State} {a0 : Array Value} (hw : HW Z a0) : ((Jvm.Cond.methodLink "java/lang/String" (552 : Nat) ({ cls := "java/lang/AbstractStringBuilder", name := "getValue", desc := "()[B" } : Jvm.MethodName))).before a0 Z = true := hw _ (List.mem_of_getElem? (i := 161) rfl)
theorem w162 {Z : State} {a0 : Array Value} (hw : HW Z a0) : ((Jvm.Cond.declares ({ cls := "java/lang/AbstractStringBuilder", name := "getValue", desc := "()[B" } : Jvm.MethodName))).before a0 Z = true := hw _ (List.mem_of_getElem? (i := 162) rfl)
theorem w163 {Z : State} {a0 : Array Value} (hw : HW Z a0) : ((Jvm.Cond.instanceMethod ({ cls := "java/lang/AbstractStringBuilder", name := "getValue", desc := "()[B" } : Jvm.MethodName))).before a0 Z = true := hw _ (List.mem_of_getElem? (i := 163) rfl)
theorem w164 {Z : State} {a0 : Array Value} (hw : HW Z a0) : ((Jvm.Cond.selects "java/lang/StringBuilder" ({ cls := "java/lang/AbstractStringBuilder", name := "getValue", desc := "()[B" } : Jvm.MethodName) ({ cls := "java/lang/AbstractStringBuilder", name := "getValue", desc := "()[B" } : Jvm.MethodName))).before a0 Z = true := hw _ (List.mem_of_getElem? (i := 164) rfl)
theorem w165 {Z : State} {a0 : Array Value} (hw : HW Z a0) : ((Jvm.Cond.code ({ cls := "java/lang/AbstractStringBuilder", name := "getValue", desc := "()[B" } : Jvm.MethodName) jdk_68_method_64_code (1 : Nat) (Option.some (Jvm.ClassFile.FieldType.array Jvm.ClassFile.FieldType.byte)))).before a0 Z = true := hw _ (List.mem_of_getElem? (i := 165) rfl)
theorem w166 {Z : State} {a0 : Array Value} (hw : HW Z a0) : ((Jvm.Cond.methodLink "java/lang/String" (549 : Nat) ({ cls := "java/lang/AbstractStringBuilder", name := "length", desc := "()I" } : Jvm.MethodName))).before a0 Z = true := hw _ (List.mem_of_getElem? (i := 166) rfl)
theorem w167 {Z : State} {a0 : Array Value} (hw : HW Z a0) : ((Jvm.Cond.declares ({ cls := "java/lang/AbstractStringBuilder", name := "length", desc := "()I" } : Jvm.MethodName))).before a0 Z = true := hw _ (List.mem_of_getElem? (i := 167) rfl)
theorem w168 {Z : State} {a0 : Array Value} (hw : HW Z a0) : ((Jvm.Cond.instanceMethod ({ cls := "java/lang/AbstractStringBuilder", name := "length", desc := "()I" } : Jvm.MethodName))).before a0 Z = true := hw _ (List.mem_of_getElem? (i := 168) rfl)
theorem w169 {Z : State} {a0 : Array Value} (hw : HW Z a0) : ((Jvm.Cond.selects "java/lang/StringBuilder" ({ cls := "java/lang/AbstractStringBuilder", name := "length", desc := "()I" } : Jvm.MethodName) ({ cls := "java/lang/StringBuilder", name := "length", desc := "()I" } : Jvm.MethodName))).before a0 Z = true := hw _ (List.mem_of_getElem? (i := 169) rfl)
theorem w170 {Z : State} {a0 : Array Value} (hw : HW Z a0) : ((Jvm.Cond.instanceMethod ({ cls := "java/lang/StringBuilder", name := "length", desc := "()I" } : Jvm.MethodName))).before a0 Z = true := hw _ (List.mem_of_getElem? (i := 170) rfl)
theorem w171 {Z : State} {a0 : Array Value} (hw : HW Z a0) : ((Jvm.Cond.code ({ cls := "java/lang/StringBuilder", name := "length", desc := "()I" } : Jvm.MethodName) jdk_67_method_93_code (1 : Nat) (Option.some Jvm.ClassFile.FieldType.int))).before a0 Z = true := hw _ (List.mem_of_getElem? (i := 171) rfl)
theorem w172 {Z : State} {a0 : Array Value} (hw : HW Z a0) : ((Jvm.Cond.methodLink "java/lang/StringBuilder" (343 : Nat) ({ cls := "java/lang/AbstractStringBuilder", name := "length", desc := "()I" } : Jvm.MethodName))).before a0 Z = true := hw _ (List.mem_of_getElem? (i := 172) rfl)
theorem w173 {Z : State} {a0 : Array Value} (hw : HW Z a0) : ((Jvm.Cond.code ({ cls := "java/lang/AbstractStringBuilder", name := "length", desc := "()I" } : Jvm.MethodName) jdk_68_method_6_code (1 : Nat) (Option.some Jvm.ClassFile.FieldType.int))).before a0 Z = true := hw _ (List.mem_of_getElem? (i := 173) rfl)
theorem w174 {Z : State} {a0 : Array Value} (hw : HW Z a0) : ((Jvm.Cond.methodLink "java/lang/String" (1047 : Nat) ({ cls := "java/lang/AbstractStringBuilder", name := "isLatin1", desc := "()Z" } : Jvm.MethodName))).before a0 Z = true := hw _ (List.mem_of_getElem? (i := 174) rfl)
theorem w175 {Z : State} {a0 : Array Value} (hw : HW Z a0) : ((Jvm.Cond.declares ({ cls := "java/lang/AbstractStringBuilder", name := "isLatin1", desc := "()Z" } : Jvm.MethodName))).before a0 Z = true := hw _ (List.mem_of_getElem? (i := 175) rfl)
theorem w176 {Z : State} {a0 : Array Value} (hw : HW Z a0) : ((Jvm.Cond.instanceMethod ({ cls := "java/lang/AbstractStringBuilder", name := "isLatin1", desc := "()Z" } : Jvm.MethodName))).before a0 Z = true := hw _ (List.mem_of_getElem? (i := 176) rfl)
theorem w177 {Z : State} {a0 : Array Value} (hw : HW Z a0) : ((Jvm.Cond.selects "java/lang/StringBuilder" ({ cls := "java/lang/AbstractStringBuilder", name := "isLatin1", desc := "()Z" } : Jvm.MethodName) ({ cls := "java/lang/AbstractStringBuilder", name := "isLatin1", desc := "()Z" } : Jvm.MethodName))).before a0 Z = true := hw _ (List.mem_of_getElem? (i := 177) rfl)
theorem w178 {Z : State} {a0 : Array Value} (hw : HW Z a0) : ((Jvm.Cond.code ({ cls := "java/lang/AbstractStringBuilder", name := "isLatin1", desc := "()Z" } : Jvm.MethodName) jdk_68_method_68_code (1 : Nat) (Option.some Jvm.ClassFile.FieldType.boolean))).before a0 Z = true := hw _ (List.mem_of_getElem? (i := 178) rfl)
theorem w179 {Z : State} {a0 : Array Value} (hw : HW Z a0) : ((Jvm.Cond.methodLink "java/lang/String" (54 : Nat) ({ cls := "java/util/Arrays", name := "copyOfRange", desc := "([BII)[B" } : Jvm.MethodName))).before a0 Z = true := hw _ (List.mem_of_getElem? (i := 179) rfl)
theorem w180 {Z : State} {a0 : Array Value} (hw : HW Z a0) : ((Jvm.Cond.static ({ cls := "java/util/Arrays", name := "copyOfRange", desc := "([BII)[B" } : Jvm.MethodName))).before a0 Z = true := hw _ (List.mem_of_getElem? (i := 180) rfl)
theorem w181 {Z : State} {a0 : Array Value} (hw : HW Z a0) : ((Jvm.Cond.initialized "java/util/Arrays")).before a0 Z = true := hw _ (List.mem_of_getElem? (i := 181) rfl)
theorem w182 {Z : State} {a0 : Array Value} (hw : HW Z a0) : ((Jvm.Cond.code ({ cls := "java/util/Arrays", name := "copyOfRange", desc := "([BII)[B" } : Jvm.MethodName) jdk_65_method_132_code (3 : Nat) (Option.some (Jvm.ClassFile.FieldType.array Jvm.ClassFile.FieldType.byte)))).before a0 Z = true := hw _ (List.mem_of_getElem? (i := 182) rfl)
theorem w183 {Z : State} {a0 : Array Value} (hw : HW Z a0) : ((Jvm.Cond.methodLink "java/util/Arrays" (339 : Nat) ({ cls := "java/util/Arrays", name := "copyOfRangeByte", desc := "([BII)[B" } : Jvm.MethodName))).before a0 Z = true := hw _ (List.mem_of_getElem? (i := 183) rfl)
theorem w184 {Z : State} {a0 : Array Value} (hw : HW Z a0) : ((Jvm.Cond.static ({ cls := "java/util/Arrays", name := "copyOfRangeByte", desc := "([BII)[B" } : Jvm.MethodName))).before a0 Z = true := hw _ (List.mem_of_getElem? (i := 184) rfl)
theorem w185 {Z : State} {a0 : Array Value} (hw : HW Z a0) : ((Jvm.Cond.code ({ cls := "java/util/Arrays", name := "copyOfRangeByte", desc := "([BII)[B" } : Jvm.MethodName) jdk_65_method_133_code (5 : Nat) (Option.some (Jvm.ClassFile.FieldType.array Jvm.ClassFile.FieldType.byte)))).before a0 Z = true := hw _ (List.mem_of_getElem? (i := 185) rfl)
theorem w186 {Z : State} {a0 : Array Value} (hw : HW Z a0) : ((Jvm.Cond.methodLink "java/util/Arrays" (343 : Nat) ({ cls := "java/util/Arrays", name := "checkLength", desc := "(II)V" } : Jvm.MethodName))).before a0 Z = true := hw _ (List.mem_of_getElem? (i := 186) rfl)
theorem w187 {Z : State} {a0 : Array Value} (hw : HW Z a0) : ((Jvm.Cond.static ({ cls := "java/util/Arrays", name := "checkLength", desc := "(II)V" } : Jvm.MethodName))).before a0 Z = true := hw _ (List.mem_of_getElem? (i := 187) rfl)
theorem w188 {Z : State} {a0 : Array Value} (hw : HW Z a0) : ((Jvm.Cond.code ({ cls := "java/util/Arrays", name := "checkLength", desc := "(II)V" } : Jvm.MethodName) jdk_65_method_131_code (2 : Nat) (Option.none : Option Jvm.ClassFile.FieldType))).before a0 Z = true := hw _ (List.mem_of_getElem? (i := 188) rfl)
theorem w189 {Z : State} {a0 : Array Value} (hw : HW Z a0) : ((Jvm.Cond.methodLink "java/util/Arrays" (304 : Nat) ({ cls := "java/lang/Math", name := "min", desc := "(II)I" } : Jvm.MethodName))).before a0 Z = true := hw _ (List.mem_of_getElem? (i := 189) rfl)
theorem w190 {Z : State} {a0 : Array Value} (hw : HW Z a0) : ((Jvm.Cond.methodLink "java/util/Arrays" (150 : Nat) ({ cls := "java/lang/System", name := "arraycopy", desc := "(Ljava/lang/Object;ILjava/lang/Object;II)V" } : Jvm.MethodName))).before a0 Z = true := hw _ (List.mem_of_getElem? (i := 190) rfl)
theorem w191 {Z : State} {a0 : Array Value} (hw : HW Z a0) : ((Jvm.Cond.fieldLink "com/example/keen_queue/keenqueue/io/QueueKeys" (53 : Nat) "com/example/keen_queue/keenqueue/io/QueueKeys" "prefix" "Ljava/lang/String;")).before a0 Z = true := hw _ (List.mem_of_getElem? (i := 191) rfl)
theorem w192 {Z : State} {a0 : Array Value} (hw : HW Z a0) : ((Jvm.Cond.laysFinal "com/example/keen_queue/keenqueue/io/QueueKeys" "com/example/keen_queue/keenqueue/io/QueueKeys" "prefix" "Ljava/lang/String;")).before a0 Z = true := hw _ (List.mem_of_getElem? (i := 192) rfl)
theorem w193 {Z : State} {a0 : Array Value} (hw : HW Z a0) : ((Jvm.Cond.methodLink "com/example/keen_queue/keenqueue/io/QueueKeysJobHashesPinLaw" (27 : Nat) ({ cls := "com/example/keen_queue/keenqueue/io/QueueKeys", name := "jobHashes", desc := "()Ljava/util/List;" } : Jvm.MethodName))).before a0 Z = true := hw _ (List.mem_of_getElem? (i := 193) rfl)
theorem w194 {Z : State} {a0 : Array Value} (hw : HW Z a0) : ((Jvm.Cond.declares ({ cls := "com/example/keen_queue/keenqueue/io/QueueKeys", name := "jobHashes", desc := "()Ljava/util/List;" } : Jvm.MethodName))).before a0 Z = true := hw _ (List.mem_of_getElem? (i := 194) rfl)
theorem w195 {Z : State} {a0 : Array Value} (hw : HW Z a0) : ((Jvm.Cond.instanceMethod ({ cls := "com/example/keen_queue/keenqueue/io/QueueKeys", name := "jobHashes", desc := "()Ljava/util/List;" } : Jvm.MethodName))).before a0 Z = true := hw _ (List.mem_of_getElem? (i := 195) rfl)
theorem w196 {Z : State} {a0 : Array Value} (hw : HW Z a0) : ((Jvm.Cond.selects "com/example/keen_queue/keenqueue/io/QueueKeys" ({ cls := "com/example/keen_queue/keenqueue/io/QueueKeys", name := "jobHashes", desc := "()Ljava/util/List;" } : Jvm.MethodName) ({ cls := "com/example/keen_queue/keenqueue/io/QueueKeys", name := "jobHashes", desc := "()Ljava/util/List;" } : Jvm.MethodName))).before a0 Z = true := hw _ (List.mem_of_getElem? (i := 196) rfl)
theorem w197 {Z : State} {a0 : Array Value} (hw : HW Z a0) : ((Jvm.Cond.code ({ cls := "com/example/keen_queue/keenqueue/io/QueueKeys", name := "jobHashes", desc := "()Ljava/util/List;" } : Jvm.MethodName) prog_1_method_13_code (1 : Nat) (Option.some (Jvm.ClassFile.FieldType.object "java/util/List")))).before a0 Z = true := hw _ (List.mem_of_getElem? (i := 197) rfl)
theorem w198 {Z : State} {a0 : Array Value} (hw : HW Z a0) : ((Jvm.Cond.methodLink "com/example/keen_queue/keenqueue/io/QueueKeys" (85 : Nat) ({ cls := "com/example/keen_queue/keenqueue/io/QueueKeys", name := "payloads", desc := "()[B" } : Jvm.MethodName))).before a0 Z = true := hw _ (List.mem_of_getElem? (i := 198) rfl)
theorem w199 {Z : State} {a0 : Array Value} (hw : HW Z a0) : ((Jvm.Cond.declares ({ cls := "com/example/keen_queue/keenqueue/io/QueueKeys", name := "payloads", desc := "()[B" } : Jvm.MethodName))).before a0 Z = true := hw _ (List.mem_of_getElem? (i := 199) rfl)
theorem w200 {Z : State} {a0 : Array Value} (hw : HW Z a0) : ((Jvm.Cond.instanceMethod ({ cls := "com/example/keen_queue/keenqueue/io/QueueKeys", name := "payloads", desc := "()[B" } : Jvm.MethodName))).before a0 Z = true := hw _ (List.mem_of_getElem? (i := 200) rfl)
theorem w201 {Z : State} {a0 : Array Value} (hw : HW Z a0) : ((Jvm.Cond.selects "com/example/keen_queue/keenqueue/io/QueueKeys" ({ cls := "com/example/keen_queue/keenqueue/io/QueueKeys", name := "payloads", desc := "()[B" } : Jvm.MethodName) ({ cls := "com/example/keen_queue/keenqueue/io/QueueKeys", name := "payloads", desc := "()[B" } : Jvm.MethodName))).before a0 Z = true := hw _ (List.mem_of_getElem? (i := 201) rfl)
theorem w202 {Z : State} {a0 : Array Value} (hw : HW Z a0) : ((Jvm.Cond.code ({ cls := "com/example/keen_queue/keenqueue/io/QueueKeys", name := "payloads", desc := "()[B" } : Jvm.MethodName) prog_1_method_8_code (1 : Nat) (Option.some (Jvm.ClassFile.FieldType.array Jvm.ClassFile.FieldType.byte)))).before a0 Z = true := hw _ (List.mem_of_getElem? (i := 202) rfl)
theorem w203 {Z : State} {a0 : Array Value} (hw : HW Z a0) : ((Jvm.Cond.stringLink "com/example/keen_queue/keenqueue/io/QueueKeys" (75 : Nat) "payload")).before a0 Z = true := hw _ (List.mem_of_getElem? (i := 203) rfl)
theorem w204 {Z : State} {a0 : Array Value} (hw : HW Z a0) : ((Jvm.Cond.methodLink "com/example/keen_queue/keenqueue/io/QueueKeys" (61 : Nat) ({ cls := "com/example/keen_queue/keenqueue/io/QueueKeys", name := "key", desc := "(Ljava/lang/String;)[B" } : Jvm.MethodName))).before a0 Z = true := hw _ (List.mem_of_getElem? (i := 204) rfl)
theorem w205 {Z : State} {a0 : Array Value} (hw : HW Z a0) : ((Jvm.Cond.instanceMethod ({ cls := "com/example/keen_queue/keenqueue/io/QueueKeys", name := "key", desc := "(Ljava/lang/String;)[B" } : Jvm.MethodName))).before a0 Z = true := hw _ (List.mem_of_getElem? (i := 205) rfl)
theorem w206 {Z : State} {a0 : Array Value} (hw : HW Z a0) : ((Jvm.Cond.privateMethod ({ cls := "com/example/keen_queue/keenqueue/io/QueueKeys", name := "key", desc := "(Ljava/lang/String;)[B" } : Jvm.MethodName))).before a0 Z = true := hw _ (List.mem_of_getElem? (i := 206) rfl)
theorem w207 {Z : State} {a0 : Array Value} (hw : HW Z a0) : ((Jvm.Cond.code ({ cls := "com/example/keen_queue/keenqueue/io/QueueKeys", name := "key", desc := "(Ljava/lang/String;)[B" } : Jvm.MethodName) prog_1_method_14_code (2 : Nat) (Option.some (Jvm.ClassFile.FieldType.array Jvm.ClassFile.FieldType.byte)))).before a0 Z = true := hw _ (List.mem_of_getElem? (i := 207) rfl)
theorem w208 {Z : State} {a0 : Array Value} (hw : HW Z a0) : ((Jvm.Cond.fieldLink "com/example/keen_queue/keenqueue/io/QueueKeys" (107 : Nat) "java/nio/charset/StandardCharsets" "UTF_8" "Ljava/nio/charset/Charset;")).before a0 Z = true := hw _ (List.mem_of_getElem? (i := 208) rfl)
theorem w210 {Z : State} {a0 : Array Value} (hw : HW Z a0) : ((Jvm.Cond.methodLink "com/example/keen_queue/keenqueue/io/QueueKeys" (113 : Nat) ({ cls := "java/lang/String", name := "getBytes", desc := "(Ljava/nio/charset/Charset;)[B" } : Jvm.MethodName))).before a0 Z = true := hw _ (List.mem_of_getElem? (i := 210) rfl)
theorem w211 {Z : State} {a0 : Array Value} (hw : HW Z a0) : ((Jvm.Cond.declares ({ cls := "java/lang/String", name := "getBytes", desc := "(Ljava/nio/charset/Charset;)[B" } : Jvm.MethodName))).before a0 Z = true := hw _ (List.mem_of_getElem? (i := 211) rfl)
theorem w212 {Z : State} {a0 : Array Value} (hw : HW Z a0) : ((Jvm.Cond.instanceMethod ({ cls := "java/lang/String", name := "getBytes", desc := "(Ljava/nio/charset/Charset;)[B" } : Jvm.MethodName))).before a0 Z = true := hw _ (List.mem_of_getElem? (i := 212) rfl)
theorem w213 {Z : State} {a0 : Array Value} (hw : HW Z a0) : ((Jvm.Cond.selects "java/lang/String" ({ cls := "java/lang/String", name := "getBytes", desc := "(Ljava/nio/charset/Charset;)[B" } : Jvm.MethodName) ({ cls := "java/lang/String", name := "getBytes", desc := "(Ljava/nio/charset/Charset;)[B" } : Jvm.MethodName))).before a0 Z = true := hw _ (List.mem_of_getElem? (i := 213) rfl)
theorem w214 {Z : State} {a0 : Array Value} (hw : HW Z a0) : ((Jvm.Cond.code ({ cls := "java/lang/String", name := "getBytes", desc := "(Ljava/nio/charset/Charset;)[B" } : Jvm.MethodName) jdk_42_method_64_code (2 : Nat) (Option.some (Jvm.ClassFile.FieldType.array Jvm.ClassFile.FieldType.byte)))).before a0 Z = true := hw _ (List.mem_of_getElem? (i := 214) rfl)
theorem w215 {Z : State} {a0 : Array Value} (hw : HW Z a0) : ((Jvm.Cond.methodLink "java/lang/String" (535 : Nat) ({ cls := "java/lang/String", name := "encode", desc := "(Ljava/nio/charset/Charset;B[B)[B" } : Jvm.MethodName))).before a0 Z = true := hw _ (List.mem_of_getElem? (i := 215) rfl)
theorem w216 {Z : State} {a0 : Array Value} (hw : HW Z a0) : ((Jvm.Cond.static ({ cls := "java/lang/String", name := "encode", desc := "(Ljava/nio/charset/Charset;B[B)[B" } : Jvm.MethodName))).before a0 Z = true := hw _ (List.mem_of_getElem? (i := 216) rfl)
theorem w217 {Z : State} {a0 : Array Value} (hw : HW Z a0) : ((Jvm.Cond.code ({ cls := "java/lang/String", name := "encode", desc := "(Ljava/nio/charset/Charset;B[B)[B" } : Jvm.MethodName) jdk_42_method_18_code (3 : Nat) (Option.some (Jvm.ClassFile.FieldType.array Jvm.ClassFile.FieldType.byte)))).before a0 Z = true := hw _ (List.mem_of_getElem? (i := 217) rfl)
theorem w218 {Z : State} {a0 : Array Value} (hw : HW Z a0) : ((Jvm.Cond.fieldLink "java/lang/String" (86 : Nat) "sun/nio/cs/UTF_8" "INSTANCE" "Lsun/nio/cs/UTF_8;")).before a0 Z = true := hw _ (List.mem_of_getElem? (i := 218) rfl)
theorem w220 {Z : State} {a0 : Array Value} (hw : HW Z a0) : ((Jvm.Cond.methodLink "java/lang/String" (252 : Nat) ({ cls := "java/lang/String", name := "encodeUTF8", desc := "(B[BZ)[B" } : Jvm.MethodName))).before a0 Z = true := hw _ (List.mem_of_getElem? (i := 220) rfl)
theorem w221 {Z : State} {a0 : Array Value} (hw : HW Z a0) : ((Jvm.Cond.static ({ cls := "java/lang/String", name := "encodeUTF8", desc := "(B[BZ)[B" } : Jvm.MethodName))).before a0 Z = true := hw _ (List.mem_of_getElem? (i := 221) rfl)
theorem w222 {Z : State} {a0 : Array Value} (hw : HW Z a0) : ((Jvm.Cond.code ({ cls := "java/lang/String", name := "encodeUTF8", desc := "(B[BZ)[B" } : Jvm.MethodName) jdk_42_method_46_code (9 : Nat) (Option.some (Jvm.ClassFile.FieldType.array Jvm.ClassFile.FieldType.byte)))).before a0 Z = true := hw _ (List.mem_of_getElem? (i := 222) rfl)
theorem w223 {Z : State} {a0 : Array Value} (hw : HW Z a0) : ((Jvm.Cond.methodLink "java/lang/String" (128 : Nat) ({ cls := "java/lang/StringCoding", name := "hasNegatives", desc := "([BII)Z" } : Jvm.MethodName))).before a0 Z = true := hw _ (List.mem_of_getElem? (i := 223) rfl)
theorem w224 {Z : State} {a0 : Array Value} (hw : HW Z a0) : ((Jvm.Cond.static ({ cls := "java/lang/StringCoding", name := "hasNegatives", desc := "([BII)Z" } : Jvm.MethodName))).before a0 Z = true := hw _ (List.mem_of_getElem? (i := 224) rfl)
theorem w225 {Z : State} {a0 : Array Value} (hw : HW Z a0) : ((Jvm.Cond.initialized "java/lang/StringCoding")).before a0 Z = true := hw _ (List.mem_of_getElem? (i := 225) rfl)
theorem w226 {Z : State} {a0 : Array Value} (hw : HW Z a0) : ((Jvm.Cond.code ({ cls := "java/lang/StringCoding", name := "hasNegatives", desc := "([BII)Z" } : Jvm.MethodName) jdk_123_method_2_code (3 : Nat) (Option.some Jvm.ClassFile.FieldType.boolean))).before a0 Z = true := hw _ (List.mem_of_getElem? (i := 226) rfl)
theorem w227 {Z : State} {a0 : Array Value} (hw : HW Z a0) : ((Jvm.Cond.methodLink "java/lang/StringCoding" (7 : Nat) ({ cls := "java/lang/StringCoding", name := "countPositives", desc := "([BII)I" } : Jvm.MethodName))).before a0 Z = true := hw _ (List.mem_of_getElem? (i := 227) rfl)
theorem w228 {Z : State} {a0 : Array Value} (hw : HW Z a0) : ((Jvm.Cond.static ({ cls := "java/lang/StringCoding", name := "countPositives", desc := "([BII)I" } : Jvm.MethodName))).before a0 Z = true := hw _ (List.mem_of_getElem? (i := 228) rfl)
theorem w229 {Z : State} {a0 : Array Value} (hw : HW Z a0) : ((Jvm.Cond.code ({ cls := "java/lang/StringCoding", name := "countPositives", desc := "([BII)I" } : Jvm.MethodName) jdk_123_method_3_code (5 : Nat) (Option.some Jvm.ClassFile.FieldType.int))).before a0 Z = true := hw _ (List.mem_of_getElem? (i := 229) rfl)
theorem w230 {Z : State} {a0 : Array Value} (hw : HW Z a0) : ((Jvm.Cond.methodLink "java/lang/String" (279 : Nat) ({ cls := "[B", name := "clone", desc := "()Ljava/lang/Object;" } : Jvm.MethodName))).before a0 Z = true := hw _ (List.mem_of_getElem? (i := 230) rfl)
theorem w231 {Z : State} {a0 : Array Value} (hw : HW Z a0) : ((Jvm.Cond.sameMethod "[B" "java/lang/Object" "clone" "()Ljava/lang/Object;")).before a0 Z = true := hw _ (List.mem_of_getElem? (i := 231) rfl)
theorem w233 {Z : State} {a0 : Array Value} (hw : HW Z a0) : ((Jvm.Cond.instanceMethod ({ cls := "java/lang/Object", name := "clone", desc := "()Ljava/lang/Object;" } : Jvm.MethodName))).before a0 Z = true := hw _ (List.mem_of_getElem? (i := 233) rfl)
theorem w234 {Z : State} {a0 : Array Value} (hw : HW Z a0) : ((Jvm.Cond.selects "[B" ({ cls := "[B", name := "clone", desc := "()Ljava/lang/Object;" } : Jvm.MethodName) ({ cls := "java/lang/Object", name := "clone", desc := "()Ljava/lang/Object;" } : Jvm.MethodName))).before a0 Z = true := hw _ (List.mem_of_getElem? (i := 234) rfl)
theorem w235 {Z : State} {a0 : Array Value} (hw : HW Z a0) : ((Jvm.Cond.native ({ cls := "java/lang/Object", name := "clone", desc := "()Ljava/lang/Object;" } : Jvm.MethodName))).before a0 Z = true := hw _ (List.mem_of_getElem? (i := 235) rfl)
theorem w236 {Z : State} {a0 : Array Value} (hw : HW Z a0) : ((Jvm.Cond.castable "[B" "java/lang/Cloneable")).before a0 Z = true := hw _ (List.mem_of_getElem? (i := 236) rfl)
theorem w237 {Z : State} {a0 : Array Value} (hw : HW Z a0) : ((Jvm.Cond.classLink "java/lang/String" (280 : Nat) "[B")).before a0 Z = true := hw _ (List.mem_of_getElem? (i := 237) rfl)
theorem w239 {Z : State} {a0 : Array Value} (hw : HW Z a0) : ((Jvm.Cond.methodLink "com/example/keen_queue/keenqueue/io/QueueKeys" (89 : Nat) ({ cls := "com/example/keen_queue/keenqueue/io/QueueKeys", name := "attempts", desc := "()[B" } : Jvm.MethodName))).before a0 Z = true := hw _ (List.mem_of_getElem? (i := 239) rfl)
theorem w240 {Z : State} {a0 : Array Value} (hw : HW Z a0) : ((Jvm.Cond.declares ({ cls := "com/example/keen_queue/keenqueue/io/QueueKeys", name := "attempts", desc := "()[B" } : Jvm.MethodName))).before a0 Z = true := hw _ (List.mem_of_getElem? (i := 240) rfl)
theorem w241 {Z : State} {a0 : Array Value} (hw : HW Z a0) : ((Jvm.Cond.instanceMethod ({ cls := "com/example/keen_queue/keenqueue/io/QueueKeys", name := "attempts", desc := "()[B" } : Jvm.MethodName))).before a0 Z = true := hw _ (List.mem_of_getElem? (i := 241) rfl)
theorem w242 {Z : State} {a0 : Array Value} (hw : HW Z a0) : ((Jvm.Cond.selects "com/example/keen_queue/keenqueue/io/QueueKeys" ({ cls := "com/example/keen_queue/keenqueue/io/QueueKeys", name := "attempts", desc := "()[B" } : Jvm.MethodName) ({ cls := "com/example/keen_queue/keenqueue/io/QueueKeys", name := "attempts", desc := "()[B" } : Jvm.MethodName))).before a0 Z = true := hw _ (List.mem_of_getElem? (i := 242) rfl)
theorem w243 {Z : State} {a0 : Array Value} (hw : HW Z a0) : ((Jvm.Cond.code ({ cls := "com/example/keen_queue/keenqueue/io/QueueKeys", name := "attempts", desc := "()[B" } : Jvm.MethodName) prog_1_method_9_code (1 : Nat) (Option.some (Jvm.ClassFile.FieldType.array Jvm.ClassFile.FieldType.byte)))).before a0 Z = true := hw _ (List.mem_of_getElem? (i := 243) rfl)
theorem w244 {Z : State} {a0 : Array Value} (hw : HW Z a0) : ((Jvm.Cond.stringLink "com/example/keen_queue/keenqueue/io/QueueKeys" (77 : Nat) "attempt")).before a0 Z = true := hw _ (List.mem_of_getElem? (i := 244) rfl)
theorem w245 {Z : State} {a0 : Array Value} (hw : HW Z a0) : ((Jvm.Cond.methodLink "com/example/keen_queue/keenqueue/io/QueueKeys" (92 : Nat) ({ cls := "com/example/keen_queue/keenqueue/io/QueueKeys", name := "tokens", desc := "()[B" } : Jvm.MethodName))).before a0 Z = true := hw _ (List.mem_of_getElem? (i := 245) rfl)
theorem w246 {Z : State} {a0 : Array Value} (hw : HW Z a0) : ((Jvm.Cond.declares ({ cls := "com/example/keen_queue/keenqueue/io/QueueKeys", name := "tokens", desc := "()[B" } : Jvm.MethodName))).before a0 Z = true := hw _ (List.mem_of_getElem? (i := 246) rfl)
theorem w247 {Z : State} {a0 : Array Value} (hw : HW Z a0) : ((Jvm.Cond.instanceMethod ({ cls := "com/example/keen_queue/keenqueue/io/QueueKeys", name := "tokens", desc := "()[B" } : Jvm.MethodName))).before a0 Z = true := hw _ (List.mem_of_getElem? (i := 247) rfl)
theorem w248 {Z : State} {a0 : Array Value} (hw : HW Z a0) : ((Jvm.Cond.selects "com/example/keen_queue/keenqueue/io/QueueKeys" ({ cls := "com/example/keen_queue/keenqueue/io/QueueKeys", name := "tokens", desc := "()[B" } : Jvm.MethodName) ({ cls := "com/example/keen_queue/keenqueue/io/QueueKeys", name := "tokens", desc := "()[B" } : Jvm.MethodName))).before a0 Z = true := hw _ (List.mem_of_getElem? (i := 248) rfl)
theorem w249 {Z : State} {a0 : Array Value} (hw : HW Z a0) : ((Jvm.Cond.code ({ cls := "com/example/keen_queue/keenqueue/io/QueueKeys", name := "tokens", desc := "()[B" } : Jvm.MethodName) prog_1_method_10_code (1 : Nat) (Option.some (Jvm.ClassFile.FieldType.array Jvm.ClassFile.FieldType.byte)))).before a0 Z = true := hw _ (List.mem_of_getElem? (i := 249) rfl)
theorem w250 {Z : State} {a0 : Array Value} (hw : HW Z a0) : ((Jvm.Cond.stringLink "com/example/keen_queue/keenqueue/io/QueueKeys" (79 : Nat) "token")).before a0 Z = true := hw _ (List.mem_of_getElem? (i := 250) rfl)
theorem w251 {Z : State} {a0 : Array Value} (hw : HW Z a0) : ((Jvm.Cond.methodLink "com/example/keen_queue/keenqueue/io/QueueKeys" (95 : Nat) ({ cls := "com/example/keen_queue/keenqueue/io/QueueKeys", name := "errors", desc := "()[B" } : Jvm.MethodName))).before a0 Z = true := hw _ (List.mem_of_getElem? (i := 251) rfl)
theorem w252 {Z : State} {a0 : Array Value} (hw : HW Z a0) : ((Jvm.Cond.declares ({ cls := "com/example/keen_queue/keenqueue/io/QueueKeys", name := "errors", desc := "()[B" } : Jvm.MethodName))).before a0 Z = true := hw _ (List.mem_of_getElem? (i := 252) rfl)
theorem w253 {Z : State} {a0 : Array Value} (hw : HW Z a0) : ((Jvm.Cond.instanceMethod ({ cls := "com/example/keen_queue/keenqueue/io/QueueKeys", name := "errors", desc := "()[B" } : Jvm.MethodName))).before a0 Z = true := hw _ (List.mem_of_getElem? (i := 253) rfl)
theorem w254 {Z : State} {a0 : Array Value} (hw : HW Z a0) : ((Jvm.Cond.selects "com/example/keen_queue/keenqueue/io/QueueKeys" ({ cls := "com/example/keen_queue/keenqueue/io/QueueKeys", name := "errors", desc := "()[B" } : Jvm.MethodName) ({ cls := "com/example/keen_queue/keenqueue/io/QueueKeys", name := "errors", desc := "()[B" } : Jvm.MethodName))).before a0 Z = true := hw _ (List.mem_of_getElem? (i := 254) rfl)
theorem w255 {Z : State} {a0 : Array Value} (hw : HW Z a0) : ((Jvm.Cond.code ({ cls := "com/example/keen_queue/keenqueue/io/QueueKeys", name := "errors", desc := "()[B" } : Jvm.MethodName) prog_1_method_11_code (1 : Nat) (Option.some (Jvm.ClassFile.FieldType.array Jvm.ClassFile.FieldType.byte)))).before a0 Z = true := hw _ (List.mem_of_getElem? (i := 255) rfl)
theorem w256 {Z : State} {a0 : Array Value} (hw : HW Z a0) : ((Jvm.Cond.stringLink "com/example/keen_queue/keenqueue/io/QueueKeys" (81 : Nat) "error")).before a0 Z = true := hw _ (List.mem_of_getElem? (i := 256) rfl)
theorem w257 {Z : State} {a0 : Array Value} (hw : HW Z a0) : ((Jvm.Cond.methodLink "com/example/keen_queue/keenqueue/io/QueueKeys" (98 : Nat) ({ cls := "com/example/keen_queue/keenqueue/io/QueueKeys", name := "stalls", desc := "()[B" } : Jvm.MethodName))).before a0 Z = true := hw _ (List.mem_of_getElem? (i := 257) rfl)
theorem w258 {Z : State} {a0 : Array Value} (hw : HW Z a0) : ((Jvm.Cond.declares ({ cls := "com/example/keen_queue/keenqueue/io/QueueKeys", name := "stalls", desc := "()[B" } : Jvm.MethodName))).before a0 Z = true := hw _ (List.mem_of_getElem? (i := 258) rfl)
theorem w259 {Z : State} {a0 : Array Value} (hw : HW Z a0) : ((Jvm.Cond.instanceMethod ({ cls := "com/example/keen_queue/keenqueue/io/QueueKeys", name := "stalls", desc := "()[B" } : Jvm.MethodName))).before a0 Z = true := hw _ (List.mem_of_getElem? (i := 259) rfl)
theorem w260 {Z : State} {a0 : Array Value} (hw : HW Z a0) : ((Jvm.Cond.selects "com/example/keen_queue/keenqueue/io/QueueKeys" ({ cls := "com/example/keen_queue/keenqueue/io/QueueKeys", name := "stalls", desc := "()[B" } : Jvm.MethodName) ({ cls := "com/example/keen_queue/keenqueue/io/QueueKeys", name := "stalls", desc := "()[B" } : Jvm.MethodName))).before a0 Z = true := hw _ (List.mem_of_getElem? (i := 260) rfl)
theorem w261 {Z : State} {a0 : Array Value} (hw : HW Z a0) : ((Jvm.Cond.code ({ cls := "com/example/keen_queue/keenqueue/io/QueueKeys", name := "stalls", desc := "()[B" } : Jvm.MethodName) prog_1_method_12_code (1 : Nat) (Option.some (Jvm.ClassFile.FieldType.array Jvm.ClassFile.FieldType.byte)))).before a0 Z = true := hw _ (List.mem_of_getElem? (i := 261) rfl)
theorem w262 {Z : State} {a0 : Array Value} (hw : HW Z a0) : ((Jvm.Cond.stringLink "com/example/keen_queue/keenqueue/io/QueueKeys" (83 : Nat) "stall")).before a0 Z = true := hw _ (List.mem_of_getElem? (i := 262) rfl)
theorem w263 {Z : State} {a0 : Array Value} (hw : HW Z a0) : ((Jvm.Cond.methodLink "com/example/keen_queue/keenqueue/io/QueueKeys" (101 : Nat) ({ cls := "java/util/List", name := "of", desc := "(Ljava/lang/Object;Ljava/lang/Object;Ljava/lang/Object;Ljava/lang/Object;Ljava/lang/Object;)Ljava/util/List;" } : Jvm.MethodName))).before a0 Z = true := hw _ (List.mem_of_getElem? (i := 263) rfl)
theorem w264 {Z : State} {a0 : Array Value} (hw : HW Z a0) : ((Jvm.Cond.static ({ cls := "java/util/List", name := "of", desc := "(Ljava/lang/Object;Ljava/lang/Object;Ljava/lang/Object;Ljava/lang/Object;Ljava/lang/Object;)Ljava/util/List;" } : Jvm.MethodName))).before a0 Z = true := hw _ (List.mem_of_getElem? (i := 264) rfl)
theorem w265 {Z : State} {a0 : Array Value} (hw : HW Z a0) : ((Jvm.Cond.initialized "java/util/List")).before a0 Z = true := hw _ (List.mem_of_getElem? (i := 265) rfl)
theorem w266 {Z : State} {a0 : Array Value} (hw : HW Z a0) : ((Jvm.Cond.code ({ cls := "java/util/List", name := "of", desc := "(Ljava/lang/Object;Ljava/lang/Object;Ljava/lang/Object;Ljava/lang/Object;Ljava/lang/Object;)Ljava/util/List;" } : Jvm.MethodName) jdk_40_method_41_code (5 : Nat) (Option.some (Jvm.ClassFile.FieldType.object "java/util/List")))).before a0 Z = true := hw _ (List.mem_of_getElem? (i := 266) rfl)
theorem w267 {Z : State} {a0 : Array Value} (hw : HW Z a0) : ((Jvm.Cond.classLink "java/util/List" (103 : Nat) "java/lang/Object")).before a0 Z = true := hw _ (List.mem_of_getElem? (i := 267) rfl)
theorem w268 {Z : State} {a0 : Array Value} (hw : HW Z a0) : ((Jvm.Cond.arrayOver (Jvm.ClassFile.FieldType.object "java/lang/Object"))).before a0 Z = true := hw _ (List.mem_of_getElem? (i := 268) rfl)
theorem w269 {Z : State} {a0 : Array Value} (hw : HW Z a0) : ((Jvm.Cond.castable "[B" "java/lang/Object")).before a0 Z = true := hw _ (List.mem_of_getElem? (i := 269) rfl)
theorem w270 {Z : State} {a0 : Array Value} (hw : HW Z a0) : ((Jvm.Cond.methodLink "java/util/List" (105 : Nat) ({ cls := "java/util/ImmutableCollections", name := "listFromTrustedArray", desc := "([Ljava/lang/Object;)Ljava/util/List;" } : Jvm.MethodName))).before a0 Z = true := hw _ (List.mem_of_getElem? (i := 270) rfl)
theorem w271 {Z : State} {a0 : Array Value} (hw : HW Z a0) : ((Jvm.Cond.static ({ cls := "java/util/ImmutableCollections", name := "listFromTrustedArray", desc := "([Ljava/lang/Object;)Ljava/util/List;" } : Jvm.MethodName))).before a0 Z = true := hw _ (List.mem_of_getElem? (i := 271) rfl)
theorem w272 {Z : State} {a0 : Array Value} (hw : HW Z a0) : ((Jvm.Cond.initialized "java/util/ImmutableCollections")).before a0 Z = true := hw _ (List.mem_of_getElem? (i := 272) rfl)
theorem w273 {Z : State} {a0 : Array Value} (hw : HW Z a0) : ((Jvm.Cond.code ({ cls := "java/util/ImmutableCollections", name := "listFromTrustedArray", desc := "([Ljava/lang/Object;)Ljava/util/List;" } : Jvm.MethodName) jdk_56_method_5_code (5 : Nat) (Option.some (Jvm.ClassFile.FieldType.object "java/util/List")))).before a0 Z = true := hw _ (List.mem_of_getElem? (i := 273) rfl)
theorem w274 {Z : State} {a0 : Array Value} (hw : HW Z a0) : ((Jvm.Cond.fieldLink "java/util/ImmutableCollections" (46 : Nat) "java/util/ImmutableCollections" "$assertionsDisabled" "Z")).before a0 Z = true := hw _ (List.mem_of_getElem? (i := 274) rfl)
theorem w275 {Z : State} {a0 : Array Value} (hw : HW Z a0) : ((Jvm.Cond.methodLink "java/util/ImmutableCollections" (37 : Nat) ({ cls := "java/util/Objects", name := "requireNonNull", desc := "(Ljava/lang/Object;)Ljava/lang/Object;" } : Jvm.MethodName))).before a0 Z = true := hw _ (List.mem_of_getElem? (i := 275) rfl)
theorem w276 {Z : State} {a0 : Array Value} (hw : HW Z a0) : ((Jvm.Cond.static ({ cls := "java/util/Objects", name := "requireNonNull", desc := "(Ljava/lang/Object;)Ljava/lang/Object;" } : Jvm.MethodName))).before a0 Z = true := hw _ (List.mem_of_getElem? (i := 276) rfl)
theorem w277 {Z : State} {a0 : Array Value} (hw : HW Z a0) : ((Jvm.Cond.code ({ cls := "java/util/Objects", name := "requireNonNull", desc := "(Ljava/lang/Object;)Ljava/lang/Object;" } : Jvm.MethodName) jdk_31_method_10_code (1 : Nat) (Option.some (Jvm.ClassFile.FieldType.object "java/lang/Object")))).before a0 Z = true := hw _ (List.mem_of_getElem? (i := 277) rfl)
theorem w278 {Z : State} {a0 : Array Value} (hw : HW Z a0) : ((Jvm.Cond.classLink "java/util/ImmutableCollections" (12 : Nat) "java/util/ImmutableCollections$ListN")).before a0 Z = true := hw _ (List.mem_of_getElem? (i := 278) rfl)
theorem w279 {Z : State} {a0 : Array Value} (hw : HW Z a0) : ((Jvm.Cond.instantiable "java/util/ImmutableCollections$ListN" (2 : Nat))).before a0 Z = true := hw _ (List.mem_of_getElem? (i := 279) rfl)
theorem w280 {Z : State} {a0 : Array Value} (hw : HW Z a0) : ((Jvm.Cond.initialized "java/util/ImmutableCollections$ListN")).before a0 Z = true := hw _ (List.mem_of_getElem? (i := 280) rfl)
theorem w281 {Z : State} {a0 : Array Value} (hw : HW Z a0) : ((Jvm.Cond.methodLinkNest "java/util/ImmutableCollections" (43 : Nat) ({ cls := "java/util/ImmutableCollections$ListN", name := "<init>", desc := "([Ljava/lang/Object;Z)V" } : Jvm.MethodName) "java/util/ImmutableCollections")).before a0 Z = true := hw _ (List.mem_of_getElem? (i := 281) rfl)
theorem w282 {Z : State} {a0 : Array Value} (hw : HW Z a0) : ((Jvm.Cond.instanceMethod ({ cls := "java/util/ImmutableCollections$ListN", name := "<init>", desc := "([Ljava/lang/Object;Z)V" } : Jvm.MethodName))).before a0 Z = true := hw _ (List.mem_of_getElem? (i := 282) rfl)
theorem w284 {Z : State} {a0 : Array Value} (hw : HW Z a0) : ((Jvm.Cond.code ({ cls := "java/util/ImmutableCollections$ListN", name := "<init>", desc := "([Ljava/lang/Object;Z)V" } : Jvm.MethodName) jdk_45_method_1_code (3 : Nat) (Option.none : Option Jvm.ClassFile.FieldType))).before a0 Z = true := hw _ (List.mem_of_getElem? (i := 284) rfl)
theorem w285 {Z : State} {a0 : Array Value} (hw : HW Z a0) : ((Jvm.Cond.methodLink "java/util/ImmutableCollections$ListN" (1 : Nat) ({ cls := "java/util/ImmutableCollections$AbstractImmutableList", name := "<init>", desc := "()V" } : Jvm.MethodName))).before a0 Z = true := hw _ (List.mem_of_getElem? (i := 285) rfl)
theorem w286 {Z : State} {a0 : Array Value} (hw : HW Z a0) : ((Jvm.Cond.instanceMethod ({ cls := "java/util/ImmutableCollections$AbstractImmutableList", name := "<init>", desc := "()V" } : Jvm.MethodName))).before a0 Z = true := hw _ (List.mem_of_getElem? (i := 286) rfl)
theorem w289 {Z : State} {a0 : Array Value} (hw : HW Z a0) : ((Jvm.Cond.initialized "java/util/ImmutableCollections$AbstractImmutableList")).before a0 Z = true := hw _ (List.mem_of_getElem? (i := 289) rfl)
theorem w290 {Z : State} {a0 : Array Value} (hw : HW Z a0) : ((Jvm.Cond.code ({ cls := "java/util/ImmutableCollections$AbstractImmutableList", name := "<init>", desc := "()V" } : Jvm.MethodName) jdk_46_method_1_code (1 : Nat) (Option.none : Option Jvm.ClassFile.FieldType))).before a0 Z = true := hw _ (List.mem_of_getElem? (i := 290) rfl)
theorem w291 {Z : State} {a0 : Array Value} (hw : HW Z a0) : ((Jvm.Cond.methodLink "java/util/ImmutableCollections$AbstractImmutableList" (1 : Nat) ({ cls := "java/util/ImmutableCollections$AbstractImmutableCollection", name := "<init>", desc := "()V" } : Jvm.MethodName))).before a0 Z = true := hw _ (List.mem_of_getElem? (i := 291) rfl)
theorem w292 {Z : State} {a0 : Array Value} (hw : HW Z a0) : ((Jvm.Cond.instanceMethod ({ cls := "java/util/ImmutableCollections$AbstractImmutableCollection", name := "<init>", desc := "()V" } : Jvm.MethodName))).before a0 Z = true := hw _ (List.mem_of_getElem? (i := 292) rfl)
theorem w295 {Z : State} {a0 : Array Value} (hw : HW Z a0) : ((Jvm.Cond.initialized "java/util/ImmutableCollections$AbstractImmutableCollection")).before a0 Z = true := hw _ (List.mem_of_getElem? (i := 295) rfl)
theorem w296 {Z : State} {a0 : Array Value} (hw : HW Z a0) : ((Jvm.Cond.code ({ cls := "java/util/ImmutableCollections$AbstractImmutableCollection", name := "<init>", desc := "()V" } : Jvm.MethodName) jdk_47_method_1_code (1 : Nat) (Option.none : Option Jvm.ClassFile.FieldType))).before a0 Z = true := hw _ (List.mem_of_getElem? (i := 296) rfl)
theorem w297 {Z : State} {a0 : Array Value} (hw : HW Z a0) : ((Jvm.Cond.methodLink "java/util/ImmutableCollections$AbstractImmutableCollection" (1 : Nat) ({ cls := "java/util/AbstractCollection", name := "<init>", desc := "()V" } : Jvm.MethodName))).before a0 Z = true := hw _ (List.mem_of_getElem? (i := 297) rfl)
theorem w298 {Z : State} {a0 : Array Value} (hw : HW Z a0) : ((Jvm.Cond.instanceMethod ({ cls := "java/util/AbstractCollection", name := "<init>", desc := "()V" } : Jvm.MethodName))).before a0 Z = true := hw _ (List.mem_of_getElem? (i := 298) rfl)
theorem w301 {Z : State} {a0 : Array Value} (hw : HW Z a0) : ((Jvm.Cond.initialized "java/util/AbstractCollection")).before a0 Z = true := hw _ (List.mem_of_getElem? (i := 301) rfl)
theorem w302 {Z : State} {a0 : Array Value} (hw : HW Z a0) : ((Jvm.Cond.code ({ cls := "java/util/AbstractCollection", name := "<init>", desc := "()V" } : Jvm.MethodName) jdk_22_method_1_code (1 : Nat) (Option.none : Option Jvm.ClassFile.FieldType))).before a0 Z = true := hw _ (List.mem_of_getElem? (i := 302) rfl)
theorem w303 {Z : State} {a0 : Array Value} (hw : HW Z a0) : ((Jvm.Cond.methodLink "java/util/AbstractCollection" (1 : Nat) ({ cls := "java/lang/Object", name := "<init>", desc := "()V" } : Jvm.MethodName))).before a0 Z = true := hw _ (List.mem_of_getElem? (i := 303) rfl)
theorem w304 {Z : State} {a0 : Array Value} (hw : HW Z a0) : ((Jvm.Cond.fieldLink "java/util/ImmutableCollections$ListN" (7 : Nat) "java/util/ImmutableCollections$ListN" "elements" "[Ljava/lang/Object;")).before a0 Z = true := hw _ (List.mem_of_getElem? (i := 304) rfl)
theorem w305 {Z : State} {a0 : Array Value} (hw : HW Z a0) : ((Jvm.Cond.laysFinal "java/util/ImmutableCollections$ListN" "java/util/ImmutableCollections$ListN" "elements" "[Ljava/lang/Object;")).before a0 Z = true := hw _ (List.mem_of_getElem? (i := 305) rfl)
theorem w306 {Z : State} {a0 : Array Value} (hw : HW Z a0) : ((Jvm.Cond.fieldLink "java/util/ImmutableCollections$ListN" (13 : Nat) "java/util/ImmutableCollections$ListN" "allowNulls" "Z")).before a0 Z = true := hw _ (List.mem_of_getElem? (i := 306) rfl)
theorem w307 {Z : State} {a0 : Array Value} (hw : HW Z a0) : ((Jvm.Cond.laysFinal "java/util/ImmutableCollections$ListN" "java/util/ImmutableCollections$ListN" "allowNulls" "Z")).before a0 Z = true := hw _ (List.mem_of_getElem? (i := 307) rfl)
theorem w308 {Z : State} {a0 : Array Value} (hw : HW Z a0) : ((Jvm.Cond.methodLink "com/example/keen_queue/keenqueue/io/QueueKeysJobHashesPinLaw" (31 : Nat) ({ cls := "java/util/List", name := "size", desc := "()I" } : Jvm.MethodName))).before a0 Z = true := hw _ (List.mem_of_getElem? (i := 308) rfl)
theorem w309 {Z : State} {a0 : Array Value} (hw : HW Z a0) : ((Jvm.Cond.declares ({ cls := "java/util/List", name := "size", desc := "()I" } : Jvm.MethodName))).before a0 Z = true := hw _ (List.mem_of_getElem? (i := 309) rfl)
theorem w310 {Z : State} {a0 : Array Value} (hw : HW Z a0) : ((Jvm.Cond.interfaceMethod "java/util/List" "java/util/List" "size" "()I")).before a0 Z = true := hw _ (List.mem_of_getElem? (i := 310) rfl)
theorem w311 {Z : State} {a0 : Array Value} (hw : HW Z a0) : ((Jvm.Cond.selects "java/util/ImmutableCollections$ListN" ({ cls := "java/util/List", name := "size", desc := "()I" } : Jvm.MethodName) ({ cls := "java/util/ImmutableCollections$ListN", name := "size", desc := "()I" } : Jvm.MethodName))).before a0 Z = true := hw _ (List.mem_of_getElem? (i := 311) rfl)
theorem w312 {Z : State} {a0 : Array Value} (hw : HW Z a0) : ((Jvm.Cond.instanceMethod ({ cls := "java/util/ImmutableCollections$ListN", name := "size", desc := "()I" } : Jvm.MethodName))).before a0 Z = true := hw _ (List.mem_of_getElem? (i := 312) rfl)
theorem w313 {Z : State} {a0 : Array Value} (hw : HW Z a0) : ((Jvm.Cond.publicMethod ({ cls := "java/util/ImmutableCollections$ListN", name := "size", desc := "()I" } : Jvm.MethodName))).before a0 Z = true := hw _ (List.mem_of_getElem? (i := 313) rfl)
theorem w314 {Z : State} {a0 : Array Value} (hw : HW Z a0) : ((Jvm.Cond.unhidden "java/util/ImmutableCollections$ListN" "size" "()I")).before a0 Z = true := hw _ (List.mem_of_getElem? (i := 314) rfl)
theorem w315 {Z : State} {a0 : Array Value} (hw : HW Z a0) : ((Jvm.Cond.castable "java/util/ImmutableCollections$ListN" "java/util/List")).before a0 Z = true := hw _ (List.mem_of_getElem? (i := 315) rfl)
theorem w316 {Z : State} {a0 : Array Value} (hw : HW Z a0) : ((Jvm.Cond.code ({ cls := "java/util/ImmutableCollections$ListN", name := "size", desc := "()I" } : Jvm.MethodName) jdk_45_method_3_code (1 : Nat) (Option.some Jvm.ClassFile.FieldType.int))).before a0 Z = true := hw _ (List.mem_of_getElem? (i := 316) rfl)
theorem w317 {Z : State} {a0 : Array Value} (hw : HW Z a0) : ((Jvm.Cond.methodLink "com/example/keen_queue/keenqueue/io/QueueKeysJobHashesPinLaw" (37 : Nat) ({ cls := "java/util/List", name := "get", desc := "(I)Ljava/lang/Object;" } : Jvm.MethodName))).before a0 Z = true := hw _ (List.mem_of_getElem? (i := 317) rfl)
theorem w318 {Z : State} {a0 : Array Value} (hw : HW Z a0) : ((Jvm.Cond.declares ({ cls := "java/util/List", name := "get", desc := "(I)Ljava/lang/Object;" } : Jvm.MethodName))).before a0 Z = true := hw _ (List.mem_of_getElem? (i := 318) rfl)
theorem w319 {Z : State} {a0 : Array Value} (hw : HW Z a0) : ((Jvm.Cond.interfaceMethod "java/util/List" "java/util/List" "get" "(I)Ljava/lang/Object;")).before a0 Z = true := hw _ (List.mem_of_getElem? (i := 319) rfl)
theorem w320 {Z : State} {a0 : Array Value} (hw : HW Z a0) : ((Jvm.Cond.selects "java/util/ImmutableCollections$ListN" ({ cls := "java/util/List", name := "get", desc := "(I)Ljava/lang/Object;" } : Jvm.MethodName) ({ cls := "java/util/ImmutableCollections$ListN", name := "get", desc := "(I)Ljava/lang/Object;" } : Jvm.MethodName))).before a0 Z = true := hw _ (List.mem_of_getElem? (i := 320) rfl)
theorem w321 {Z : State} {a0 : Array Value} (hw : HW Z a0) : ((Jvm.Cond.instanceMethod ({ cls := "java/util/ImmutableCollections$ListN", name := "get", desc := "(I)Ljava/lang/Object;" } : Jvm.MethodName))).before a0 Z = true := hw _ (List.mem_of_getElem? (i := 321) rfl)
theorem w322 {Z : State} {a0 : Array Value} (hw : HW Z a0) : ((Jvm.Cond.publicMethod ({ cls := "java/util/ImmutableCollections$ListN", name := "get", desc := "(I)Ljava/lang/Object;" } : Jvm.MethodName))).before a0 Z = true := hw _ (List.mem_of_getElem? (i := 322) rfl)
theorem w323 {Z : State} {a0 : Array Value} (hw : HW Z a0) : ((Jvm.Cond.unhidden "java/util/ImmutableCollections$ListN" "get" "(I)Ljava/lang/Object;")).before a0 Z = true := hw _ (List.mem_of_getElem? (i := 323) rfl)
theorem w324 {Z : State} {a0 : Array Value} (hw : HW Z a0) : ((Jvm.Cond.code ({ cls := "java/util/ImmutableCollections$ListN", name := "get", desc := "(I)Ljava/lang/Object;" } : Jvm.MethodName) jdk_45_method_4_code (2 : Nat) (Option.some (Jvm.ClassFile.FieldType.object "java/lang/Object")))).before a0 Z = true := hw _ (List.mem_of_getElem? (i := 324) rfl)
theorem w325 {Z : State} {a0 : Array Value} (hw : HW Z a0) : ((Jvm.Cond.classLink "com/example/keen_queue/keenqueue/io/QueueKeysJobHashesPinLaw" (41 : Nat) "[B")).before a0 Z = true := hw _ (List.mem_of_getElem? (i := 325) rfl)
theorem w326 {Z : State} {a0 : Array Value} (hw : HW Z a0) : ((Jvm.Cond.stringLink "com/example/keen_queue/keenqueue/io/QueueKeysJobHashesPinLaw" (43 : Nat) "payload")).before a0 Z = true := hw _ (List.mem_of_getElem? (i := 326) rfl)
theorem w327 {Z : State} {a0 : Array Value} (hw : HW Z a0) : ((Jvm.Cond.methodLink "com/example/keen_queue/keenqueue/io/QueueKeysJobHashesPinLaw" (45 : Nat) ({ cls := "com/example/keen_queue/keenqueue/io/QueueKeysJobHashesPinLaw", name := "check", desc := "([B[IILjava/lang/String;)Z" } : Jvm.MethodName))).before a0 Z = true := hw _ (List.mem_of_getElem? (i := 327) rfl)
theorem w328 {Z : State} {a0 : Array Value} (hw : HW Z a0) : ((Jvm.Cond.static ({ cls := "com/example/keen_queue/keenqueue/io/QueueKeysJobHashesPinLaw", name := "check", desc := "([B[IILjava/lang/String;)Z" } : Jvm.MethodName))).before a0 Z = true := hw _ (List.mem_of_getElem? (i := 328) rfl)
theorem w329 {Z : State} {a0 : Array Value} (hw : HW Z a0) : ((Jvm.Cond.code ({ cls := "com/example/keen_queue/keenqueue/io/QueueKeysJobHashesPinLaw", name := "check", desc := "([B[IILjava/lang/String;)Z" } : Jvm.MethodName) method_6_code (4 : Nat) (Option.some Jvm.ClassFile.FieldType.boolean))).before a0 Z = true := hw _ (List.mem_of_getElem? (i := 329) rfl)
theorem w330 {Z : State} {a0 : Array Value} (hw : HW Z a0) : ((Jvm.Cond.methodLink "com/example/keen_queue/keenqueue/io/QueueKeysJobHashesPinLaw" (65 : Nat) ({ cls := "java/lang/String", name := "length", desc := "()I" } : Jvm.MethodName))).before a0 Z = true := hw _ (List.mem_of_getElem? (i := 330) rfl)
theorem w331 {Z : State} {a0 : Array Value} (hw : HW Z a0) : ((Jvm.Cond.methodLink "com/example/keen_queue/keenqueue/io/QueueKeysJobHashesPinLaw" (68 : Nat) ({ cls := "com/example/keen_queue/keenqueue/io/QueueKeysJobHashesPinLaw", name := "at", desc := "([BI[IILjava/lang/String;)Z" } : Jvm.MethodName))).before a0 Z = true := hw _ (List.mem_of_getElem? (i := 331) rfl)
theorem w332 {Z : State} {a0 : Array Value} (hw : HW Z a0) : ((Jvm.Cond.static ({ cls := "com/example/keen_queue/keenqueue/io/QueueKeysJobHashesPinLaw", name := "at", desc := "([BI[IILjava/lang/String;)Z" } : Jvm.MethodName))).before a0 Z = true := hw _ (List.mem_of_getElem? (i := 332) rfl)
theorem w333 {Z : State} {a0 : Array Value} (hw : HW Z a0) : ((Jvm.Cond.code ({ cls := "com/example/keen_queue/keenqueue/io/QueueKeysJobHashesPinLaw", name := "at", desc := "([BI[IILjava/lang/String;)Z" } : Jvm.MethodName) method_5_code (5 : Nat) (Option.some Jvm.ClassFile.FieldType.boolean))).before a0 Z = true := hw _ (List.mem_of_getElem? (i := 333) rfl)
theorem w334 {Z : State} {a0 : Array Value} (hw : HW Z a0) : ((Jvm.Cond.methodLink "com/example/keen_queue/keenqueue/io/QueueKeysJobHashesPinLaw" (61 : Nat) ({ cls := "com/example/keen_queue/keenqueue/io/QueueKeysJobHashesPinLaw", name := "exp", desc := "(I[IILjava/lang/String;)I" } : Jvm.MethodName))).before a0 Z = true := hw _ (List.mem_of_getElem? (i := 334) rfl)
theorem w335 {Z : State} {a0 : Array Value} (hw : HW Z a0) : ((Jvm.Cond.static ({ cls := "com/example/keen_queue/keenqueue/io/QueueKeysJobHashesPinLaw", name := "exp", desc := "(I[IILjava/lang/String;)I" } : Jvm.MethodName))).before a0 Z = true := hw _ (List.mem_of_getElem? (i := 335) rfl)
theorem w336 {Z : State} {a0 : Array Value} (hw : HW Z a0) : ((Jvm.Cond.code ({ cls := "com/example/keen_queue/keenqueue/io/QueueKeysJobHashesPinLaw", name := "exp", desc := "(I[IILjava/lang/String;)I" } : Jvm.MethodName) method_4_code (4 : Nat) (Option.some Jvm.ClassFile.FieldType.int))).before a0 Z = true := hw _ (List.mem_of_getElem? (i := 336) rfl)
theorem w337 {Z : State} {a0 : Array Value} (hw : HW Z a0) : ((Jvm.Cond.methodLink "com/example/keen_queue/keenqueue/io/QueueKeysJobHashesPinLaw" (57 : Nat) ({ cls := "java/lang/String", name := "charAt", desc := "(I)C" } : Jvm.MethodName))).before a0 Z = true := hw _ (List.mem_of_getElem? (i := 337) rfl)
theorem w338 {Z : State} {a0 : Array Value} (hw : HW Z a0) : ((Jvm.Cond.declares ({ cls := "java/lang/String", name := "charAt", desc := "(I)C" } : Jvm.MethodName))).before a0 Z = true := hw _ (List.mem_of_getElem? (i := 338) rfl)
theorem w339 {Z : State} {a0 : Array Value} (hw : HW Z a0) : ((Jvm.Cond.instanceMethod ({ cls := "java/lang/String", name := "charAt", desc := "(I)C" } : Jvm.MethodName))).before a0 Z = true := hw _ (List.mem_of_getElem? (i := 339) rfl)
theorem w340 {Z : State} {a0 : Array Value} (hw : HW Z a0) : ((Jvm.Cond.selects "java/lang/String" ({ cls := "java/lang/String", name := "charAt", desc := "(I)C" } : Jvm.MethodName) ({ cls := "java/lang/String", name := "charAt", desc := "(I)C" } : Jvm.MethodName))).before a0 Z = true := hw _ (List.mem_of_getElem? (i := 340) rfl)
theorem w341 {Z : State} {a0 : Array Value} (hw : HW Z a0) : ((Jvm.Cond.code ({ cls := "java/lang/String", name := "charAt", desc := "(I)C" } : Jvm.MethodName) jdk_42_method_56_code (2 : Nat) (Option.some Jvm.ClassFile.FieldType.char))).before a0 Z = true := hw _ (List.mem_of_getElem? (i := 341) rfl)
theorem w342 {Z : State} {a0 : Array Value} (hw : HW Z a0) : ((Jvm.Cond.methodLink "java/lang/String" (495 : Nat) ({ cls := "java/lang/StringLatin1", name := "charAt", desc := "([BI)C" } : Jvm.MethodName))).before a0 Z = true := hw _ (List.mem_of_getElem? (i := 342) rfl)
theorem w343 {Z : State} {a0 : Array Value} (hw : HW Z a0) : ((Jvm.Cond.static ({ cls := "java/lang/StringLatin1", name := "charAt", desc := "([BI)C" } : Jvm.MethodName))).before a0 Z = true := hw _ (List.mem_of_getElem? (i := 343) rfl)
theorem w344 {Z : State} {a0 : Array Value} (hw : HW Z a0) : ((Jvm.Cond.code ({ cls := "java/lang/StringLatin1", name := "charAt", desc := "([BI)C" } : Jvm.MethodName) jdk_43_method_2_code (2 : Nat) (Option.some Jvm.ClassFile.FieldType.char))).before a0 Z = true := hw _ (List.mem_of_getElem? (i := 344) rfl)
theorem w345 {Z : State} {a0 : Array Value} (hw : HW Z a0) : ((Jvm.Cond.methodLink "java/lang/StringLatin1" (9 : Nat) ({ cls := "java/lang/String", name := "checkIndex", desc := "(II)V" } : Jvm.MethodName))).before a0 Z = true := hw _ (List.mem_of_getElem? (i := 345) rfl)
theorem w346 {Z : State} {a0 : Array Value} (hw : HW Z a0) : ((Jvm.Cond.static ({ cls := "java/lang/String", name := "checkIndex", desc := "(II)V" } : Jvm.MethodName))).before a0 Z = true := hw _ (List.mem_of_getElem? (i := 346) rfl)
theorem w347 {Z : State} {a0 : Array Value} (hw : HW Z a0) : ((Jvm.Cond.code ({ cls := "java/lang/String", name := "checkIndex", desc := "(II)V" } : Jvm.MethodName) jdk_42_method_155_code (2 : Nat) (Option.none : Option Jvm.ClassFile.FieldType))).before a0 Z = true := hw _ (List.mem_of_getElem? (i := 347) rfl)
theorem w348 {Z : State} {a0 : Array Value} (hw : HW Z a0) : ((Jvm.Cond.fieldLink "java/lang/String" (1053 : Nat) "jdk/internal/util/Preconditions" "SIOOBE_FORMATTER" "Ljava/util/function/BiFunction;")).before a0 Z = true := hw _ (List.mem_of_getElem? (i := 348) rfl)
theorem w349 {Z : State} {a0 : Array Value} (hw : HW Z a0) : ((Jvm.Cond.initialized "jdk/internal/util/Preconditions")).before a0 Z = true := hw _ (List.mem_of_getElem? (i := 349) rfl)
theorem w350 {Z : State} {a0 : Array Value} (hw : HW Z a0) : ((Jvm.Cond.methodLink "java/lang/String" (1059 : Nat) ({ cls := "jdk/internal/util/Preconditions", name := "checkIndex", desc := "(IILjava/util/function/BiFunction;)I" } : Jvm.MethodName))).before a0 Z = true := hw _ (List.mem_of_getElem? (i := 350) rfl)
theorem w351 {Z : State} {a0 : Array Value} (hw : HW Z a0) : ((Jvm.Cond.static ({ cls := "jdk/internal/util/Preconditions", name := "checkIndex", desc := "(IILjava/util/function/BiFunction;)I" } : Jvm.MethodName))).before a0 Z = true := hw _ (List.mem_of_getElem? (i := 351) rfl)
theorem w352 {Z : State} {a0 : Array Value} (hw : HW Z a0) : ((Jvm.Cond.code ({ cls := "jdk/internal/util/Preconditions", name := "checkIndex", desc := "(IILjava/util/function/BiFunction;)I" } : Jvm.MethodName) jdk_41_method_11_code (3 : Nat) (Option.some Jvm.ClassFile.FieldType.int))).before a0 Z = true := hw _ (List.mem_of_getElem? (i := 352) rfl)
theorem w353 {Z : State} {a0 : Array Value} (hw : HW Z a0) : ((Jvm.Cond.stringLink "com/example/keen_queue/keenqueue/io/QueueKeysJobHashesPinLaw" (49 : Nat) "attempt")).before a0 Z = true := hw _ (List.mem_of_getElem? (i := 353) rfl)
theorem w354 {Z : State} {a0 : Array Value} (hw : HW Z a0) : ((Jvm.Cond.stringLink "com/example/keen_queue/keenqueue/io/QueueKeysJobHashesPinLaw" (51 : Nat) "token")).before a0 Z = true := hw _ (List.mem_of_getElem? (i := 354) rfl)
theorem w355 {Z : State} {a0 : Array Value} (hw : HW Z a0) : ((Jvm.Cond.stringLink "com/example/keen_queue/keenqueue/io/QueueKeysJobHashesPinLaw" (53 : Nat) "error")).before a0 Z = true := hw _ (List.mem_of_getElem? (i := 355) rfl)
theorem w356 {Z : State} {a0 : Array Value} (hw : HW Z a0) : ((Jvm.Cond.stringLink "com/example/keen_queue/keenqueue/io/QueueKeysJobHashesPinLaw" (55 : Nat) "stall")).before a0 Z = true := hw _ (List.mem_of_getElem? (i := 356) rfl)
theorem w357 {Z : State} {a0 : Array Value} (hw : HW Z a0) : ((Jvm.Cond.methodLink "java/lang/String" (60 : Nat) ({ cls := "java/lang/StringUTF16", name := "newBytesFor", desc := "(I)[B" } : Jvm.MethodName))).before a0 Z = true := hw _ (List.mem_of_getElem? (i := 357) rfl)
theorem w358 {Z : State} {a0 : Array Value} (hw : HW Z a0) : ((Jvm.Cond.static ({ cls := "java/lang/StringUTF16", name := "newBytesFor", desc := "(I)[B" } : Jvm.MethodName))).before a0 Z = true := hw _ (List.mem_of_getElem? (i := 358) rfl)
theorem w359 {Z : State} {a0 : Array Value} (hw : HW Z a0) : ((Jvm.Cond.initialized "java/lang/StringUTF16")).before a0 Z = true := hw _ (List.mem_of_getElem? (i := 359) rfl)
theorem w360 {Z : State} {a0 : Array Value} (hw : HW Z a0) : ((Jvm.Cond.code ({ cls := "java/lang/StringUTF16", name := "newBytesFor", desc := "(I)[B" } : Jvm.MethodName) jdk_52_method_2_code (1 : Nat) (Option.some (Jvm.ClassFile.FieldType.array Jvm.ClassFile.FieldType.byte)))).before a0 Z = true := hw _ (List.mem_of_getElem? (i := 360) rfl)
theorem w361 {Z : State} {a0 : Array Value} (hw : HW Z a0) : ((Jvm.Cond.methodLink "java/lang/StringUTF16" (11 : Nat) ({ cls := "java/lang/StringUTF16", name := "newBytesLength", desc := "(I)I" } : Jvm.MethodName))).before a0 Z = true := hw _ (List.mem_of_getElem? (i := 361) rfl)
theorem w362 {Z : State} {a0 : Array Value} (hw : HW Z a0) : ((Jvm.Cond.static ({ cls := "java/lang/StringUTF16", name := "newBytesLength", desc := "(I)I" } : Jvm.MethodName))).before a0 Z = true := hw _ (List.mem_of_getElem? (i := 362) rfl)
theorem w363 {Z : State} {a0 : Array Value} (hw : HW Z a0) : ((Jvm.Cond.code ({ cls := "java/lang/StringUTF16", name := "newBytesLength", desc := "(I)I" } : Jvm.MethodName) jdk_52_method_3_code (1 : Nat) (Option.some Jvm.ClassFile.FieldType.int))).before a0 Z = true := hw _ (List.mem_of_getElem? (i := 363) rfl)
theorem w364 {Z : State} {a0 : Array Value} (hw : HW Z a0) : ((Jvm.Cond.constant "java/lang/StringUTF16" (20 : Nat) (1073741823 : Int32))).before a0 Z = true := hw _ (List.mem_of_getElem? (i := 364) rfl)
theorem w365 {Z : State} {a0 : Array Value} (hw : HW Z a0) : ((Jvm.Cond.methodLink "java/lang/String" (102 : Nat) ({ cls := "java/util/Arrays", name := "copyOf", desc := "([BI)[B" } : Jvm.MethodName))).before a0 Z = true := hw _ (List.mem_of_getElem? (i := 365) rfl)
theorem w366 {Z : State} {a0 : Array Value} (hw : HW Z a0) : ((Jvm.Cond.static ({ cls := "java/util/Arrays", name := "copyOf", desc := "([BI)[B" } : Jvm.MethodName))).before a0 Z = true := hw _ (List.mem_of_getElem? (i := 366) rfl)
theorem w367 {Z : State} {a0 : Array Value} (hw : HW Z a0) : ((Jvm.Cond.code ({ cls := "java/util/Arrays", name := "copyOf", desc := "([BI)[B" } : Jvm.MethodName) jdk_65_method_121_code (3 : Nat) (Option.some (Jvm.ClassFile.FieldType.array Jvm.ClassFile.FieldType.byte)))).before a0 Z = true := hw _ (List.mem_of_getElem? (i := 367) rfl)
theorem w368 {Z : State} {a0 : Array Value} (hw : HW Z a0) : ((Jvm.Cond.classLink "com/example/keen_queue/keenqueue/io/QueueKeysJobHashesPinLaw" (7 : Nat) "java/lang/String")).before a0 Z = true := hw _ (List.mem_of_getElem? (i := 368) rfl)
theorem w369 {Z : State} {a0 : Array Value} (hw : HW Z a0) : ((Jvm.Cond.arrayClass Jvm.ClassFile.FieldType.char)).before a0 Z = true := hw _ (List.mem_of_getElem? (i := 369) rfl)
theorem w370 {Z : State} {a0 : Array Value} (hw : HW Z a0) : ((Jvm.Cond.methodLink "com/example/keen_queue/keenqueue/io/QueueKeysJobHashesPinLaw" (9 : Nat) ({ cls := "java/lang/String", name := "<init>", desc := "([C)V" } : Jvm.MethodName))).before a0 Z = true := hw _ (List.mem_of_getElem? (i := 370) rfl)
theorem w371 {Z : State} {a0 : Array Value} (hw : HW Z a0) : ((Jvm.Cond.instanceMethod ({ cls := "java/lang/String", name := "<init>", desc := "([C)V" } : Jvm.MethodName))).before a0 Z = true := hw _ (List.mem_of_getElem? (i := 371) rfl)
theorem w372 {Z : State} {a0 : Array Value} (hw : HW Z a0) : ((Jvm.Cond.code ({ cls := "java/lang/String", name := "<init>", desc := "([C)V" } : Jvm.MethodName) jdk_42_method_3_code (2 : Nat) (Option.none : Option Jvm.ClassFile.FieldType))).before a0 Z = true := hw _ (List.mem_of_getElem? (i := 372) rfl)
theorem w373 {Z : State} {a0 : Array Value} (hw : HW Z a0) : ((Jvm.Cond.methodLink "java/lang/String" (27 : Nat) ({ cls := "java/lang/String", name := "<init>", desc := "([CIILjava/lang/Void;)V" } : Jvm.MethodName))).before a0 Z = true := hw _ (List.mem_of_getElem? (i := 373) rfl)
theorem w374 {Z : State} {a0 : Array Value} (hw : HW Z a0) : ((Jvm.Cond.instanceMethod ({ cls := "java/lang/String", name := "<init>", desc := "([CIILjava/lang/Void;)V" } : Jvm.MethodName))).before a0 Z = true := hw _ (List.mem_of_getElem? (i := 374) rfl)
theorem w375 {Z : State} {a0 : Array Value} (hw : HW Z a0) : ((Jvm.Cond.code ({ cls := "java/lang/String", name := "<init>", desc := "([CIILjava/lang/Void;)V" } : Jvm.MethodName) jdk_42_method_149_code (6 : Nat) (Option.none : Option Jvm.ClassFile.FieldType))).before a0 Z = true := hw _ (List.mem_of_getElem? (i := 375) rfl)
theorem w376 {Z : State} {a0 : Array Value} (hw : HW Z a0) : ((Jvm.Cond.methodLink "java/lang/String" (177 : Nat) ({ cls := "java/lang/StringUTF16", name := "compress", desc := "([CII)[B" } : Jvm.MethodName))).before a0 Z = true := hw _ (List.mem_of_getElem? (i := 376) rfl)
theorem w377 {Z : State} {a0 : Array Value} (hw : HW Z a0) : ((Jvm.Cond.static ({ cls := "java/lang/StringUTF16", name := "compress", desc := "([CII)[B" } : Jvm.MethodName))).before a0 Z = true := hw _ (List.mem_of_getElem? (i := 377) rfl)
theorem w378 {Z : State} {a0 : Array Value} (hw : HW Z a0) : ((Jvm.Cond.code ({ cls := "java/lang/StringUTF16", name := "compress", desc := "([CII)[B" } : Jvm.MethodName) jdk_52_method_16_code (6 : Nat) (Option.some (Jvm.ClassFile.FieldType.array Jvm.ClassFile.FieldType.byte)))).before a0 Z = true := hw _ (List.mem_of_getElem? (i := 378) rfl)
theorem w379 {Z : State} {a0 : Array Value} (hw : HW Z a0) : ((Jvm.Cond.methodLink "java/lang/StringUTF16" (115 : Nat) ({ cls := "java/lang/StringUTF16", name := "compress", desc := "([CI[BII)I" } : Jvm.MethodName))).before a0 Z = true := hw _ (List.mem_of_getElem? (i := 379) rfl)
theorem w380 {Z : State} {a0 : Array Value} (hw : HW Z a0) : ((Jvm.Cond.static ({ cls := "java/lang/StringUTF16", name := "compress", desc := "([CI[BII)I" } : Jvm.MethodName))).before a0 Z = true := hw _ (List.mem_of_getElem? (i := 380) rfl)
theorem w381 {Z : State} {a0 : Array Value} (hw : HW Z a0) : ((Jvm.Cond.code ({ cls := "java/lang/StringUTF16", name := "compress", desc := "([CI[BII)I" } : Jvm.MethodName) jdk_52_method_21_code (7 : Nat) (Option.some Jvm.ClassFile.FieldType.int))).before a0 Z = true := hw _ (List.mem_of_getElem? (i := 381) rfl)
theorem w382 {Z : State} {a0 : Array Value} (hw : HW Z a0) : ((Jvm.Cond.methodLink "java/lang/String" (47 : Nat) ({ cls := "java/lang/StringUTF16", name := "coderFromArrayLen", desc := "([BI)B" } : Jvm.MethodName))).before a0 Z = true := hw _ (List.mem_of_getElem? (i := 382) rfl)
theorem w383 {Z : State} {a0 : Array Value} (hw : HW Z a0) : ((Jvm.Cond.static ({ cls := "java/lang/StringUTF16", name := "coderFromArrayLen", desc := "([BI)B" } : Jvm.MethodName))).before a0 Z = true := hw _ (List.mem_of_getElem? (i := 383) rfl)
theorem w384 {Z : State} {a0 : Array Value} (hw : HW Z a0) : ((Jvm.Cond.code ({ cls := "java/lang/StringUTF16", name := "coderFromArrayLen", desc := "([BI)B" } : Jvm.MethodName) jdk_52_method_15_code (2 : Nat) (Option.some Jvm.ClassFile.FieldType.byte))).before a0 Z = true := hw _ (List.mem_of_getElem? (i := 384) rfl)
theorem pd0 : parseMethodDescriptor "()B" = some ⟨[], some .byte⟩ := by decide +kernel
theorem pd1 : parseMethodDescriptor "(I)V" = some ⟨[.int], none⟩ := by decide +kernel
theorem pd2 : parseMethodDescriptor "(Ljava/lang/String;)V" = some ⟨[(.object "java/lang/String")], none⟩ := by decide +kernel
theorem pd3 : parseMethodDescriptor "([BIB)V" = some ⟨[(.array .byte), .int, .byte], none⟩ := by decide +kernel
theorem pd4 : parseMethodDescriptor "()I" = some ⟨[], some .int⟩ := by decide +kernel
theorem pd5 : parseMethodDescriptor "(ILjava/lang/String;)V" = some ⟨[.int, (.object "java/lang/String")], none⟩ := by decide +kernel
theorem pd6 : parseMethodDescriptor "(Ljava/lang/String;)Ljava/lang/AbstractStringBuilder;" = some ⟨[(.object "java/lang/String")], some (.object "java/lang/AbstractStringBuilder")⟩ := by decide +kernel
theorem pd7 : parseMethodDescriptor "(II)V" = some ⟨[.int, .int], none⟩ := by decide +kernel
theorem pd8 : parseMethodDescriptor "(II)I" = some ⟨[.int, .int], some .int⟩ := by decide +kernel
theorem pd9 : parseMethodDescriptor "([BII)[B" = some ⟨[(.array .byte), .int, .int], some (.array .byte)⟩ := by decide +kernel
theorem pd10 : parseMethodDescriptor "()[B" = some ⟨[], some (.array .byte)⟩ := by decide +kernel
theorem pd11 : parseMethodDescriptor "()Z" = some ⟨[], some .boolean⟩ := by decide +kernel
theorem pd12 : parseMethodDescriptor "(Ljava/lang/AbstractStringBuilder;Ljava/lang/Void;)V" = some ⟨[(.object "java/lang/AbstractStringBuilder"), (.object "java/lang/Void")], none⟩ := by decide +kernel
theorem pd13 : parseMethodDescriptor "(Ljava/lang/StringBuilder;)V" = some ⟨[(.object "java/lang/StringBuilder")], none⟩ := by decide +kernel
theorem pd14 : parseMethodDescriptor "([BII)I" = some ⟨[(.array .byte), .int, .int], some .int⟩ := by decide +kernel
theorem pd15 : parseMethodDescriptor "(I)I" = some ⟨[.int], some .int⟩ := by decide +kernel
theorem pd16 : parseMethodDescriptor "([BII)Z" = some ⟨[(.array .byte), .int, .int], some .boolean⟩ := by decide +kernel
theorem pd17 : parseMethodDescriptor "(I)[B" = some ⟨[.int], some (.array .byte)⟩ := by decide +kernel
theorem pd18 : parseMethodDescriptor "([BI)[B" = some ⟨[(.array .byte), .int], some (.array .byte)⟩ := by decide +kernel
theorem pd19 : parseMethodDescriptor "(B[BZ)[B" = some ⟨[.byte, (.array .byte), .boolean], some (.array .byte)⟩ := by decide +kernel
theorem pd20 : parseMethodDescriptor "(Ljava/nio/charset/Charset;B[B)[B" = some ⟨[(.object "java/nio/charset/Charset"), .byte, (.array .byte)], some (.array .byte)⟩ := by decide +kernel
theorem pd21 : parseMethodDescriptor "(I)Z" = some ⟨[.int], some .boolean⟩ := by decide +kernel
theorem pd22 : parseMethodDescriptor "([BIII)I" = some ⟨[(.array .byte), .int, .int, .int], some .int⟩ := by decide +kernel
theorem pd23 : parseMethodDescriptor "(IILjava/util/function/BiFunction;)I" = some ⟨[.int, .int, (.object "java/util/function/BiFunction")], some .int⟩ := by decide +kernel
theorem pd24 : parseMethodDescriptor "([BI)C" = some ⟨[(.array .byte), .int], some .char⟩ := by decide +kernel
theorem pd25 : parseMethodDescriptor "(I)C" = some ⟨[.int], some .char⟩ := by decide +kernel
theorem pd26 : parseMethodDescriptor "(I[IILjava/lang/String;)I" = some ⟨[.int, (.array .int), .int, (.object "java/lang/String")], some .int⟩ := by decide +kernel
theorem pd27 : parseMethodDescriptor "([BI[IILjava/lang/String;)Z" = some ⟨[(.array .byte), .int, (.array .int), .int, (.object "java/lang/String")], some .boolean⟩ := by decide +kernel
theorem pd28 : parseMethodDescriptor "()V" = some ⟨[], none⟩ := by decide +kernel
theorem pd29 : parseMethodDescriptor "(Ljava/lang/Object;)Ljava/lang/Object;" = some ⟨[(.object "java/lang/Object")], some (.object "java/lang/Object")⟩ := by decide +kernel
theorem pd30 : parseMethodDescriptor "([Ljava/lang/Object;Z)V" = some ⟨[(.array (.object "java/lang/Object")), .boolean], none⟩ := by decide +kernel
theorem pd31 : parseMethodDescriptor "([Ljava/lang/Object;)Ljava/util/List;" = some ⟨[(.array (.object "java/lang/Object"))], some (.object "java/util/List")⟩ := by decide +kernel
theorem pd32 : parseMethodDescriptor "(Ljava/lang/String;)Ljava/lang/StringBuilder;" = some ⟨[(.object "java/lang/String")], some (.object "java/lang/StringBuilder")⟩ := by decide +kernel
theorem pd33 : parseMethodDescriptor "()Ljava/lang/String;" = some ⟨[], some (.object "java/lang/String")⟩ := by decide +kernel
theorem pd34 : parseMethodDescriptor "(Ljava/nio/charset/Charset;)[B" = some ⟨[(.object "java/nio/charset/Charset")], some (.array .byte)⟩ := by decide +kernel
theorem pd35 : parseMethodDescriptor "(Ljava/lang/String;)[B" = some ⟨[(.object "java/lang/String")], some (.array .byte)⟩ := by decide +kernel
theorem pd36 : parseMethodDescriptor "(Ljava/lang/Object;Ljava/lang/String;)Ljava/lang/Object;" = some ⟨[(.object "java/lang/Object"), (.object "java/lang/String")], some (.object "java/lang/Object")⟩ := by decide +kernel
theorem pd37 : parseMethodDescriptor "(Ljava/lang/Object;Ljava/lang/Object;Ljava/lang/Object;Ljava/lang/Object;Ljava/lang/Object;)Ljava/util/List;" = some ⟨[(.object "java/lang/Object"), (.object "java/lang/Object"), (.object "java/lang/Object"), (.object "java/lang/Object"), (.object "java/lang/Object")], some (.object "java/util/List")⟩ := by decide +kernel
theorem pd38 : parseMethodDescriptor "(C)Z" = some ⟨[.char], some .boolean⟩ := by decide +kernel
theorem pd39 : parseMethodDescriptor "(C)[B" = some ⟨[.char], some (.array .byte)⟩ := by decide +kernel
theorem pd40 : parseMethodDescriptor "([BB)V" = some ⟨[(.array .byte), .byte], none⟩ := by decide +kernel
theorem pd41 : parseMethodDescriptor "([CI[BII)I" = some ⟨[(.array .char), .int, (.array .byte), .int, .int], some .int⟩ := by decide +kernel
theorem pd42 : parseMethodDescriptor "([CII)[B" = some ⟨[(.array .char), .int, .int], some (.array .byte)⟩ := by decide +kernel
theorem pd43 : parseMethodDescriptor "([BI)B" = some ⟨[(.array .byte), .int], some .byte⟩ := by decide +kernel
theorem pd44 : parseMethodDescriptor "([CIILjava/lang/Void;)V" = some ⟨[(.array .char), .int, .int, (.object "java/lang/Void")], none⟩ := by decide +kernel
theorem pd45 : parseMethodDescriptor "()Ljava/util/List;" = some ⟨[], some (.object "java/util/List")⟩ := by decide +kernel
theorem pd46 : parseMethodDescriptor "(I)Ljava/lang/Object;" = some ⟨[.int], some (.object "java/lang/Object")⟩ := by decide +kernel
theorem pd47 : parseMethodDescriptor "([B[IILjava/lang/String;)Z" = some ⟨[(.array .byte), (.array .int), .int, (.object "java/lang/String")], some .boolean⟩ := by decide +kernel
theorem pd48 : parseMethodDescriptor "(C)Ljava/lang/String;" = some ⟨[.char], some (.object "java/lang/String")⟩ := by decide +kernel
theorem pd49 : parseMethodDescriptor "([IIC)I" = some ⟨[(.array .int), .int, .char], some .int⟩ := by decide +kernel
theorem pd50 : parseMethodDescriptor "([C)V" = some ⟨[(.array .char)], none⟩ := by decide +kernel
theorem d0_0 : Dc jdk_42_method_152_code 0 (.getstatic 38) 3 3 := ⟨by decide +kernel, rfl⟩
theorem d0_3 : Db jdk_42_method_152_code 3 (.ifCond .eq 10) 10 6 13 := ⟨by decide +kernel, rfl, by decide, by decide⟩
theorem d0_6 : Dc jdk_42_method_152_code 6 (.aload_n 0) 1 7 := ⟨by decide +kernel, rfl⟩
theorem d0_7 : Dc jdk_42_method_152_code 7 (.getfield 15) 3 10 := ⟨by decide +kernel, rfl⟩
theorem d0_10 : Db jdk_42_method_152_code 10 (.goto 4) 4 13 14 := ⟨by decide +kernel, rfl, by decide, by decide⟩
theorem d0_14 : Dc jdk_42_method_152_code 14 (.ireturn) 1 15 := ⟨by decide +kernel, rfl⟩
theorem d1_0 : Dc jdk_42_method_54_code 0 (.aload_n 0) 1 1 := ⟨by decide +kernel, rfl⟩
theorem d1_1 : Dc jdk_42_method_54_code 1 (.getfield 9) 3 4 := ⟨by decide +kernel, rfl⟩
theorem d1_4 : Dc jdk_42_method_54_code 4 (.arraylength) 1 5 := ⟨by decide +kernel, rfl⟩
theorem d1_5 : Dc jdk_42_method_54_code 5 (.aload_n 0) 1 6 := ⟨by decide +kernel, rfl⟩
theorem d1_6 : Dc jdk_42_method_54_code 6 (.invokevirtual 335) 3 9 := ⟨by decide +kernel, rfl⟩
theorem d1_9 : Dc jdk_42_method_54_code 9 (.ishr) 1 10 := ⟨by decide +kernel, rfl⟩
theorem d1_10 : Dc jdk_42_method_54_code 10 (.ireturn) 1 11 := ⟨by decide +kernel, rfl⟩
theorem d2_0 : Dc jdk_68_method_2_code 0 (.aload_n 0) 1 1 := ⟨by decide +kernel, rfl⟩
theorem d2_1 : Dc jdk_68_method_2_code 1 (.invokespecial 3) 3 4 := ⟨by decide +kernel, rfl⟩
theorem d2_4 : Dc jdk_68_method_2_code 4 (.getstatic 18) 3 7 := ⟨by decide +kernel, rfl⟩
theorem d2_7 : Db jdk_68_method_2_code 7 (.ifCond .eq 18) 18 10 25 := ⟨by decide +kernel, rfl, by decide, by decide⟩
theorem d2_10 : Dc jdk_68_method_2_code 10 (.aload_n 0) 1 11 := ⟨by decide +kernel, rfl⟩
theorem d2_11 : Dc jdk_68_method_2_code 11 (.iload_n 1) 1 12 := ⟨by decide +kernel, rfl⟩
theorem d2_12 : Dc jdk_68_method_2_code 12 (.newarray .byte) 2 14 := ⟨by decide +kernel, rfl⟩
theorem d2_14 : Dc jdk_68_method_2_code 14 (.putfield 15) 3 17 := ⟨by decide +kernel, rfl⟩
theorem d2_17 : Dc jdk_68_method_2_code 17 (.aload_n 0) 1 18 := ⟨by decide +kernel, rfl⟩
theorem d2_18 : Dc jdk_68_method_2_code 18 (.iconst 0) 1 19 := ⟨by decide +kernel, rfl⟩
theorem d2_19 : Dc jdk_68_method_2_code 19 (.putfield 22) 3 22 := ⟨by decide +kernel, rfl⟩
theorem d2_22 : Db jdk_68_method_2_code 22 (.goto 16) 16 25 38 := ⟨by decide +kernel, rfl, by decide, by decide⟩
theorem d2_38 : Dc jdk_68_method_2_code 38 (.return_) 1 39 := ⟨by decide +kernel, rfl⟩
theorem d3_0 : Dc jdk_67_method_1_code 0 (.aload_n 0) 1 1 := ⟨by decide +kernel, rfl⟩
theorem d3_1 : Dc jdk_67_method_1_code 1 (.bipush 16) 2 3 := ⟨by decide +kernel, rfl⟩
theorem d3_3 : Dc jdk_67_method_1_code 3 (.invokespecial 1) 3 6 := ⟨by decide +kernel, rfl⟩
theorem d3_6 : Dc jdk_67_method_1_code 6 (.return_) 1 7 := ⟨by decide +kernel, rfl⟩
theorem d4_0 : Dc jdk_68_method_9_code 0 (.aload_n 0) 1 1 := ⟨by decide +kernel, rfl⟩
theorem d4_1 : Dc jdk_68_method_9_code 1 (.getfield 15) 3 4 := ⟨by decide +kernel, rfl⟩
theorem d4_4 : Dc jdk_68_method_9_code 4 (.arraylength) 1 5 := ⟨by decide +kernel, rfl⟩
theorem d4_5 : Dc jdk_68_method_9_code 5 (.aload_n 0) 1 6 := ⟨by decide +kernel, rfl⟩
theorem d4_6 : Dc jdk_68_method_9_code 6 (.getfield 22) 3 9 := ⟨by decide +kernel, rfl⟩
theorem d4_9 : Dc jdk_68_method_9_code 9 (.ishr) 1 10 := ⟨by decide +kernel, rfl⟩
theorem d4_10 : Dc jdk_68_method_9_code 10 (.istore_n 2) 1 11 := ⟨by decide +kernel, rfl⟩
theorem d4_11 : Dc jdk_68_method_9_code 11 (.iload_n 1) 1 12 := ⟨by decide +kernel, rfl⟩
theorem d4_12 : Dc jdk_68_method_9_code 12 (.iload_n 2) 1 13 := ⟨by decide +kernel, rfl⟩
theorem d4_13 : Dc jdk_68_method_9_code 13 (.isub) 1 14 := ⟨by decide +kernel, rfl⟩
theorem d4_14 : Db jdk_68_method_9_code 14 (.ifCond .le 24) 24 17 38 := ⟨by decide +kernel, rfl, by decide, by decide⟩
theorem d4_38 : Dc jdk_68_method_9_code 38 (.return_) 1 39 := ⟨by decide +kernel, rfl⟩
theorem d5_0 : Dc jdk_68_method_71_code 0 (.getstatic 18) 3 3 := ⟨by decide +kernel, rfl⟩
theorem d5_3 : Db jdk_68_method_71_code 3 (.ifCond .eq 18) 18 6 21 := ⟨by decide +kernel, rfl, by decide, by decide⟩
theorem d5_6 : Dc jdk_68_method_71_code 6 (.aload_n 0) 1 7 := ⟨by decide +kernel, rfl⟩
theorem d5_7 : Dc jdk_68_method_71_code 7 (.getfield 22) 3 10 := ⟨by decide +kernel, rfl⟩
theorem d5_10 : Dc jdk_68_method_71_code 10 (.aload_n 1) 1 11 := ⟨by decide +kernel, rfl⟩
theorem d5_11 : Dc jdk_68_method_71_code 11 (.invokevirtual 40) 3 14 := ⟨by decide +kernel, rfl⟩
theorem d5_14 : Db jdk_68_method_71_code 14 (.if_icmp .eq 7) 7 17 21 := ⟨by decide +kernel, rfl, by decide, by decide⟩
theorem d5_21 : Dc jdk_68_method_71_code 21 (.return_) 1 22 := ⟨by decide +kernel, rfl⟩
theorem d6_0 : Dc jdk_42_method_147_code 0 (.aload_n 0) 1 1 := ⟨by decide +kernel, rfl⟩
theorem d6_1 : Dc jdk_42_method_147_code 1 (.invokevirtual 335) 3 4 := ⟨by decide +kernel, rfl⟩
theorem d6_4 : Dc jdk_42_method_147_code 4 (.iload_n 3) 1 5 := ⟨by decide +kernel, rfl⟩
theorem d6_5 : Db jdk_42_method_147_code 5 (.if_icmp .ne 23) 23 8 28 := ⟨by decide +kernel, rfl, by decide, by decide⟩
theorem d6_8 : Dc jdk_42_method_147_code 8 (.aload_n 0) 1 9 := ⟨by decide +kernel, rfl⟩
theorem d6_9 : Dc jdk_42_method_147_code 9 (.getfield 9) 3 12 := ⟨by decide +kernel, rfl⟩
theorem d6_12 : Dc jdk_42_method_147_code 12 (.iconst 0) 1 13 := ⟨by decide +kernel, rfl⟩
theorem d6_13 : Dc jdk_42_method_147_code 13 (.aload_n 1) 1 14 := ⟨by decide +kernel, rfl⟩
theorem d6_14 : Dc jdk_42_method_147_code 14 (.iload_n 2) 1 15 := ⟨by decide +kernel, rfl⟩
theorem d6_15 : Dc jdk_42_method_147_code 15 (.iload_n 3) 1 16 := ⟨by decide +kernel, rfl⟩
theorem d6_16 : Dc jdk_42_method_147_code 16 (.ishl) 1 17 := ⟨by decide +kernel, rfl⟩
theorem d6_17 : Dc jdk_42_method_147_code 17 (.aload_n 0) 1 18 := ⟨by decide +kernel, rfl⟩
theorem d6_18 : Dc jdk_42_method_147_code 18 (.getfield 9) 3 21 := ⟨by decide +kernel, rfl⟩
theorem d6_21 : Dc jdk_42_method_147_code 21 (.arraylength) 1 22 := ⟨by decide +kernel, rfl⟩
theorem d6_22 : Dc jdk_42_method_147_code 22 (.invokestatic 212) 3 25 := ⟨by decide +kernel, rfl⟩
theorem d6_25 : Db jdk_42_method_147_code 25 (.goto 18) 18 28 43 := ⟨by decide +kernel, rfl, by decide, by decide⟩
theorem d6_43 : Dc jdk_42_method_147_code 43 (.return_) 1 44 := ⟨by decide +kernel, rfl⟩
theorem d7_0 : Dc jdk_68_method_73_code 0 (.aload_n 0) 1 1 := ⟨by decide +kernel, rfl⟩
theorem d7_1 : Dc jdk_68_method_73_code 1 (.aload_n 2) 1 2 := ⟨by decide +kernel, rfl⟩
theorem d7_2 : Dc jdk_68_method_73_code 2 (.invokevirtual 397) 3 5 := ⟨by decide +kernel, rfl⟩
theorem d7_5 : Dc jdk_68_method_73_code 5 (.aload_n 2) 1 6 := ⟨by decide +kernel, rfl⟩
theorem d7_6 : Dc jdk_68_method_73_code 6 (.aload_n 0) 1 7 := ⟨by decide +kernel, rfl⟩
theorem d7_7 : Dc jdk_68_method_73_code 7 (.getfield 15) 3 10 := ⟨by decide +kernel, rfl⟩
theorem d7_10 : Dc jdk_68_method_73_code 10 (.iload_n 1) 1 11 := ⟨by decide +kernel, rfl⟩
theorem d7_11 : Dc jdk_68_method_73_code 11 (.aload_n 0) 1 12 := ⟨by decide +kernel, rfl⟩
theorem d7_12 : Dc jdk_68_method_73_code 12 (.getfield 22) 3 15 := ⟨by decide +kernel, rfl⟩
theorem d7_15 : Dc jdk_68_method_73_code 15 (.invokevirtual 399) 3 18 := ⟨by decide +kernel, rfl⟩
theorem d7_18 : Dc jdk_68_method_73_code 18 (.return_) 1 19 := ⟨by decide +kernel, rfl⟩
theorem d8_0 : Dc jdk_68_method_22_code 0 (.aload_n 1) 1 1 := ⟨by decide +kernel, rfl⟩
theorem d8_1 : Db jdk_68_method_22_code 1 (.ifnonnull 8) 8 4 9 := ⟨by decide +kernel, rfl, by decide, by decide⟩
theorem d8_9 : Dc jdk_68_method_22_code 9 (.aload_n 1) 1 10 := ⟨by decide +kernel, rfl⟩
theorem d8_10 : Dc jdk_68_method_22_code 10 (.invokevirtual 32) 3 13 := ⟨by decide +kernel, rfl⟩
theorem d8_13 : Dc jdk_68_method_22_code 13 (.istore_n 2) 1 14 := ⟨by decide +kernel, rfl⟩
theorem d8_14 : Dc jdk_68_method_22_code 14 (.aload_n 0) 1 15 := ⟨by decide +kernel, rfl⟩
theorem d8_15 : Dc jdk_68_method_22_code 15 (.aload_n 0) 1 16 := ⟨by decide +kernel, rfl⟩
theorem d8_16 : Dc jdk_68_method_22_code 16 (.getfield 79) 3 19 := ⟨by decide +kernel, rfl⟩
theorem d8_19 : Dc jdk_68_method_22_code 19 (.iload_n 2) 1 20 := ⟨by decide +kernel, rfl⟩
theorem d8_20 : Dc jdk_68_method_22_code 20 (.iadd) 1 21 := ⟨by decide +kernel, rfl⟩
theorem d8_21 : Dc jdk_68_method_22_code 21 (.invokevirtual 100) 3 24 := ⟨by decide +kernel, rfl⟩
theorem d8_24 : Dc jdk_68_method_22_code 24 (.aload_n 0) 1 25 := ⟨by decide +kernel, rfl⟩
theorem d8_25 : Dc jdk_68_method_22_code 25 (.aload_n 0) 1 26 := ⟨by decide +kernel, rfl⟩
theorem d8_26 : Dc jdk_68_method_22_code 26 (.getfield 79) 3 29 := ⟨by decide +kernel, rfl⟩
theorem d8_29 : Dc jdk_68_method_22_code 29 (.aload_n 1) 1 30 := ⟨by decide +kernel, rfl⟩
theorem d8_30 : Dc jdk_68_method_22_code 30 (.invokevirtual 208) 3 33 := ⟨by decide +kernel, rfl⟩
theorem d8_33 : Dc jdk_68_method_22_code 33 (.aload_n 0) 1 34 := ⟨by decide +kernel, rfl⟩
theorem d8_34 : Dc jdk_68_method_22_code 34 (.dup) 1 35 := ⟨by decide +kernel, rfl⟩
theorem d8_35 : Dc jdk_68_method_22_code 35 (.getfield 79) 3 38 := ⟨by decide +kernel, rfl⟩
theorem d8_38 : Dc jdk_68_method_22_code 38 (.iload_n 2) 1 39 := ⟨by decide +kernel, rfl⟩
theorem d8_39 : Dc jdk_68_method_22_code 39 (.iadd) 1 40 := ⟨by decide +kernel, rfl⟩
theorem d8_40 : Dc jdk_68_method_22_code 40 (.putfield 79) 3 43 := ⟨by decide +kernel, rfl⟩
theorem d8_43 : Dc jdk_68_method_22_code 43 (.aload_n 0) 1 44 := ⟨by decide +kernel, rfl⟩
theorem d8_44 : Dc jdk_68_method_22_code 44 (.areturn) 1 45 := ⟨by decide +kernel, rfl⟩
theorem d9_0 : Dc jdk_67_method_7_code 0 (.aload_n 0) 1 1 := ⟨by decide +kernel, rfl⟩
theorem d9_1 : Dc jdk_67_method_7_code 1 (.aload_n 1) 1 2 := ⟨by decide +kernel, rfl⟩
theorem d9_2 : Dc jdk_67_method_7_code 2 (.invokespecial 29) 3 5 := ⟨by decide +kernel, rfl⟩
theorem d9_5 : Dc jdk_67_method_7_code 5 (.pop) 1 6 := ⟨by decide +kernel, rfl⟩
theorem d9_6 : Dc jdk_67_method_7_code 6 (.aload_n 0) 1 7 := ⟨by decide +kernel, rfl⟩
theorem d9_7 : Dc jdk_67_method_7_code 7 (.areturn) 1 8 := ⟨by decide +kernel, rfl⟩
theorem d10_0 : Dc jdk_65_method_131_code 0 (.iload_n 1) 1 1 := ⟨by decide +kernel, rfl⟩
theorem d10_1 : Dc jdk_65_method_131_code 1 (.iload_n 0) 1 2 := ⟨by decide +kernel, rfl⟩
theorem d10_2 : Db jdk_65_method_131_code 2 (.if_icmp .ge 35) 35 5 37 := ⟨by decide +kernel, rfl, by decide, by decide⟩
theorem d10_37 : Dc jdk_65_method_131_code 37 (.return_) 1 38 := ⟨by decide +kernel, rfl⟩
theorem d11_0 : Dc jdk_29_method_69_code 0 (.iload_n 0) 1 1 := ⟨by decide +kernel, rfl⟩
theorem d11_1 : Dc jdk_29_method_69_code 1 (.iload_n 1) 1 2 := ⟨by decide +kernel, rfl⟩
theorem d11_2 : Db jdk_29_method_69_code 2 (.if_icmp .gt 7) 7 5 9 := ⟨by decide +kernel, rfl, by decide, by decide⟩
theorem d11_9 : Dc jdk_29_method_69_code 9 (.iload_n 1) 1 10 := ⟨by decide +kernel, rfl⟩
theorem d11_10 : Dc jdk_29_method_69_code 10 (.ireturn) 1 11 := ⟨by decide +kernel, rfl⟩
theorem d11_5 : Dc jdk_29_method_69_code 5 (.iload_n 0) 1 6 := ⟨by decide +kernel, rfl⟩
theorem d11_6 : Db jdk_29_method_69_code 6 (.goto 4) 4 9 10 := ⟨by decide +kernel, rfl, by decide, by decide⟩
theorem d12_0 : Dc jdk_65_method_133_code 0 (.iload_n 1) 1 1 := ⟨by decide +kernel, rfl⟩
theorem d12_1 : Dc jdk_65_method_133_code 1 (.iload_n 2) 1 2 := ⟨by decide +kernel, rfl⟩
theorem d12_2 : Dc jdk_65_method_133_code 2 (.invokestatic 343) 3 5 := ⟨by decide +kernel, rfl⟩
theorem d12_5 : Dc jdk_65_method_133_code 5 (.iload_n 2) 1 6 := ⟨by decide +kernel, rfl⟩
theorem d12_6 : Dc jdk_65_method_133_code 6 (.iload_n 1) 1 7 := ⟨by decide +kernel, rfl⟩
theorem d12_7 : Dc jdk_65_method_133_code 7 (.isub) 1 8 := ⟨by decide +kernel, rfl⟩
theorem d12_8 : Dc jdk_65_method_133_code 8 (.istore_n 3) 1 9 := ⟨by decide +kernel, rfl⟩
theorem d12_9 : Dc jdk_65_method_133_code 9 (.iload_n 3) 1 10 := ⟨by decide +kernel, rfl⟩
theorem d12_10 : Dc jdk_65_method_133_code 10 (.newarray .byte) 2 12 := ⟨by decide +kernel, rfl⟩
theorem d12_12 : Dc jdk_65_method_133_code 12 (.astore 4) 2 14 := ⟨by decide +kernel, rfl⟩
theorem d12_14 : Dc jdk_65_method_133_code 14 (.aload_n 0) 1 15 := ⟨by decide +kernel, rfl⟩
theorem d12_15 : Dc jdk_65_method_133_code 15 (.iload_n 1) 1 16 := ⟨by decide +kernel, rfl⟩
theorem d12_16 : Dc jdk_65_method_133_code 16 (.aload 4) 2 18 := ⟨by decide +kernel, rfl⟩
theorem d12_18 : Dc jdk_65_method_133_code 18 (.iconst 0) 1 19 := ⟨by decide +kernel, rfl⟩
theorem d12_19 : Dc jdk_65_method_133_code 19 (.aload_n 0) 1 20 := ⟨by decide +kernel, rfl⟩
theorem d12_20 : Dc jdk_65_method_133_code 20 (.arraylength) 1 21 := ⟨by decide +kernel, rfl⟩
theorem d12_21 : Dc jdk_65_method_133_code 21 (.iload_n 1) 1 22 := ⟨by decide +kernel, rfl⟩
theorem d12_22 : Dc jdk_65_method_133_code 22 (.isub) 1 23 := ⟨by decide +kernel, rfl⟩
theorem d12_23 : Dc jdk_65_method_133_code 23 (.iload_n 3) 1 24 := ⟨by decide +kernel, rfl⟩
theorem d12_24 : Dc jdk_65_method_133_code 24 (.invokestatic 304) 3 27 := ⟨by decide +kernel, rfl⟩
theorem d12_27 : Dc jdk_65_method_133_code 27 (.invokestatic 150) 3 30 := ⟨by decide +kernel, rfl⟩
theorem d12_30 : Dc jdk_65_method_133_code 30 (.aload 4) 2 32 := ⟨by decide +kernel, rfl⟩
theorem d12_32 : Dc jdk_65_method_133_code 32 (.areturn) 1 33 := ⟨by decide +kernel, rfl⟩
theorem d13_0 : Dc jdk_65_method_132_code 0 (.iload_n 1) 1 1 := ⟨by decide +kernel, rfl⟩
theorem d13_1 : Db jdk_65_method_132_code 1 (.ifCond .ne 9) 9 4 10 := ⟨by decide +kernel, rfl, by decide, by decide⟩
theorem d13_4 : Dc jdk_65_method_132_code 4 (.iload_n 2) 1 5 := ⟨by decide +kernel, rfl⟩
theorem d13_5 : Dc jdk_65_method_132_code 5 (.aload_n 0) 1 6 := ⟨by decide +kernel, rfl⟩
theorem d13_6 : Dc jdk_65_method_132_code 6 (.arraylength) 1 7 := ⟨by decide +kernel, rfl⟩
theorem d13_7 : Db jdk_65_method_132_code 7 (.if_icmp .eq 10) 10 10 17 := ⟨by decide +kernel, rfl, by decide, by decide⟩
theorem d13_10 : Dc jdk_65_method_132_code 10 (.aload_n 0) 1 11 := ⟨by decide +kernel, rfl⟩
theorem d13_11 : Dc jdk_65_method_132_code 11 (.iload_n 1) 1 12 := ⟨by decide +kernel, rfl⟩
theorem d13_12 : Dc jdk_65_method_132_code 12 (.iload_n 2) 1 13 := ⟨by decide +kernel, rfl⟩
theorem d13_13 : Dc jdk_65_method_132_code 13 (.invokestatic 339) 3 16 := ⟨by decide +kernel, rfl⟩
theorem d13_16 : Dc jdk_65_method_132_code 16 (.areturn) 1 17 := ⟨by decide +kernel, rfl⟩
theorem d14_0 : Dc jdk_68_method_64_code 0 (.aload_n 0) 1 1 := ⟨by decide +kernel, rfl⟩
theorem d14_1 : Dc jdk_68_method_64_code 1 (.getfield 15) 3 4 := ⟨by decide +kernel, rfl⟩
theorem d14_4 : Dc jdk_68_method_64_code 4 (.areturn) 1 5 := ⟨by decide +kernel, rfl⟩
theorem d15_0 : Dc jdk_68_method_6_code 0 (.aload_n 0) 1 1 := ⟨by decide +kernel, rfl⟩
theorem d15_1 : Dc jdk_68_method_6_code 1 (.getfield 79) 3 4 := ⟨by decide +kernel, rfl⟩
theorem d15_4 : Dc jdk_68_method_6_code 4 (.ireturn) 1 5 := ⟨by decide +kernel, rfl⟩
theorem d16_0 : Dc jdk_67_method_93_code 0 (.aload_n 0) 1 1 := ⟨by decide +kernel, rfl⟩
theorem d16_1 : Dc jdk_67_method_93_code 1 (.invokespecial 343) 3 4 := ⟨by decide +kernel, rfl⟩
theorem d16_4 : Dc jdk_67_method_93_code 4 (.ireturn) 1 5 := ⟨by decide +kernel, rfl⟩
theorem d17_0 : Dc jdk_68_method_68_code 0 (.getstatic 18) 3 3 := ⟨by decide +kernel, rfl⟩
theorem d17_3 : Db jdk_68_method_68_code 3 (.ifCond .eq 14) 14 6 17 := ⟨by decide +kernel, rfl, by decide, by decide⟩
theorem d17_6 : Dc jdk_68_method_68_code 6 (.aload_n 0) 1 7 := ⟨by decide +kernel, rfl⟩
theorem d17_7 : Dc jdk_68_method_68_code 7 (.getfield 22) 3 10 := ⟨by decide +kernel, rfl⟩
theorem d17_10 : Db jdk_68_method_68_code 10 (.ifCond .ne 7) 7 13 17 := ⟨by decide +kernel, rfl, by decide, by decide⟩
theorem d17_13 : Dc jdk_68_method_68_code 13 (.iconst 1) 1 14 := ⟨by decide +kernel, rfl⟩
theorem d17_14 : Db jdk_68_method_68_code 14 (.goto 4) 4 17 18 := ⟨by decide +kernel, rfl, by decide, by decide⟩
theorem d17_18 : Dc jdk_68_method_68_code 18 (.ireturn) 1 19 := ⟨by decide +kernel, rfl⟩
theorem d18_0 : Dc jdk_42_method_150_code 0 (.aload_n 0) 1 1 := ⟨by decide +kernel, rfl⟩
theorem d18_1 : Dc jdk_42_method_150_code 1 (.invokespecial 1) 3 4 := ⟨by decide +kernel, rfl⟩
theorem d18_4 : Dc jdk_42_method_150_code 4 (.aload_n 1) 1 5 := ⟨by decide +kernel, rfl⟩
theorem d18_5 : Dc jdk_42_method_150_code 5 (.invokevirtual 552) 3 8 := ⟨by decide +kernel, rfl⟩
theorem d18_8 : Dc jdk_42_method_150_code 8 (.astore_n 3) 1 9 := ⟨by decide +kernel, rfl⟩
theorem d18_9 : Dc jdk_42_method_150_code 9 (.aload_n 1) 1 10 := ⟨by decide +kernel, rfl⟩
theorem d18_10 : Dc jdk_42_method_150_code 10 (.invokevirtual 549) 3 13 := ⟨by decide +kernel, rfl⟩
theorem d18_13 : Dc jdk_42_method_150_code 13 (.istore 4) 2 15 := ⟨by decide +kernel, rfl⟩
theorem d18_15 : Dc jdk_42_method_150_code 15 (.aload_n 1) 1 16 := ⟨by decide +kernel, rfl⟩
theorem d18_16 : Dc jdk_42_method_150_code 16 (.invokevirtual 1047) 3 19 := ⟨by decide +kernel, rfl⟩
theorem d18_19 : Db jdk_42_method_150_code 19 (.ifCond .eq 22) 22 22 41 := ⟨by decide +kernel, rfl, by decide, by decide⟩
theorem d18_22 : Dc jdk_42_method_150_code 22 (.aload_n 0) 1 23 := ⟨by decide +kernel, rfl⟩
theorem d18_23 : Dc jdk_42_method_150_code 23 (.iconst 0) 1 24 := ⟨by decide +kernel, rfl⟩
theorem d18_24 : Dc jdk_42_method_150_code 24 (.putfield 15) 3 27 := ⟨by decide +kernel, rfl⟩
theorem d18_27 : Dc jdk_42_method_150_code 27 (.aload_n 0) 1 28 := ⟨by decide +kernel, rfl⟩
theorem d18_28 : Dc jdk_42_method_150_code 28 (.aload_n 3) 1 29 := ⟨by decide +kernel, rfl⟩
theorem d18_29 : Dc jdk_42_method_150_code 29 (.iconst 0) 1 30 := ⟨by decide +kernel, rfl⟩
theorem d18_30 : Dc jdk_42_method_150_code 30 (.iload 4) 2 32 := ⟨by decide +kernel, rfl⟩
theorem d18_32 : Dc jdk_42_method_150_code 32 (.invokestatic 54) 3 35 := ⟨by decide +kernel, rfl⟩
theorem d18_35 : Dc jdk_42_method_150_code 35 (.putfield 9) 3 38 := ⟨by decide +kernel, rfl⟩
theorem d18_38 : Db jdk_42_method_150_code 38 (.goto 59) 59 41 97 := ⟨by decide +kernel, rfl, by decide, by decide⟩
theorem d18_97 : Dc jdk_42_method_150_code 97 (.return_) 1 98 := ⟨by decide +kernel, rfl⟩
theorem d19_0 : Dc jdk_42_method_53_code 0 (.aload_n 0) 1 1 := ⟨by decide +kernel, rfl⟩
theorem d19_1 : Dc jdk_42_method_53_code 1 (.aload_n 1) 1 2 := ⟨by decide +kernel, rfl⟩
theorem d19_2 : Dc jdk_42_method_53_code 2 (.aconst_null) 1 3 := ⟨by decide +kernel, rfl⟩
theorem d19_3 : Dc jdk_42_method_53_code 3 (.invokespecial 489) 3 6 := ⟨by decide +kernel, rfl⟩
theorem d19_6 : Dc jdk_42_method_53_code 6 (.return_) 1 7 := ⟨by decide +kernel, rfl⟩
theorem d20_0 : Dc jdk_67_method_42_code 0 (.new 18) 3 3 := ⟨by decide +kernel, rfl⟩
theorem d20_3 : Dc jdk_67_method_42_code 3 (.dup) 1 4 := ⟨by decide +kernel, rfl⟩
theorem d20_4 : Dc jdk_67_method_42_code 4 (.aload_n 0) 1 5 := ⟨by decide +kernel, rfl⟩
theorem d20_5 : Dc jdk_67_method_42_code 5 (.invokespecial 137) 3 8 := ⟨by decide +kernel, rfl⟩
theorem d20_8 : Dc jdk_67_method_42_code 8 (.areturn) 1 9 := ⟨by decide +kernel, rfl⟩
theorem d21_0 : Dc jdk_123_method_3_code 0 (.iload_n 1) 1 1 := ⟨by decide +kernel, rfl⟩
theorem d21_1 : Dc jdk_123_method_3_code 1 (.iload_n 2) 1 2 := ⟨by decide +kernel, rfl⟩
theorem d21_2 : Dc jdk_123_method_3_code 2 (.iadd) 1 3 := ⟨by decide +kernel, rfl⟩
theorem d21_3 : Dc jdk_123_method_3_code 3 (.istore_n 3) 1 4 := ⟨by decide +kernel, rfl⟩
theorem d21_4 : Dc jdk_123_method_3_code 4 (.iload_n 1) 1 5 := ⟨by decide +kernel, rfl⟩
theorem d21_5 : Dc jdk_123_method_3_code 5 (.istore 4) 2 7 := ⟨by decide +kernel, rfl⟩
theorem d21_7 : Dc jdk_123_method_3_code 7 (.iload 4) 2 9 := ⟨by decide +kernel, rfl⟩
theorem d21_9 : Dc jdk_123_method_3_code 9 (.iload_n 3) 1 10 := ⟨by decide +kernel, rfl⟩
theorem d21_10 : Db jdk_123_method_3_code 10 (.if_icmp .ge 21) 21 13 31 := ⟨by decide +kernel, rfl, by decide, by decide⟩
theorem d21_31 : Dc jdk_123_method_3_code 31 (.iload_n 2) 1 32 := ⟨by decide +kernel, rfl⟩
theorem d21_32 : Dc jdk_123_method_3_code 32 (.ireturn) 1 33 := ⟨by decide +kernel, rfl⟩
theorem d21_13 : Dc jdk_123_method_3_code 13 (.aload_n 0) 1 14 := ⟨by decide +kernel, rfl⟩
theorem d21_14 : Dc jdk_123_method_3_code 14 (.iload 4) 2 16 := ⟨by decide +kernel, rfl⟩
theorem d21_16 : Dc jdk_123_method_3_code 16 (.baload) 1 17 := ⟨by decide +kernel, rfl⟩
theorem d21_17 : Db jdk_123_method_3_code 17 (.ifCond .ge 8) 8 20 25 := ⟨by decide +kernel, rfl, by decide, by decide⟩
theorem d21_20 : Dc jdk_123_method_3_code 20 (.iload 4) 2 22 := ⟨by decide +kernel, rfl⟩
theorem d21_22 : Dc jdk_123_method_3_code 22 (.iload_n 1) 1 23 := ⟨by decide +kernel, rfl⟩
theorem d21_23 : Dc jdk_123_method_3_code 23 (.isub) 1 24 := ⟨by decide +kernel, rfl⟩
theorem d21_24 : Dc jdk_123_method_3_code 24 (.ireturn) 1 25 := ⟨by decide +kernel, rfl⟩
theorem d21_25 : Dc jdk_123_method_3_code 25 (.iinc 4 1) 3 28 := ⟨by decide +kernel, rfl⟩
theorem d21_28 : Db jdk_123_method_3_code 28 (.goto (-21)) (-21) 31 7 := ⟨by decide +kernel, rfl, by decide, by decide⟩
theorem d22_0 : Dc jdk_123_method_2_code 0 (.aload_n 0) 1 1 := ⟨by decide +kernel, rfl⟩
theorem d22_1 : Dc jdk_123_method_2_code 1 (.iload_n 1) 1 2 := ⟨by decide +kernel, rfl⟩
theorem d22_2 : Dc jdk_123_method_2_code 2 (.iload_n 2) 1 3 := ⟨by decide +kernel, rfl⟩
theorem d22_3 : Dc jdk_123_method_2_code 3 (.invokestatic 7) 3 6 := ⟨by decide +kernel, rfl⟩
theorem d22_6 : Dc jdk_123_method_2_code 6 (.iload_n 2) 1 7 := ⟨by decide +kernel, rfl⟩
theorem d22_7 : Db jdk_123_method_2_code 7 (.if_icmp .eq 7) 7 10 14 := ⟨by decide +kernel, rfl, by decide, by decide⟩
theorem d22_14 : Dc jdk_123_method_2_code 14 (.iconst 0) 1 15 := ⟨by decide +kernel, rfl⟩
theorem d22_15 : Dc jdk_123_method_2_code 15 (.ireturn) 1 16 := ⟨by decide +kernel, rfl⟩
theorem d22_10 : Dc jdk_123_method_2_code 10 (.iconst 1) 1 11 := ⟨by decide +kernel, rfl⟩
theorem d22_11 : Db jdk_123_method_2_code 11 (.goto 4) 4 14 15 := ⟨by decide +kernel, rfl, by decide, by decide⟩
theorem d23_0 : Dc jdk_52_method_3_code 0 (.iload_n 0) 1 1 := ⟨by decide +kernel, rfl⟩
theorem d23_1 : Db jdk_52_method_3_code 1 (.ifCond .ge 11) 11 4 12 := ⟨by decide +kernel, rfl, by decide, by decide⟩
theorem d23_12 : Dc jdk_52_method_3_code 12 (.iload_n 0) 1 13 := ⟨by decide +kernel, rfl⟩
theorem d23_13 : Dc jdk_52_method_3_code 13 (.ldc 20) 2 15 := ⟨by decide +kernel, rfl⟩
theorem d23_15 : Db jdk_52_method_3_code 15 (.if_icmp .lt 40) 40 18 55 := ⟨by decide +kernel, rfl, by decide, by decide⟩
theorem d23_55 : Dc jdk_52_method_3_code 55 (.iload_n 0) 1 56 := ⟨by decide +kernel, rfl⟩
theorem d23_56 : Dc jdk_52_method_3_code 56 (.iconst 1) 1 57 := ⟨by decide +kernel, rfl⟩
theorem d23_57 : Dc jdk_52_method_3_code 57 (.ishl) 1 58 := ⟨by decide +kernel, rfl⟩
theorem d23_58 : Dc jdk_52_method_3_code 58 (.ireturn) 1 59 := ⟨by decide +kernel, rfl⟩
theorem d24_0 : Dc jdk_52_method_2_code 0 (.iload_n 0) 1 1 := ⟨by decide +kernel, rfl⟩
theorem d24_1 : Dc jdk_52_method_2_code 1 (.invokestatic 11) 3 4 := ⟨by decide +kernel, rfl⟩
theorem d24_4 : Dc jdk_52_method_2_code 4 (.newarray .byte) 2 6 := ⟨by decide +kernel, rfl⟩
theorem d24_6 : Dc jdk_52_method_2_code 6 (.areturn) 1 7 := ⟨by decide +kernel, rfl⟩
theorem d25_0 : Dc jdk_65_method_121_code 0 (.iload_n 1) 1 1 := ⟨by decide +kernel, rfl⟩
theorem d25_1 : Dc jdk_65_method_121_code 1 (.aload_n 0) 1 2 := ⟨by decide +kernel, rfl⟩
theorem d25_2 : Dc jdk_65_method_121_code 2 (.arraylength) 1 3 := ⟨by decide +kernel, rfl⟩
theorem d25_3 : Db jdk_65_method_121_code 3 (.if_icmp .ne 11) 11 6 14 := ⟨by decide +kernel, rfl, by decide, by decide⟩
theorem d25_14 : Dc jdk_65_method_121_code 14 (.iload_n 1) 1 15 := ⟨by decide +kernel, rfl⟩
theorem d25_15 : Dc jdk_65_method_121_code 15 (.newarray .byte) 2 17 := ⟨by decide +kernel, rfl⟩
theorem d25_17 : Dc jdk_65_method_121_code 17 (.astore_n 2) 1 18 := ⟨by decide +kernel, rfl⟩
theorem d25_18 : Dc jdk_65_method_121_code 18 (.aload_n 0) 1 19 := ⟨by decide +kernel, rfl⟩
theorem d25_19 : Dc jdk_65_method_121_code 19 (.iconst 0) 1 20 := ⟨by decide +kernel, rfl⟩
theorem d25_20 : Dc jdk_65_method_121_code 20 (.aload_n 2) 1 21 := ⟨by decide +kernel, rfl⟩
theorem d25_21 : Dc jdk_65_method_121_code 21 (.iconst 0) 1 22 := ⟨by decide +kernel, rfl⟩
theorem d25_22 : Dc jdk_65_method_121_code 22 (.aload_n 0) 1 23 := ⟨by decide +kernel, rfl⟩
theorem d25_23 : Dc jdk_65_method_121_code 23 (.arraylength) 1 24 := ⟨by decide +kernel, rfl⟩
theorem d25_24 : Dc jdk_65_method_121_code 24 (.iload_n 1) 1 25 := ⟨by decide +kernel, rfl⟩
theorem d25_25 : Dc jdk_65_method_121_code 25 (.invokestatic 304) 3 28 := ⟨by decide +kernel, rfl⟩
theorem d25_28 : Dc jdk_65_method_121_code 28 (.invokestatic 150) 3 31 := ⟨by decide +kernel, rfl⟩
theorem d25_31 : Dc jdk_65_method_121_code 31 (.aload_n 2) 1 32 := ⟨by decide +kernel, rfl⟩
theorem d25_32 : Dc jdk_65_method_121_code 32 (.areturn) 1 33 := ⟨by decide +kernel, rfl⟩
theorem d26_0 : Dc jdk_42_method_46_code 0 (.iload_n 0) 1 1 := ⟨by decide +kernel, rfl⟩
theorem d26_1 : Dc jdk_42_method_46_code 1 (.iconst 1) 1 2 := ⟨by decide +kernel, rfl⟩
theorem d26_2 : Db jdk_42_method_46_code 2 (.if_icmp .ne 9) 9 5 11 := ⟨by decide +kernel, rfl, by decide, by decide⟩
theorem d26_11 : Dc jdk_42_method_46_code 11 (.aload_n 1) 1 12 := ⟨by decide +kernel, rfl⟩
theorem d26_12 : Dc jdk_42_method_46_code 12 (.iconst 0) 1 13 := ⟨by decide +kernel, rfl⟩
theorem d26_13 : Dc jdk_42_method_46_code 13 (.aload_n 1) 1 14 := ⟨by decide +kernel, rfl⟩
theorem d26_14 : Dc jdk_42_method_46_code 14 (.arraylength) 1 15 := ⟨by decide +kernel, rfl⟩
theorem d26_15 : Dc jdk_42_method_46_code 15 (.invokestatic 128) 3 18 := ⟨by decide +kernel, rfl⟩
theorem d26_18 : Db jdk_42_method_46_code 18 (.ifCond .ne 11) 11 21 29 := ⟨by decide +kernel, rfl, by decide, by decide⟩
theorem d26_21 : Dc jdk_42_method_46_code 21 (.aload_n 1) 1 22 := ⟨by decide +kernel, rfl⟩
theorem d26_22 : Dc jdk_42_method_46_code 22 (.invokevirtual 279) 3 25 := ⟨by decide +kernel, rfl⟩
theorem d26_25 : Dc jdk_42_method_46_code 25 (.checkcast 280) 3 28 := ⟨by decide +kernel, rfl⟩
theorem d26_28 : Dc jdk_42_method_46_code 28 (.areturn) 1 29 := ⟨by decide +kernel, rfl⟩
theorem d26_29 : Dc jdk_42_method_46_code 29 (.iconst 0) 1 30 := ⟨by decide +kernel, rfl⟩
theorem d26_30 : Dc jdk_42_method_46_code 30 (.istore_n 3) 1 31 := ⟨by decide +kernel, rfl⟩
theorem d26_31 : Dc jdk_42_method_46_code 31 (.aload_n 1) 1 32 := ⟨by decide +kernel, rfl⟩
theorem d26_32 : Dc jdk_42_method_46_code 32 (.arraylength) 1 33 := ⟨by decide +kernel, rfl⟩
theorem d26_33 : Dc jdk_42_method_46_code 33 (.invokestatic 60) 3 36 := ⟨by decide +kernel, rfl⟩
theorem d26_36 : Dc jdk_42_method_46_code 36 (.astore 4) 2 38 := ⟨by decide +kernel, rfl⟩
theorem d26_38 : Dc jdk_42_method_46_code 38 (.aload_n 1) 1 39 := ⟨by decide +kernel, rfl⟩
theorem d26_39 : Dc jdk_42_method_46_code 39 (.astore 5) 2 41 := ⟨by decide +kernel, rfl⟩
theorem d26_41 : Dc jdk_42_method_46_code 41 (.aload 5) 2 43 := ⟨by decide +kernel, rfl⟩
theorem d26_43 : Dc jdk_42_method_46_code 43 (.arraylength) 1 44 := ⟨by decide +kernel, rfl⟩
theorem d26_44 : Dc jdk_42_method_46_code 44 (.istore 6) 2 46 := ⟨by decide +kernel, rfl⟩
theorem d26_46 : Dc jdk_42_method_46_code 46 (.iconst 0) 1 47 := ⟨by decide +kernel, rfl⟩
theorem d26_47 : Dc jdk_42_method_46_code 47 (.istore 7) 2 49 := ⟨by decide +kernel, rfl⟩
theorem d26_49 : Dc jdk_42_method_46_code 49 (.iload 7) 2 51 := ⟨by decide +kernel, rfl⟩
theorem d26_51 : Dc jdk_42_method_46_code 51 (.iload 6) 2 53 := ⟨by decide +kernel, rfl⟩
theorem d26_53 : Db jdk_42_method_46_code 53 (.if_icmp .ge 71) 71 56 124 := ⟨by decide +kernel, rfl, by decide, by decide⟩
theorem d26_124 : Dc jdk_42_method_46_code 124 (.iload_n 3) 1 125 := ⟨by decide +kernel, rfl⟩
theorem d26_125 : Dc jdk_42_method_46_code 125 (.aload 4) 2 127 := ⟨by decide +kernel, rfl⟩
theorem d26_127 : Dc jdk_42_method_46_code 127 (.arraylength) 1 128 := ⟨by decide +kernel, rfl⟩
theorem d26_128 : Db jdk_42_method_46_code 128 (.if_icmp .ne 6) 6 131 134 := ⟨by decide +kernel, rfl, by decide, by decide⟩
theorem d26_131 : Dc jdk_42_method_46_code 131 (.aload 4) 2 133 := ⟨by decide +kernel, rfl⟩
theorem d26_133 : Dc jdk_42_method_46_code 133 (.areturn) 1 134 := ⟨by decide +kernel, rfl⟩
theorem d26_134 : Dc jdk_42_method_46_code 134 (.aload 4) 2 136 := ⟨by decide +kernel, rfl⟩
theorem d26_136 : Dc jdk_42_method_46_code 136 (.iload_n 3) 1 137 := ⟨by decide +kernel, rfl⟩
theorem d26_137 : Dc jdk_42_method_46_code 137 (.invokestatic 102) 3 140 := ⟨by decide +kernel, rfl⟩
theorem d26_140 : Dc jdk_42_method_46_code 140 (.areturn) 1 141 := ⟨by decide +kernel, rfl⟩
theorem d26_56 : Dc jdk_42_method_46_code 56 (.aload 5) 2 58 := ⟨by decide +kernel, rfl⟩
theorem d26_58 : Dc jdk_42_method_46_code 58 (.iload 7) 2 60 := ⟨by decide +kernel, rfl⟩
theorem d26_60 : Dc jdk_42_method_46_code 60 (.baload) 1 61 := ⟨by decide +kernel, rfl⟩
theorem d26_61 : Dc jdk_42_method_46_code 61 (.istore 8) 2 63 := ⟨by decide +kernel, rfl⟩
theorem d26_63 : Dc jdk_42_method_46_code 63 (.iload 8) 2 65 := ⟨by decide +kernel, rfl⟩
theorem d26_65 : Db jdk_42_method_46_code 65 (.ifCond .ge 44) 44 68 109 := ⟨by decide +kernel, rfl, by decide, by decide⟩
theorem d26_68 : Dc jdk_42_method_46_code 68 (.aload 4) 2 70 := ⟨by decide +kernel, rfl⟩
theorem d26_70 : Dc jdk_42_method_46_code 70 (.iload_n 3) 1 71 := ⟨by decide +kernel, rfl⟩
theorem d26_71 : Dc jdk_42_method_46_code 71 (.iinc 3 1) 3 74 := ⟨by decide +kernel, rfl⟩
theorem d26_74 : Dc jdk_42_method_46_code 74 (.sipush 192) 3 77 := ⟨by decide +kernel, rfl⟩
theorem d26_77 : Dc jdk_42_method_46_code 77 (.iload 8) 2 79 := ⟨by decide +kernel, rfl⟩
theorem d26_79 : Dc jdk_42_method_46_code 79 (.sipush 255) 3 82 := ⟨by decide +kernel, rfl⟩
theorem d26_82 : Dc jdk_42_method_46_code 82 (.iand) 1 83 := ⟨by decide +kernel, rfl⟩
theorem d26_83 : Dc jdk_42_method_46_code 83 (.bipush 6) 2 85 := ⟨by decide +kernel, rfl⟩
theorem d26_85 : Dc jdk_42_method_46_code 85 (.ishr) 1 86 := ⟨by decide +kernel, rfl⟩
theorem d26_86 : Dc jdk_42_method_46_code 86 (.ior) 1 87 := ⟨by decide +kernel, rfl⟩
theorem d26_87 : Dc jdk_42_method_46_code 87 (.i2b) 1 88 := ⟨by decide +kernel, rfl⟩
theorem d26_88 : Dc jdk_42_method_46_code 88 (.bastore) 1 89 := ⟨by decide +kernel, rfl⟩
theorem d26_89 : Dc jdk_42_method_46_code 89 (.aload 4) 2 91 := ⟨by decide +kernel, rfl⟩
theorem d26_91 : Dc jdk_42_method_46_code 91 (.iload_n 3) 1 92 := ⟨by decide +kernel, rfl⟩
theorem d26_92 : Dc jdk_42_method_46_code 92 (.iinc 3 1) 3 95 := ⟨by decide +kernel, rfl⟩
theorem d26_95 : Dc jdk_42_method_46_code 95 (.sipush 128) 3 98 := ⟨by decide +kernel, rfl⟩
theorem d26_98 : Dc jdk_42_method_46_code 98 (.iload 8) 2 100 := ⟨by decide +kernel, rfl⟩
theorem d26_100 : Dc jdk_42_method_46_code 100 (.bipush 63) 2 102 := ⟨by decide +kernel, rfl⟩
theorem d26_102 : Dc jdk_42_method_46_code 102 (.iand) 1 103 := ⟨by decide +kernel, rfl⟩
theorem d26_103 : Dc jdk_42_method_46_code 103 (.ior) 1 104 := ⟨by decide +kernel, rfl⟩
theorem d26_104 : Dc jdk_42_method_46_code 104 (.i2b) 1 105 := ⟨by decide +kernel, rfl⟩
theorem d26_105 : Dc jdk_42_method_46_code 105 (.bastore) 1 106 := ⟨by decide +kernel, rfl⟩
theorem d26_106 : Db jdk_42_method_46_code 106 (.goto 12) 12 109 118 := ⟨by decide +kernel, rfl, by decide, by decide⟩
theorem d26_118 : Dc jdk_42_method_46_code 118 (.iinc 7 1) 3 121 := ⟨by decide +kernel, rfl⟩
theorem d26_121 : Db jdk_42_method_46_code 121 (.goto (-72)) (-72) 124 49 := ⟨by decide +kernel, rfl, by decide, by decide⟩
theorem d26_109 : Dc jdk_42_method_46_code 109 (.aload 4) 2 111 := ⟨by decide +kernel, rfl⟩
theorem d26_111 : Dc jdk_42_method_46_code 111 (.iload_n 3) 1 112 := ⟨by decide +kernel, rfl⟩
theorem d26_112 : Dc jdk_42_method_46_code 112 (.iinc 3 1) 3 115 := ⟨by decide +kernel, rfl⟩
theorem d26_115 : Dc jdk_42_method_46_code 115 (.iload 8) 2 117 := ⟨by decide +kernel, rfl⟩
theorem d26_117 : Dc jdk_42_method_46_code 117 (.bastore) 1 118 := ⟨by decide +kernel, rfl⟩
theorem d27_0 : Dc jdk_42_method_154_code 0 (.getstatic 38) 3 3 := ⟨by decide +kernel, rfl⟩
theorem d27_3 : Db jdk_42_method_154_code 3 (.ifCond .eq 14) 14 6 17 := ⟨by decide +kernel, rfl, by decide, by decide⟩
theorem d27_6 : Dc jdk_42_method_154_code 6 (.aload_n 0) 1 7 := ⟨by decide +kernel, rfl⟩
theorem d27_7 : Dc jdk_42_method_154_code 7 (.getfield 15) 3 10 := ⟨by decide +kernel, rfl⟩
theorem d27_10 : Db jdk_42_method_154_code 10 (.ifCond .ne 7) 7 13 17 := ⟨by decide +kernel, rfl, by decide, by decide⟩
theorem d27_13 : Dc jdk_42_method_154_code 13 (.iconst 1) 1 14 := ⟨by decide +kernel, rfl⟩
theorem d27_14 : Db jdk_42_method_154_code 14 (.goto 4) 4 17 18 := ⟨by decide +kernel, rfl, by decide, by decide⟩
theorem d27_18 : Dc jdk_42_method_154_code 18 (.ireturn) 1 19 := ⟨by decide +kernel, rfl⟩
theorem d28_0 : Dc jdk_42_method_18_code 0 (.aload_n 0) 1 1 := ⟨by decide +kernel, rfl⟩
theorem d28_1 : Dc jdk_42_method_18_code 1 (.getstatic 86) 3 4 := ⟨by decide +kernel, rfl⟩
theorem d28_4 : Db jdk_42_method_18_code 4 (.if_acmp .ne 10) 10 7 14 := ⟨by decide +kernel, rfl, by decide, by decide⟩
theorem d28_7 : Dc jdk_42_method_18_code 7 (.iload_n 1) 1 8 := ⟨by decide +kernel, rfl⟩
theorem d28_8 : Dc jdk_42_method_18_code 8 (.aload_n 2) 1 9 := ⟨by decide +kernel, rfl⟩
theorem d28_9 : Dc jdk_42_method_18_code 9 (.iconst 1) 1 10 := ⟨by decide +kernel, rfl⟩
theorem d28_10 : Dc jdk_42_method_18_code 10 (.invokestatic 252) 3 13 := ⟨by decide +kernel, rfl⟩
theorem d28_13 : Dc jdk_42_method_18_code 13 (.areturn) 1 14 := ⟨by decide +kernel, rfl⟩
theorem d29_0 : Dc jdk_42_method_64_code 0 (.aload_n 1) 1 1 := ⟨by decide +kernel, rfl⟩
theorem d29_1 : Db jdk_42_method_64_code 1 (.ifnonnull 11) 11 4 12 := ⟨by decide +kernel, rfl, by decide, by decide⟩
theorem d29_12 : Dc jdk_42_method_64_code 12 (.aload_n 1) 1 13 := ⟨by decide +kernel, rfl⟩
theorem d29_13 : Dc jdk_42_method_64_code 13 (.aload_n 0) 1 14 := ⟨by decide +kernel, rfl⟩
theorem d29_14 : Dc jdk_42_method_64_code 14 (.invokevirtual 335) 3 17 := ⟨by decide +kernel, rfl⟩
theorem d29_17 : Dc jdk_42_method_64_code 17 (.aload_n 0) 1 18 := ⟨by decide +kernel, rfl⟩
theorem d29_18 : Dc jdk_42_method_64_code 18 (.getfield 9) 3 21 := ⟨by decide +kernel, rfl⟩
theorem d29_21 : Dc jdk_42_method_64_code 21 (.invokestatic 535) 3 24 := ⟨by decide +kernel, rfl⟩
theorem d29_24 : Dc jdk_42_method_64_code 24 (.areturn) 1 25 := ⟨by decide +kernel, rfl⟩
theorem d30_0 : Dc jdk_31_method_11_code 0 (.aload_n 0) 1 1 := ⟨by decide +kernel, rfl⟩
theorem d30_1 : Db jdk_31_method_11_code 1 (.ifnonnull 12) 12 4 13 := ⟨by decide +kernel, rfl, by decide, by decide⟩
theorem d30_13 : Dc jdk_31_method_11_code 13 (.aload_n 0) 1 14 := ⟨by decide +kernel, rfl⟩
theorem d30_14 : Dc jdk_31_method_11_code 14 (.areturn) 1 15 := ⟨by decide +kernel, rfl⟩
theorem d31_0 : Dc jdk_31_method_10_code 0 (.aload_n 0) 1 1 := ⟨by decide +kernel, rfl⟩
theorem d31_1 : Db jdk_31_method_10_code 1 (.ifnonnull 11) 11 4 12 := ⟨by decide +kernel, rfl, by decide, by decide⟩
theorem d31_12 : Dc jdk_31_method_10_code 12 (.aload_n 0) 1 13 := ⟨by decide +kernel, rfl⟩
theorem d31_13 : Dc jdk_31_method_10_code 13 (.areturn) 1 14 := ⟨by decide +kernel, rfl⟩
theorem d32_0 : Dc jdk_42_method_55_code 0 (.aload_n 0) 1 1 := ⟨by decide +kernel, rfl⟩
theorem d32_1 : Dc jdk_42_method_55_code 1 (.getfield 9) 3 4 := ⟨by decide +kernel, rfl⟩
theorem d32_4 : Dc jdk_42_method_55_code 4 (.arraylength) 1 5 := ⟨by decide +kernel, rfl⟩
theorem d32_5 : Db jdk_42_method_55_code 5 (.ifCond .ne 7) 7 8 12 := ⟨by decide +kernel, rfl, by decide, by decide⟩
theorem d32_12 : Dc jdk_42_method_55_code 12 (.iconst 0) 1 13 := ⟨by decide +kernel, rfl⟩
theorem d32_13 : Dc jdk_42_method_55_code 13 (.ireturn) 1 14 := ⟨by decide +kernel, rfl⟩
theorem d33_0 : Dc jdk_43_method_4_code 0 (.iload_n 0) 1 1 := ⟨by decide +kernel, rfl⟩
theorem d33_1 : Db jdk_43_method_4_code 1 (.ifCond .lt 14) 14 4 15 := ⟨by decide +kernel, rfl, by decide, by decide⟩
theorem d33_4 : Dc jdk_43_method_4_code 4 (.iload_n 0) 1 5 := ⟨by decide +kernel, rfl⟩
theorem d33_5 : Dc jdk_43_method_4_code 5 (.sipush 255) 3 8 := ⟨by decide +kernel, rfl⟩
theorem d33_8 : Db jdk_43_method_4_code 8 (.if_icmp .gt 7) 7 11 15 := ⟨by decide +kernel, rfl, by decide, by decide⟩
theorem d33_11 : Dc jdk_43_method_4_code 11 (.iconst 1) 1 12 := ⟨by decide +kernel, rfl⟩
theorem d33_12 : Db jdk_43_method_4_code 12 (.goto 4) 4 15 16 := ⟨by decide +kernel, rfl, by decide, by decide⟩
theorem d33_16 : Dc jdk_43_method_4_code 16 (.ireturn) 1 17 := ⟨by decide +kernel, rfl⟩
theorem d34_0 : Dc jdk_29_method_65_code 0 (.iload_n 0) 1 1 := ⟨by decide +kernel, rfl⟩
theorem d34_1 : Dc jdk_29_method_65_code 1 (.iload_n 1) 1 2 := ⟨by decide +kernel, rfl⟩
theorem d34_2 : Db jdk_29_method_65_code 2 (.if_icmp .lt 7) 7 5 9 := ⟨by decide +kernel, rfl, by decide, by decide⟩
theorem d34_9 : Dc jdk_29_method_65_code 9 (.iload_n 1) 1 10 := ⟨by decide +kernel, rfl⟩
theorem d34_10 : Dc jdk_29_method_65_code 10 (.ireturn) 1 11 := ⟨by decide +kernel, rfl⟩
theorem d34_5 : Dc jdk_29_method_65_code 5 (.iload_n 0) 1 6 := ⟨by decide +kernel, rfl⟩
theorem d34_6 : Db jdk_29_method_65_code 6 (.goto 4) 4 9 10 := ⟨by decide +kernel, rfl, by decide, by decide⟩
theorem d35_0 : Dc jdk_43_method_23_code 0 (.iload_n 1) 1 1 := ⟨by decide +kernel, rfl⟩
theorem d35_1 : Dc jdk_43_method_23_code 1 (.i2b) 1 2 := ⟨by decide +kernel, rfl⟩
theorem d35_2 : Dc jdk_43_method_23_code 2 (.istore 4) 2 4 := ⟨by decide +kernel, rfl⟩
theorem d35_4 : Dc jdk_43_method_23_code 4 (.iload_n 2) 1 5 := ⟨by decide +kernel, rfl⟩
theorem d35_5 : Dc jdk_43_method_23_code 5 (.istore 5) 2 7 := ⟨by decide +kernel, rfl⟩
theorem d35_7 : Dc jdk_43_method_23_code 7 (.iload 5) 2 9 := ⟨by decide +kernel, rfl⟩
theorem d35_9 : Dc jdk_43_method_23_code 9 (.iload_n 3) 1 10 := ⟨by decide +kernel, rfl⟩
theorem d35_10 : Db jdk_43_method_23_code 10 (.if_icmp .ge 21) 21 13 31 := ⟨by decide +kernel, rfl, by decide, by decide⟩
theorem d35_31 : Dc jdk_43_method_23_code 31 (.iconst (-1)) 1 32 := ⟨by decide +kernel, rfl⟩
theorem d35_32 : Dc jdk_43_method_23_code 32 (.ireturn) 1 33 := ⟨by decide +kernel, rfl⟩
theorem d35_13 : Dc jdk_43_method_23_code 13 (.aload_n 0) 1 14 := ⟨by decide +kernel, rfl⟩
theorem d35_14 : Dc jdk_43_method_23_code 14 (.iload 5) 2 16 := ⟨by decide +kernel, rfl⟩
theorem d35_16 : Dc jdk_43_method_23_code 16 (.baload) 1 17 := ⟨by decide +kernel, rfl⟩
theorem d35_17 : Dc jdk_43_method_23_code 17 (.iload 4) 2 19 := ⟨by decide +kernel, rfl⟩
theorem d35_19 : Db jdk_43_method_23_code 19 (.if_icmp .ne 6) 6 22 25 := ⟨by decide +kernel, rfl, by decide, by decide⟩
theorem d35_22 : Dc jdk_43_method_23_code 22 (.iload 5) 2 24 := ⟨by decide +kernel, rfl⟩
theorem d35_24 : Dc jdk_43_method_23_code 24 (.ireturn) 1 25 := ⟨by decide +kernel, rfl⟩
theorem d35_25 : Dc jdk_43_method_23_code 25 (.iinc 5 1) 3 28 := ⟨by decide +kernel, rfl⟩
theorem d35_28 : Db jdk_43_method_23_code 28 (.goto (-21)) (-21) 31 7 := ⟨by decide +kernel, rfl, by decide, by decide⟩
theorem d36_0 : Dc jdk_43_method_22_code 0 (.iload_n 1) 1 1 := ⟨by decide +kernel, rfl⟩
theorem d36_1 : Dc jdk_43_method_22_code 1 (.invokestatic 88) 3 4 := ⟨by decide +kernel, rfl⟩
theorem d36_4 : Db jdk_43_method_22_code 4 (.ifCond .ne 5) 5 7 9 := ⟨by decide +kernel, rfl, by decide, by decide⟩
theorem d36_9 : Dc jdk_43_method_22_code 9 (.iload_n 2) 1 10 := ⟨by decide +kernel, rfl⟩
theorem d36_10 : Dc jdk_43_method_22_code 10 (.iconst 0) 1 11 := ⟨by decide +kernel, rfl⟩
theorem d36_11 : Dc jdk_43_method_22_code 11 (.invokestatic 92) 3 14 := ⟨by decide +kernel, rfl⟩
theorem d36_14 : Dc jdk_43_method_22_code 14 (.istore_n 2) 1 15 := ⟨by decide +kernel, rfl⟩
theorem d36_15 : Dc jdk_43_method_22_code 15 (.iload_n 3) 1 16 := ⟨by decide +kernel, rfl⟩
theorem d36_16 : Dc jdk_43_method_22_code 16 (.aload_n 0) 1 17 := ⟨by decide +kernel, rfl⟩
theorem d36_17 : Dc jdk_43_method_22_code 17 (.arraylength) 1 18 := ⟨by decide +kernel, rfl⟩
theorem d36_18 : Dc jdk_43_method_22_code 18 (.invokestatic 38) 3 21 := ⟨by decide +kernel, rfl⟩
theorem d36_21 : Dc jdk_43_method_22_code 21 (.istore_n 3) 1 22 := ⟨by decide +kernel, rfl⟩
theorem d36_22 : Dc jdk_43_method_22_code 22 (.iload_n 2) 1 23 := ⟨by decide +kernel, rfl⟩
theorem d36_23 : Dc jdk_43_method_22_code 23 (.iload_n 3) 1 24 := ⟨by decide +kernel, rfl⟩
theorem d36_24 : Db jdk_43_method_22_code 24 (.if_icmp .lt 5) 5 27 29 := ⟨by decide +kernel, rfl, by decide, by decide⟩
theorem d36_29 : Dc jdk_43_method_22_code 29 (.aload_n 0) 1 30 := ⟨by decide +kernel, rfl⟩
theorem d36_30 : Dc jdk_43_method_22_code 30 (.iload_n 1) 1 31 := ⟨by decide +kernel, rfl⟩
theorem d36_31 : Dc jdk_43_method_22_code 31 (.iload_n 2) 1 32 := ⟨by decide +kernel, rfl⟩
theorem d36_32 : Dc jdk_43_method_22_code 32 (.iload_n 3) 1 33 := ⟨by decide +kernel, rfl⟩
theorem d36_33 : Dc jdk_43_method_22_code 33 (.invokestatic 95) 3 36 := ⟨by decide +kernel, rfl⟩
theorem d36_36 : Dc jdk_43_method_22_code 36 (.ireturn) 1 37 := ⟨by decide +kernel, rfl⟩
theorem d36_27 : Dc jdk_43_method_22_code 27 (.iconst (-1)) 1 28 := ⟨by decide +kernel, rfl⟩
theorem d36_28 : Dc jdk_43_method_22_code 28 (.ireturn) 1 29 := ⟨by decide +kernel, rfl⟩
theorem d37_0 : Dc jdk_42_method_80_code 0 (.aload_n 0) 1 1 := ⟨by decide +kernel, rfl⟩
theorem d37_1 : Dc jdk_42_method_80_code 1 (.invokevirtual 492) 3 4 := ⟨by decide +kernel, rfl⟩
theorem d37_4 : Db jdk_42_method_80_code 4 (.ifCond .eq 19) 19 7 23 := ⟨by decide +kernel, rfl, by decide, by decide⟩
theorem d37_7 : Dc jdk_42_method_80_code 7 (.aload_n 0) 1 8 := ⟨by decide +kernel, rfl⟩
theorem d37_8 : Dc jdk_42_method_80_code 8 (.getfield 9) 3 11 := ⟨by decide +kernel, rfl⟩
theorem d37_11 : Dc jdk_42_method_80_code 11 (.iload_n 1) 1 12 := ⟨by decide +kernel, rfl⟩
theorem d37_12 : Dc jdk_42_method_80_code 12 (.iload_n 2) 1 13 := ⟨by decide +kernel, rfl⟩
theorem d37_13 : Dc jdk_42_method_80_code 13 (.aload_n 0) 1 14 := ⟨by decide +kernel, rfl⟩
theorem d37_14 : Dc jdk_42_method_80_code 14 (.invokevirtual 505) 3 17 := ⟨by decide +kernel, rfl⟩
theorem d37_17 : Dc jdk_42_method_80_code 17 (.invokestatic 637) 3 20 := ⟨by decide +kernel, rfl⟩
theorem d37_20 : Db jdk_42_method_80_code 20 (.goto 16) 16 23 36 := ⟨by decide +kernel, rfl, by decide, by decide⟩
theorem d37_36 : Dc jdk_42_method_80_code 36 (.ireturn) 1 37 := ⟨by decide +kernel, rfl⟩
theorem d38_0 : Dc jdk_42_method_79_code 0 (.aload_n 0) 1 1 := ⟨by decide +kernel, rfl⟩
theorem d38_1 : Dc jdk_42_method_79_code 1 (.iload_n 1) 1 2 := ⟨by decide +kernel, rfl⟩
theorem d38_2 : Dc jdk_42_method_79_code 2 (.iconst 0) 1 3 := ⟨by decide +kernel, rfl⟩
theorem d38_3 : Dc jdk_42_method_79_code 3 (.invokevirtual 633) 3 6 := ⟨by decide +kernel, rfl⟩
theorem d38_6 : Dc jdk_42_method_79_code 6 (.ireturn) 1 7 := ⟨by decide +kernel, rfl⟩
theorem d39_0 : Dc jdk_41_method_11_code 0 (.iload_n 0) 1 1 := ⟨by decide +kernel, rfl⟩
theorem d39_1 : Db jdk_41_method_11_code 1 (.ifCond .lt 8) 8 4 9 := ⟨by decide +kernel, rfl, by decide, by decide⟩
theorem d39_4 : Dc jdk_41_method_11_code 4 (.iload_n 0) 1 5 := ⟨by decide +kernel, rfl⟩
theorem d39_5 : Dc jdk_41_method_11_code 5 (.iload_n 1) 1 6 := ⟨by decide +kernel, rfl⟩
theorem d39_6 : Db jdk_41_method_11_code 6 (.if_icmp .lt 10) 10 9 16 := ⟨by decide +kernel, rfl, by decide, by decide⟩
theorem d39_16 : Dc jdk_41_method_11_code 16 (.iload_n 0) 1 17 := ⟨by decide +kernel, rfl⟩
theorem d39_17 : Dc jdk_41_method_11_code 17 (.ireturn) 1 18 := ⟨by decide +kernel, rfl⟩
theorem d40_0 : Dc jdk_42_method_155_code 0 (.iload_n 0) 1 1 := ⟨by decide +kernel, rfl⟩
theorem d40_1 : Dc jdk_42_method_155_code 1 (.iload_n 1) 1 2 := ⟨by decide +kernel, rfl⟩
theorem d40_2 : Dc jdk_42_method_155_code 2 (.getstatic 1053) 3 5 := ⟨by decide +kernel, rfl⟩
theorem d40_5 : Dc jdk_42_method_155_code 5 (.invokestatic 1059) 3 8 := ⟨by decide +kernel, rfl⟩
theorem d40_8 : Dc jdk_42_method_155_code 8 (.pop) 1 9 := ⟨by decide +kernel, rfl⟩
theorem d40_9 : Dc jdk_42_method_155_code 9 (.return_) 1 10 := ⟨by decide +kernel, rfl⟩
theorem d41_0 : Dc jdk_43_method_2_code 0 (.iload_n 1) 1 1 := ⟨by decide +kernel, rfl⟩
theorem d41_1 : Dc jdk_43_method_2_code 1 (.aload_n 0) 1 2 := ⟨by decide +kernel, rfl⟩
theorem d41_2 : Dc jdk_43_method_2_code 2 (.arraylength) 1 3 := ⟨by decide +kernel, rfl⟩
theorem d41_3 : Dc jdk_43_method_2_code 3 (.invokestatic 9) 3 6 := ⟨by decide +kernel, rfl⟩
theorem d41_6 : Dc jdk_43_method_2_code 6 (.aload_n 0) 1 7 := ⟨by decide +kernel, rfl⟩
theorem d41_7 : Dc jdk_43_method_2_code 7 (.iload_n 1) 1 8 := ⟨by decide +kernel, rfl⟩
theorem d41_8 : Dc jdk_43_method_2_code 8 (.baload) 1 9 := ⟨by decide +kernel, rfl⟩
theorem d41_9 : Dc jdk_43_method_2_code 9 (.sipush 255) 3 12 := ⟨by decide +kernel, rfl⟩
theorem d41_12 : Dc jdk_43_method_2_code 12 (.iand) 1 13 := ⟨by decide +kernel, rfl⟩
theorem d41_13 : Dc jdk_43_method_2_code 13 (.i2c) 1 14 := ⟨by decide +kernel, rfl⟩
theorem d41_14 : Dc jdk_43_method_2_code 14 (.ireturn) 1 15 := ⟨by decide +kernel, rfl⟩
theorem d42_0 : Dc jdk_42_method_56_code 0 (.aload_n 0) 1 1 := ⟨by decide +kernel, rfl⟩
theorem d42_1 : Dc jdk_42_method_56_code 1 (.invokevirtual 492) 3 4 := ⟨by decide +kernel, rfl⟩
theorem d42_4 : Db jdk_42_method_56_code 4 (.ifCond .eq 12) 12 7 16 := ⟨by decide +kernel, rfl, by decide, by decide⟩
theorem d42_7 : Dc jdk_42_method_56_code 7 (.aload_n 0) 1 8 := ⟨by decide +kernel, rfl⟩
theorem d42_8 : Dc jdk_42_method_56_code 8 (.getfield 9) 3 11 := ⟨by decide +kernel, rfl⟩
theorem d42_11 : Dc jdk_42_method_56_code 11 (.iload_n 1) 1 12 := ⟨by decide +kernel, rfl⟩
theorem d42_12 : Dc jdk_42_method_56_code 12 (.invokestatic 495) 3 15 := ⟨by decide +kernel, rfl⟩
theorem d42_15 : Dc jdk_42_method_56_code 15 (.ireturn) 1 16 := ⟨by decide +kernel, rfl⟩
theorem d43_0 : Dc method_3_code 0 (.iload_n 2) 1 1 := ⟨by decide +kernel, rfl⟩
theorem d43_1 : Dc method_3_code 1 (.sipush 128) 3 4 := ⟨by decide +kernel, rfl⟩
theorem d43_4 : Db method_3_code 4 (.if_icmp .ge 11) 11 7 15 := ⟨by decide +kernel, rfl, by decide, by decide⟩
theorem d43_7 : Dc method_3_code 7 (.aload_n 0) 1 8 := ⟨by decide +kernel, rfl⟩
theorem d43_8 : Dc method_3_code 8 (.iload_n 1) 1 9 := ⟨by decide +kernel, rfl⟩
theorem d43_9 : Dc method_3_code 9 (.iload_n 2) 1 10 := ⟨by decide +kernel, rfl⟩
theorem d43_10 : Dc method_3_code 10 (.iastore) 1 11 := ⟨by decide +kernel, rfl⟩
theorem d43_11 : Dc method_3_code 11 (.iload_n 1) 1 12 := ⟨by decide +kernel, rfl⟩
theorem d43_12 : Dc method_3_code 12 (.iconst 1) 1 13 := ⟨by decide +kernel, rfl⟩
theorem d43_13 : Dc method_3_code 13 (.iadd) 1 14 := ⟨by decide +kernel, rfl⟩
theorem d43_14 : Dc method_3_code 14 (.ireturn) 1 15 := ⟨by decide +kernel, rfl⟩
theorem d43_15 : Dc method_3_code 15 (.aload_n 0) 1 16 := ⟨by decide +kernel, rfl⟩
theorem d43_16 : Dc method_3_code 16 (.iload_n 1) 1 17 := ⟨by decide +kernel, rfl⟩
theorem d43_17 : Dc method_3_code 17 (.sipush 192) 3 20 := ⟨by decide +kernel, rfl⟩
theorem d43_20 : Dc method_3_code 20 (.iload_n 2) 1 21 := ⟨by decide +kernel, rfl⟩
theorem d43_21 : Dc method_3_code 21 (.bipush 6) 2 23 := ⟨by decide +kernel, rfl⟩
theorem d43_23 : Dc method_3_code 23 (.ishr) 1 24 := ⟨by decide +kernel, rfl⟩
theorem d43_24 : Dc method_3_code 24 (.ior) 1 25 := ⟨by decide +kernel, rfl⟩
theorem d43_25 : Dc method_3_code 25 (.iastore) 1 26 := ⟨by decide +kernel, rfl⟩
theorem d43_26 : Dc method_3_code 26 (.aload_n 0) 1 27 := ⟨by decide +kernel, rfl⟩
theorem d43_27 : Dc method_3_code 27 (.iload_n 1) 1 28 := ⟨by decide +kernel, rfl⟩
theorem d43_28 : Dc method_3_code 28 (.iconst 1) 1 29 := ⟨by decide +kernel, rfl⟩
theorem d43_29 : Dc method_3_code 29 (.iadd) 1 30 := ⟨by decide +kernel, rfl⟩
theorem d43_30 : Dc method_3_code 30 (.sipush 128) 3 33 := ⟨by decide +kernel, rfl⟩
theorem d43_33 : Dc method_3_code 33 (.iload_n 2) 1 34 := ⟨by decide +kernel, rfl⟩
theorem d43_34 : Dc method_3_code 34 (.bipush 63) 2 36 := ⟨by decide +kernel, rfl⟩
theorem d43_36 : Dc method_3_code 36 (.iand) 1 37 := ⟨by decide +kernel, rfl⟩
theorem d43_37 : Dc method_3_code 37 (.ior) 1 38 := ⟨by decide +kernel, rfl⟩
theorem d43_38 : Dc method_3_code 38 (.iastore) 1 39 := ⟨by decide +kernel, rfl⟩
theorem d43_39 : Dc method_3_code 39 (.iload_n 1) 1 40 := ⟨by decide +kernel, rfl⟩
theorem d43_40 : Dc method_3_code 40 (.iconst 2) 1 41 := ⟨by decide +kernel, rfl⟩
theorem d43_41 : Dc method_3_code 41 (.iadd) 1 42 := ⟨by decide +kernel, rfl⟩
theorem d43_42 : Dc method_3_code 42 (.ireturn) 1 43 := ⟨by decide +kernel, rfl⟩
theorem d44_0 : Dc method_4_code 0 (.iload_n 0) 1 1 := ⟨by decide +kernel, rfl⟩
theorem d44_1 : Db method_4_code 1 (.ifCond .ne 6) 6 4 7 := ⟨by decide +kernel, rfl, by decide, by decide⟩
theorem d44_4 : Dc method_4_code 4 (.bipush 107) 2 6 := ⟨by decide +kernel, rfl⟩
theorem d44_6 : Dc method_4_code 6 (.ireturn) 1 7 := ⟨by decide +kernel, rfl⟩
theorem d44_7 : Dc method_4_code 7 (.iload_n 0) 1 8 := ⟨by decide +kernel, rfl⟩
theorem d44_8 : Dc method_4_code 8 (.iconst 1) 1 9 := ⟨by decide +kernel, rfl⟩
theorem d44_9 : Db method_4_code 9 (.if_icmp .ne 6) 6 12 15 := ⟨by decide +kernel, rfl, by decide, by decide⟩
theorem d44_12 : Dc method_4_code 12 (.bipush 113) 2 14 := ⟨by decide +kernel, rfl⟩
theorem d44_14 : Dc method_4_code 14 (.ireturn) 1 15 := ⟨by decide +kernel, rfl⟩
theorem d44_15 : Dc method_4_code 15 (.iload_n 0) 1 16 := ⟨by decide +kernel, rfl⟩
theorem d44_16 : Dc method_4_code 16 (.iconst 2) 1 17 := ⟨by decide +kernel, rfl⟩
theorem d44_17 : Db method_4_code 17 (.if_icmp .ne 6) 6 20 23 := ⟨by decide +kernel, rfl, by decide, by decide⟩
theorem d44_20 : Dc method_4_code 20 (.bipush 58) 2 22 := ⟨by decide +kernel, rfl⟩
theorem d44_22 : Dc method_4_code 22 (.ireturn) 1 23 := ⟨by decide +kernel, rfl⟩
theorem d44_23 : Dc method_4_code 23 (.iload_n 0) 1 24 := ⟨by decide +kernel, rfl⟩
theorem d44_24 : Dc method_4_code 24 (.iconst 3) 1 25 := ⟨by decide +kernel, rfl⟩
theorem d44_25 : Db method_4_code 25 (.if_icmp .ne 6) 6 28 31 := ⟨by decide +kernel, rfl, by decide, by decide⟩
theorem d44_28 : Dc method_4_code 28 (.bipush 123) 2 30 := ⟨by decide +kernel, rfl⟩
theorem d44_30 : Dc method_4_code 30 (.ireturn) 1 31 := ⟨by decide +kernel, rfl⟩
theorem d44_31 : Dc method_4_code 31 (.iload_n 0) 1 32 := ⟨by decide +kernel, rfl⟩
theorem d44_32 : Dc method_4_code 32 (.iconst 4) 1 33 := ⟨by decide +kernel, rfl⟩
theorem d44_33 : Dc method_4_code 33 (.iload_n 2) 1 34 := ⟨by decide +kernel, rfl⟩
theorem d44_34 : Dc method_4_code 34 (.iadd) 1 35 := ⟨by decide +kernel, rfl⟩
theorem d44_35 : Db method_4_code 35 (.if_icmp .ge 9) 9 38 44 := ⟨by decide +kernel, rfl, by decide, by decide⟩
theorem d44_38 : Dc method_4_code 38 (.aload_n 1) 1 39 := ⟨by decide +kernel, rfl⟩
theorem d44_39 : Dc method_4_code 39 (.iload_n 0) 1 40 := ⟨by decide +kernel, rfl⟩
theorem d44_40 : Dc method_4_code 40 (.iconst 4) 1 41 := ⟨by decide +kernel, rfl⟩
theorem d44_41 : Dc method_4_code 41 (.isub) 1 42 := ⟨by decide +kernel, rfl⟩
theorem d44_42 : Dc method_4_code 42 (.iaload) 1 43 := ⟨by decide +kernel, rfl⟩
theorem d44_43 : Dc method_4_code 43 (.ireturn) 1 44 := ⟨by decide +kernel, rfl⟩
theorem d44_44 : Dc method_4_code 44 (.iload_n 0) 1 45 := ⟨by decide +kernel, rfl⟩
theorem d44_45 : Dc method_4_code 45 (.iconst 4) 1 46 := ⟨by decide +kernel, rfl⟩
theorem d44_46 : Dc method_4_code 46 (.iload_n 2) 1 47 := ⟨by decide +kernel, rfl⟩
theorem d44_47 : Dc method_4_code 47 (.iadd) 1 48 := ⟨by decide +kernel, rfl⟩
theorem d44_48 : Db method_4_code 48 (.if_icmp .ne 6) 6 51 54 := ⟨by decide +kernel, rfl, by decide, by decide⟩
theorem d44_51 : Dc method_4_code 51 (.bipush 125) 2 53 := ⟨by decide +kernel, rfl⟩
theorem d44_53 : Dc method_4_code 53 (.ireturn) 1 54 := ⟨by decide +kernel, rfl⟩
theorem d44_54 : Dc method_4_code 54 (.iload_n 0) 1 55 := ⟨by decide +kernel, rfl⟩
theorem d44_55 : Dc method_4_code 55 (.iconst 5) 1 56 := ⟨by decide +kernel, rfl⟩
theorem d44_56 : Dc method_4_code 56 (.iload_n 2) 1 57 := ⟨by decide +kernel, rfl⟩
theorem d44_57 : Dc method_4_code 57 (.iadd) 1 58 := ⟨by decide +kernel, rfl⟩
theorem d44_58 : Db method_4_code 58 (.if_icmp .ne 6) 6 61 64 := ⟨by decide +kernel, rfl, by decide, by decide⟩
theorem d44_61 : Dc method_4_code 61 (.bipush 58) 2 63 := ⟨by decide +kernel, rfl⟩
theorem d44_63 : Dc method_4_code 63 (.ireturn) 1 64 := ⟨by decide +kernel, rfl⟩
theorem d44_64 : Dc method_4_code 64 (.aload_n 3) 1 65 := ⟨by decide +kernel, rfl⟩
theorem d44_65 : Dc method_4_code 65 (.iload_n 0) 1 66 := ⟨by decide +kernel, rfl⟩
theorem d44_66 : Dc method_4_code 66 (.bipush 6) 2 68 := ⟨by decide +kernel, rfl⟩
theorem d44_68 : Dc method_4_code 68 (.isub) 1 69 := ⟨by decide +kernel, rfl⟩
theorem d44_69 : Dc method_4_code 69 (.iload_n 2) 1 70 := ⟨by decide +kernel, rfl⟩
theorem d44_70 : Dc method_4_code 70 (.isub) 1 71 := ⟨by decide +kernel, rfl⟩
theorem d44_71 : Dc method_4_code 71 (.invokevirtual 57) 3 74 := ⟨by decide +kernel, rfl⟩
theorem d44_74 : Dc method_4_code 74 (.ireturn) 1 75 := ⟨by decide +kernel, rfl⟩
theorem d45_0 : Dc method_5_code 0 (.iload_n 1) 1 1 := ⟨by decide +kernel, rfl⟩
theorem d45_1 : Dc method_5_code 1 (.aload_n 0) 1 2 := ⟨by decide +kernel, rfl⟩
theorem d45_2 : Dc method_5_code 2 (.arraylength) 1 3 := ⟨by decide +kernel, rfl⟩
theorem d45_3 : Db method_5_code 3 (.if_icmp .ge 21) 21 6 24 := ⟨by decide +kernel, rfl, by decide, by decide⟩
theorem d45_6 : Dc method_5_code 6 (.aload_n 0) 1 7 := ⟨by decide +kernel, rfl⟩
theorem d45_7 : Dc method_5_code 7 (.iload_n 1) 1 8 := ⟨by decide +kernel, rfl⟩
theorem d45_8 : Dc method_5_code 8 (.baload) 1 9 := ⟨by decide +kernel, rfl⟩
theorem d45_9 : Dc method_5_code 9 (.sipush 255) 3 12 := ⟨by decide +kernel, rfl⟩
theorem d45_12 : Dc method_5_code 12 (.iand) 1 13 := ⟨by decide +kernel, rfl⟩
theorem d45_13 : Dc method_5_code 13 (.iload_n 1) 1 14 := ⟨by decide +kernel, rfl⟩
theorem d45_14 : Dc method_5_code 14 (.aload_n 2) 1 15 := ⟨by decide +kernel, rfl⟩
theorem d45_15 : Dc method_5_code 15 (.iload_n 3) 1 16 := ⟨by decide +kernel, rfl⟩
theorem d45_16 : Dc method_5_code 16 (.aload 4) 2 18 := ⟨by decide +kernel, rfl⟩
theorem d45_18 : Dc method_5_code 18 (.invokestatic 61) 3 21 := ⟨by decide +kernel, rfl⟩
theorem d45_21 : Db method_5_code 21 (.if_icmp .ne 7) 7 24 28 := ⟨by decide +kernel, rfl, by decide, by decide⟩
theorem d45_24 : Dc method_5_code 24 (.iconst 1) 1 25 := ⟨by decide +kernel, rfl⟩
theorem d45_25 : Db method_5_code 25 (.goto 4) 4 28 29 := ⟨by decide +kernel, rfl, by decide, by decide⟩
theorem d45_29 : Dc method_5_code 29 (.ireturn) 1 30 := ⟨by decide +kernel, rfl⟩
theorem d46_0 : Dc method_6_code 0 (.aload_n 0) 1 1 := ⟨by decide +kernel, rfl⟩
theorem d46_1 : Db method_6_code 1 (.ifnull 17) 17 4 18 := ⟨by decide +kernel, rfl, by decide, by decide⟩
theorem d46_4 : Dc method_6_code 4 (.aload_n 0) 1 5 := ⟨by decide +kernel, rfl⟩
theorem d46_5 : Dc method_6_code 5 (.arraylength) 1 6 := ⟨by decide +kernel, rfl⟩
theorem d46_6 : Dc method_6_code 6 (.bipush 6) 2 8 := ⟨by decide +kernel, rfl⟩
theorem d46_8 : Dc method_6_code 8 (.iload_n 2) 1 9 := ⟨by decide +kernel, rfl⟩
theorem d46_9 : Dc method_6_code 9 (.iadd) 1 10 := ⟨by decide +kernel, rfl⟩
theorem d46_10 : Dc method_6_code 10 (.aload_n 3) 1 11 := ⟨by decide +kernel, rfl⟩
theorem d46_11 : Dc method_6_code 11 (.invokevirtual 65) 3 14 := ⟨by decide +kernel, rfl⟩
theorem d46_14 : Dc method_6_code 14 (.iadd) 1 15 := ⟨by decide +kernel, rfl⟩
theorem d46_15 : Db method_6_code 15 (.if_icmp .eq 5) 5 18 20 := ⟨by decide +kernel, rfl, by decide, by decide⟩
theorem d46_20 : Dc method_6_code 20 (.aload_n 0) 1 21 := ⟨by decide +kernel, rfl⟩
theorem d46_21 : Dc method_6_code 21 (.iconst 0) 1 22 := ⟨by decide +kernel, rfl⟩
theorem d46_22 : Dc method_6_code 22 (.aload_n 1) 1 23 := ⟨by decide +kernel, rfl⟩
theorem d46_23 : Dc method_6_code 23 (.iload_n 2) 1 24 := ⟨by decide +kernel, rfl⟩
theorem d46_24 : Dc method_6_code 24 (.aload_n 3) 1 25 := ⟨by decide +kernel, rfl⟩
theorem d46_25 : Dc method_6_code 25 (.invokestatic 68) 3 28 := ⟨by decide +kernel, rfl⟩
theorem d46_28 : Db method_6_code 28 (.ifCond .eq 194) 194 31 222 := ⟨by decide +kernel, rfl, by decide, by decide⟩
theorem d46_31 : Dc method_6_code 31 (.aload_n 0) 1 32 := ⟨by decide +kernel, rfl⟩
theorem d46_32 : Dc method_6_code 32 (.iconst 1) 1 33 := ⟨by decide +kernel, rfl⟩
theorem d46_33 : Dc method_6_code 33 (.aload_n 1) 1 34 := ⟨by decide +kernel, rfl⟩
theorem d46_34 : Dc method_6_code 34 (.iload_n 2) 1 35 := ⟨by decide +kernel, rfl⟩
theorem d46_35 : Dc method_6_code 35 (.aload_n 3) 1 36 := ⟨by decide +kernel, rfl⟩
theorem d46_36 : Dc method_6_code 36 (.invokestatic 68) 3 39 := ⟨by decide +kernel, rfl⟩
theorem d46_39 : Db method_6_code 39 (.ifCond .eq 183) 183 42 222 := ⟨by decide +kernel, rfl, by decide, by decide⟩
theorem d46_42 : Dc method_6_code 42 (.aload_n 0) 1 43 := ⟨by decide +kernel, rfl⟩
theorem d46_43 : Dc method_6_code 43 (.iconst 2) 1 44 := ⟨by decide +kernel, rfl⟩
theorem d46_44 : Dc method_6_code 44 (.aload_n 1) 1 45 := ⟨by decide +kernel, rfl⟩
theorem d46_45 : Dc method_6_code 45 (.iload_n 2) 1 46 := ⟨by decide +kernel, rfl⟩
theorem d46_46 : Dc method_6_code 46 (.aload_n 3) 1 47 := ⟨by decide +kernel, rfl⟩
theorem d46_47 : Dc method_6_code 47 (.invokestatic 68) 3 50 := ⟨by decide +kernel, rfl⟩
theorem d46_50 : Db method_6_code 50 (.ifCond .eq 172) 172 53 222 := ⟨by decide +kernel, rfl, by decide, by decide⟩
theorem d46_53 : Dc method_6_code 53 (.aload_n 0) 1 54 := ⟨by decide +kernel, rfl⟩
theorem d46_54 : Dc method_6_code 54 (.iconst 3) 1 55 := ⟨by decide +kernel, rfl⟩
theorem d46_55 : Dc method_6_code 55 (.aload_n 1) 1 56 := ⟨by decide +kernel, rfl⟩
theorem d46_56 : Dc method_6_code 56 (.iload_n 2) 1 57 := ⟨by decide +kernel, rfl⟩
theorem d46_57 : Dc method_6_code 57 (.aload_n 3) 1 58 := ⟨by decide +kernel, rfl⟩
theorem d46_58 : Dc method_6_code 58 (.invokestatic 68) 3 61 := ⟨by decide +kernel, rfl⟩
theorem d46_61 : Db method_6_code 61 (.ifCond .eq 161) 161 64 222 := ⟨by decide +kernel, rfl, by decide, by decide⟩
theorem d46_64 : Dc method_6_code 64 (.aload_n 0) 1 65 := ⟨by decide +kernel, rfl⟩
theorem d46_65 : Dc method_6_code 65 (.iconst 4) 1 66 := ⟨by decide +kernel, rfl⟩
theorem d46_66 : Dc method_6_code 66 (.aload_n 1) 1 67 := ⟨by decide +kernel, rfl⟩
theorem d46_67 : Dc method_6_code 67 (.iload_n 2) 1 68 := ⟨by decide +kernel, rfl⟩
theorem d46_68 : Dc method_6_code 68 (.aload_n 3) 1 69 := ⟨by decide +kernel, rfl⟩
theorem d46_69 : Dc method_6_code 69 (.invokestatic 68) 3 72 := ⟨by decide +kernel, rfl⟩
theorem d46_72 : Db method_6_code 72 (.ifCond .eq 150) 150 75 222 := ⟨by decide +kernel, rfl, by decide, by decide⟩
theorem d46_75 : Dc method_6_code 75 (.aload_n 0) 1 76 := ⟨by decide +kernel, rfl⟩
theorem d46_76 : Dc method_6_code 76 (.iconst 5) 1 77 := ⟨by decide +kernel, rfl⟩
theorem d46_77 : Dc method_6_code 77 (.aload_n 1) 1 78 := ⟨by decide +kernel, rfl⟩
theorem d46_78 : Dc method_6_code 78 (.iload_n 2) 1 79 := ⟨by decide +kernel, rfl⟩
theorem d46_79 : Dc method_6_code 79 (.aload_n 3) 1 80 := ⟨by decide +kernel, rfl⟩
theorem d46_80 : Dc method_6_code 80 (.invokestatic 68) 3 83 := ⟨by decide +kernel, rfl⟩
theorem d46_83 : Db method_6_code 83 (.ifCond .eq 139) 139 86 222 := ⟨by decide +kernel, rfl, by decide, by decide⟩
theorem d46_86 : Dc method_6_code 86 (.aload_n 0) 1 87 := ⟨by decide +kernel, rfl⟩
theorem d46_87 : Dc method_6_code 87 (.bipush 6) 2 89 := ⟨by decide +kernel, rfl⟩
theorem d46_89 : Dc method_6_code 89 (.aload_n 1) 1 90 := ⟨by decide +kernel, rfl⟩
theorem d46_90 : Dc method_6_code 90 (.iload_n 2) 1 91 := ⟨by decide +kernel, rfl⟩
theorem d46_91 : Dc method_6_code 91 (.aload_n 3) 1 92 := ⟨by decide +kernel, rfl⟩
theorem d46_92 : Dc method_6_code 92 (.invokestatic 68) 3 95 := ⟨by decide +kernel, rfl⟩
theorem d46_95 : Db method_6_code 95 (.ifCond .eq 127) 127 98 222 := ⟨by decide +kernel, rfl, by decide, by decide⟩
theorem d46_98 : Dc method_6_code 98 (.aload_n 0) 1 99 := ⟨by decide +kernel, rfl⟩
theorem d46_99 : Dc method_6_code 99 (.bipush 7) 2 101 := ⟨by decide +kernel, rfl⟩
theorem d46_101 : Dc method_6_code 101 (.aload_n 1) 1 102 := ⟨by decide +kernel, rfl⟩
theorem d46_102 : Dc method_6_code 102 (.iload_n 2) 1 103 := ⟨by decide +kernel, rfl⟩
theorem d46_103 : Dc method_6_code 103 (.aload_n 3) 1 104 := ⟨by decide +kernel, rfl⟩
theorem d46_104 : Dc method_6_code 104 (.invokestatic 68) 3 107 := ⟨by decide +kernel, rfl⟩
theorem d46_107 : Db method_6_code 107 (.ifCond .eq 115) 115 110 222 := ⟨by decide +kernel, rfl, by decide, by decide⟩
theorem d46_110 : Dc method_6_code 110 (.aload_n 0) 1 111 := ⟨by decide +kernel, rfl⟩
theorem d46_111 : Dc method_6_code 111 (.bipush 8) 2 113 := ⟨by decide +kernel, rfl⟩
theorem d46_113 : Dc method_6_code 113 (.aload_n 1) 1 114 := ⟨by decide +kernel, rfl⟩
theorem d46_114 : Dc method_6_code 114 (.iload_n 2) 1 115 := ⟨by decide +kernel, rfl⟩
theorem d46_115 : Dc method_6_code 115 (.aload_n 3) 1 116 := ⟨by decide +kernel, rfl⟩
theorem d46_116 : Dc method_6_code 116 (.invokestatic 68) 3 119 := ⟨by decide +kernel, rfl⟩
theorem d46_119 : Db method_6_code 119 (.ifCond .eq 103) 103 122 222 := ⟨by decide +kernel, rfl, by decide, by decide⟩
theorem d46_122 : Dc method_6_code 122 (.aload_n 0) 1 123 := ⟨by decide +kernel, rfl⟩
theorem d46_123 : Dc method_6_code 123 (.bipush 9) 2 125 := ⟨by decide +kernel, rfl⟩
theorem d46_125 : Dc method_6_code 125 (.aload_n 1) 1 126 := ⟨by decide +kernel, rfl⟩
theorem d46_126 : Dc method_6_code 126 (.iload_n 2) 1 127 := ⟨by decide +kernel, rfl⟩
theorem d46_127 : Dc method_6_code 127 (.aload_n 3) 1 128 := ⟨by decide +kernel, rfl⟩
theorem d46_128 : Dc method_6_code 128 (.invokestatic 68) 3 131 := ⟨by decide +kernel, rfl⟩
theorem d46_131 : Db method_6_code 131 (.ifCond .eq 91) 91 134 222 := ⟨by decide +kernel, rfl, by decide, by decide⟩
theorem d46_134 : Dc method_6_code 134 (.aload_n 0) 1 135 := ⟨by decide +kernel, rfl⟩
theorem d46_135 : Dc method_6_code 135 (.bipush 10) 2 137 := ⟨by decide +kernel, rfl⟩
theorem d46_137 : Dc method_6_code 137 (.aload_n 1) 1 138 := ⟨by decide +kernel, rfl⟩
theorem d46_138 : Dc method_6_code 138 (.iload_n 2) 1 139 := ⟨by decide +kernel, rfl⟩
theorem d46_139 : Dc method_6_code 139 (.aload_n 3) 1 140 := ⟨by decide +kernel, rfl⟩
theorem d46_140 : Dc method_6_code 140 (.invokestatic 68) 3 143 := ⟨by decide +kernel, rfl⟩
theorem d46_143 : Db method_6_code 143 (.ifCond .eq 79) 79 146 222 := ⟨by decide +kernel, rfl, by decide, by decide⟩
theorem d46_146 : Dc method_6_code 146 (.aload_n 0) 1 147 := ⟨by decide +kernel, rfl⟩
theorem d46_147 : Dc method_6_code 147 (.bipush 11) 2 149 := ⟨by decide +kernel, rfl⟩
theorem d46_149 : Dc method_6_code 149 (.aload_n 1) 1 150 := ⟨by decide +kernel, rfl⟩
theorem d46_150 : Dc method_6_code 150 (.iload_n 2) 1 151 := ⟨by decide +kernel, rfl⟩
theorem d46_151 : Dc method_6_code 151 (.aload_n 3) 1 152 := ⟨by decide +kernel, rfl⟩
theorem d46_152 : Dc method_6_code 152 (.invokestatic 68) 3 155 := ⟨by decide +kernel, rfl⟩
theorem d46_155 : Db method_6_code 155 (.ifCond .eq 67) 67 158 222 := ⟨by decide +kernel, rfl, by decide, by decide⟩
theorem d46_158 : Dc method_6_code 158 (.aload_n 0) 1 159 := ⟨by decide +kernel, rfl⟩
theorem d46_159 : Dc method_6_code 159 (.bipush 12) 2 161 := ⟨by decide +kernel, rfl⟩
theorem d46_161 : Dc method_6_code 161 (.aload_n 1) 1 162 := ⟨by decide +kernel, rfl⟩
theorem d46_162 : Dc method_6_code 162 (.iload_n 2) 1 163 := ⟨by decide +kernel, rfl⟩
theorem d46_163 : Dc method_6_code 163 (.aload_n 3) 1 164 := ⟨by decide +kernel, rfl⟩
theorem d46_164 : Dc method_6_code 164 (.invokestatic 68) 3 167 := ⟨by decide +kernel, rfl⟩
theorem d46_167 : Db method_6_code 167 (.ifCond .eq 55) 55 170 222 := ⟨by decide +kernel, rfl, by decide, by decide⟩
theorem d46_170 : Dc method_6_code 170 (.aload_n 0) 1 171 := ⟨by decide +kernel, rfl⟩
theorem d46_171 : Dc method_6_code 171 (.bipush 13) 2 173 := ⟨by decide +kernel, rfl⟩
theorem d46_173 : Dc method_6_code 173 (.aload_n 1) 1 174 := ⟨by decide +kernel, rfl⟩
theorem d46_174 : Dc method_6_code 174 (.iload_n 2) 1 175 := ⟨by decide +kernel, rfl⟩
theorem d46_175 : Dc method_6_code 175 (.aload_n 3) 1 176 := ⟨by decide +kernel, rfl⟩
theorem d46_176 : Dc method_6_code 176 (.invokestatic 68) 3 179 := ⟨by decide +kernel, rfl⟩
theorem d46_179 : Db method_6_code 179 (.ifCond .eq 43) 43 182 222 := ⟨by decide +kernel, rfl, by decide, by decide⟩
theorem d46_182 : Dc method_6_code 182 (.aload_n 0) 1 183 := ⟨by decide +kernel, rfl⟩
theorem d46_183 : Dc method_6_code 183 (.bipush 14) 2 185 := ⟨by decide +kernel, rfl⟩
theorem d46_185 : Dc method_6_code 185 (.aload_n 1) 1 186 := ⟨by decide +kernel, rfl⟩
theorem d46_186 : Dc method_6_code 186 (.iload_n 2) 1 187 := ⟨by decide +kernel, rfl⟩
theorem d46_187 : Dc method_6_code 187 (.aload_n 3) 1 188 := ⟨by decide +kernel, rfl⟩
theorem d46_188 : Dc method_6_code 188 (.invokestatic 68) 3 191 := ⟨by decide +kernel, rfl⟩
theorem d46_191 : Db method_6_code 191 (.ifCond .eq 31) 31 194 222 := ⟨by decide +kernel, rfl, by decide, by decide⟩
theorem d46_194 : Dc method_6_code 194 (.aload_n 0) 1 195 := ⟨by decide +kernel, rfl⟩
theorem d46_195 : Dc method_6_code 195 (.bipush 15) 2 197 := ⟨by decide +kernel, rfl⟩
theorem d46_197 : Dc method_6_code 197 (.aload_n 1) 1 198 := ⟨by decide +kernel, rfl⟩
theorem d46_198 : Dc method_6_code 198 (.iload_n 2) 1 199 := ⟨by decide +kernel, rfl⟩
theorem d46_199 : Dc method_6_code 199 (.aload_n 3) 1 200 := ⟨by decide +kernel, rfl⟩
theorem d46_200 : Dc method_6_code 200 (.invokestatic 68) 3 203 := ⟨by decide +kernel, rfl⟩
theorem d46_203 : Db method_6_code 203 (.ifCond .eq 19) 19 206 222 := ⟨by decide +kernel, rfl, by decide, by decide⟩
theorem d46_206 : Dc method_6_code 206 (.aload_n 0) 1 207 := ⟨by decide +kernel, rfl⟩
theorem d46_207 : Dc method_6_code 207 (.bipush 16) 2 209 := ⟨by decide +kernel, rfl⟩
theorem d46_209 : Dc method_6_code 209 (.aload_n 1) 1 210 := ⟨by decide +kernel, rfl⟩
theorem d46_210 : Dc method_6_code 210 (.iload_n 2) 1 211 := ⟨by decide +kernel, rfl⟩
theorem d46_211 : Dc method_6_code 211 (.aload_n 3) 1 212 := ⟨by decide +kernel, rfl⟩
theorem d46_212 : Dc method_6_code 212 (.invokestatic 68) 3 215 := ⟨by decide +kernel, rfl⟩
theorem d46_215 : Db method_6_code 215 (.ifCond .eq 7) 7 218 222 := ⟨by decide +kernel, rfl, by decide, by decide⟩
theorem d46_218 : Dc method_6_code 218 (.iconst 1) 1 219 := ⟨by decide +kernel, rfl⟩
theorem d46_219 : Db method_6_code 219 (.goto 4) 4 222 223 := ⟨by decide +kernel, rfl, by decide, by decide⟩
theorem d46_223 : Dc method_6_code 223 (.ireturn) 1 224 := ⟨by decide +kernel, rfl⟩
theorem d47_0 : Dc jdk_22_method_1_code 0 (.aload_n 0) 1 1 := ⟨by decide +kernel, rfl⟩
theorem d47_1 : Dc jdk_22_method_1_code 1 (.invokespecial 1) 3 4 := ⟨by decide +kernel, rfl⟩
theorem d47_4 : Dc jdk_22_method_1_code 4 (.return_) 1 5 := ⟨by decide +kernel, rfl⟩
theorem d48_0 : Dc jdk_47_method_1_code 0 (.aload_n 0) 1 1 := ⟨by decide +kernel, rfl⟩
theorem d48_1 : Dc jdk_47_method_1_code 1 (.invokespecial 1) 3 4 := ⟨by decide +kernel, rfl⟩
theorem d48_4 : Dc jdk_47_method_1_code 4 (.return_) 1 5 := ⟨by decide +kernel, rfl⟩
theorem d49_0 : Dc jdk_46_method_1_code 0 (.aload_n 0) 1 1 := ⟨by decide +kernel, rfl⟩
theorem d49_1 : Dc jdk_46_method_1_code 1 (.invokespecial 1) 3 4 := ⟨by decide +kernel, rfl⟩
theorem d49_4 : Dc jdk_46_method_1_code 4 (.return_) 1 5 := ⟨by decide +kernel, rfl⟩
theorem d50_0 : Dc jdk_45_method_1_code 0 (.aload_n 0) 1 1 := ⟨by decide +kernel, rfl⟩
theorem d50_1 : Dc jdk_45_method_1_code 1 (.invokespecial 1) 3 4 := ⟨by decide +kernel, rfl⟩
theorem d50_4 : Dc jdk_45_method_1_code 4 (.aload_n 0) 1 5 := ⟨by decide +kernel, rfl⟩
theorem d50_5 : Dc jdk_45_method_1_code 5 (.aload_n 1) 1 6 := ⟨by decide +kernel, rfl⟩
theorem d50_6 : Dc jdk_45_method_1_code 6 (.putfield 7) 3 9 := ⟨by decide +kernel, rfl⟩
theorem d50_9 : Dc jdk_45_method_1_code 9 (.aload_n 0) 1 10 := ⟨by decide +kernel, rfl⟩
theorem d50_10 : Dc jdk_45_method_1_code 10 (.iload_n 2) 1 11 := ⟨by decide +kernel, rfl⟩
theorem d50_11 : Dc jdk_45_method_1_code 11 (.putfield 13) 3 14 := ⟨by decide +kernel, rfl⟩
theorem d50_14 : Dc jdk_45_method_1_code 14 (.return_) 1 15 := ⟨by decide +kernel, rfl⟩
theorem d51_0 : Dc jdk_45_method_3_code 0 (.aload_n 0) 1 1 := ⟨by decide +kernel, rfl⟩
theorem d51_1 : Dc jdk_45_method_3_code 1 (.getfield 7) 3 4 := ⟨by decide +kernel, rfl⟩
theorem d51_4 : Dc jdk_45_method_3_code 4 (.arraylength) 1 5 := ⟨by decide +kernel, rfl⟩
theorem d51_5 : Dc jdk_45_method_3_code 5 (.ireturn) 1 6 := ⟨by decide +kernel, rfl⟩
theorem d52_0 : Dc jdk_45_method_4_code 0 (.aload_n 0) 1 1 := ⟨by decide +kernel, rfl⟩
theorem d52_1 : Dc jdk_45_method_4_code 1 (.getfield 7) 3 4 := ⟨by decide +kernel, rfl⟩
theorem d52_4 : Dc jdk_45_method_4_code 4 (.iload_n 1) 1 5 := ⟨by decide +kernel, rfl⟩
theorem d52_5 : Dc jdk_45_method_4_code 5 (.aaload) 1 6 := ⟨by decide +kernel, rfl⟩
theorem d52_6 : Dc jdk_45_method_4_code 6 (.areturn) 1 7 := ⟨by decide +kernel, rfl⟩
theorem d53_0 : Dc jdk_56_method_5_code 0 (.getstatic 46) 3 3 := ⟨by decide +kernel, rfl⟩
theorem d53_3 : Db jdk_56_method_5_code 3 (.ifCond .ne 20) 20 6 23 := ⟨by decide +kernel, rfl, by decide, by decide⟩
theorem d53_23 : Dc jdk_56_method_5_code 23 (.aload_n 0) 1 24 := ⟨by decide +kernel, rfl⟩
theorem d53_24 : Dc jdk_56_method_5_code 24 (.astore_n 1) 1 25 := ⟨by decide +kernel, rfl⟩
theorem d53_25 : Dc jdk_56_method_5_code 25 (.aload_n 1) 1 26 := ⟨by decide +kernel, rfl⟩
theorem d53_26 : Dc jdk_56_method_5_code 26 (.arraylength) 1 27 := ⟨by decide +kernel, rfl⟩
theorem d53_27 : Dc jdk_56_method_5_code 27 (.istore_n 2) 1 28 := ⟨by decide +kernel, rfl⟩
theorem d53_28 : Dc jdk_56_method_5_code 28 (.iconst 0) 1 29 := ⟨by decide +kernel, rfl⟩
theorem d53_29 : Dc jdk_56_method_5_code 29 (.istore_n 3) 1 30 := ⟨by decide +kernel, rfl⟩
theorem d53_30 : Dc jdk_56_method_5_code 30 (.iload_n 3) 1 31 := ⟨by decide +kernel, rfl⟩
theorem d53_31 : Dc jdk_56_method_5_code 31 (.iload_n 2) 1 32 := ⟨by decide +kernel, rfl⟩
theorem d53_32 : Db jdk_56_method_5_code 32 (.if_icmp .ge 20) 20 35 52 := ⟨by decide +kernel, rfl, by decide, by decide⟩
theorem d53_35 : Dc jdk_56_method_5_code 35 (.aload_n 1) 1 36 := ⟨by decide +kernel, rfl⟩
theorem d53_36 : Dc jdk_56_method_5_code 36 (.iload_n 3) 1 37 := ⟨by decide +kernel, rfl⟩
theorem d53_37 : Dc jdk_56_method_5_code 37 (.aaload) 1 38 := ⟨by decide +kernel, rfl⟩
theorem d53_38 : Dc jdk_56_method_5_code 38 (.astore 4) 2 40 := ⟨by decide +kernel, rfl⟩
theorem d53_40 : Dc jdk_56_method_5_code 40 (.aload 4) 2 42 := ⟨by decide +kernel, rfl⟩
theorem d53_42 : Dc jdk_56_method_5_code 42 (.invokestatic 37) 3 45 := ⟨by decide +kernel, rfl⟩
theorem d53_45 : Dc jdk_56_method_5_code 45 (.pop) 1 46 := ⟨by decide +kernel, rfl⟩
theorem d53_46 : Dc jdk_56_method_5_code 46 (.iinc 3 1) 3 49 := ⟨by decide +kernel, rfl⟩
theorem d53_49 : Db jdk_56_method_5_code 49 (.goto (-19)) (-19) 52 30 := ⟨by decide +kernel, rfl, by decide, by decide⟩
theorem d53_52 : Dc jdk_56_method_5_code 52 (.aload_n 0) 1 53 := ⟨by decide +kernel, rfl⟩
theorem d53_53 : Dc jdk_56_method_5_code 53 (.arraylength) 1 54 := ⟨by decide +kernel, rfl⟩
theorem d53_115 : Dc jdk_56_method_5_code 115 (.new 12) 3 118 := ⟨by decide +kernel, rfl⟩
theorem d53_118 : Dc jdk_56_method_5_code 118 (.dup) 1 119 := ⟨by decide +kernel, rfl⟩
theorem d53_119 : Dc jdk_56_method_5_code 119 (.aload_n 0) 1 120 := ⟨by decide +kernel, rfl⟩
theorem d53_120 : Dc jdk_56_method_5_code 120 (.iconst 0) 1 121 := ⟨by decide +kernel, rfl⟩
theorem d53_121 : Dc jdk_56_method_5_code 121 (.invokespecial 43) 3 124 := ⟨by decide +kernel, rfl⟩
theorem d53_124 : Dc jdk_56_method_5_code 124 (.areturn) 1 125 := ⟨by decide +kernel, rfl⟩
theorem d54_0 : Dc jdk_40_method_41_code 0 (.iconst 5) 1 1 := ⟨by decide +kernel, rfl⟩
theorem d54_1 : Dc jdk_40_method_41_code 1 (.anewarray 103) 3 4 := ⟨by decide +kernel, rfl⟩
theorem d54_4 : Dc jdk_40_method_41_code 4 (.dup) 1 5 := ⟨by decide +kernel, rfl⟩
theorem d54_5 : Dc jdk_40_method_41_code 5 (.iconst 0) 1 6 := ⟨by decide +kernel, rfl⟩
theorem d54_6 : Dc jdk_40_method_41_code 6 (.aload_n 0) 1 7 := ⟨by decide +kernel, rfl⟩
theorem d54_7 : Dc jdk_40_method_41_code 7 (.aastore) 1 8 := ⟨by decide +kernel, rfl⟩
theorem d54_8 : Dc jdk_40_method_41_code 8 (.dup) 1 9 := ⟨by decide +kernel, rfl⟩
theorem d54_9 : Dc jdk_40_method_41_code 9 (.iconst 1) 1 10 := ⟨by decide +kernel, rfl⟩
theorem d54_10 : Dc jdk_40_method_41_code 10 (.aload_n 1) 1 11 := ⟨by decide +kernel, rfl⟩
theorem d54_11 : Dc jdk_40_method_41_code 11 (.aastore) 1 12 := ⟨by decide +kernel, rfl⟩
theorem d54_12 : Dc jdk_40_method_41_code 12 (.dup) 1 13 := ⟨by decide +kernel, rfl⟩
theorem d54_13 : Dc jdk_40_method_41_code 13 (.iconst 2) 1 14 := ⟨by decide +kernel, rfl⟩
theorem d54_14 : Dc jdk_40_method_41_code 14 (.aload_n 2) 1 15 := ⟨by decide +kernel, rfl⟩
theorem d54_15 : Dc jdk_40_method_41_code 15 (.aastore) 1 16 := ⟨by decide +kernel, rfl⟩
theorem d54_16 : Dc jdk_40_method_41_code 16 (.dup) 1 17 := ⟨by decide +kernel, rfl⟩
theorem d54_17 : Dc jdk_40_method_41_code 17 (.iconst 3) 1 18 := ⟨by decide +kernel, rfl⟩
theorem d54_18 : Dc jdk_40_method_41_code 18 (.aload_n 3) 1 19 := ⟨by decide +kernel, rfl⟩
theorem d54_19 : Dc jdk_40_method_41_code 19 (.aastore) 1 20 := ⟨by decide +kernel, rfl⟩
theorem d54_20 : Dc jdk_40_method_41_code 20 (.dup) 1 21 := ⟨by decide +kernel, rfl⟩
theorem d54_21 : Dc jdk_40_method_41_code 21 (.iconst 4) 1 22 := ⟨by decide +kernel, rfl⟩
theorem d54_22 : Dc jdk_40_method_41_code 22 (.aload 4) 2 24 := ⟨by decide +kernel, rfl⟩
theorem d54_24 : Dc jdk_40_method_41_code 24 (.aastore) 1 25 := ⟨by decide +kernel, rfl⟩
theorem d54_25 : Dc jdk_40_method_41_code 25 (.invokestatic 105) 3 28 := ⟨by decide +kernel, rfl⟩
theorem d54_28 : Dc jdk_40_method_41_code 28 (.areturn) 1 29 := ⟨by decide +kernel, rfl⟩
theorem d55_0 : Dc prog_1_method_14_code 0 (.new 38) 3 3 := ⟨by decide +kernel, rfl⟩
theorem d55_3 : Dc prog_1_method_14_code 3 (.dup) 1 4 := ⟨by decide +kernel, rfl⟩
theorem d55_4 : Dc prog_1_method_14_code 4 (.invokespecial 40) 3 7 := ⟨by decide +kernel, rfl⟩
theorem d55_7 : Dc prog_1_method_14_code 7 (.aload_n 0) 1 8 := ⟨by decide +kernel, rfl⟩
theorem d55_8 : Dc prog_1_method_14_code 8 (.getfield 53) 3 11 := ⟨by decide +kernel, rfl⟩
theorem d55_11 : Dc prog_1_method_14_code 11 (.invokevirtual 43) 3 14 := ⟨by decide +kernel, rfl⟩
theorem d55_14 : Dc prog_1_method_14_code 14 (.aload_n 1) 1 15 := ⟨by decide +kernel, rfl⟩
theorem d55_15 : Dc prog_1_method_14_code 15 (.invokevirtual 43) 3 18 := ⟨by decide +kernel, rfl⟩
theorem d55_18 : Dc prog_1_method_14_code 18 (.invokevirtual 49) 3 21 := ⟨by decide +kernel, rfl⟩
theorem d55_21 : Dc prog_1_method_14_code 21 (.getstatic 107) 3 24 := ⟨by decide +kernel, rfl⟩
theorem d55_24 : Dc prog_1_method_14_code 24 (.invokevirtual 113) 3 27 := ⟨by decide +kernel, rfl⟩
theorem d55_27 : Dc prog_1_method_14_code 27 (.areturn) 1 28 := ⟨by decide +kernel, rfl⟩
theorem d56_0 : Dc prog_1_method_8_code 0 (.aload_n 0) 1 1 := ⟨by decide +kernel, rfl⟩
theorem d56_1 : Dc prog_1_method_8_code 1 (.ldc 75) 2 3 := ⟨by decide +kernel, rfl⟩
theorem d56_3 : Dc prog_1_method_8_code 3 (.invokevirtual 61) 3 6 := ⟨by decide +kernel, rfl⟩
theorem d56_6 : Dc prog_1_method_8_code 6 (.areturn) 1 7 := ⟨by decide +kernel, rfl⟩
theorem d57_0 : Dc prog_1_method_9_code 0 (.aload_n 0) 1 1 := ⟨by decide +kernel, rfl⟩
theorem d57_1 : Dc prog_1_method_9_code 1 (.ldc 77) 2 3 := ⟨by decide +kernel, rfl⟩
theorem d57_3 : Dc prog_1_method_9_code 3 (.invokevirtual 61) 3 6 := ⟨by decide +kernel, rfl⟩
theorem d57_6 : Dc prog_1_method_9_code 6 (.areturn) 1 7 := ⟨by decide +kernel, rfl⟩
theorem d58_0 : Dc prog_1_method_10_code 0 (.aload_n 0) 1 1 := ⟨by decide +kernel, rfl⟩
theorem d58_1 : Dc prog_1_method_10_code 1 (.ldc 79) 2 3 := ⟨by decide +kernel, rfl⟩
theorem d58_3 : Dc prog_1_method_10_code 3 (.invokevirtual 61) 3 6 := ⟨by decide +kernel, rfl⟩
theorem d58_6 : Dc prog_1_method_10_code 6 (.areturn) 1 7 := ⟨by decide +kernel, rfl⟩
theorem d59_0 : Dc prog_1_method_11_code 0 (.aload_n 0) 1 1 := ⟨by decide +kernel, rfl⟩
theorem d59_1 : Dc prog_1_method_11_code 1 (.ldc 81) 2 3 := ⟨by decide +kernel, rfl⟩
theorem d59_3 : Dc prog_1_method_11_code 3 (.invokevirtual 61) 3 6 := ⟨by decide +kernel, rfl⟩
theorem d59_6 : Dc prog_1_method_11_code 6 (.areturn) 1 7 := ⟨by decide +kernel, rfl⟩
theorem d60_0 : Dc prog_1_method_12_code 0 (.aload_n 0) 1 1 := ⟨by decide +kernel, rfl⟩
theorem d60_1 : Dc prog_1_method_12_code 1 (.ldc 83) 2 3 := ⟨by decide +kernel, rfl⟩
theorem d60_3 : Dc prog_1_method_12_code 3 (.invokevirtual 61) 3 6 := ⟨by decide +kernel, rfl⟩
theorem d60_6 : Dc prog_1_method_12_code 6 (.areturn) 1 7 := ⟨by decide +kernel, rfl⟩
theorem d61_0 : Dc prog_1_method_1_code 0 (.aload_n 0) 1 1 := ⟨by decide +kernel, rfl⟩
theorem d61_1 : Dc prog_1_method_1_code 1 (.invokespecial 1) 3 4 := ⟨by decide +kernel, rfl⟩
theorem d61_4 : Dc prog_1_method_1_code 4 (.aload_n 1) 1 5 := ⟨by decide +kernel, rfl⟩
theorem d61_5 : Dc prog_1_method_1_code 5 (.ldc 7) 2 7 := ⟨by decide +kernel, rfl⟩
theorem d61_7 : Dc prog_1_method_1_code 7 (.invokestatic 9) 3 10 := ⟨by decide +kernel, rfl⟩
theorem d61_10 : Dc prog_1_method_1_code 10 (.pop) 1 11 := ⟨by decide +kernel, rfl⟩
theorem d61_11 : Dc prog_1_method_1_code 11 (.aload_n 1) 1 12 := ⟨by decide +kernel, rfl⟩
theorem d61_12 : Dc prog_1_method_1_code 12 (.invokevirtual 15) 3 15 := ⟨by decide +kernel, rfl⟩
theorem d61_15 : Db prog_1_method_1_code 15 (.ifCond .eq 13) 13 18 28 := ⟨by decide +kernel, rfl, by decide, by decide⟩
theorem d61_28 : Dc prog_1_method_1_code 28 (.aload_n 1) 1 29 := ⟨by decide +kernel, rfl⟩
theorem d61_29 : Dc prog_1_method_1_code 29 (.bipush 123) 2 31 := ⟨by decide +kernel, rfl⟩
theorem d61_31 : Dc prog_1_method_1_code 31 (.invokevirtual 28) 3 34 := ⟨by decide +kernel, rfl⟩
theorem d61_34 : Db prog_1_method_1_code 34 (.ifCond .ge 12) 12 37 46 := ⟨by decide +kernel, rfl, by decide, by decide⟩
theorem d61_37 : Dc prog_1_method_1_code 37 (.aload_n 1) 1 38 := ⟨by decide +kernel, rfl⟩
theorem d61_38 : Dc prog_1_method_1_code 38 (.bipush 125) 2 40 := ⟨by decide +kernel, rfl⟩
theorem d61_40 : Dc prog_1_method_1_code 40 (.invokevirtual 28) 3 43 := ⟨by decide +kernel, rfl⟩
theorem d61_43 : Db prog_1_method_1_code 43 (.ifCond .lt 24) 24 46 67 := ⟨by decide +kernel, rfl, by decide, by decide⟩
theorem d61_67 : Dc prog_1_method_1_code 67 (.aload_n 0) 1 68 := ⟨by decide +kernel, rfl⟩
theorem d61_68 : Dc prog_1_method_1_code 68 (.new 38) 3 71 := ⟨by decide +kernel, rfl⟩
theorem d61_71 : Dc prog_1_method_1_code 71 (.dup) 1 72 := ⟨by decide +kernel, rfl⟩
theorem d61_72 : Dc prog_1_method_1_code 72 (.invokespecial 40) 3 75 := ⟨by decide +kernel, rfl⟩
theorem d61_75 : Dc prog_1_method_1_code 75 (.ldc 41) 2 77 := ⟨by decide +kernel, rfl⟩
theorem d61_77 : Dc prog_1_method_1_code 77 (.invokevirtual 43) 3 80 := ⟨by decide +kernel, rfl⟩
theorem d61_80 : Dc prog_1_method_1_code 80 (.aload_n 1) 1 81 := ⟨by decide +kernel, rfl⟩
theorem d61_81 : Dc prog_1_method_1_code 81 (.invokevirtual 43) 3 84 := ⟨by decide +kernel, rfl⟩
theorem d61_84 : Dc prog_1_method_1_code 84 (.ldc 47) 2 86 := ⟨by decide +kernel, rfl⟩
theorem d61_86 : Dc prog_1_method_1_code 86 (.invokevirtual 43) 3 89 := ⟨by decide +kernel, rfl⟩
theorem d61_89 : Dc prog_1_method_1_code 89 (.invokevirtual 49) 3 92 := ⟨by decide +kernel, rfl⟩
theorem d61_92 : Dc prog_1_method_1_code 92 (.putfield 53) 3 95 := ⟨by decide +kernel, rfl⟩
theorem d61_95 : Dc prog_1_method_1_code 95 (.return_) 1 96 := ⟨by decide +kernel, rfl⟩
theorem d62_0 : Dc prog_1_method_13_code 0 (.aload_n 0) 1 1 := ⟨by decide +kernel, rfl⟩
theorem d62_1 : Dc prog_1_method_13_code 1 (.invokevirtual 85) 3 4 := ⟨by decide +kernel, rfl⟩
theorem d62_4 : Dc prog_1_method_13_code 4 (.aload_n 0) 1 5 := ⟨by decide +kernel, rfl⟩
theorem d62_5 : Dc prog_1_method_13_code 5 (.invokevirtual 89) 3 8 := ⟨by decide +kernel, rfl⟩
theorem d62_8 : Dc prog_1_method_13_code 8 (.aload_n 0) 1 9 := ⟨by decide +kernel, rfl⟩
theorem d62_9 : Dc prog_1_method_13_code 9 (.invokevirtual 92) 3 12 := ⟨by decide +kernel, rfl⟩
theorem d62_12 : Dc prog_1_method_13_code 12 (.aload_n 0) 1 13 := ⟨by decide +kernel, rfl⟩
theorem d62_13 : Dc prog_1_method_13_code 13 (.invokevirtual 95) 3 16 := ⟨by decide +kernel, rfl⟩
theorem d62_16 : Dc prog_1_method_13_code 16 (.aload_n 0) 1 17 := ⟨by decide +kernel, rfl⟩
theorem d62_17 : Dc prog_1_method_13_code 17 (.invokevirtual 98) 3 20 := ⟨by decide +kernel, rfl⟩
theorem d62_20 : Dc prog_1_method_13_code 20 (.invokestatic 101) 3 23 := ⟨by decide +kernel, rfl⟩
theorem d62_23 : Dc prog_1_method_13_code 23 (.areturn) 1 24 := ⟨by decide +kernel, rfl⟩
theorem d63_0 : Dc jdk_43_method_3_code 0 (.iload_n 0) 1 1 := ⟨by decide +kernel, rfl⟩
theorem d63_1 : Dc jdk_43_method_3_code 1 (.sipush 255) 3 4 := ⟨by decide +kernel, rfl⟩
theorem d63_4 : Db jdk_43_method_3_code 4 (.if_icmp .gt 7) 7 7 11 := ⟨by decide +kernel, rfl, by decide, by decide⟩
theorem d63_7 : Dc jdk_43_method_3_code 7 (.iconst 1) 1 8 := ⟨by decide +kernel, rfl⟩
theorem d63_8 : Db jdk_43_method_3_code 8 (.goto 4) 4 11 12 := ⟨by decide +kernel, rfl, by decide, by decide⟩
theorem d63_12 : Dc jdk_43_method_3_code 12 (.ireturn) 1 13 := ⟨by decide +kernel, rfl⟩
theorem d64_0 : Dc jdk_43_method_46_code 0 (.iconst 1) 1 1 := ⟨by decide +kernel, rfl⟩
theorem d64_1 : Dc jdk_43_method_46_code 1 (.newarray .byte) 2 3 := ⟨by decide +kernel, rfl⟩
theorem d64_3 : Dc jdk_43_method_46_code 3 (.dup) 1 4 := ⟨by decide +kernel, rfl⟩
theorem d64_4 : Dc jdk_43_method_46_code 4 (.iconst 0) 1 5 := ⟨by decide +kernel, rfl⟩
theorem d64_5 : Dc jdk_43_method_46_code 5 (.iload_n 0) 1 6 := ⟨by decide +kernel, rfl⟩
theorem d64_6 : Dc jdk_43_method_46_code 6 (.i2b) 1 7 := ⟨by decide +kernel, rfl⟩
theorem d64_7 : Dc jdk_43_method_46_code 7 (.bastore) 1 8 := ⟨by decide +kernel, rfl⟩
theorem d64_8 : Dc jdk_43_method_46_code 8 (.areturn) 1 9 := ⟨by decide +kernel, rfl⟩
theorem d65_0 : Dc jdk_42_method_151_code 0 (.aload_n 0) 1 1 := ⟨by decide +kernel, rfl⟩
theorem d65_1 : Dc jdk_42_method_151_code 1 (.invokespecial 1) 3 4 := ⟨by decide +kernel, rfl⟩
theorem d65_4 : Dc jdk_42_method_151_code 4 (.aload_n 0) 1 5 := ⟨by decide +kernel, rfl⟩
theorem d65_5 : Dc jdk_42_method_151_code 5 (.aload_n 1) 1 6 := ⟨by decide +kernel, rfl⟩
theorem d65_6 : Dc jdk_42_method_151_code 6 (.putfield 9) 3 9 := ⟨by decide +kernel, rfl⟩
theorem d65_9 : Dc jdk_42_method_151_code 9 (.aload_n 0) 1 10 := ⟨by decide +kernel, rfl⟩
theorem d65_10 : Dc jdk_42_method_151_code 10 (.iload_n 2) 1 11 := ⟨by decide +kernel, rfl⟩
theorem d65_11 : Dc jdk_42_method_151_code 11 (.putfield 15) 3 14 := ⟨by decide +kernel, rfl⟩
theorem d65_14 : Dc jdk_42_method_151_code 14 (.return_) 1 15 := ⟨by decide +kernel, rfl⟩
theorem d66_0 : Dc jdk_42_method_139_code 0 (.getstatic 38) 3 3 := ⟨by decide +kernel, rfl⟩
theorem d66_3 : Db jdk_42_method_139_code 3 (.ifCond .eq 23) 23 6 26 := ⟨by decide +kernel, rfl, by decide, by decide⟩
theorem d66_6 : Dc jdk_42_method_139_code 6 (.iload_n 0) 1 7 := ⟨by decide +kernel, rfl⟩
theorem d66_7 : Dc jdk_42_method_139_code 7 (.invokestatic 1015) 3 10 := ⟨by decide +kernel, rfl⟩
theorem d66_10 : Db jdk_42_method_139_code 10 (.ifCond .eq 16) 16 13 26 := ⟨by decide +kernel, rfl, by decide, by decide⟩
theorem d66_13 : Dc jdk_42_method_139_code 13 (.new 10) 3 16 := ⟨by decide +kernel, rfl⟩
theorem d66_16 : Dc jdk_42_method_139_code 16 (.dup) 1 17 := ⟨by decide +kernel, rfl⟩
theorem d66_17 : Dc jdk_42_method_139_code 17 (.iload_n 0) 1 18 := ⟨by decide +kernel, rfl⟩
theorem d66_18 : Dc jdk_42_method_139_code 18 (.invokestatic 1018) 3 21 := ⟨by decide +kernel, rfl⟩
theorem d66_21 : Dc jdk_42_method_139_code 21 (.iconst 0) 1 22 := ⟨by decide +kernel, rfl⟩
theorem d66_22 : Dc jdk_42_method_139_code 22 (.invokespecial 209) 3 25 := ⟨by decide +kernel, rfl⟩
theorem d66_25 : Dc jdk_42_method_139_code 25 (.areturn) 1 26 := ⟨by decide +kernel, rfl⟩
theorem d67_0 : Dc jdk_52_method_21_code 0 (.iconst 0) 1 1 := ⟨by decide +kernel, rfl⟩
theorem d67_1 : Dc jdk_52_method_21_code 1 (.istore 5) 2 3 := ⟨by decide +kernel, rfl⟩
theorem d67_3 : Dc jdk_52_method_21_code 3 (.iload 5) 2 5 := ⟨by decide +kernel, rfl⟩
theorem d67_5 : Dc jdk_52_method_21_code 5 (.iload 4) 2 7 := ⟨by decide +kernel, rfl⟩
theorem d67_7 : Db jdk_52_method_21_code 7 (.if_icmp .ge 37) 37 10 44 := ⟨by decide +kernel, rfl, by decide, by decide⟩
theorem d67_44 : Dc jdk_52_method_21_code 44 (.iload 4) 2 46 := ⟨by decide +kernel, rfl⟩
theorem d67_46 : Dc jdk_52_method_21_code 46 (.ireturn) 1 47 := ⟨by decide +kernel, rfl⟩
theorem d67_10 : Dc jdk_52_method_21_code 10 (.aload_n 0) 1 11 := ⟨by decide +kernel, rfl⟩
theorem d67_11 : Dc jdk_52_method_21_code 11 (.iload_n 1) 1 12 := ⟨by decide +kernel, rfl⟩
theorem d67_12 : Dc jdk_52_method_21_code 12 (.caload) 1 13 := ⟨by decide +kernel, rfl⟩
theorem d67_13 : Dc jdk_52_method_21_code 13 (.istore 6) 2 15 := ⟨by decide +kernel, rfl⟩
theorem d67_15 : Dc jdk_52_method_21_code 15 (.iload 6) 2 17 := ⟨by decide +kernel, rfl⟩
theorem d67_17 : Dc jdk_52_method_21_code 17 (.sipush 255) 3 20 := ⟨by decide +kernel, rfl⟩
theorem d67_20 : Db jdk_52_method_21_code 20 (.if_icmp .le 6) 6 23 26 := ⟨by decide +kernel, rfl, by decide, by decide⟩
theorem d67_23 : Dc jdk_52_method_21_code 23 (.iload 5) 2 25 := ⟨by decide +kernel, rfl⟩
theorem d67_25 : Dc jdk_52_method_21_code 25 (.ireturn) 1 26 := ⟨by decide +kernel, rfl⟩
theorem d67_26 : Dc jdk_52_method_21_code 26 (.aload_n 2) 1 27 := ⟨by decide +kernel, rfl⟩
theorem d67_27 : Dc jdk_52_method_21_code 27 (.iload_n 3) 1 28 := ⟨by decide +kernel, rfl⟩
theorem d67_28 : Dc jdk_52_method_21_code 28 (.iload 6) 2 30 := ⟨by decide +kernel, rfl⟩
theorem d67_30 : Dc jdk_52_method_21_code 30 (.i2b) 1 31 := ⟨by decide +kernel, rfl⟩
theorem d67_31 : Dc jdk_52_method_21_code 31 (.bastore) 1 32 := ⟨by decide +kernel, rfl⟩
theorem d67_32 : Dc jdk_52_method_21_code 32 (.iinc 1 1) 3 35 := ⟨by decide +kernel, rfl⟩
theorem d67_35 : Dc jdk_52_method_21_code 35 (.iinc 3 1) 3 38 := ⟨by decide +kernel, rfl⟩
theorem d67_38 : Dc jdk_52_method_21_code 38 (.iinc 5 1) 3 41 := ⟨by decide +kernel, rfl⟩
theorem d67_41 : Db jdk_52_method_21_code 41 (.goto (-38)) (-38) 44 3 := ⟨by decide +kernel, rfl, by decide, by decide⟩
theorem d68_0 : Dc jdk_52_method_16_code 0 (.iload_n 2) 1 1 := ⟨by decide +kernel, rfl⟩
theorem d68_1 : Dc jdk_52_method_16_code 1 (.newarray .byte) 2 3 := ⟨by decide +kernel, rfl⟩
theorem d68_3 : Dc jdk_52_method_16_code 3 (.astore_n 3) 1 4 := ⟨by decide +kernel, rfl⟩
theorem d68_4 : Dc jdk_52_method_16_code 4 (.aload_n 0) 1 5 := ⟨by decide +kernel, rfl⟩
theorem d68_5 : Dc jdk_52_method_16_code 5 (.iload_n 1) 1 6 := ⟨by decide +kernel, rfl⟩
theorem d68_6 : Dc jdk_52_method_16_code 6 (.aload_n 3) 1 7 := ⟨by decide +kernel, rfl⟩
theorem d68_7 : Dc jdk_52_method_16_code 7 (.iconst 0) 1 8 := ⟨by decide +kernel, rfl⟩
theorem d68_8 : Dc jdk_52_method_16_code 8 (.iload_n 2) 1 9 := ⟨by decide +kernel, rfl⟩
theorem d68_9 : Dc jdk_52_method_16_code 9 (.invokestatic 115) 3 12 := ⟨by decide +kernel, rfl⟩
theorem d68_12 : Dc jdk_52_method_16_code 12 (.istore 4) 2 14 := ⟨by decide +kernel, rfl⟩
theorem d68_14 : Dc jdk_52_method_16_code 14 (.iload 4) 2 16 := ⟨by decide +kernel, rfl⟩
theorem d68_16 : Dc jdk_52_method_16_code 16 (.iload_n 2) 1 17 := ⟨by decide +kernel, rfl⟩
theorem d68_17 : Db jdk_52_method_16_code 17 (.if_icmp .eq 40) 40 20 57 := ⟨by decide +kernel, rfl, by decide, by decide⟩
theorem d68_57 : Dc jdk_52_method_16_code 57 (.aload_n 3) 1 58 := ⟨by decide +kernel, rfl⟩
theorem d68_58 : Dc jdk_52_method_16_code 58 (.areturn) 1 59 := ⟨by decide +kernel, rfl⟩
theorem d69_0 : Dc jdk_52_method_15_code 0 (.iload_n 1) 1 1 := ⟨by decide +kernel, rfl⟩
theorem d69_1 : Dc jdk_52_method_15_code 1 (.aload_n 0) 1 2 := ⟨by decide +kernel, rfl⟩
theorem d69_2 : Dc jdk_52_method_15_code 2 (.arraylength) 1 3 := ⟨by decide +kernel, rfl⟩
theorem d69_3 : Dc jdk_52_method_15_code 3 (.isub) 1 4 := ⟨by decide +kernel, rfl⟩
theorem d69_4 : Dc jdk_52_method_15_code 4 (.bipush 31) 2 6 := ⟨by decide +kernel, rfl⟩
theorem d69_6 : Dc jdk_52_method_15_code 6 (.iushr) 1 7 := ⟨by decide +kernel, rfl⟩
theorem d69_7 : Dc jdk_52_method_15_code 7 (.i2b) 1 8 := ⟨by decide +kernel, rfl⟩
theorem d69_8 : Dc jdk_52_method_15_code 8 (.ireturn) 1 9 := ⟨by decide +kernel, rfl⟩
theorem d70_0 : Dc jdk_42_method_149_code 0 (.aload_n 0) 1 1 := ⟨by decide +kernel, rfl⟩
theorem d70_1 : Dc jdk_42_method_149_code 1 (.invokespecial 1) 3 4 := ⟨by decide +kernel, rfl⟩
theorem d70_4 : Dc jdk_42_method_149_code 4 (.iload_n 3) 1 5 := ⟨by decide +kernel, rfl⟩
theorem d70_5 : Db jdk_42_method_149_code 5 (.ifCond .ne 22) 22 8 27 := ⟨by decide +kernel, rfl, by decide, by decide⟩
theorem d70_27 : Dc jdk_42_method_149_code 27 (.getstatic 38) 3 30 := ⟨by decide +kernel, rfl⟩
theorem d70_30 : Db jdk_42_method_149_code 30 (.ifCond .eq 28) 28 33 58 := ⟨by decide +kernel, rfl, by decide, by decide⟩
theorem d70_33 : Dc jdk_42_method_149_code 33 (.aload_n 1) 1 34 := ⟨by decide +kernel, rfl⟩
theorem d70_34 : Dc jdk_42_method_149_code 34 (.iload_n 2) 1 35 := ⟨by decide +kernel, rfl⟩
theorem d70_35 : Dc jdk_42_method_149_code 35 (.iload_n 3) 1 36 := ⟨by decide +kernel, rfl⟩
theorem d70_36 : Dc jdk_42_method_149_code 36 (.invokestatic 177) 3 39 := ⟨by decide +kernel, rfl⟩
theorem d70_39 : Dc jdk_42_method_149_code 39 (.astore 5) 2 41 := ⟨by decide +kernel, rfl⟩
theorem d70_41 : Dc jdk_42_method_149_code 41 (.aload_n 0) 1 42 := ⟨by decide +kernel, rfl⟩
theorem d70_42 : Dc jdk_42_method_149_code 42 (.aload 5) 2 44 := ⟨by decide +kernel, rfl⟩
theorem d70_44 : Dc jdk_42_method_149_code 44 (.iload_n 3) 1 45 := ⟨by decide +kernel, rfl⟩
theorem d70_45 : Dc jdk_42_method_149_code 45 (.invokestatic 47) 3 48 := ⟨by decide +kernel, rfl⟩
theorem d70_48 : Dc jdk_42_method_149_code 48 (.putfield 15) 3 51 := ⟨by decide +kernel, rfl⟩
theorem d70_51 : Dc jdk_42_method_149_code 51 (.aload_n 0) 1 52 := ⟨by decide +kernel, rfl⟩
theorem d70_52 : Dc jdk_42_method_149_code 52 (.aload 5) 2 54 := ⟨by decide +kernel, rfl⟩
theorem d70_54 : Dc jdk_42_method_149_code 54 (.putfield 9) 3 57 := ⟨by decide +kernel, rfl⟩
theorem d70_57 : Dc jdk_42_method_149_code 57 (.return_) 1 58 := ⟨by decide +kernel, rfl⟩
theorem d71_0 : Dc jdk_42_method_3_code 0 (.aload_n 0) 1 1 := ⟨by decide +kernel, rfl⟩
theorem d71_1 : Dc jdk_42_method_3_code 1 (.aload_n 1) 1 2 := ⟨by decide +kernel, rfl⟩
theorem d71_2 : Dc jdk_42_method_3_code 2 (.iconst 0) 1 3 := ⟨by decide +kernel, rfl⟩
theorem d71_3 : Dc jdk_42_method_3_code 3 (.aload_n 1) 1 4 := ⟨by decide +kernel, rfl⟩
theorem d71_4 : Dc jdk_42_method_3_code 4 (.arraylength) 1 5 := ⟨by decide +kernel, rfl⟩
theorem d71_5 : Dc jdk_42_method_3_code 5 (.aconst_null) 1 6 := ⟨by decide +kernel, rfl⟩
theorem d71_6 : Dc jdk_42_method_3_code 6 (.invokespecial 27) 3 9 := ⟨by decide +kernel, rfl⟩
theorem d71_9 : Dc jdk_42_method_3_code 9 (.return_) 1 10 := ⟨by decide +kernel, rfl⟩
theorem d72_0 : Dc code 0 (.iload_n 0) 1 1 := ⟨by decide +kernel, rfl⟩
theorem d72_1 : Dc code 1 (.sipush 255) 3 4 := ⟨by decide +kernel, rfl⟩
theorem d72_4 : Dc code 4 (.iand) 1 5 := ⟨by decide +kernel, rfl⟩
theorem d72_5 : Dc code 5 (.i2c) 1 6 := ⟨by decide +kernel, rfl⟩
theorem d72_6 : Dc code 6 (.istore_n 1) 1 7 := ⟨by decide +kernel, rfl⟩
theorem d72_7 : Dc code 7 (.iload_n 0) 1 8 := ⟨by decide +kernel, rfl⟩
theorem d72_8 : Dc code 8 (.bipush 8) 2 10 := ⟨by decide +kernel, rfl⟩
theorem d72_10 : Dc code 10 (.iushr) 1 11 := ⟨by decide +kernel, rfl⟩
theorem d72_11 : Dc code 11 (.sipush 255) 3 14 := ⟨by decide +kernel, rfl⟩
theorem d72_14 : Dc code 14 (.iand) 1 15 := ⟨by decide +kernel, rfl⟩
theorem d72_15 : Dc code 15 (.i2c) 1 16 := ⟨by decide +kernel, rfl⟩
theorem d72_16 : Dc code 16 (.istore_n 2) 1 17 := ⟨by decide +kernel, rfl⟩
theorem d72_17 : Dc code 17 (.iload_n 0) 1 18 := ⟨by decide +kernel, rfl⟩
theorem d72_18 : Dc code 18 (.bipush 16) 2 20 := ⟨by decide +kernel, rfl⟩
theorem d72_20 : Dc code 20 (.iushr) 1 21 := ⟨by decide +kernel, rfl⟩
theorem d72_21 : Dc code 21 (.iconst 1) 1 22 := ⟨by decide +kernel, rfl⟩
theorem d72_22 : Dc code 22 (.iand) 1 23 := ⟨by decide +kernel, rfl⟩
theorem d72_123 : Dc code 123 (.new 22) 3 126 := ⟨by decide +kernel, rfl⟩
theorem d72_126 : Dc code 126 (.dup) 1 127 := ⟨by decide +kernel, rfl⟩
theorem d72_127 : Dc code 127 (.aload 4) 2 129 := ⟨by decide +kernel, rfl⟩
theorem d72_129 : Dc code 129 (.invokespecial 24) 3 132 := ⟨by decide +kernel, rfl⟩
theorem d72_132 : Dc code 132 (.astore 7) 2 134 := ⟨by decide +kernel, rfl⟩
theorem d72_134 : Dc code 134 (.aload 7) 2 136 := ⟨by decide +kernel, rfl⟩
theorem d72_136 : Dc code 136 (.invokevirtual 27) 3 139 := ⟨by decide +kernel, rfl⟩
theorem d72_139 : Dc code 139 (.astore 8) 2 141 := ⟨by decide +kernel, rfl⟩
theorem d72_141 : Dc code 141 (.aload 8) 2 143 := ⟨by decide +kernel, rfl⟩
theorem d72_143 : Dc code 143 (.invokeinterface 31 1) 5 148 := ⟨by decide +kernel, rfl⟩
theorem d72_148 : Dc code 148 (.iconst 5) 1 149 := ⟨by decide +kernel, rfl⟩
theorem d72_149 : Db code 149 (.if_icmp .eq 5) 5 152 154 := ⟨by decide +kernel, rfl, by decide, by decide⟩
theorem d72_154 : Dc code 154 (.aload 8) 2 156 := ⟨by decide +kernel, rfl⟩
theorem d72_156 : Dc code 156 (.iconst 0) 1 157 := ⟨by decide +kernel, rfl⟩
theorem d72_157 : Dc code 157 (.invokeinterface 37 2) 5 162 := ⟨by decide +kernel, rfl⟩
theorem d72_162 : Dc code 162 (.checkcast 41) 3 165 := ⟨by decide +kernel, rfl⟩
theorem d72_165 : Dc code 165 (.aload 5) 2 167 := ⟨by decide +kernel, rfl⟩
theorem d72_167 : Dc code 167 (.iload 6) 2 169 := ⟨by decide +kernel, rfl⟩
theorem d72_169 : Dc code 169 (.ldc 43) 2 171 := ⟨by decide +kernel, rfl⟩
theorem d72_171 : Dc code 171 (.invokestatic 45) 3 174 := ⟨by decide +kernel, rfl⟩
theorem d72_174 : Db code 174 (.ifCond .eq 99) 99 177 273 := ⟨by decide +kernel, rfl, by decide, by decide⟩
theorem d72_177 : Dc code 177 (.aload 8) 2 179 := ⟨by decide +kernel, rfl⟩
theorem d72_179 : Dc code 179 (.iconst 1) 1 180 := ⟨by decide +kernel, rfl⟩
theorem d72_180 : Dc code 180 (.invokeinterface 37 2) 5 185 := ⟨by decide +kernel, rfl⟩
theorem d72_185 : Dc code 185 (.checkcast 41) 3 188 := ⟨by decide +kernel, rfl⟩
theorem d72_188 : Dc code 188 (.aload 5) 2 190 := ⟨by decide +kernel, rfl⟩
theorem d72_190 : Dc code 190 (.iload 6) 2 192 := ⟨by decide +kernel, rfl⟩
theorem d72_192 : Dc code 192 (.ldc 49) 2 194 := ⟨by decide +kernel, rfl⟩
theorem d72_194 : Dc code 194 (.invokestatic 45) 3 197 := ⟨by decide +kernel, rfl⟩
theorem d72_197 : Db code 197 (.ifCond .eq 76) 76 200 273 := ⟨by decide +kernel, rfl, by decide, by decide⟩
theorem d72_200 : Dc code 200 (.aload 8) 2 202 := ⟨by decide +kernel, rfl⟩
theorem d72_202 : Dc code 202 (.iconst 2) 1 203 := ⟨by decide +kernel, rfl⟩
theorem d72_203 : Dc code 203 (.invokeinterface 37 2) 5 208 := ⟨by decide +kernel, rfl⟩
theorem d72_208 : Dc code 208 (.checkcast 41) 3 211 := ⟨by decide +kernel, rfl⟩
theorem d72_211 : Dc code 211 (.aload 5) 2 213 := ⟨by decide +kernel, rfl⟩
theorem d72_213 : Dc code 213 (.iload 6) 2 215 := ⟨by decide +kernel, rfl⟩
theorem d72_215 : Dc code 215 (.ldc 51) 2 217 := ⟨by decide +kernel, rfl⟩
theorem d72_217 : Dc code 217 (.invokestatic 45) 3 220 := ⟨by decide +kernel, rfl⟩
theorem d72_220 : Db code 220 (.ifCond .eq 53) 53 223 273 := ⟨by decide +kernel, rfl, by decide, by decide⟩
theorem d72_223 : Dc code 223 (.aload 8) 2 225 := ⟨by decide +kernel, rfl⟩
theorem d72_225 : Dc code 225 (.iconst 3) 1 226 := ⟨by decide +kernel, rfl⟩
theorem d72_226 : Dc code 226 (.invokeinterface 37 2) 5 231 := ⟨by decide +kernel, rfl⟩
theorem d72_231 : Dc code 231 (.checkcast 41) 3 234 := ⟨by decide +kernel, rfl⟩
theorem d72_234 : Dc code 234 (.aload 5) 2 236 := ⟨by decide +kernel, rfl⟩
theorem d72_236 : Dc code 236 (.iload 6) 2 238 := ⟨by decide +kernel, rfl⟩
theorem d72_238 : Dc code 238 (.ldc 53) 2 240 := ⟨by decide +kernel, rfl⟩
theorem d72_240 : Dc code 240 (.invokestatic 45) 3 243 := ⟨by decide +kernel, rfl⟩
theorem d72_243 : Db code 243 (.ifCond .eq 30) 30 246 273 := ⟨by decide +kernel, rfl, by decide, by decide⟩
theorem d72_246 : Dc code 246 (.aload 8) 2 248 := ⟨by decide +kernel, rfl⟩
theorem d72_248 : Dc code 248 (.iconst 4) 1 249 := ⟨by decide +kernel, rfl⟩
theorem d72_249 : Dc code 249 (.invokeinterface 37 2) 5 254 := ⟨by decide +kernel, rfl⟩
theorem d72_254 : Dc code 254 (.checkcast 41) 3 257 := ⟨by decide +kernel, rfl⟩
theorem d72_257 : Dc code 257 (.aload 5) 2 259 := ⟨by decide +kernel, rfl⟩
theorem d72_259 : Dc code 259 (.iload 6) 2 261 := ⟨by decide +kernel, rfl⟩
theorem d72_261 : Dc code 261 (.ldc 55) 2 263 := ⟨by decide +kernel, rfl⟩
theorem d72_263 : Dc code 263 (.invokestatic 45) 3 266 := ⟨by decide +kernel, rfl⟩
theorem d72_266 : Db code 266 (.ifCond .eq 7) 7 269 273 := ⟨by decide +kernel, rfl, by decide, by decide⟩
theorem d72_269 : Dc code 269 (.iconst 1) 1 270 := ⟨by decide +kernel, rfl⟩
theorem d72_270 : Db code 270 (.goto 4) 4 273 274 := ⟨by decide +kernel, rfl, by decide, by decide⟩
theorem d72_274 : Dc code 274 (.ireturn) 1 275 := ⟨by decide +kernel, rfl⟩
theorem d72_23 : Db code 23 (.ifCond .eq 7) 7 26 30 := ⟨by decide +kernel, rfl, by decide, by decide⟩
theorem d72_30 : Dc code 30 (.iconst 0) 1 31 := ⟨by decide +kernel, rfl⟩
theorem d72_31 : Dc code 31 (.istore_n 3) 1 32 := ⟨by decide +kernel, rfl⟩
theorem d72_32 : Dc code 32 (.iload_n 1) 1 33 := ⟨by decide +kernel, rfl⟩
theorem d72_33 : Dc code 33 (.bipush 123) 2 35 := ⟨by decide +kernel, rfl⟩
theorem d72_35 : Db code 35 (.if_icmp .eq 9) 9 38 44 := ⟨by decide +kernel, rfl, by decide, by decide⟩
theorem d72_44 : Dc code 44 (.iconst 1) 1 45 := ⟨by decide +kernel, rfl⟩
theorem d72_45 : Dc code 45 (.ireturn) 1 46 := ⟨by decide +kernel, rfl⟩
theorem d72_38 : Dc code 38 (.iload_n 1) 1 39 := ⟨by decide +kernel, rfl⟩
theorem d72_39 : Dc code 39 (.bipush 125) 2 41 := ⟨by decide +kernel, rfl⟩
theorem d72_41 : Db code 41 (.if_icmp .ne 5) 5 44 46 := ⟨by decide +kernel, rfl, by decide, by decide⟩
theorem d72_46 : Dc code 46 (.iload_n 3) 1 47 := ⟨by decide +kernel, rfl⟩
theorem d72_47 : Db code 47 (.ifCond .eq 17) 17 50 64 := ⟨by decide +kernel, rfl, by decide, by decide⟩
theorem d72_64 : Dc code 64 (.iload_n 3) 1 65 := ⟨by decide +kernel, rfl⟩
theorem d72_65 : Db code 65 (.ifCond .eq 24) 24 68 89 := ⟨by decide +kernel, rfl, by decide, by decide⟩
theorem d72_89 : Dc code 89 (.iload_n 1) 1 90 := ⟨by decide +kernel, rfl⟩
theorem d72_90 : Dc code 90 (.invokestatic 12) 3 93 := ⟨by decide +kernel, rfl⟩
theorem d72_93 : Dc code 93 (.astore 4) 2 95 := ⟨by decide +kernel, rfl⟩
theorem d72_95 : Dc code 95 (.iconst 4) 1 96 := ⟨by decide +kernel, rfl⟩
theorem d72_96 : Dc code 96 (.newarray .int) 2 98 := ⟨by decide +kernel, rfl⟩
theorem d72_98 : Dc code 98 (.astore 5) 2 100 := ⟨by decide +kernel, rfl⟩
theorem d72_100 : Dc code 100 (.aload 5) 2 102 := ⟨by decide +kernel, rfl⟩
theorem d72_102 : Dc code 102 (.iconst 0) 1 103 := ⟨by decide +kernel, rfl⟩
theorem d72_103 : Dc code 103 (.iload_n 1) 1 104 := ⟨by decide +kernel, rfl⟩
theorem d72_104 : Dc code 104 (.invokestatic 16) 3 107 := ⟨by decide +kernel, rfl⟩
theorem d72_107 : Dc code 107 (.istore 6) 2 109 := ⟨by decide +kernel, rfl⟩
theorem d72_109 : Dc code 109 (.iload_n 3) 1 110 := ⟨by decide +kernel, rfl⟩
theorem d72_110 : Db code 110 (.ifCond .eq 13) 13 113 123 := ⟨by decide +kernel, rfl, by decide, by decide⟩
theorem d72_26 : Dc code 26 (.iconst 1) 1 27 := ⟨by decide +kernel, rfl⟩
theorem d72_27 : Db code 27 (.goto 4) 4 30 31 := ⟨by decide +kernel, rfl, by decide, by decide⟩
theorem d72_50 : Dc code 50 (.iload_n 2) 1 51 := ⟨by decide +kernel, rfl⟩
theorem d72_51 : Dc code 51 (.bipush 123) 2 53 := ⟨by decide +kernel, rfl⟩
theorem d72_53 : Db code 53 (.if_icmp .eq 9) 9 56 62 := ⟨by decide +kernel, rfl, by decide, by decide⟩
theorem d72_62 : Dc code 62 (.iconst 1) 1 63 := ⟨by decide +kernel, rfl⟩
theorem d72_63 : Dc code 63 (.ireturn) 1 64 := ⟨by decide +kernel, rfl⟩
theorem d72_56 : Dc code 56 (.iload_n 2) 1 57 := ⟨by decide +kernel, rfl⟩
theorem d72_57 : Dc code 57 (.bipush 125) 2 59 := ⟨by decide +kernel, rfl⟩
theorem d72_59 : Db code 59 (.if_icmp .ne 5) 5 62 64 := ⟨by decide +kernel, rfl, by decide, by decide⟩
theorem d72_68 : Dc code 68 (.new 7) 3 71 := ⟨by decide +kernel, rfl⟩
theorem d72_71 : Dc code 71 (.dup) 1 72 := ⟨by decide +kernel, rfl⟩
theorem d72_72 : Dc code 72 (.iconst 2) 1 73 := ⟨by decide +kernel, rfl⟩
theorem d72_73 : Dc code 73 (.newarray .char) 2 75 := ⟨by decide +kernel, rfl⟩
theorem d72_75 : Dc code 75 (.dup) 1 76 := ⟨by decide +kernel, rfl⟩
theorem d72_76 : Dc code 76 (.iconst 0) 1 77 := ⟨by decide +kernel, rfl⟩
theorem d72_77 : Dc code 77 (.iload_n 1) 1 78 := ⟨by decide +kernel, rfl⟩
theorem d72_78 : Dc code 78 (.castore) 1 79 := ⟨by decide +kernel, rfl⟩
theorem d72_79 : Dc code 79 (.dup) 1 80 := ⟨by decide +kernel, rfl⟩
theorem d72_80 : Dc code 80 (.iconst 1) 1 81 := ⟨by decide +kernel, rfl⟩
theorem d72_81 : Dc code 81 (.iload_n 2) 1 82 := ⟨by decide +kernel, rfl⟩
theorem d72_82 : Dc code 82 (.castore) 1 83 := ⟨by decide +kernel, rfl⟩
theorem d72_83 : Dc code 83 (.invokespecial 9) 3 86 := ⟨by decide +kernel, rfl⟩
theorem d72_86 : Db code 86 (.goto 7) 7 89 93 := ⟨by decide +kernel, rfl, by decide, by decide⟩
theorem d72_113 : Dc code 113 (.aload 5) 2 115 := ⟨by decide +kernel, rfl⟩
theorem d72_115 : Dc code 115 (.iload 6) 2 117 := ⟨by decide +kernel, rfl⟩
theorem d72_117 : Dc code 117 (.iload_n 2) 1 118 := ⟨by decide +kernel, rfl⟩
theorem d72_118 : Dc code 118 (.invokestatic 16) 3 121 := ⟨by decide +kernel, rfl⟩
theorem d72_121 : Dc code 121 (.istore 6) 2 123 := ⟨by decide +kernel, rfl⟩
theorem strAtoms {Z : State} {a0 : Array Value} (hw : HW Z a0) : ∀ a ∈ Bundle.stringAtoms, a.before a0 Z = true := fun d hd => by
  simp only [Bundle.stringAtoms, List.mem_cons, List.not_mem_nil, or_false] at hd
  rcases hd with rfl | rfl | rfl | rfl | rfl | rfl | rfl
  · first | exact (w2 hw) | exact (w10 hw) | exact (w14 hw) | exact (w23 hw) | exact (w25 hw) | exact (w39 hw) | exact (w40 hw)
  · first | exact (w2 hw) | exact (w10 hw) | exact (w14 hw) | exact (w23 hw) | exact (w25 hw) | exact (w39 hw) | exact (w40 hw)
  · first | exact (w2 hw) | exact (w10 hw) | exact (w14 hw) | exact (w23 hw) | exact (w25 hw) | exact (w39 hw) | exact (w40 hw)
  · first | exact (w2 hw) | exact (w10 hw) | exact (w14 hw) | exact (w23 hw) | exact (w25 hw) | exact (w39 hw) | exact (w40 hw)
  · first | exact (w2 hw) | exact (w10 hw) | exact (w14 hw) | exact (w23 hw) | exact (w25 hw) | exact (w39 hw) | exact (w40 hw)
  · first | exact (w2 hw) | exact (w10 hw) | exact (w14 hw) | exact (w23 hw) | exact (w25 hw) | exact (w39 hw) | exact (w40 hw)
  · first | exact (w2 hw) | exact (w10 hw) | exact (w14 hw) | exact (w23 hw) | exact (w25 hw) | exact (w39 hw) | exact (w40 hw)

def Sts (Z : State) : Prop := (∃ cv : Int32, Sta Z Z.heap "java/lang/String" "COMPACT_STRINGS" "Z" (.int cv) ∧ ¬ cv = 0) ∧ (∃ fv : Value, Sta Z Z.heap "jdk/internal/util/Preconditions" "SIOOBE_FORMATTER" "Ljava/util/function/BiFunction;" fv ∧ fv.isRef = true) ∧ (∃ u : Addr, Sta Z Z.heap "java/nio/charset/StandardCharsets" "UTF_8" "Ljava/nio/charset/Charset;" (.ref u) ∧ Sta Z Z.heap "sun/nio/cs/UTF_8" "INSTANCE" "Lsun/nio/cs/UTF_8;" (.ref u)) ∧ (Sta Z Z.heap "java/util/ImmutableCollections" "$assertionsDisabled" "Z" (.int 1)) ∧ True
/-! own kit, part 7: private calls, calls upward, another method selected, clone, arrays of references -/
theorem k_notFace {args : Array Value} {s : State} {C : String} {y y' : MethodName} (h : (Cond.selects C y' y').before args s = true) (hc : y'.cls = y.cls) : NotFace s y := fun r0 h0 => by
  obtain ⟨c2, r2, m2, -, -, q3, -, kP, hkP, hkPi⟩ := Cond.selects_spec h
  have e1 := findClass_of_methodNamed q3
  have e2 := findClass_of_methodNamed h0
  rw [hc] at e1
  have e3 := Option.some.inj (e1.symm.trans e2)
  exact ⟨kP, by rw [← e3]; exact hkP, hkPi⟩
theorem k_declares {Z : State} {a0 : Array Value} {y : MethodName} {bytes : ByteArray} {n : Nat} {r : Option FieldType} (w4 : (Cond.instanceMethod y).before a0 Z = true) (w6 : (Cond.code y bytes n r).before a0 Z = true) : (Cond.declares y).before a0 Z = true := by
  obtain ⟨mk, methM, hnamed, hmethM, hstM, habM⟩ := Cond.instanceMethod_spec w4
  obtain ⟨m2, cM, q1, -, -, -, -, -, -, hsig⟩ := Cond.code_spec hnamed w6
  cases hmethM.symm.trans q1
  simp [Cond.before, Cond.holds, Cond.value, hnamed, hmethM, hstM, hsig]
theorem k_same {Z : State} {a0 : Array Value} {y y' : MethodName} {C : String} (w4 : (Cond.instanceMethod y).before a0 Z = true) (w3 : (Cond.selects C y' y').before a0 Z = true) (hc : y'.cls = y.cls) (hy : noHandle y) : (Cond.sameMethod y.cls y.cls y.name y.desc).before a0 Z = true := by
  obtain ⟨mk, methM, hnamed, hmethM, hstM, habM⟩ := Cond.instanceMethod_spec w4
  obtain ⟨kr, h1, h2⟩ := k_notFace w3 hc mk hnamed
  have e := findClass_of_methodNamed hnamed
  have f := State.methodFound?_of_named hnamed hy
  simp [Cond.before, Cond.holds, Cond.value, e, f, hnamed, h1, h2]
theorem k_selects {Z : State} {a0 : Array Value} {y : MethodName} {n : Nat} (wp : (Cond.privateMethod y).before a0 Z = true) (w4 : (Cond.instanceMethod y).before a0 Z = true) (wi : (Cond.instantiable y.cls n).before a0 Z = true) (hy : noHandle y) : (Cond.selects y.cls y y).before a0 Z = true := by
  obtain ⟨mk, methM, hnamed, hmethM, hstM, habM⟩ := Cond.instanceMethod_spec w4
  obtain ⟨c, k, g1, g2, g3, g4, -⟩ := Cond.instantiable_spec wi
  have e := findClass_of_methodNamed hnamed
  cases g1.symm.trans e
  have f := State.methodFound?_of_named hnamed hy
  have hs : selectMethod {} Z.vm mk.cls mk = .method mk := selectMethod_private hmethM (Cond.privateMethod_at wp mk methM hnamed hmethM)
  have hi : k.isInterface = false := (Bool.or_eq_false_iff.mp g4).1
  simp [Cond.before, Cond.holds, Cond.value, e, f, hnamed, hs, g2, hi]
section Calls7
variable {nw : Bool} {l : Launch} {Z : State} {EL : List (String × Nat)} {own : String} {bytes : ByteArray} {maxL : Nat} {ret : Option FieldType} {mnm : String} {R : Room} {h0 : Heap} {B0 : BP} {ws : List Addr} {Q : QT} {x : Cx} {T : State} {h : Heap} {B : BP} {k n : Nat} {a0 : Array Value} {pc pc' : Nat} {Ls : Array Slot} {st : List Value}
theorem g_callW (X : Wk nw l Z EL own bytes maxL ret mnm R h0 B0 ws Q x T h B k n) {D : String} {y z y' : MethodName} {C' : String} {idx : Nat} {bytes' : ByteArray} {maxL' : Nat} {ret' : Option FieldType} {rm : Room} {ws' : List Addr} {Q' : QT} {ps : List FieldType} {rt : Option FieldType} (hd : Dc bytes pc (.invokevirtual idx) 3 pc')
    (w1 : (Cond.methodLink own idx y).before a0 Z = true) (w2 : (Cond.declares y).before a0 Z = true) (w3 : (Cond.selects D y z).before a0 Z = true) (w4 : (Cond.instanceMethod z).before a0 Z = true) (w5 : (Cond.initialized z.cls).before a0 Z = true) (w6 : (Cond.code z bytes' maxL' ret').before a0 Z = true) (wf : (Cond.selects C' y' y').before a0 Z = true) (hcf : y'.cls = y.cls) (hy : noHandle y) (hpd : parseMethodDescriptor y.desc = some ⟨ps, rt⟩)
    (a : Addr) (argsL rest : List Value) (W : Nat) (E : Exa Z h a D) (C : Con nw l Z EL z bytes' maxL' ret' [] rm (.ref a :: argsL).toArray h B ws' Q') (hlen : argsL.length = ps.length) (hst : st = argsL.reverse ++ .ref a :: rest) (hsz : Ls.size = maxL) (hW : (rest.map fun v => v.category).sum ≤ W) (hf : rm.frames + 1 ≤ R.frames) (hl : W + (maxL' + 11) + rm.locals ≤ R.locals) (k' n' : Nat) (ek : k + rm.cells = k') (en : n + rm.slots = n') (hc : k' ≤ R.cells) (hs : n' ≤ R.slots)
    (hws : ∀ z ∈ ws', ¬ B z ∧ Z.heap.size ≤ z ∧ (z ∈ ws ∨ h0.size ≤ z))
    (K : ∀ v T' h' B', Wk nw l Z EL own bytes maxL ret mnm R h0 B0 ws Q x T' h' B' k' n' → Keep h h' ws' → k_more B B' h.size → Q' v h' B' → Go x (T'.setTop (mkF x.m pc' Ls (v.toList ++ rest)))) : Go x (T.setTop (mkF x.m pc Ls st)) := by
  subst ek en
  obtain ⟨S, vm0, k0, locs, X, eT, hS, hk, hZ, hown, hI, hFr, hK, hM, hN⟩ := X
  obtain ⟨hd, rfl⟩ := hd
  obtain ⟨cq, kq, qa, qb, qc⟩ := isOf (s := x.s.setVm vm0) hZ eT E
  obtain ⟨v, vm₁, ⟨T', L', k'', n''⟩, -, X', hS', hgr, ⟨L, B', q1, q2, q3, q4, e1, e2, e3, q5, q6⟩, stp⟩ := X.virtualBackS S.1 (y := y) (z := z) hown (mvT (s := x.s.setVm vm0) hZ w1) (mvT (s := x.s.setVm vm0) hZ w2) (k_notFace (args := #[]) (mvT (s := x.s.setVm vm0) hZ wf) hcf) (mvT (s := x.s.setVm vm0) hZ w3) (mvT (s := x.s.setVm vm0) hZ w4) hy (conBack (W := W) C hZ w6 w5 hf hl hI) qa qc (g := mkF x.m pc Ls st) rfl (by rw [S.2.2.1]; exact hsz) (Steps.refl _) (lenOf hpd hlen) hst (by show 2 * 0 + _ ≤ _; omega) (S.2.1 ▸ hd) (fun _ _ => ⟨rfl, eT, hc, hs⟩)
  dsimp only [Pt.U, Pt.locs, Pt.cells, Pt.slots] at X' hS' hgr q1 q2 q5 q6 e1 e2 e3 stp
  subst e1 e2 e3
  exact (K v T' _ B' (Wk.called q2 hws q3 q4 q5 S X' rfl hS hk hS' hZ hown hFr hK hM hN q6) q2 q3 q1).from fun t q => stp.trans q
theorem g_callP (X : Wk nw l Z EL own bytes maxL ret mnm R h0 B0 ws Q x T h B k n) {D : String} {y : MethodName} {idx : Nat} {bytes' : ByteArray} {maxL' : Nat} {ret' : Option FieldType} {rm : Room} {ws' : List Addr} {Q' : QT} {ps : List FieldType} {rt : Option FieldType} (hd : Dc bytes pc (.invokevirtual idx) 3 pc')
    (w1 : (Cond.methodLink own idx y).before a0 Z = true) (w3 : (Cond.selects D y y).before a0 Z = true) (w4 : (Cond.instanceMethod y).before a0 Z = true) (w5 : (Cond.initialized y.cls).before a0 Z = true) (w6 : (Cond.code y bytes' maxL' ret').before a0 Z = true) (hy : noHandle y) (hpd : parseMethodDescriptor y.desc = some ⟨ps, rt⟩)
    (a : Addr) (argsL rest : List Value) (W : Nat) (E : Exa Z h a D) (C : Con nw l Z EL y bytes' maxL' ret' [] rm (.ref a :: argsL).toArray h B ws' Q') (hlen : argsL.length = ps.length) (hst : st = argsL.reverse ++ .ref a :: rest) (hsz : Ls.size = maxL) (hW : (rest.map fun v => v.category).sum ≤ W) (hf : rm.frames + 1 ≤ R.frames) (hl : W + (maxL' + 11) + rm.locals ≤ R.locals) (k' n' : Nat) (ek : k + rm.cells = k') (en : n + rm.slots = n') (hc : k' ≤ R.cells) (hs : n' ≤ R.slots)
    (hws : ∀ z ∈ ws', ¬ B z ∧ Z.heap.size ≤ z ∧ (z ∈ ws ∨ h0.size ≤ z))
    (K : ∀ v T' h' B', Wk nw l Z EL own bytes maxL ret mnm R h0 B0 ws Q x T' h' B' k' n' → Keep h h' ws' → k_more B B' h.size → Q' v h' B' → Go x (T'.setTop (mkF x.m pc' Ls (v.toList ++ rest)))) : Go x (T.setTop (mkF x.m pc Ls st)) :=
  g_callV X hd w1 (k_declares w4 w6) w3 w4 w5 w6 hy hpd a argsL rest W E C hlen hst hsz hW hf hl k' n' ek en hc hs hws K
theorem g_callU (X : Wk nw l Z EL own bytes maxL ret mnm R h0 B0 ws Q x T h B k n) {D : String} {y y' : MethodName} {C' : String} {idx : Nat} {bytes' : ByteArray} {maxL' : Nat} {ret' : Option FieldType} {rm : Room} {ws' : List Addr} {Q' : QT} {ps : List FieldType} {rt : Option FieldType} (hd : Dc bytes pc (.invokespecial idx) 3 pc')
    (w1 : (Cond.methodLink own idx y).before a0 Z = true) (w2 : (Cond.superclass own y.cls).before a0 Z = true) (w3 : (Cond.selects C' y' y').before a0 Z = true) (hcf : y'.cls = y.cls) (hni : y.name ≠ "<init>") (w4 : (Cond.instanceMethod y).before a0 Z = true) (w5 : (Cond.initialized y.cls).before a0 Z = true) (w6 : (Cond.code y bytes' maxL' ret').before a0 Z = true) (hy : noHandle y) (hpd : parseMethodDescriptor y.desc = some ⟨ps, rt⟩)
    (a : Addr) (argsL rest : List Value) (W : Nat) (E : Exa Z h a D) (C : Con nw l Z EL y bytes' maxL' ret' [] rm (.ref a :: argsL).toArray h B ws' Q') (hlen : argsL.length = ps.length) (hst : st = argsL.reverse ++ .ref a :: rest) (hsz : Ls.size = maxL) (hW : (rest.map fun v => v.category).sum ≤ W) (hf : rm.frames + 1 ≤ R.frames) (hl : W + (maxL' + 11) + rm.locals ≤ R.locals) (k' n' : Nat) (ek : k + rm.cells = k') (en : n + rm.slots = n') (hc : k' ≤ R.cells) (hs : n' ≤ R.slots)
    (hws : ∀ z ∈ ws', ¬ B z ∧ Z.heap.size ≤ z ∧ (z ∈ ws ∨ h0.size ≤ z))
    (K : ∀ v T' h' B', Wk nw l Z EL own bytes maxL ret mnm R h0 B0 ws Q x T' h' B' k' n' → Keep h h' ws' → k_more B B' h.size → Q' v h' B' → Go x (T'.setTop (mkF x.m pc' Ls (v.toList ++ rest)))) : Go x (T.setTop (mkF x.m pc Ls st)) := by
  subst ek en
  obtain ⟨S, vm0, k0, locs, X, eT, hS, hk, hZ, hown, hI, hFr, hK, hM, hN⟩ := X
  obtain ⟨hd, rfl⟩ := hd
  obtain ⟨v, vm₁, ⟨T', L', k'', n''⟩, -, X', hS', hgr, ⟨L, B', q1, q2, q3, q4, e1, e2, e3, q5, q6⟩, stp⟩ := RoadKit.superBackS X S.1 hZ hown w1 (k_same w4 w3 hcf hy) w4 w2 hni (conBack (W := W) C hZ w6 w5 hf hl hI) eT (Ins.self E) (g := mkF x.m pc Ls st) rfl (by rw [S.2.2.1]; exact hsz) w6 (lenOf hpd hlen) hst (by show 2 * 0 + _ ≤ _; omega) (S.2.1 ▸ hd) (fun _ _ => ⟨rfl, eT, hc, hs⟩)
  dsimp only [Pt.U, Pt.locs, Pt.cells, Pt.slots] at X' hS' hgr q1 q2 q5 q6 e1 e2 e3 stp
  subst e1 e2 e3
  exact (K v T' _ B' (Wk.called q2 hws q3 q4 q5 S X' rfl hS hk hS' hZ hown hFr hK hM hN q6) q2 q3 q1).from fun t q => stp.trans q

theorem g_clone (X : Wk nw l Z EL own bytes maxL ret mnm R h0 B0 ws Q x T h B k n) {ad : String} {idx : Nat} {ty : FieldType} {vs : List Value} (hd : Dc bytes pc (.invokevirtual idx) 3 pc')
    (w1 : (Cond.methodLink own idx ⟨ad, "clone", "()Ljava/lang/Object;"⟩).before a0 Z = true) (w2 : (Cond.sameMethod ad "java/lang/Object" "clone" "()Ljava/lang/Object;").before a0 Z = true) (w3 : (Cond.native ⟨"java/lang/Object", "clone", "()Ljava/lang/Object;"⟩).before a0 Z = true)
    (w4 : (Cond.instanceMethod ⟨"java/lang/Object", "clone", "()Ljava/lang/Object;"⟩).before a0 Z = true) (w5 : (Cond.selects ad ⟨ad, "clone", "()Ljava/lang/Object;"⟩ ⟨"java/lang/Object", "clone", "()Ljava/lang/Object;"⟩).before a0 Z = true) (w6 : (Cond.castable ad "java/lang/Cloneable").before a0 Z = true)
    {a : Addr} (A : Ay Z h a ty vs) (E : Exa Z h a ad) (W cap : Nat) (hsz : Ls.size = maxL) (hW : (st.map fun v => v.category).sum ≤ W) (hf : 1 ≤ R.frames) (hl : W + 14 ≤ R.locals) (hcap : vs.length ≤ cap) (k' n' : Nat) (ek : k + 1 = k') (en : n + cap = n') (hc : k' ≤ R.cells) (hs : n' ≤ R.slots)
    (K : ∀ T' h' b, Wk nw l Z EL own bytes maxL ret mnm R h0 B0 ws Q x T' h' B k' n' → Ext h h' → b = h.size → ¬ B b → Ay Z h' b ty vs → Exa Z h' b ad → Go x (T'.setTop (mkF x.m pc' Ls (.ref b :: st)))) : Go x (T.setTop (mkF x.m pc Ls (.ref a :: st))) := by
  have hB := X.fresh
  subst ek en
  obtain ⟨S, vm0, k0, locs, X, eT, hS, hk, hZ, hown, hI, hFr, hK, hM, hN⟩ := X
  obtain ⟨hd, rfl⟩ := hd
  obtain ⟨c, A, e, hlen, hfit⟩ := A
  subst e
  have FC : FitC Z c := fitC_of A fun i hi v hv => hfit v (by obtain ⟨_, e⟩ := Array.getElem?_eq_some_iff.mp hv; rw [← e]; exact Array.getElem_mem_toList _)
  obtain ⟨T', h', X', e', Ex, A', E', stp⟩ := cloneA X S.1 hZ hown w1 w2 w3 w4 w5 w6 eT A E FC (g := mkF x.m pc Ls (.ref a :: st)) rfl (by rw [S.2.2.1]; exact hsz) rfl (S.2.1 ▸ hd) hf (W := W) (by show 2 * 0 + _ ≤ _; omega) hl (cap := cap) (by simpa using hcap) hc hs
  exact (K T' h' _ ⟨S, vm0, k0, locs, X', e', hS, Nat.le_trans hk Ex.1, hZ, hown, hI.ext Ex, hFr, hK.ext Ex, hM, hN⟩ Ex rfl hB ⟨_, A', rfl, hlen, hfit⟩ E').from stp
theorem g_newarrayE (X : Wk nw l Z EL own bytes maxL ret mnm R h0 B0 ws Q x T h B k n) {aty : ArrayType} {ty : FieldType} (hd : Dc bytes pc (.newarray aty) 2 pc') (hty : newarray.typeOf aty = ty) {ad : String} (had : "[" ++ (newarray.typeOf aty).toString = ad) (w : (Cond.arrayClass ty).before a0 Z = true) {j : Int32} (len cap : Nat) (hj : j = Int32.ofNat len) (hcap : len ≤ cap) (hbig : cap * 8 ≤ 536870912) (k' n' : Nat) (ek : k + 1 = k') (en : n + cap = n') (hc : k' ≤ R.cells) (hs : n' ≤ R.slots)
    (K : ∀ T' h' a, Wk nw l Z EL own bytes maxL ret mnm R h0 B0 ws Q x T' h' B k' n' → Ext h h' → a = h.size → ¬ B a → Ay Z h' a ty (List.replicate len (defaultValue ty)) → Exa Z h' a ad → Go x (T'.setTop (mkF x.m pc' Ls (.ref a :: st)))) : Go x (T.setTop (mkF x.m pc Ls (.int j :: st))) := by
  have hB := X.fresh
  subst hty hj ek en
  obtain ⟨S, vm0, k0, locs, X, eT, hS, hk, hZ, hown, hI, hFr, hK, hM, hN⟩ := X
  obtain ⟨hd, rfl⟩ := hd
  have hlt : len < 2 ^ 31 := by omega
  obtain ⟨q1, q2⟩ := i32_nat hlt
  obtain ⟨T', h', cA, X', e', E, A, Ea, stp⟩ := newPE X S.1 hZ w eT (g := mkF x.m pc Ls (.int (Int32.ofNat len) :: st)) rfl (S.2.1 ▸ hd) rfl q2 (cap := cap) (by rw [q1]; exact hcap) hbig hc hs had
  refine (K T' h' _ ⟨S, vm0, k0, locs, X', e', hS, Nat.le_trans hk E.1, hZ, hown, hI.ext E, hFr, hK.ext E, hM, hN⟩ E rfl hB ⟨_, A, ?_, by simpa using hlt, ?_⟩ Ea).from stp
  · simp [newA, q1]
  · intro v hv
    rw [(List.mem_replicate.mp hv).2]
    cases aty <;> rfl
theorem g_anewarray (X : Wk nw l Z EL own bytes maxL ret mnm R h0 B0 ws Q x T h B k n) {C : String} {idx : Nat} (hd : Dc bytes pc (.anewarray idx) 3 pc') {ad : String} (had : "[" ++ (FieldType.object C).toString = ad) (w1 : (Cond.classLink own idx C).before a0 Z = true) (w2 : (Cond.arrayOver (.object C)).before a0 Z = true) {j : Int32} (len cap : Nat) (hj : j = Int32.ofNat len) (hcap : len ≤ cap) (hbig : cap * 8 ≤ 536870912) (k' n' : Nat) (ek : k + 1 = k') (en : n + cap = n') (hc : k' ≤ R.cells) (hs : n' ≤ R.slots)
    (K : ∀ T' h' a, Wk nw l Z EL own bytes maxL ret mnm R h0 B0 ws Q x T' h' B k' n' → Ext h h' → a = h.size → ¬ B a → Ay Z h' a (.object C) (List.replicate len Value.null) → Exa Z h' a ad → Go x (T'.setTop (mkF x.m pc' Ls (.ref a :: st)))) : Go x (T.setTop (mkF x.m pc Ls (.int j :: st))) := by
  have hB := X.fresh
  subst hj ek en
  obtain ⟨S, vm0, k0, locs, X, eT, hS, hk, hZ, hown, hI, hFr, hK, hM, hN⟩ := X
  obtain ⟨hd, rfl⟩ := hd
  have hlt : len < 2 ^ 31 := by omega
  obtain ⟨q1, q2⟩ := i32_nat hlt
  obtain ⟨T', h', cA, X', e', E, A, Ea, -, stp⟩ := newRE X S.1 hZ hown w1 w2 eT (g := mkF x.m pc Ls (.int (Int32.ofNat len) :: st)) rfl (S.2.1 ▸ hd) rfl q2 (cap := cap) (by rw [q1]; exact hcap) hbig hc hs had
  refine (K T' h' _ ⟨S, vm0, k0, locs, X', e', hS, Nat.le_trans hk E.1, hZ, hown, hI.ext E, hFr, hK.ext E, hM, hN⟩ E rfl hB ⟨_, A, ?_, by simpa using hlt, ?_⟩ Ea).from stp
  · simp [newA, q1]; exact Or.inr rfl
  · intro v hv
    rw [(List.mem_replicate.mp hv).2]
    rfl
theorem k_ovr {Z : State} {a0 : Array Value} {h : Heap} {a : Addr} {C ad : String} {cell : Cell} (E : Exa Z h a ad) (had : "[" ++ (FieldType.object C).toString = ad) (w2 : (Cond.arrayOver (.object C)).before a0 Z = true) (hc : h[a]? = some cell) : Ovr Z cell.cls C := by
  obtain ⟨comp, c, k, q1, -, q3, q4, q5⟩ := Cond.arrayOver_spec w2
  obtain ⟨cell', k', e1, e2, -⟩ := E
  cases hc.symm.trans e1
  rw [had] at q5
  have := Option.some.inj (e2.symm.trans q5)
  exact ⟨k, comp, by rw [this]; exact q3, q4, q1⟩
theorem g_aastore (X : Wk nw l Z EL own bytes maxL ret mnm R h0 B0 ws Q x T h B k n) (hd : Dc bytes pc .aastore 1 pc') {a y : Addr} {C ad : String} {vs : List Value} (A : Ay Z h a (.object C) vs) (E : Exa Z h a ad) (had : "[" ++ (FieldType.object C).toString = ad) (w2 : (Cond.arrayOver (.object C)).before a0 Z = true) (I : Ins Z h y C true) {j : Int32} (i : Nat) (hj : j = Int32.ofNat i) (hi : i < vs.length) (hB : ¬ B a) (hz : Z.heap.size ≤ a) (hw : a ∈ ws ∨ h0.size ≤ a)
    (K : ∀ T' h', Wk nw l Z EL own bytes maxL ret mnm R h0 B0 ws Q x T' h' B k n → Keep h h' [a] → Ay Z h' a (.object C) (vs.set i (.ref y)) → Go x (T'.setTop (mkF x.m pc' Ls st))) : Go x (T.setTop (mkF x.m pc Ls (.ref y :: .int j :: .ref a :: st))) := by
  subst hj
  obtain ⟨S, vm0, k0, locs, X, eT, hS, hk, hZ, hown, hI, hFr, hK, hM, hN⟩ := X
  obtain ⟨hd, rfl⟩ := hd
  obtain ⟨c, A, h1, h2⟩ := A.set hi (v := .ref y) rfl
  obtain ⟨T', h', X', e', Wr', stp⟩ := stR X S.1 hZ eT A h1 rfl (Sto.of A (k_ovr E had w2 A.1) I) (g := mkF x.m pc Ls (.ref y :: .int (Int32.ofNat i) :: .ref a :: st)) rfl rfl (S.2.1 ▸ hd)
  exact (K T' h' (Wk.wrote Wr' hB hz hw S X' e' hS hk hZ hown hI hFr hK hM hN) (Keep.of_wr Wr') (h2 h' Wr')).from stp
end Calls7
/-- a sign from 0 to 255 -/
def C8 (c : Int32) : Prop := ¬ 255 < c ∧ ¬ c < 0
theorem k_and255 (p : Int32) : 0 ≤ (p &&& 255).toInt ∧ (p &&& 255).toInt ≤ 255 := by
  have h2 : (p.toBitVec &&& 255#32).toNat ≤ 255 := by rw [BitVec.toNat_and]; exact Nat.and_le_right
  have e : (p &&& 255).toInt = ((p.toBitVec &&& 255#32).toNat : Int) := by
    have h1 : (p &&& 255).toBitVec = p.toBitVec &&& 255#32 := by simp
    rw [← Int32.toInt_toBitVec, h1, BitVec.toInt_eq_toNat_of_lt (by omega)]
  omega
theorem c8_int {c : Int32} : C8 c ↔ 0 ≤ c.toInt ∧ c.toInt ≤ 255 := by
  rw [C8, Int32.lt_iff_toInt_lt, Int32.lt_iff_toInt_lt, show (255 : Int32).toInt = 255 from by decide, show (0 : Int32).toInt = 0 from by decide]; omega
theorem c8_and (p : Int32) : C8 (p &&& 255) := c8_int.mpr (k_and255 p)
theorem k_le255 (p : Int32) : ¬ (255 : Int32) < p &&& 255 := (c8_and p).1
theorem k_c255' (p : Int32) : (p &&& 255).toUInt32.toUInt16.toUInt32.toInt32 = p &&& 255 := i2c_mask p
theorem k_c255 (p : Int32) : RoadKit.nar .char (p &&& 255).toUInt32.toUInt16.toUInt32.toInt32 = p &&& 255 := by rw [i2c_mask]; exact i2c_mask p
theorem c8_nat {c : Int32} (h : C8 c) : ∃ m : Nat, m < 256 ∧ c = Int32.ofNat m := by
  have h := c8_int.mp h
  exact ⟨c.toInt.toNat, by omega, by rw [← Int32.toInt_inj, k_ofNat (by omega)]; omega⟩
theorem c8_all : ∀ m, m < 256 → Int32.ofNat m &&& 255 = Int32.ofNat m ∧ lo8 (Int32.ofNat m) &&& 255 = Int32.ofNat m := by decide +kernel
theorem c8_and_self {c : Int32} (h : C8 c) : c &&& 255 = c := by
  obtain ⟨m, hm, rfl⟩ := c8_nat h
  exact (c8_all m hm).1
theorem nar_c8 {c : Int32} (h : C8 c) : RoadKit.nar .char c = c := by
  rw [← c8_and_self h]; exact i2c_mask c
theorem b8_inj {c d : Int32} (h : C8 c) (h' : C8 d) : lo8 c = lo8 d ↔ c = d := by
  refine ⟨fun q => ?_, fun q => by rw [q]⟩
  obtain ⟨m, hm, rfl⟩ := c8_nat h
  obtain ⟨m', hm', rfl⟩ := c8_nat h'
  have := congrArg (· &&& 255) q
  rwa [(c8_all m hm).2, (c8_all m' hm').2] at this
/-! own kit, part 6: Strings of two bytes a sign -/
def C16 (c : Int32) : Prop := ¬ 65535 < c ∧ ¬ c < 0
def hi8 (c : Int32) : Int32 := lo8 (c >>> ((8 : Int32) &&& 31))
def u16 (cs : List Int32) : List Int32 := cs.flatMap fun c => [lo8 c, hi8 c]
theorem u16_nil : u16 [] = [] := rfl
theorem u16_cons (c : Int32) (cs : List Int32) : u16 (c :: cs) = lo8 c :: hi8 c :: u16 cs := rfl
theorem u16_append (cs ds : List Int32) : u16 (cs ++ ds) = u16 cs ++ u16 ds := by simp [u16]
theorem u16_len (cs : List Int32) : (u16 cs).length = 2 * cs.length := by
  induction cs with
  | nil => rfl
  | cons c cs ih => rw [u16_cons]; simp [ih]; omega
theorem u16_lo : ∀ (cs : List Int32) (i : Nat) (hi : i < cs.length), (u16 cs)[2 * i]? = some (lo8 cs[i])
  | [], i, hi => absurd hi (Nat.not_lt_zero _)
  | c :: cs, 0, hi => rfl
  | c :: cs, i + 1, hi => by
    rw [u16_cons, show 2 * (i + 1) = 2 * i + 1 + 1 by omega, List.getElem?_cons_succ, List.getElem?_cons_succ]
    exact u16_lo cs i (by simpa using hi)
theorem u16_hi : ∀ (cs : List Int32) (i : Nat) (hi : i < cs.length), (u16 cs)[2 * i + 1]? = some (hi8 cs[i])
  | [], i, hi => absurd hi (Nat.not_lt_zero _)
  | c :: cs, 0, hi => rfl
  | c :: cs, i + 1, hi => by
    rw [u16_cons, show 2 * (i + 1) + 1 = 2 * i + 1 + 1 + 1 by omega, List.getElem?_cons_succ, List.getElem?_cons_succ]
    exact u16_hi cs i (by simpa using hi)
theorem k_fill16 (cs : List Int32) (i : Nat) (hi : i < cs.length) :
    ((((u16 (cs.take i)).map Value.int ++ List.replicate (2 * (cs.length - i)) (Value.int 0)).set (2 * i) (.int (lo8 cs[i]))).set (2 * i + 1) (.int (hi8 cs[i]))) = (u16 (cs.take (i + 1))).map Value.int ++ List.replicate (2 * (cs.length - (i + 1))) (Value.int 0) := by
  have e1 : ((u16 (cs.take i)).map Value.int).length = 2 * i := by simp [u16_len]; omega
  have e2 : 2 * (cs.length - i) = 2 * (cs.length - (i + 1)) + 1 + 1 := by omega
  rw [e2, List.replicate_succ, List.replicate_succ, List.take_succ_eq_append_getElem hi, u16_append, List.map_append]
  generalize (u16 (cs.take i)).map Value.int = P at e1
  rw [List.set_append_right _ _ (by omega), List.set_append_right _ _ (by omega)]
  simp [e1, u16]
theorem k_shl1 {i : Nat} (h : 2 * i < 2 ^ 31) : Int32.ofNat i <<< ((1 : Int32) &&& 31) = Int32.ofNat (2 * i) := by
  have e : ((1 : Int32) &&& 31) = 1 := by decide
  rw [e]
  apply Int32.toBitVec_inj.mp
  apply BitVec.eq_of_toNat_eq
  rw [Int32.toBitVec_shiftLeft, show ((1 : Int32).toBitVec.smod 32) = 1#32 from by decide]
  simp only [Int32.toBitVec_ofNat', BitVec.shiftLeft_eq', BitVec.toNat_shiftLeft, BitVec.toNat_ofNat]
  rw [Nat.shiftLeft_eq, show (2 ^ (1 % 2 ^ 32)) = 2 from rfl]
  omega
theorem k_shr1 {i : Nat} (h : 2 * i < 2 ^ 31) : Int32.ofNat (2 * i) >>> ((1 : Int32) &&& 31) = Int32.ofNat i := by
  have e : ((1 : Int32) &&& 31) = 1 := by decide
  rw [e]
  apply Int32.toBitVec_inj.mp
  apply BitVec.eq_of_toNat_eq
  rw [Int32.toBitVec_shiftRight, show ((1 : Int32).toBitVec.smod 32) = 1#32 from by decide]
  have hm : (BitVec.ofNat 32 (2 * i)).msb = false := by rw [BitVec.msb_eq_false_iff_two_mul_lt, BitVec.toNat_ofNat]; omega
  simp only [Int32.toBitVec_ofNat', BitVec.sshiftRight_eq', BitVec.sshiftRight_eq_of_msb_false hm, BitVec.toNat_ushiftRight, BitVec.toNat_ofNat, Nat.shiftRight_eq_div_pow]
  rw [show (2 ^ (1 % 2 ^ 32)) = 2 from rfl]
  omega
theorem c16_int {c : Int32} : C16 c ↔ 0 ≤ c.toInt ∧ c.toInt ≤ 65535 := by
  rw [C16, Int32.lt_iff_toInt_lt, Int32.lt_iff_toInt_lt, show (65535 : Int32).toInt = 65535 from by decide, show (0 : Int32).toInt = 0 from by decide]; omega
theorem c16_nat {c : Int32} (h : C16 c) : ∃ m : Nat, m < 65536 ∧ c = Int32.ofNat m := by
  have h := c16_int.mp h
  exact ⟨c.toInt.toNat, by omega, by rw [← Int32.toInt_inj, k_ofNat (by omega)]; omega⟩
theorem nar_c16 {c : Int32} (h : C16 c) : RoadKit.nar .char c = c := by
  obtain ⟨m, hm, rfl⟩ := c16_nat h
  apply Int32.toBitVec_inj.mp
  apply BitVec.eq_of_toNat_eq
  show (Int32.ofNat m).toUInt32.toUInt16.toUInt32.toNat = _
  rw [UInt16.toNat_toUInt32, UInt32.toNat_toUInt16]
  show (BitVec.ofNat 32 m).toNat % 2 ^ 16 = (BitVec.ofNat 32 m).toNat
  rw [BitVec.toNat_ofNat]
  omega
theorem lo8_and (c : Int32) : lo8 c &&& 255 = c &&& 255 := by
  apply Int32.toBitVec_inj.mp
  simp only [lo8, Int32.toBitVec_and, Int8.toBitVec_toInt32, Int32.toBitVec_toInt8]
  apply BitVec.eq_of_getLsbD_eq
  intro i hi
  have : i < 8 ∨ 8 ≤ i := by omega
  rcases this with q | q
  · rw [BitVec.getLsbD_and, BitVec.getLsbD_and, BitVec.getLsbD_signExtend, BitVec.getLsbD_signExtend]
    simp [q, hi, show i < 32 by omega]
  · have e : ((255 : Int32).toBitVec).getLsbD i = false := by
      have : ∀ j, j < 32 → 8 ≤ j → ((255 : Int32).toBitVec).getLsbD j = false := by decide
      exact this i hi q
    rw [BitVec.getLsbD_and, BitVec.getLsbD_and, e]; simp
theorem and255_nat (m : Nat) (h : m < 65536) : Int32.ofNat m &&& 255 = Int32.ofNat (m % 256) := by
  apply Int32.toBitVec_inj.mp
  apply BitVec.eq_of_toNat_eq
  simp only [Int32.toBitVec_and, BitVec.toNat_and, Int32.toBitVec_ofNat', BitVec.toNat_ofNat]
  rw [show ((255 : Int32).toBitVec).toNat = 2 ^ 8 - 1 from by decide, Nat.and_two_pow_sub_one_eq_mod]
  omega
theorem shr8_nat {m : Nat} (h : m < 65536) : Int32.ofNat m >>> ((8 : Int32) &&& 31) = Int32.ofNat (m / 256) := by
  have e : ((8 : Int32) &&& 31) = 8 := by decide
  rw [e]
  apply Int32.toBitVec_inj.mp
  apply BitVec.eq_of_toNat_eq
  rw [Int32.toBitVec_shiftRight, show ((8 : Int32).toBitVec.smod 32) = 8#32 from by decide]
  have hm : (BitVec.ofNat 32 m).msb = false := by rw [BitVec.msb_eq_false_iff_two_mul_lt, BitVec.toNat_ofNat]; omega
  simp only [Int32.toBitVec_ofNat', BitVec.sshiftRight_eq', BitVec.sshiftRight_eq_of_msb_false hm, BitVec.toNat_ushiftRight, BitVec.toNat_ofNat, Nat.shiftRight_eq_div_pow]
  rw [show (2 ^ (8 % 2 ^ 32)) = 256 from rfl]
  omega
theorem k_get16 {c : Int32} (h : C16 c) : (((lo8 c &&& 255) <<< ((0 : Int32) &&& 31)) ||| ((hi8 c &&& 255) <<< ((8 : Int32) &&& 31))).toUInt32.toUInt16.toUInt32.toInt32 = c := by
  have e : (((lo8 c &&& 255) <<< ((0 : Int32) &&& 31)) ||| ((hi8 c &&& 255) <<< ((8 : Int32) &&& 31))) = c := by
    obtain ⟨m, hm, rfl⟩ := c16_nat h
    rw [hi8, lo8_and, lo8_and, shr8_nat hm, and255_nat m hm, and255_nat _ (by omega)]
    apply Int32.toBitVec_inj.mp
    apply BitVec.eq_of_toNat_eq
    rw [show ((0 : Int32) &&& 31) = 0 from by decide, show ((8 : Int32) &&& 31) = 8 from by decide]
    simp only [Int32.toBitVec_or, Int32.toBitVec_shiftLeft, show ((8 : Int32).toBitVec.smod 32) = 8#32 from by decide, show ((0 : Int32).toBitVec.smod 32) = 0#32 from by decide, Int32.toBitVec_ofNat', BitVec.shiftLeft_eq', BitVec.toNat_or, BitVec.toNat_shiftLeft, BitVec.toNat_ofNat]
    rw [show (8 % 2 ^ 32) = 8 from rfl, show (0 % 2 ^ 32) = 0 from rfl, Nat.shiftLeft_zero, Nat.shiftLeft_eq]
    rw [show m % 256 % 2 ^ 32 % 2 ^ 32 = m % 256 by omega, show (m / 256 % 256 % 2 ^ 32 * 2 ^ 8) % 2 ^ 32 = 2 ^ 8 * (m / 256) by omega, Nat.or_comm, ← Nat.two_pow_add_eq_or_of_lt (by omega)]
    omega
  rw [e]
  exact nar_c16 h
theorem k_b8_255 {c : Int32} (h1 : C16 c) (h2 : ¬ 255 < c) : lo8 c &&& 255 = c := by
  rw [lo8_and]; exact c8_and_self ⟨h2, h1.2⟩
/-- a String of these signs, in the one form or the other -/
def StrC (Z : State) (h : Heap) (N : Nat) (a : Addr) (cs : List Int32) : Prop :=
  (∀ c ∈ cs, C16 c) ∧ (((∀ c ∈ cs, ¬ 255 < c) ∧ Str Z h N a 0 (cs.map lo8)) ∨ Str Z h N a 1 (u16 cs))
theorem StrC.keep {Z : State} {h h' : Heap} {N : Nat} {a : Addr} {cs : List Int32} {ws : List Addr} (S : StrC Z h N a cs) (K : Keep h h' ws) (q : ∀ z ∈ ws, N ≤ z) : StrC Z h' N a cs := ⟨S.1, S.2.imp (fun r => ⟨r.1, r.2.keep K q⟩) (fun r => r.keep K q)⟩
theorem StrC.ext {Z : State} {h h' : Heap} {N : Nat} {a : Addr} {cs : List Int32} (S : StrC Z h N a cs) (E : Ext h h') : StrC Z h' N a cs := ⟨S.1, S.2.imp (fun r => ⟨r.1, r.2.ext E⟩) (fun r => r.ext E)⟩
theorem StrC.mono {Z : State} {h : Heap} {N N' : Nat} {a : Addr} {cs : List Int32} (S : StrC Z h N a cs) (q : N ≤ N') : StrC Z h N' a cs := ⟨S.1, S.2.imp (fun r => ⟨r.1, r.2.mono q⟩) (fun r => r.mono q)⟩
theorem StrC.exa {Z : State} {h : Heap} {N : Nat} {a : Addr} {cs : List Int32} (S : StrC Z h N a cs) : Exa Z h a "java/lang/String" := by rcases S.2 with r | r <;> first | exact r.2.exa | exact r.exa
theorem StrC.lt {Z : State} {h : Heap} {N : Nat} {a : Addr} {cs : List Int32} (S : StrC Z h N a cs) : @LT.lt Nat _ a N := by rcases S.2 with r | r <;> first | exact r.2.lt | exact r.lt
theorem StrC.len {Z : State} {h : Heap} {N : Nat} {a : Addr} {cs : List Int32} (S : StrC Z h N a cs) : cs.length < 2 ^ 31 := by
  rcases S.2 with r | r
  · simpa using r.2.len
  · have := r.len; rw [u16_len] at this; omega
theorem c16_and (p : Int32) : C16 (p &&& 65535) := by
  have h2 : (p.toBitVec &&& 65535#32).toNat ≤ 65535 := by rw [BitVec.toNat_and]; exact Nat.and_le_right
  have e : (p &&& 65535).toInt = ((p.toBitVec &&& 65535#32).toNat : Int) := by
    have h1 : (p &&& 65535).toBitVec = p.toBitVec &&& 65535#32 := by simp
    rw [← Int32.toInt_toBitVec, h1, BitVec.toInt_eq_toNat_of_lt (by omega)]
  exact c16_int.mpr (by omega)
theorem k_and3 (x : Int32) : x &&& 3 = 0 ∨ x &&& 3 = 1 ∨ x &&& 3 = 2 ∨ x &&& 3 = 3 := by
  have h2 : (x.toBitVec &&& 3#32).toNat ≤ 3 := by rw [BitVec.toNat_and]; exact Nat.and_le_right
  have e : x &&& 3 = Int32.ofNat (x.toBitVec &&& 3#32).toNat := by
    apply Int32.toBitVec_inj.mp
    simp
  rw [e]
  generalize (x.toBitVec &&& 3#32).toNat = m at h2
  have : m = 0 ∨ m = 1 ∨ m = 2 ∨ m = 3 := by omega
  rcases this with rfl | rfl | rfl | rfl <;> decide
theorem k_sign_all : ∀ m, m < 1000 → 0 < m → Jvm.Free.XT.ushr (Int32.ofNat m - Int32.ofNat (2 * m)) 31 = 1 := by decide +kernel
theorem k_sign {m : Nat} (hp : 0 < m) (hm : m < 1000) : Jvm.Free.XT.ushr (Int32.ofNat m - Int32.ofNat (2 * m)) 31 = 1 := k_sign_all m hm hp
theorem u16_drop : ∀ (cs : List Int32) (f : Nat), (u16 cs).drop (2 * f) = u16 (cs.drop f)
  | [], f => by simp [u16]
  | c :: cs, 0 => rfl
  | c :: cs, f + 1 => by
    rw [u16_cons, show 2 * (f + 1) = 2 * f + 1 + 1 by omega]
    simpa using u16_drop cs f
theorem u16_take : ∀ (cs : List Int32) (m : Nat), (u16 cs).take (2 * m) = u16 (cs.take m)
  | [], m => by simp [u16]
  | c :: cs, 0 => rfl
  | c :: cs, m + 1 => by
    rw [u16_cons, show 2 * (m + 1) = 2 * m + 1 + 1 by omega, List.take_succ_cons, List.take_succ_cons, u16_take cs m]
    rfl
theorem k_or3 {f m n : Nat} (hf : f < 2 ^ 31) (hm : m < 2 ^ 31) (hn : n < 2 ^ 31) : ¬ (Int32.ofNat n ||| Int32.ofNat f ||| Int32.ofNat m) < 0 := by
  have e : (Int32.ofNat n ||| Int32.ofNat f ||| Int32.ofNat m) = Int32.ofNat (n ||| f ||| m) := by
    apply Int32.toBitVec_inj.mp
    simp [Int32.toBitVec_ofNat', BitVec.ofNat_or]
  have : n ||| f ||| m < 2 ^ 31 := Nat.or_lt_two_pow (Nat.or_lt_two_pow hn hf) hm
  rw [e, Int32.lt_iff_toInt_lt, k_ofNat this, show (0 : Int32).toInt = 0 from by decide]
  omega
theorem c8_lt {c : Int32} (h : C8 c) : c < 65536 := by
  have h := c8_int.mp h
  rw [Int32.lt_iff_toInt_lt, show (65536 : Int32).toInt = 65536 from by decide]; omega
/-- where ch is found first, from f on; -1 where it isn't -/
def idxV (cs : List Int32) (ch : Int32) (f : Nat) : Int32 := ((cs.drop f).findIdx? (fun c => c == ch)).elim (-1) fun k => Int32.ofNat (f + k)
theorem idxV_hit {cs : List Int32} {ch : Int32} {i : Nat} (hi : i < cs.length) (h : cs[i] = ch) : idxV cs ch i = Int32.ofNat i := by
  rw [idxV, List.drop_eq_getElem_cons hi, List.findIdx?_cons]; simp [h]
theorem idxV_miss {cs : List Int32} {ch : Int32} {i : Nat} (hi : i < cs.length) (h : ¬ cs[i] = ch) : idxV cs ch i = idxV cs ch (i + 1) := by
  rw [idxV, List.drop_eq_getElem_cons hi, List.findIdx?_cons, idxV]
  simp only [beq_iff_eq, h, if_false]
  cases (cs.drop (i + 1)).findIdx? (fun c => c == ch) with
  | none => rfl
  | some k => exact congrArg Int32.ofNat (show i + (k + 1) = i + 1 + k by omega)
theorem idxV_end {cs : List Int32} {ch : Int32} {i : Nat} (hi : cs.length ≤ i) : idxV cs ch i = -1 := by
  rw [idxV, List.drop_eq_nil_of_le hi]; rfl
theorem idxV_cases (cs : List Int32) (ch : Int32) (f : Nat) : idxV cs ch f = -1 ∨ ∃ k, f ≤ k ∧ k < cs.length ∧ idxV cs ch f = Int32.ofNat k := by
  rw [idxV]
  cases h : (cs.drop f).findIdx? (fun c => c == ch) with
  | none => exact Or.inl rfl
  | some k =>
    have := (List.findIdx?_eq_some_iff_getElem.mp h).1
    simp at this
    exact Or.inr ⟨f + k, by omega, by omega, rfl⟩
theorem k_litlt {j f : Nat} (hj : j < 2 ^ 31) (hf : f < 2 ^ 31) : Int32.ofNat j < Int32.ofNat f ↔ j < f := by
  constructor
  · intro q
    rcases Nat.lt_or_ge j f with r | r
    · exact r
    · exact absurd q (k_nlt r hj)
  · intro q; exact k_lt q hf
/-- one test of 'find': nothing is found from f up to j -/
theorem find_skip {ds : List Int32} {ch : Int32} {f j : Nat} (he : idxV ds ch (max f j) = idxV ds ch f) (h : j < f ∨ ds.length ≤ j) : idxV ds ch (max f (j + 1)) = idxV ds ch f := by
  rcases h with h | h
  · rw [Nat.max_eq_left (by omega)]
  · rw [← he, idxV_end (by omega), idxV_end (by omega)]
theorem find_hit {cs : List Int32} {ch : Int32} {f j k : Nat} (he : idxV (cs.take k) ch (max f j) = idxV (cs.take k) ch f) (hf : f ≤ j) (hk : j < k) (hc : j < cs.length) (h : cs[j] = ch) : Int32.ofNat j = idxV (cs.take k) ch f := by
  rw [← he, Nat.max_eq_right hf, idxV_hit (by simp; omega) (by simpa using h)]
theorem find_miss {cs : List Int32} {ch : Int32} {f j k : Nat} (he : idxV (cs.take k) ch (max f j) = idxV (cs.take k) ch f) (hf : f ≤ j) (hk : j < k) (hc : j < cs.length) (h : ¬ cs[j] = ch) : idxV (cs.take k) ch (max f (j + 1)) = idxV (cs.take k) ch f := by
  rw [← he, Nat.max_eq_right hf, Nat.max_eq_right (by omega), ← idxV_miss (by simp; omega) (by simpa using h)]

def SBS (Z : State) (h : Heap) (s t : Addr) (bs pd : List Int32) : Prop :=
  Exa Z h s "java/lang/StringBuilder" ∧ Fld Z h s "java/lang/AbstractStringBuilder" "value" "[B" (.ref t) ∧ Fld Z h s "java/lang/AbstractStringBuilder" "coder" "B" (.int 0) ∧ Fld Z h s "java/lang/AbstractStringBuilder" "count" "I" (.int (Int32.ofNat bs.length)) ∧ Ay Z h t .byte ((bs ++ pd).map Value.int)
theorem SBS.op {Z : State} {h : Heap} {s t : Addr} {bs pd : List Int32} (S : SBS Z h s t bs pd) : Exa Z h s "java/lang/StringBuilder" ∧ Fld Z h s "java/lang/AbstractStringBuilder" "value" "[B" (.ref t) ∧ Fld Z h s "java/lang/AbstractStringBuilder" "coder" "B" (.int 0) ∧ Fld Z h s "java/lang/AbstractStringBuilder" "count" "I" (.int (Int32.ofNat bs.length)) ∧ Ay Z h t .byte ((bs ++ pd).map Value.int) := S
theorem SBS.ext {Z : State} {h h' : Heap} {s t : Addr} {bs pd : List Int32} (S : SBS Z h s t bs pd) (E : Ext h h') : SBS Z h' s t bs pd := ⟨S.1.ext E, S.2.1.ext E, S.2.2.1.ext E, S.2.2.2.1.ext E, S.2.2.2.2.ext E⟩
theorem StrV.exa' {Z : State} {h : Heap} {a : Addr} {cd : Int32} {bs : List Int32} (S : StrV Z h a cd bs) : Exa Z h a "java/lang/String" := by obtain ⟨t, e, -⟩ := S; exact e
theorem k_sbapp {Z : State} {h : Heap} {t : Addr} {bs cs pd : List Int32} (A : Ay Z h t .byte (((bs ++ pd).map Value.int).take bs.length ++ cs.map Value.int ++ ((bs ++ pd).map Value.int).drop (bs.length + cs.length))) : Ay Z h t .byte (((bs ++ cs) ++ pd.drop cs.length).map Value.int) := by
  have e : ((bs ++ pd).map Value.int).take bs.length ++ cs.map Value.int ++ ((bs ++ pd).map Value.int).drop (bs.length + cs.length) = ((bs ++ cs) ++ pd.drop cs.length).map Value.int := by
    rw [← List.map_take, ← List.map_drop, List.take_left', List.drop_append]
    · simp
    · rfl
  rw [e] at A; exact A
def u8a (b : Int32) : Int32 := lo8 (192 ||| ((b &&& 255) >>> ((6 : Int32) &&& 31)))
def u8b (b : Int32) : Int32 := lo8 (128 ||| (b &&& 63))
def u8 (b : Int32) : List Int32 := if b < 0 then [u8a b, u8b b] else [b]
def utf8 (bs : List Int32) : List Int32 := bs.flatMap u8
theorem utf8_app (a b : List Int32) : utf8 (a ++ b) = utf8 a ++ utf8 b := by simp [utf8]
theorem utf8_one (b : Int32) : utf8 [b] = u8 b := by simp [utf8]
theorem utf8_neg {bs : List Int32} {i : Nat} (hi : i < bs.length) (h : bs[i] < 0) : utf8 (bs.take (i + 1)) = utf8 (bs.take i) ++ [u8a bs[i], u8b bs[i]] := by
  rw [List.take_succ_eq_append_getElem hi, utf8_app, utf8_one, u8, if_pos h]
theorem utf8_nn {bs : List Int32} {i : Nat} (hi : i < bs.length) (h : ¬ bs[i] < 0) : utf8 (bs.take (i + 1)) = utf8 (bs.take i) ++ [bs[i]] := by
  rw [List.take_succ_eq_append_getElem hi, utf8_app, utf8_one, u8, if_neg h]
theorem utf8_len (bs : List Int32) : (utf8 bs).length ≤ 2 * bs.length := by
  induction bs with
  | nil => simp [utf8]
  | cons b bs ih =>
    rw [show b :: bs = [b] ++ bs from rfl, utf8_app, utf8_one, List.length_append, List.length_append]
    have : (u8 b).length ≤ 2 := by rw [u8]; split <;> simp
    simp only [List.length_singleton]
    omega
theorem utf8_pos {bs : List Int32} (h : ∀ b ∈ bs, ¬ b < 0) : utf8 bs = bs := by
  induction bs with
  | nil => rfl
  | cons b bs ih =>
    rw [show b :: bs = [b] ++ bs from rfl, utf8_app, utf8_one, u8, if_neg (h b (List.mem_cons_self ..)), ih (fun c hc => h c (List.mem_cons_of_mem _ hc))]
theorem k_put {P : List Int32} {n : Nat} {v : Int32} (h : P.length < n) : (P.map Value.int ++ List.replicate (n - P.length) (Value.int 0)).set P.length (.int v) = (P ++ [v]).map Value.int ++ List.replicate (n - (P ++ [v]).length) (Value.int 0) := by
  have e : n - P.length = (n - (P ++ [v]).length) + 1 := by simp; omega
  rw [e, List.replicate_succ, List.set_append_right _ _ (by simp)]
  simp
theorem c16_of8 {c : Int32} (h : C8 c) : C16 c := c16_int.mpr (by have := c8_int.mp h; omega)
theorem k_takeall (cs : List Int32) : (cs.map Value.int).take cs.length = cs.map Value.int := List.take_of_length_le (by simp)
theorem k_shl0 (x : Int32) : x <<< ((0 : Int32) &&& 31) = x := by
  have : ((0 : Int32) &&& 31) = 0 := by decide
  rw [this]
  apply Int32.toBitVec_inj.mp
  simp
theorem k_le16 {m : Nat} (h : m ≤ 16) : ¬ 0 < Int32.ofNat m - (16 : Int32) := by
  have : ∀ m, m ≤ 16 → ¬ 0 < Int32.ofNat m - (16 : Int32) := by decide
  exact this m h

def e8a (c : Int32) : Int32 := 192 ||| (c >>> ((6 : Int32) &&& 31))
def e8b (c : Int32) : Int32 := 128 ||| (c &&& 63)
def e8 (c : Int32) : List Int32 := if c < 128 then [c] else [e8a c, e8b c]
def gL (nl sf : List Int32) : List Int32 := [107, 113, 58, 123] ++ nl ++ [125, 58] ++ sf
def gG (nl sf : List Int32) (k : Nat) : Int32 := (gL nl sf).getD k 0
theorem gG_nm {nl sf : List Int32} {k : Nat} (h1 : 4 ≤ k) (h2 : k - 4 < nl.length) : nl[k - 4] = gG nl sf k := by
  rw [gG, gL, List.getD_eq_getElem?_getD, List.append_assoc, List.append_assoc, List.getElem?_append_right (by simpa using h1)]
  rw [List.getElem?_append_left (by simpa using h2)]
  simp [h2]
theorem gG_c {nl sf : List Int32} : (125 : Int32) = gG nl sf (4 + nl.length) := by
  rw [gG, gL, List.getD_eq_getElem?_getD, List.append_assoc, List.append_assoc, List.getElem?_append_right (by simp)]
  simp
theorem gG_d {nl sf : List Int32} : (58 : Int32) = gG nl sf (5 + nl.length) := by
  rw [gG, gL, List.getD_eq_getElem?_getD, List.append_assoc, List.append_assoc, List.getElem?_append_right (by simp; omega)]
  rw [List.getElem?_append_right (by simp; omega)]
  simp [show 5 + nl.length - 4 - nl.length = 1 by omega]
theorem gG_s {nl sf : List Int32} {k : Nat} (h1 : 6 + nl.length ≤ k) (h2 : k - 6 - nl.length < sf.length) : sf[k - 6 - nl.length] = gG nl sf k := by
  rw [gG, gL, List.getD_eq_getElem?_getD, List.getElem?_append_right (by simp; omega)]
  simp [show k - (nl.length + 1 + 1 + 1 + 1 + 1 + 1) = k - 6 - nl.length by omega, show k - (nl.length + 6) = k - 6 - nl.length by omega, h2]
theorem e8_len (c : Int32) : (e8 c).length ≤ 2 := by rw [e8]; split <;> simp
theorem k_lolo {cs : List Int32} : ∀ b ∈ cs.map lo8, lo8 b = b := fun b hb => by obtain ⟨c, -, rfl⟩ := List.mem_map.mp hb; exact nar_b8 c
theorem k_u8all : ∀ m, m < 256 → (u8 (lo8 (Int32.ofNat m))).map (fun c => c &&& 255) = e8 (Int32.ofNat m) := by decide +kernel
theorem k_u8 {c : Int32} (h : C8 c) : (u8 (lo8 c)).map (fun c => c &&& 255) = e8 c := by
  obtain ⟨m, hm, rfl⟩ := c8_nat h
  exact k_u8all m hm
theorem k_mask8 {cs : List Int32} (h : ∀ c ∈ cs, C8 c) : (utf8 (cs.map lo8)).map (fun c => c &&& 255) = cs.flatMap e8 := by
  induction cs with
  | nil => rfl
  | cons c cs ih =>
    rw [List.map_cons, show lo8 c :: cs.map lo8 = [lo8 c] ++ cs.map lo8 from rfl, utf8_app, utf8_one, List.map_append, k_u8 (h c (List.mem_cons_self ..)), ih (fun d hd => h d (List.mem_cons_of_mem _ hd)), List.flatMap_cons]
theorem k_RL {cs sf : List Int32} (h : ∀ c ∈ cs, C8 c) (hs : utf8 sf = sf) (hm : sf.map (fun c => c &&& 255) = sf) : (utf8 (([107, 113, 58, 123] ++ cs.map lo8 ++ [125, 58]) ++ sf)).map (fun c => c &&& 255) = gL (cs.flatMap e8) sf := by
  have e1 : utf8 [107, 113, 58, 123] = [107, 113, 58, 123] := by decide +kernel
  have e2 : utf8 [125, 58] = [125, 58] := by decide +kernel
  have e3 : ([107, 113, 58, 123] : List Int32).map (fun c => c &&& 255) = [107, 113, 58, 123] := by decide +kernel
  have e4 : ([125, 58] : List Int32).map (fun c => c &&& 255) = [125, 58] := by decide +kernel
  rw [utf8_app, utf8_app, utf8_app, e1, e2, hs, List.map_append, List.map_append, List.map_append, k_mask8 h, hm, e3, e4, gL]
theorem k_R {R nl sf : List Int32} (e : R.map (fun c => c &&& 255) = gL nl sf) : R.length = 6 + nl.length + sf.length ∧ ∀ k (hk : k < R.length), R[k] &&& 255 = gG nl sf k := by
  have hl := congrArg List.length e
  refine ⟨by simp [gL] at hl; omega, fun k hk => ?_⟩
  rw [gG, ← e, List.getD_eq_getElem?_getD, List.getElem?_map, List.getElem?_eq_getElem hk]
  rfl
theorem k_lat8 {Z : State} {h : Heap} {a : Addr} {sf : List Int32} (S : StrV Z h a 0 sf) (e : sf.map lo8 = sf) : StrV Z h a 0 (sf.map lo8) := by rw [e]; exact S
theorem k_c8l {sf : List Int32} (h : ∀ c ∈ sf, ¬ 255 < c ∧ ¬ c < 0) : ∀ c ∈ sf, C8 c := h

theorem idxV_none {cs : List Int32} {ch : Int32} (h : ∀ c ∈ cs, c ≠ ch) : idxV cs ch 0 = -1 := by
  rw [idxV, List.drop_zero, List.findIdx?_eq_none_iff.mpr (fun c hc => by simpa using h c hc)]; rfl
theorem k_hb {pb cs : List Int32} (h : ∀ b ∈ pb, lo8 b = b) (h2 : ∀ b ∈ cs, lo8 b = b) : ∀ b ∈ pb ++ cs, lo8 b = b := fun b hb => (List.mem_append.mp hb).elim (h b) (h2 b)
theorem dsw1 : decode jdk_56_method_5_code 54 = .ok (.tableswitch 61 0 2 #[26, 32, 45], 26) := by decide +kernel
section Switch
variable {nw : Bool} {l : Launch} {Z : State} {EL : List (String × Nat)} {own : String} {bytes : ByteArray} {maxL : Nat} {ret : Option FieldType} {mnm : String} {R : Room} {h0 : Heap} {B0 : BP} {ws : List Addr} {Q : QT} {x : Cx} {T : State} {h : Heap} {B : BP} {k n : Nat} {a0 : Array Value} {pc pc' : Nat} {Ls : Array Slot} {st : List Value}
theorem g_tswO (X : Wk nw l Z EL own bytes maxL ret mnm R h0 B0 ws Q x T h B k n) {dflt low high : Int} {offs : Array Int} {len : Nat} (hd : decode bytes pc = .ok (.tableswitch dflt low high offs, len)) {i : Int32} (hout : i.toInt < low ∨ i.toInt > high) (ho : 0 ≤ (pc : Int) + dflt) (hp : ((pc : Int) + dflt).toNat = pc') (G : Go x (T.setTop (mkF x.m pc' Ls st))) : Go x (T.setTop (mkF x.m pc Ls (.int i :: st))) := by
  subst hp
  exact G.from fun t q => XS.tswOut X.at X.ex rfl rfl (X.dec hd) rfl hout ho rfl q
end Switch
set_option maxRecDepth 65536 in
set_option maxHeartbeats 40000000 in
theorem c_coder {nw : Bool} {l : Launch} {Z : State} {EL : List (String × Nat)} {a0 : Array Value} (hw : HW Z a0) (hs : Sts Z) {h0 : Heap} {B0 : BP} (a : Addr) (cd : Int32) (bs : List Int32) (hcd : cd = 0 ∨ cd = 1) (S : StrV Z h0 a cd bs) :
    Con nw l Z EL (⟨"java/lang/String", "coder", "()B"⟩ : MethodName) jdk_42_method_152_code 1 (some .byte) [] ({ frames := 0, cells := 0, slots := 0, locals := 0 } : Room) #[(.ref a)] h0 B0 [] (PQ (some (.int cd)) h0 B0) := by
  refine k_intro (Ls := #[.val (.ref a)]) (by decide +kernel) rfl fun x T0 X0 => ?_
  obtain ⟨cv, sCS, ncv⟩ := hs.1
  obtain ⟨t_a, E_a, Fc_a, Fv_a, A_a⟩ := S.op
  refine g_getstatic X0 d0_0 (w4 hw) Via.refl sCS fun T1 X1 => ?_
  refine g_ifF X1 d0_3 (XT.i0_eq_f ncv) ?_
  refine g_aloadN X1 d0_6 rfl rfl ?_
  refine g_getfield X1 d0_7 (w24 hw) Via.refl Fc_a fun T2 X2 => ?_
  refine g_goto X2 d0_10 ?_
  exact g_ireturn (w' := cd) X2 d0_14 (Or.inr (Or.inl rfl)) (by rcases hcd with rfl | rfl <;> decide) (by decide) (by decide) ⟨rfl, rfl, rfl⟩
set_option maxRecDepth 65536 in
set_option maxHeartbeats 40000000 in
theorem c_lengthL {nw : Bool} {l : Launch} {Z : State} {EL : List (String × Nat)} {a0 : Array Value} (hw : HW Z a0) (hs : Sts Z) {h0 : Heap} {B0 : BP} (a : Addr) (bs : List Int32) (S : StrV Z h0 a 0 bs) :
    Con nw l Z EL (⟨"java/lang/String", "length", "()I"⟩ : MethodName) jdk_42_method_54_code 1 (some .int) [] ({ frames := 1, cells := 0, slots := 0, locals := 13 } : Room) #[(.ref a)] h0 B0 [] (PQ (some (.int (Int32.ofNat bs.length))) h0 B0) := by
  refine k_intro (Ls := #[.val (.ref a)]) (by decide +kernel) rfl fun x T0 X0 => ?_
  obtain ⟨t_a, E_a, Fc_a, Fv_a, A_a⟩ := S.op
  refine g_aloadN X0 d1_0 rfl rfl ?_
  refine g_getfield X0 d1_1 (w22 hw) Via.refl Fv_a fun T1 X1 => ?_
  refine g_arraylength X1 d1_4 A_a (Int32.ofNat bs.length) (by simp) ?_
  refine g_aloadN X1 d1_5 rfl rfl ?_
  refine g_callVp X1 d1_6 (w70 hw) (w71 hw) (w73 hw) (w72 hw) (w2 hw) (w74 hw) (by decide) pd0 a [] [(.int (Int32.ofNat bs.length))] 1 E_a (c_coder hw hs a 0 bs (Or.inl rfl) S) rfl rfl rfl (Nat.le_of_eq rfl) (by decide) (by decide) 0 0 rfl rfl (by decide) (by decide) fun T2 X2 => ?_
  refine g_ishr X2 (Int32.ofNat bs.length) d1_9 (k_shr0 _) ?_
  exact g_ireturnI X2 d1_10 (by decide) (by decide) ⟨rfl, rfl, rfl⟩
set_option maxRecDepth 65536 in
set_option maxHeartbeats 40000000 in
theorem c_asbInit {nw : Bool} {l : Launch} {Z : State} {EL : List (String × Nat)} {a0 : Array Value} (hw : HW Z a0) (hs : Sts Z) {h0 : Heap} {B0 : BP} (s : Addr) (E_s : Exa Z h0 s "java/lang/StringBuilder") {us_value : Value} (Fs_value : Fld Z h0 s "java/lang/AbstractStringBuilder" "value" "[B" us_value) {us_coder : Value} (Fs_coder : Fld Z h0 s "java/lang/AbstractStringBuilder" "coder" "B" us_coder) {us_count : Value} (Fs_count : Fld Z h0 s "java/lang/AbstractStringBuilder" "count" "I" us_count) (nb_s : ¬ B0 s) (zl_s : Z.heap.size ≤ s)  :
    Con nw l Z EL (⟨"java/lang/AbstractStringBuilder", "<init>", "(I)V"⟩ : MethodName) jdk_68_method_2_code 2 none [] ({ frames := 1, cells := 1, slots := 16, locals := 12 } : Room) #[(.ref s), (.int (16 : Int32))] h0 B0 [s] (fun v h B => ∃ t, v = none ∧ B0 = B ∧ h0.size ≤ t ∧ ¬ B t ∧ Exa Z h s "java/lang/StringBuilder" ∧ Fld Z h s "java/lang/AbstractStringBuilder" "value" "[B" (.ref t) ∧ Fld Z h s "java/lang/AbstractStringBuilder" "coder" "B" (.int 0) ∧ Fld Z h s "java/lang/AbstractStringBuilder" "count" "I" us_count ∧ Ay Z h t .byte (List.replicate 16 (.int 0))) := by
  refine k_intro (Ls := #[.val (.ref s), .val (.int (16 : Int32))]) (by decide +kernel) rfl fun x T0 X0 => ?_
  obtain ⟨cv, sCS, ncv⟩ := hs.1
  have lt_s := k_ltE E_s
  refine g_aloadN X0 d2_0 rfl rfl ?_
  refine g_init X0 d2_1 rfl rfl (w103 hw) (w20 hw) (w21 hw) 0 rfl (by decide) (Nat.le_of_eq rfl) (by decide) fun T1 X1 => ?_
  refine g_getstatic X1 d2_4 (w104 hw) Via.refl sCS fun T2 X2 => ?_
  refine g_ifF X2 d2_7 (XT.i0_eq_f ncv) ?_
  refine g_aloadN X2 d2_10 rfl rfl ?_
  refine g_iloadN X2 d2_11 rfl ?_
  refine g_newarray X2 d2_12 rfl (w14 hw) 16 16 (by decide) (Nat.le_refl _) (by decide) 1 16 rfl rfl (by decide) (by decide) fun T3 h3 b3 X3 E3 eb3 nb3 A3 => ?_
  have z3 := E3.1; have lt3 : @LT.lt Nat _ b3 h3.size := A3.lt; have zl3 : @LE.le Nat _ Z.heap.size b3 := eb3 ▸ X2.szZ; have fr3 : @LE.le Nat _ h0.size b3 := eb3 ▸ X2.sz
  have A3a : Ay Z h3 b3 .byte [(.int (0 : Int32)), (.int (0 : Int32)), (.int (0 : Int32)), (.int (0 : Int32)), (.int (0 : Int32)), (.int (0 : Int32)), (.int (0 : Int32)), (.int (0 : Int32)), (.int (0 : Int32)), (.int (0 : Int32)), (.int (0 : Int32)), (.int (0 : Int32)), (.int (0 : Int32)), (.int (0 : Int32)), (.int (0 : Int32)), (.int (0 : Int32))] := A3
  have F4 := (Fs_value.ext E3)
  have E_5 := (E_s.ext E3)
  refine g_putfield X3 d2_14 (w105 hw) Via.refl F4 E_5 (Or.inl (w106 hw)) (w92 hw) (ty := (.array .byte)) (v' := (.ref b3)) (by decide) rfl rfl nb_s zl_s (Or.inl (List.mem_of_getElem? (i := 0) rfl)) fun T6 h6 X6 W6 => ?_
  have z6 := W6.size; have Fw6 := F4.same W6
  refine g_aloadN X6 d2_17 rfl rfl ?_
  refine g_iconst X6 (0 : Int32) d2_18 (by decide) ?_
  have F7 := ((Fs_coder.ext E3).other W6 (Or.inr (slot_ne (Or.inl (w108 hw)) (Or.inl (w106 hw)) (by decide) (t := .byte) (t' := (.array .byte)) (by decide) (by decide))))
  have E_8 := (E_5.wr W6)
  refine g_putfield X6 d2_19 (w107 hw) Via.refl F7 E_8 (Or.inl (w108 hw)) (w92 hw) (ty := .byte) (v' := (.int (0 : Int32))) (by decide) rfl rfl nb_s zl_s (Or.inl (List.mem_of_getElem? (i := 0) rfl)) fun T9 h9 X9 W9 => ?_
  have z9 := W9.size; have Fw9 := F7.same W9
  refine g_goto X9 d2_22 ?_
  have E_10 := (E_8.wr W9)
  have F11 := (Fw6.other W9 (Or.inr (slot_ne (Or.inl (w106 hw)) (Or.inl (w108 hw)) (by decide) (t := (.array .byte)) (t' := .byte) (by decide) (by decide))))
  have F12 := (((Fs_count.ext E3).other W6 (Or.inr (slot_ne (Or.inl (w122 hw)) (Or.inl (w106 hw)) (by decide) (t := .int) (t' := (.array .byte)) (by decide) (by decide)))).other W9 (Or.inr (slot_ne (Or.inl (w122 hw)) (Or.inl (w108 hw)) (by decide) (t := .int) (t' := .byte) (by decide) (by decide))))
  have A13 := ((A3a.keep (Keep.of_wr W6) (ninS (k_neN (by omega)) nin0)).keep (Keep.of_wr W9) (ninS (k_neN (by omega)) nin0))
  exact g_return X9 d2_38 (by decide) (by decide) ⟨_, rfl, rfl, fr3, nb3, E_10, F11, Fw9, F12, A13⟩
set_option maxRecDepth 65536 in
set_option maxHeartbeats 40000000 in
theorem c_sbInit {nw : Bool} {l : Launch} {Z : State} {EL : List (String × Nat)} {a0 : Array Value} (hw : HW Z a0) (hs : Sts Z) {h0 : Heap} {B0 : BP} (s : Addr) (E_s : Exa Z h0 s "java/lang/StringBuilder") {us_value : Value} (Fs_value : Fld Z h0 s "java/lang/AbstractStringBuilder" "value" "[B" us_value) {us_coder : Value} (Fs_coder : Fld Z h0 s "java/lang/AbstractStringBuilder" "coder" "B" us_coder) (Fs_count : Fld Z h0 s "java/lang/AbstractStringBuilder" "count" "I" (.int 0)) (nb_s : ¬ B0 s) (zl_s : Z.heap.size ≤ s)  :
    Con nw l Z EL (⟨"java/lang/StringBuilder", "<init>", "()V"⟩ : MethodName) jdk_67_method_1_code 1 none [] ({ frames := 2, cells := 1, slots := 16, locals := 25 } : Room) #[(.ref s)] h0 B0 [s] (fun v h B => ∃ t, v = none ∧ B0 = B ∧ h0.size ≤ t ∧ ¬ B t ∧ SBS Z h s t [] (List.replicate 16 0)) := by
  refine k_intro (Ls := #[.val (.ref s)]) (by decide +kernel) rfl fun x T0 X0 => ?_
  refine g_aloadN X0 d3_0 rfl rfl ?_
  refine g_bipush X0 (16 : Int32) d3_1 (by decide) ?_
  refine g_callI X0 d3_3 (w97 hw) (w98 hw) (w101 hw) (w102 hw) rfl (by decide) pd1 s [(.int (16 : Int32))] [] 0 (c_asbInit hw hs s E_s Fs_value Fs_coder Fs_count nb_s zl_s) rfl rfl rfl (Nat.le_of_eq rfl) (by decide) (by decide) 1 16 rfl rfl (by decide) (by decide) (k_ws1 ⟨nb_s, zl_s, (Or.inl (List.mem_of_getElem? (i := 0) rfl))⟩) fun v1 T1 h1 B1 X1 K1 M1 q1 => ?_
  obtain ⟨t, rfl, rfl, ft, nbt, Es, Fv, Fc, Fn, At⟩ := q1
  have z1 := K1.1
  show Go x (T1.setTop (mkF x.m 6 #[.val (.ref s)] []))
  exact g_return X1 d3_6 (by decide) (by decide) ⟨t, rfl, rfl, ft, nbt, Es, Fv, Fc, Fn, At⟩
set_option maxRecDepth 65536 in
set_option maxHeartbeats 40000000 in
theorem c_ensure {nw : Bool} {l : Launch} {Z : State} {EL : List (String × Nat)} {a0 : Array Value} (hw : HW Z a0) (hs : Sts Z) {h0 : Heap} {B0 : BP} (s t : Addr) (m : Nat) (vs : List Value) (Fv : Fld Z h0 s "java/lang/AbstractStringBuilder" "value" "[B" (.ref t)) (Fc : Fld Z h0 s "java/lang/AbstractStringBuilder" "coder" "B" (.int 0)) (A : Ay Z h0 t .byte vs) (h16 : vs.length = 16) (hm : m ≤ 16) :
    Con nw l Z EL (⟨"java/lang/AbstractStringBuilder", "ensureCapacityInternal", "(I)V"⟩ : MethodName) jdk_68_method_9_code 3 none [] ({ frames := 0, cells := 0, slots := 0, locals := 0 } : Room) #[(.ref s), (.int (Int32.ofNat m))] h0 B0 [] (PQ none h0 B0) := by
  refine k_intro (Ls := #[.val (.ref s), .val (.int (Int32.ofNat m)), .unset]) (by decide +kernel) rfl fun x T0 X0 => ?_
  refine g_aloadN X0 d4_0 rfl rfl ?_
  refine g_getfield X0 d4_1 (w105 hw) Via.refl Fv fun T1 X1 => ?_
  refine g_arraylength X1 d4_4 A (16 : Int32) (by rw [h16]; rfl) ?_
  refine g_aloadN X1 d4_5 rfl rfl ?_
  refine g_getfield X1 d4_6 (w107 hw) Via.refl Fc fun T2 X2 => ?_
  refine g_ishr X2 (16 : Int32) d4_9 (by decide) ?_
  refine g_istoreN X2 #[.val (.ref s), .val (.int (Int32.ofNat m)), .val (.int (16 : Int32))] d4_10 rfl ?_
  refine g_iloadN X2 d4_11 rfl ?_
  refine g_iloadN X2 d4_12 rfl ?_
  refine g_isub X2 ((Int32.ofNat m) - (16 : Int32)) d4_13 rfl ?_
  refine g_ifT X2 d4_14 (XT.i0_le_t (k_le16 hm)) ?_
  exact g_return X2 d4_38 (by decide) (by decide) ⟨rfl, rfl, rfl⟩
set_option maxRecDepth 65536 in
set_option maxHeartbeats 40000000 in
theorem c_inflIf {nw : Bool} {l : Launch} {Z : State} {EL : List (String × Nat)} {a0 : Array Value} (hw : HW Z a0) (hs : Sts Z) {h0 : Heap} {B0 : BP} (s a : Addr) (cs : List Int32) (Fc : Fld Z h0 s "java/lang/AbstractStringBuilder" "coder" "B" (.int 0)) (S : StrV Z h0 a 0 cs) :
    Con nw l Z EL (⟨"java/lang/AbstractStringBuilder", "inflateIfNeededFor", "(Ljava/lang/String;)V"⟩ : MethodName) jdk_68_method_71_code 2 none [] ({ frames := 1, cells := 0, slots := 0, locals := 13 } : Room) #[(.ref s), (.ref a)] h0 B0 [] (PQ none h0 B0) := by
  refine k_intro (Ls := #[.val (.ref s), .val (.ref a)]) (by decide +kernel) rfl fun x T0 X0 => ?_
  obtain ⟨cv, sCS, ncv⟩ := hs.1
  have E_a := S.exa'
  refine g_getstatic X0 d5_0 (w104 hw) Via.refl sCS fun T1 X1 => ?_
  refine g_ifF X1 d5_3 (XT.i0_eq_f ncv) ?_
  refine g_aloadN X1 d5_6 rfl rfl ?_
  refine g_getfield X1 d5_7 (w107 hw) Via.refl Fc fun T2 X2 => ?_
  refine g_aloadN X2 d5_10 rfl rfl ?_
  refine g_callVp X2 d5_11 (w138 hw) (w71 hw) (w73 hw) (w72 hw) (w2 hw) (w74 hw) (by decide) pd0 a [] [(.int (0 : Int32))] 1 E_a (c_coder hw hs a 0 cs (Or.inl rfl) S) rfl rfl rfl (Nat.le_of_eq rfl) (by decide) (by decide) 0 0 rfl rfl (by decide) (by decide) fun T3 X3 => ?_
  refine g_icmpT X3 d5_14 (by decide) ?_
  exact g_return X3 d5_21 (by decide) (by decide) ⟨rfl, rfl, rfl⟩
set_option maxRecDepth 65536 in
set_option maxHeartbeats 40000000 in
theorem c_getBIB {nw : Bool} {l : Launch} {Z : State} {EL : List (String × Nat)} {a0 : Array Value} (hw : HW Z a0) (hs : Sts Z) {h0 : Heap} {B0 : BP} (a ta t : Addr) (m : Nat) (cs : List Int32) (vs : List Value) (E_a : Exa Z h0 a "java/lang/String") (Fa_c : Fld Z h0 a "java/lang/String" "coder" "B" (.int 0)) (Fa_v : Fld Z h0 a "java/lang/String" "value" "[B" (.ref ta)) (A_ta : Ay Z h0 ta .byte (cs.map Value.int)) (A : Ay Z h0 t .byte vs) (hm : m + cs.length ≤ vs.length) (nt : @Ne Nat ta t) (nb_t : ¬ B0 t) (zl_t : Z.heap.size ≤ t)  :
    Con nw l Z EL (⟨"java/lang/String", "getBytes", "([BIB)V"⟩ : MethodName) jdk_42_method_147_code 4 none [] ({ frames := 1, cells := 0, slots := 0, locals := 18 } : Room) #[(.ref a), (.ref t), (.int (Int32.ofNat m)), (.int (0 : Int32))] h0 B0 [t] (fun v h B => v = none ∧ B0 = B ∧ Ay Z h t .byte (vs.take m ++ cs.map Value.int ++ vs.drop (m + cs.length))) := by
  refine k_intro (Ls := #[.val (.ref a), .val (.ref t), .val (.int (Int32.ofNat m)), .val (.int (0 : Int32))]) (by decide +kernel) rfl fun x T0 X0 => ?_
  have lt_a := k_ltE E_a; have lt_ta := A_ta.lt
  refine g_aloadN X0 d6_0 rfl rfl ?_
  refine g_callVp X0 d6_1 (w70 hw) (w71 hw) (w73 hw) (w72 hw) (w2 hw) (w74 hw) (by decide) pd0 a [] [] 0 E_a (c_coder hw hs a 0 cs (Or.inl rfl) (⟨ta, E_a, Fa_c, Fa_v, A_ta⟩ : StrV Z h0 a 0 cs)) rfl rfl rfl (Nat.le_of_eq rfl) (by decide) (by decide) 0 0 rfl rfl (by decide) (by decide) fun T1 X1 => ?_
  have hl := A.len
  refine g_iloadN X1 d6_4 rfl ?_
  refine g_icmpF X1 d6_5 (by decide) ?_
  refine g_aloadN X1 d6_8 rfl rfl ?_
  refine g_getfield X1 d6_9 (w22 hw) Via.refl Fa_v fun T2 X2 => ?_
  refine g_iconst X2 (0 : Int32) d6_12 (by decide) ?_
  refine g_aloadN X2 d6_13 rfl rfl ?_
  refine g_iloadN X2 d6_14 rfl ?_
  refine g_iloadN X2 d6_15 rfl ?_
  refine g_ishl X2 (Int32.ofNat m) d6_16 (k_shl0 _) ?_
  refine g_aloadN X2 d6_17 rfl rfl ?_
  refine g_getfield X2 d6_18 (w22 hw) Via.refl Fa_v fun T3 X3 => ?_
  refine g_arraylength X3 d6_21 A_ta (Int32.ofNat cs.length) (by simp) ?_
  refine g_arraycopy X3 d6_22 rfl (w144 hw) (w147 hw) (w145 hw) (w146 hw) A_ta A rfl 0 m cs.length (by simp) hm (by decide) rfl rfl rfl nb_t zl_t (Or.inl (List.mem_of_getElem? (i := 0) rfl)) 0 (Nat.le_of_eq rfl) (by decide) (by decide) fun T4 h4 X4 K4 A4 => ?_
  have z4 := K4.1
  refine g_goto X4 d6_25 ?_
  exact g_return X4 d6_43 (by decide) (by decide) ⟨rfl, rfl, by have q := A4; simp only [List.drop_zero, k_takeall] at q; exact q⟩
set_option maxRecDepth 65536 in
set_option maxHeartbeats 40000000 in
theorem c_putAt {nw : Bool} {l : Launch} {Z : State} {EL : List (String × Nat)} {a0 : Array Value} (hw : HW Z a0) (hs : Sts Z) {h0 : Heap} {B0 : BP} (s t a ta : Addr) (m : Nat) (cs : List Int32) (vs : List Value) (E_s : Exa Z h0 s "java/lang/StringBuilder") (Fs_value : Fld Z h0 s "java/lang/AbstractStringBuilder" "value" "[B" (.ref t)) (Fs_coder : Fld Z h0 s "java/lang/AbstractStringBuilder" "coder" "B" (.int 0)) (E_a : Exa Z h0 a "java/lang/String") (Fa_c : Fld Z h0 a "java/lang/String" "coder" "B" (.int 0)) (Fa_v : Fld Z h0 a "java/lang/String" "value" "[B" (.ref ta)) (A_ta : Ay Z h0 ta .byte (cs.map Value.int)) (A : Ay Z h0 t .byte vs) (hm : m + cs.length ≤ vs.length) (nt : @Ne Nat ta t) (nb_t : ¬ B0 t) (zl_t : Z.heap.size ≤ t)  :
    Con nw l Z EL (⟨"java/lang/AbstractStringBuilder", "putStringAt", "(ILjava/lang/String;)V"⟩ : MethodName) jdk_68_method_73_code 3 none [] ({ frames := 2, cells := 0, slots := 0, locals := 33 } : Room) #[(.ref s), (.int (Int32.ofNat m)), (.ref a)] h0 B0 [t] (fun v h B => v = none ∧ B0 = B ∧ Ay Z h t .byte (vs.take m ++ cs.map Value.int ++ vs.drop (m + cs.length))) := by
  refine k_intro (Ls := #[.val (.ref s), .val (.int (Int32.ofNat m)), .val (.ref a)]) (by decide +kernel) rfl fun x T0 X0 => ?_
  have lt_a := k_ltE E_a; have lt_ta := A_ta.lt
  refine g_aloadN X0 d7_0 rfl rfl ?_
  refine g_aloadN X0 d7_1 rfl rfl ?_
  refine g_callP X0 d7_2 (w133 hw) (w136 hw) (w134 hw) (w101 hw) (w137 hw) (by decide) pd2 s [(.ref a)] [] 0 E_s (c_inflIf hw hs s a cs Fs_coder (⟨ta, E_a, Fa_c, Fa_v, A_ta⟩ : StrV Z h0 a 0 cs)) rfl rfl rfl (Nat.le_of_eq rfl) (by decide) (by decide) 0 0 rfl rfl (by decide) (by decide) (fun _ q => nomatch q) fun v1 T1 h1 B1 X1 K1 M1 q1 => ?_
  obtain ⟨ea1, eb1, ec1⟩ := q1; have eb1 := eb1.symm; have ec1 := ec1.symm; subst ea1 eb1 ec1
  show Go x (T1.setTop (mkF x.m 5 #[.val (.ref s), .val (.int (Int32.ofNat m)), .val (.ref a)] []))
  refine g_aloadN X1 d7_5 rfl rfl ?_
  refine g_aloadN X1 d7_6 rfl rfl ?_
  refine g_getfield X1 d7_7 (w105 hw) Via.refl Fs_value fun T2 X2 => ?_
  refine g_iloadN X2 d7_10 rfl ?_
  refine g_aloadN X2 d7_11 rfl rfl ?_
  refine g_getfield X2 d7_12 (w107 hw) Via.refl Fs_coder fun T3 X3 => ?_
  refine g_callV X3 d7_15 (w139 hw) (w140 hw) (w142 hw) (w141 hw) (w2 hw) (w143 hw) (by decide) pd3 a [(.ref t), (.int (Int32.ofNat m)), (.int (0 : Int32))] [] 0 E_a (c_getBIB hw hs a ta t m cs vs E_a Fa_c Fa_v A_ta A hm nt nb_t zl_t) rfl rfl rfl (Nat.le_of_eq rfl) (by decide) (by decide) 0 0 rfl rfl (by decide) (by decide) (k_ws1 ⟨nb_t, zl_t, (Or.inl (List.mem_of_getElem? (i := 0) rfl))⟩) fun v4 T4 h4 B4 X4 K4 M4 q4 => ?_
  obtain ⟨rfl, rfl, R⟩ := q4
  have z4 := K4.1
  show Go x (T4.setTop (mkF x.m 18 #[.val (.ref s), .val (.int (Int32.ofNat m)), .val (.ref a)] []))
  exact g_return X4 d7_18 (by decide) (by decide) ⟨rfl, rfl, R⟩
set_option maxRecDepth 65536 in
set_option maxHeartbeats 40000000 in
theorem c_asbApp {nw : Bool} {l : Launch} {Z : State} {EL : List (String × Nat)} {a0 : Array Value} (hw : HW Z a0) (hs : Sts Z) {h0 : Heap} {B0 : BP} (s t a ta : Addr) (bs cs pd : List Int32) (S : SBS Z h0 s t bs pd) (E_a : Exa Z h0 a "java/lang/String") (Fa_c : Fld Z h0 a "java/lang/String" "coder" "B" (.int 0)) (Fa_v : Fld Z h0 a "java/lang/String" "value" "[B" (.ref ta)) (A_ta : Ay Z h0 ta .byte (cs.map Value.int)) (h16 : bs.length + pd.length = 16) (hm : cs.length ≤ pd.length) (nt : @Ne Nat ta t) (nb_s : ¬ B0 s) (zl_s : Z.heap.size ≤ s) (nb_t : ¬ B0 t) (zl_t : Z.heap.size ≤ t)  :
    Con nw l Z EL (⟨"java/lang/AbstractStringBuilder", "append", "(Ljava/lang/String;)Ljava/lang/AbstractStringBuilder;"⟩ : MethodName) jdk_68_method_22_code 3 (some (.object "java/lang/AbstractStringBuilder")) [] ({ frames := 3, cells := 0, slots := 0, locals := 47 } : Room) #[(.ref s), (.ref a)] h0 B0 [s, t] (fun v h B => v = some (.ref s) ∧ B0 = B ∧ SBS Z h s t (bs ++ cs) (pd.drop cs.length)) := by
  refine k_intro (Ls := #[.val (.ref s), .val (.ref a), .unset]) (by decide +kernel) rfl fun x T0 X0 => ?_
  obtain ⟨E_s, Fs_value, Fs_coder, Fs_count, A_t⟩ := S.op
  have lt_s := k_ltE E_s; have lt_t := A_t.lt
  have lt_s := k_ltE E_s
  have nst : s ≠ t := Ay.ne E_s (w92 hw) A_t
  have lt_a := k_ltE E_a; have lt_ta := A_ta.lt
  have hl : ((bs ++ pd).map Value.int).length = 16 := by simp; omega
  refine g_aloadN X0 d8_0 rfl rfl ?_
  refine g_ifnonnullT X0 d8_1 ?_
  refine g_aloadN X0 d8_9 rfl rfl ?_
  refine g_callVp X0 d8_10 (w120 hw) (w66 hw) (w68 hw) (w67 hw) (w2 hw) (w69 hw) (by decide) pd4 a [] [] 0 E_a (c_lengthL hw hs a cs (⟨ta, E_a, Fa_c, Fa_v, A_ta⟩ : StrV Z h0 a 0 cs)) rfl rfl rfl (Nat.le_of_eq rfl) (by decide) (by decide) 0 0 rfl rfl (by decide) (by decide) fun T1 X1 => ?_
  refine g_istoreN X1 #[.val (.ref s), .val (.ref a), .val (.int (Int32.ofNat cs.length))] d8_13 rfl ?_
  refine g_aloadN X1 d8_14 rfl rfl ?_
  refine g_aloadN X1 d8_15 rfl rfl ?_
  refine g_getfield X1 d8_16 (w121 hw) Via.refl Fs_count fun T2 X2 => ?_
  refine g_iloadN X2 d8_19 rfl ?_
  refine g_iadd X2 (Int32.ofNat (bs.length + cs.length)) d8_20 (k_add _ _) ?_
  refine g_callP X2 d8_21 (w123 hw) (w126 hw) (w124 hw) (w101 hw) (w127 hw) (by decide) pd1 s [(.int (Int32.ofNat (bs.length + cs.length)))] [] 0 E_s (c_ensure hw hs s t (bs.length + cs.length) _ Fs_value Fs_coder A_t hl (by omega)) rfl rfl rfl (Nat.le_of_eq rfl) (by decide) (by decide) 0 0 rfl rfl (by decide) (by decide) (fun _ q => nomatch q) fun v3 T3 h3 B3 X3 K3 M3 q3 => ?_
  obtain ⟨ea3, eb3, ec3⟩ := q3; have eb3 := eb3.symm; have ec3 := ec3.symm; subst ea3 eb3 ec3
  show Go x (T3.setTop (mkF x.m 24 #[.val (.ref s), .val (.ref a), .val (.int (Int32.ofNat cs.length))] []))
  refine g_aloadN X3 d8_24 rfl rfl ?_
  refine g_aloadN X3 d8_25 rfl rfl ?_
  refine g_getfield X3 d8_26 (w121 hw) Via.refl Fs_count fun T4 X4 => ?_
  refine g_aloadN X4 d8_29 rfl rfl ?_
  refine g_callP X4 d8_30 (w128 hw) (w131 hw) (w129 hw) (w101 hw) (w132 hw) (by decide) pd5 s [(.int (Int32.ofNat bs.length)), (.ref a)] [] 0 E_s (c_putAt hw hs s t a ta bs.length cs _ E_s Fs_value Fs_coder E_a Fa_c Fa_v A_ta A_t (by rw [hl]; omega) nt nb_t zl_t) rfl rfl rfl (Nat.le_of_eq rfl) (by decide) (by decide) 0 0 rfl rfl (by decide) (by decide) (k_ws1 ⟨nb_t, zl_t, (Or.inl (List.mem_of_getElem? (i := 1) rfl))⟩) fun v5 T5 h5 B5 X5 K5 M5 q5 => ?_
  obtain ⟨rfl, rfl, At'⟩ := q5
  have z5 := K5.1
  show Go x (T5.setTop (mkF x.m 33 #[.val (.ref s), .val (.ref a), .val (.int (Int32.ofNat cs.length))] []))
  refine g_aloadN X5 d8_33 rfl rfl ?_
  refine g_dup X5 d8_34 rfl ?_
  have F6 := (Fs_count.keep K5 (ninS nst nin0))
  refine g_getfield X5 d8_35 (w121 hw) Via.refl F6 fun T7 X7 => ?_
  refine g_iloadN X7 d8_38 rfl ?_
  refine g_iadd X7 (Int32.ofNat (bs ++ cs).length) d8_39 ((k_add _ _).trans (by simp)) ?_
  have E_8 := (E_s.keep K5)
  refine g_putfield X7 d8_40 (w121 hw) Via.refl F6 E_8 (Or.inl (w122 hw)) (w92 hw) (ty := .int) (v' := (.int (Int32.ofNat (bs ++ cs).length))) (by decide) rfl rfl nb_s zl_s (Or.inl (List.mem_of_getElem? (i := 0) rfl)) fun T9 h9 X9 W9 => ?_
  have z9 := W9.size; have Fw9 := F6.same W9
  refine g_aloadN X9 d8_43 rfl rfl ?_
  have E_10 := (E_8.wr W9)
  have F11 := ((Fs_value.keep K5 (ninS nst nin0)).other W9 (Or.inr (slot_ne (Or.inl (w106 hw)) (Or.inl (w122 hw)) (by decide) (t := (.array .byte)) (t' := .int) (by decide) (by decide))))
  have F12 := ((Fs_coder.keep K5 (ninS nst nin0)).other W9 (Or.inr (slot_ne (Or.inl (w108 hw)) (Or.inl (w122 hw)) (by decide) (t := .byte) (t' := .int) (by decide) (by decide))))
  have A13 := (At'.keep (Keep.of_wr W9) (ninS (Ne.symm nst) nin0))
  exact g_areturn X9 d8_44 rfl rfl rfl (by decide) (by decide) ⟨rfl, rfl, E_10, F11, F12, Fw9, k_sbapp A13⟩
set_option maxRecDepth 65536 in
set_option maxHeartbeats 40000000 in
theorem c_sbApp {nw : Bool} {l : Launch} {Z : State} {EL : List (String × Nat)} {a0 : Array Value} (hw : HW Z a0) (hs : Sts Z) {h0 : Heap} {B0 : BP} (s t a ta : Addr) (bs cs pd : List Int32) (S : SBS Z h0 s t bs pd) (E_a : Exa Z h0 a "java/lang/String") (Fa_c : Fld Z h0 a "java/lang/String" "coder" "B" (.int 0)) (Fa_v : Fld Z h0 a "java/lang/String" "value" "[B" (.ref ta)) (A_ta : Ay Z h0 ta .byte (cs.map Value.int)) (h16 : bs.length + pd.length = 16) (hm : cs.length ≤ pd.length) (nt : @Ne Nat ta t) (nb_s : ¬ B0 s) (zl_s : Z.heap.size ≤ s) (nb_t : ¬ B0 t) (zl_t : Z.heap.size ≤ t)  :
    Con nw l Z EL (⟨"java/lang/StringBuilder", "append", "(Ljava/lang/String;)Ljava/lang/StringBuilder;"⟩ : MethodName) jdk_67_method_7_code 2 (some (.object "java/lang/StringBuilder")) [] ({ frames := 4, cells := 0, slots := 0, locals := 61 } : Room) #[(.ref s), (.ref a)] h0 B0 [s, t] (fun v h B => v = some (.ref s) ∧ B0 = B ∧ SBS Z h s t (bs ++ cs) (pd.drop cs.length)) := by
  refine k_intro (Ls := #[.val (.ref s), .val (.ref a)]) (by decide +kernel) rfl fun x T0 X0 => ?_
  have E_s := S.op.1
  refine g_aloadN X0 d9_0 rfl rfl ?_
  refine g_aloadN X0 d9_1 rfl rfl ?_
  refine g_callU X0 d9_2 (w115 hw) (w117 hw) (w126 hw) rfl (by decide) (w116 hw) (w101 hw) (w119 hw) (by decide) pd6 s [(.ref a)] [] 0 E_s (c_asbApp hw hs s t a ta bs cs pd S E_a Fa_c Fa_v A_ta h16 hm nt nb_s zl_s nb_t zl_t) rfl rfl rfl (Nat.le_of_eq rfl) (by decide) (by decide) 0 0 rfl rfl (by decide) (by decide) (k_wsC ⟨nb_s, zl_s, (Or.inl (List.mem_of_getElem? (i := 0) rfl))⟩ (k_wsC ⟨nb_t, zl_t, (Or.inl (List.mem_of_getElem? (i := 1) rfl))⟩ (fun _ q => nomatch q))) fun v1 T1 h1 B1 X1 K1 M1 q1 => ?_
  obtain ⟨rfl, rfl, R⟩ := q1
  have z1 := K1.1
  show Go x (T1.setTop (mkF x.m 5 #[.val (.ref s), .val (.ref a)] [(.ref s)]))
  refine g_pop X1 d9_5 rfl ?_
  refine g_aloadN X1 d9_6 rfl rfl ?_
  exact g_areturn X1 d9_7 rfl rfl rfl (by decide) (by decide) ⟨rfl, rfl, R⟩
set_option maxRecDepth 65536 in
set_option maxHeartbeats 40000000 in
theorem c_checkLength {nw : Bool} {l : Launch} {Z : State} {EL : List (String × Nat)} {a0 : Array Value} (hw : HW Z a0) (hs : Sts Z) {h0 : Heap} {B0 : BP} (b e : Int32) (h : ¬ e < b) :
    Con nw l Z EL (⟨"java/util/Arrays", "checkLength", "(II)V"⟩ : MethodName) jdk_65_method_131_code 2 none [] ({ frames := 0, cells := 0, slots := 0, locals := 0 } : Room) #[(.int b), (.int e)] h0 B0 [] (PQ none h0 B0) := by
  refine k_intro (Ls := #[.val (.int b), .val (.int e)]) (by decide +kernel) rfl fun x T0 X0 => ?_
  refine g_iloadN X0 d10_0 rfl ?_
  refine g_iloadN X0 d10_1 rfl ?_
  refine g_icmpT X0 d10_2 (XT.ii_ge_t h) ?_
  exact g_return X0 d10_37 (by decide) (by decide) ⟨rfl, rfl, rfl⟩
set_option maxRecDepth 65536 in
set_option maxHeartbeats 40000000 in
theorem c_min {nw : Bool} {l : Launch} {Z : State} {EL : List (String × Nat)} {a0 : Array Value} (hw : HW Z a0) (hs : Sts Z) {h0 : Heap} {B0 : BP} (u v r : Int32) (hr : (if v < u then v else u) = r) :
    Con nw l Z EL (⟨"java/lang/Math", "min", "(II)I"⟩ : MethodName) jdk_29_method_69_code 2 (some .int) [] ({ frames := 0, cells := 0, slots := 0, locals := 0 } : Room) #[(.int u), (.int v)] h0 B0 [] (PQ (some (.int r)) h0 B0) := by
  refine k_intro (Ls := #[.val (.int u), .val (.int v)]) (by decide +kernel) rfl fun x T0 X0 => ?_
  refine g_iloadN X0 d11_0 rfl ?_
  refine g_iloadN X0 d11_1 rfl ?_
  by_cases h : v < u
  ·
    refine g_icmpT X0 d11_2 (XT.ii_gt_t h) ?_
    refine g_iloadN X0 d11_9 rfl ?_
    exact g_ireturnI X0 d11_10 (by decide) (by decide) ⟨by rw [← hr, if_pos h], rfl, rfl⟩
  ·
    refine g_icmpF X0 d11_2 (XT.ii_gt_f h) ?_
    refine g_iloadN X0 d11_5 rfl ?_
    refine g_goto X0 d11_6 ?_
    exact g_ireturnI X0 d11_10 (by decide) (by decide) ⟨by rw [← hr, if_neg h], rfl, rfl⟩
set_option maxRecDepth 65536 in
set_option maxHeartbeats 40000000 in
theorem c_corbE {nw : Bool} {l : Launch} {Z : State} {EL : List (String × Nat)} {a0 : Array Value} (hw : HW Z a0) (hs : Sts Z) {h0 : Heap} {B0 : BP} (t : Addr) (e : Nat) (vs : List Value) (A : Ay Z h0 t .byte vs) (he : e ≤ vs.length) (hcap : e ≤ 16) :
    Con nw l Z EL (⟨"java/util/Arrays", "copyOfRangeByte", "([BII)[B"⟩ : MethodName) jdk_65_method_133_code 5 (some (.array .byte)) [] ({ frames := 1, cells := 1, slots := 16, locals := 18 } : Room) #[(.ref t), (.int (0 : Int32)), (.int (Int32.ofNat e))] h0 B0 [] (fun v h B => ∃ r, v = some (.ref r) ∧ B0 = B ∧ h0.size ≤ r ∧ ¬ B r ∧ Ay Z h r .byte (vs.take e) ∧ Exa Z h r "[B") := by
  refine k_intro (Ls := #[.val (.ref t), .val (.int (0 : Int32)), .val (.int (Int32.ofNat e)), .unset, .unset]) (by decide +kernel) rfl fun x T0 X0 => ?_
  have hl := A.len
  have lt_t := A.lt
  refine g_iloadN X0 d12_0 rfl ?_
  refine g_iloadN X0 d12_1 rfl ?_
  refine g_callSp0 X0 d12_2 (w186 hw) (w187 hw) (w181 hw) (w188 hw) (by decide) pd7 [(.int (0 : Int32)), (.int (Int32.ofNat e))] [] 0 (c_checkLength hw hs _ _ (k_nn (by omega))) rfl rfl rfl (Nat.le_of_eq rfl) (by decide) (by decide) 0 0 rfl rfl (by decide) (by decide) fun T1 X1 => ?_
  refine g_iloadN X1 d12_5 rfl ?_
  refine g_iloadN X1 d12_6 rfl ?_
  refine g_isub X1 (Int32.ofNat e) d12_7 (by simp) ?_
  refine g_istoreN X1 #[.val (.ref t), .val (.int (0 : Int32)), .val (.int (Int32.ofNat e)), .val (.int (Int32.ofNat e)), .unset] d12_8 rfl ?_
  refine g_iloadN X1 d12_9 rfl ?_
  refine g_newarrayE X1 d12_10 rfl (ad := "[B") (by decide) (w14 hw) e 16 rfl hcap (by decide) 1 16 rfl rfl (by decide) (by decide) fun T2 h2 b2 X2 E2 eb2 nb2 A2 Ea2 => ?_
  have z2 := E2.1; have lt2 : @LT.lt Nat _ b2 h2.size := A2.lt; have zl2 : @LE.le Nat _ Z.heap.size b2 := eb2 ▸ X1.szZ; have fr2 : @LE.le Nat _ h0.size b2 := eb2 ▸ X1.sz
  refine g_astore X2 #[.val (.ref t), .val (.int (0 : Int32)), .val (.int (Int32.ofNat e)), .val (.int (Int32.ofNat e)), .val (.ref b2)] d12_12 rfl rfl ?_
  refine g_aloadN X2 d12_14 rfl rfl ?_
  refine g_iloadN X2 d12_15 rfl ?_
  refine g_aload X2 d12_16 rfl rfl ?_
  refine g_iconst X2 (0 : Int32) d12_18 (by decide) ?_
  refine g_aloadN X2 d12_19 rfl rfl ?_
  have A3 := (A.ext E2)
  refine g_arraylength X2 d12_20 A3 (Int32.ofNat vs.length) rfl ?_
  refine g_iloadN X2 d12_21 rfl ?_
  refine g_isub X2 (Int32.ofNat vs.length) d12_22 (by simp) ?_
  refine g_iloadN X2 d12_23 rfl ?_
  refine g_callSp X2 d12_24 (w189 hw) (w86 hw) (w83 hw) (w87 hw) (by decide) pd8 [(.int (Int32.ofNat vs.length)), (.int (Int32.ofNat e))] [(.int (0 : Int32)), (.ref b2), (.int (0 : Int32)), (.ref t)] 4 (c_min hw hs (Int32.ofNat vs.length) (Int32.ofNat e) (Int32.ofNat e) (k_min he hl)) rfl rfl rfl (Nat.le_of_eq rfl) (by decide) (by decide) 1 16 rfl rfl (by decide) (by decide) fun T4 X4 => ?_
  refine g_arraycopy X4 d12_27 rfl (w190 hw) (w147 hw) (w145 hw) (w146 hw) A3 A2 rfl 0 0 e (by omega) (by simp) (by decide) (by decide) rfl rfl nb2 zl2 (Or.inr fr2) 0 (Nat.le_of_eq rfl) (by decide) (by decide) fun T5 h5 X5 K5 A5 => ?_
  have z5 := K5.1
  refine g_aload X5 d12_30 rfl rfl ?_
  have E_6 := (Ea2.keep K5)
  exact g_areturn X5 d12_32 rfl rfl rfl (by decide) (by decide) ⟨_, rfl, rfl, fr2, nb2, by simpa using A5, E_6⟩
set_option maxRecDepth 65536 in
set_option maxHeartbeats 40000000 in
theorem c_cor0 {nw : Bool} {l : Launch} {Z : State} {EL : List (String × Nat)} {a0 : Array Value} (hw : HW Z a0) (hs : Sts Z) {h0 : Heap} {B0 : BP} (t : Addr) (e : Nat) (vs : List Value) (A : Ay Z h0 t .byte vs) (he : e < vs.length) (hcap : e ≤ 16) :
    Con nw l Z EL (⟨"java/util/Arrays", "copyOfRange", "([BII)[B"⟩ : MethodName) jdk_65_method_132_code 3 (some (.array .byte)) [] ({ frames := 2, cells := 1, slots := 16, locals := 34 } : Room) #[(.ref t), (.int (0 : Int32)), (.int (Int32.ofNat e))] h0 B0 [] (fun v h B => ∃ r, v = some (.ref r) ∧ B0 = B ∧ h0.size ≤ r ∧ ¬ B r ∧ Ay Z h r .byte (vs.take e) ∧ Exa Z h r "[B") := by
  refine k_intro (Ls := #[.val (.ref t), .val (.int (0 : Int32)), .val (.int (Int32.ofNat e))]) (by decide +kernel) rfl fun x T0 X0 => ?_
  have hl := A.len
  refine g_iloadN X0 d13_0 rfl ?_
  refine g_ifF X0 d13_1 (by decide) ?_
  refine g_iloadN X0 d13_4 rfl ?_
  refine g_aloadN X0 d13_5 rfl rfl ?_
  refine g_arraylength X0 d13_6 A (Int32.ofNat vs.length) rfl ?_
  refine g_icmpF X0 d13_7 (XT.ii_eq_f (fun g => absurd ((k_eqn (by omega) hl).mp g) (by omega))) ?_
  refine g_aloadN X0 d13_10 rfl rfl ?_
  refine g_iloadN X0 d13_11 rfl ?_
  refine g_iloadN X0 d13_12 rfl ?_
  refine g_callS X0 d13_13 (w183 hw) (w184 hw) (w181 hw) (w185 hw) (by decide) pd9 [(.ref t), (.int (0 : Int32)), (.int (Int32.ofNat e))] [] 0 (c_corbE hw hs t e vs A (by omega) hcap) rfl rfl rfl (Nat.le_of_eq rfl) (by decide) (by decide) 1 16 rfl rfl (by decide) (by decide) (fun _ q => nomatch q) fun v1 T1 h1 B1 X1 K1 M1 q1 => ?_
  obtain ⟨r, rfl, rfl, fr, nbr, Ar, Er⟩ := q1
  have z1 := K1.1
  show Go x (T1.setTop (mkF x.m 16 #[.val (.ref t), .val (.int (0 : Int32)), .val (.int (Int32.ofNat e))] [(.ref r)]))
  exact g_areturn X1 d13_16 rfl rfl rfl (by decide) (by decide) ⟨_, rfl, rfl, fr, nbr, Ar, Er⟩
set_option maxRecDepth 65536 in
set_option maxHeartbeats 40000000 in
theorem c_getValue {nw : Bool} {l : Launch} {Z : State} {EL : List (String × Nat)} {a0 : Array Value} (hw : HW Z a0) (hs : Sts Z) {h0 : Heap} {B0 : BP} (s t : Addr) (F : Fld Z h0 s "java/lang/AbstractStringBuilder" "value" "[B" (.ref t)) :
    Con nw l Z EL (⟨"java/lang/AbstractStringBuilder", "getValue", "()[B"⟩ : MethodName) jdk_68_method_64_code 1 (some (.array .byte)) [] ({ frames := 0, cells := 0, slots := 0, locals := 0 } : Room) #[(.ref s)] h0 B0 [] (PQ (some (.ref t)) h0 B0) := by
  refine k_intro (Ls := #[.val (.ref s)]) (by decide +kernel) rfl fun x T0 X0 => ?_
  refine g_aloadN X0 d14_0 rfl rfl ?_
  refine g_getfield X0 d14_1 (w105 hw) Via.refl F fun T1 X1 => ?_
  exact g_areturn X1 d14_4 rfl rfl rfl (by decide) (by decide) ⟨rfl, rfl, rfl⟩
set_option maxRecDepth 65536 in
set_option maxHeartbeats 40000000 in
theorem c_asbLen {nw : Bool} {l : Launch} {Z : State} {EL : List (String × Nat)} {a0 : Array Value} (hw : HW Z a0) (hs : Sts Z) {h0 : Heap} {B0 : BP} (s : Addr) (n : Int32) (F : Fld Z h0 s "java/lang/AbstractStringBuilder" "count" "I" (.int n)) :
    Con nw l Z EL (⟨"java/lang/AbstractStringBuilder", "length", "()I"⟩ : MethodName) jdk_68_method_6_code 1 (some .int) [] ({ frames := 0, cells := 0, slots := 0, locals := 0 } : Room) #[(.ref s)] h0 B0 [] (PQ (some (.int n)) h0 B0) := by
  refine k_intro (Ls := #[.val (.ref s)]) (by decide +kernel) rfl fun x T0 X0 => ?_
  refine g_aloadN X0 d15_0 rfl rfl ?_
  refine g_getfield X0 d15_1 (w121 hw) Via.refl F fun T1 X1 => ?_
  exact g_ireturnI X1 d15_4 (by decide) (by decide) ⟨rfl, rfl, rfl⟩
set_option maxRecDepth 65536 in
set_option maxHeartbeats 40000000 in
theorem c_sbLen {nw : Bool} {l : Launch} {Z : State} {EL : List (String × Nat)} {a0 : Array Value} (hw : HW Z a0) (hs : Sts Z) {h0 : Heap} {B0 : BP} (s : Addr) (n : Int32) (E_s : Exa Z h0 s "java/lang/StringBuilder") (F : Fld Z h0 s "java/lang/AbstractStringBuilder" "count" "I" (.int n)) :
    Con nw l Z EL (⟨"java/lang/StringBuilder", "length", "()I"⟩ : MethodName) jdk_67_method_93_code 1 (some .int) [] ({ frames := 1, cells := 0, slots := 0, locals := 12 } : Room) #[(.ref s)] h0 B0 [] (PQ (some (.int n)) h0 B0) := by
  refine k_intro (Ls := #[.val (.ref s)]) (by decide +kernel) rfl fun x T0 X0 => ?_
  refine g_aloadN X0 d16_0 rfl rfl ?_
  refine g_callU X0 d16_1 (w172 hw) (w117 hw) (w126 hw) rfl (by decide) (w168 hw) (w101 hw) (w173 hw) (by decide) pd4 s [] [] 0 E_s (c_asbLen hw hs s n F) rfl rfl rfl (Nat.le_of_eq rfl) (by decide) (by decide) 0 0 rfl rfl (by decide) (by decide) (fun _ q => nomatch q) fun v1 T1 h1 B1 X1 K1 M1 q1 => ?_
  obtain ⟨ea1, eb1, ec1⟩ := q1; have eb1 := eb1.symm; have ec1 := ec1.symm; subst ea1 eb1 ec1
  show Go x (T1.setTop (mkF x.m 4 #[.val (.ref s)] [(.int n)]))
  exact g_ireturnI X1 d16_4 (by decide) (by decide) ⟨rfl, rfl, rfl⟩
set_option maxRecDepth 65536 in
set_option maxHeartbeats 40000000 in
theorem c_asbLat {nw : Bool} {l : Launch} {Z : State} {EL : List (String × Nat)} {a0 : Array Value} (hw : HW Z a0) (hs : Sts Z) {h0 : Heap} {B0 : BP} (s : Addr) (F : Fld Z h0 s "java/lang/AbstractStringBuilder" "coder" "B" (.int 0)) :
    Con nw l Z EL (⟨"java/lang/AbstractStringBuilder", "isLatin1", "()Z"⟩ : MethodName) jdk_68_method_68_code 1 (some .boolean) [] ({ frames := 0, cells := 0, slots := 0, locals := 0 } : Room) #[(.ref s)] h0 B0 [] (PQ (some (.int (1 : Int32))) h0 B0) := by
  refine k_intro (Ls := #[.val (.ref s)]) (by decide +kernel) rfl fun x T0 X0 => ?_
  obtain ⟨cv, sCS, ncv⟩ := hs.1
  refine g_getstatic X0 d17_0 (w104 hw) Via.refl sCS fun T1 X1 => ?_
  refine g_ifF X1 d17_3 (XT.i0_eq_f ncv) ?_
  refine g_aloadN X1 d17_6 rfl rfl ?_
  refine g_getfield X1 d17_7 (w107 hw) Via.refl F fun T2 X2 => ?_
  refine g_ifF X2 d17_10 (by decide) ?_
  refine g_iconst X2 (1 : Int32) d17_13 (by decide) ?_
  refine g_goto X2 d17_14 ?_
  exact g_ireturn (w' := (1 : Int32)) X2 d17_18 (Or.inl rfl) (by decide) (by decide) (by decide) ⟨rfl, rfl, rfl⟩
set_option maxRecDepth 65536 in
set_option maxHeartbeats 40000000 in
theorem c_initAV {nw : Bool} {l : Launch} {Z : State} {EL : List (String × Nat)} {a0 : Array Value} (hw : HW Z a0) (hs : Sts Z) {h0 : Heap} {B0 : BP} (a s t : Addr) (bs pd : List Int32) (E_a : Exa Z h0 a "java/lang/String") {u_value : Value} (F_value : Fld Z h0 a "java/lang/String" "value" "[B" u_value) {u_coder : Value} (F_coder : Fld Z h0 a "java/lang/String" "coder" "B" u_coder) (nb : ¬ B0 a) (zl : Z.heap.size ≤ a) (S : SBS Z h0 s t bs pd) (h16 : bs.length + pd.length = 16) (hlt : bs.length < 16) :
    Con nw l Z EL (⟨"java/lang/String", "<init>", "(Ljava/lang/AbstractStringBuilder;Ljava/lang/Void;)V"⟩ : MethodName) jdk_42_method_150_code 5 none [] ({ frames := 3, cells := 1, slots := 16, locals := 49 } : Room) #[(.ref a), (.ref s), .null] h0 B0 [a] (fun v h B => ∃ r, v = none ∧ B0 = B ∧ h0.size ≤ r ∧ ¬ B r ∧ Exa Z h a "java/lang/String" ∧ Fld Z h a "java/lang/String" "coder" "B" (.int 0) ∧ Fld Z h a "java/lang/String" "value" "[B" (.ref r) ∧ Ay Z h r .byte (bs.map Value.int) ∧ Exa Z h r "[B") := by
  refine k_intro (Ls := #[.val (.ref a), .val (.ref s), .val .null, .unset, .unset]) (by decide +kernel) rfl fun x T0 X0 => ?_
  obtain ⟨cv, sCS, ncv⟩ := hs.1
  have lt_a := k_ltE E_a
  obtain ⟨E_s, Fs_value, Fs_coder, Fs_count, A_t⟩ := S.op
  have lt_s := k_ltE E_s; have lt_t := A_t.lt
  have lt_s := k_ltE E_s
  have nst : s ≠ t := Ay.ne E_s (w92 hw) A_t
  have nas : a ≠ s := ne_exa E_a E_s (by decide)
  have nat' : a ≠ t := Ay.ne E_a (w10 hw) A_t
  have hl : ((bs ++ pd).map Value.int).length = 16 := by simp; omega
  refine g_aloadN X0 d18_0 rfl rfl ?_
  refine g_init X0 d18_1 rfl rfl (w19 hw) (w20 hw) (w21 hw) 0 rfl (by decide) (Nat.le_of_eq rfl) (by decide) fun T1 X1 => ?_
  refine g_aloadN X1 d18_4 rfl rfl ?_
  refine g_callVp X1 d18_5 (w161 hw) (w162 hw) (w164 hw) (w163 hw) (w101 hw) (w165 hw) (by decide) pd10 s [] [] 0 E_s (c_getValue hw hs s t Fs_value) rfl rfl rfl (Nat.le_of_eq rfl) (by decide) (by decide) 0 0 rfl rfl (by decide) (by decide) fun T2 X2 => ?_
  refine g_astoreN X2 #[.val (.ref a), .val (.ref s), .val .null, .val (.ref t), .unset] d18_8 rfl rfl ?_
  refine g_aloadN X2 d18_9 rfl rfl ?_
  refine g_callW X2 d18_10 (w166 hw) (w167 hw) (w169 hw) (w170 hw) (w93 hw) (w171 hw) (w126 hw) rfl (by decide) pd4 s [] [] 0 E_s (c_sbLen hw hs s _ E_s Fs_count) rfl rfl rfl (Nat.le_of_eq rfl) (by decide) (by decide) 0 0 rfl rfl (by decide) (by decide) (fun _ q => nomatch q) fun v3 T3 h3 B3 X3 K3 M3 q3 => ?_
  obtain ⟨ea3, eb3, ec3⟩ := q3; have eb3 := eb3.symm; have ec3 := ec3.symm; subst ea3 eb3 ec3
  show Go x (T3.setTop (mkF x.m 13 #[.val (.ref a), .val (.ref s), .val .null, .val (.ref t), .unset] [(.int (Int32.ofNat bs.length))]))
  refine g_istore X3 #[.val (.ref a), .val (.ref s), .val .null, .val (.ref t), .val (.int (Int32.ofNat bs.length))] d18_13 rfl ?_
  refine g_aloadN X3 d18_15 rfl rfl ?_
  refine g_callVp X3 d18_16 (w174 hw) (w175 hw) (w177 hw) (w176 hw) (w101 hw) (w178 hw) (by decide) pd11 s [] [] 0 E_s (c_asbLat hw hs s Fs_coder) rfl rfl rfl (Nat.le_of_eq rfl) (by decide) (by decide) 0 0 rfl rfl (by decide) (by decide) fun T4 X4 => ?_
  refine g_ifF X4 d18_19 (by decide) ?_
  refine g_aloadN X4 d18_22 rfl rfl ?_
  refine g_iconst X4 (0 : Int32) d18_23 (by decide) ?_
  refine g_putfield X4 d18_24 (w24 hw) Via.refl F_coder E_a (Or.inr ⟨(w25 hw), rfl, rfl⟩) (w10 hw) (ty := .byte) (v' := (.int (0 : Int32))) (by decide) rfl rfl nb zl (Or.inl (List.mem_of_getElem? (i := 0) rfl)) fun T5 h5 X5 W5 => ?_
  have z5 := W5.size; have Fw5 := F_coder.same W5
  refine g_aloadN X5 d18_27 rfl rfl ?_
  refine g_aloadN X5 d18_28 rfl rfl ?_
  refine g_iconst X5 (0 : Int32) d18_29 (by decide) ?_
  refine g_iload X5 d18_30 rfl ?_
  have A6 := (A_t.keep (Keep.of_wr W5) (ninS (Ne.symm nat') nin0))
  refine g_callS X5 d18_32 (w179 hw) (w180 hw) (w181 hw) (w182 hw) (by decide) pd9 [(.ref t), (.int (0 : Int32)), (.int (Int32.ofNat bs.length))] [(.ref a)] 1 (c_cor0 hw hs t bs.length _ A6 (by rw [hl]; exact hlt) (by omega)) rfl rfl rfl (Nat.le_of_eq rfl) (by decide) (by decide) 1 16 rfl rfl (by decide) (by decide) (fun _ q => nomatch q) fun v7 T7 h7 B7 X7 K7 M7 q7 => ?_
  obtain ⟨r, rfl, rfl, fr, nbr, Ar, Er⟩ := q7
  have z7 := K7.1
  show Go x (T7.setTop (mkF x.m 35 #[.val (.ref a), .val (.ref s), .val .null, .val (.ref t), .val (.int (Int32.ofNat bs.length))] [(.ref r), (.ref a)]))
  have lt_r := Ar.lt
  have F8 := ((F_value.other W5 (Or.inr (slot_ne (Or.inr (w23 hw)) (Or.inr (w25 hw)) (by decide) (t := (.array .byte)) (t' := .byte) (by decide) (by decide)))).keep K7 nin0)
  have E_9 := ((E_a.wr W5).keep K7)
  refine g_putfield X7 d18_35 (w22 hw) Via.refl F8 E_9 (Or.inr ⟨(w23 hw), rfl, rfl⟩) (w10 hw) (ty := (.array .byte)) (v' := (.ref r)) (by decide) rfl rfl nb zl (Or.inl (List.mem_of_getElem? (i := 0) rfl)) fun T10 h10 X10 W10 => ?_
  have z10 := W10.size; have Fw10 := F8.same W10
  refine g_goto X10 d18_38 ?_
  have E_11 := (E_9.wr W10)
  have F12 := ((Fw5.keep K7 nin0).other W10 (Or.inr (slot_ne (Or.inr (w25 hw)) (Or.inr (w23 hw)) (by decide) (t := .byte) (t' := (.array .byte)) (by decide) (by decide))))
  have A13 := (Ar.keep (Keep.of_wr W10) (ninS (k_neN (by omega)) nin0))
  have E_14 := (Er.wr W10)
  exact g_return X10 d18_97 (by decide) (by decide) ⟨r, rfl, rfl, by omega, nbr, E_11, F12, Fw10, by simpa using A13, E_14⟩
set_option maxRecDepth 65536 in
set_option maxHeartbeats 40000000 in
theorem c_initSBd {nw : Bool} {l : Launch} {Z : State} {EL : List (String × Nat)} {a0 : Array Value} (hw : HW Z a0) (hs : Sts Z) {h0 : Heap} {B0 : BP} (a s t : Addr) (bs pd : List Int32) (E_a : Exa Z h0 a "java/lang/String") {u_value : Value} (F_value : Fld Z h0 a "java/lang/String" "value" "[B" u_value) {u_coder : Value} (F_coder : Fld Z h0 a "java/lang/String" "coder" "B" u_coder) (nb : ¬ B0 a) (zl : Z.heap.size ≤ a) (S : SBS Z h0 s t bs pd) (h16 : bs.length + pd.length = 16) (hlt : bs.length < 16) :
    Con nw l Z EL (⟨"java/lang/String", "<init>", "(Ljava/lang/StringBuilder;)V"⟩ : MethodName) jdk_42_method_53_code 2 none [] ({ frames := 4, cells := 1, slots := 16, locals := 65 } : Room) #[(.ref a), (.ref s)] h0 B0 [a] (fun v h B => ∃ r, v = none ∧ B0 = B ∧ h0.size ≤ r ∧ ¬ B r ∧ Exa Z h a "java/lang/String" ∧ Fld Z h a "java/lang/String" "coder" "B" (.int 0) ∧ Fld Z h a "java/lang/String" "value" "[B" (.ref r) ∧ Ay Z h r .byte (bs.map Value.int) ∧ Exa Z h r "[B") := by
  refine k_intro (Ls := #[.val (.ref a), .val (.ref s)]) (by decide +kernel) rfl fun x T0 X0 => ?_
  have lt_a := k_ltE E_a
  refine g_aloadN X0 d19_0 rfl rfl ?_
  refine g_aloadN X0 d19_1 rfl rfl ?_
  refine g_aconst_null X0 d19_2 ?_
  refine g_callI X0 d19_3 (w158 hw) (w159 hw) (w2 hw) (w160 hw) rfl (by decide) pd12 a [(.ref s), .null] [] 0 (c_initAV hw hs a s t bs pd E_a F_value F_coder nb zl S h16 hlt) rfl rfl rfl (Nat.le_of_eq rfl) (by decide) (by decide) 1 16 rfl rfl (by decide) (by decide) (k_ws1 ⟨nb, zl, (Or.inl (List.mem_of_getElem? (i := 0) rfl))⟩) fun v1 T1 h1 B1 X1 K1 M1 q1 => ?_
  obtain ⟨r, rfl, rfl, R⟩ := q1
  have z1 := K1.1
  show Go x (T1.setTop (mkF x.m 6 #[.val (.ref a), .val (.ref s)] []))
  exact g_return X1 d19_6 (by decide) (by decide) ⟨r, rfl, rfl, R⟩
set_option maxRecDepth 65536 in
set_option maxHeartbeats 40000000 in
theorem c_toStr {nw : Bool} {l : Launch} {Z : State} {EL : List (String × Nat)} {a0 : Array Value} (hw : HW Z a0) (hs : Sts Z) {h0 : Heap} {B0 : BP} (s t : Addr) (bs pd : List Int32) (S : SBS Z h0 s t bs pd) (h16 : bs.length + pd.length = 16) (hlt : bs.length < 16) :
    Con nw l Z EL (⟨"java/lang/StringBuilder", "toString", "()Ljava/lang/String;"⟩ : MethodName) jdk_67_method_42_code 1 (some (.object "java/lang/String")) [] ({ frames := 5, cells := 2, slots := 20, locals := 79 } : Room) #[(.ref s)] h0 B0 [] (fun v h B => ∃ a r, v = some (.ref a) ∧ B0 = B ∧ h0.size ≤ a ∧ ¬ B a ∧ h0.size ≤ r ∧ ¬ B r ∧ Exa Z h a "java/lang/String" ∧ Fld Z h a "java/lang/String" "coder" "B" (.int 0) ∧ Fld Z h a "java/lang/String" "value" "[B" (.ref r) ∧ Ay Z h r .byte (bs.map Value.int) ∧ Exa Z h r "[B") := by
  refine k_intro (Ls := #[.val (.ref s)]) (by decide +kernel) rfl fun x T0 X0 => ?_
  have E_s := S.op.1; have lt_s := k_ltE E_s
  refine g_new X0 d20_0 (w154 hw) (w10 hw) (w2 hw) 1 4 rfl rfl (by decide) (by decide) fun T1 h1 b1 X1 E1 eb1 nb1 Ex1 D1 => ?_
  have z1 := E1.1; have lt1 : @LT.lt Nat _ b1 h1.size := Ex1.lt; have zl1 : @LE.le Nat _ Z.heap.size b1 := eb1 ▸ X0.szZ; have fr1 : @LE.le Nat _ h0.size b1 := eb1 ▸ X0.sz
  have F1_value : Fld Z h1 b1 "java/lang/String" "value" "[B" .null := D1 (Or.inr (w23 hw)) (ty := (.array .byte)) (by decide)
  have F1_coder : Fld Z h1 b1 "java/lang/String" "coder" "B" (.int (0 : Int32)) := D1 (Or.inr (w25 hw)) (ty := .byte) (by decide)
  refine g_dup X1 d20_3 rfl ?_
  refine g_aloadN X1 d20_4 rfl rfl ?_
  have S' := S.ext E1
  refine g_callI X1 d20_5 (w155 hw) (w156 hw) (w2 hw) (w157 hw) rfl (by decide) pd13 b1 [(.ref s)] [(.ref b1)] 1 (c_initSBd hw hs b1 s t bs pd Ex1 F1_value F1_coder nb1 zl1 S' h16 hlt) rfl rfl rfl (Nat.le_of_eq rfl) (by decide) (by decide) 2 20 rfl rfl (by decide) (by decide) (k_ws1 ⟨nb1, zl1, (Or.inr fr1)⟩) fun v2 T2 h2 B2 X2 K2 M2 q2 => ?_
  obtain ⟨r, rfl, rfl, fr, R⟩ := q2
  have z2 := K2.1
  show Go x (T2.setTop (mkF x.m 8 #[.val (.ref s)] [(.ref b1)]))
  exact g_areturn X2 d20_8 rfl rfl rfl (by decide) (by decide) ⟨_, r, rfl, rfl, fr1, nb1, by omega, R⟩
set_option maxRecDepth 65536 in
set_option maxHeartbeats 40000000 in
theorem c_cntPos {nw : Bool} {l : Launch} {Z : State} {EL : List (String × Nat)} {a0 : Array Value} (hw : HW Z a0) (hs : Sts Z) {h0 : Heap} {B0 : BP} (t : Addr) (bs : List Int32) (A : Ay Z h0 t .byte (bs.map Value.int)) :
    Con nw l Z EL (⟨"java/lang/StringCoding", "countPositives", "([BII)I"⟩ : MethodName) jdk_123_method_3_code 5 (some .int) [] ({ frames := 0, cells := 0, slots := 0, locals := 0 } : Room) #[(.ref t), (.int (0 : Int32)), (.int (Int32.ofNat bs.length))] h0 B0 [] (fun v h B => ∃ i, v = some (.int (Int32.ofNat i)) ∧ B0 = B ∧ h0 = h ∧ ((i = bs.length ∧ ∀ b ∈ bs, ¬ b < 0) ∨ (i < bs.length ∧ ∃ b ∈ bs, b < 0))) := by
  refine k_intro (Ls := #[.val (.ref t), .val (.int (0 : Int32)), .val (.int (Int32.ofNat bs.length)), .unset, .unset]) (by decide +kernel) rfl fun x T0 X0 => ?_
  have hl : bs.length < 2 ^ 31 := by simpa using A.len
  refine g_iloadN X0 d21_0 rfl ?_
  refine g_iloadN X0 d21_1 rfl ?_
  refine g_iadd X0 (Int32.ofNat bs.length) d21_2 (by simp) ?_
  refine g_istoreN X0 #[.val (.ref t), .val (.int (0 : Int32)), .val (.int (Int32.ofNat bs.length)), .val (.int (Int32.ofNat bs.length)), .unset] d21_3 rfl ?_
  refine g_iloadN X0 d21_4 rfl ?_
  refine g_istore X0 #[.val (.ref t), .val (.int (0 : Int32)), .val (.int (Int32.ofNat bs.length)), .val (.int (Int32.ofNat bs.length)), .val (.int (0 : Int32))] d21_5 rfl ?_
  have loop : ∀ (d i : Nat) (hi : i + d = bs.length) (hno : ∀ b ∈ bs.take i, ¬ b < 0) (T : State) (X : Wk nw l Z EL "java/lang/StringCoding" jdk_123_method_3_code 5 (some .int) "countPositives" ({ frames := 0, cells := 0, slots := 0, locals := 0 } : Room) h0 B0 [] (fun v h B => ∃ i, v = some (.int (Int32.ofNat i)) ∧ B0 = B ∧ h0 = h ∧ ((i = bs.length ∧ ∀ b ∈ bs, ¬ b < 0) ∨ (i < bs.length ∧ ∃ b ∈ bs, b < 0))) x T h0 B0 0 0), Go x (T.setTop (mkF x.m 7 #[.val (.ref t), .val (.int (0 : Int32)), .val (.int (Int32.ofNat bs.length)), .val (.int (Int32.ofNat bs.length)), .val (.int (Int32.ofNat i))] [])) := by
    intro d
    induction d with
    | zero =>
      intro i hi hno T X
      obtain rfl : i = bs.length := by omega
      refine g_iload X d21_7 rfl ?_
      refine g_iloadN X d21_9 rfl ?_
      refine g_icmpT X d21_10 (XT.ii_ge_t (k_nlt (Nat.le_refl _) hl)) ?_
      refine g_iloadN X d21_31 rfl ?_
      exact g_ireturnI X d21_32 (by decide) (by decide) ⟨bs.length, rfl, rfl, rfl, Or.inl ⟨rfl, by simpa using hno⟩⟩
    | succ d ih =>
      intro i hi hno T X
      have hil : i < bs.length := by omega
      refine g_iload X d21_7 rfl ?_
      refine g_iloadN X d21_9 rfl ?_
      refine g_icmpF X d21_10 (XT.ii_ge_f (k_lt hil hl)) ?_
      refine g_aloadN X d21_13 rfl rfl ?_
      refine g_iload X d21_14 rfl ?_
      refine g_baload X d21_16 A i rfl (v := .int bs[i]) (by simp [hil]) ?_
      by_cases hb : (bs[i]) < 0
      ·
        refine g_ifF X d21_17 (XT.i0_ge_f hb) ?_
        refine g_iload X d21_20 rfl ?_
        refine g_iloadN X d21_22 rfl ?_
        refine g_isub X (Int32.ofNat i) d21_23 (by simp) ?_
        exact g_ireturnI X d21_24 (by decide) (by decide) ⟨i, rfl, rfl, rfl, Or.inr ⟨hil, bs[i], List.getElem_mem hil, hb⟩⟩
      ·
        refine g_ifT X d21_17 (XT.i0_ge_t hb) ?_
        refine g_iinc X #[.val (.ref t), .val (.int (0 : Int32)), .val (.int (Int32.ofNat bs.length)), .val (.int (Int32.ofNat bs.length)), .val (.int (Int32.ofNat (i + 1)))] d21_25 rfl (k_inc i) rfl ?_
        refine g_goto X d21_28 ?_
        refine ih (i + 1) (by omega) ?_ T X
        intro c hc
        rw [List.take_succ_eq_append_getElem hil] at hc
        rcases List.mem_append.mp hc with q | q
        · exact hno c q
        · rw [List.mem_singleton.mp q]; exact hb
  exact loop bs.length 0 (by omega) (fun c q => by simp at q) T0 X0
set_option maxRecDepth 65536 in
set_option maxHeartbeats 40000000 in
theorem c_hasNeg {nw : Bool} {l : Launch} {Z : State} {EL : List (String × Nat)} {a0 : Array Value} (hw : HW Z a0) (hs : Sts Z) {h0 : Heap} {B0 : BP} (t : Addr) (bs : List Int32) (A : Ay Z h0 t .byte (bs.map Value.int)) :
    Con nw l Z EL (⟨"java/lang/StringCoding", "hasNegatives", "([BII)Z"⟩ : MethodName) jdk_123_method_2_code 3 (some .boolean) [] ({ frames := 1, cells := 0, slots := 0, locals := 16 } : Room) #[(.ref t), (.int (0 : Int32)), (.int (Int32.ofNat bs.length))] h0 B0 [] (fun v h B => ∃ r, v = some (.int r) ∧ B0 = B ∧ h0 = h ∧ ((r = 0 ∧ ∀ b ∈ bs, ¬ b < 0) ∨ (r = 1 ∧ ∃ b ∈ bs, b < 0))) := by
  refine k_intro (Ls := #[.val (.ref t), .val (.int (0 : Int32)), .val (.int (Int32.ofNat bs.length))]) (by decide +kernel) rfl fun x T0 X0 => ?_
  have hl : bs.length < 2 ^ 31 := by simpa using A.len
  refine g_aloadN X0 d22_0 rfl rfl ?_
  refine g_iloadN X0 d22_1 rfl ?_
  refine g_iloadN X0 d22_2 rfl ?_
  refine g_callS X0 d22_3 (w227 hw) (w228 hw) (w225 hw) (w229 hw) (by decide) pd14 [(.ref t), (.int (0 : Int32)), (.int (Int32.ofNat bs.length))] [] 0 (c_cntPos hw hs t bs A) rfl rfl rfl (Nat.le_of_eq rfl) (by decide) (by decide) 0 0 rfl rfl (by decide) (by decide) (fun _ q => nomatch q) fun v1 T1 h1 B1 X1 K1 M1 q1 => ?_
  obtain ⟨i, rfl, rfl, rfl, hor⟩ := q1
  have z1 := K1.1
  show Go x (T1.setTop (mkF x.m 6 #[.val (.ref t), .val (.int (0 : Int32)), .val (.int (Int32.ofNat bs.length))] [(.int (Int32.ofNat i))]))
  refine g_iloadN X1 d22_6 rfl ?_
  rcases hor with ⟨rfl, g⟩ | ⟨hi, g⟩
  ·
    refine g_icmpT X1 d22_7 (XT.ii_eq_t rfl) ?_
    refine g_iconst X1 (0 : Int32) d22_14 (by decide) ?_
    exact g_ireturn (w' := (0 : Int32)) X1 d22_15 (Or.inl rfl) (by decide) (by decide) (by decide) ⟨_, rfl, rfl, rfl, Or.inl ⟨rfl, g⟩⟩
  ·
    refine g_icmpF X1 d22_7 (XT.ii_eq_f (fun q => absurd ((k_eqn (by omega) hl).mp q) (by omega))) ?_
    refine g_iconst X1 (1 : Int32) d22_10 (by decide) ?_
    refine g_goto X1 d22_11 ?_
    exact g_ireturn (w' := (1 : Int32)) X1 d22_15 (Or.inl rfl) (by decide) (by decide) (by decide) ⟨_, rfl, rfl, rfl, Or.inr ⟨rfl, g⟩⟩
set_option maxRecDepth 65536 in
set_option maxHeartbeats 40000000 in
theorem c_nbl {nw : Bool} {l : Launch} {Z : State} {EL : List (String × Nat)} {a0 : Array Value} (hw : HW Z a0) (hs : Sts Z) {h0 : Heap} {B0 : BP} (m : Nat) (hm : m < 1000) :
    Con nw l Z EL (⟨"java/lang/StringUTF16", "newBytesLength", "(I)I"⟩ : MethodName) jdk_52_method_3_code 1 (some .int) [] ({ frames := 0, cells := 0, slots := 0, locals := 0 } : Room) #[(.int (Int32.ofNat m))] h0 B0 [] (PQ (some (.int (Int32.ofNat (2 * m)))) h0 B0) := by
  refine k_intro (Ls := #[.val (.int (Int32.ofNat m))]) (by decide +kernel) rfl fun x T0 X0 => ?_
  refine g_iloadN X0 d23_0 rfl ?_
  refine g_ifT X0 d23_1 (XT.i0_ge_t (k_nn (by omega))) ?_
  refine g_iloadN X0 d23_12 rfl ?_
  refine g_ldcI X0 d23_13 (w364 hw) ?_
  refine g_icmpT X0 d23_15 (XT.ii_lt_t (k_lt (j := 1073741823) (by omega) (by decide))) ?_
  refine g_iloadN X0 d23_55 rfl ?_
  refine g_iconst X0 (1 : Int32) d23_56 (by decide) ?_
  refine g_ishl X0 (Int32.ofNat (2 * m)) d23_57 (k_shl1 (by omega)) ?_
  exact g_ireturnI X0 d23_58 (by decide) (by decide) ⟨rfl, rfl, rfl⟩
set_option maxRecDepth 65536 in
set_option maxHeartbeats 40000000 in
theorem c_nbfE {nw : Bool} {l : Launch} {Z : State} {EL : List (String × Nat)} {a0 : Array Value} (hw : HW Z a0) (hs : Sts Z) {h0 : Heap} {B0 : BP} (m : Nat) (hm : m ≤ 16) :
    Con nw l Z EL (⟨"java/lang/StringUTF16", "newBytesFor", "(I)[B"⟩ : MethodName) jdk_52_method_2_code 1 (some (.array .byte)) [] ({ frames := 1, cells := 1, slots := 32, locals := 12 } : Room) #[(.int (Int32.ofNat m))] h0 B0 [] (fun v h B => ∃ t, v = some (.ref t) ∧ B0 = B ∧ h0.size ≤ t ∧ ¬ B t ∧ Ay Z h t .byte (List.replicate (2 * m) (.int 0)) ∧ Exa Z h t "[B") := by
  refine k_intro (Ls := #[.val (.int (Int32.ofNat m))]) (by decide +kernel) rfl fun x T0 X0 => ?_
  refine g_iloadN X0 d24_0 rfl ?_
  refine g_callSp X0 d24_1 (w361 hw) (w362 hw) (w359 hw) (w363 hw) (by decide) pd15 [(.int (Int32.ofNat m))] [] 0 (c_nbl hw hs m (by omega)) rfl rfl rfl (Nat.le_of_eq rfl) (by decide) (by decide) 0 0 rfl rfl (by decide) (by decide) fun T1 X1 => ?_
  refine g_newarrayE X1 d24_4 rfl (ad := "[B") (by decide) (w14 hw) (2 * m) 32 rfl (by omega) (by decide) 1 32 rfl rfl (by decide) (by decide) fun T2 h2 b2 X2 E2 eb2 nb2 A2 Ea2 => ?_
  have z2 := E2.1; have lt2 : @LT.lt Nat _ b2 h2.size := A2.lt; have zl2 : @LE.le Nat _ Z.heap.size b2 := eb2 ▸ X1.szZ; have fr2 : @LE.le Nat _ h0.size b2 := eb2 ▸ X1.sz
  exact g_areturn X2 d24_6 rfl rfl rfl (by decide) (by decide) ⟨_, rfl, rfl, fr2, nb2, A2, Ea2⟩
set_option maxRecDepth 65536 in
set_option maxHeartbeats 40000000 in
theorem c_copyOfB {nw : Bool} {l : Launch} {Z : State} {EL : List (String × Nat)} {a0 : Array Value} (hw : HW Z a0) (hs : Sts Z) {h0 : Heap} {B0 : BP} (t : Addr) (m : Nat) (vs : List Value) (A : Ay Z h0 t .byte vs) (hm : m < vs.length) (hcap : m ≤ 32) :
    Con nw l Z EL (⟨"java/util/Arrays", "copyOf", "([BI)[B"⟩ : MethodName) jdk_65_method_121_code 3 (some (.array .byte)) [] ({ frames := 1, cells := 1, slots := 32, locals := 18 } : Room) #[(.ref t), (.int (Int32.ofNat m))] h0 B0 [] (fun v h B => ∃ r, v = some (.ref r) ∧ B0 = B ∧ h0.size ≤ r ∧ ¬ B r ∧ Ay Z h r .byte (vs.take m) ∧ Exa Z h r "[B") := by
  refine k_intro (Ls := #[.val (.ref t), .val (.int (Int32.ofNat m)), .unset]) (by decide +kernel) rfl fun x T0 X0 => ?_
  have hl := A.len
  have lt_t := A.lt
  refine g_iloadN X0 d25_0 rfl ?_
  refine g_aloadN X0 d25_1 rfl rfl ?_
  refine g_arraylength X0 d25_2 A (Int32.ofNat vs.length) rfl ?_
  refine g_icmpT X0 d25_3 (XT.ii_ne_t (fun g => absurd ((k_eqn (by omega) hl).mp g) (by omega))) ?_
  refine g_iloadN X0 d25_14 rfl ?_
  refine g_newarrayE X0 d25_15 rfl (ad := "[B") (by decide) (w14 hw) m 32 rfl hcap (by decide) 1 32 rfl rfl (by decide) (by decide) fun T1 h1 b1 X1 E1 eb1 nb1 A1 Ea1 => ?_
  have z1 := E1.1; have lt1 : @LT.lt Nat _ b1 h1.size := A1.lt; have zl1 : @LE.le Nat _ Z.heap.size b1 := eb1 ▸ X0.szZ; have fr1 : @LE.le Nat _ h0.size b1 := eb1 ▸ X0.sz
  refine g_astoreN X1 #[.val (.ref t), .val (.int (Int32.ofNat m)), .val (.ref b1)] d25_17 rfl rfl ?_
  refine g_aloadN X1 d25_18 rfl rfl ?_
  refine g_iconst X1 (0 : Int32) d25_19 (by decide) ?_
  refine g_aloadN X1 d25_20 rfl rfl ?_
  refine g_iconst X1 (0 : Int32) d25_21 (by decide) ?_
  refine g_aloadN X1 d25_22 rfl rfl ?_
  have A2 := (A.ext E1)
  refine g_arraylength X1 d25_23 A2 (Int32.ofNat vs.length) rfl ?_
  refine g_iloadN X1 d25_24 rfl ?_
  refine g_callSp X1 d25_25 (w189 hw) (w86 hw) (w83 hw) (w87 hw) (by decide) pd8 [(.int (Int32.ofNat vs.length)), (.int (Int32.ofNat m))] [(.int (0 : Int32)), (.ref b1), (.int (0 : Int32)), (.ref t)] 4 (c_min hw hs _ _ (Int32.ofNat m) (k_min (by omega) (by omega))) rfl rfl rfl (Nat.le_of_eq rfl) (by decide) (by decide) 1 32 rfl rfl (by decide) (by decide) fun T3 X3 => ?_
  refine g_arraycopy X3 d25_28 rfl (w190 hw) (w147 hw) (w145 hw) (w146 hw) A2 A1 rfl 0 0 m (by omega) (by simp) (by decide) (by decide) rfl rfl nb1 zl1 (Or.inr fr1) 0 (Nat.le_of_eq rfl) (by decide) (by decide) fun T4 h4 X4 K4 A4 => ?_
  have z4 := K4.1
  refine g_aloadN X4 d25_31 rfl rfl ?_
  have E_5 := (Ea1.keep K4)
  exact g_areturn X4 d25_32 rfl rfl rfl (by decide) (by decide) ⟨_, rfl, rfl, fr1, nb1, by simpa using A4, E_5⟩
set_option maxRecDepth 65536 in
set_option maxHeartbeats 40000000 in
theorem c_encU {nw : Bool} {l : Launch} {Z : State} {EL : List (String × Nat)} {a0 : Array Value} (hw : HW Z a0) (hs : Sts Z) {h0 : Heap} {B0 : BP} (t : Addr) (bs : List Int32) (A : Ay Z h0 t .byte (bs.map Value.int)) (E_t : Exa Z h0 t "[B") (hcap : (bs.map Value.int).length ≤ 16) (hb : ∀ b ∈ bs, lo8 b = b) :
    Con nw l Z EL (⟨"java/lang/String", "encodeUTF8", "(B[BZ)[B"⟩ : MethodName) jdk_42_method_46_code 9 (some (.array .byte)) [] ({ frames := 2, cells := 2, slots := 64, locals := 32 } : Room) #[(.int (0 : Int32)), (.ref t), (.int (1 : Int32))] h0 B0 [] (fun v h B => ∃ r, v = some (.ref r) ∧ B0 = B ∧ h0.size ≤ r ∧ ¬ B r ∧ Ay Z h r .byte ((utf8 bs).map Value.int) ∧ Exa Z h r "[B") := by
  refine k_intro (Ls := #[.val (.int (0 : Int32)), .val (.ref t), .val (.int (1 : Int32)), .unset, .unset, .unset, .unset, .unset, .unset]) (by decide +kernel) rfl fun x T0 X0 => ?_
  have hl : bs.length < 2 ^ 31 := by simpa using A.len
  have hc : bs.length ≤ 16 := by simpa using hcap
  have lt_t := A.lt
  refine g_iloadN X0 d26_0 rfl ?_
  refine g_iconst X0 (1 : Int32) d26_1 (by decide) ?_
  refine g_icmpT X0 d26_2 (by decide) ?_
  refine g_aloadN X0 d26_11 rfl rfl ?_
  refine g_iconst X0 (0 : Int32) d26_12 (by decide) ?_
  refine g_aloadN X0 d26_13 rfl rfl ?_
  refine g_arraylength X0 d26_14 A (Int32.ofNat bs.length) (by simp) ?_
  refine g_callS X0 d26_15 (w223 hw) (w224 hw) (w225 hw) (w226 hw) (by decide) pd16 [(.ref t), (.int (0 : Int32)), (.int (Int32.ofNat bs.length))] [] 0 (c_hasNeg hw hs t bs A) rfl rfl rfl (Nat.le_of_eq rfl) (by decide) (by decide) 0 0 rfl rfl (by decide) (by decide) (fun _ q => nomatch q) fun v1 T1 h1 B1 X1 K1 M1 q1 => ?_
  obtain ⟨hr, rfl, rfl, rfl, hor⟩ := q1
  have z1 := K1.1
  show Go x (T1.setTop (mkF x.m 18 #[.val (.int (0 : Int32)), .val (.ref t), .val (.int (1 : Int32)), .unset, .unset, .unset, .unset, .unset, .unset] [(.int hr)]))
  rcases hor with ⟨rfl, hno⟩ | ⟨rfl, hsome⟩
  ·
    show Go x (T1.setTop (mkF x.m 18 #[.val (.int (0 : Int32)), .val (.ref t), .val (.int (1 : Int32)), .unset, .unset, .unset, .unset, .unset, .unset] [(.int (0 : Int32))]))
    refine g_ifF X1 d26_18 (by decide) ?_
    refine g_aloadN X1 d26_21 rfl rfl ?_
    refine g_clone X1 d26_22 (w230 hw) (w231 hw) (w235 hw) (w233 hw) (w234 hw) (w236 hw) A E_t 0 16 rfl (Nat.le_of_eq rfl) (by decide) (by decide) hcap 1 16 rfl rfl (by decide) (by decide) fun T2 h2 b2 X2 E2 eb2 nb2 A2 Ea2 => ?_
    have z2 := E2.1; have fr2 : @LE.le Nat _ h0.size b2 := eb2 ▸ X1.sz
    refine g_castY X2 d26_25 (w237 hw) (Ins.self Ea2) fun T3 X3 => ?_
    exact g_areturn X3 d26_28 rfl rfl rfl (by decide) (by decide) ⟨_, rfl, rfl, fr2, nb2, by rw [utf8_pos hno]; exact A2, Ea2⟩
  ·
    show Go x (T1.setTop (mkF x.m 18 #[.val (.int (0 : Int32)), .val (.ref t), .val (.int (1 : Int32)), .unset, .unset, .unset, .unset, .unset, .unset] [(.int (1 : Int32))]))
    refine g_ifT X1 d26_18 (by decide) ?_
    refine g_iconst X1 (0 : Int32) d26_29 (by decide) ?_
    refine g_istoreN X1 #[.val (.int (0 : Int32)), .val (.ref t), .val (.int (1 : Int32)), .val (.int (0 : Int32)), .unset, .unset, .unset, .unset, .unset] d26_30 rfl ?_
    refine g_aloadN X1 d26_31 rfl rfl ?_
    refine g_arraylength X1 d26_32 A (Int32.ofNat bs.length) (by simp) ?_
    refine g_callS X1 d26_33 (w357 hw) (w358 hw) (w359 hw) (w360 hw) (by decide) pd17 [(.int (Int32.ofNat bs.length))] [] 0 (c_nbfE hw hs bs.length (by omega)) rfl rfl rfl (Nat.le_of_eq rfl) (by decide) (by decide) 1 32 rfl rfl (by decide) (by decide) (fun _ q => nomatch q) fun v4 T4 h4 B4 X4 K4 M4 q4 => ?_
    obtain ⟨u, rfl, rfl, fu, nbu, Au, Eu⟩ := q4
    have z4 := K4.1
    show Go x (T4.setTop (mkF x.m 36 #[.val (.int (0 : Int32)), .val (.ref t), .val (.int (1 : Int32)), .val (.int (0 : Int32)), .unset, .unset, .unset, .unset, .unset] [(.ref u)]))
    have lt_u := Au.lt
    have zlu := Nat.le_trans X0.szZ fu
    refine g_astore X4 #[.val (.int (0 : Int32)), .val (.ref t), .val (.int (1 : Int32)), .val (.int (0 : Int32)), .val (.ref u), .unset, .unset, .unset, .unset] d26_36 rfl rfl ?_
    refine g_aloadN X4 d26_38 rfl rfl ?_
    refine g_astore X4 #[.val (.int (0 : Int32)), .val (.ref t), .val (.int (1 : Int32)), .val (.int (0 : Int32)), .val (.ref u), .val (.ref t), .unset, .unset, .unset] d26_39 rfl rfl ?_
    refine g_aload X4 d26_41 rfl rfl ?_
    have A5 := (A.keep K4 nin0)
    refine g_arraylength X4 d26_43 A5 (Int32.ofNat bs.length) (by simp) ?_
    refine g_istore X4 #[.val (.int (0 : Int32)), .val (.ref t), .val (.int (1 : Int32)), .val (.int (0 : Int32)), .val (.ref u), .val (.ref t), .val (.int (Int32.ofNat bs.length)), .unset, .unset] d26_44 rfl ?_
    refine g_iconst X4 (0 : Int32) d26_46 (by decide) ?_
    refine g_istore X4 #[.val (.int (0 : Int32)), .val (.ref t), .val (.int (1 : Int32)), .val (.int (0 : Int32)), .val (.ref u), .val (.ref t), .val (.int (Int32.ofNat bs.length)), .val (.int (0 : Int32)), .unset] d26_47 rfl ?_
    have loop : ∀ (d i : Nat) (hi : i + d = bs.length) (P : List Int32) (eP : P = utf8 (bs.take i)) (s8 : Slot) (hs8 : LS s8) (T : State) (h : Heap) (X : Wk nw l Z EL "java/lang/String" jdk_42_method_46_code 9 (some (.array .byte)) "encodeUTF8" ({ frames := 2, cells := 2, slots := 64, locals := 32 } : Room) h0 B0 [] (fun v h B => ∃ r, v = some (.ref r) ∧ B0 = B ∧ h0.size ≤ r ∧ ¬ B r ∧ Ay Z h r .byte ((utf8 bs).map Value.int) ∧ Exa Z h r "[B") x T h B0 1 32) (At : Ay Z h t .byte (bs.map Value.int)) (A : Ay Z h u .byte (P.map Value.int ++ List.replicate (2 * bs.length - P.length) (Value.int 0))) (Eu : Exa Z h u "[B"), Go x (T.setTop (mkF x.m 49 #[.val (.int (0 : Int32)), .val (.ref t), .val (.int (1 : Int32)), .val (.int (Int32.ofNat P.length)), .val (.ref u), .val (.ref t), .val (.int (Int32.ofNat bs.length)), .val (.int (Int32.ofNat i)), s8] [])) := by
      intro d
      induction d with
      | zero =>
        intro i hi P eP s8 hs8 T h X At A Eu
        obtain rfl : i = bs.length := by omega
        rw [List.take_length] at eP
        have hP : P.length ≤ 2 * bs.length := eP ▸ utf8_len bs
        have hlA : (P.map Value.int ++ List.replicate (2 * bs.length - P.length) (Value.int 0)).length = 2 * bs.length := by simp; omega
        refine g_iload X d26_49 rfl ?_
        refine g_iload X d26_51 rfl ?_
        refine g_icmpT X d26_53 (XT.ii_ge_t (k_nlt (Nat.le_refl _) hl)) ?_
        refine g_iloadN X d26_124 rfl ?_
        refine g_aload X d26_125 rfl rfl ?_
        refine g_arraylength X d26_127 A (Int32.ofNat (2 * bs.length)) (by rw [hlA]) ?_
        by_cases he : (Int32.ofNat P.length) = (Int32.ofNat (2 * bs.length))
        ·
          refine g_icmpF X d26_128 (XT.ii_ne_f he) ?_
          have he := (k_eqn (by omega) (by omega)).mp he
          refine g_aload X d26_131 rfl rfl ?_
          exact g_areturn X d26_133 rfl rfl rfl (by decide) (by decide) ⟨u, rfl, rfl, by omega, nbu, by rw [← eP]; simpa [he] using A, Eu⟩
        ·
          refine g_icmpT X d26_128 (XT.ii_ne_t he) ?_
          have hne : P.length < 2 * bs.length := Nat.lt_of_le_of_ne hP fun g => he (by rw [g])
          refine g_aload X d26_134 rfl rfl ?_
          refine g_iloadN X d26_136 rfl ?_
          refine g_callS X d26_137 (w365 hw) (w366 hw) (w181 hw) (w367 hw) (by decide) pd18 [(.ref u), (.int (Int32.ofNat P.length))] [] 0 (c_copyOfB hw hs u P.length _ A (by rw [hlA]; exact hne) (by omega)) rfl rfl rfl (Nat.le_of_eq rfl) (by decide) (by decide) 2 64 rfl rfl (by decide) (by decide) (fun _ q => nomatch q) fun v6 T6 h6 B6 X6 K6 M6 q6 => ?_
          obtain ⟨r, rfl, rfl, fr, nbr, Ar, Er⟩ := q6
          have z6 := K6.1
          show Go x (T6.setTop (mkF x.m 140 #[.val (.int (0 : Int32)), .val (.ref t), .val (.int (1 : Int32)), .val (.int (Int32.ofNat P.length)), .val (.ref u), .val (.ref t), .val (.int (Int32.ofNat bs.length)), .val (.int (Int32.ofNat bs.length)), s8] [(.ref r)]))
          exact g_areturn X6 d26_140 rfl rfl rfl (by decide) (by decide) ⟨r, rfl, rfl, Nat.le_trans X.sz fr, nbr, by rw [← eP]; simpa using Ar, Er⟩
      | succ d ih =>
        intro i hi P eP s8 hs8 T h X At A Eu
        have hil : i < bs.length := by omega
        have hP : P.length ≤ 2 * i := by have := utf8_len (bs.take i); rw [← eP] at this; simp at this; omega
        have hlA : (P.map Value.int ++ List.replicate (2 * bs.length - P.length) (Value.int 0)).length = 2 * bs.length := by simp; omega
        refine g_iload X d26_49 rfl ?_
        refine g_iload X d26_51 rfl ?_
        refine g_icmpF X d26_53 (XT.ii_ge_f (k_lt hil hl)) ?_
        refine g_aload X d26_56 rfl rfl ?_
        refine g_iload X d26_58 rfl ?_
        refine g_baload X d26_60 At i rfl (v := .int bs[i]) (by simp [hil]) ?_
        refine g_istore X #[.val (.int (0 : Int32)), .val (.ref t), .val (.int (1 : Int32)), .val (.int (Int32.ofNat P.length)), .val (.ref u), .val (.ref t), .val (.int (Int32.ofNat bs.length)), .val (.int (Int32.ofNat i)), .val (.int (bs[i]))] d26_61 (by rcases hs8 with rfl | ⟨u, rfl⟩ <;> rfl) ?_
        refine g_iload X d26_63 rfl ?_
        by_cases hneg : (bs[i]) < 0
        ·
          refine g_ifF X d26_65 (XT.i0_ge_f hneg) ?_
          refine g_aload X d26_68 rfl rfl ?_
          refine g_iloadN X d26_70 rfl ?_
          refine g_iinc X #[.val (.int (0 : Int32)), .val (.ref t), .val (.int (1 : Int32)), .val (.int (Int32.ofNat (P ++ [(u8a bs[i])]).length)), .val (.ref u), .val (.ref t), .val (.int (Int32.ofNat bs.length)), .val (.int (Int32.ofNat i)), .val (.int (bs[i]))] d26_71 rfl ((k_inc _).trans (congrArg Int32.ofNat (by simp))) rfl ?_
          refine g_sipush X (192 : Int32) d26_74 (by decide) ?_
          refine g_iload X d26_77 rfl ?_
          refine g_sipush X (255 : Int32) d26_79 (by decide) ?_
          refine g_iand X ((bs[i]) &&& (255 : Int32)) d26_82 rfl ?_
          refine g_bipush X (6 : Int32) d26_83 (by decide) ?_
          refine g_ishr X (((bs[i]) &&& (255 : Int32)) >>> ((6 : Int32) &&& 31)) d26_85 rfl ?_
          refine g_ior X ((192 : Int32) ||| (((bs[i]) &&& (255 : Int32)) >>> ((6 : Int32) &&& 31))) d26_86 rfl ?_
          refine g_i2b X (u8a bs[i]) d26_87 rfl ?_
          refine g_bastore X d26_88 A P.length rfl (u8a bs[i]) (nar_b8 _) (by rw [hlA]; omega) nbu zlu (Or.inr (by omega : @LE.le Nat _ h0.size u)) fun T7 h7 X7 K7 A7 => ?_
          have z7 := K7.1
          rw [k_put (by omega)] at A7
          refine g_aload X7 d26_89 rfl rfl ?_
          refine g_iloadN X7 d26_91 rfl ?_
          refine g_iinc X7 #[.val (.int (0 : Int32)), .val (.ref t), .val (.int (1 : Int32)), .val (.int (Int32.ofNat (P ++ [(u8a bs[i])] ++ [(u8b bs[i])]).length)), .val (.ref u), .val (.ref t), .val (.int (Int32.ofNat bs.length)), .val (.int (Int32.ofNat i)), .val (.int (bs[i]))] d26_92 rfl ((k_inc _).trans (congrArg Int32.ofNat (by simp))) rfl ?_
          refine g_sipush X7 (128 : Int32) d26_95 (by decide) ?_
          refine g_iload X7 d26_98 rfl ?_
          refine g_bipush X7 (63 : Int32) d26_100 (by decide) ?_
          refine g_iand X7 ((bs[i]) &&& (63 : Int32)) d26_102 rfl ?_
          refine g_ior X7 ((128 : Int32) ||| ((bs[i]) &&& (63 : Int32))) d26_103 rfl ?_
          refine g_i2b X7 (u8b bs[i]) d26_104 rfl ?_
          refine g_bastore X7 d26_105 A7 ((P ++ [(u8a bs[i])]).length) rfl (u8b bs[i]) (nar_b8 _) (by simp; omega) nbu zlu (Or.inr (by omega : @LE.le Nat _ h0.size u)) fun T8 h8 X8 K8 A8 => ?_
          have z8 := K8.1
          rw [k_put (by simp; omega)] at A8
          refine g_goto X8 d26_106 ?_
          refine g_iinc X8 #[.val (.int (0 : Int32)), .val (.ref t), .val (.int (1 : Int32)), .val (.int (Int32.ofNat (P ++ [(u8a bs[i])] ++ [(u8b bs[i])]).length)), .val (.ref u), .val (.ref t), .val (.int (Int32.ofNat bs.length)), .val (.int (Int32.ofNat (i + 1))), .val (.int (bs[i]))] d26_118 rfl (k_inc i) rfl ?_
          refine g_goto X8 d26_121 ?_
          have A9 := ((At.keep K7 (ninS (k_neN (by omega)) nin0)).keep K8 (ninS (k_neN (by omega)) nin0))
          have E_10 := ((Eu.keep K7).keep K8)
          exact ih (i + 1) (by omega) _ (by rw [eP, utf8_neg hil hneg]; simp) (.val (.int bs[i])) (Or.inr ⟨_, rfl⟩) T8 h8 X8 A9 A8 E_10
        ·
          refine g_ifT X d26_65 (XT.i0_ge_t hneg) ?_
          refine g_aload X d26_109 rfl rfl ?_
          refine g_iloadN X d26_111 rfl ?_
          refine g_iinc X #[.val (.int (0 : Int32)), .val (.ref t), .val (.int (1 : Int32)), .val (.int (Int32.ofNat (P ++ [bs[i]]).length)), .val (.ref u), .val (.ref t), .val (.int (Int32.ofNat bs.length)), .val (.int (Int32.ofNat i)), .val (.int (bs[i]))] d26_112 rfl ((k_inc _).trans (congrArg Int32.ofNat (by simp))) rfl ?_
          refine g_iload X d26_115 rfl ?_
          refine g_bastore X d26_117 A P.length rfl (bs[i]) (hb _ (List.getElem_mem hil)) (by rw [hlA]; omega) nbu zlu (Or.inr (by omega : @LE.le Nat _ h0.size u)) fun T11 h11 X11 K11 A11 => ?_
          have z11 := K11.1
          rw [k_put (by omega)] at A11
          refine g_iinc X11 #[.val (.int (0 : Int32)), .val (.ref t), .val (.int (1 : Int32)), .val (.int (Int32.ofNat (P ++ [bs[i]]).length)), .val (.ref u), .val (.ref t), .val (.int (Int32.ofNat bs.length)), .val (.int (Int32.ofNat (i + 1))), .val (.int (bs[i]))] d26_118 rfl (k_inc i) rfl ?_
          refine g_goto X11 d26_121 ?_
          have A12 := (At.keep K11 (ninS (k_neN (by omega)) nin0))
          have E_13 := (Eu.keep K11)
          exact ih (i + 1) (by omega) _ (by rw [eP, utf8_nn hil hneg]) (.val (.int bs[i])) (Or.inr ⟨_, rfl⟩) T11 h11 X11 A12 A11 E_13
    exact loop bs.length 0 (by omega) [] rfl .unset (Or.inl rfl) T4 h4 X4 A5 (by simpa using Au) Eu
set_option maxRecDepth 65536 in
set_option maxHeartbeats 40000000 in
theorem c_isLatin1 {nw : Bool} {l : Launch} {Z : State} {EL : List (String × Nat)} {a0 : Array Value} (hw : HW Z a0) (hs : Sts Z) {h0 : Heap} {B0 : BP} (a : Addr) (bs : List Int32) (S : StrV Z h0 a 0 bs) :
    Con nw l Z EL (⟨"java/lang/String", "isLatin1", "()Z"⟩ : MethodName) jdk_42_method_154_code 1 (some .boolean) [] ({ frames := 0, cells := 0, slots := 0, locals := 0 } : Room) #[(.ref a)] h0 B0 [] (PQ (some (.int (1 : Int32))) h0 B0) := by
  refine k_intro (Ls := #[.val (.ref a)]) (by decide +kernel) rfl fun x T0 X0 => ?_
  obtain ⟨cv, sCS, ncv⟩ := hs.1
  obtain ⟨t_a, E_a, Fc_a, Fv_a, A_a⟩ := S.op
  refine g_getstatic X0 d27_0 (w4 hw) Via.refl sCS fun T1 X1 => ?_
  refine g_ifF X1 d27_3 (XT.i0_eq_f ncv) ?_
  refine g_aloadN X1 d27_6 rfl rfl ?_
  refine g_getfield X1 d27_7 (w24 hw) Via.refl Fc_a fun T2 X2 => ?_
  refine g_ifF X2 d27_10 (by decide) ?_
  refine g_iconst X2 (1 : Int32) d27_13 (by decide) ?_
  refine g_goto X2 d27_14 ?_
  exact g_ireturn (w' := (1 : Int32)) X2 d27_18 (Or.inl rfl) (by decide) (by decide) (by decide) ⟨rfl, rfl, rfl⟩
set_option maxRecDepth 65536 in
set_option maxHeartbeats 40000000 in
theorem c_encode {nw : Bool} {l : Launch} {Z : State} {EL : List (String × Nat)} {a0 : Array Value} (hw : HW Z a0) (hs : Sts Z) {h0 : Heap} {B0 : BP} (u t : Addr) (bs : List Int32) (sU : Sta Z Z.heap "sun/nio/cs/UTF_8" "INSTANCE" "Lsun/nio/cs/UTF_8;" (.ref u)) (A : Ay Z h0 t .byte (bs.map Value.int)) (E_t : Exa Z h0 t "[B") (hcap : (bs.map Value.int).length ≤ 16) (hb : ∀ b ∈ bs, lo8 b = b) :
    Con nw l Z EL (⟨"java/lang/String", "encode", "(Ljava/nio/charset/Charset;B[B)[B"⟩ : MethodName) jdk_42_method_18_code 3 (some (.array .byte)) [] ({ frames := 3, cells := 2, slots := 64, locals := 52 } : Room) #[(.ref u), (.int (0 : Int32)), (.ref t)] h0 B0 [] (fun v h B => ∃ r, v = some (.ref r) ∧ B0 = B ∧ h0.size ≤ r ∧ ¬ B r ∧ Ay Z h r .byte ((utf8 bs).map Value.int) ∧ Exa Z h r "[B") := by
  refine k_intro (Ls := #[.val (.ref u), .val (.int (0 : Int32)), .val (.ref t)]) (by decide +kernel) rfl fun x T0 X0 => ?_
  refine g_aloadN X0 d28_0 rfl rfl ?_
  refine g_getstatic X0 d28_1 (w218 hw) Via.refl sU fun T1 X1 => ?_
  refine g_acmpF X1 d28_4 rfl rfl (XT.aa_ne_f rfl) ?_
  refine g_iloadN X1 d28_7 rfl ?_
  refine g_aloadN X1 d28_8 rfl rfl ?_
  refine g_iconst X1 (1 : Int32) d28_9 (by decide) ?_
  refine g_callS X1 d28_10 (w220 hw) (w221 hw) (w2 hw) (w222 hw) (by decide) pd19 [(.int (0 : Int32)), (.ref t), (.int (1 : Int32))] [] 0 (c_encU hw hs t bs A E_t hcap hb) rfl rfl rfl (Nat.le_of_eq rfl) (by decide) (by decide) 2 64 rfl rfl (by decide) (by decide) (fun _ q => nomatch q) fun v2 T2 h2 B2 X2 K2 M2 q2 => ?_
  obtain ⟨r, rfl, rfl, R⟩ := q2
  have z2 := K2.1
  show Go x (T2.setTop (mkF x.m 13 #[.val (.ref u), .val (.int (0 : Int32)), .val (.ref t)] [(.ref r)]))
  exact g_areturn X2 d28_13 rfl rfl rfl (by decide) (by decide) ⟨r, rfl, rfl, R⟩
set_option maxRecDepth 65536 in
set_option maxHeartbeats 40000000 in
theorem c_getBytes {nw : Bool} {l : Launch} {Z : State} {EL : List (String × Nat)} {a0 : Array Value} (hw : HW Z a0) (hs : Sts Z) {h0 : Heap} {B0 : BP} (a ta u : Addr) (bs : List Int32) (sU : Sta Z Z.heap "sun/nio/cs/UTF_8" "INSTANCE" "Lsun/nio/cs/UTF_8;" (.ref u)) (E_a : Exa Z h0 a "java/lang/String") (Fa_c : Fld Z h0 a "java/lang/String" "coder" "B" (.int 0)) (Fa_v : Fld Z h0 a "java/lang/String" "value" "[B" (.ref ta)) (A_ta : Ay Z h0 ta .byte (bs.map Value.int)) (E_t : Exa Z h0 ta "[B") (hcap : (bs.map Value.int).length ≤ 16) (hb : ∀ b ∈ bs, lo8 b = b) :
    Con nw l Z EL (⟨"java/lang/String", "getBytes", "(Ljava/nio/charset/Charset;)[B"⟩ : MethodName) jdk_42_method_64_code 2 (some (.array .byte)) [] ({ frames := 4, cells := 2, slots := 64, locals := 66 } : Room) #[(.ref a), (.ref u)] h0 B0 [] (fun v h B => ∃ r, v = some (.ref r) ∧ B0 = B ∧ h0.size ≤ r ∧ ¬ B r ∧ Ay Z h r .byte ((utf8 bs).map Value.int) ∧ Exa Z h r "[B") := by
  refine k_intro (Ls := #[.val (.ref a), .val (.ref u)]) (by decide +kernel) rfl fun x T0 X0 => ?_
  have lt_a := k_ltE E_a; have lt_ta := A_ta.lt
  refine g_aloadN X0 d29_0 rfl rfl ?_
  refine g_ifnonnullT X0 d29_1 ?_
  refine g_aloadN X0 d29_12 rfl rfl ?_
  refine g_aloadN X0 d29_13 rfl rfl ?_
  refine g_callVp X0 d29_14 (w70 hw) (w71 hw) (w73 hw) (w72 hw) (w2 hw) (w74 hw) (by decide) pd0 a [] [(.ref u)] 1 E_a (c_coder hw hs a 0 bs (Or.inl rfl) (⟨ta, E_a, Fa_c, Fa_v, A_ta⟩ : StrV Z h0 a 0 bs)) rfl rfl rfl (Nat.le_of_eq rfl) (by decide) (by decide) 0 0 rfl rfl (by decide) (by decide) fun T1 X1 => ?_
  refine g_aloadN X1 d29_17 rfl rfl ?_
  refine g_getfield X1 d29_18 (w22 hw) Via.refl Fa_v fun T2 X2 => ?_
  refine g_callS X2 d29_21 (w215 hw) (w216 hw) (w2 hw) (w217 hw) (by decide) pd20 [(.ref u), (.int (0 : Int32)), (.ref ta)] [] 0 (c_encode hw hs u ta bs sU A_ta E_t hcap hb) rfl rfl rfl (Nat.le_of_eq rfl) (by decide) (by decide) 2 64 rfl rfl (by decide) (by decide) (fun _ q => nomatch q) fun v3 T3 h3 B3 X3 K3 M3 q3 => ?_
  obtain ⟨r, rfl, rfl, R⟩ := q3
  have z3 := K3.1
  show Go x (T3.setTop (mkF x.m 24 #[.val (.ref a), .val (.ref u)] [(.ref r)]))
  exact g_areturn X3 d29_24 rfl rfl rfl (by decide) (by decide) ⟨r, rfl, rfl, R⟩
set_option maxRecDepth 65536 in
set_option maxHeartbeats 40000000 in
theorem c_reqNN2 {nw : Bool} {l : Launch} {Z : State} {EL : List (String × Nat)} {a0 : Array Value} (hw : HW Z a0) (hs : Sts Z) {h0 : Heap} {B0 : BP} (a b : Addr)  :
    Con nw l Z EL (⟨"java/util/Objects", "requireNonNull", "(Ljava/lang/Object;Ljava/lang/String;)Ljava/lang/Object;"⟩ : MethodName) jdk_31_method_11_code 2 (some (.object "java/lang/Object")) [] ({ frames := 0, cells := 0, slots := 0, locals := 0 } : Room) #[(.ref a), (.ref b)] h0 B0 [] (PQ (some (.ref a)) h0 B0) := by
  refine k_intro (Ls := #[.val (.ref a), .val (.ref b)]) (by decide +kernel) rfl fun x T0 X0 => ?_
  refine g_aloadN X0 d30_0 rfl rfl ?_
  refine g_ifnonnullT X0 d30_1 ?_
  refine g_aloadN X0 d30_13 rfl rfl ?_
  exact g_areturn X0 d30_14 rfl rfl rfl (by decide) (by decide) ⟨rfl, rfl, rfl⟩
set_option maxRecDepth 65536 in
set_option maxHeartbeats 40000000 in
theorem c_reqNN1 {nw : Bool} {l : Launch} {Z : State} {EL : List (String × Nat)} {a0 : Array Value} (hw : HW Z a0) (hs : Sts Z) {h0 : Heap} {B0 : BP} (a : Addr)  :
    Con nw l Z EL (⟨"java/util/Objects", "requireNonNull", "(Ljava/lang/Object;)Ljava/lang/Object;"⟩ : MethodName) jdk_31_method_10_code 1 (some (.object "java/lang/Object")) [] ({ frames := 0, cells := 0, slots := 0, locals := 0 } : Room) #[(.ref a)] h0 B0 [] (PQ (some (.ref a)) h0 B0) := by
  refine k_intro (Ls := #[.val (.ref a)]) (by decide +kernel) rfl fun x T0 X0 => ?_
  refine g_aloadN X0 d31_0 rfl rfl ?_
  refine g_ifnonnullT X0 d31_1 ?_
  refine g_aloadN X0 d31_12 rfl rfl ?_
  exact g_areturn X0 d31_13 rfl rfl rfl (by decide) (by decide) ⟨rfl, rfl, rfl⟩
set_option maxRecDepth 65536 in
set_option maxHeartbeats 40000000 in
theorem c_isEmpty {nw : Bool} {l : Launch} {Z : State} {EL : List (String × Nat)} {a0 : Array Value} (hw : HW Z a0) (hs : Sts Z) {h0 : Heap} {B0 : BP} (a : Addr) (bs : List Int32) (S : StrV Z h0 a 0 bs) (hne : 0 < bs.length) :
    Con nw l Z EL (⟨"java/lang/String", "isEmpty", "()Z"⟩ : MethodName) jdk_42_method_55_code 1 (some .boolean) [] ({ frames := 0, cells := 0, slots := 0, locals := 0 } : Room) #[(.ref a)] h0 B0 [] (PQ (some (.int (0 : Int32))) h0 B0) := by
  refine k_intro (Ls := #[.val (.ref a)]) (by decide +kernel) rfl fun x T0 X0 => ?_
  obtain ⟨t_a, E_a, Fc_a, Fv_a, A_a⟩ := S.op
  have hl := S.len
  refine g_aloadN X0 d32_0 rfl rfl ?_
  refine g_getfield X0 d32_1 (w22 hw) Via.refl Fv_a fun T1 X1 => ?_
  refine g_arraylength X1 d32_4 A_a (Int32.ofNat bs.length) (by simp) ?_
  refine g_ifT X1 d32_5 (XT.i0_ne_t (k_ne0 hne hl)) ?_
  refine g_iconst X1 (0 : Int32) d32_12 (by decide) ?_
  exact g_ireturn (w' := (0 : Int32)) X1 d32_13 (Or.inl rfl) (by decide) (by decide) (by decide) ⟨rfl, rfl, rfl⟩
set_option maxRecDepth 65536 in
set_option maxHeartbeats 40000000 in
theorem c_canEncI {nw : Bool} {l : Launch} {Z : State} {EL : List (String × Nat)} {a0 : Array Value} (hw : HW Z a0) (hs : Sts Z) {h0 : Heap} {B0 : BP} (c : Int32) (hc : C8 c) :
    Con nw l Z EL (⟨"java/lang/StringLatin1", "canEncode", "(I)Z"⟩ : MethodName) jdk_43_method_4_code 1 (some .boolean) [] ({ frames := 0, cells := 0, slots := 0, locals := 0 } : Room) #[(.int c)] h0 B0 [] (PQ (some (.int (1 : Int32))) h0 B0) := by
  refine k_intro (Ls := #[.val (.int c)]) (by decide +kernel) rfl fun x T0 X0 => ?_
  refine g_iloadN X0 d33_0 rfl ?_
  refine g_ifF X0 d33_1 (XT.i0_lt_f hc.2) ?_
  refine g_iloadN X0 d33_4 rfl ?_
  refine g_sipush X0 (255 : Int32) d33_5 (by decide) ?_
  refine g_icmpF X0 d33_8 (XT.ii_gt_f hc.1) ?_
  refine g_iconst X0 (1 : Int32) d33_11 (by decide) ?_
  refine g_goto X0 d33_12 ?_
  exact g_ireturn (w' := (1 : Int32)) X0 d33_16 (Or.inl rfl) (by decide) (by decide) (by decide) ⟨rfl, rfl, rfl⟩
set_option maxRecDepth 65536 in
set_option maxHeartbeats 40000000 in
theorem c_max {nw : Bool} {l : Launch} {Z : State} {EL : List (String × Nat)} {a0 : Array Value} (hw : HW Z a0) (hs : Sts Z) {h0 : Heap} {B0 : BP} (u v r : Int32) (hr : (if u < v then v else u) = r) :
    Con nw l Z EL (⟨"java/lang/Math", "max", "(II)I"⟩ : MethodName) jdk_29_method_65_code 2 (some .int) [] ({ frames := 0, cells := 0, slots := 0, locals := 0 } : Room) #[(.int u), (.int v)] h0 B0 [] (PQ (some (.int r)) h0 B0) := by
  refine k_intro (Ls := #[.val (.int u), .val (.int v)]) (by decide +kernel) rfl fun x T0 X0 => ?_
  refine g_iloadN X0 d34_0 rfl ?_
  refine g_iloadN X0 d34_1 rfl ?_
  by_cases h : u < v
  ·
    refine g_icmpT X0 d34_2 (XT.ii_lt_t h) ?_
    refine g_iloadN X0 d34_9 rfl ?_
    exact g_ireturnI X0 d34_10 (by decide) (by decide) ⟨by rw [← hr, if_pos h], rfl, rfl⟩
  ·
    refine g_icmpF X0 d34_2 (XT.ii_lt_f h) ?_
    refine g_iloadN X0 d34_5 rfl ?_
    refine g_goto X0 d34_6 ?_
    exact g_ireturnI X0 d34_10 (by decide) (by decide) ⟨by rw [← hr, if_neg h], rfl, rfl⟩
set_option maxRecDepth 65536 in
set_option maxHeartbeats 40000000 in
theorem c_ixCharL1 {nw : Bool} {l : Launch} {Z : State} {EL : List (String × Nat)} {a0 : Array Value} (hw : HW Z a0) (hs : Sts Z) {h0 : Heap} {B0 : BP} (t : Addr) (f : Nat) (ch : Int32) (cs : List Int32) (A : Ay Z h0 t .byte ((cs.map lo8).map Value.int)) (hf : f ≤ cs.length) (hch : C8 ch) (h8 : ∀ c ∈ cs, C8 c) :
    Con nw l Z EL (⟨"java/lang/StringLatin1", "indexOfChar", "([BIII)I"⟩ : MethodName) jdk_43_method_23_code 6 (some .int) [] ({ frames := 0, cells := 0, slots := 0, locals := 0 } : Room) #[(.ref t), (.int ch), (.int (Int32.ofNat f)), (.int (Int32.ofNat cs.length))] h0 B0 [] (PQ (some (.int (idxV cs ch f))) h0 B0) := by
  refine k_intro (Ls := #[.val (.ref t), .val (.int ch), .val (.int (Int32.ofNat f)), .val (.int (Int32.ofNat cs.length)), .unset, .unset]) (by decide +kernel) rfl fun x T0 X0 => ?_
  have hl : cs.length < 2 ^ 31 := by simpa using A.len
  refine g_iloadN X0 d35_0 rfl ?_
  refine g_i2b X0 (lo8 ch) d35_1 rfl ?_
  refine g_istore X0 #[.val (.ref t), .val (.int ch), .val (.int (Int32.ofNat f)), .val (.int (Int32.ofNat cs.length)), .val (.int (lo8 ch)), .unset] d35_2 rfl ?_
  refine g_iloadN X0 d35_4 rfl ?_
  refine g_istore X0 #[.val (.ref t), .val (.int ch), .val (.int (Int32.ofNat f)), .val (.int (Int32.ofNat cs.length)), .val (.int (lo8 ch)), .val (.int (Int32.ofNat f))] d35_5 rfl ?_
  have loop : ∀ (d i : Nat) (hi : i + d = cs.length) (he : idxV cs ch i = idxV cs ch f) (T : State) (X : Wk nw l Z EL "java/lang/StringLatin1" jdk_43_method_23_code 6 (some .int) "indexOfChar" ({ frames := 0, cells := 0, slots := 0, locals := 0 } : Room) h0 B0 [] (PQ (some (.int (idxV cs ch f))) h0 B0) x T h0 B0 0 0), Go x (T.setTop (mkF x.m 7 #[.val (.ref t), .val (.int ch), .val (.int (Int32.ofNat f)), .val (.int (Int32.ofNat cs.length)), .val (.int (lo8 ch)), .val (.int (Int32.ofNat i))] [])) := by
    intro d
    induction d with
    | zero =>
      intro i hi he T X
      obtain rfl : i = cs.length := by omega
      refine g_iload X d35_7 rfl ?_
      refine g_iloadN X d35_9 rfl ?_
      refine g_icmpT X d35_10 (XT.ii_ge_t (k_nlt (Nat.le_refl _) hl)) ?_
      refine g_iconst X (-1 : Int32) d35_31 (by decide) ?_
      exact g_ireturnI X d35_32 (by decide) (by decide) ⟨by rw [← he, idxV_end (Nat.le_refl _)], rfl, rfl⟩
    | succ d ih =>
      intro i hi he T X
      have hil : i < cs.length := by omega
      refine g_iload X d35_7 rfl ?_
      refine g_iloadN X d35_9 rfl ?_
      refine g_icmpF X d35_10 (XT.ii_ge_f (k_lt hil hl)) ?_
      refine g_aloadN X d35_13 rfl rfl ?_
      refine g_iload X d35_14 rfl ?_
      refine g_baload X d35_16 A i rfl (v := .int (lo8 cs[i])) (by simp [hil]) ?_
      refine g_iload X d35_17 rfl ?_
      by_cases hb : (lo8 cs[i]) = (lo8 ch)
      ·
        refine g_icmpF X d35_19 (XT.ii_ne_f hb) ?_
        refine g_iload X d35_22 rfl ?_
        exact g_ireturnI X d35_24 (by decide) (by decide) ⟨by rw [← he, idxV_hit hil ((b8_inj (h8 _ (List.getElem_mem hil)) hch).mp hb)], rfl, rfl⟩
      ·
        refine g_icmpT X d35_19 (XT.ii_ne_t hb) ?_
        refine g_iinc X #[.val (.ref t), .val (.int ch), .val (.int (Int32.ofNat f)), .val (.int (Int32.ofNat cs.length)), .val (.int (lo8 ch)), .val (.int (Int32.ofNat (i + 1)))] d35_25 rfl (k_inc i) rfl ?_
        refine g_goto X d35_28 ?_
        exact ih (i + 1) (by omega) (by rw [← he, idxV_miss hil (fun e => hb (by rw [e]))]) T X
  exact loop (cs.length - f) f (by omega) rfl T0 X0
set_option maxRecDepth 65536 in
set_option maxHeartbeats 40000000 in
theorem c_ixL1 {nw : Bool} {l : Launch} {Z : State} {EL : List (String × Nat)} {a0 : Array Value} (hw : HW Z a0) (hs : Sts Z) {h0 : Heap} {B0 : BP} (t : Addr) (f : Nat) (ch : Int32) (cs : List Int32) (A : Ay Z h0 t .byte ((cs.map lo8).map Value.int)) (hf : f < 2 ^ 31) (hch : C8 ch) (h8 : ∀ c ∈ cs, C8 c) :
    Con nw l Z EL (⟨"java/lang/StringLatin1", "indexOf", "([BIII)I"⟩ : MethodName) jdk_43_method_22_code 4 (some .int) [] ({ frames := 1, cells := 0, slots := 0, locals := 17 } : Room) #[(.ref t), (.int ch), (.int (Int32.ofNat f)), (.int (Int32.ofNat cs.length))] h0 B0 [] (PQ (some (.int (idxV cs ch f))) h0 B0) := by
  refine k_intro (Ls := #[.val (.ref t), .val (.int ch), .val (.int (Int32.ofNat f)), .val (.int (Int32.ofNat cs.length))]) (by decide +kernel) rfl fun x T0 X0 => ?_
  have hl : cs.length < 2 ^ 31 := by simpa using A.len
  refine g_iloadN X0 d36_0 rfl ?_
  refine g_callSp X0 d36_1 (w78 hw) (w79 hw) (w7 hw) (w80 hw) (by decide) pd21 [(.int ch)] [] 0 (c_canEncI hw hs ch hch) rfl rfl rfl (Nat.le_of_eq rfl) (by decide) (by decide) 0 0 rfl rfl (by decide) (by decide) fun T1 X1 => ?_
  refine g_ifT X1 d36_4 (by decide) ?_
  refine g_iloadN X1 d36_9 rfl ?_
  refine g_iconst X1 (0 : Int32) d36_10 (by decide) ?_
  refine g_callSp X1 d36_11 (w81 hw) (w82 hw) (w83 hw) (w84 hw) (by decide) pd8 [(.int (Int32.ofNat f)), (.int (0 : Int32))] [] 0 (c_max hw hs (Int32.ofNat f) 0 (Int32.ofNat f) (if_neg (k_nn hf))) rfl rfl rfl (Nat.le_of_eq rfl) (by decide) (by decide) 0 0 rfl rfl (by decide) (by decide) fun T2 X2 => ?_
  refine g_istoreN X2 #[.val (.ref t), .val (.int ch), .val (.int (Int32.ofNat f)), .val (.int (Int32.ofNat cs.length))] d36_14 rfl ?_
  refine g_iloadN X2 d36_15 rfl ?_
  refine g_aloadN X2 d36_16 rfl rfl ?_
  refine g_arraylength X2 d36_17 A (Int32.ofNat cs.length) (by simp) ?_
  refine g_callSp X2 d36_18 (w85 hw) (w86 hw) (w83 hw) (w87 hw) (by decide) pd8 [(.int (Int32.ofNat cs.length)), (.int (Int32.ofNat cs.length))] [] 0 (c_min hw hs _ _ (Int32.ofNat cs.length) (k_min (Nat.le_refl _) hl)) rfl rfl rfl (Nat.le_of_eq rfl) (by decide) (by decide) 0 0 rfl rfl (by decide) (by decide) fun T3 X3 => ?_
  refine g_istoreN X3 #[.val (.ref t), .val (.int ch), .val (.int (Int32.ofNat f)), .val (.int (Int32.ofNat cs.length))] d36_21 rfl ?_
  refine g_iloadN X3 d36_22 rfl ?_
  refine g_iloadN X3 d36_23 rfl ?_
  by_cases hfl : (Int32.ofNat f) < (Int32.ofNat cs.length)
  ·
    refine g_icmpT X3 d36_24 (XT.ii_lt_t hfl) ?_
    have hfl' : f < cs.length := by
      rcases Nat.lt_or_ge f cs.length with r | r
      · exact r
      · exact absurd hfl (k_nlt r hf)
    refine g_aloadN X3 d36_29 rfl rfl ?_
    refine g_iloadN X3 d36_30 rfl ?_
    refine g_iloadN X3 d36_31 rfl ?_
    refine g_iloadN X3 d36_32 rfl ?_
    refine g_callSp X3 d36_33 (w88 hw) (w89 hw) (w7 hw) (w90 hw) (by decide) pd22 [(.ref t), (.int ch), (.int (Int32.ofNat f)), (.int (Int32.ofNat cs.length))] [] 0 (c_ixCharL1 hw hs t f ch cs A (by omega) hch h8) rfl rfl rfl (Nat.le_of_eq rfl) (by decide) (by decide) 0 0 rfl rfl (by decide) (by decide) fun T4 X4 => ?_
    exact g_ireturnI X4 d36_36 (by decide) (by decide) ⟨rfl, rfl, rfl⟩
  ·
    refine g_icmpF X3 d36_24 (XT.ii_lt_f hfl) ?_
    refine g_iconst X3 (-1 : Int32) d36_27 (by decide) ?_
    exact g_ireturnI X3 d36_28 (by decide) (by decide) ⟨by rw [idxV_end]; rcases Nat.lt_or_ge f cs.length with r | r <;> first | exact absurd (k_lt r hl) hfl | exact r, rfl, rfl⟩
set_option maxRecDepth 65536 in
set_option maxHeartbeats 40000000 in
theorem c_indexOfIIL {nw : Bool} {l : Launch} {Z : State} {EL : List (String × Nat)} {a0 : Array Value} (hw : HW Z a0) (hs : Sts Z) {h0 : Heap} {B0 : BP} (a : Addr) (ch : Int32) (cs : List Int32) (S : StrV Z h0 a 0 (cs.map lo8)) (hch : C8 ch) (hc8 : ∀ c ∈ cs, C8 c) :
    Con nw l Z EL (⟨"java/lang/String", "indexOf", "(II)I"⟩ : MethodName) jdk_42_method_80_code 3 (some .int) [] ({ frames := 2, cells := 0, slots := 0, locals := 32 } : Room) #[(.ref a), (.int ch), (.int (0 : Int32))] h0 B0 [] (PQ (some (.int (idxV cs ch 0))) h0 B0) := by
  refine k_intro (Ls := #[.val (.ref a), .val (.int ch), .val (.int (0 : Int32))]) (by decide +kernel) rfl fun x T0 X0 => ?_
  obtain ⟨t_a, E_a, Fc_a, Fv_a, A_a⟩ := S.op
  refine g_aloadN X0 d37_0 rfl rfl ?_
  refine g_callVp X0 d37_1 (w60 hw) (w61 hw) (w63 hw) (w62 hw) (w2 hw) (w64 hw) (by decide) pd11 a [] [] 0 E_a (c_isLatin1 hw hs a _ S) rfl rfl rfl (Nat.le_of_eq rfl) (by decide) (by decide) 0 0 rfl rfl (by decide) (by decide) fun T1 X1 => ?_
  refine g_ifF X1 d37_4 (by decide) ?_
  refine g_aloadN X1 d37_7 rfl rfl ?_
  refine g_getfield X1 d37_8 (w22 hw) Via.refl Fv_a fun T2 X2 => ?_
  refine g_iloadN X2 d37_11 rfl ?_
  refine g_iloadN X2 d37_12 rfl ?_
  refine g_aloadN X2 d37_13 rfl rfl ?_
  refine g_callVp X2 d37_14 (w65 hw) (w66 hw) (w68 hw) (w67 hw) (w2 hw) (w69 hw) (by decide) pd4 a [] [(.int (0 : Int32)), (.int ch), (.ref t_a)] 3 E_a (c_lengthL hw hs a _ S) rfl rfl rfl (Nat.le_of_eq rfl) (by decide) (by decide) 0 0 rfl rfl (by decide) (by decide) fun T3 X3 => ?_
  rw [List.length_map]
  refine g_callSp X3 d37_17 (w75 hw) (w76 hw) (w7 hw) (w77 hw) (by decide) pd22 [(.ref t_a), (.int ch), (.int (0 : Int32)), (.int (Int32.ofNat cs.length))] [] 0 (c_ixL1 hw hs t_a 0 ch cs A_a (by decide) hch hc8) rfl rfl rfl (Nat.le_of_eq rfl) (by decide) (by decide) 0 0 rfl rfl (by decide) (by decide) fun T4 X4 => ?_
  refine g_goto X4 d37_20 ?_
  exact g_ireturnI X4 d37_36 (by decide) (by decide) ⟨rfl, rfl, rfl⟩
set_option maxRecDepth 65536 in
set_option maxHeartbeats 40000000 in
theorem c_indexOfIL {nw : Bool} {l : Launch} {Z : State} {EL : List (String × Nat)} {a0 : Array Value} (hw : HW Z a0) (hs : Sts Z) {h0 : Heap} {B0 : BP} (a : Addr) (ch : Int32) (cs : List Int32) (S : StrV Z h0 a 0 (cs.map lo8)) (hch : C8 ch) (hc8 : ∀ c ∈ cs, C8 c) :
    Con nw l Z EL (⟨"java/lang/String", "indexOf", "(I)I"⟩ : MethodName) jdk_42_method_79_code 2 (some .int) [] ({ frames := 3, cells := 0, slots := 0, locals := 46 } : Room) #[(.ref a), (.int ch)] h0 B0 [] (PQ (some (.int (idxV cs ch 0))) h0 B0) := by
  refine k_intro (Ls := #[.val (.ref a), .val (.int ch)]) (by decide +kernel) rfl fun x T0 X0 => ?_
  have E_a := S.exa'
  refine g_aloadN X0 d38_0 rfl rfl ?_
  refine g_iloadN X0 d38_1 rfl ?_
  refine g_iconst X0 (0 : Int32) d38_2 (by decide) ?_
  refine g_callVp X0 d38_3 (w55 hw) (w56 hw) (w58 hw) (w57 hw) (w2 hw) (w59 hw) (by decide) pd8 a [(.int ch), (.int (0 : Int32))] [] 0 E_a (c_indexOfIIL hw hs a ch cs S hch hc8) rfl rfl rfl (Nat.le_of_eq rfl) (by decide) (by decide) 0 0 rfl rfl (by decide) (by decide) fun T1 X1 => ?_
  exact g_ireturnI X1 d38_6 (by decide) (by decide) ⟨rfl, rfl, rfl⟩
set_option maxRecDepth 65536 in
set_option maxHeartbeats 40000000 in
theorem c_checkIndexP {nw : Bool} {l : Launch} {Z : State} {EL : List (String × Nat)} {a0 : Array Value} (hw : HW Z a0) (hs : Sts Z) {h0 : Heap} {B0 : BP} (i n : Int32) (v : Value) (r : v.isRef = true) (h1 : ¬ i < 0) (h2 : i < n) :
    Con nw l Z EL (⟨"jdk/internal/util/Preconditions", "checkIndex", "(IILjava/util/function/BiFunction;)I"⟩ : MethodName) jdk_41_method_11_code 3 (some .int) [] ({ frames := 0, cells := 0, slots := 0, locals := 0 } : Room) #[(.int i), (.int n), v] h0 B0 [] (PQ (some (.int i)) h0 B0) := by
  refine k_intro (Ls := #[.val (.int i), .val (.int n), .val v]) (by decide +kernel) (by rcases ref_cases r with rfl | ⟨_, rfl⟩ <;> rfl) fun x T0 X0 => ?_
  refine g_iloadN X0 d39_0 rfl ?_
  refine g_ifF X0 d39_1 (XT.i0_lt_f h1) ?_
  refine g_iloadN X0 d39_4 rfl ?_
  refine g_iloadN X0 d39_5 rfl ?_
  refine g_icmpT X0 d39_6 (XT.ii_lt_t h2) ?_
  refine g_iloadN X0 d39_16 rfl ?_
  exact g_ireturnI X0 d39_17 (by decide) (by decide) ⟨rfl, rfl, rfl⟩
set_option maxRecDepth 65536 in
set_option maxHeartbeats 40000000 in
theorem c_checkIndexS {nw : Bool} {l : Launch} {Z : State} {EL : List (String × Nat)} {a0 : Array Value} (hw : HW Z a0) (hs : Sts Z) {h0 : Heap} {B0 : BP} (i n : Int32) (h1 : ¬ i < 0) (h2 : i < n) :
    Con nw l Z EL (⟨"java/lang/String", "checkIndex", "(II)V"⟩ : MethodName) jdk_42_method_155_code 2 none [] ({ frames := 1, cells := 0, slots := 0, locals := 14 } : Room) #[(.int i), (.int n)] h0 B0 [] (PQ none h0 B0) := by
  refine k_intro (Ls := #[.val (.int i), .val (.int n)]) (by decide +kernel) rfl fun x T0 X0 => ?_
  obtain ⟨fv, sFV, rfv⟩ := hs.2.1
  refine g_iloadN X0 d40_0 rfl ?_
  refine g_iloadN X0 d40_1 rfl ?_
  refine g_getstatic X0 d40_2 (w348 hw) Via.refl sFV fun T1 X1 => ?_
  refine g_callSp X1 d40_5 (w350 hw) (w351 hw) (w349 hw) (w352 hw) (by decide) pd23 [(.int i), (.int n), fv] [] 0 (c_checkIndexP hw hs i n fv rfv h1 h2) rfl rfl rfl (Nat.le_of_eq rfl) (by decide) (by decide) 0 0 rfl rfl (by decide) (by decide) fun T2 X2 => ?_
  refine g_pop X2 d40_8 rfl ?_
  exact g_return X2 d40_9 (by decide) (by decide) ⟨rfl, rfl, rfl⟩
set_option maxRecDepth 65536 in
set_option maxHeartbeats 40000000 in
theorem c_charAtL1 {nw : Bool} {l : Launch} {Z : State} {EL : List (String × Nat)} {a0 : Array Value} (hw : HW Z a0) (hs : Sts Z) {h0 : Heap} {B0 : BP} (t : Addr) (i : Nat) (cs : List Int32) (A : Ay Z h0 t .byte ((cs.map lo8).map Value.int)) (hi : i < cs.length) (h16 : C16 cs[i]) (h8 : ¬ 255 < cs[i]) :
    Con nw l Z EL (⟨"java/lang/StringLatin1", "charAt", "([BI)C"⟩ : MethodName) jdk_43_method_2_code 2 (some .char) [] ({ frames := 2, cells := 0, slots := 0, locals := 27 } : Room) #[(.ref t), (.int (Int32.ofNat i))] h0 B0 [] (PQ (some (.int (cs[i]))) h0 B0) := by
  refine k_intro (Ls := #[.val (.ref t), .val (.int (Int32.ofNat i))]) (by decide +kernel) rfl fun x T0 X0 => ?_
  have hl : cs.length < 2 ^ 31 := by simpa using A.len
  refine g_iloadN X0 d41_0 rfl ?_
  refine g_aloadN X0 d41_1 rfl rfl ?_
  refine g_arraylength X0 d41_2 A (Int32.ofNat cs.length) (by simp) ?_
  refine g_callSp0 X0 d41_3 (w345 hw) (w346 hw) (w2 hw) (w347 hw) (by decide) pd7 [(.int (Int32.ofNat i)), (.int (Int32.ofNat cs.length))] [] 0 (c_checkIndexS hw hs _ _ (k_nn (by omega)) (k_lt hi hl)) rfl rfl rfl (Nat.le_of_eq rfl) (by decide) (by decide) 0 0 rfl rfl (by decide) (by decide) fun T1 X1 => ?_
  refine g_aloadN X1 d41_6 rfl rfl ?_
  refine g_iloadN X1 d41_7 rfl ?_
  refine g_baload X1 d41_8 A i rfl (v := .int (lo8 cs[i])) (by simp [hi]) ?_
  refine g_sipush X1 (255 : Int32) d41_9 (by decide) ?_
  refine g_iand X1 (cs[i]) d41_12 (k_b8_255 h16 h8) ?_
  refine g_i2c X1 (cs[i]) d41_13 (nar_c16 h16) ?_
  exact g_ireturn (w' := (cs[i])) X1 d41_14 (Or.inr (Or.inr (Or.inl rfl))) (nar_c16 h16) (by decide) (by decide) ⟨rfl, rfl, rfl⟩
set_option maxRecDepth 65536 in
set_option maxHeartbeats 40000000 in
theorem c_charAtL {nw : Bool} {l : Launch} {Z : State} {EL : List (String × Nat)} {a0 : Array Value} (hw : HW Z a0) (hs : Sts Z) {h0 : Heap} {B0 : BP} (a : Addr) (i : Nat) (cs : List Int32) (S : StrV Z h0 a 0 (cs.map lo8)) (hi : i < cs.length) (hc8 : ∀ c ∈ cs, C8 c) :
    Con nw l Z EL (⟨"java/lang/String", "charAt", "(I)C"⟩ : MethodName) jdk_42_method_56_code 2 (some .char) [] ({ frames := 3, cells := 0, slots := 0, locals := 40 } : Room) #[(.ref a), (.int (Int32.ofNat i))] h0 B0 [] (PQ (some (.int (cs[i]))) h0 B0) := by
  refine k_intro (Ls := #[.val (.ref a), .val (.int (Int32.ofNat i))]) (by decide +kernel) rfl fun x T0 X0 => ?_
  obtain ⟨t_a, E_a, Fc_a, Fv_a, A_a⟩ := S.op
  have c8 := hc8 _ (List.getElem_mem hi)
  have c16 : C16 cs[i] := c16_of8 c8
  refine g_aloadN X0 d42_0 rfl rfl ?_
  refine g_callVp X0 d42_1 (w60 hw) (w61 hw) (w63 hw) (w62 hw) (w2 hw) (w64 hw) (by decide) pd11 a [] [] 0 E_a (c_isLatin1 hw hs a _ S) rfl rfl rfl (Nat.le_of_eq rfl) (by decide) (by decide) 0 0 rfl rfl (by decide) (by decide) fun T1 X1 => ?_
  refine g_ifF X1 d42_4 (by decide) ?_
  refine g_aloadN X1 d42_7 rfl rfl ?_
  refine g_getfield X1 d42_8 (w22 hw) Via.refl Fv_a fun T2 X2 => ?_
  refine g_iloadN X2 d42_11 rfl ?_
  refine g_callSp X2 d42_12 (w342 hw) (w343 hw) (w7 hw) (w344 hw) (by decide) pd24 [(.ref t_a), (.int (Int32.ofNat i))] [] 0 (c_charAtL1 hw hs t_a i cs A_a hi c16 c8.1) rfl rfl rfl (Nat.le_of_eq rfl) (by decide) (by decide) 0 0 rfl rfl (by decide) (by decide) fun T3 X3 => ?_
  exact g_ireturn (w' := (cs[i])) X3 d42_15 (Or.inr (Or.inr (Or.inl rfl))) (nar_c16 c16) (by decide) (by decide) ⟨rfl, rfl, rfl⟩
set_option maxRecDepth 65536 in
set_option maxHeartbeats 40000000 in
theorem c_put {nw : Bool} {l : Launch} {Z : State} {EL : List (String × Nat)} {a0 : Array Value} (hw : HW Z a0) (hs : Sts Z) {h0 : Heap} {B0 : BP} (m : Addr) (nl : List Int32) (c : Int32) (A : Ay Z h0 m .int (nl.map Value.int ++ List.replicate (4 - nl.length) (Value.int 0))) (hn : nl.length ≤ 2) (nb_m : ¬ B0 m) (zl_m : Z.heap.size ≤ m)  :
    Con nw l Z EL (⟨"com/example/keen_queue/keenqueue/io/QueueKeysJobHashesPinLaw", "put", "([IIC)I"⟩ : MethodName) method_3_code 3 (some .int) [] ({ frames := 0, cells := 0, slots := 0, locals := 0 } : Room) #[(.ref m), (.int (Int32.ofNat nl.length)), (.int c)] h0 B0 [m] (fun v h B => v = some (.int (Int32.ofNat (nl ++ e8 c).length)) ∧ B0 = B ∧ Ay Z h m .int ((nl ++ e8 c).map Value.int ++ List.replicate (4 - (nl ++ e8 c).length) (Value.int 0))) := by
  refine k_intro (Ls := #[.val (.ref m), .val (.int (Int32.ofNat nl.length)), .val (.int c)]) (by decide +kernel) rfl fun x T0 X0 => ?_
  have hlA : (nl.map Value.int ++ List.replicate (4 - nl.length) (Value.int 0)).length = 4 := by simp; omega
  refine g_iloadN X0 d43_0 rfl ?_
  refine g_sipush X0 (128 : Int32) d43_1 (by decide) ?_
  by_cases h128 : c < (128 : Int32)
  ·
    refine g_icmpF X0 d43_4 (XT.ii_ge_f h128) ?_
    refine g_aloadN X0 d43_7 rfl rfl ?_
    refine g_iloadN X0 d43_8 rfl ?_
    refine g_iloadN X0 d43_9 rfl ?_
    refine g_iastore X0 d43_10 A nl.length rfl c rfl (by rw [hlA]; omega) nb_m zl_m (Or.inl (List.mem_of_getElem? (i := 0) rfl)) fun T1 h1 X1 K1 A1 => ?_
    have z1 := K1.1
    rw [k_put (by omega)] at A1
    refine g_iloadN X1 d43_11 rfl ?_
    refine g_iconst X1 (1 : Int32) d43_12 (by decide) ?_
    refine g_iadd X1 (Int32.ofNat (nl ++ [c]).length) d43_13 ((k_add _ 1).trans (congrArg Int32.ofNat (by simp))) ?_
    exact g_ireturnI X1 d43_14 (by decide) (by decide) ⟨by rw [e8, if_pos h128], rfl, by rw [e8, if_pos h128]; exact A1⟩
  ·
    refine g_icmpT X0 d43_4 (XT.ii_ge_t h128) ?_
    refine g_aloadN X0 d43_15 rfl rfl ?_
    refine g_iloadN X0 d43_16 rfl ?_
    refine g_sipush X0 (192 : Int32) d43_17 (by decide) ?_
    refine g_iloadN X0 d43_20 rfl ?_
    refine g_bipush X0 (6 : Int32) d43_21 (by decide) ?_
    refine g_ishr X0 (c >>> ((6 : Int32) &&& 31)) d43_23 rfl ?_
    refine g_ior X0 (e8a c) d43_24 rfl ?_
    refine g_iastore X0 d43_25 A nl.length rfl (e8a c) rfl (by rw [hlA]; omega) nb_m zl_m (Or.inl (List.mem_of_getElem? (i := 0) rfl)) fun T2 h2 X2 K2 A2 => ?_
    have z2 := K2.1
    rw [k_put (by omega)] at A2
    refine g_aloadN X2 d43_26 rfl rfl ?_
    refine g_iloadN X2 d43_27 rfl ?_
    refine g_iconst X2 (1 : Int32) d43_28 (by decide) ?_
    refine g_iadd X2 (Int32.ofNat (nl ++ [e8a c]).length) d43_29 ((k_add _ 1).trans (congrArg Int32.ofNat (by simp))) ?_
    refine g_sipush X2 (128 : Int32) d43_30 (by decide) ?_
    refine g_iloadN X2 d43_33 rfl ?_
    refine g_bipush X2 (63 : Int32) d43_34 (by decide) ?_
    refine g_iand X2 (c &&& (63 : Int32)) d43_36 rfl ?_
    refine g_ior X2 (e8b c) d43_37 rfl ?_
    refine g_iastore X2 d43_38 A2 ((nl ++ [e8a c]).length) rfl (e8b c) rfl (by simp; omega) nb_m zl_m (Or.inl (List.mem_of_getElem? (i := 0) rfl)) fun T3 h3 X3 K3 A3 => ?_
    have z3 := K3.1
    rw [k_put (by simp; omega)] at A3
    have e : nl ++ e8 c = nl ++ [e8a c] ++ [e8b c] := by rw [e8, if_neg h128]; simp
    refine g_iloadN X3 d43_39 rfl ?_
    refine g_iconst X3 (2 : Int32) d43_40 (by decide) ?_
    refine g_iadd X3 (Int32.ofNat (nl ++ [e8a c] ++ [e8b c]).length) d43_41 ((k_add _ 2).trans (congrArg Int32.ofNat (by simp))) ?_
    exact g_ireturnI X3 d43_42 (by decide) (by decide) ⟨by rw [e], rfl, by rw [e]; exact A3⟩
set_option maxRecDepth 65536 in
set_option maxHeartbeats 40000000 in
theorem c_exp {nw : Bool} {l : Launch} {Z : State} {EL : List (String × Nat)} {a0 : Array Value} (hw : HW Z a0) (hs : Sts Z) {h0 : Heap} {B0 : BP} (k : Nat) (m a : Addr) (nl sf : List Int32) (An : Ay Z h0 m .int (nl.map Value.int ++ List.replicate (4 - nl.length) (Value.int 0))) (S : StrV Z h0 a 0 (sf.map lo8)) (hc8 : ∀ c ∈ sf, C8 c) (hn : nl.length ≤ 4) (hs8 : sf.length ≤ 7) (hk : k < 6 + nl.length + sf.length) :
    Con nw l Z EL (⟨"com/example/keen_queue/keenqueue/io/QueueKeysJobHashesPinLaw", "exp", "(I[IILjava/lang/String;)I"⟩ : MethodName) method_4_code 4 (some .int) [] ({ frames := 4, cells := 0, slots := 0, locals := 53 } : Room) #[(.int (Int32.ofNat k)), (.ref m), (.int (Int32.ofNat nl.length)), (.ref a)] h0 B0 [] (PQ (some (.int (gG nl sf k))) h0 B0) := by
  refine k_intro (Ls := #[.val (.int (Int32.ofNat k)), .val (.ref m), .val (.int (Int32.ofNat nl.length)), .val (.ref a)]) (by decide +kernel) rfl fun x T0 X0 => ?_
  have E_a := S.exa'
  refine g_iloadN X0 d44_0 rfl ?_
  by_cases hk0 : (Int32.ofNat k) = 0
  ·
    refine g_ifF X0 d44_1 (XT.i0_ne_f hk0) ?_
    have hk' : k = 0 := (k_eqn (by omega) (by decide)).mp hk0
    subst hk'
    refine g_bipush X0 (107 : Int32) d44_4 (by decide) ?_
    exact g_ireturnI X0 d44_6 (by decide) (by decide) ⟨rfl, rfl, rfl⟩
  ·
    refine g_ifT X0 d44_1 (XT.i0_ne_t hk0) ?_
    have hn0 : k ≠ 0 := fun g => hk0 (by rw [g]; rfl)
    refine g_iloadN X0 d44_7 rfl ?_
    refine g_iconst X0 (1 : Int32) d44_8 (by decide) ?_
    by_cases hk1 : (Int32.ofNat k) = (1 : Int32)
    ·
      refine g_icmpF X0 d44_9 (XT.ii_ne_f hk1) ?_
      have hk' : k = 1 := (k_eqn (by omega) (by decide)).mp hk1
      subst hk'
      refine g_bipush X0 (113 : Int32) d44_12 (by decide) ?_
      exact g_ireturnI X0 d44_14 (by decide) (by decide) ⟨rfl, rfl, rfl⟩
    ·
      refine g_icmpT X0 d44_9 (XT.ii_ne_t hk1) ?_
      have hn1 : k ≠ 1 := fun g => hk1 (by rw [g]; rfl)
      refine g_iloadN X0 d44_15 rfl ?_
      refine g_iconst X0 (2 : Int32) d44_16 (by decide) ?_
      by_cases hk2 : (Int32.ofNat k) = (2 : Int32)
      ·
        refine g_icmpF X0 d44_17 (XT.ii_ne_f hk2) ?_
        have hk' : k = 2 := (k_eqn (by omega) (by decide)).mp hk2
        subst hk'
        refine g_bipush X0 (58 : Int32) d44_20 (by decide) ?_
        exact g_ireturnI X0 d44_22 (by decide) (by decide) ⟨rfl, rfl, rfl⟩
      ·
        refine g_icmpT X0 d44_17 (XT.ii_ne_t hk2) ?_
        have hn2 : k ≠ 2 := fun g => hk2 (by rw [g]; rfl)
        refine g_iloadN X0 d44_23 rfl ?_
        refine g_iconst X0 (3 : Int32) d44_24 (by decide) ?_
        by_cases hk3 : (Int32.ofNat k) = (3 : Int32)
        ·
          refine g_icmpF X0 d44_25 (XT.ii_ne_f hk3) ?_
          have hk' : k = 3 := (k_eqn (by omega) (by decide)).mp hk3
          subst hk'
          refine g_bipush X0 (123 : Int32) d44_28 (by decide) ?_
          exact g_ireturnI X0 d44_30 (by decide) (by decide) ⟨rfl, rfl, rfl⟩
        ·
          refine g_icmpT X0 d44_25 (XT.ii_ne_t hk3) ?_
          have hn3 : k ≠ 3 := fun g => hk3 (by rw [g]; rfl)
          refine g_iloadN X0 d44_31 rfl ?_
          refine g_iconst X0 (4 : Int32) d44_32 (by decide) ?_
          refine g_iloadN X0 d44_33 rfl ?_
          refine g_iadd X0 (Int32.ofNat (4 + nl.length)) d44_34 (k_add 4 _) ?_
          by_cases h4 : (Int32.ofNat k) < (Int32.ofNat (4 + nl.length))
          ·
            refine g_icmpF X0 d44_35 (XT.ii_ge_f h4) ?_
            have h4' := (k_litlt (by omega) (by omega)).mp h4
            refine g_aloadN X0 d44_38 rfl rfl ?_
            refine g_iloadN X0 d44_39 rfl ?_
            refine g_iconst X0 (4 : Int32) d44_40 (by decide) ?_
            refine g_isub X0 (Int32.ofNat (k - 4)) d44_41 (k_sub (j := 4) (by omega)) ?_
            refine g_iaload X0 d44_42 An (k - 4) rfl (v := .int (nl[k - 4]'(by omega))) (by rw [List.getElem?_append_left (by simp; omega)]; simp [show k - 4 < nl.length by omega]) ?_
            exact g_ireturnI X0 d44_43 (by decide) (by decide) ⟨by rw [gG_nm (by omega) (by omega)], rfl, rfl⟩
          ·
            refine g_icmpT X0 d44_35 (XT.ii_ge_t h4) ?_
            have h4' : 4 + nl.length ≤ k := Nat.not_lt.mp fun g => h4 ((k_litlt (by omega) (by omega)).mpr g)
            refine g_iloadN X0 d44_44 rfl ?_
            refine g_iconst X0 (4 : Int32) d44_45 (by decide) ?_
            refine g_iloadN X0 d44_46 rfl ?_
            refine g_iadd X0 (Int32.ofNat (4 + nl.length)) d44_47 (k_add 4 _) ?_
            by_cases h5 : (Int32.ofNat k) = (Int32.ofNat (4 + nl.length))
            ·
              refine g_icmpF X0 d44_48 (XT.ii_ne_f h5) ?_
              have h5' := (k_eqn (by omega) (by omega)).mp h5
              refine g_bipush X0 (125 : Int32) d44_51 (by decide) ?_
              exact g_ireturnI X0 d44_53 (by decide) (by decide) ⟨by rw [h5', gG_c], rfl, rfl⟩
            ·
              refine g_icmpT X0 d44_48 (XT.ii_ne_t h5) ?_
              have h5' : k ≠ 4 + nl.length := fun g => h5 (by rw [g])
              refine g_iloadN X0 d44_54 rfl ?_
              refine g_iconst X0 (5 : Int32) d44_55 (by decide) ?_
              refine g_iloadN X0 d44_56 rfl ?_
              refine g_iadd X0 (Int32.ofNat (5 + nl.length)) d44_57 (k_add 5 _) ?_
              by_cases h6 : (Int32.ofNat k) = (Int32.ofNat (5 + nl.length))
              ·
                refine g_icmpF X0 d44_58 (XT.ii_ne_f h6) ?_
                have h6' := (k_eqn (by omega) (by omega)).mp h6
                refine g_bipush X0 (58 : Int32) d44_61 (by decide) ?_
                exact g_ireturnI X0 d44_63 (by decide) (by decide) ⟨by rw [h6', gG_d], rfl, rfl⟩
              ·
                refine g_icmpT X0 d44_58 (XT.ii_ne_t h6) ?_
                have h6' : k ≠ 5 + nl.length := fun g => h6 (by rw [g])
                refine g_aloadN X0 d44_64 rfl rfl ?_
                refine g_iloadN X0 d44_65 rfl ?_
                refine g_bipush X0 (6 : Int32) d44_66 (by decide) ?_
                refine g_isub X0 (Int32.ofNat (k - 6)) d44_68 (k_sub (j := 6) (by omega)) ?_
                refine g_iloadN X0 d44_69 rfl ?_
                refine g_isub X0 (Int32.ofNat (k - 6 - nl.length)) d44_70 (k_sub (by omega)) ?_
                refine g_callVp X0 d44_71 (w337 hw) (w338 hw) (w340 hw) (w339 hw) (w2 hw) (w341 hw) (by decide) pd25 a [(.int (Int32.ofNat (k - 6 - nl.length)))] [] 0 E_a (c_charAtL hw hs a (k - 6 - nl.length) sf S (by omega) hc8) rfl rfl rfl (Nat.le_of_eq rfl) (by decide) (by decide) 0 0 rfl rfl (by decide) (by decide) fun T1 X1 => ?_
                exact g_ireturnI X1 d44_74 (by decide) (by decide) ⟨by rw [gG_s (by omega) (by omega)], rfl, rfl⟩
set_option maxRecDepth 65536 in
set_option maxHeartbeats 40000000 in
theorem c_at {nw : Bool} {l : Launch} {Z : State} {EL : List (String × Nat)} {a0 : Array Value} (hw : HW Z a0) (hs : Sts Z) {h0 : Heap} {B0 : BP} (r : Addr) (k : Nat) (m a : Addr) (nl sf R : List Int32) (An : Ay Z h0 m .int (nl.map Value.int ++ List.replicate (4 - nl.length) (Value.int 0))) (S : StrV Z h0 a 0 (sf.map lo8)) (hc8 : ∀ c ∈ sf, C8 c) (hn : nl.length ≤ 4) (hs8 : sf.length ≤ 7) (Ar : Ay Z h0 r .byte (R.map Value.int)) (hR : R.length = 6 + nl.length + sf.length) (hG : ∀ k (hk : k < R.length), R[k] &&& 255 = gG nl sf k) (hk : k < 2 ^ 31) :
    Con nw l Z EL (⟨"com/example/keen_queue/keenqueue/io/QueueKeysJobHashesPinLaw", "at", "([BI[IILjava/lang/String;)Z"⟩ : MethodName) method_5_code 5 (some .boolean) [] ({ frames := 5, cells := 0, slots := 0, locals := 69 } : Room) #[(.ref r), (.int (Int32.ofNat k)), (.ref m), (.int (Int32.ofNat nl.length)), (.ref a)] h0 B0 [] (PQ (some (.int (1 : Int32))) h0 B0) := by
  refine k_intro (Ls := #[.val (.ref r), .val (.int (Int32.ofNat k)), .val (.ref m), .val (.int (Int32.ofNat nl.length)), .val (.ref a)]) (by decide +kernel) rfl fun x T0 X0 => ?_
  have hl : R.length < 2 ^ 31 := by omega
  refine g_iloadN X0 d45_0 rfl ?_
  refine g_aloadN X0 d45_1 rfl rfl ?_
  refine g_arraylength X0 d45_2 Ar (Int32.ofNat R.length) (by simp) ?_
  by_cases hlt : (Int32.ofNat k) < (Int32.ofNat R.length)
  ·
    refine g_icmpF X0 d45_3 (XT.ii_ge_f hlt) ?_
    have hlt' := (k_litlt hk hl).mp hlt
    refine g_aloadN X0 d45_6 rfl rfl ?_
    refine g_iloadN X0 d45_7 rfl ?_
    refine g_baload X0 d45_8 Ar k rfl (v := .int R[k]) (by simp [hlt']) ?_
    refine g_sipush X0 (255 : Int32) d45_9 (by decide) ?_
    refine g_iand X0 (gG nl sf k) d45_12 (hG k hlt') ?_
    refine g_iloadN X0 d45_13 rfl ?_
    refine g_aloadN X0 d45_14 rfl rfl ?_
    refine g_iloadN X0 d45_15 rfl ?_
    refine g_aload X0 d45_16 rfl rfl ?_
    refine g_callSp X0 d45_18 (w334 hw) (w335 hw) (w29 hw) (w336 hw) (by decide) pd26 [(.int (Int32.ofNat k)), (.ref m), (.int (Int32.ofNat nl.length)), (.ref a)] [(.int (gG nl sf k))] 1 (c_exp hw hs k m a nl sf An S hc8 hn hs8 (by omega)) rfl rfl rfl (Nat.le_of_eq rfl) (by decide) (by decide) 0 0 rfl rfl (by decide) (by decide) fun T1 X1 => ?_
    refine g_icmpF X1 d45_21 (XT.ii_ne_f rfl) ?_
    refine g_iconst X1 (1 : Int32) d45_24 (by decide) ?_
    refine g_goto X1 d45_25 ?_
    exact g_ireturn (w' := (1 : Int32)) X1 d45_29 (Or.inl rfl) (by decide) (by decide) (by decide) ⟨rfl, rfl, rfl⟩
  ·
    refine g_icmpT X0 d45_3 (XT.ii_ge_t hlt) ?_
    refine g_iconst X0 (1 : Int32) d45_24 (by decide) ?_
    refine g_goto X0 d45_25 ?_
    exact g_ireturn (w' := (1 : Int32)) X0 d45_29 (Or.inl rfl) (by decide) (by decide) (by decide) ⟨rfl, rfl, rfl⟩
set_option maxRecDepth 65536 in
set_option maxHeartbeats 40000000 in
theorem c_check {nw : Bool} {l : Launch} {Z : State} {EL : List (String × Nat)} {a0 : Array Value} (hw : HW Z a0) (hs : Sts Z) {h0 : Heap} {B0 : BP} (r m a : Addr) (nl sf R : List Int32) (An : Ay Z h0 m .int (nl.map Value.int ++ List.replicate (4 - nl.length) (Value.int 0))) (S : StrV Z h0 a 0 (sf.map lo8)) (hc8 : ∀ c ∈ sf, C8 c) (hn : nl.length ≤ 4) (hs8 : sf.length ≤ 7) (Ar : Ay Z h0 r .byte (R.map Value.int)) (hR : R.length = 6 + nl.length + sf.length) (hG : ∀ k (hk : k < R.length), R[k] &&& 255 = gG nl sf k) :
    Con nw l Z EL (⟨"com/example/keen_queue/keenqueue/io/QueueKeysJobHashesPinLaw", "check", "([B[IILjava/lang/String;)Z"⟩ : MethodName) method_6_code 4 (some .boolean) [] ({ frames := 6, cells := 0, slots := 0, locals := 85 } : Room) #[(.ref r), (.ref m), (.int (Int32.ofNat nl.length)), (.ref a)] h0 B0 [] (PQ (some (.int (1 : Int32))) h0 B0) := by
  refine k_intro (Ls := #[.val (.ref r), .val (.ref m), .val (.int (Int32.ofNat nl.length)), .val (.ref a)]) (by decide +kernel) rfl fun x T0 X0 => ?_
  have E_a := S.exa'
  refine g_aloadN X0 d46_0 rfl rfl ?_
  refine g_ifnullF X0 d46_1 ?_
  refine g_aloadN X0 d46_4 rfl rfl ?_
  refine g_arraylength X0 d46_5 Ar (Int32.ofNat R.length) (by simp) ?_
  refine g_bipush X0 (6 : Int32) d46_6 (by decide) ?_
  refine g_iloadN X0 d46_8 rfl ?_
  refine g_iadd X0 (Int32.ofNat (6 + nl.length)) d46_9 (k_add 6 _) ?_
  refine g_aloadN X0 d46_10 rfl rfl ?_
  refine g_callVp X0 d46_11 (w330 hw) (w66 hw) (w68 hw) (w67 hw) (w2 hw) (w69 hw) (by decide) pd4 a [] [(.int (Int32.ofNat (6 + nl.length))), (.int (Int32.ofNat R.length))] 2 E_a (c_lengthL hw hs a _ S) rfl rfl rfl (Nat.le_of_eq rfl) (by decide) (by decide) 0 0 rfl rfl (by decide) (by decide) fun T1 X1 => ?_
  refine g_iadd X1 (Int32.ofNat R.length) d46_14 ((k_add _ _).trans (by rw [hR]; simp)) ?_
  refine g_icmpT X1 d46_15 (XT.ii_eq_t rfl) ?_
  refine g_aloadN X1 d46_20 rfl rfl ?_
  refine g_iconst X1 (0 : Int32) d46_21 (by decide) ?_
  refine g_aloadN X1 d46_22 rfl rfl ?_
  refine g_iloadN X1 d46_23 rfl ?_
  refine g_aloadN X1 d46_24 rfl rfl ?_
  refine g_callSp X1 d46_25 (w331 hw) (w332 hw) (w29 hw) (w333 hw) (by decide) pd27 [(.ref r), (.int (0 : Int32)), (.ref m), (.int (Int32.ofNat nl.length)), (.ref a)] [] 0 (c_at hw hs r 0 m a nl sf R An S hc8 hn hs8 Ar hR hG (by decide)) rfl rfl rfl (Nat.le_of_eq rfl) (by decide) (by decide) 0 0 rfl rfl (by decide) (by decide) fun T2 X2 => ?_
  refine g_ifF X2 d46_28 (by decide) ?_
  refine g_aloadN X2 d46_31 rfl rfl ?_
  refine g_iconst X2 (1 : Int32) d46_32 (by decide) ?_
  refine g_aloadN X2 d46_33 rfl rfl ?_
  refine g_iloadN X2 d46_34 rfl ?_
  refine g_aloadN X2 d46_35 rfl rfl ?_
  refine g_callSp X2 d46_36 (w331 hw) (w332 hw) (w29 hw) (w333 hw) (by decide) pd27 [(.ref r), (.int (1 : Int32)), (.ref m), (.int (Int32.ofNat nl.length)), (.ref a)] [] 0 (c_at hw hs r 1 m a nl sf R An S hc8 hn hs8 Ar hR hG (by decide)) rfl rfl rfl (Nat.le_of_eq rfl) (by decide) (by decide) 0 0 rfl rfl (by decide) (by decide) fun T3 X3 => ?_
  refine g_ifF X3 d46_39 (by decide) ?_
  refine g_aloadN X3 d46_42 rfl rfl ?_
  refine g_iconst X3 (2 : Int32) d46_43 (by decide) ?_
  refine g_aloadN X3 d46_44 rfl rfl ?_
  refine g_iloadN X3 d46_45 rfl ?_
  refine g_aloadN X3 d46_46 rfl rfl ?_
  refine g_callSp X3 d46_47 (w331 hw) (w332 hw) (w29 hw) (w333 hw) (by decide) pd27 [(.ref r), (.int (2 : Int32)), (.ref m), (.int (Int32.ofNat nl.length)), (.ref a)] [] 0 (c_at hw hs r 2 m a nl sf R An S hc8 hn hs8 Ar hR hG (by decide)) rfl rfl rfl (Nat.le_of_eq rfl) (by decide) (by decide) 0 0 rfl rfl (by decide) (by decide) fun T4 X4 => ?_
  refine g_ifF X4 d46_50 (by decide) ?_
  refine g_aloadN X4 d46_53 rfl rfl ?_
  refine g_iconst X4 (3 : Int32) d46_54 (by decide) ?_
  refine g_aloadN X4 d46_55 rfl rfl ?_
  refine g_iloadN X4 d46_56 rfl ?_
  refine g_aloadN X4 d46_57 rfl rfl ?_
  refine g_callSp X4 d46_58 (w331 hw) (w332 hw) (w29 hw) (w333 hw) (by decide) pd27 [(.ref r), (.int (3 : Int32)), (.ref m), (.int (Int32.ofNat nl.length)), (.ref a)] [] 0 (c_at hw hs r 3 m a nl sf R An S hc8 hn hs8 Ar hR hG (by decide)) rfl rfl rfl (Nat.le_of_eq rfl) (by decide) (by decide) 0 0 rfl rfl (by decide) (by decide) fun T5 X5 => ?_
  refine g_ifF X5 d46_61 (by decide) ?_
  refine g_aloadN X5 d46_64 rfl rfl ?_
  refine g_iconst X5 (4 : Int32) d46_65 (by decide) ?_
  refine g_aloadN X5 d46_66 rfl rfl ?_
  refine g_iloadN X5 d46_67 rfl ?_
  refine g_aloadN X5 d46_68 rfl rfl ?_
  refine g_callSp X5 d46_69 (w331 hw) (w332 hw) (w29 hw) (w333 hw) (by decide) pd27 [(.ref r), (.int (4 : Int32)), (.ref m), (.int (Int32.ofNat nl.length)), (.ref a)] [] 0 (c_at hw hs r 4 m a nl sf R An S hc8 hn hs8 Ar hR hG (by decide)) rfl rfl rfl (Nat.le_of_eq rfl) (by decide) (by decide) 0 0 rfl rfl (by decide) (by decide) fun T6 X6 => ?_
  refine g_ifF X6 d46_72 (by decide) ?_
  refine g_aloadN X6 d46_75 rfl rfl ?_
  refine g_iconst X6 (5 : Int32) d46_76 (by decide) ?_
  refine g_aloadN X6 d46_77 rfl rfl ?_
  refine g_iloadN X6 d46_78 rfl ?_
  refine g_aloadN X6 d46_79 rfl rfl ?_
  refine g_callSp X6 d46_80 (w331 hw) (w332 hw) (w29 hw) (w333 hw) (by decide) pd27 [(.ref r), (.int (5 : Int32)), (.ref m), (.int (Int32.ofNat nl.length)), (.ref a)] [] 0 (c_at hw hs r 5 m a nl sf R An S hc8 hn hs8 Ar hR hG (by decide)) rfl rfl rfl (Nat.le_of_eq rfl) (by decide) (by decide) 0 0 rfl rfl (by decide) (by decide) fun T7 X7 => ?_
  refine g_ifF X7 d46_83 (by decide) ?_
  refine g_aloadN X7 d46_86 rfl rfl ?_
  refine g_bipush X7 (6 : Int32) d46_87 (by decide) ?_
  refine g_aloadN X7 d46_89 rfl rfl ?_
  refine g_iloadN X7 d46_90 rfl ?_
  refine g_aloadN X7 d46_91 rfl rfl ?_
  refine g_callSp X7 d46_92 (w331 hw) (w332 hw) (w29 hw) (w333 hw) (by decide) pd27 [(.ref r), (.int (6 : Int32)), (.ref m), (.int (Int32.ofNat nl.length)), (.ref a)] [] 0 (c_at hw hs r 6 m a nl sf R An S hc8 hn hs8 Ar hR hG (by decide)) rfl rfl rfl (Nat.le_of_eq rfl) (by decide) (by decide) 0 0 rfl rfl (by decide) (by decide) fun T8 X8 => ?_
  refine g_ifF X8 d46_95 (by decide) ?_
  refine g_aloadN X8 d46_98 rfl rfl ?_
  refine g_bipush X8 (7 : Int32) d46_99 (by decide) ?_
  refine g_aloadN X8 d46_101 rfl rfl ?_
  refine g_iloadN X8 d46_102 rfl ?_
  refine g_aloadN X8 d46_103 rfl rfl ?_
  refine g_callSp X8 d46_104 (w331 hw) (w332 hw) (w29 hw) (w333 hw) (by decide) pd27 [(.ref r), (.int (7 : Int32)), (.ref m), (.int (Int32.ofNat nl.length)), (.ref a)] [] 0 (c_at hw hs r 7 m a nl sf R An S hc8 hn hs8 Ar hR hG (by decide)) rfl rfl rfl (Nat.le_of_eq rfl) (by decide) (by decide) 0 0 rfl rfl (by decide) (by decide) fun T9 X9 => ?_
  refine g_ifF X9 d46_107 (by decide) ?_
  refine g_aloadN X9 d46_110 rfl rfl ?_
  refine g_bipush X9 (8 : Int32) d46_111 (by decide) ?_
  refine g_aloadN X9 d46_113 rfl rfl ?_
  refine g_iloadN X9 d46_114 rfl ?_
  refine g_aloadN X9 d46_115 rfl rfl ?_
  refine g_callSp X9 d46_116 (w331 hw) (w332 hw) (w29 hw) (w333 hw) (by decide) pd27 [(.ref r), (.int (8 : Int32)), (.ref m), (.int (Int32.ofNat nl.length)), (.ref a)] [] 0 (c_at hw hs r 8 m a nl sf R An S hc8 hn hs8 Ar hR hG (by decide)) rfl rfl rfl (Nat.le_of_eq rfl) (by decide) (by decide) 0 0 rfl rfl (by decide) (by decide) fun T10 X10 => ?_
  refine g_ifF X10 d46_119 (by decide) ?_
  refine g_aloadN X10 d46_122 rfl rfl ?_
  refine g_bipush X10 (9 : Int32) d46_123 (by decide) ?_
  refine g_aloadN X10 d46_125 rfl rfl ?_
  refine g_iloadN X10 d46_126 rfl ?_
  refine g_aloadN X10 d46_127 rfl rfl ?_
  refine g_callSp X10 d46_128 (w331 hw) (w332 hw) (w29 hw) (w333 hw) (by decide) pd27 [(.ref r), (.int (9 : Int32)), (.ref m), (.int (Int32.ofNat nl.length)), (.ref a)] [] 0 (c_at hw hs r 9 m a nl sf R An S hc8 hn hs8 Ar hR hG (by decide)) rfl rfl rfl (Nat.le_of_eq rfl) (by decide) (by decide) 0 0 rfl rfl (by decide) (by decide) fun T11 X11 => ?_
  refine g_ifF X11 d46_131 (by decide) ?_
  refine g_aloadN X11 d46_134 rfl rfl ?_
  refine g_bipush X11 (10 : Int32) d46_135 (by decide) ?_
  refine g_aloadN X11 d46_137 rfl rfl ?_
  refine g_iloadN X11 d46_138 rfl ?_
  refine g_aloadN X11 d46_139 rfl rfl ?_
  refine g_callSp X11 d46_140 (w331 hw) (w332 hw) (w29 hw) (w333 hw) (by decide) pd27 [(.ref r), (.int (10 : Int32)), (.ref m), (.int (Int32.ofNat nl.length)), (.ref a)] [] 0 (c_at hw hs r 10 m a nl sf R An S hc8 hn hs8 Ar hR hG (by decide)) rfl rfl rfl (Nat.le_of_eq rfl) (by decide) (by decide) 0 0 rfl rfl (by decide) (by decide) fun T12 X12 => ?_
  refine g_ifF X12 d46_143 (by decide) ?_
  refine g_aloadN X12 d46_146 rfl rfl ?_
  refine g_bipush X12 (11 : Int32) d46_147 (by decide) ?_
  refine g_aloadN X12 d46_149 rfl rfl ?_
  refine g_iloadN X12 d46_150 rfl ?_
  refine g_aloadN X12 d46_151 rfl rfl ?_
  refine g_callSp X12 d46_152 (w331 hw) (w332 hw) (w29 hw) (w333 hw) (by decide) pd27 [(.ref r), (.int (11 : Int32)), (.ref m), (.int (Int32.ofNat nl.length)), (.ref a)] [] 0 (c_at hw hs r 11 m a nl sf R An S hc8 hn hs8 Ar hR hG (by decide)) rfl rfl rfl (Nat.le_of_eq rfl) (by decide) (by decide) 0 0 rfl rfl (by decide) (by decide) fun T13 X13 => ?_
  refine g_ifF X13 d46_155 (by decide) ?_
  refine g_aloadN X13 d46_158 rfl rfl ?_
  refine g_bipush X13 (12 : Int32) d46_159 (by decide) ?_
  refine g_aloadN X13 d46_161 rfl rfl ?_
  refine g_iloadN X13 d46_162 rfl ?_
  refine g_aloadN X13 d46_163 rfl rfl ?_
  refine g_callSp X13 d46_164 (w331 hw) (w332 hw) (w29 hw) (w333 hw) (by decide) pd27 [(.ref r), (.int (12 : Int32)), (.ref m), (.int (Int32.ofNat nl.length)), (.ref a)] [] 0 (c_at hw hs r 12 m a nl sf R An S hc8 hn hs8 Ar hR hG (by decide)) rfl rfl rfl (Nat.le_of_eq rfl) (by decide) (by decide) 0 0 rfl rfl (by decide) (by decide) fun T14 X14 => ?_
  refine g_ifF X14 d46_167 (by decide) ?_
  refine g_aloadN X14 d46_170 rfl rfl ?_
  refine g_bipush X14 (13 : Int32) d46_171 (by decide) ?_
  refine g_aloadN X14 d46_173 rfl rfl ?_
  refine g_iloadN X14 d46_174 rfl ?_
  refine g_aloadN X14 d46_175 rfl rfl ?_
  refine g_callSp X14 d46_176 (w331 hw) (w332 hw) (w29 hw) (w333 hw) (by decide) pd27 [(.ref r), (.int (13 : Int32)), (.ref m), (.int (Int32.ofNat nl.length)), (.ref a)] [] 0 (c_at hw hs r 13 m a nl sf R An S hc8 hn hs8 Ar hR hG (by decide)) rfl rfl rfl (Nat.le_of_eq rfl) (by decide) (by decide) 0 0 rfl rfl (by decide) (by decide) fun T15 X15 => ?_
  refine g_ifF X15 d46_179 (by decide) ?_
  refine g_aloadN X15 d46_182 rfl rfl ?_
  refine g_bipush X15 (14 : Int32) d46_183 (by decide) ?_
  refine g_aloadN X15 d46_185 rfl rfl ?_
  refine g_iloadN X15 d46_186 rfl ?_
  refine g_aloadN X15 d46_187 rfl rfl ?_
  refine g_callSp X15 d46_188 (w331 hw) (w332 hw) (w29 hw) (w333 hw) (by decide) pd27 [(.ref r), (.int (14 : Int32)), (.ref m), (.int (Int32.ofNat nl.length)), (.ref a)] [] 0 (c_at hw hs r 14 m a nl sf R An S hc8 hn hs8 Ar hR hG (by decide)) rfl rfl rfl (Nat.le_of_eq rfl) (by decide) (by decide) 0 0 rfl rfl (by decide) (by decide) fun T16 X16 => ?_
  refine g_ifF X16 d46_191 (by decide) ?_
  refine g_aloadN X16 d46_194 rfl rfl ?_
  refine g_bipush X16 (15 : Int32) d46_195 (by decide) ?_
  refine g_aloadN X16 d46_197 rfl rfl ?_
  refine g_iloadN X16 d46_198 rfl ?_
  refine g_aloadN X16 d46_199 rfl rfl ?_
  refine g_callSp X16 d46_200 (w331 hw) (w332 hw) (w29 hw) (w333 hw) (by decide) pd27 [(.ref r), (.int (15 : Int32)), (.ref m), (.int (Int32.ofNat nl.length)), (.ref a)] [] 0 (c_at hw hs r 15 m a nl sf R An S hc8 hn hs8 Ar hR hG (by decide)) rfl rfl rfl (Nat.le_of_eq rfl) (by decide) (by decide) 0 0 rfl rfl (by decide) (by decide) fun T17 X17 => ?_
  refine g_ifF X17 d46_203 (by decide) ?_
  refine g_aloadN X17 d46_206 rfl rfl ?_
  refine g_bipush X17 (16 : Int32) d46_207 (by decide) ?_
  refine g_aloadN X17 d46_209 rfl rfl ?_
  refine g_iloadN X17 d46_210 rfl ?_
  refine g_aloadN X17 d46_211 rfl rfl ?_
  refine g_callSp X17 d46_212 (w331 hw) (w332 hw) (w29 hw) (w333 hw) (by decide) pd27 [(.ref r), (.int (16 : Int32)), (.ref m), (.int (Int32.ofNat nl.length)), (.ref a)] [] 0 (c_at hw hs r 16 m a nl sf R An S hc8 hn hs8 Ar hR hG (by decide)) rfl rfl rfl (Nat.le_of_eq rfl) (by decide) (by decide) 0 0 rfl rfl (by decide) (by decide) fun T18 X18 => ?_
  refine g_ifF X18 d46_215 (by decide) ?_
  refine g_iconst X18 (1 : Int32) d46_218 (by decide) ?_
  refine g_goto X18 d46_219 ?_
  exact g_ireturn (w' := (1 : Int32)) X18 d46_223 (Or.inl rfl) (by decide) (by decide) (by decide) ⟨rfl, rfl, rfl⟩
set_option maxRecDepth 65536 in
set_option maxHeartbeats 40000000 in
theorem c_acInit {nw : Bool} {l : Launch} {Z : State} {EL : List (String × Nat)} {a0 : Array Value} (hw : HW Z a0) (hs : Sts Z) {h0 : Heap} {B0 : BP} (a : Addr)  :
    Con nw l Z EL (⟨"java/util/AbstractCollection", "<init>", "()V"⟩ : MethodName) jdk_22_method_1_code 1 none [] ({ frames := 1, cells := 0, slots := 0, locals := 12 } : Room) #[(.ref a)] h0 B0 [] (PQ none h0 B0) := by
  refine k_intro (Ls := #[.val (.ref a)]) (by decide +kernel) rfl fun x T0 X0 => ?_
  refine g_aloadN X0 d47_0 rfl rfl ?_
  refine g_init X0 d47_1 rfl rfl (w303 hw) (w20 hw) (w21 hw) 0 rfl (by decide) (Nat.le_of_eq rfl) (by decide) fun T1 X1 => ?_
  exact g_return X1 d47_4 (by decide) (by decide) ⟨rfl, rfl, rfl⟩
set_option maxRecDepth 65536 in
set_option maxHeartbeats 40000000 in
theorem c_aicInit {nw : Bool} {l : Launch} {Z : State} {EL : List (String × Nat)} {a0 : Array Value} (hw : HW Z a0) (hs : Sts Z) {h0 : Heap} {B0 : BP} (a : Addr)  :
    Con nw l Z EL (⟨"java/util/ImmutableCollections$AbstractImmutableCollection", "<init>", "()V"⟩ : MethodName) jdk_47_method_1_code 1 none [] ({ frames := 2, cells := 0, slots := 0, locals := 24 } : Room) #[(.ref a)] h0 B0 [] (PQ none h0 B0) := by
  refine k_intro (Ls := #[.val (.ref a)]) (by decide +kernel) rfl fun x T0 X0 => ?_
  refine g_aloadN X0 d48_0 rfl rfl ?_
  refine g_callIp0 X0 d48_1 (w297 hw) (w298 hw) (w301 hw) (w302 hw) rfl (by decide) pd28 a [] [] 0 (c_acInit hw hs a) rfl rfl rfl (Nat.le_of_eq rfl) (by decide) (by decide) 0 0 rfl rfl (by decide) (by decide) fun T1 X1 => ?_
  exact g_return X1 d48_4 (by decide) (by decide) ⟨rfl, rfl, rfl⟩
set_option maxRecDepth 65536 in
set_option maxHeartbeats 40000000 in
theorem c_ailInit {nw : Bool} {l : Launch} {Z : State} {EL : List (String × Nat)} {a0 : Array Value} (hw : HW Z a0) (hs : Sts Z) {h0 : Heap} {B0 : BP} (a : Addr)  :
    Con nw l Z EL (⟨"java/util/ImmutableCollections$AbstractImmutableList", "<init>", "()V"⟩ : MethodName) jdk_46_method_1_code 1 none [] ({ frames := 3, cells := 0, slots := 0, locals := 36 } : Room) #[(.ref a)] h0 B0 [] (PQ none h0 B0) := by
  refine k_intro (Ls := #[.val (.ref a)]) (by decide +kernel) rfl fun x T0 X0 => ?_
  refine g_aloadN X0 d49_0 rfl rfl ?_
  refine g_callIp0 X0 d49_1 (w291 hw) (w292 hw) (w295 hw) (w296 hw) rfl (by decide) pd28 a [] [] 0 (c_aicInit hw hs a) rfl rfl rfl (Nat.le_of_eq rfl) (by decide) (by decide) 0 0 rfl rfl (by decide) (by decide) fun T1 X1 => ?_
  exact g_return X1 d49_4 (by decide) (by decide) ⟨rfl, rfl, rfl⟩
set_option maxRecDepth 65536 in
set_option maxHeartbeats 40000000 in
theorem c_lnInit {nw : Bool} {l : Launch} {Z : State} {EL : List (String × Nat)} {a0 : Array Value} (hw : HW Z a0) (hs : Sts Z) {h0 : Heap} {B0 : BP} (a e : Addr) (E_a : Exa Z h0 a "java/util/ImmutableCollections$ListN") {ua : Value} (F1 : Fld Z h0 a "java/util/ImmutableCollections$ListN" "elements" "[Ljava/lang/Object;" ua) {ub : Value} (F2 : Fld Z h0 a "java/util/ImmutableCollections$ListN" "allowNulls" "Z" ub) (nb_a : ¬ B0 a) (zl_a : Z.heap.size ≤ a)  :
    Con nw l Z EL (⟨"java/util/ImmutableCollections$ListN", "<init>", "([Ljava/lang/Object;Z)V"⟩ : MethodName) jdk_45_method_1_code 3 none [] ({ frames := 4, cells := 0, slots := 0, locals := 48 } : Room) #[(.ref a), (.ref e), (.int (0 : Int32))] h0 B0 [a] (fun v h B => v = none ∧ B0 = B ∧ Exa Z h a "java/util/ImmutableCollections$ListN" ∧ Fld Z h a "java/util/ImmutableCollections$ListN" "elements" "[Ljava/lang/Object;" (.ref e)) := by
  refine k_intro (Ls := #[.val (.ref a), .val (.ref e), .val (.int (0 : Int32))]) (by decide +kernel) rfl fun x T0 X0 => ?_
  have lt_a := k_ltE E_a
  refine g_aloadN X0 d50_0 rfl rfl ?_
  refine g_callIp0 X0 d50_1 (w285 hw) (w286 hw) (w289 hw) (w290 hw) rfl (by decide) pd28 a [] [] 0 (c_ailInit hw hs a) rfl rfl rfl (Nat.le_of_eq rfl) (by decide) (by decide) 0 0 rfl rfl (by decide) (by decide) fun T1 X1 => ?_
  refine g_aloadN X1 d50_4 rfl rfl ?_
  refine g_aloadN X1 d50_5 rfl rfl ?_
  refine g_putfield X1 d50_6 (w304 hw) Via.refl F1 E_a (Or.inr ⟨(w305 hw), rfl, rfl⟩) (w279 hw) (ty := (.array (.object "java/lang/Object"))) (v' := (.ref e)) (by decide) rfl rfl nb_a zl_a (Or.inl (List.mem_of_getElem? (i := 0) rfl)) fun T2 h2 X2 W2 => ?_
  have z2 := W2.size; have Fw2 := F1.same W2
  refine g_aloadN X2 d50_9 rfl rfl ?_
  refine g_iloadN X2 d50_10 rfl ?_
  have F3 := (F2.other W2 (Or.inr (slot_ne (Or.inr (w307 hw)) (Or.inr (w305 hw)) (by decide) (t := .boolean) (t' := (.array (.object "java/lang/Object"))) (by decide) (by decide))))
  have E_4 := (E_a.wr W2)
  refine g_putfield X2 d50_11 (w306 hw) Via.refl F3 E_4 (Or.inr ⟨(w307 hw), rfl, rfl⟩) (w279 hw) (ty := .boolean) (v' := (.int (0 : Int32))) (by decide) rfl rfl nb_a zl_a (Or.inl (List.mem_of_getElem? (i := 0) rfl)) fun T5 h5 X5 W5 => ?_
  have z5 := W5.size; have Fw5 := F3.same W5
  have E_6 := (E_4.wr W5)
  have F7 := (Fw2.other W5 (Or.inr (slot_ne (Or.inr (w305 hw)) (Or.inr (w307 hw)) (by decide) (t := (.array (.object "java/lang/Object"))) (t' := .boolean) (by decide) (by decide))))
  exact g_return X5 d50_14 (by decide) (by decide) ⟨rfl, rfl, E_6, F7⟩
set_option maxRecDepth 65536 in
set_option maxHeartbeats 40000000 in
theorem c_lnSize {nw : Bool} {l : Launch} {Z : State} {EL : List (String × Nat)} {a0 : Array Value} (hw : HW Z a0) (hs : Sts Z) {h0 : Heap} {B0 : BP} (a e : Addr) (vs : List Value) (F : Fld Z h0 a "java/util/ImmutableCollections$ListN" "elements" "[Ljava/lang/Object;" (.ref e)) (A : Ay Z h0 e (.object "java/lang/Object") vs) (h5 : vs.length = 5) :
    Con nw l Z EL (⟨"java/util/ImmutableCollections$ListN", "size", "()I"⟩ : MethodName) jdk_45_method_3_code 1 (some .int) [] ({ frames := 0, cells := 0, slots := 0, locals := 0 } : Room) #[(.ref a)] h0 B0 [] (PQ (some (.int (5 : Int32))) h0 B0) := by
  refine k_intro (Ls := #[.val (.ref a)]) (by decide +kernel) rfl fun x T0 X0 => ?_
  refine g_aloadN X0 d51_0 rfl rfl ?_
  refine g_getfield X0 d51_1 (w304 hw) Via.refl F fun T1 X1 => ?_
  refine g_arraylength X1 d51_4 A (5 : Int32) (by rw [h5]; rfl) ?_
  exact g_ireturnI X1 d51_5 (by decide) (by decide) ⟨rfl, rfl, rfl⟩
set_option maxRecDepth 65536 in
set_option maxHeartbeats 40000000 in
theorem c_lnGet {nw : Bool} {l : Launch} {Z : State} {EL : List (String × Nat)} {a0 : Array Value} (hw : HW Z a0) (hs : Sts Z) {h0 : Heap} {B0 : BP} (a e r : Addr) (i : Nat) (vs : List Value) (F : Fld Z h0 a "java/util/ImmutableCollections$ListN" "elements" "[Ljava/lang/Object;" (.ref e)) (A : Ay Z h0 e (.object "java/lang/Object") vs) (hi : vs[i]? = some (.ref r)) :
    Con nw l Z EL (⟨"java/util/ImmutableCollections$ListN", "get", "(I)Ljava/lang/Object;"⟩ : MethodName) jdk_45_method_4_code 2 (some (.object "java/lang/Object")) [] ({ frames := 0, cells := 0, slots := 0, locals := 0 } : Room) #[(.ref a), (.int (Int32.ofNat i))] h0 B0 [] (PQ (some (.ref r)) h0 B0) := by
  refine k_intro (Ls := #[.val (.ref a), .val (.int (Int32.ofNat i))]) (by decide +kernel) rfl fun x T0 X0 => ?_
  refine g_aloadN X0 d52_0 rfl rfl ?_
  refine g_getfield X0 d52_1 (w304 hw) Via.refl F fun T1 X1 => ?_
  refine g_iloadN X1 d52_4 rfl ?_
  refine g_aaload X1 d52_5 rfl A i rfl hi ?_
  exact g_areturn X1 d52_6 rfl rfl rfl (by decide) (by decide) ⟨rfl, rfl, rfl⟩
set_option maxRecDepth 65536 in
set_option maxHeartbeats 40000000 in
theorem c_trusted {nw : Bool} {l : Launch} {Z : State} {EL : List (String × Nat)} {a0 : Array Value} (hw : HW Z a0) (hs : Sts Z) {h0 : Heap} {B0 : BP} (e ra rb rc rd re : Addr) (A : Ay Z h0 e (.object "java/lang/Object") [.ref ra, .ref rb, .ref rc, .ref rd, .ref re]) :
    Con nw l Z EL (⟨"java/util/ImmutableCollections", "listFromTrustedArray", "([Ljava/lang/Object;)Ljava/util/List;"⟩ : MethodName) jdk_56_method_5_code 5 (some (.object "java/util/List")) [] ({ frames := 5, cells := 1, slots := 2, locals := 63 } : Room) #[(.ref e)] h0 B0 [] (fun v h B => ∃ a, v = some (.ref a) ∧ B0 = B ∧ h0.size ≤ a ∧ ¬ B a ∧ Exa Z h a "java/util/ImmutableCollections$ListN" ∧ Fld Z h a "java/util/ImmutableCollections$ListN" "elements" "[Ljava/lang/Object;" (.ref e)) := by
  refine k_intro (Ls := #[.val (.ref e), .unset, .unset, .unset, .unset]) (by decide +kernel) rfl fun x T0 X0 => ?_
  have sAD := hs.2.2.2.1
  have lt_e := A.lt
  refine g_getstatic X0 d53_0 (w274 hw) Via.refl sAD fun T1 X1 => ?_
  refine g_ifT X1 d53_3 (by decide) ?_
  refine g_aloadN X1 d53_23 rfl rfl ?_
  refine g_astoreN X1 #[.val (.ref e), .val (.ref e), .unset, .unset, .unset] d53_24 rfl rfl ?_
  refine g_aloadN X1 d53_25 rfl rfl ?_
  refine g_arraylength X1 d53_26 A (5 : Int32) rfl ?_
  refine g_istoreN X1 #[.val (.ref e), .val (.ref e), .val (.int (5 : Int32)), .unset, .unset] d53_27 rfl ?_
  refine g_iconst X1 (0 : Int32) d53_28 (by decide) ?_
  refine g_istoreN X1 #[.val (.ref e), .val (.ref e), .val (.int (5 : Int32)), .val (.int (0 : Int32)), .unset] d53_29 rfl ?_
  refine g_iloadN X1 d53_30 rfl ?_
  refine g_iloadN X1 d53_31 rfl ?_
  refine g_icmpF X1 d53_32 (by decide) ?_
  refine g_aloadN X1 d53_35 rfl rfl ?_
  refine g_iloadN X1 d53_36 rfl ?_
  refine g_aaload X1 d53_37 rfl A 0 (by decide) (by rfl) ?_
  refine g_astore X1 #[.val (.ref e), .val (.ref e), .val (.int (5 : Int32)), .val (.int (0 : Int32)), .val (.ref ra)] d53_38 rfl rfl ?_
  refine g_aload X1 d53_40 rfl rfl ?_
  refine g_callSp X1 d53_42 (w275 hw) (w276 hw) (w43 hw) (w277 hw) (by decide) pd29 [(.ref ra)] [] 0 (c_reqNN1 hw hs ra) rfl rfl rfl (Nat.le_of_eq rfl) (by decide) (by decide) 0 0 rfl rfl (by decide) (by decide) fun T2 X2 => ?_
  refine g_pop X2 d53_45 rfl ?_
  refine g_iinc X2 #[.val (.ref e), .val (.ref e), .val (.int (5 : Int32)), .val (.int (1 : Int32)), .val (.ref ra)] d53_46 rfl (by decide) rfl ?_
  refine g_goto X2 d53_49 ?_
  refine g_iloadN X2 d53_30 rfl ?_
  refine g_iloadN X2 d53_31 rfl ?_
  refine g_icmpF X2 d53_32 (by decide) ?_
  refine g_aloadN X2 d53_35 rfl rfl ?_
  refine g_iloadN X2 d53_36 rfl ?_
  refine g_aaload X2 d53_37 rfl A 1 (by decide) (by rfl) ?_
  refine g_astore X2 #[.val (.ref e), .val (.ref e), .val (.int (5 : Int32)), .val (.int (1 : Int32)), .val (.ref rb)] d53_38 rfl rfl ?_
  refine g_aload X2 d53_40 rfl rfl ?_
  refine g_callSp X2 d53_42 (w275 hw) (w276 hw) (w43 hw) (w277 hw) (by decide) pd29 [(.ref rb)] [] 0 (c_reqNN1 hw hs rb) rfl rfl rfl (Nat.le_of_eq rfl) (by decide) (by decide) 0 0 rfl rfl (by decide) (by decide) fun T3 X3 => ?_
  refine g_pop X3 d53_45 rfl ?_
  refine g_iinc X3 #[.val (.ref e), .val (.ref e), .val (.int (5 : Int32)), .val (.int (2 : Int32)), .val (.ref rb)] d53_46 rfl (by decide) rfl ?_
  refine g_goto X3 d53_49 ?_
  refine g_iloadN X3 d53_30 rfl ?_
  refine g_iloadN X3 d53_31 rfl ?_
  refine g_icmpF X3 d53_32 (by decide) ?_
  refine g_aloadN X3 d53_35 rfl rfl ?_
  refine g_iloadN X3 d53_36 rfl ?_
  refine g_aaload X3 d53_37 rfl A 2 (by decide) (by rfl) ?_
  refine g_astore X3 #[.val (.ref e), .val (.ref e), .val (.int (5 : Int32)), .val (.int (2 : Int32)), .val (.ref rc)] d53_38 rfl rfl ?_
  refine g_aload X3 d53_40 rfl rfl ?_
  refine g_callSp X3 d53_42 (w275 hw) (w276 hw) (w43 hw) (w277 hw) (by decide) pd29 [(.ref rc)] [] 0 (c_reqNN1 hw hs rc) rfl rfl rfl (Nat.le_of_eq rfl) (by decide) (by decide) 0 0 rfl rfl (by decide) (by decide) fun T4 X4 => ?_
  refine g_pop X4 d53_45 rfl ?_
  refine g_iinc X4 #[.val (.ref e), .val (.ref e), .val (.int (5 : Int32)), .val (.int (3 : Int32)), .val (.ref rc)] d53_46 rfl (by decide) rfl ?_
  refine g_goto X4 d53_49 ?_
  refine g_iloadN X4 d53_30 rfl ?_
  refine g_iloadN X4 d53_31 rfl ?_
  refine g_icmpF X4 d53_32 (by decide) ?_
  refine g_aloadN X4 d53_35 rfl rfl ?_
  refine g_iloadN X4 d53_36 rfl ?_
  refine g_aaload X4 d53_37 rfl A 3 (by decide) (by rfl) ?_
  refine g_astore X4 #[.val (.ref e), .val (.ref e), .val (.int (5 : Int32)), .val (.int (3 : Int32)), .val (.ref rd)] d53_38 rfl rfl ?_
  refine g_aload X4 d53_40 rfl rfl ?_
  refine g_callSp X4 d53_42 (w275 hw) (w276 hw) (w43 hw) (w277 hw) (by decide) pd29 [(.ref rd)] [] 0 (c_reqNN1 hw hs rd) rfl rfl rfl (Nat.le_of_eq rfl) (by decide) (by decide) 0 0 rfl rfl (by decide) (by decide) fun T5 X5 => ?_
  refine g_pop X5 d53_45 rfl ?_
  refine g_iinc X5 #[.val (.ref e), .val (.ref e), .val (.int (5 : Int32)), .val (.int (4 : Int32)), .val (.ref rd)] d53_46 rfl (by decide) rfl ?_
  refine g_goto X5 d53_49 ?_
  refine g_iloadN X5 d53_30 rfl ?_
  refine g_iloadN X5 d53_31 rfl ?_
  refine g_icmpF X5 d53_32 (by decide) ?_
  refine g_aloadN X5 d53_35 rfl rfl ?_
  refine g_iloadN X5 d53_36 rfl ?_
  refine g_aaload X5 d53_37 rfl A 4 (by decide) (by rfl) ?_
  refine g_astore X5 #[.val (.ref e), .val (.ref e), .val (.int (5 : Int32)), .val (.int (4 : Int32)), .val (.ref re)] d53_38 rfl rfl ?_
  refine g_aload X5 d53_40 rfl rfl ?_
  refine g_callSp X5 d53_42 (w275 hw) (w276 hw) (w43 hw) (w277 hw) (by decide) pd29 [(.ref re)] [] 0 (c_reqNN1 hw hs re) rfl rfl rfl (Nat.le_of_eq rfl) (by decide) (by decide) 0 0 rfl rfl (by decide) (by decide) fun T6 X6 => ?_
  refine g_pop X6 d53_45 rfl ?_
  refine g_iinc X6 #[.val (.ref e), .val (.ref e), .val (.int (5 : Int32)), .val (.int (5 : Int32)), .val (.ref re)] d53_46 rfl (by decide) rfl ?_
  refine g_goto X6 d53_49 ?_
  refine g_iloadN X6 d53_30 rfl ?_
  refine g_iloadN X6 d53_31 rfl ?_
  refine g_icmpT X6 d53_32 (by decide) ?_
  refine g_aloadN X6 d53_52 rfl rfl ?_
  refine g_arraylength X6 d53_53 A (5 : Int32) rfl ?_
  refine g_tswO X6 dsw1 (i := 5) (pc' := 115) (by decide) (by decide) (by decide) ?_
  refine g_new X6 d53_115 (w278 hw) (w279 hw) (w280 hw) 1 2 rfl rfl (by decide) (by decide) fun T7 h7 b7 X7 E7 eb7 nb7 Ex7 D7 => ?_
  have z7 := E7.1; have lt7 : @LT.lt Nat _ b7 h7.size := Ex7.lt; have zl7 : @LE.le Nat _ Z.heap.size b7 := eb7 ▸ X6.szZ; have fr7 : @LE.le Nat _ h0.size b7 := eb7 ▸ X6.sz
  have F7_elements : Fld Z h7 b7 "java/util/ImmutableCollections$ListN" "elements" "[Ljava/lang/Object;" .null := D7 (Or.inr (w305 hw)) (ty := (.array (.object "java/lang/Object"))) (by decide)
  have F7_allowNulls : Fld Z h7 b7 "java/util/ImmutableCollections$ListN" "allowNulls" "Z" (.int (0 : Int32)) := D7 (Or.inr (w307 hw)) (ty := .boolean) (by decide)
  refine g_dup X7 d53_118 rfl ?_
  refine g_aloadN X7 d53_119 rfl rfl ?_
  refine g_iconst X7 (0 : Int32) d53_120 (by decide) ?_
  refine g_callN X7 d53_121 (w281 hw) (w282 hw) (w280 hw) (w284 hw) rfl (by decide) pd30 b7 [(.ref e), (.int (0 : Int32))] [(.ref b7)] 1 (c_lnInit hw hs b7 e Ex7 F7_elements F7_allowNulls nb7 zl7) rfl rfl rfl (Nat.le_of_eq rfl) (by decide) (by decide) 1 2 rfl rfl (by decide) (by decide) (k_ws1 ⟨nb7, zl7, (Or.inr fr7)⟩) fun v8 T8 h8 B8 X8 K8 M8 q8 => ?_
  obtain ⟨rfl, rfl, R⟩ := q8
  have z8 := K8.1
  show Go x (T8.setTop (mkF x.m 124 #[.val (.ref e), .val (.ref e), .val (.int (5 : Int32)), .val (.int (5 : Int32)), .val (.ref re)] [(.ref b7)]))
  exact g_areturn X8 d53_124 rfl rfl rfl (by decide) (by decide) ⟨_, rfl, rfl, fr7, nb7, R⟩
set_option maxRecDepth 65536 in
set_option maxHeartbeats 40000000 in
theorem c_listOf {nw : Bool} {l : Launch} {Z : State} {EL : List (String × Nat)} {a0 : Array Value} (hw : HW Z a0) (hs : Sts Z) {h0 : Heap} {B0 : BP} (ra rb rc rd re : Addr) (E_ra : Exa Z h0 ra "[B") (E_rb : Exa Z h0 rb "[B") (E_rc : Exa Z h0 rc "[B") (E_rd : Exa Z h0 rd "[B") (E_re : Exa Z h0 re "[B") :
    Con nw l Z EL (⟨"java/util/List", "of", "(Ljava/lang/Object;Ljava/lang/Object;Ljava/lang/Object;Ljava/lang/Object;Ljava/lang/Object;)Ljava/util/List;"⟩ : MethodName) jdk_40_method_41_code 5 (some (.object "java/util/List")) [] ({ frames := 6, cells := 2, slots := 7, locals := 79 } : Room) #[(.ref ra), (.ref rb), (.ref rc), (.ref rd), (.ref re)] h0 B0 [] (fun v h B => ∃ a e, v = some (.ref a) ∧ B0 = B ∧ h0.size ≤ a ∧ ¬ B a ∧ Exa Z h a "java/util/ImmutableCollections$ListN" ∧ Fld Z h a "java/util/ImmutableCollections$ListN" "elements" "[Ljava/lang/Object;" (.ref e) ∧ h0.size ≤ e ∧ Ay Z h e (.object "java/lang/Object") [.ref ra, .ref rb, .ref rc, .ref rd, .ref re]) := by
  refine k_intro (Ls := #[.val (.ref ra), .val (.ref rb), .val (.ref rc), .val (.ref rd), .val (.ref re)]) (by decide +kernel) rfl fun x T0 X0 => ?_
  refine g_iconst X0 (5 : Int32) d54_0 (by decide) ?_
  refine g_anewarray X0 d54_1 (ad := "[Ljava/lang/Object;") (by decide) (w267 hw) (w268 hw) 5 5 rfl (Nat.le_refl _) (by decide) 1 5 rfl rfl (by decide) (by decide) fun T1 h1 b1 X1 E1 eb1 nb1 A1 Ea1 => ?_
  have z1 := E1.1; have lt1 : @LT.lt Nat _ b1 h1.size := A1.lt; have zl1 : @LE.le Nat _ Z.heap.size b1 := eb1 ▸ X0.szZ; have fr1 : @LE.le Nat _ h0.size b1 := eb1 ▸ X0.sz
  refine g_dup X1 d54_4 rfl ?_
  refine g_iconst X1 (0 : Int32) d54_5 (by decide) ?_
  refine g_aloadN X1 d54_6 rfl rfl ?_
  have E_3 := (E_ra.ext E1)
  refine g_aastore X1 d54_7 A1 Ea1 (by decide) (w268 hw) (Ins.of_exa E_3 (w269 hw)) 0 rfl (Nat.le_of_ble_eq_true rfl) nb1 zl1 (Or.inr fr1) fun T2 h2 X2 K2 A2 => ?_
  have z2 := K2.1
  have A2a : Ay Z h2 b1 (.object "java/lang/Object") [Value.ref ra, Value.null, Value.null, Value.null, Value.null] := A2
  refine g_dup X2 d54_8 rfl ?_
  refine g_iconst X2 (1 : Int32) d54_9 (by decide) ?_
  refine g_aloadN X2 d54_10 rfl rfl ?_
  have E_5 := (Ea1.keep K2)
  have E_6 := ((E_rb.ext E1).keep K2)
  refine g_aastore X2 d54_11 A2a E_5 (by decide) (w268 hw) (Ins.of_exa E_6 (w269 hw)) 1 rfl (Nat.le_of_ble_eq_true rfl) nb1 zl1 (Or.inr fr1) fun T4 h4 X4 K4 A4 => ?_
  have z4 := K4.1
  have A4a : Ay Z h4 b1 (.object "java/lang/Object") [Value.ref ra, Value.ref rb, Value.null, Value.null, Value.null] := A4
  refine g_dup X4 d54_12 rfl ?_
  refine g_iconst X4 (2 : Int32) d54_13 (by decide) ?_
  refine g_aloadN X4 d54_14 rfl rfl ?_
  have E_8 := (E_5.keep K4)
  have E_9 := (((E_rc.ext E1).keep K2).keep K4)
  refine g_aastore X4 d54_15 A4a E_8 (by decide) (w268 hw) (Ins.of_exa E_9 (w269 hw)) 2 rfl (Nat.le_of_ble_eq_true rfl) nb1 zl1 (Or.inr fr1) fun T7 h7 X7 K7 A7 => ?_
  have z7 := K7.1
  have A7a : Ay Z h7 b1 (.object "java/lang/Object") [Value.ref ra, Value.ref rb, Value.ref rc, Value.null, Value.null] := A7
  refine g_dup X7 d54_16 rfl ?_
  refine g_iconst X7 (3 : Int32) d54_17 (by decide) ?_
  refine g_aloadN X7 d54_18 rfl rfl ?_
  have E_11 := (E_8.keep K7)
  have E_12 := ((((E_rd.ext E1).keep K2).keep K4).keep K7)
  refine g_aastore X7 d54_19 A7a E_11 (by decide) (w268 hw) (Ins.of_exa E_12 (w269 hw)) 3 rfl (Nat.le_of_ble_eq_true rfl) nb1 zl1 (Or.inr fr1) fun T10 h10 X10 K10 A10 => ?_
  have z10 := K10.1
  have A10a : Ay Z h10 b1 (.object "java/lang/Object") [Value.ref ra, Value.ref rb, Value.ref rc, Value.ref rd, Value.null] := A10
  refine g_dup X10 d54_20 rfl ?_
  refine g_iconst X10 (4 : Int32) d54_21 (by decide) ?_
  refine g_aload X10 d54_22 rfl rfl ?_
  have E_14 := (E_11.keep K10)
  have E_15 := (((((E_re.ext E1).keep K2).keep K4).keep K7).keep K10)
  refine g_aastore X10 d54_24 A10a E_14 (by decide) (w268 hw) (Ins.of_exa E_15 (w269 hw)) 4 rfl (Nat.le_of_ble_eq_true rfl) nb1 zl1 (Or.inr fr1) fun T13 h13 X13 K13 A13 => ?_
  have z13 := K13.1
  have A13a : Ay Z h13 b1 (.object "java/lang/Object") [Value.ref ra, Value.ref rb, Value.ref rc, Value.ref rd, Value.ref re] := A13
  refine g_callS X13 d54_25 (w270 hw) (w271 hw) (w272 hw) (w273 hw) (by decide) pd31 [(.ref b1)] [] 0 (c_trusted hw hs b1 ra rb rc rd re A13a) rfl rfl rfl (Nat.le_of_eq rfl) (by decide) (by decide) 2 7 rfl rfl (by decide) (by decide) (fun _ q => nomatch q) fun v16 T16 h16 B16 X16 K16 M16 q16 => ?_
  obtain ⟨a, rfl, rfl, fa, nba, Ea, Fa⟩ := q16
  have z16 := K16.1
  show Go x (T16.setTop (mkF x.m 28 #[.val (.ref ra), .val (.ref rb), .val (.ref rc), .val (.ref rd), .val (.ref re)] [(.ref a)]))
  have A17 := (A13a.keep K16 nin0)
  exact g_areturn X16 d54_28 rfl rfl rfl (by decide) (by decide) ⟨a, b1, rfl, rfl, by omega, nba, Ea, Fa, fr1, A17⟩
set_option maxRecDepth 65536 in
set_option maxHeartbeats 40000000 in
theorem c_key {nw : Bool} {l : Launch} {Z : State} {EL : List (String × Nat)} {a0 : Array Value} (hw : HW Z a0) (hs : Sts Z) {h0 : Heap} {B0 : BP} (q a ta p tp : Addr) (pb cs : List Int32) (Fq : Fld Z h0 q "com/example/keen_queue/keenqueue/io/QueueKeys" "prefix" "Ljava/lang/String;" (.ref p)) (E_p : Exa Z h0 p "java/lang/String") (Fp_c : Fld Z h0 p "java/lang/String" "coder" "B" (.int 0)) (Fp_v : Fld Z h0 p "java/lang/String" "value" "[B" (.ref tp)) (A_tp : Ay Z h0 tp .byte (pb.map Value.int)) (E_a : Exa Z h0 a "java/lang/String") (Fa_c : Fld Z h0 a "java/lang/String" "coder" "B" (.int 0)) (Fa_v : Fld Z h0 a "java/lang/String" "value" "[B" (.ref ta)) (A_ta : Ay Z h0 ta .byte (cs.map Value.int)) (hp : pb.length ≤ 8) (hc : cs.length ≤ 7) (hb : ∀ b ∈ pb ++ cs, lo8 b = b) :
    Con nw l Z EL (⟨"com/example/keen_queue/keenqueue/io/QueueKeys", "key", "(Ljava/lang/String;)[B"⟩ : MethodName) prog_1_method_14_code 2 (some (.array .byte)) [] ({ frames := 6, cells := 6, slots := 104, locals := 91 } : Room) #[(.ref q), (.ref a)] h0 B0 [] (fun v h B => ∃ r, v = some (.ref r) ∧ B0 = B ∧ h0.size ≤ r ∧ ¬ B r ∧ Ay Z h r .byte ((utf8 (pb ++ cs)).map Value.int) ∧ Exa Z h r "[B") := by
  refine k_intro (Ls := #[.val (.ref q), .val (.ref a)]) (by decide +kernel) rfl fun x T0 X0 => ?_
  obtain ⟨u, sU1, sU2⟩ := hs.2.2.1
  have lt_a := k_ltE E_a; have lt_ta := A_ta.lt
  have lt_p := k_ltE E_p; have lt_tp := A_tp.lt
  have lt_q : @LT.lt Nat _ q h0.size := by obtain ⟨cq, _, _, _, _, hcq, _⟩ := Fq; exact (Array.getElem?_eq_some_iff.mp hcq).1
  refine g_new X0 d55_0 (w91 hw) (w92 hw) (w93 hw) 1 4 rfl rfl (by decide) (by decide) fun T1 h1 b1 X1 E1 eb1 nb1 Ex1 D1 => ?_
  have z1 := E1.1; have lt1 : @LT.lt Nat _ b1 h1.size := Ex1.lt; have zl1 : @LE.le Nat _ Z.heap.size b1 := eb1 ▸ X0.szZ; have fr1 : @LE.le Nat _ h0.size b1 := eb1 ▸ X0.sz
  have F1_value : Fld Z h1 b1 "java/lang/AbstractStringBuilder" "value" "[B" .null := D1 (Or.inl (w106 hw)) (ty := (.array .byte)) (by decide)
  have F1_coder : Fld Z h1 b1 "java/lang/AbstractStringBuilder" "coder" "B" (.int (0 : Int32)) := D1 (Or.inl (w108 hw)) (ty := .byte) (by decide)
  have F1_count : Fld Z h1 b1 "java/lang/AbstractStringBuilder" "count" "I" (.int (0 : Int32)) := D1 (Or.inl (w122 hw)) (ty := .int) (by decide)
  refine g_dup X1 d55_3 rfl ?_
  refine g_callI X1 d55_4 (w94 hw) (w95 hw) (w93 hw) (w96 hw) rfl (by decide) pd28 b1 [] [(.ref b1)] 1 (c_sbInit hw hs b1 Ex1 F1_value F1_coder F1_count nb1 zl1) rfl rfl rfl (Nat.le_of_eq rfl) (by decide) (by decide) 2 20 rfl rfl (by decide) (by decide) (k_ws1 ⟨nb1, zl1, (Or.inr fr1)⟩) fun v2 T2 h2 B2 X2 K2 M2 q2 => ?_
  obtain ⟨t, rfl, rfl, ft, nbt, S0⟩ := q2
  have z2 := K2.1
  show Go x (T2.setTop (mkF x.m 7 #[.val (.ref q), .val (.ref a)] [(.ref b1)]))
  have zlt := Nat.le_trans X1.szZ ft; have wt : t ∈ ([] : List Addr) ∨ h0.size ≤ t := Or.inr (Nat.le_trans X1.sz ft); have lt_t := S0.2.2.2.2.lt
  refine g_aloadN X2 d55_7 rfl rfl ?_
  have F3 := ((Fq.ext E1).keep K2 (ninS (k_neN (by omega)) nin0))
  refine g_getfield X2 d55_8 (w191 hw) Via.refl F3 fun T4 X4 => ?_
  have E_5 := ((E_p.ext E1).keep K2)
  have F6 := ((Fp_c.ext E1).keep K2 (ninS (k_neN (by omega)) nin0))
  have F7 := ((Fp_v.ext E1).keep K2 (ninS (k_neN (by omega)) nin0))
  have A8 := ((A_tp.ext E1).keep K2 (ninS (k_neN (by omega)) nin0))
  refine g_callV X4 d55_11 (w110 hw) (w111 hw) (w113 hw) (w112 hw) (w93 hw) (w114 hw) (by decide) pd32 b1 [(.ref p)] [] 0 S0.1 (c_sbApp hw hs b1 t p tp [] pb (List.replicate 16 0) S0 E_5 F6 F7 A8 (by simp) (by simp; omega) (k_neN (by omega)) nb1 zl1 nbt zlt) rfl rfl rfl (Nat.le_of_eq rfl) (by decide) (by decide) 2 20 rfl rfl (by decide) (by decide) (k_wsC ⟨nb1, zl1, (Or.inr fr1)⟩ (k_wsC ⟨nbt, zlt, wt⟩ (fun _ q => nomatch q))) fun v9 T9 h9 B9 X9 K9 M9 q9 => ?_
  obtain ⟨rfl, rfl, S1⟩ := q9
  have z9 := K9.1
  show Go x (T9.setTop (mkF x.m 14 #[.val (.ref q), .val (.ref a)] [(.ref b1)]))
  refine g_aloadN X9 d55_14 rfl rfl ?_
  have E_10 := (((E_a.ext E1).keep K2).keep K9)
  have F11 := (((Fa_c.ext E1).keep K2 (ninS (k_neN (by omega)) nin0)).keep K9 (ninS (k_neN (by omega)) (ninS (k_neN (by omega)) nin0)))
  have F12 := (((Fa_v.ext E1).keep K2 (ninS (k_neN (by omega)) nin0)).keep K9 (ninS (k_neN (by omega)) (ninS (k_neN (by omega)) nin0)))
  have A13 := (((A_ta.ext E1).keep K2 (ninS (k_neN (by omega)) nin0)).keep K9 (ninS (k_neN (by omega)) (ninS (k_neN (by omega)) nin0)))
  refine g_callV X9 d55_15 (w110 hw) (w111 hw) (w113 hw) (w112 hw) (w93 hw) (w114 hw) (by decide) pd32 b1 [(.ref a)] [] 0 S1.1 (c_sbApp hw hs b1 t a ta ([] ++ pb) cs ((List.replicate 16 0).drop pb.length) S1 E_10 F11 F12 A13 (by simp; omega) (by simp; omega) (k_neN (by omega)) nb1 zl1 nbt zlt) rfl rfl rfl (Nat.le_of_eq rfl) (by decide) (by decide) 2 20 rfl rfl (by decide) (by decide) (k_wsC ⟨nb1, zl1, (Or.inr fr1)⟩ (k_wsC ⟨nbt, zlt, wt⟩ (fun _ q => nomatch q))) fun v14 T14 h14 B14 X14 K14 M14 q14 => ?_
  obtain ⟨rfl, rfl, S2⟩ := q14
  have z14 := K14.1
  show Go x (T14.setTop (mkF x.m 18 #[.val (.ref q), .val (.ref a)] [(.ref b1)]))
  refine g_callV X14 d55_18 (w149 hw) (w150 hw) (w152 hw) (w151 hw) (w93 hw) (w153 hw) (by decide) pd33 b1 [] [] 0 S2.1 (c_toStr hw hs b1 t _ _ S2 (by simp; omega) (by simp; omega)) rfl rfl rfl (Nat.le_of_eq rfl) (by decide) (by decide) 4 40 rfl rfl (by decide) (by decide) (fun _ q => nomatch q) fun v15 T15 h15 B15 X15 K15 M15 q15 => ?_
  obtain ⟨b, r, rfl, rfl, fb, nb', fr', nr', Eb, Fbc, Fbv, Ar, Er⟩ := q15
  have z15 := K15.1
  show Go x (T15.setTop (mkF x.m 21 #[.val (.ref q), .val (.ref a)] [(.ref b)]))
  refine g_getstatic X15 d55_21 (w208 hw) Via.refl sU1 fun T16 X16 => ?_
  refine g_callV X16 d55_24 (w210 hw) (w211 hw) (w213 hw) (w212 hw) (w2 hw) (w214 hw) (by decide) pd34 b [(.ref u)] [] 0 Eb (c_getBytes hw hs b r u ([] ++ pb ++ cs) sU2 Eb Fbc Fbv Ar Er (by simp; omega) (by simpa using hb)) rfl rfl rfl (Nat.le_of_eq rfl) (by decide) (by decide) 6 104 rfl rfl (by decide) (by decide) (fun _ q => nomatch q) fun v17 T17 h17 B17 X17 K17 M17 q17 => ?_
  obtain ⟨o, rfl, rfl, fo, no, Ao, Eo⟩ := q17
  have z17 := K17.1
  show Go x (T17.setTop (mkF x.m 27 #[.val (.ref q), .val (.ref a)] [(.ref o)]))
  exact g_areturn X17 d55_27 rfl rfl rfl (by decide) (by decide) ⟨o, rfl, rfl, by omega, no, by simpa using Ao, Eo⟩
set_option maxRecDepth 65536 in
set_option maxHeartbeats 40000000 in
theorem c_payloads {l : Launch} {Z : State} {EL : List (String × Nat)} {a0 : Array Value} (hw : HW Z a0) (hs : Sts Z) {h0 : Heap} {B0 : BP} (q p tp : Addr) (pb : List Int32) (E_q : Exa Z h0 q "com/example/keen_queue/keenqueue/io/QueueKeys") (Fq : Fld Z h0 q "com/example/keen_queue/keenqueue/io/QueueKeys" "prefix" "Ljava/lang/String;" (.ref p)) (E_p : Exa Z h0 p "java/lang/String") (Fp_c : Fld Z h0 p "java/lang/String" "coder" "B" (.int 0)) (Fp_v : Fld Z h0 p "java/lang/String" "value" "[B" (.ref tp)) (A_tp : Ay Z h0 tp .byte (pb.map Value.int)) (hp : pb.length ≤ 8) (hb : ∀ b ∈ pb, lo8 b = b) (hE : ("com/example/keen_queue/keenqueue/io/QueueKeys", 75) ∈ EL) :
    Con false l Z EL (⟨"com/example/keen_queue/keenqueue/io/QueueKeys", "payloads", "()[B"⟩ : MethodName) prog_1_method_8_code 1 (some (.array .byte)) [] ({ frames := 7, cells := 8, slots := 136, locals := 104 } : Room) #[(.ref q)] h0 B0 [] (fun v h B => ∃ r, v = some (.ref r) ∧ h0.size ≤ r ∧ ¬ B r ∧ Ay Z h r .byte ((utf8 (pb ++ [(112 : Int32), (97 : Int32), (121 : Int32), (108 : Int32), (111 : Int32), (97 : Int32), (100 : Int32)])).map Value.int) ∧ Exa Z h r "[B") := by
  refine k_intro (Ls := #[.val (.ref q)]) (by decide +kernel) rfl fun x T0 X0 => ?_
  have lt_q := k_ltE E_q; have lt_p := k_ltE E_p; have lt_tp := A_tp.lt
  refine g_aloadN X0 d56_0 rfl rfl ?_
  refine g_ldcC X0 rfl d56_1 (w203 hw) (strAtoms hw) hE [(112 : Int32), (97 : Int32), (121 : Int32), (108 : Int32), (111 : Int32), (97 : Int32), (100 : Int32)] (by decide) (by decide +kernel) 28 (by decide) (by decide) 2 32 rfl rfl (by decide) (by decide) fun T1 h1 B1 s1 t1 X1 E1 M1 Es1 Fc1 Fv1 At1 ls1 lt1 hn1 => ?_
  have z1 := E1.1
  have F2 := (Fq.ext E1)
  have E_3 := (E_p.ext E1)
  have F4 := (Fp_c.ext E1)
  have F5 := (Fp_v.ext E1)
  have A6 := (A_tp.ext E1)
  have E_8 := (E_q.ext E1)
  refine g_callP X1 d56_3 (w204 hw) (k_selects (w206 hw) (w205 hw) (w32 hw) (by decide)) (w205 hw) (w33 hw) (w207 hw) (by decide) pd35 q [(.ref s1)] [] 0 E_8 (c_key hw hs q s1 t1 p tp pb [(112 : Int32), (97 : Int32), (121 : Int32), (108 : Int32), (111 : Int32), (97 : Int32), (100 : Int32)] F2 E_3 F4 F5 A6 Es1 Fc1 Fv1 At1 hp (by decide) (k_hb hb (by decide))) rfl rfl rfl (Nat.le_of_eq rfl) (by decide) (by decide) 8 136 rfl rfl (by decide) (by decide) (fun _ q => nomatch q) fun v7 T7 h7 B7 X7 K7 M7 q7 => ?_
  obtain ⟨r, rfl, rfl, fr, nr, Ar, Er⟩ := q7
  have z7 := K7.1
  show Go x (T7.setTop (mkF x.m 6 #[.val (.ref q)] [(.ref r)]))
  exact g_areturn X7 d56_6 rfl rfl rfl (by decide) (by decide) ⟨r, rfl, by omega, nr, Ar, Er⟩
set_option maxRecDepth 65536 in
set_option maxHeartbeats 40000000 in
theorem c_attempts {l : Launch} {Z : State} {EL : List (String × Nat)} {a0 : Array Value} (hw : HW Z a0) (hs : Sts Z) {h0 : Heap} {B0 : BP} (q p tp : Addr) (pb : List Int32) (E_q : Exa Z h0 q "com/example/keen_queue/keenqueue/io/QueueKeys") (Fq : Fld Z h0 q "com/example/keen_queue/keenqueue/io/QueueKeys" "prefix" "Ljava/lang/String;" (.ref p)) (E_p : Exa Z h0 p "java/lang/String") (Fp_c : Fld Z h0 p "java/lang/String" "coder" "B" (.int 0)) (Fp_v : Fld Z h0 p "java/lang/String" "value" "[B" (.ref tp)) (A_tp : Ay Z h0 tp .byte (pb.map Value.int)) (hp : pb.length ≤ 8) (hb : ∀ b ∈ pb, lo8 b = b) (hE : ("com/example/keen_queue/keenqueue/io/QueueKeys", 77) ∈ EL) :
    Con false l Z EL (⟨"com/example/keen_queue/keenqueue/io/QueueKeys", "attempts", "()[B"⟩ : MethodName) prog_1_method_9_code 1 (some (.array .byte)) [] ({ frames := 7, cells := 8, slots := 136, locals := 104 } : Room) #[(.ref q)] h0 B0 [] (fun v h B => ∃ r, v = some (.ref r) ∧ h0.size ≤ r ∧ ¬ B r ∧ Ay Z h r .byte ((utf8 (pb ++ [(97 : Int32), (116 : Int32), (116 : Int32), (101 : Int32), (109 : Int32), (112 : Int32), (116 : Int32)])).map Value.int) ∧ Exa Z h r "[B") := by
  refine k_intro (Ls := #[.val (.ref q)]) (by decide +kernel) rfl fun x T0 X0 => ?_
  have lt_q := k_ltE E_q; have lt_p := k_ltE E_p; have lt_tp := A_tp.lt
  refine g_aloadN X0 d57_0 rfl rfl ?_
  refine g_ldcC X0 rfl d57_1 (w244 hw) (strAtoms hw) hE [(97 : Int32), (116 : Int32), (116 : Int32), (101 : Int32), (109 : Int32), (112 : Int32), (116 : Int32)] (by decide) (by decide +kernel) 28 (by decide) (by decide) 2 32 rfl rfl (by decide) (by decide) fun T1 h1 B1 s1 t1 X1 E1 M1 Es1 Fc1 Fv1 At1 ls1 lt1 hn1 => ?_
  have z1 := E1.1
  have F2 := (Fq.ext E1)
  have E_3 := (E_p.ext E1)
  have F4 := (Fp_c.ext E1)
  have F5 := (Fp_v.ext E1)
  have A6 := (A_tp.ext E1)
  have E_8 := (E_q.ext E1)
  refine g_callP X1 d57_3 (w204 hw) (k_selects (w206 hw) (w205 hw) (w32 hw) (by decide)) (w205 hw) (w33 hw) (w207 hw) (by decide) pd35 q [(.ref s1)] [] 0 E_8 (c_key hw hs q s1 t1 p tp pb [(97 : Int32), (116 : Int32), (116 : Int32), (101 : Int32), (109 : Int32), (112 : Int32), (116 : Int32)] F2 E_3 F4 F5 A6 Es1 Fc1 Fv1 At1 hp (by decide) (k_hb hb (by decide))) rfl rfl rfl (Nat.le_of_eq rfl) (by decide) (by decide) 8 136 rfl rfl (by decide) (by decide) (fun _ q => nomatch q) fun v7 T7 h7 B7 X7 K7 M7 q7 => ?_
  obtain ⟨r, rfl, rfl, fr, nr, Ar, Er⟩ := q7
  have z7 := K7.1
  show Go x (T7.setTop (mkF x.m 6 #[.val (.ref q)] [(.ref r)]))
  exact g_areturn X7 d57_6 rfl rfl rfl (by decide) (by decide) ⟨r, rfl, by omega, nr, Ar, Er⟩
set_option maxRecDepth 65536 in
set_option maxHeartbeats 40000000 in
theorem c_tokens {l : Launch} {Z : State} {EL : List (String × Nat)} {a0 : Array Value} (hw : HW Z a0) (hs : Sts Z) {h0 : Heap} {B0 : BP} (q p tp : Addr) (pb : List Int32) (E_q : Exa Z h0 q "com/example/keen_queue/keenqueue/io/QueueKeys") (Fq : Fld Z h0 q "com/example/keen_queue/keenqueue/io/QueueKeys" "prefix" "Ljava/lang/String;" (.ref p)) (E_p : Exa Z h0 p "java/lang/String") (Fp_c : Fld Z h0 p "java/lang/String" "coder" "B" (.int 0)) (Fp_v : Fld Z h0 p "java/lang/String" "value" "[B" (.ref tp)) (A_tp : Ay Z h0 tp .byte (pb.map Value.int)) (hp : pb.length ≤ 8) (hb : ∀ b ∈ pb, lo8 b = b) (hE : ("com/example/keen_queue/keenqueue/io/QueueKeys", 79) ∈ EL) :
    Con false l Z EL (⟨"com/example/keen_queue/keenqueue/io/QueueKeys", "tokens", "()[B"⟩ : MethodName) prog_1_method_10_code 1 (some (.array .byte)) [] ({ frames := 7, cells := 8, slots := 128, locals := 104 } : Room) #[(.ref q)] h0 B0 [] (fun v h B => ∃ r, v = some (.ref r) ∧ h0.size ≤ r ∧ ¬ B r ∧ Ay Z h r .byte ((utf8 (pb ++ [(116 : Int32), (111 : Int32), (107 : Int32), (101 : Int32), (110 : Int32)])).map Value.int) ∧ Exa Z h r "[B") := by
  refine k_intro (Ls := #[.val (.ref q)]) (by decide +kernel) rfl fun x T0 X0 => ?_
  have lt_q := k_ltE E_q; have lt_p := k_ltE E_p; have lt_tp := A_tp.lt
  refine g_aloadN X0 d58_0 rfl rfl ?_
  refine g_ldcC X0 rfl d58_1 (w250 hw) (strAtoms hw) hE [(116 : Int32), (111 : Int32), (107 : Int32), (101 : Int32), (110 : Int32)] (by decide) (by decide +kernel) 20 (by decide) (by decide) 2 24 rfl rfl (by decide) (by decide) fun T1 h1 B1 s1 t1 X1 E1 M1 Es1 Fc1 Fv1 At1 ls1 lt1 hn1 => ?_
  have z1 := E1.1
  have F2 := (Fq.ext E1)
  have E_3 := (E_p.ext E1)
  have F4 := (Fp_c.ext E1)
  have F5 := (Fp_v.ext E1)
  have A6 := (A_tp.ext E1)
  have E_8 := (E_q.ext E1)
  refine g_callP X1 d58_3 (w204 hw) (k_selects (w206 hw) (w205 hw) (w32 hw) (by decide)) (w205 hw) (w33 hw) (w207 hw) (by decide) pd35 q [(.ref s1)] [] 0 E_8 (c_key hw hs q s1 t1 p tp pb [(116 : Int32), (111 : Int32), (107 : Int32), (101 : Int32), (110 : Int32)] F2 E_3 F4 F5 A6 Es1 Fc1 Fv1 At1 hp (by decide) (k_hb hb (by decide))) rfl rfl rfl (Nat.le_of_eq rfl) (by decide) (by decide) 8 128 rfl rfl (by decide) (by decide) (fun _ q => nomatch q) fun v7 T7 h7 B7 X7 K7 M7 q7 => ?_
  obtain ⟨r, rfl, rfl, fr, nr, Ar, Er⟩ := q7
  have z7 := K7.1
  show Go x (T7.setTop (mkF x.m 6 #[.val (.ref q)] [(.ref r)]))
  exact g_areturn X7 d58_6 rfl rfl rfl (by decide) (by decide) ⟨r, rfl, by omega, nr, Ar, Er⟩
set_option maxRecDepth 65536 in
set_option maxHeartbeats 40000000 in
theorem c_errors {l : Launch} {Z : State} {EL : List (String × Nat)} {a0 : Array Value} (hw : HW Z a0) (hs : Sts Z) {h0 : Heap} {B0 : BP} (q p tp : Addr) (pb : List Int32) (E_q : Exa Z h0 q "com/example/keen_queue/keenqueue/io/QueueKeys") (Fq : Fld Z h0 q "com/example/keen_queue/keenqueue/io/QueueKeys" "prefix" "Ljava/lang/String;" (.ref p)) (E_p : Exa Z h0 p "java/lang/String") (Fp_c : Fld Z h0 p "java/lang/String" "coder" "B" (.int 0)) (Fp_v : Fld Z h0 p "java/lang/String" "value" "[B" (.ref tp)) (A_tp : Ay Z h0 tp .byte (pb.map Value.int)) (hp : pb.length ≤ 8) (hb : ∀ b ∈ pb, lo8 b = b) (hE : ("com/example/keen_queue/keenqueue/io/QueueKeys", 81) ∈ EL) :
    Con false l Z EL (⟨"com/example/keen_queue/keenqueue/io/QueueKeys", "errors", "()[B"⟩ : MethodName) prog_1_method_11_code 1 (some (.array .byte)) [] ({ frames := 7, cells := 8, slots := 128, locals := 104 } : Room) #[(.ref q)] h0 B0 [] (fun v h B => ∃ r, v = some (.ref r) ∧ h0.size ≤ r ∧ ¬ B r ∧ Ay Z h r .byte ((utf8 (pb ++ [(101 : Int32), (114 : Int32), (114 : Int32), (111 : Int32), (114 : Int32)])).map Value.int) ∧ Exa Z h r "[B") := by
  refine k_intro (Ls := #[.val (.ref q)]) (by decide +kernel) rfl fun x T0 X0 => ?_
  have lt_q := k_ltE E_q; have lt_p := k_ltE E_p; have lt_tp := A_tp.lt
  refine g_aloadN X0 d59_0 rfl rfl ?_
  refine g_ldcC X0 rfl d59_1 (w256 hw) (strAtoms hw) hE [(101 : Int32), (114 : Int32), (114 : Int32), (111 : Int32), (114 : Int32)] (by decide) (by decide +kernel) 20 (by decide) (by decide) 2 24 rfl rfl (by decide) (by decide) fun T1 h1 B1 s1 t1 X1 E1 M1 Es1 Fc1 Fv1 At1 ls1 lt1 hn1 => ?_
  have z1 := E1.1
  have F2 := (Fq.ext E1)
  have E_3 := (E_p.ext E1)
  have F4 := (Fp_c.ext E1)
  have F5 := (Fp_v.ext E1)
  have A6 := (A_tp.ext E1)
  have E_8 := (E_q.ext E1)
  refine g_callP X1 d59_3 (w204 hw) (k_selects (w206 hw) (w205 hw) (w32 hw) (by decide)) (w205 hw) (w33 hw) (w207 hw) (by decide) pd35 q [(.ref s1)] [] 0 E_8 (c_key hw hs q s1 t1 p tp pb [(101 : Int32), (114 : Int32), (114 : Int32), (111 : Int32), (114 : Int32)] F2 E_3 F4 F5 A6 Es1 Fc1 Fv1 At1 hp (by decide) (k_hb hb (by decide))) rfl rfl rfl (Nat.le_of_eq rfl) (by decide) (by decide) 8 128 rfl rfl (by decide) (by decide) (fun _ q => nomatch q) fun v7 T7 h7 B7 X7 K7 M7 q7 => ?_
  obtain ⟨r, rfl, rfl, fr, nr, Ar, Er⟩ := q7
  have z7 := K7.1
  show Go x (T7.setTop (mkF x.m 6 #[.val (.ref q)] [(.ref r)]))
  exact g_areturn X7 d59_6 rfl rfl rfl (by decide) (by decide) ⟨r, rfl, by omega, nr, Ar, Er⟩
set_option maxRecDepth 65536 in
set_option maxHeartbeats 40000000 in
theorem c_stalls {l : Launch} {Z : State} {EL : List (String × Nat)} {a0 : Array Value} (hw : HW Z a0) (hs : Sts Z) {h0 : Heap} {B0 : BP} (q p tp : Addr) (pb : List Int32) (E_q : Exa Z h0 q "com/example/keen_queue/keenqueue/io/QueueKeys") (Fq : Fld Z h0 q "com/example/keen_queue/keenqueue/io/QueueKeys" "prefix" "Ljava/lang/String;" (.ref p)) (E_p : Exa Z h0 p "java/lang/String") (Fp_c : Fld Z h0 p "java/lang/String" "coder" "B" (.int 0)) (Fp_v : Fld Z h0 p "java/lang/String" "value" "[B" (.ref tp)) (A_tp : Ay Z h0 tp .byte (pb.map Value.int)) (hp : pb.length ≤ 8) (hb : ∀ b ∈ pb, lo8 b = b) (hE : ("com/example/keen_queue/keenqueue/io/QueueKeys", 83) ∈ EL) :
    Con false l Z EL (⟨"com/example/keen_queue/keenqueue/io/QueueKeys", "stalls", "()[B"⟩ : MethodName) prog_1_method_12_code 1 (some (.array .byte)) [] ({ frames := 7, cells := 8, slots := 128, locals := 104 } : Room) #[(.ref q)] h0 B0 [] (fun v h B => ∃ r, v = some (.ref r) ∧ h0.size ≤ r ∧ ¬ B r ∧ Ay Z h r .byte ((utf8 (pb ++ [(115 : Int32), (116 : Int32), (97 : Int32), (108 : Int32), (108 : Int32)])).map Value.int) ∧ Exa Z h r "[B") := by
  refine k_intro (Ls := #[.val (.ref q)]) (by decide +kernel) rfl fun x T0 X0 => ?_
  have lt_q := k_ltE E_q; have lt_p := k_ltE E_p; have lt_tp := A_tp.lt
  refine g_aloadN X0 d60_0 rfl rfl ?_
  refine g_ldcC X0 rfl d60_1 (w262 hw) (strAtoms hw) hE [(115 : Int32), (116 : Int32), (97 : Int32), (108 : Int32), (108 : Int32)] (by decide) (by decide +kernel) 20 (by decide) (by decide) 2 24 rfl rfl (by decide) (by decide) fun T1 h1 B1 s1 t1 X1 E1 M1 Es1 Fc1 Fv1 At1 ls1 lt1 hn1 => ?_
  have z1 := E1.1
  have F2 := (Fq.ext E1)
  have E_3 := (E_p.ext E1)
  have F4 := (Fp_c.ext E1)
  have F5 := (Fp_v.ext E1)
  have A6 := (A_tp.ext E1)
  have E_8 := (E_q.ext E1)
  refine g_callP X1 d60_3 (w204 hw) (k_selects (w206 hw) (w205 hw) (w32 hw) (by decide)) (w205 hw) (w33 hw) (w207 hw) (by decide) pd35 q [(.ref s1)] [] 0 E_8 (c_key hw hs q s1 t1 p tp pb [(115 : Int32), (116 : Int32), (97 : Int32), (108 : Int32), (108 : Int32)] F2 E_3 F4 F5 A6 Es1 Fc1 Fv1 At1 hp (by decide) (k_hb hb (by decide))) rfl rfl rfl (Nat.le_of_eq rfl) (by decide) (by decide) 8 128 rfl rfl (by decide) (by decide) (fun _ q => nomatch q) fun v7 T7 h7 B7 X7 K7 M7 q7 => ?_
  obtain ⟨r, rfl, rfl, fr, nr, Ar, Er⟩ := q7
  have z7 := K7.1
  show Go x (T7.setTop (mkF x.m 6 #[.val (.ref q)] [(.ref r)]))
  exact g_areturn X7 d60_6 rfl rfl rfl (by decide) (by decide) ⟨r, rfl, by omega, nr, Ar, Er⟩
set_option maxRecDepth 65536 in
set_option maxHeartbeats 40000000 in
theorem c_qkInit {l : Launch} {Z : State} {EL : List (String × Nat)} {a0 : Array Value} (hw : HW Z a0) (hs : Sts Z) {h0 : Heap} {B0 : BP} (q a ta : Addr) (cs : List Int32) (E_q : Exa Z h0 q "com/example/keen_queue/keenqueue/io/QueueKeys") {uq : Value} (Fq : Fld Z h0 q "com/example/keen_queue/keenqueue/io/QueueKeys" "prefix" "Ljava/lang/String;" uq) (nb_q : ¬ B0 q) (zl_q : Z.heap.size ≤ q) (E_a : Exa Z h0 a "java/lang/String") (Fa_c : Fld Z h0 a "java/lang/String" "coder" "B" (.int 0)) (Fa_v : Fld Z h0 a "java/lang/String" "value" "[B" (.ref ta)) (A_ta : Ay Z h0 ta .byte ((cs.map lo8).map Value.int)) (hc8 : ∀ c ∈ cs, C8 c) (h123 : ∀ c ∈ cs, c ≠ 123) (h125 : ∀ c ∈ cs, c ≠ 125) (hp : 0 < cs.length) (h2 : cs.length ≤ 2) (hE7 : ("com/example/keen_queue/keenqueue/io/QueueKeys", 7) ∈ EL) (hE41 : ("com/example/keen_queue/keenqueue/io/QueueKeys", 41) ∈ EL) (hE47 : ("com/example/keen_queue/keenqueue/io/QueueKeys", 47) ∈ EL) :
    Con false l Z EL (⟨"com/example/keen_queue/keenqueue/io/QueueKeys", "<init>", "(Ljava/lang/String;)V"⟩ : MethodName) prog_1_method_1_code 2 none [] ({ frames := 6, cells := 10, slots := 112, locals := 92 } : Room) #[(.ref q), (.ref a)] h0 B0 [q] (fun v h B => ∃ p tp, v = none ∧ Exa Z h q "com/example/keen_queue/keenqueue/io/QueueKeys" ∧ Fld Z h q "com/example/keen_queue/keenqueue/io/QueueKeys" "prefix" "Ljava/lang/String;" (.ref p) ∧ h0.size ≤ p ∧ h0.size ≤ tp ∧ ¬ B p ∧ ¬ B tp ∧ Exa Z h p "java/lang/String" ∧ Fld Z h p "java/lang/String" "coder" "B" (.int 0) ∧ Fld Z h p "java/lang/String" "value" "[B" (.ref tp) ∧ Ay Z h tp .byte (([(107 : Int32), (113 : Int32), (58 : Int32), (123 : Int32)] ++ (cs.map lo8) ++ [(125 : Int32), (58 : Int32)]).map Value.int)) := by
  refine k_intro (Ls := #[.val (.ref q), .val (.ref a)]) (by decide +kernel) rfl fun x T0 X0 => ?_
  have lt_a := k_ltE E_a; have lt_ta := A_ta.lt
  have lt_q := k_ltE E_q
  refine g_aloadN X0 d61_0 rfl rfl ?_
  refine g_init X0 d61_1 rfl rfl (w37 hw) (w20 hw) (w21 hw) 0 rfl (by decide) (Nat.le_of_eq rfl) (by decide) fun T1 X1 => ?_
  refine g_aloadN X1 d61_4 rfl rfl ?_
  refine g_ldcC X1 rfl d61_5 (w38 hw) (strAtoms hw) hE7 [(113 : Int32), (117 : Int32), (101 : Int32), (117 : Int32), (101 : Int32), (78 : Int32), (97 : Int32), (109 : Int32), (101 : Int32)] (by decide) (by decide +kernel) 36 (by decide) (by decide) 2 40 rfl rfl (by decide) (by decide) fun T2 h2 B2 s2 t2 X2 E2 M2 Es2 Fc2 Fv2 At2 ls2 lt2 hn2 => ?_
  have z2 := E2.1
  refine g_callSp X2 d61_7 (w41 hw) (w42 hw) (w43 hw) (w44 hw) (by decide) pd36 [(.ref a), (.ref s2)] [] 0 (c_reqNN2 hw hs a s2) rfl rfl rfl (Nat.le_of_eq rfl) (by decide) (by decide) 2 40 rfl rfl (by decide) (by decide) fun T3 X3 => ?_
  refine g_pop X3 d61_10 rfl ?_
  refine g_aloadN X3 d61_11 rfl rfl ?_
  have E_4 := (E_a.ext E2)
  have F5 := (Fa_c.ext E2)
  have F6 := (Fa_v.ext E2)
  have A7 := (A_ta.ext E2)
  refine g_callVp X3 d61_12 (w45 hw) (w46 hw) (w48 hw) (w47 hw) (w2 hw) (w49 hw) (by decide) pd11 a [] [] 0 E_4 (c_isEmpty hw hs a _ (⟨ta, E_4, F5, F6, A7⟩ : StrV Z h2 a 0 (cs.map lo8)) (by simpa using hp)) rfl rfl rfl (Nat.le_of_eq rfl) (by decide) (by decide) 2 40 rfl rfl (by decide) (by decide) fun T8 X8 => ?_
  refine g_ifT X8 d61_15 (by decide) ?_
  refine g_aloadN X8 d61_28 rfl rfl ?_
  refine g_bipush X8 (123 : Int32) d61_29 (by decide) ?_
  refine g_callVp X8 d61_31 (w50 hw) (w51 hw) (w53 hw) (w52 hw) (w2 hw) (w54 hw) (by decide) pd15 a [(.int (123 : Int32))] [] 0 E_4 (c_indexOfIL hw hs a 123 cs (⟨ta, E_4, F5, F6, A7⟩ : StrV Z h2 a 0 (cs.map lo8)) ⟨by decide, by decide⟩ hc8) rfl rfl rfl (Nat.le_of_eq rfl) (by decide) (by decide) 2 40 rfl rfl (by decide) (by decide) fun T9 X9 => ?_
  refine g_ifF X9 d61_34 (XT.i0_ge_f (by rw [idxV_none h123]; decide)) ?_
  refine g_aloadN X9 d61_37 rfl rfl ?_
  refine g_bipush X9 (125 : Int32) d61_38 (by decide) ?_
  refine g_callVp X9 d61_40 (w50 hw) (w51 hw) (w53 hw) (w52 hw) (w2 hw) (w54 hw) (by decide) pd15 a [(.int (125 : Int32))] [] 0 E_4 (c_indexOfIL hw hs a 125 cs (⟨ta, E_4, F5, F6, A7⟩ : StrV Z h2 a 0 (cs.map lo8)) ⟨by decide, by decide⟩ hc8) rfl rfl rfl (Nat.le_of_eq rfl) (by decide) (by decide) 2 40 rfl rfl (by decide) (by decide) fun T10 X10 => ?_
  refine g_ifT X10 d61_43 (XT.i0_lt_t (by rw [idxV_none h125]; decide)) ?_
  refine g_aloadN X10 d61_67 rfl rfl ?_
  refine g_new X10 d61_68 (w91 hw) (w92 hw) (w93 hw) 3 44 rfl rfl (by decide) (by decide) fun T11 h11 b11 X11 E11 eb11 nb11 Ex11 D11 => ?_
  have z11 := E11.1; have lt11 : @LT.lt Nat _ b11 h11.size := Ex11.lt; have zl11 : @LE.le Nat _ Z.heap.size b11 := eb11 ▸ X10.szZ; have fr11 : @LE.le Nat _ h0.size b11 := eb11 ▸ X10.sz
  have F11_value : Fld Z h11 b11 "java/lang/AbstractStringBuilder" "value" "[B" .null := D11 (Or.inl (w106 hw)) (ty := (.array .byte)) (by decide)
  have F11_coder : Fld Z h11 b11 "java/lang/AbstractStringBuilder" "coder" "B" (.int (0 : Int32)) := D11 (Or.inl (w108 hw)) (ty := .byte) (by decide)
  have F11_count : Fld Z h11 b11 "java/lang/AbstractStringBuilder" "count" "I" (.int (0 : Int32)) := D11 (Or.inl (w122 hw)) (ty := .int) (by decide)
  refine g_dup X11 d61_71 rfl ?_
  refine g_callI X11 d61_72 (w94 hw) (w95 hw) (w93 hw) (w96 hw) rfl (by decide) pd28 b11 [] [(.ref b11), (.ref q)] 2 (c_sbInit hw hs b11 Ex11 F11_value F11_coder F11_count nb11 zl11) rfl rfl rfl (Nat.le_of_eq rfl) (by decide) (by decide) 4 60 rfl rfl (by decide) (by decide) (k_ws1 ⟨nb11, zl11, (Or.inr fr11)⟩) fun v12 T12 h12 B12 X12 K12 M12 q12 => ?_
  obtain ⟨t, rfl, rfl, ft, nbt, S0⟩ := q12
  have z12 := K12.1
  show Go x (T12.setTop (mkF x.m 75 #[.val (.ref q), .val (.ref a)] [(.ref b11), (.ref q)]))
  have zlt := Nat.le_trans X11.szZ ft; have wt : t ∈ [q] ∨ h0.size ≤ t := Or.inr (Nat.le_trans X11.sz ft); have lt_t := S0.2.2.2.2.lt
  refine g_ldcC X12 rfl d61_75 (w109 hw) (strAtoms hw) hE41 [(107 : Int32), (113 : Int32), (58 : Int32), (123 : Int32)] (by decide) (by decide +kernel) 16 (by decide) (by decide) 6 80 rfl rfl (by decide) (by decide) fun T13 h13 B13 s13 t13 X13 E13 M13 Es13 Fc13 Fv13 At13 ls13 lt13 hn13 => ?_
  have z13 := E13.1
  have S0' := S0.ext E13
  have nb14 : ¬ B13 b11 := (M13.no nb11 (by omega))
  have nb15 : ¬ B13 t := (M13.no nbt (by omega))
  have E_17 := (S0.1.ext E13)
  refine g_callV X13 d61_77 (w110 hw) (w111 hw) (w113 hw) (w112 hw) (w93 hw) (w114 hw) (by decide) pd32 b11 [(.ref s13)] [(.ref q)] 1 E_17 (c_sbApp hw hs b11 t s13 t13 [] [(107 : Int32), (113 : Int32), (58 : Int32), (123 : Int32)] (List.replicate 16 0) S0' Es13 Fc13 Fv13 At13 (by simp) (by simp) (Ne.symm (hn13 t nb15).2) nb14 zl11 nb15 zlt) rfl rfl rfl (Nat.le_of_eq rfl) (by decide) (by decide) 6 80 rfl rfl (by decide) (by decide) (k_wsC ⟨nb14, zl11, (Or.inr fr11)⟩ (k_wsC ⟨nb15, zlt, wt⟩ (fun _ q => nomatch q))) fun v16 T16 h16 B16 X16 K16 M16 q16 => ?_
  obtain ⟨rfl, rfl, S1⟩ := q16
  have z16 := K16.1
  show Go x (T16.setTop (mkF x.m 80 #[.val (.ref q), .val (.ref a)] [(.ref b11), (.ref q)]))
  refine g_aloadN X16 d61_80 rfl rfl ?_
  have E_18 := ((((E_4.ext E11).keep K12).ext E13).keep K16)
  have F19 := ((((F5.ext E11).keep K12 (ninS (k_neN (by omega)) nin0)).ext E13).keep K16 (ninS (k_neN (by omega)) (ninS (k_neN (by omega)) nin0)))
  have F20 := ((((F6.ext E11).keep K12 (ninS (k_neN (by omega)) nin0)).ext E13).keep K16 (ninS (k_neN (by omega)) (ninS (k_neN (by omega)) nin0)))
  have A21 := ((((A7.ext E11).keep K12 (ninS (k_neN (by omega)) nin0)).ext E13).keep K16 (ninS (k_neN (by omega)) (ninS (k_neN (by omega)) nin0)))
  refine g_callV X16 d61_81 (w110 hw) (w111 hw) (w113 hw) (w112 hw) (w93 hw) (w114 hw) (by decide) pd32 b11 [(.ref a)] [(.ref q)] 1 S1.1 (c_sbApp hw hs b11 t a ta ([] ++ [(107 : Int32), (113 : Int32), (58 : Int32), (123 : Int32)]) (cs.map lo8) ((List.replicate 16 0).drop 4) S1 E_18 F19 F20 A21 (by simp) (by simp; omega) (k_neN (by omega)) nb14 zl11 nb15 zlt) rfl rfl rfl (Nat.le_of_eq rfl) (by decide) (by decide) 6 80 rfl rfl (by decide) (by decide) (k_wsC ⟨nb14, zl11, (Or.inr fr11)⟩ (k_wsC ⟨nb15, zlt, wt⟩ (fun _ q => nomatch q))) fun v22 T22 h22 B22 X22 K22 M22 q22 => ?_
  obtain ⟨rfl, rfl, S2⟩ := q22
  have z22 := K22.1
  show Go x (T22.setTop (mkF x.m 84 #[.val (.ref q), .val (.ref a)] [(.ref b11), (.ref q)]))
  refine g_ldcC X22 rfl d61_84 (w148 hw) (strAtoms hw) hE47 [(125 : Int32), (58 : Int32)] (by decide) (by decide +kernel) 8 (by decide) (by decide) 8 92 rfl rfl (by decide) (by decide) fun T23 h23 B23 s23 t23 X23 E23 M23 Es23 Fc23 Fv23 At23 ls23 lt23 hn23 => ?_
  have z23 := E23.1
  have S2' := S2.ext E23
  have nb24 : ¬ B23 b11 := (M23.no nb14 (by omega))
  have nb25 : ¬ B23 t := (M23.no nb15 (by omega))
  have E_27 := (S2.1.ext E23)
  refine g_callV X23 d61_86 (w110 hw) (w111 hw) (w113 hw) (w112 hw) (w93 hw) (w114 hw) (by decide) pd32 b11 [(.ref s23)] [(.ref q)] 1 E_27 (c_sbApp hw hs b11 t s23 t23 ([] ++ [(107 : Int32), (113 : Int32), (58 : Int32), (123 : Int32)] ++ (cs.map lo8)) [(125 : Int32), (58 : Int32)] (((List.replicate 16 0).drop 4).drop (cs.map lo8).length) S2' Es23 Fc23 Fv23 At23 (by simp; omega) (by simp; omega) (Ne.symm (hn23 t nb25).2) nb24 zl11 nb25 zlt) rfl rfl rfl (Nat.le_of_eq rfl) (by decide) (by decide) 8 92 rfl rfl (by decide) (by decide) (k_wsC ⟨nb24, zl11, (Or.inr fr11)⟩ (k_wsC ⟨nb25, zlt, wt⟩ (fun _ q => nomatch q))) fun v26 T26 h26 B26 X26 K26 M26 q26 => ?_
  obtain ⟨rfl, rfl, S3⟩ := q26
  have z26 := K26.1
  show Go x (T26.setTop (mkF x.m 89 #[.val (.ref q), .val (.ref a)] [(.ref b11), (.ref q)]))
  refine g_callV X26 d61_89 (w149 hw) (w150 hw) (w152 hw) (w151 hw) (w93 hw) (w153 hw) (by decide) pd33 b11 [] [(.ref q)] 1 S3.1 (c_toStr hw hs b11 t _ _ S3 (by simp; omega) (by simp; omega)) rfl rfl rfl (Nat.le_of_eq rfl) (by decide) (by decide) 10 112 rfl rfl (by decide) (by decide) (fun _ q => nomatch q) fun v28 T28 h28 B28 X28 K28 M28 q28 => ?_
  obtain ⟨p, tp, rfl, rfl, fp, np, ftp, ntp, Ep, Fpc, Fpv, Ap, Etp⟩ := q28
  have z28 := K28.1
  show Go x (T28.setTop (mkF x.m 92 #[.val (.ref q), .val (.ref a)] [(.ref p), (.ref q)]))
  have lt_p := k_ltE Ep; have lt_tp := Ap.lt
  have F29 := (((((((((Fq.ext E2).ext E11).keep K12 (ninS (k_neN (by omega)) nin0)).ext E13).keep K16 (ninS (k_neN (by omega)) (ninS (k_neN (by omega)) nin0))).keep K22 (ninS (k_neN (by omega)) (ninS (k_neN (by omega)) nin0))).ext E23).keep K26 (ninS (k_neN (by omega)) (ninS (k_neN (by omega)) nin0))).keep K28 nin0)
  have E_30 := (((((((((E_q.ext E2).ext E11).keep K12).ext E13).keep K16).keep K22).ext E23).keep K26).keep K28)
  have nb31 : ¬ B23 q := (M23.no (M13.no (M2.no nb_q (by omega)) (by omega)) (by omega))
  refine g_putfield X28 d61_92 (w191 hw) Via.refl F29 E_30 (Or.inr ⟨(w192 hw), rfl, rfl⟩) (w32 hw) (ty := (.object "java/lang/String")) (v' := (.ref p)) (by decide) rfl rfl nb31 zl_q (Or.inl (List.mem_of_getElem? (i := 0) rfl)) fun T32 h32 X32 W32 => ?_
  have z32 := W32.size; have Fw32 := F29.same W32
  have E_33 := (E_30.wr W32)
  have E_34 := (Ep.wr W32)
  have F35 := (Fpc.other W32 (Or.inl (k_neN (by omega))))
  have F36 := (Fpv.other W32 (Or.inl (k_neN (by omega))))
  have A37 := (Ap.keep (Keep.of_wr W32) (ninS (k_neN (by omega)) nin0))
  exact g_return X32 d61_95 (by decide) (by decide) ⟨p, tp, rfl, E_33, Fw32, by omega, by omega, np, ntp, E_34, F35, F36, A37⟩
set_option maxRecDepth 65536 in
set_option maxHeartbeats 40000000 in
theorem c_jobH {l : Launch} {Z : State} {EL : List (String × Nat)} {a0 : Array Value} (hw : HW Z a0) (hs : Sts Z) {h0 : Heap} {B0 : BP} (q p tp : Addr) (pb : List Int32) (E_q : Exa Z h0 q "com/example/keen_queue/keenqueue/io/QueueKeys") (Fq : Fld Z h0 q "com/example/keen_queue/keenqueue/io/QueueKeys" "prefix" "Ljava/lang/String;" (.ref p)) (E_p : Exa Z h0 p "java/lang/String") (Fp_c : Fld Z h0 p "java/lang/String" "coder" "B" (.int 0)) (Fp_v : Fld Z h0 p "java/lang/String" "value" "[B" (.ref tp)) (A_tp : Ay Z h0 tp .byte (pb.map Value.int)) (hp : pb.length ≤ 8) (hb : ∀ b ∈ pb, lo8 b = b) (hE75 : ("com/example/keen_queue/keenqueue/io/QueueKeys", 75) ∈ EL) (hE77 : ("com/example/keen_queue/keenqueue/io/QueueKeys", 77) ∈ EL) (hE79 : ("com/example/keen_queue/keenqueue/io/QueueKeys", 79) ∈ EL) (hE81 : ("com/example/keen_queue/keenqueue/io/QueueKeys", 81) ∈ EL) (hE83 : ("com/example/keen_queue/keenqueue/io/QueueKeys", 83) ∈ EL) :
    Con false l Z EL (⟨"com/example/keen_queue/keenqueue/io/QueueKeys", "jobHashes", "()Ljava/util/List;"⟩ : MethodName) prog_1_method_13_code 1 (some (.object "java/util/List")) [] ({ frames := 8, cells := 42, slots := 663, locals := 120 } : Room) #[(.ref q)] h0 B0 [] (fun v h B => ∃ a e ra rb rc rd re, v = some (.ref a) ∧ Exa Z h a "java/util/ImmutableCollections$ListN" ∧ Fld Z h a "java/util/ImmutableCollections$ListN" "elements" "[Ljava/lang/Object;" (.ref e) ∧ Ay Z h e (.object "java/lang/Object") [.ref ra, .ref rb, .ref rc, .ref rd, .ref re] ∧ Ay Z h ra .byte ((utf8 (pb ++ [(112 : Int32), (97 : Int32), (121 : Int32), (108 : Int32), (111 : Int32), (97 : Int32), (100 : Int32)])).map Value.int) ∧ Exa Z h ra "[B" ∧ Ay Z h rb .byte ((utf8 (pb ++ [(97 : Int32), (116 : Int32), (116 : Int32), (101 : Int32), (109 : Int32), (112 : Int32), (116 : Int32)])).map Value.int) ∧ Exa Z h rb "[B" ∧ Ay Z h rc .byte ((utf8 (pb ++ [(116 : Int32), (111 : Int32), (107 : Int32), (101 : Int32), (110 : Int32)])).map Value.int) ∧ Exa Z h rc "[B" ∧ Ay Z h rd .byte ((utf8 (pb ++ [(101 : Int32), (114 : Int32), (114 : Int32), (111 : Int32), (114 : Int32)])).map Value.int) ∧ Exa Z h rd "[B" ∧ Ay Z h re .byte ((utf8 (pb ++ [(115 : Int32), (116 : Int32), (97 : Int32), (108 : Int32), (108 : Int32)])).map Value.int) ∧ Exa Z h re "[B") := by
  refine k_intro (Ls := #[.val (.ref q)]) (by decide +kernel) rfl fun x T0 X0 => ?_
  have lt_q := k_ltE E_q; have lt_p := k_ltE E_p; have lt_tp := A_tp.lt
  refine g_aloadN X0 d62_0 rfl rfl ?_
  refine g_callV X0 d62_1 (w198 hw) (w199 hw) (w201 hw) (w200 hw) (w33 hw) (w202 hw) (by decide) pd10 q [] [] 0 E_q (c_payloads hw hs q p tp pb E_q Fq E_p Fp_c Fp_v A_tp hp hb hE75) rfl rfl rfl (Nat.le_of_eq rfl) (by decide) (by decide) 8 136 rfl rfl (by decide) (by decide) (fun _ q => nomatch q) fun v1 T1 h1 B1 X1 K1 M1 q1 => ?_
  obtain ⟨ra, rfl, f_ra, n_ra, A_ra, E_ra⟩ := q1
  have z1 := K1.1
  show Go x (T1.setTop (mkF x.m 4 #[.val (.ref q)] [(.ref ra)]))
  have lt_ra := A_ra.lt
  refine g_aloadN X1 d62_4 rfl rfl ?_
  have E_2 := (E_q.keep K1)
  have F3 := (Fq.keep K1 nin0)
  have E_4 := (E_p.keep K1)
  have F5 := (Fp_c.keep K1 nin0)
  have F6 := (Fp_v.keep K1 nin0)
  have A7 := (A_tp.keep K1 nin0)
  refine g_callV X1 d62_5 (w239 hw) (w240 hw) (w242 hw) (w241 hw) (w33 hw) (w243 hw) (by decide) pd10 q [] [(.ref ra)] 1 E_2 (c_attempts hw hs q p tp pb E_2 F3 E_4 F5 F6 A7 hp hb hE77) rfl rfl rfl (Nat.le_of_eq rfl) (by decide) (by decide) 16 272 rfl rfl (by decide) (by decide) (fun _ q => nomatch q) fun v8 T8 h8 B8 X8 K8 M8 q8 => ?_
  obtain ⟨rb, rfl, f_rb, n_rb, A_rb, E_rb⟩ := q8
  have z8 := K8.1
  show Go x (T8.setTop (mkF x.m 8 #[.val (.ref q)] [(.ref rb), (.ref ra)]))
  have lt_rb := A_rb.lt
  refine g_aloadN X8 d62_8 rfl rfl ?_
  have E_9 := (E_2.keep K8)
  have F10 := (F3.keep K8 nin0)
  have E_11 := (E_4.keep K8)
  have F12 := (F5.keep K8 nin0)
  have F13 := (F6.keep K8 nin0)
  have A14 := (A7.keep K8 nin0)
  refine g_callV X8 d62_9 (w245 hw) (w246 hw) (w248 hw) (w247 hw) (w33 hw) (w249 hw) (by decide) pd10 q [] [(.ref rb), (.ref ra)] 2 E_9 (c_tokens hw hs q p tp pb E_9 F10 E_11 F12 F13 A14 hp hb hE79) rfl rfl rfl (Nat.le_of_eq rfl) (by decide) (by decide) 24 400 rfl rfl (by decide) (by decide) (fun _ q => nomatch q) fun v15 T15 h15 B15 X15 K15 M15 q15 => ?_
  obtain ⟨rc, rfl, f_rc, n_rc, A_rc, E_rc⟩ := q15
  have z15 := K15.1
  show Go x (T15.setTop (mkF x.m 12 #[.val (.ref q)] [(.ref rc), (.ref rb), (.ref ra)]))
  have lt_rc := A_rc.lt
  refine g_aloadN X15 d62_12 rfl rfl ?_
  have E_16 := (E_9.keep K15)
  have F17 := (F10.keep K15 nin0)
  have E_18 := (E_11.keep K15)
  have F19 := (F12.keep K15 nin0)
  have F20 := (F13.keep K15 nin0)
  have A21 := (A14.keep K15 nin0)
  refine g_callV X15 d62_13 (w251 hw) (w252 hw) (w254 hw) (w253 hw) (w33 hw) (w255 hw) (by decide) pd10 q [] [(.ref rc), (.ref rb), (.ref ra)] 3 E_16 (c_errors hw hs q p tp pb E_16 F17 E_18 F19 F20 A21 hp hb hE81) rfl rfl rfl (Nat.le_of_eq rfl) (by decide) (by decide) 32 528 rfl rfl (by decide) (by decide) (fun _ q => nomatch q) fun v22 T22 h22 B22 X22 K22 M22 q22 => ?_
  obtain ⟨rd, rfl, f_rd, n_rd, A_rd, E_rd⟩ := q22
  have z22 := K22.1
  show Go x (T22.setTop (mkF x.m 16 #[.val (.ref q)] [(.ref rd), (.ref rc), (.ref rb), (.ref ra)]))
  have lt_rd := A_rd.lt
  refine g_aloadN X22 d62_16 rfl rfl ?_
  have E_23 := (E_16.keep K22)
  have F24 := (F17.keep K22 nin0)
  have E_25 := (E_18.keep K22)
  have F26 := (F19.keep K22 nin0)
  have F27 := (F20.keep K22 nin0)
  have A28 := (A21.keep K22 nin0)
  refine g_callV X22 d62_17 (w257 hw) (w258 hw) (w260 hw) (w259 hw) (w33 hw) (w261 hw) (by decide) pd10 q [] [(.ref rd), (.ref rc), (.ref rb), (.ref ra)] 4 E_23 (c_stalls hw hs q p tp pb E_23 F24 E_25 F26 F27 A28 hp hb hE83) rfl rfl rfl (Nat.le_of_eq rfl) (by decide) (by decide) 40 656 rfl rfl (by decide) (by decide) (fun _ q => nomatch q) fun v29 T29 h29 B29 X29 K29 M29 q29 => ?_
  obtain ⟨re, rfl, f_re, n_re, A_re, E_re⟩ := q29
  have z29 := K29.1
  show Go x (T29.setTop (mkF x.m 20 #[.val (.ref q)] [(.ref re), (.ref rd), (.ref rc), (.ref rb), (.ref ra)]))
  have lt_re := A_re.lt
  have E_30 := ((((E_ra.keep K8).keep K15).keep K22).keep K29)
  have E_31 := (((E_rb.keep K15).keep K22).keep K29)
  have E_32 := ((E_rc.keep K22).keep K29)
  have E_33 := (E_rd.keep K29)
  refine g_callS X29 d62_20 (w263 hw) (w264 hw) (w265 hw) (w266 hw) (by decide) pd37 [(.ref ra), (.ref rb), (.ref rc), (.ref rd), (.ref re)] [] 0 (c_listOf hw hs ra rb rc rd re E_30 E_31 E_32 E_33 E_re) rfl rfl rfl (Nat.le_of_eq rfl) (by decide) (by decide) 42 663 rfl rfl (by decide) (by decide) (fun _ q => nomatch q) fun v34 T34 h34 B34 X34 K34 M34 q34 => ?_
  obtain ⟨a, e, rfl, rfl, fa, nba, Ea, Fa, fe, Ae⟩ := q34
  have z34 := K34.1
  show Go x (T34.setTop (mkF x.m 23 #[.val (.ref q)] [(.ref a)]))
  have A35 := (((((A_ra.keep K8 nin0).keep K15 nin0).keep K22 nin0).keep K29 nin0).keep K34 nin0)
  have E_36 := (E_30.keep K34)
  have A37 := ((((A_rb.keep K15 nin0).keep K22 nin0).keep K29 nin0).keep K34 nin0)
  have E_38 := (E_31.keep K34)
  have A39 := (((A_rc.keep K22 nin0).keep K29 nin0).keep K34 nin0)
  have E_40 := (E_32.keep K34)
  have A41 := ((A_rd.keep K29 nin0).keep K34 nin0)
  have E_42 := (E_33.keep K34)
  have A43 := (A_re.keep K34 nin0)
  have E_44 := (E_re.keep K34)
  exact g_areturn X34 d62_23 rfl rfl rfl (by decide) (by decide) ⟨a, e, ra, rb, rc, rd, re, rfl, Ea, Fa, Ae, A35, E_36, A37, E_38, A39, E_40, A41, E_42, A43, E_44⟩
set_option maxRecDepth 65536 in
set_option maxHeartbeats 40000000 in
theorem c_canEncC {nw : Bool} {l : Launch} {Z : State} {EL : List (String × Nat)} {a0 : Array Value} (hw : HW Z a0) (hs : Sts Z) {h0 : Heap} {B0 : BP} (c : Int32) (hc : ¬ 255 < c) :
    Con nw l Z EL (⟨"java/lang/StringLatin1", "canEncode", "(C)Z"⟩ : MethodName) jdk_43_method_3_code 1 (some .boolean) [] ({ frames := 0, cells := 0, slots := 0, locals := 0 } : Room) #[(.int c)] h0 B0 [] (PQ (some (.int (1 : Int32))) h0 B0) := by
  refine k_intro (Ls := #[.val (.int c)]) (by decide +kernel) rfl fun x T0 X0 => ?_
  refine g_iloadN X0 d63_0 rfl ?_
  refine g_sipush X0 (255 : Int32) d63_1 (by decide) ?_
  refine g_icmpF X0 d63_4 (XT.ii_gt_f hc) ?_
  refine g_iconst X0 (1 : Int32) d63_7 (by decide) ?_
  refine g_goto X0 d63_8 ?_
  exact g_ireturn (w' := (1 : Int32)) X0 d63_12 (Or.inl rfl) (by decide) (by decide) (by decide) ⟨rfl, rfl, rfl⟩
set_option maxRecDepth 65536 in
set_option maxHeartbeats 40000000 in
theorem c_toBytesC {nw : Bool} {l : Launch} {Z : State} {EL : List (String × Nat)} {a0 : Array Value} (hw : HW Z a0) (hs : Sts Z) {h0 : Heap} {B0 : BP} (c : Int32)  :
    Con nw l Z EL (⟨"java/lang/StringLatin1", "toBytes", "(C)[B"⟩ : MethodName) jdk_43_method_46_code 1 (some (.array .byte)) [] ({ frames := 0, cells := 1, slots := 1, locals := 0 } : Room) #[(.int c)] h0 B0 [] (fun v h B => ∃ t, v = some (.ref t) ∧ B0 = B ∧ h0.size ≤ t ∧ Ay Z h t .byte [.int (lo8 c)]) := by
  refine k_intro (Ls := #[.val (.int c)]) (by decide +kernel) rfl fun x T0 X0 => ?_
  refine g_iconst X0 (1 : Int32) d64_0 (by decide) ?_
  refine g_newarray X0 d64_1 rfl (w14 hw) 1 1 (by decide) (Nat.le_refl _) (by decide) 1 1 rfl rfl (by decide) (by decide) fun T1 h1 b1 X1 E1 eb1 nb1 A1 => ?_
  have z1 := E1.1; have lt1 : @LT.lt Nat _ b1 h1.size := A1.lt; have zl1 : @LE.le Nat _ Z.heap.size b1 := eb1 ▸ X0.szZ; have fr1 : @LE.le Nat _ h0.size b1 := eb1 ▸ X0.sz
  have A1a : Ay Z h1 b1 .byte [(.int (0 : Int32))] := A1
  refine g_dup X1 d64_3 rfl ?_
  refine g_iconst X1 (0 : Int32) d64_4 (by decide) ?_
  refine g_iloadN X1 d64_5 rfl ?_
  refine g_i2b X1 (lo8 c) d64_6 rfl ?_
  refine g_bastore X1 d64_7 A1a 0 (by decide) (lo8 c) (nar_b8 c) (Nat.le_of_ble_eq_true rfl) nb1 zl1 (Or.inr fr1) fun T2 h2 X2 K2 A2 => ?_
  have z2 := K2.1
  have A2a : Ay Z h2 b1 .byte [(.int (lo8 c))] := A2
  exact g_areturn X2 d64_8 rfl rfl rfl (by decide) (by decide) ⟨_, rfl, rfl, fr1, A2a⟩
set_option maxRecDepth 65536 in
set_option maxHeartbeats 40000000 in
theorem c_initBB {nw : Bool} {l : Launch} {Z : State} {EL : List (String × Nat)} {a0 : Array Value} (hw : HW Z a0) (hs : Sts Z) {h0 : Heap} {B0 : BP} (a t : Addr) (cd : Int32) (E_a : Exa Z h0 a "java/lang/String") {u_value : Value} (F_value : Fld Z h0 a "java/lang/String" "value" "[B" u_value) {u_coder : Value} (F_coder : Fld Z h0 a "java/lang/String" "coder" "B" u_coder) (nb : ¬ B0 a) (zl : Z.heap.size ≤ a) (hcd : cd = 0 ∨ cd = 1) :
    Con nw l Z EL (⟨"java/lang/String", "<init>", "([BB)V"⟩ : MethodName) jdk_42_method_151_code 3 none [] ({ frames := 1, cells := 0, slots := 0, locals := 12 } : Room) #[(.ref a), (.ref t), (.int cd)] h0 B0 [a] (fun v h B => v = none ∧ B0 = B ∧ Exa Z h a "java/lang/String" ∧ Fld Z h a "java/lang/String" "coder" "B" (.int cd) ∧ Fld Z h a "java/lang/String" "value" "[B" (.ref t)) := by
  refine k_intro (Ls := #[.val (.ref a), .val (.ref t), .val (.int cd)]) (by decide +kernel) rfl fun x T0 X0 => ?_
  have lt_a := k_ltE E_a
  refine g_aloadN X0 d65_0 rfl rfl ?_
  refine g_init X0 d65_1 rfl rfl (w19 hw) (w20 hw) (w21 hw) 0 rfl (by decide) (Nat.le_of_eq rfl) (by decide) fun T1 X1 => ?_
  refine g_aloadN X1 d65_4 rfl rfl ?_
  refine g_aloadN X1 d65_5 rfl rfl ?_
  refine g_putfield X1 d65_6 (w22 hw) Via.refl F_value E_a (Or.inr ⟨(w23 hw), rfl, rfl⟩) (w10 hw) (ty := (.array .byte)) (v' := (.ref t)) (by decide) rfl rfl nb zl (Or.inl (List.mem_of_getElem? (i := 0) rfl)) fun T2 h2 X2 W2 => ?_
  have z2 := W2.size; have Fw2 := F_value.same W2
  refine g_aloadN X2 d65_9 rfl rfl ?_
  refine g_iloadN X2 d65_10 rfl ?_
  have F3 := (F_coder.other W2 (Or.inr (slot_ne (Or.inr (w25 hw)) (Or.inr (w23 hw)) (by decide) (t := .byte) (t' := (.array .byte)) (by decide) (by decide))))
  have E_4 := (E_a.wr W2)
  refine g_putfield X2 d65_11 (w24 hw) Via.refl F3 E_4 (Or.inr ⟨(w25 hw), rfl, rfl⟩) (w10 hw) (ty := .byte) (v' := (.int cd)) (by decide) (by rcases hcd with rfl | rfl <;> rfl) (by rcases hcd with rfl | rfl <;> rfl) nb zl (Or.inl (List.mem_of_getElem? (i := 0) rfl)) fun T5 h5 X5 W5 => ?_
  have z5 := W5.size; have Fw5 := F3.same W5
  have F6 := (Fw2.other W5 (Or.inr (slot_ne (Or.inr (w23 hw)) (Or.inr (w25 hw)) (by decide) (t := (.array .byte)) (t' := .byte) (by decide) (by decide))))
  have E_7 := (E_4.wr W5)
  exact g_return X5 d65_14 (by decide) (by decide) ⟨rfl, rfl, E_7, Fw5, F6⟩
set_option maxRecDepth 65536 in
set_option maxHeartbeats 40000000 in
theorem c_valueOfC {nw : Bool} {l : Launch} {Z : State} {EL : List (String × Nat)} {a0 : Array Value} (hw : HW Z a0) (hs : Sts Z) {h0 : Heap} {B0 : BP} (c : Int32) (hc : ¬ 255 < c) :
    Con nw l Z EL (⟨"java/lang/String", "valueOf", "(C)Ljava/lang/String;"⟩ : MethodName) jdk_42_method_139_code 1 (some (.object "java/lang/String")) [] ({ frames := 2, cells := 2, slots := 5, locals := 27 } : Room) #[(.int c)] h0 B0 [] (fun v h B => ∃ a, v = some (.ref a) ∧ B0 = B ∧ h0.size ≤ a ∧ ¬ B a ∧ Str Z h h.size a 0 [lo8 c]) := by
  refine k_intro (Ls := #[.val (.int c)]) (by decide +kernel) rfl fun x T0 X0 => ?_
  obtain ⟨cv, sCS, ncv⟩ := hs.1
  refine g_getstatic X0 d66_0 (w4 hw) Via.refl sCS fun T1 X1 => ?_
  refine g_ifF X1 d66_3 (XT.i0_eq_f ncv) ?_
  refine g_iloadN X1 d66_6 rfl ?_
  refine g_callSp X1 d66_7 (w5 hw) (w6 hw) (w7 hw) (w8 hw) (by decide) pd38 [(.int c)] [] 0 (c_canEncC hw hs c hc) rfl rfl rfl (Nat.le_of_eq rfl) (by decide) (by decide) 0 0 rfl rfl (by decide) (by decide) fun T2 X2 => ?_
  refine g_ifF X2 d66_10 (by decide) ?_
  refine g_new X2 d66_13 (w9 hw) (w10 hw) (w2 hw) 1 4 rfl rfl (by decide) (by decide) fun T3 h3 b3 X3 E3 eb3 nb3 Ex3 D3 => ?_
  have z3 := E3.1; have lt3 : @LT.lt Nat _ b3 h3.size := Ex3.lt; have zl3 : @LE.le Nat _ Z.heap.size b3 := eb3 ▸ X2.szZ; have fr3 : @LE.le Nat _ h0.size b3 := eb3 ▸ X2.sz
  have F3_value : Fld Z h3 b3 "java/lang/String" "value" "[B" .null := D3 (Or.inr (w23 hw)) (ty := (.array .byte)) (by decide)
  have F3_coder : Fld Z h3 b3 "java/lang/String" "coder" "B" (.int (0 : Int32)) := D3 (Or.inr (w25 hw)) (ty := .byte) (by decide)
  refine g_dup X3 d66_16 rfl ?_
  refine g_iloadN X3 d66_17 rfl ?_
  refine g_callS X3 d66_18 (w11 hw) (w12 hw) (w7 hw) (w13 hw) (by decide) pd39 [(.int c)] [(.ref b3), (.ref b3)] 2 (c_toBytesC hw hs c) rfl rfl rfl (Nat.le_of_eq rfl) (by decide) (by decide) 2 5 rfl rfl (by decide) (by decide) (fun _ q => nomatch q) fun v4 T4 h4 B4 X4 K4 M4 q4 => ?_
  obtain ⟨t, rfl, rfl, ft, At⟩ := q4
  have z4 := K4.1
  show Go x (T4.setTop (mkF x.m 21 #[.val (.int c)] [(.ref t), (.ref b3), (.ref b3)]))
  have lt_t := At.lt
  refine g_iconst X4 (0 : Int32) d66_21 (by decide) ?_
  have F5 := (F3_value.keep K4 nin0)
  have F6 := (F3_coder.keep K4 nin0)
  have E_7 := (Ex3.keep K4)
  refine g_callI X4 d66_22 (w15 hw) (w16 hw) (w2 hw) (w18 hw) rfl (by decide) pd40 b3 [(.ref t), (.int (0 : Int32))] [(.ref b3)] 1 (c_initBB hw hs b3 t 0 E_7 F5 F6 nb3 zl3 (Or.inl rfl)) rfl rfl rfl (Nat.le_of_eq rfl) (by decide) (by decide) 2 5 rfl rfl (by decide) (by decide) (k_ws1 ⟨nb3, zl3, (Or.inr fr3)⟩) fun v8 T8 h8 B8 X8 K8 M8 q8 => ?_
  obtain ⟨rfl, rfl, Es, Fc, Fv⟩ := q8
  have z8 := K8.1
  show Go x (T8.setTop (mkF x.m 25 #[.val (.int c)] [(.ref b3)]))
  have A9 := (At.keep K8 (ninS (k_neN (by omega)) nin0))
  exact g_areturn X8 d66_25 rfl rfl rfl (by decide) (by decide) ⟨_, rfl, rfl, fr3, nb3, t, Es.lt, A9.lt, Es, Fc, Fv, A9⟩
set_option maxRecDepth 65536 in
set_option maxHeartbeats 40000000 in
theorem c_compress5 {nw : Bool} {l : Launch} {Z : State} {EL : List (String × Nat)} {a0 : Array Value} (hw : HW Z a0) (hs : Sts Z) {h0 : Heap} {B0 : BP} (a1 a2 : Addr) (cs : List Int32) (Aa : Ay Z h0 a1 .char (cs.map Value.int)) (Ab : Ay Z h0 a2 .byte (List.replicate cs.length (.int 0))) (ne : @Ne Nat a1 a2) (nb : ¬ B0 a2) (zl : Z.heap.size ≤ a2) :
    Con nw l Z EL (⟨"java/lang/StringUTF16", "compress", "([CI[BII)I"⟩ : MethodName) jdk_52_method_21_code 7 (some .int) [] ({ frames := 0, cells := 0, slots := 0, locals := 0 } : Room) #[(.ref a1), (.int (0 : Int32)), (.ref a2), (.int (0 : Int32)), (.int (Int32.ofNat cs.length))] h0 B0 [a2] (fun v h B => ∃ i, i ≤ cs.length ∧ v = some (.int (Int32.ofNat i)) ∧ B0 = B ∧ (∀ c ∈ cs.take i, ¬ 255 < c) ∧ (∀ hi : i < cs.length, 255 < cs[i]) ∧ Ay Z h a2 .byte ((cs.take i).map (fun c => Value.int (lo8 c)) ++ List.replicate (cs.length - i) (.int 0))) := by
  refine k_intro (Ls := #[.val (.ref a1), .val (.int (0 : Int32)), .val (.ref a2), .val (.int (0 : Int32)), .val (.int (Int32.ofNat cs.length)), .unset, .unset]) (by decide +kernel) rfl fun x T0 X0 => ?_
  have hlen : cs.length < 2 ^ 31 := by simpa using Aa.len
  refine g_iconst X0 (0 : Int32) d67_0 (by decide) ?_
  refine g_istore X0 #[.val (.ref a1), .val (.int (0 : Int32)), .val (.ref a2), .val (.int (0 : Int32)), .val (.int (Int32.ofNat cs.length)), .val (.int (0 : Int32)), .unset] d67_1 rfl ?_
  have loop : ∀ (d i : Nat) (hi : i + d = cs.length) (s6 : Slot) (h6 : LS s6) (T : State) (h : Heap) (X : Wk nw l Z EL "java/lang/StringUTF16" jdk_52_method_21_code 7 (some .int) "compress" ({ frames := 0, cells := 0, slots := 0, locals := 0 } : Room) h0 B0 [a2] (fun v h B => ∃ i, i ≤ cs.length ∧ v = some (.int (Int32.ofNat i)) ∧ B0 = B ∧ (∀ c ∈ cs.take i, ¬ 255 < c) ∧ (∀ hi : i < cs.length, 255 < cs[i]) ∧ Ay Z h a2 .byte ((cs.take i).map (fun c => Value.int (lo8 c)) ++ List.replicate (cs.length - i) (.int 0))) x T h B0 0 0) (hlo : ∀ c ∈ cs.take i, ¬ 255 < c) (A : Ay Z h a2 .byte ((cs.take i).map (fun c => Value.int (lo8 c)) ++ List.replicate (cs.length - i) (.int 0))), Go x (T.setTop (mkF x.m 3 #[.val (.ref a1), .val (.int (Int32.ofNat i)), .val (.ref a2), .val (.int (Int32.ofNat i)), .val (.int (Int32.ofNat cs.length)), .val (.int (Int32.ofNat i)), s6] [])) := by
    intro d
    induction d with
    | zero =>
      intro i hi s6 h6 T h X hlo A
      obtain rfl : i = cs.length := by omega
      refine g_iload X d67_3 rfl ?_
      refine g_iload X d67_5 rfl ?_
      refine g_icmpT X d67_7 (XT.ii_ge_t (k_nlt (Nat.le_refl _) hlen)) ?_
      refine g_iload X d67_44 rfl ?_
      exact g_ireturnI X d67_46 (by decide) (by decide) ⟨cs.length, Nat.le_refl _, rfl, rfl, hlo, fun hi => absurd hi (Nat.lt_irrefl _), A⟩
    | succ d ih =>
      intro i hi s6 h6 T h X hlo A
      have hil : i < cs.length := by omega
      refine g_iload X d67_3 rfl ?_
      refine g_iload X d67_5 rfl ?_
      refine g_icmpF X d67_7 (XT.ii_ge_f (k_lt hil hlen)) ?_
      refine g_aloadN X d67_10 rfl rfl ?_
      refine g_iloadN X d67_11 rfl ?_
      have Aa' := Aa.keep X.kept (ninS ne nin0)
      refine g_caload X d67_12 Aa' i rfl (v := .int cs[i]) (by simp [hil]) ?_
      refine g_istore X #[.val (.ref a1), .val (.int (Int32.ofNat i)), .val (.ref a2), .val (.int (Int32.ofNat i)), .val (.int (Int32.ofNat cs.length)), .val (.int (Int32.ofNat i)), .val (.int (cs[i]))] d67_13 (by rcases h6 with rfl | ⟨u, rfl⟩ <;> rfl) ?_
      refine g_iload X d67_15 rfl ?_
      refine g_sipush X (255 : Int32) d67_17 (by decide) ?_
      by_cases hb : (255 : Int32) < (cs[i])
      ·
        refine g_icmpF X d67_20 (XT.ii_le_f hb) ?_
        refine g_iload X d67_23 rfl ?_
        exact g_ireturnI X d67_25 (by decide) (by decide) ⟨i, Nat.le_of_lt hil, rfl, rfl, hlo, fun _ => hb, A⟩
      ·
        refine g_icmpT X d67_20 (XT.ii_le_t hb) ?_
        refine g_aloadN X d67_26 rfl rfl ?_
        refine g_iloadN X d67_27 rfl ?_
        refine g_iload X d67_28 rfl ?_
        refine g_i2b X (lo8 cs[i]) d67_30 rfl ?_
        refine g_bastore X d67_31 A i rfl (lo8 cs[i]) (nar_b8 _) (by simp; omega) nb zl (Or.inl (List.mem_of_getElem? (i := 0) rfl)) fun T1 h1 X1 K1 A1 => ?_
        have z1 := K1.1
        rw [k_fill cs lo8 i hil] at A1
        refine g_iinc X1 #[.val (.ref a1), .val (.int (Int32.ofNat (i + 1))), .val (.ref a2), .val (.int (Int32.ofNat i)), .val (.int (Int32.ofNat cs.length)), .val (.int (Int32.ofNat i)), .val (.int (cs[i]))] d67_32 rfl (k_inc i) rfl ?_
        refine g_iinc X1 #[.val (.ref a1), .val (.int (Int32.ofNat (i + 1))), .val (.ref a2), .val (.int (Int32.ofNat (i + 1))), .val (.int (Int32.ofNat cs.length)), .val (.int (Int32.ofNat i)), .val (.int (cs[i]))] d67_35 rfl (k_inc i) rfl ?_
        refine g_iinc X1 #[.val (.ref a1), .val (.int (Int32.ofNat (i + 1))), .val (.ref a2), .val (.int (Int32.ofNat (i + 1))), .val (.int (Int32.ofNat cs.length)), .val (.int (Int32.ofNat (i + 1))), .val (.int (cs[i]))] d67_38 rfl (k_inc i) rfl ?_
        refine g_goto X1 d67_41 ?_
        refine ih (i + 1) (by omega) (.val (.int cs[i])) (Or.inr ⟨_, rfl⟩) T1 h1 X1 ?_ A1
        intro c hc
        rw [List.take_succ_eq_append_getElem hil] at hc
        rcases List.mem_append.mp hc with q | q
        · exact hlo c q
        · rw [List.mem_singleton.mp q]; exact hb
  exact loop cs.length 0 (by omega) .unset (Or.inl rfl) T0 h0 X0 (fun c q => by simp at q) (by simpa using Ab)
set_option maxRecDepth 65536 in
set_option maxHeartbeats 40000000 in
theorem c_compress3L {nw : Bool} {l : Launch} {Z : State} {EL : List (String × Nat)} {a0 : Array Value} (hw : HW Z a0) (hs : Sts Z) {h0 : Heap} {B0 : BP} (a1 : Addr) (cs : List Int32) (Aa : Ay Z h0 a1 .char (cs.map Value.int)) (hcap : cs.length ≤ 2) (hlat : ∀ c ∈ cs, ¬ 255 < c) :
    Con nw l Z EL (⟨"java/lang/StringUTF16", "compress", "([CII)[B"⟩ : MethodName) jdk_52_method_16_code 6 (some (.array .byte)) [] ({ frames := 1, cells := 1, slots := 2, locals := 18 } : Room) #[(.ref a1), (.int (0 : Int32)), (.int (Int32.ofNat cs.length))] h0 B0 [] (fun v h B => ∃ t, v = some (.ref t) ∧ B0 = B ∧ h0.size ≤ t ∧ Ay Z h t .byte ((cs.map lo8).map Value.int)) := by
  refine k_intro (Ls := #[.val (.ref a1), .val (.int (0 : Int32)), .val (.int (Int32.ofNat cs.length)), .unset, .unset, .unset]) (by decide +kernel) rfl fun x T0 X0 => ?_
  have hlen : cs.length < 2 ^ 31 := by omega
  have lt_a1 := Aa.lt
  refine g_iloadN X0 d68_0 rfl ?_
  refine g_newarray X0 d68_1 rfl (w14 hw) cs.length 2 rfl hcap (by decide) 1 2 rfl rfl (by decide) (by decide) fun T1 h1 b1 X1 E1 eb1 nb1 A1 => ?_
  have z1 := E1.1; have lt1 : @LT.lt Nat _ b1 h1.size := A1.lt; have zl1 : @LE.le Nat _ Z.heap.size b1 := eb1 ▸ X0.szZ; have fr1 : @LE.le Nat _ h0.size b1 := eb1 ▸ X0.sz
  refine g_astoreN X1 #[.val (.ref a1), .val (.int (0 : Int32)), .val (.int (Int32.ofNat cs.length)), .val (.ref b1), .unset, .unset] d68_3 rfl rfl ?_
  refine g_aloadN X1 d68_4 rfl rfl ?_
  refine g_iloadN X1 d68_5 rfl ?_
  refine g_aloadN X1 d68_6 rfl rfl ?_
  refine g_iconst X1 (0 : Int32) d68_7 (by decide) ?_
  refine g_iloadN X1 d68_8 rfl ?_
  have A2 := (Aa.ext E1)
  refine g_callS X1 d68_9 (w379 hw) (w380 hw) (w359 hw) (w381 hw) (by decide) pd41 [(.ref a1), (.int (0 : Int32)), (.ref b1), (.int (0 : Int32)), (.int (Int32.ofNat cs.length))] [] 0 (c_compress5 hw hs a1 b1 cs A2 A1 (k_neN (by omega)) nb1 zl1) rfl rfl rfl (Nat.le_of_eq rfl) (by decide) (by decide) 1 2 rfl rfl (by decide) (by decide) (k_ws1 ⟨nb1, zl1, (Or.inr fr1)⟩) fun v3 T3 h3 B3 X3 K3 M3 q3 => ?_
  obtain ⟨i, hi, rfl, rfl, hlo, hhi, At⟩ := q3
  have z3 := K3.1
  show Go x (T3.setTop (mkF x.m 12 #[.val (.ref a1), .val (.int (0 : Int32)), .val (.int (Int32.ofNat cs.length)), .val (.ref b1), .unset, .unset] [(.int (Int32.ofNat i))]))
  obtain rfl : i = cs.length := by
    rcases Nat.lt_or_ge i cs.length with q | q
    · exact absurd (hhi q) (hlat _ (List.getElem_mem q))
    · omega
  refine g_istore X3 #[.val (.ref a1), .val (.int (0 : Int32)), .val (.int (Int32.ofNat cs.length)), .val (.ref b1), .val (.int (Int32.ofNat cs.length)), .unset] d68_12 rfl ?_
  refine g_iload X3 d68_14 rfl ?_
  refine g_iloadN X3 d68_16 rfl ?_
  refine g_icmpT X3 d68_17 (XT.ii_eq_t rfl) ?_
  refine g_aloadN X3 d68_57 rfl rfl ?_
  exact g_areturn X3 d68_58 rfl rfl rfl (by decide) (by decide) ⟨_, rfl, rfl, fr1, by simp at At; rw [List.map_map]; exact At⟩
set_option maxRecDepth 65536 in
set_option maxHeartbeats 40000000 in
theorem c_coderL {nw : Bool} {l : Launch} {Z : State} {EL : List (String × Nat)} {a0 : Array Value} (hw : HW Z a0) (hs : Sts Z) {h0 : Heap} {B0 : BP} (t : Addr) (vs : List Value) (A : Ay Z h0 t .byte vs) :
    Con nw l Z EL (⟨"java/lang/StringUTF16", "coderFromArrayLen", "([BI)B"⟩ : MethodName) jdk_52_method_15_code 2 (some .byte) [] ({ frames := 0, cells := 0, slots := 0, locals := 0 } : Room) #[(.ref t), (.int (Int32.ofNat vs.length))] h0 B0 [] (PQ (some (.int (0 : Int32))) h0 B0) := by
  refine k_intro (Ls := #[.val (.ref t), .val (.int (Int32.ofNat vs.length))]) (by decide +kernel) rfl fun x T0 X0 => ?_
  refine g_iloadN X0 d69_0 rfl ?_
  refine g_aloadN X0 d69_1 rfl rfl ?_
  refine g_arraylength X0 d69_2 A _ rfl ?_
  refine g_isub X0 (0 : Int32) d69_3 (by simp) ?_
  refine g_bipush X0 (31 : Int32) d69_4 (by decide) ?_
  refine g_iushr X0 (0 : Int32) d69_6 (by decide) ?_
  refine g_i2b X0 (0 : Int32) d69_7 (by decide) ?_
  exact g_ireturn (w' := (0 : Int32)) X0 d69_8 (Or.inr (Or.inl rfl)) (by decide) (by decide) (by decide) ⟨rfl, rfl, rfl⟩
set_option maxRecDepth 65536 in
set_option maxHeartbeats 40000000 in
theorem c_initCIIL {nw : Bool} {l : Launch} {Z : State} {EL : List (String × Nat)} {a0 : Array Value} (hw : HW Z a0) (hs : Sts Z) {h0 : Heap} {B0 : BP} (a a1 : Addr) (cs : List Int32) (E_a : Exa Z h0 a "java/lang/String") {u_value : Value} (F_value : Fld Z h0 a "java/lang/String" "value" "[B" u_value) {u_coder : Value} (F_coder : Fld Z h0 a "java/lang/String" "coder" "B" u_coder) (nb : ¬ B0 a) (zl : Z.heap.size ≤ a) (Aa : Ay Z h0 a1 .char (cs.map Value.int)) (ne : @Ne Nat a a1) (hne : cs ≠ []) (hcap : cs.length ≤ 2) (hlat : ∀ c ∈ cs, ¬ 255 < c) :
    Con nw l Z EL (⟨"java/lang/String", "<init>", "([CIILjava/lang/Void;)V"⟩ : MethodName) jdk_42_method_149_code 6 none [] ({ frames := 2, cells := 1, slots := 2, locals := 35 } : Room) #[(.ref a), (.ref a1), (.int (0 : Int32)), (.int (Int32.ofNat cs.length)), .null] h0 B0 [a] (fun v h B => v = none ∧ B0 = B ∧ Str Z h h.size a 0 (cs.map lo8)) := by
  refine k_intro (Ls := #[.val (.ref a), .val (.ref a1), .val (.int (0 : Int32)), .val (.int (Int32.ofNat cs.length)), .val .null, .unset]) (by decide +kernel) rfl fun x T0 X0 => ?_
  have hlen : cs.length < 2 ^ 31 := by omega
  have hpos : 0 < cs.length := List.length_pos_iff.mpr hne
  have lt_a1 := Aa.lt
  obtain ⟨cv, sCS, ncv⟩ := hs.1
  have lt_a := k_ltE E_a
  refine g_aloadN X0 d70_0 rfl rfl ?_
  refine g_init X0 d70_1 rfl rfl (w19 hw) (w20 hw) (w21 hw) 0 rfl (by decide) (Nat.le_of_eq rfl) (by decide) fun T1 X1 => ?_
  refine g_iloadN X1 d70_4 rfl ?_
  refine g_ifT X1 d70_5 (XT.i0_ne_t (fun q => absurd ((k_eqn hlen (by decide)).mp (show Int32.ofNat cs.length = Int32.ofNat 0 from q)) (by omega))) ?_
  refine g_getstatic X1 d70_27 (w4 hw) Via.refl sCS fun T2 X2 => ?_
  refine g_ifF X2 d70_30 (XT.i0_eq_f ncv) ?_
  refine g_aloadN X2 d70_33 rfl rfl ?_
  refine g_iloadN X2 d70_34 rfl ?_
  refine g_iloadN X2 d70_35 rfl ?_
  refine g_callS X2 d70_36 (w376 hw) (w377 hw) (w359 hw) (w378 hw) (by decide) pd42 [(.ref a1), (.int (0 : Int32)), (.int (Int32.ofNat cs.length))] [] 0 (c_compress3L hw hs a1 cs Aa hcap hlat) rfl rfl rfl (Nat.le_of_eq rfl) (by decide) (by decide) 1 2 rfl rfl (by decide) (by decide) (fun _ q => nomatch q) fun v3 T3 h3 B3 X3 K3 M3 q3 => ?_
  obtain ⟨t, rfl, rfl, ft, At⟩ := q3
  have z3 := K3.1
  show Go x (T3.setTop (mkF x.m 39 #[.val (.ref a), .val (.ref a1), .val (.int (0 : Int32)), .val (.int (Int32.ofNat cs.length)), .val .null, .unset] [(.ref t)]))
  have lt_t := At.lt
  refine g_astore X3 #[.val (.ref a), .val (.ref a1), .val (.int (0 : Int32)), .val (.int (Int32.ofNat cs.length)), .val .null, .val (.ref t)] d70_39 rfl rfl ?_
  refine g_aloadN X3 d70_41 rfl rfl ?_
  refine g_aload X3 d70_42 rfl rfl ?_
  refine g_iloadN X3 d70_44 rfl ?_
  have hl2 : ((cs.map lo8).map Value.int).length = cs.length := by simp
  refine g_callSp X3 d70_45 (w382 hw) (w383 hw) (w359 hw) (w384 hw) (by decide) pd43 [(.ref t), (.int (Int32.ofNat cs.length))] [(.ref a)] 1 (hl2 ▸ c_coderL hw hs t ((cs.map lo8).map Value.int) At) rfl rfl rfl (Nat.le_of_eq rfl) (by decide) (by decide) 1 2 rfl rfl (by decide) (by decide) fun T4 X4 => ?_
  have F5 := (F_coder.keep K3 nin0)
  have E_6 := (E_a.keep K3)
  refine g_putfield X4 d70_48 (w24 hw) Via.refl F5 E_6 (Or.inr ⟨(w25 hw), rfl, rfl⟩) (w10 hw) (ty := .byte) (v' := (.int (0 : Int32))) (by decide) rfl rfl nb zl (Or.inl (List.mem_of_getElem? (i := 0) rfl)) fun T7 h7 X7 W7 => ?_
  have z7 := W7.size; have Fw7 := F5.same W7
  refine g_aloadN X7 d70_51 rfl rfl ?_
  refine g_aload X7 d70_52 rfl rfl ?_
  have F8 := ((F_value.keep K3 nin0).other W7 (Or.inr (slot_ne (Or.inr (w23 hw)) (Or.inr (w25 hw)) (by decide) (t := (.array .byte)) (t' := .byte) (by decide) (by decide))))
  have E_9 := (E_6.wr W7)
  refine g_putfield X7 d70_54 (w22 hw) Via.refl F8 E_9 (Or.inr ⟨(w23 hw), rfl, rfl⟩) (w10 hw) (ty := (.array .byte)) (v' := (.ref t)) (by decide) rfl rfl nb zl (Or.inl (List.mem_of_getElem? (i := 0) rfl)) fun T10 h10 X10 W10 => ?_
  have z10 := W10.size; have Fw10 := F8.same W10
  have E_11 := (E_9.wr W10)
  have F12 := (Fw7.other W10 (Or.inr (slot_ne (Or.inr (w25 hw)) (Or.inr (w23 hw)) (by decide) (t := .byte) (t' := (.array .byte)) (by decide) (by decide))))
  have A13 := ((At.keep (Keep.of_wr W7) (ninS (k_neN (by omega)) nin0)).keep (Keep.of_wr W10) (ninS (k_neN (by omega)) nin0))
  exact g_return X10 d70_57 (by decide) (by decide) ⟨rfl, rfl, t, E_11.lt, A13.lt, E_11, F12, Fw10, A13⟩
set_option maxRecDepth 65536 in
set_option maxHeartbeats 40000000 in
theorem c_initCL {nw : Bool} {l : Launch} {Z : State} {EL : List (String × Nat)} {a0 : Array Value} (hw : HW Z a0) (hs : Sts Z) {h0 : Heap} {B0 : BP} (a a1 : Addr) (cs : List Int32) (E_a : Exa Z h0 a "java/lang/String") {u_value : Value} (F_value : Fld Z h0 a "java/lang/String" "value" "[B" u_value) {u_coder : Value} (F_coder : Fld Z h0 a "java/lang/String" "coder" "B" u_coder) (nb : ¬ B0 a) (zl : Z.heap.size ≤ a) (Aa : Ay Z h0 a1 .char (cs.map Value.int)) (ne : @Ne Nat a a1) (hne : cs ≠ []) (hcap : cs.length ≤ 2) (hlat : ∀ c ∈ cs, ¬ 255 < c) :
    Con nw l Z EL (⟨"java/lang/String", "<init>", "([C)V"⟩ : MethodName) jdk_42_method_3_code 2 none [] ({ frames := 3, cells := 1, slots := 2, locals := 52 } : Room) #[(.ref a), (.ref a1)] h0 B0 [a] (fun v h B => v = none ∧ B0 = B ∧ Str Z h h.size a 0 (cs.map lo8)) := by
  refine k_intro (Ls := #[.val (.ref a), .val (.ref a1)]) (by decide +kernel) rfl fun x T0 X0 => ?_
  have lt_a := k_ltE E_a
  refine g_aloadN X0 d71_0 rfl rfl ?_
  refine g_aloadN X0 d71_1 rfl rfl ?_
  refine g_iconst X0 (0 : Int32) d71_2 (by decide) ?_
  refine g_aloadN X0 d71_3 rfl rfl ?_
  refine g_arraylength X0 d71_4 Aa (Int32.ofNat cs.length) (by simp) ?_
  refine g_aconst_null X0 d71_5 ?_
  refine g_callI X0 d71_6 (w373 hw) (w374 hw) (w2 hw) (w375 hw) rfl (by decide) pd44 a [(.ref a1), (.int (0 : Int32)), (.int (Int32.ofNat cs.length)), .null] [] 0 (c_initCIIL hw hs a a1 cs E_a F_value F_coder nb zl Aa ne hne hcap hlat) rfl rfl rfl (Nat.le_of_eq rfl) (by decide) (by decide) 1 2 rfl rfl (by decide) (by decide) (k_ws1 ⟨nb, zl, (Or.inl (List.mem_of_getElem? (i := 0) rfl))⟩) fun v1 T1 h1 B1 X1 K1 M1 q1 => ?_
  obtain ⟨rfl, rfl, S⟩ := q1
  have z1 := K1.1
  show Go x (T1.setTop (mkF x.m 9 #[.val (.ref a), .val (.ref a1)] []))
  exact g_return X1 d71_9 (by decide) (by decide) ⟨rfl, rfl, S⟩
set_option maxRecDepth 65536 in
set_option maxHeartbeats 40000000 in
theorem c_law {l : Launch} {Z : State} {a0 : Array Value} (hw : HW Z a0) (hs : Sts Z) {h0 : Heap} {B0 : BP} (p0 : Int32)  :
    Con false l Z consts_1 (⟨"com/example/keen_queue/keenqueue/io/QueueKeysJobHashesPinLaw", "law", "(I)Z"⟩ : MethodName) code 9 (some .boolean) tables_1 room_1 #[(.int p0)] h0 B0 [] (fun v h B => v = some (.int 1)) := by
  refine k_intro (Ls := #[.val (.int p0), .unset, .unset, .unset, .unset, .unset, .unset, .unset, .unset]) (by decide +kernel) rfl fun x T0 X0 => ?_
  have hE7 : ("com/example/keen_queue/keenqueue/io/QueueKeys", 7) ∈ consts_1 := List.mem_of_getElem? (i := 0) rfl
  have hE41 : ("com/example/keen_queue/keenqueue/io/QueueKeys", 41) ∈ consts_1 := List.mem_of_getElem? (i := 1) rfl
  have hE47 : ("com/example/keen_queue/keenqueue/io/QueueKeys", 47) ∈ consts_1 := List.mem_of_getElem? (i := 2) rfl
  have hE75 : ("com/example/keen_queue/keenqueue/io/QueueKeys", 75) ∈ consts_1 := List.mem_of_getElem? (i := 3) rfl
  have hE77 : ("com/example/keen_queue/keenqueue/io/QueueKeys", 77) ∈ consts_1 := List.mem_of_getElem? (i := 4) rfl
  have hE79 : ("com/example/keen_queue/keenqueue/io/QueueKeys", 79) ∈ consts_1 := List.mem_of_getElem? (i := 5) rfl
  have hE81 : ("com/example/keen_queue/keenqueue/io/QueueKeys", 81) ∈ consts_1 := List.mem_of_getElem? (i := 6) rfl
  have hE83 : ("com/example/keen_queue/keenqueue/io/QueueKeys", 83) ∈ consts_1 := List.mem_of_getElem? (i := 7) rfl
  have hE43 : ("com/example/keen_queue/keenqueue/io/QueueKeysJobHashesPinLaw", 43) ∈ consts_1 := List.mem_of_getElem? (i := 8) rfl
  have hE49 : ("com/example/keen_queue/keenqueue/io/QueueKeysJobHashesPinLaw", 49) ∈ consts_1 := List.mem_of_getElem? (i := 9) rfl
  have hE51 : ("com/example/keen_queue/keenqueue/io/QueueKeysJobHashesPinLaw", 51) ∈ consts_1 := List.mem_of_getElem? (i := 10) rfl
  have hE53 : ("com/example/keen_queue/keenqueue/io/QueueKeysJobHashesPinLaw", 53) ∈ consts_1 := List.mem_of_getElem? (i := 11) rfl
  have hE55 : ("com/example/keen_queue/keenqueue/io/QueueKeysJobHashesPinLaw", 55) ∈ consts_1 := List.mem_of_getElem? (i := 12) rfl
  obtain ⟨c1, ec1⟩ : ∃ z, z = p0 &&& 255 := ⟨_, rfl⟩
  have hc1 : C8 c1 := ec1 ▸ c8_and _
  obtain ⟨c2, ec2⟩ : ∃ z, z = XT.ushr p0 8 &&& 255 := ⟨_, rfl⟩
  have hc2 : C8 c2 := ec2 ▸ c8_and _
  refine g_iloadN X0 d72_0 rfl ?_
  refine g_sipush X0 (255 : Int32) d72_1 (by decide) ?_
  refine g_iand X0 c1 d72_4 ec1.symm ?_
  refine g_i2c X0 c1 d72_5 (nar_c8 hc1) ?_
  refine g_istoreN X0 #[.val (.int p0), .val (.int c1), .unset, .unset, .unset, .unset, .unset, .unset, .unset] d72_6 rfl ?_
  refine g_iloadN X0 d72_7 rfl ?_
  refine g_bipush X0 (8 : Int32) d72_8 (by decide) ?_
  refine g_iushr X0 (XT.ushr p0 (8 : Int32)) d72_10 rfl ?_
  refine g_sipush X0 (255 : Int32) d72_11 (by decide) ?_
  refine g_iand X0 c2 d72_14 ec2.symm ?_
  refine g_i2c X0 c2 d72_15 (nar_c8 hc2) ?_
  refine g_istoreN X0 #[.val (.int p0), .val (.int c1), .val (.int c2), .unset, .unset, .unset, .unset, .unset, .unset] d72_16 rfl ?_
  refine g_iloadN X0 d72_17 rfl ?_
  refine g_bipush X0 (16 : Int32) d72_18 (by decide) ?_
  refine g_iushr X0 (XT.ushr p0 (16 : Int32)) d72_20 rfl ?_
  refine g_iconst X0 (1 : Int32) d72_21 (by decide) ?_
  refine g_iand X0 ((XT.ushr p0 (16 : Int32)) &&& (1 : Int32)) d72_22 rfl ?_
  have rest : ∀ (cs nl : List Int32) (tw : Int32) (a ta m : Addr) (hc8 : ∀ c ∈ cs, C8 c) (hqa : ∀ c ∈ cs, c ≠ 123) (hqb : ∀ c ∈ cs, c ≠ 125) (hpos : 0 < cs.length) (hle : cs.length ≤ 2) (enl : nl = cs.flatMap e8) (hnl : nl.length ≤ 4) (T : State) (h : Heap) (B : BP) (X : Wk false l Z consts_1 "com/example/keen_queue/keenqueue/io/QueueKeysJobHashesPinLaw" code 9 (some .boolean) "law" room_1 h0 B0 [] (fun v h B => v = some (.int 1)) x T h B 4 24) (Ea : Exa Z h a "java/lang/String") (Fac : Fld Z h a "java/lang/String" "coder" "B" (.int 0)) (Fav : Fld Z h a "java/lang/String" "value" "[B" (.ref ta)) (Ata : Ay Z h ta .byte ((cs.map lo8).map Value.int)) (Am : Ay Z h m .int (nl.map Value.int ++ List.replicate (4 - nl.length) (Value.int 0))), Go x (T.setTop (mkF x.m 123 #[.val (.int p0), .val (.int c1), .val (.int c2), .val (.int tw), .val (.ref a), .val (.ref m), .val (.int (Int32.ofNat nl.length)), .unset, .unset] [])) := by
    intro cs nl tw a ta m hc8 hqa hqb hpos hle enl hnl T h B X Ea Fac Fav Ata Am
    have lt_a := k_ltE Ea; have lt_ta := Ata.lt; have lt_m := Am.lt
    refine g_new X d72_123 (w31 hw) (w32 hw) (w33 hw) 5 25 rfl rfl (by decide) (by decide) fun T1 h1 b1 X1 E1 eb1 nb1 Ex1 D1 => ?_
    have z1 := E1.1; have lt1 : @LT.lt Nat _ b1 h1.size := Ex1.lt; have zl1 : @LE.le Nat _ Z.heap.size b1 := eb1 ▸ X.szZ; have fr1 : @LE.le Nat _ h0.size b1 := eb1 ▸ X.sz
    have F1_prefix : Fld Z h1 b1 "com/example/keen_queue/keenqueue/io/QueueKeys" "prefix" "Ljava/lang/String;" .null := D1 (Or.inr (w192 hw)) (ty := (.object "java/lang/String")) (by decide)
    refine g_dup X1 d72_126 rfl ?_
    refine g_aload X1 d72_127 rfl rfl ?_
    have E_2 := (Ea.ext E1)
    have F3 := (Fac.ext E1)
    have F4 := (Fav.ext E1)
    have A5 := (Ata.ext E1)
    refine g_callI X1 d72_129 (w34 hw) (w35 hw) (w33 hw) (w36 hw) rfl (by decide) pd2 b1 [(.ref a)] [(.ref b1)] 1 (c_qkInit hw hs b1 a ta cs Ex1 F1_prefix nb1 zl1 E_2 F3 F4 A5 hc8 hqa hqb hpos hle hE7 hE41 hE47) rfl rfl rfl (Nat.le_of_eq rfl) (by decide) (by decide) 15 137 rfl rfl (by decide) (by decide) (k_ws1 ⟨nb1, zl1, (Or.inr fr1)⟩) fun v6 T6 h6 B6 X6 K6 M6 q6 => ?_
    obtain ⟨p, tp, rfl, Eqk, Fqk, fp, ftp, np, ntp, Ep, Fpc, Fpv, Atp⟩ := q6
    have z6 := K6.1
    show Go x (T6.setTop (mkF x.m 132 #[.val (.int p0), .val (.int c1), .val (.int c2), .val (.int tw), .val (.ref a), .val (.ref m), .val (.int (Int32.ofNat nl.length)), .unset, .unset] [(.ref b1)]))
    have lt_p := k_ltE Ep; have lt_tp := Atp.lt
    refine g_astore X6 #[.val (.int p0), .val (.int c1), .val (.int c2), .val (.int tw), .val (.ref a), .val (.ref m), .val (.int (Int32.ofNat nl.length)), .val (.ref b1), .unset] d72_132 rfl rfl ?_
    refine g_aload X6 d72_134 rfl rfl ?_
    refine g_callV X6 d72_136 (w193 hw) (w194 hw) (w196 hw) (w195 hw) (w33 hw) (w197 hw) (by decide) pd45 b1 [] [] 0 Eqk (c_jobH hw hs b1 p tp ([(107 : Int32), (113 : Int32), (58 : Int32), (123 : Int32)] ++ (cs.map lo8) ++ [(125 : Int32), (58 : Int32)]) Eqk Fqk Ep Fpc Fpv Atp (by simp; omega) (k_hb (k_hb (by decide) k_lolo) (by decide)) hE75 hE77 hE79 hE81 hE83) rfl rfl rfl (Nat.le_of_eq rfl) (by decide) (by decide) 57 800 rfl rfl (by decide) (by decide) (fun _ q => nomatch q) fun v7 T7 h7 B7 X7 K7 M7 q7 => ?_
    obtain ⟨ls, es, ra, rb, rc, rd, re, rfl, Els, Fls, Aes, A_ra, E_ra, A_rb, E_rb, A_rc, E_rc, A_rd, E_rd, A_re, E_re⟩ := q7
    have z7 := K7.1
    show Go x (T7.setTop (mkF x.m 139 #[.val (.int p0), .val (.int c1), .val (.int c2), .val (.int tw), .val (.ref a), .val (.ref m), .val (.int (Int32.ofNat nl.length)), .val (.ref b1), .unset] [(.ref ls)]))
    refine g_astore X7 #[.val (.int p0), .val (.int c1), .val (.int c2), .val (.int tw), .val (.ref a), .val (.ref m), .val (.int (Int32.ofNat nl.length)), .val (.ref b1), .val (.ref ls)] d72_139 rfl rfl ?_
    refine g_aload X7 d72_141 rfl rfl ?_
    refine g_callFp X7 d72_143 (w308 hw) (w309 hw) (w310 hw) (w313 hw) (w314 hw) (w315 hw) (w311 hw) (w312 hw) (w280 hw) (w316 hw) (by decide) pd4 ls [] [] 0 Els (c_lnSize hw hs ls es _ Fls Aes rfl) rfl rfl rfl (Nat.le_of_eq rfl) (by decide) (by decide) 57 800 rfl rfl (by decide) (by decide) fun T8 X8 => ?_
    refine g_iconst X8 (5 : Int32) d72_148 (by decide) ?_
    refine g_icmpT X8 d72_149 (by decide) ?_
    refine g_aload X8 d72_154 rfl rfl ?_
    refine g_iconst X8 (0 : Int32) d72_156 (by decide) ?_
    refine g_callFp X8 d72_157 (w317 hw) (w318 hw) (w319 hw) (w322 hw) (w323 hw) (w315 hw) (w320 hw) (w321 hw) (w280 hw) (w324 hw) (by decide) pd46 ls [(.int (0 : Int32))] [] 0 Els (c_lnGet hw hs ls es ra 0 _ Fls Aes rfl) rfl rfl rfl (Nat.le_of_eq rfl) (by decide) (by decide) 57 800 rfl rfl (by decide) (by decide) fun T9 X9 => ?_
    refine g_castY X9 d72_162 (w325 hw) (Ins.self E_ra) fun T10 X10 => ?_
    refine g_aload X10 d72_165 rfl rfl ?_
    refine g_iload X10 d72_167 rfl ?_
    refine g_ldcC X10 rfl d72_169 (w326 hw) (strAtoms hw) hE43 [(112 : Int32), (97 : Int32), (121 : Int32), (108 : Int32), (111 : Int32), (97 : Int32), (100 : Int32)] (by decide) (by decide +kernel) 28 (by decide) (by decide) 59 832 rfl rfl (by decide) (by decide) fun T11 h11 B11 s11 t11 X11 E11 M11 Es11 Fc11 Fv11 At11 ls11 lt11 hn11 => ?_
    have z11 := E11.1
    have g_ra := k_R (R := (utf8 (([(107 : Int32), (113 : Int32), (58 : Int32), (123 : Int32)] ++ (cs.map lo8) ++ [(125 : Int32), (58 : Int32)]) ++ [(112 : Int32), (97 : Int32), (121 : Int32), (108 : Int32), (111 : Int32), (97 : Int32), (100 : Int32)]))) (nl := nl) (sf := [(112 : Int32), (97 : Int32), (121 : Int32), (108 : Int32), (111 : Int32), (97 : Int32), (100 : Int32)]) (by rw [enl]; exact k_RL hc8 (by decide +kernel) (by decide +kernel))
    have A12 := ((((Am.ext E1).keep K6 (ninS (k_neN (by omega)) nin0)).keep K7 nin0).ext E11)
    have A13 := (A_ra.ext E11)
    refine g_callSp X11 d72_171 (w327 hw) (w328 hw) (w29 hw) (w329 hw) (by decide) pd47 [(.ref ra), (.ref m), (.int (Int32.ofNat nl.length)), (.ref s11)] [] 0 (c_check hw hs ra m s11 nl [(112 : Int32), (97 : Int32), (121 : Int32), (108 : Int32), (111 : Int32), (97 : Int32), (100 : Int32)] (utf8 (([(107 : Int32), (113 : Int32), (58 : Int32), (123 : Int32)] ++ (cs.map lo8) ++ [(125 : Int32), (58 : Int32)]) ++ [(112 : Int32), (97 : Int32), (121 : Int32), (108 : Int32), (111 : Int32), (97 : Int32), (100 : Int32)])) A12 (k_lat8 ⟨t11, Es11, Fc11, Fv11, At11⟩ (by decide +kernel)) (k_c8l (by decide +kernel)) hnl (by decide) A13 g_ra.1 g_ra.2) rfl rfl rfl (Nat.le_of_eq rfl) (by decide) (by decide) 59 832 rfl rfl (by decide) (by decide) fun T14 X14 => ?_
    refine g_ifF X14 d72_174 (by decide) ?_
    refine g_aload X14 d72_177 rfl rfl ?_
    refine g_iconst X14 (1 : Int32) d72_179 (by decide) ?_
    have F15 := (Fls.ext E11)
    have A16 := (Aes.ext E11)
    have E_18 := (Els.ext E11)
    refine g_callFp X14 d72_180 (w317 hw) (w318 hw) (w319 hw) (w322 hw) (w323 hw) (w315 hw) (w320 hw) (w321 hw) (w280 hw) (w324 hw) (by decide) pd46 ls [(.int (1 : Int32))] [] 0 E_18 (c_lnGet hw hs ls es rb 1 _ F15 A16 rfl) rfl rfl rfl (Nat.le_of_eq rfl) (by decide) (by decide) 59 832 rfl rfl (by decide) (by decide) fun T17 X17 => ?_
    have E_20 := (E_rb.ext E11)
    refine g_castY X17 d72_185 (w325 hw) (Ins.self E_20) fun T19 X19 => ?_
    refine g_aload X19 d72_188 rfl rfl ?_
    refine g_iload X19 d72_190 rfl ?_
    refine g_ldcC X19 rfl d72_192 (w353 hw) (strAtoms hw) hE49 [(97 : Int32), (116 : Int32), (116 : Int32), (101 : Int32), (109 : Int32), (112 : Int32), (116 : Int32)] (by decide) (by decide +kernel) 28 (by decide) (by decide) 61 864 rfl rfl (by decide) (by decide) fun T21 h21 B21 s21 t21 X21 E21 M21 Es21 Fc21 Fv21 At21 ls21 lt21 hn21 => ?_
    have z21 := E21.1
    have g_rb := k_R (R := (utf8 (([(107 : Int32), (113 : Int32), (58 : Int32), (123 : Int32)] ++ (cs.map lo8) ++ [(125 : Int32), (58 : Int32)]) ++ [(97 : Int32), (116 : Int32), (116 : Int32), (101 : Int32), (109 : Int32), (112 : Int32), (116 : Int32)]))) (nl := nl) (sf := [(97 : Int32), (116 : Int32), (116 : Int32), (101 : Int32), (109 : Int32), (112 : Int32), (116 : Int32)]) (by rw [enl]; exact k_RL hc8 (by decide +kernel) (by decide +kernel))
    have A22 := (A12.ext E21)
    have A23 := ((A_rb.ext E11).ext E21)
    refine g_callSp X21 d72_194 (w327 hw) (w328 hw) (w29 hw) (w329 hw) (by decide) pd47 [(.ref rb), (.ref m), (.int (Int32.ofNat nl.length)), (.ref s21)] [] 0 (c_check hw hs rb m s21 nl [(97 : Int32), (116 : Int32), (116 : Int32), (101 : Int32), (109 : Int32), (112 : Int32), (116 : Int32)] (utf8 (([(107 : Int32), (113 : Int32), (58 : Int32), (123 : Int32)] ++ (cs.map lo8) ++ [(125 : Int32), (58 : Int32)]) ++ [(97 : Int32), (116 : Int32), (116 : Int32), (101 : Int32), (109 : Int32), (112 : Int32), (116 : Int32)])) A22 (k_lat8 ⟨t21, Es21, Fc21, Fv21, At21⟩ (by decide +kernel)) (k_c8l (by decide +kernel)) hnl (by decide) A23 g_rb.1 g_rb.2) rfl rfl rfl (Nat.le_of_eq rfl) (by decide) (by decide) 61 864 rfl rfl (by decide) (by decide) fun T24 X24 => ?_
    refine g_ifF X24 d72_197 (by decide) ?_
    refine g_aload X24 d72_200 rfl rfl ?_
    refine g_iconst X24 (2 : Int32) d72_202 (by decide) ?_
    have F25 := (F15.ext E21)
    have A26 := (A16.ext E21)
    have E_28 := (E_18.ext E21)
    refine g_callFp X24 d72_203 (w317 hw) (w318 hw) (w319 hw) (w322 hw) (w323 hw) (w315 hw) (w320 hw) (w321 hw) (w280 hw) (w324 hw) (by decide) pd46 ls [(.int (2 : Int32))] [] 0 E_28 (c_lnGet hw hs ls es rc 2 _ F25 A26 rfl) rfl rfl rfl (Nat.le_of_eq rfl) (by decide) (by decide) 61 864 rfl rfl (by decide) (by decide) fun T27 X27 => ?_
    have E_30 := ((E_rc.ext E11).ext E21)
    refine g_castY X27 d72_208 (w325 hw) (Ins.self E_30) fun T29 X29 => ?_
    refine g_aload X29 d72_211 rfl rfl ?_
    refine g_iload X29 d72_213 rfl ?_
    refine g_ldcC X29 rfl d72_215 (w354 hw) (strAtoms hw) hE51 [(116 : Int32), (111 : Int32), (107 : Int32), (101 : Int32), (110 : Int32)] (by decide) (by decide +kernel) 20 (by decide) (by decide) 63 888 rfl rfl (by decide) (by decide) fun T31 h31 B31 s31 t31 X31 E31 M31 Es31 Fc31 Fv31 At31 ls31 lt31 hn31 => ?_
    have z31 := E31.1
    have g_rc := k_R (R := (utf8 (([(107 : Int32), (113 : Int32), (58 : Int32), (123 : Int32)] ++ (cs.map lo8) ++ [(125 : Int32), (58 : Int32)]) ++ [(116 : Int32), (111 : Int32), (107 : Int32), (101 : Int32), (110 : Int32)]))) (nl := nl) (sf := [(116 : Int32), (111 : Int32), (107 : Int32), (101 : Int32), (110 : Int32)]) (by rw [enl]; exact k_RL hc8 (by decide +kernel) (by decide +kernel))
    have A32 := (A22.ext E31)
    have A33 := (((A_rc.ext E11).ext E21).ext E31)
    refine g_callSp X31 d72_217 (w327 hw) (w328 hw) (w29 hw) (w329 hw) (by decide) pd47 [(.ref rc), (.ref m), (.int (Int32.ofNat nl.length)), (.ref s31)] [] 0 (c_check hw hs rc m s31 nl [(116 : Int32), (111 : Int32), (107 : Int32), (101 : Int32), (110 : Int32)] (utf8 (([(107 : Int32), (113 : Int32), (58 : Int32), (123 : Int32)] ++ (cs.map lo8) ++ [(125 : Int32), (58 : Int32)]) ++ [(116 : Int32), (111 : Int32), (107 : Int32), (101 : Int32), (110 : Int32)])) A32 (k_lat8 ⟨t31, Es31, Fc31, Fv31, At31⟩ (by decide +kernel)) (k_c8l (by decide +kernel)) hnl (by decide) A33 g_rc.1 g_rc.2) rfl rfl rfl (Nat.le_of_eq rfl) (by decide) (by decide) 63 888 rfl rfl (by decide) (by decide) fun T34 X34 => ?_
    refine g_ifF X34 d72_220 (by decide) ?_
    refine g_aload X34 d72_223 rfl rfl ?_
    refine g_iconst X34 (3 : Int32) d72_225 (by decide) ?_
    have F35 := (F25.ext E31)
    have A36 := (A26.ext E31)
    have E_38 := (E_28.ext E31)
    refine g_callFp X34 d72_226 (w317 hw) (w318 hw) (w319 hw) (w322 hw) (w323 hw) (w315 hw) (w320 hw) (w321 hw) (w280 hw) (w324 hw) (by decide) pd46 ls [(.int (3 : Int32))] [] 0 E_38 (c_lnGet hw hs ls es rd 3 _ F35 A36 rfl) rfl rfl rfl (Nat.le_of_eq rfl) (by decide) (by decide) 63 888 rfl rfl (by decide) (by decide) fun T37 X37 => ?_
    have E_40 := (((E_rd.ext E11).ext E21).ext E31)
    refine g_castY X37 d72_231 (w325 hw) (Ins.self E_40) fun T39 X39 => ?_
    refine g_aload X39 d72_234 rfl rfl ?_
    refine g_iload X39 d72_236 rfl ?_
    refine g_ldcC X39 rfl d72_238 (w355 hw) (strAtoms hw) hE53 [(101 : Int32), (114 : Int32), (114 : Int32), (111 : Int32), (114 : Int32)] (by decide) (by decide +kernel) 20 (by decide) (by decide) 65 912 rfl rfl (by decide) (by decide) fun T41 h41 B41 s41 t41 X41 E41 M41 Es41 Fc41 Fv41 At41 ls41 lt41 hn41 => ?_
    have z41 := E41.1
    have g_rd := k_R (R := (utf8 (([(107 : Int32), (113 : Int32), (58 : Int32), (123 : Int32)] ++ (cs.map lo8) ++ [(125 : Int32), (58 : Int32)]) ++ [(101 : Int32), (114 : Int32), (114 : Int32), (111 : Int32), (114 : Int32)]))) (nl := nl) (sf := [(101 : Int32), (114 : Int32), (114 : Int32), (111 : Int32), (114 : Int32)]) (by rw [enl]; exact k_RL hc8 (by decide +kernel) (by decide +kernel))
    have A42 := (A32.ext E41)
    have A43 := ((((A_rd.ext E11).ext E21).ext E31).ext E41)
    refine g_callSp X41 d72_240 (w327 hw) (w328 hw) (w29 hw) (w329 hw) (by decide) pd47 [(.ref rd), (.ref m), (.int (Int32.ofNat nl.length)), (.ref s41)] [] 0 (c_check hw hs rd m s41 nl [(101 : Int32), (114 : Int32), (114 : Int32), (111 : Int32), (114 : Int32)] (utf8 (([(107 : Int32), (113 : Int32), (58 : Int32), (123 : Int32)] ++ (cs.map lo8) ++ [(125 : Int32), (58 : Int32)]) ++ [(101 : Int32), (114 : Int32), (114 : Int32), (111 : Int32), (114 : Int32)])) A42 (k_lat8 ⟨t41, Es41, Fc41, Fv41, At41⟩ (by decide +kernel)) (k_c8l (by decide +kernel)) hnl (by decide) A43 g_rd.1 g_rd.2) rfl rfl rfl (Nat.le_of_eq rfl) (by decide) (by decide) 65 912 rfl rfl (by decide) (by decide) fun T44 X44 => ?_
    refine g_ifF X44 d72_243 (by decide) ?_
    refine g_aload X44 d72_246 rfl rfl ?_
    refine g_iconst X44 (4 : Int32) d72_248 (by decide) ?_
    have F45 := (F35.ext E41)
    have A46 := (A36.ext E41)
    have E_48 := (E_38.ext E41)
    refine g_callFp X44 d72_249 (w317 hw) (w318 hw) (w319 hw) (w322 hw) (w323 hw) (w315 hw) (w320 hw) (w321 hw) (w280 hw) (w324 hw) (by decide) pd46 ls [(.int (4 : Int32))] [] 0 E_48 (c_lnGet hw hs ls es re 4 _ F45 A46 rfl) rfl rfl rfl (Nat.le_of_eq rfl) (by decide) (by decide) 65 912 rfl rfl (by decide) (by decide) fun T47 X47 => ?_
    have E_50 := ((((E_re.ext E11).ext E21).ext E31).ext E41)
    refine g_castY X47 d72_254 (w325 hw) (Ins.self E_50) fun T49 X49 => ?_
    refine g_aload X49 d72_257 rfl rfl ?_
    refine g_iload X49 d72_259 rfl ?_
    refine g_ldcC X49 rfl d72_261 (w356 hw) (strAtoms hw) hE55 [(115 : Int32), (116 : Int32), (97 : Int32), (108 : Int32), (108 : Int32)] (by decide) (by decide +kernel) 20 (by decide) (by decide) 67 936 rfl rfl (by decide) (by decide) fun T51 h51 B51 s51 t51 X51 E51 M51 Es51 Fc51 Fv51 At51 ls51 lt51 hn51 => ?_
    have z51 := E51.1
    have g_re := k_R (R := (utf8 (([(107 : Int32), (113 : Int32), (58 : Int32), (123 : Int32)] ++ (cs.map lo8) ++ [(125 : Int32), (58 : Int32)]) ++ [(115 : Int32), (116 : Int32), (97 : Int32), (108 : Int32), (108 : Int32)]))) (nl := nl) (sf := [(115 : Int32), (116 : Int32), (97 : Int32), (108 : Int32), (108 : Int32)]) (by rw [enl]; exact k_RL hc8 (by decide +kernel) (by decide +kernel))
    have A52 := (A42.ext E51)
    have A53 := (((((A_re.ext E11).ext E21).ext E31).ext E41).ext E51)
    refine g_callSp X51 d72_263 (w327 hw) (w328 hw) (w29 hw) (w329 hw) (by decide) pd47 [(.ref re), (.ref m), (.int (Int32.ofNat nl.length)), (.ref s51)] [] 0 (c_check hw hs re m s51 nl [(115 : Int32), (116 : Int32), (97 : Int32), (108 : Int32), (108 : Int32)] (utf8 (([(107 : Int32), (113 : Int32), (58 : Int32), (123 : Int32)] ++ (cs.map lo8) ++ [(125 : Int32), (58 : Int32)]) ++ [(115 : Int32), (116 : Int32), (97 : Int32), (108 : Int32), (108 : Int32)])) A52 (k_lat8 ⟨t51, Es51, Fc51, Fv51, At51⟩ (by decide +kernel)) (k_c8l (by decide +kernel)) hnl (by decide) A53 g_re.1 g_re.2) rfl rfl rfl (Nat.le_of_eq rfl) (by decide) (by decide) 67 936 rfl rfl (by decide) (by decide) fun T54 X54 => ?_
    refine g_ifF X54 d72_266 (by decide) ?_
    refine g_iconst X54 (1 : Int32) d72_269 (by decide) ?_
    refine g_goto X54 d72_270 ?_
    exact g_ireturn (w' := (1 : Int32)) X54 d72_274 (Or.inl rfl) (by decide) (by decide) (by decide) rfl
  by_cases htw : ((XT.ushr p0 (16 : Int32)) &&& (1 : Int32)) = 0
  ·
    refine g_ifT X0 d72_23 (XT.i0_eq_t htw) ?_
    refine g_iconst X0 (0 : Int32) d72_30 (by decide) ?_
    refine g_istoreN X0 #[.val (.int p0), .val (.int c1), .val (.int c2), .val (.int (0 : Int32)), .unset, .unset, .unset, .unset, .unset] d72_31 rfl ?_
    refine g_iloadN X0 d72_32 rfl ?_
    refine g_bipush X0 (123 : Int32) d72_33 (by decide) ?_
    by_cases hx_c1 : c1 = (123 : Int32)
    ·
      refine g_icmpT X0 d72_35 (XT.ii_eq_t hx_c1) ?_
      refine g_iconst X0 (1 : Int32) d72_44 (by decide) ?_
      exact g_ireturn (w' := (1 : Int32)) X0 d72_45 (Or.inl rfl) (by decide) (by decide) (by decide) rfl
    ·
      refine g_icmpF X0 d72_35 (XT.ii_eq_f hx_c1) ?_
      refine g_iloadN X0 d72_38 rfl ?_
      refine g_bipush X0 (125 : Int32) d72_39 (by decide) ?_
      by_cases hy_c1 : c1 = (125 : Int32)
      ·
        refine g_icmpF X0 d72_41 (XT.ii_ne_f hy_c1) ?_
        refine g_iconst X0 (1 : Int32) d72_44 (by decide) ?_
        exact g_ireturn (w' := (1 : Int32)) X0 d72_45 (Or.inl rfl) (by decide) (by decide) (by decide) rfl
      ·
        refine g_icmpT X0 d72_41 (XT.ii_ne_t hy_c1) ?_
        refine g_iloadN X0 d72_46 rfl ?_
        refine g_ifT X0 d72_47 (by decide) ?_
        refine g_iloadN X0 d72_64 rfl ?_
        refine g_ifT X0 d72_65 (by decide) ?_
        refine g_iloadN X0 d72_89 rfl ?_
        refine g_callS X0 d72_90 (w0 hw) (w1 hw) (w2 hw) (w3 hw) (by decide) pd48 [(.int c1)] [] 0 (c_valueOfC hw hs c1 hc1.1) rfl rfl rfl (Nat.le_of_eq rfl) (by decide) (by decide) 2 5 rfl rfl (by decide) (by decide) (fun _ q => nomatch q) fun v55 T55 h55 B55 X55 K55 M55 q55 => ?_
        obtain ⟨a, rfl, rfl, fa, nba, Sa⟩ := q55
        have z55 := K55.1
        show Go x (T55.setTop (mkF x.m 93 #[.val (.int p0), .val (.int c1), .val (.int c2), .val (.int (0 : Int32)), .unset, .unset, .unset, .unset, .unset] [(.ref a)]))
        obtain ⟨ta, la, lta, Ea, Fac, Fav, Ata⟩ := Sa
        have lt_a := k_ltE Ea; have lt_ta := Ata.lt
        refine g_astore X55 #[.val (.int p0), .val (.int c1), .val (.int c2), .val (.int (0 : Int32)), .val (.ref a), .unset, .unset, .unset, .unset] d72_93 rfl rfl ?_
        refine g_iconst X55 (4 : Int32) d72_95 (by decide) ?_
        refine g_newarray X55 d72_96 rfl (w26 hw) 4 4 (by decide) (Nat.le_refl _) (by decide) 3 9 rfl rfl (by decide) (by decide) fun T56 h56 b56 X56 E56 eb56 nb56 A56 => ?_
        have z56 := E56.1; have lt56 : @LT.lt Nat _ b56 h56.size := A56.lt; have zl56 : @LE.le Nat _ Z.heap.size b56 := eb56 ▸ X55.szZ; have fr56 : @LE.le Nat _ h0.size b56 := eb56 ▸ X55.sz
        have A56a : Ay Z h56 b56 .int [(.int (0 : Int32)), (.int (0 : Int32)), (.int (0 : Int32)), (.int (0 : Int32))] := A56
        refine g_astore X56 #[.val (.int p0), .val (.int c1), .val (.int c2), .val (.int (0 : Int32)), .val (.ref a), .val (.ref b56), .unset, .unset, .unset] d72_98 rfl rfl ?_
        refine g_aload X56 d72_100 rfl rfl ?_
        refine g_iconst X56 (0 : Int32) d72_102 (by decide) ?_
        refine g_iloadN X56 d72_103 rfl ?_
        refine g_callS X56 d72_104 (w27 hw) (w28 hw) (w29 hw) (w30 hw) (by decide) pd49 [(.ref b56), (.int (0 : Int32)), (.int c1)] [] 0 (c_put hw hs b56 [] c1 A56a (by simp) nb56 zl56) rfl rfl rfl (Nat.le_of_eq rfl) (by decide) (by decide) 3 9 rfl rfl (by decide) (by decide) (k_ws1 ⟨nb56, zl56, (Or.inr fr56)⟩) fun v57 T57 h57 B57 X57 K57 M57 q57 => ?_
        obtain ⟨rfl, rfl, Am⟩ := q57
        have z57 := K57.1
        show Go x (T57.setTop (mkF x.m 107 #[.val (.int p0), .val (.int c1), .val (.int c2), .val (.int (0 : Int32)), .val (.ref a), .val (.ref b56), .unset, .unset, .unset] [(.int (Int32.ofNat ([] ++ e8 c1).length))]))
        have le1 := e8_len c1; have le2 := e8_len c2
        refine g_istore X57 #[.val (.int p0), .val (.int c1), .val (.int c2), .val (.int (0 : Int32)), .val (.ref a), .val (.ref b56), .val (.int (Int32.ofNat ([] ++ e8 c1).length)), .unset, .unset] d72_107 rfl ?_
        refine g_iloadN X57 d72_109 rfl ?_
        refine g_ifT X57 d72_110 (by decide) ?_
        have E_58 := ((Ea.ext E56).keep K57)
        have F59 := ((Fac.ext E56).keep K57 (ninS (k_neN (by omega)) nin0))
        have F60 := ((Fav.ext E56).keep K57 (ninS (k_neN (by omega)) nin0))
        have A61 := ((Ata.ext E56).keep K57 (ninS (k_neN (by omega)) nin0))
        exact rest [c1] ([] ++ e8 c1) (0 : Int32) a ta b56 (by intro c hc; simp only [List.mem_cons, List.not_mem_nil, or_false] at hc; subst hc; assumption) (by intro c hc; simp only [List.mem_cons, List.not_mem_nil, or_false] at hc; subst hc; assumption) (by intro c hc; simp only [List.mem_cons, List.not_mem_nil, or_false] at hc; subst hc; assumption) (by simp) (by simp) (by simp) (by simp; omega) T57 h57 B0 (X57.more (by decide) (by decide)) E_58 F59 F60 A61 Am
  ·
    refine g_ifF X0 d72_23 (XT.i0_eq_f htw) ?_
    refine g_iconst X0 (1 : Int32) d72_26 (by decide) ?_
    refine g_goto X0 d72_27 ?_
    refine g_istoreN X0 #[.val (.int p0), .val (.int c1), .val (.int c2), .val (.int (1 : Int32)), .unset, .unset, .unset, .unset, .unset] d72_31 rfl ?_
    refine g_iloadN X0 d72_32 rfl ?_
    refine g_bipush X0 (123 : Int32) d72_33 (by decide) ?_
    by_cases hx_c1 : c1 = (123 : Int32)
    ·
      refine g_icmpT X0 d72_35 (XT.ii_eq_t hx_c1) ?_
      refine g_iconst X0 (1 : Int32) d72_44 (by decide) ?_
      exact g_ireturn (w' := (1 : Int32)) X0 d72_45 (Or.inl rfl) (by decide) (by decide) (by decide) rfl
    ·
      refine g_icmpF X0 d72_35 (XT.ii_eq_f hx_c1) ?_
      refine g_iloadN X0 d72_38 rfl ?_
      refine g_bipush X0 (125 : Int32) d72_39 (by decide) ?_
      by_cases hy_c1 : c1 = (125 : Int32)
      ·
        refine g_icmpF X0 d72_41 (XT.ii_ne_f hy_c1) ?_
        refine g_iconst X0 (1 : Int32) d72_44 (by decide) ?_
        exact g_ireturn (w' := (1 : Int32)) X0 d72_45 (Or.inl rfl) (by decide) (by decide) (by decide) rfl
      ·
        refine g_icmpT X0 d72_41 (XT.ii_ne_t hy_c1) ?_
        refine g_iloadN X0 d72_46 rfl ?_
        refine g_ifF X0 d72_47 (by decide) ?_
        refine g_iloadN X0 d72_50 rfl ?_
        refine g_bipush X0 (123 : Int32) d72_51 (by decide) ?_
        by_cases hx_c2 : c2 = (123 : Int32)
        ·
          refine g_icmpT X0 d72_53 (XT.ii_eq_t hx_c2) ?_
          refine g_iconst X0 (1 : Int32) d72_62 (by decide) ?_
          exact g_ireturn (w' := (1 : Int32)) X0 d72_63 (Or.inl rfl) (by decide) (by decide) (by decide) rfl
        ·
          refine g_icmpF X0 d72_53 (XT.ii_eq_f hx_c2) ?_
          refine g_iloadN X0 d72_56 rfl ?_
          refine g_bipush X0 (125 : Int32) d72_57 (by decide) ?_
          by_cases hy_c2 : c2 = (125 : Int32)
          ·
            refine g_icmpF X0 d72_59 (XT.ii_ne_f hy_c2) ?_
            refine g_iconst X0 (1 : Int32) d72_62 (by decide) ?_
            exact g_ireturn (w' := (1 : Int32)) X0 d72_63 (Or.inl rfl) (by decide) (by decide) (by decide) rfl
          ·
            refine g_icmpT X0 d72_59 (XT.ii_ne_t hy_c2) ?_
            refine g_iloadN X0 d72_64 rfl ?_
            refine g_ifF X0 d72_65 (by decide) ?_
            refine g_new X0 d72_68 (w368 hw) (w10 hw) (w2 hw) 1 4 rfl rfl (by decide) (by decide) fun T62 h62 b62 X62 E62 eb62 nb62 Ex62 D62 => ?_
            have z62 := E62.1; have lt62 : @LT.lt Nat _ b62 h62.size := Ex62.lt; have zl62 : @LE.le Nat _ Z.heap.size b62 := eb62 ▸ X0.szZ; have fr62 : @LE.le Nat _ h0.size b62 := eb62 ▸ X0.sz
            have F62_value : Fld Z h62 b62 "java/lang/String" "value" "[B" .null := D62 (Or.inr (w23 hw)) (ty := (.array .byte)) (by decide)
            have F62_coder : Fld Z h62 b62 "java/lang/String" "coder" "B" (.int (0 : Int32)) := D62 (Or.inr (w25 hw)) (ty := .byte) (by decide)
            refine g_dup X62 d72_71 rfl ?_
            refine g_iconst X62 (2 : Int32) d72_72 (by decide) ?_
            refine g_newarray X62 d72_73 rfl (w369 hw) 2 2 (by decide) (Nat.le_refl _) (by decide) 2 6 rfl rfl (by decide) (by decide) fun T63 h63 b63 X63 E63 eb63 nb63 A63 => ?_
            have z63 := E63.1; have lt63 : @LT.lt Nat _ b63 h63.size := A63.lt; have zl63 : @LE.le Nat _ Z.heap.size b63 := eb63 ▸ X62.szZ; have fr63 : @LE.le Nat _ h0.size b63 := eb63 ▸ X62.sz
            have A63a : Ay Z h63 b63 .char [(.int (0 : Int32)), (.int (0 : Int32))] := A63
            refine g_dup X63 d72_75 rfl ?_
            refine g_iconst X63 (0 : Int32) d72_76 (by decide) ?_
            refine g_iloadN X63 d72_77 rfl ?_
            refine g_castore X63 d72_78 A63a 0 (by decide) c1 (nar_c8 hc1) (Nat.le_of_ble_eq_true rfl) nb63 zl63 (Or.inr fr63) fun T64 h64 X64 K64 A64 => ?_
            have z64 := K64.1
            have A64a : Ay Z h64 b63 .char [(.int c1), (.int (0 : Int32))] := A64
            refine g_dup X64 d72_79 rfl ?_
            refine g_iconst X64 (1 : Int32) d72_80 (by decide) ?_
            refine g_iloadN X64 d72_81 rfl ?_
            refine g_castore X64 d72_82 A64a 1 (by decide) c2 (nar_c8 hc2) (Nat.le_of_ble_eq_true rfl) nb63 zl63 (Or.inr fr63) fun T65 h65 X65 K65 A65 => ?_
            have z65 := K65.1
            have A65a : Ay Z h65 b63 .char [(.int c1), (.int c2)] := A65
            have E_66 := (((Ex62.ext E63).keep K64).keep K65)
            have F67 := (((F62_value.ext E63).keep K64 (ninS (k_neN (by omega)) nin0)).keep K65 (ninS (k_neN (by omega)) nin0))
            have F68 := (((F62_coder.ext E63).keep K64 (ninS (k_neN (by omega)) nin0)).keep K65 (ninS (k_neN (by omega)) nin0))
            refine g_callI X65 d72_83 (w370 hw) (w371 hw) (w2 hw) (w372 hw) rfl (by decide) pd50 b62 [(.ref b63)] [(.ref b62)] 1 (c_initCL hw hs b62 b63 [c1, c2] E_66 F67 F68 nb62 zl62 A65a (k_neN (by omega)) (by simp) (by simp) (by intro c hc; simp only [List.mem_cons, List.not_mem_nil, or_false] at hc; rcases hc with rfl | rfl <;> first | exact hc1.1 | exact hc2.1)) rfl rfl rfl (Nat.le_of_eq rfl) (by decide) (by decide) 3 8 rfl rfl (by decide) (by decide) (k_ws1 ⟨nb62, zl62, (Or.inr fr62)⟩) fun v69 T69 h69 B69 X69 K69 M69 q69 => ?_
            obtain ⟨rfl, rfl, Sa⟩ := q69
            have z69 := K69.1
            show Go x (T69.setTop (mkF x.m 86 #[.val (.int p0), .val (.int c1), .val (.int c2), .val (.int (1 : Int32)), .unset, .unset, .unset, .unset, .unset] [(.ref b62)]))
            obtain ⟨ta, la, lta, Ea, Fac, Fav, Ata⟩ := Sa
            have lt_a := k_ltE Ea; have lt_ta := Ata.lt
            refine g_goto X69 d72_86 ?_
            refine g_astore X69 #[.val (.int p0), .val (.int c1), .val (.int c2), .val (.int (1 : Int32)), .val (.ref b62), .unset, .unset, .unset, .unset] d72_93 rfl rfl ?_
            refine g_iconst X69 (4 : Int32) d72_95 (by decide) ?_
            refine g_newarray X69 d72_96 rfl (w26 hw) 4 4 (by decide) (Nat.le_refl _) (by decide) 4 12 rfl rfl (by decide) (by decide) fun T70 h70 b70 X70 E70 eb70 nb70 A70 => ?_
            have z70 := E70.1; have lt70 : @LT.lt Nat _ b70 h70.size := A70.lt; have zl70 : @LE.le Nat _ Z.heap.size b70 := eb70 ▸ X69.szZ; have fr70 : @LE.le Nat _ h0.size b70 := eb70 ▸ X69.sz
            have A70a : Ay Z h70 b70 .int [(.int (0 : Int32)), (.int (0 : Int32)), (.int (0 : Int32)), (.int (0 : Int32))] := A70
            refine g_astore X70 #[.val (.int p0), .val (.int c1), .val (.int c2), .val (.int (1 : Int32)), .val (.ref b62), .val (.ref b70), .unset, .unset, .unset] d72_98 rfl rfl ?_
            refine g_aload X70 d72_100 rfl rfl ?_
            refine g_iconst X70 (0 : Int32) d72_102 (by decide) ?_
            refine g_iloadN X70 d72_103 rfl ?_
            refine g_callS X70 d72_104 (w27 hw) (w28 hw) (w29 hw) (w30 hw) (by decide) pd49 [(.ref b70), (.int (0 : Int32)), (.int c1)] [] 0 (c_put hw hs b70 [] c1 A70a (by simp) nb70 zl70) rfl rfl rfl (Nat.le_of_eq rfl) (by decide) (by decide) 4 12 rfl rfl (by decide) (by decide) (k_ws1 ⟨nb70, zl70, (Or.inr fr70)⟩) fun v71 T71 h71 B71 X71 K71 M71 q71 => ?_
            obtain ⟨rfl, rfl, Am⟩ := q71
            have z71 := K71.1
            show Go x (T71.setTop (mkF x.m 107 #[.val (.int p0), .val (.int c1), .val (.int c2), .val (.int (1 : Int32)), .val (.ref b62), .val (.ref b70), .unset, .unset, .unset] [(.int (Int32.ofNat ([] ++ e8 c1).length))]))
            have le1 := e8_len c1; have le2 := e8_len c2
            refine g_istore X71 #[.val (.int p0), .val (.int c1), .val (.int c2), .val (.int (1 : Int32)), .val (.ref b62), .val (.ref b70), .val (.int (Int32.ofNat ([] ++ e8 c1).length)), .unset, .unset] d72_107 rfl ?_
            refine g_iloadN X71 d72_109 rfl ?_
            refine g_ifF X71 d72_110 (by decide) ?_
            refine g_aload X71 d72_113 rfl rfl ?_
            refine g_iload X71 d72_115 rfl ?_
            refine g_iloadN X71 d72_117 rfl ?_
            refine g_callS X71 d72_118 (w27 hw) (w28 hw) (w29 hw) (w30 hw) (by decide) pd49 [(.ref b70), (.int (Int32.ofNat ([] ++ e8 c1).length)), (.int c2)] [] 0 (c_put hw hs b70 ([] ++ e8 c1) c2 Am (by simpa using le1) nb70 zl70) rfl rfl rfl (Nat.le_of_eq rfl) (by decide) (by decide) 4 12 rfl rfl (by decide) (by decide) (k_ws1 ⟨nb70, zl70, (Or.inr fr70)⟩) fun v72 T72 h72 B72 X72 K72 M72 q72 => ?_
            obtain ⟨rfl, rfl, Am'⟩ := q72
            have z72 := K72.1
            show Go x (T72.setTop (mkF x.m 121 #[.val (.int p0), .val (.int c1), .val (.int c2), .val (.int (1 : Int32)), .val (.ref b62), .val (.ref b70), .val (.int (Int32.ofNat ([] ++ e8 c1).length)), .unset, .unset] [(.int (Int32.ofNat (([] ++ e8 c1) ++ e8 c2).length))]))
            refine g_istore X72 #[.val (.int p0), .val (.int c1), .val (.int c2), .val (.int (1 : Int32)), .val (.ref b62), .val (.ref b70), .val (.int (Int32.ofNat (([] ++ e8 c1) ++ e8 c2).length)), .unset, .unset] d72_121 rfl ?_
            have E_73 := (((Ea.ext E70).keep K71).keep K72)
            have F74 := (((Fac.ext E70).keep K71 (ninS (k_neN (by omega)) nin0)).keep K72 (ninS (k_neN (by omega)) nin0))
            have F75 := (((Fav.ext E70).keep K71 (ninS (k_neN (by omega)) nin0)).keep K72 (ninS (k_neN (by omega)) nin0))
            have A76 := (((Ata.ext E70).keep K71 (ninS (k_neN (by omega)) nin0)).keep K72 (ninS (k_neN (by omega)) nin0))
            exact rest [c1, c2] (([] ++ e8 c1) ++ e8 c2) (1 : Int32) b62 ta b70 (by intro c hc; simp only [List.mem_cons, List.not_mem_nil, or_false] at hc; rcases hc with rfl | rfl <;> assumption) (by intro c hc; simp only [List.mem_cons, List.not_mem_nil, or_false] at hc; rcases hc with rfl | rfl <;> assumption) (by intro c hc; simp only [List.mem_cons, List.not_mem_nil, or_false] at hc; rcases hc with rfl | rfl <;> assumption) (by simp) (by simp) (by simp) (by simp; omega) T72 h72 B0 (X72.more (by decide) (by decide)) E_73 F74 F75 A76 Am'
set_option maxRecDepth 65536 in
theorem comes_1 {Post : Tables → Env → Array Value → State → Outcome → State → Prop} (hpost : ∀ tb e args s v u, (limb_1_1.after args s (.returned v) u = true ∧ limb_1_2.after args s (.returned v) u = true ∧ True) → FramedW s (.returned v) u (Jvm.fieldLocs frame_1_writes args s ++ Jvm.arrayLocs frame_1_arrays args s ++ Jvm.staticLocs frame_1_statics s) 120 14400 → Post tb e args s (.returned v) u) :
    ArmFor flags0 classFile x code maxLocals ret World_1 tables_1 room_1 Calls_1 rest_1 Pre_1 Post := by
  intro l hfl _ _ p e ha hc hk s m args below hf hA hF happ hP
  obtain ⟨hcalls, hrest, hpre⟩ := hP
  obtain ⟨-, -, -, hnamed, -, -, -, hat⟩ := (Spec.applies_iff hf).mp happ
  obtain ⟨hg, hn⟩ := and_e (Cond.before_iff.mp (show (Jvm.Cond.and given_1 narrow_1).before args s = true from hpre))
  obtain ⟨h1, hg⟩ := and_e hg
  have g0 := hg
  obtain ⟨w0, rfl⟩ : ∃ w0 : Value, args = #[w0] := by
    have hs : args.size = 1 := by simpa [Cond.value, given_1] using h1
    obtain ⟨L⟩ := args
    match L, hs with
    | [w0], _ => exact ⟨w0, rfl⟩
  have hw := fun d (hd : d ∈ tables_1) => atoms_spec (ws := Jvm.Cond.code x code maxLocals ret :: tables_1) hat d (List.mem_cons_of_mem _ hd)
  obtain ⟨hsets, hown0⟩ := atoms_of _ (rest_1_c_eq ▸ (show rest_1_c.before _ s = true from hrest))
  obtain ⟨p0, e0⟩ := is_v g0
  obtain rfl : w0 = (.int p0) := Option.some.inj e0
  have n5 := not_v (Cond.before_iff.mp (hsets _ (List.mem_of_getElem? (i := 2) rfl)))
  obtain ⟨cv, ec⟩ := is_v (Cond.before_iff.mp (hsets _ (List.mem_of_getElem? (i := 1) rfl)))
  have S1 : Sta s s.heap "java/lang/String" "COMPACT_STRINGS" "Z" (.int cv) := Sta.start ec (Or.inl (hsets _ (List.mem_of_getElem? (i := 0) rfl)))
  have ncv : ¬ (cv = (0 : Int32)) := gotF (Cond.eq_ints ec (Term.int_eval (0))) n5
  obtain ⟨fv, ef, rf⟩ := isR_v (Cond.before_iff.mp (hsets _ (List.mem_of_getElem? (i := 8) rfl)))
  have S2 : Sta s s.heap "jdk/internal/util/Preconditions" "SIOOBE_FORMATTER" "Ljava/util/function/BiFunction;" fv := Sta.start ef (Or.inl (hsets _ (List.mem_of_getElem? (i := 7) rfl)))
  obtain ⟨u, eU⟩ := exa_v (Cond.before_iff.mp (hsets _ (List.mem_of_getElem? (i := 17) rfl)))
  obtain ⟨yv, eA, eB⟩ := Cond.eq_one (hsets _ (List.mem_of_getElem? (i := 13) rfl))
  obtain rfl : yv = .ref u := Option.some.inj (eB.symm.trans eU)
  have S3 : Sta s s.heap "java/nio/charset/StandardCharsets" "UTF_8" "Ljava/nio/charset/Charset;" (.ref u) := Sta.start eA (Or.inl (hsets _ (List.mem_of_getElem? (i := 10) rfl)))
  have S4 : Sta s s.heap "sun/nio/cs/UTF_8" "INSTANCE" "Lsun/nio/cs/UTF_8;" (.ref u) := Sta.start eU (Or.inl (hsets _ (List.mem_of_getElem? (i := 12) rfl)))
  have S5 : Sta s s.heap "java/util/ImmutableCollections" "$assertionsDisabled" "Z" (.int 1) := Sta.start (eqv_i (Term.int_eval _) (Cond.before_iff.mp (hsets _ (List.mem_of_getElem? (i := 23) rfl)))) (Or.inl (hsets _ (List.mem_of_getElem? (i := 22) rfl)))
  have hS : Sts s := ⟨⟨cv, S1, ncv⟩, ⟨fv, S2, rf⟩, ⟨u, S3, S4⟩, S5, trivial⟩
  have hEW : EW s _ consts_1 := (EW.cons (w38 hw) (by decide) (EW.cons (w109 hw) (by decide) (EW.cons (w148 hw) (by decide) (EW.cons (w203 hw) (by decide) (EW.cons (w244 hw) (by decide) (EW.cons (w250 hw) (by decide) (EW.cons (w256 hw) (by decide) (EW.cons (w262 hw) (by decide) (EW.cons (w326 hw) (by decide) (EW.cons (w353 hw) (by decide) (EW.cons (w354 hw) (by decide) (EW.cons (w355 hw) (by decide) (EW.cons (w356 hw) (by decide) EW.nil)))))))))))))
  have hH : ∀ p ∈ consts_1, Jvm.Lit.constHeld s p.1 p.2 := hcalls.1
  have hI : k_inv s consts_1 (Bk s consts_1 s.vm s.heap) s.vm s.heap := ⟨CHv.start hEW hH (hsets _ (List.mem_of_getElem? (i := 2) rfl)) (strAtoms hw _ (List.mem_of_getElem? (i := 2) rfl)) (strAtoms hw _ (List.mem_of_getElem? (i := 1) rfl)), fun y b => b, fun y b => by obtain ⟨cell, hc⟩ := Bk.there b; exact (Array.getElem?_eq_some_iff.mp hc).1, ⟨Nat.le_refl _, fun _ _ q => q⟩, _, hEW⟩
  obtain ⟨n, o, h1, h2, h3, v, L, B', rfl, rfl, -, -, N, -, hq⟩ := c_law (l := l) hw hS (B0 := (Bk s consts_1 s.vm s.heap)) p0 p e ha hc hk s m _ below hf ((Spec.applies_iff_loose hf).mp happ).1 ⟨rfl, State.Warmed39.refl s, rfl, hI⟩ trivial
  obtain ⟨⟨q1, q2, q3, q4⟩, -⟩ := hq
  refine ⟨n, _, h1, h2, h3, hpost _ _ _ _ _ _ ⟨Cond.after_iff.mpr rfl, Cond.after_iff.mpr (eq_i res_at (Term.int_eval (1)) rfl), trivial⟩ ⟨q1, q2, q3, (q4.sift fun y hy => Or.inr (N y hy)).mono (by decide) (by decide)⟩⟩
theorem main_1_1 : Claimed_1_1 := comes_1 fun _ _ _ _ _ _ h hF => ⟨h.1, hF⟩
theorem main_1_2 : Claimed_1_2 := comes_1 fun _ _ _ _ _ _ h hF => ⟨h.2.1, hF⟩
end Jvm.Pilot.@@N@@
namespace Jvm.Pilot.@@N@@
open Jvm Jvm.ClassFile Sem Op Lib Jvm.Free Jvm.Stand Jvm.Pilot.@@N@@.Jvm.D
/-! MADE BY PROGRAM (witnessworld.py) out of the Statement's table words and the real class files: 44 classes; the members and pool entries that the words name. The judged class is class 1, her method 1. -/
namespace start1
open Jvm.ClassFile
def u (s : String) : CpInfo := .utf8 (stringToUtf16 s)
/-- a pool by its gaps: so many unusable entries, then the entry; so many at the end -/
def gap : Nat → List CpInfo → List CpInfo
  | 0, r => r
  | n + 1, r => .unusable :: gap n r
def poolList (es : List (Nat × CpInfo)) (last : Nat) : List CpInfo := es.foldr (fun e r => gap e.1 (e.2 :: r)) (gap last [])
def pool (es : List (Nat × CpInfo)) (last : Nat) : Array CpInfo := ⟨poolList es last⟩
def fileOf (pool : Array CpInfo) (this : Nat) (attrs : Array Attribute := #[]) (ms : Array MethodInfo := #[]) (fl : Nat := 33) (sup : Nat := 0) (ifs : Array Nat := #[]) (fds : Array FieldInfo := #[]) : ClassFile where
  minorVersion := 0
  majorVersion := 65
  constantPool := pool
  accessFlags := fl
  thisClass := this
  superClass := sup
  interfaces := ifs
  fields := fds
  methods := ms
  attributes := attrs
def plain (name : String) (sup : Option ClassId) : Class where
  name := name
  kind := .ordinary
  loader := none
  accessFlags := 33
  super := sup
  interfaces := #[]
  cf := none
  fields := #[]
  methods := #[]
  instanceTypes := #[]
  staticTypes := #[]
  resolved := #[]
  callSites := []
  init := .initialized
  statics := none
  mirror := none

def pool0 : Array CpInfo := pool [(5, u "<init>"), (0, u "()V"), (1, .class_ 10), (1, u "java/lang/Object"), (85, u "clone"), (0, u "()Ljava/lang/Object;")] 26

def k0c0 : Code := { maxStack := 0, maxLocals := 1, code := object_method_1_code, exceptionTable := #[], attributes := #[] }
def k0m0 : Method := { name := "<init>", desc := "()V", sig := { parameters := [], returnType := none }, accessFlags := 1, code := some k0c0 }
def k0m1 : Method := { name := "clone", desc := "()Ljava/lang/Object;", sig := { parameters := [], returnType := some (.object "java/lang/Object") }, accessFlags := 260, code := none }
/-- java/lang/Object -/
def k0 : Class := { plain "java/lang/Object" none with
  accessFlags := 33
  interfaces := #[]
  cf := some (fileOf pool0 8 #[] #[{ accessFlags := 1, nameIndex := 5, descriptorIndex := 6, attributes := #[] }, { accessFlags := 260, nameIndex := 96, descriptorIndex := 97, attributes := #[] }] 33 0 #[] #[])
  fields := #[]
  methods := #[k0m0, k0m1]
  instanceTypes := #[]
  staticTypes := #[]
  resolved := Array.replicate 124 none
  statics := none }

def pool1 : Array CpInfo := pool [(2, .class_ 4), (1, u "java/lang/Object"), (0, u "<init>"), (0, u "()V"), (0, .class_ 8), (0, u "java/lang/String"), (0, .methodref 7 10), (0, .nameAndType 5 11), (0, u "([C)V"), (0, .methodref 7 13), (0, .nameAndType 14 15), (0, u "valueOf"), (0, u "(C)Ljava/lang/String;"), (0, .methodref 17 18), (0, .class_ 19), (0, .nameAndType 20 21), (0, u "com/example/keen_queue/keenqueue/io/QueueKeysJobHashesPinLaw"), (0, u "put"), (0, u "([IIC)I"), (0, .class_ 23), (0, u "com/example/keen_queue/keenqueue/io/QueueKeys"), (0, .methodref 22 25), (0, .nameAndType 5 26), (0, u "(Ljava/lang/String;)V"), (0, .methodref 22 28), (0, .nameAndType 29 30), (0, u "jobHashes"), (0, u "()Ljava/util/List;"), (0, .interfaceMethodref 32 33), (0, .class_ 34), (0, .nameAndType 35 36), (0, u "java/util/List"), (0, u "size"), (0, u "()I"), (0, .interfaceMethodref 32 38), (0, .nameAndType 39 40), (0, u "get"), (0, u "(I)Ljava/lang/Object;"), (0, .class_ 42), (0, u "[B"), (0, .string 44), (0, u "payload"), (0, .methodref 17 46), (0, .nameAndType 47 48), (0, u "check"), (0, u "([B[IILjava/lang/String;)Z"), (0, .string 50), (0, u "attempt"), (0, .string 52), (0, u "token"), (0, .string 54), (0, u "error"), (0, .string 56), (0, u "stall"), (0, .methodref 7 58), (0, .nameAndType 59 60), (0, u "charAt"), (0, u "(I)C"), (0, .methodref 17 62), (0, .nameAndType 63 64), (0, u "exp"), (0, u "(I[IILjava/lang/String;)I"), (0, .methodref 7 66), (0, .nameAndType 67 36), (0, u "length"), (0, .methodref 17 69), (0, .nameAndType 70 71), (0, u "at"), (0, u "([BI[IILjava/lang/String;)Z"), (2, u "law"), (0, u "(I)Z")] 5

def k1m0 : Method := { name := "<init>", desc := "()V", sig := { parameters := [], returnType := none }, accessFlags := 1, code := none }
def k1c1 : Code := { maxStack := 6, maxLocals := 9, code := code, exceptionTable := #[], attributes := #[] }
def k1m1 : Method := { name := "law", desc := "(I)Z", sig := { parameters := [.int], returnType := some .boolean }, accessFlags := 9, code := some k1c1 }
def k1c2 : Code := { maxStack := 5, maxLocals := 3, code := method_3_code, exceptionTable := #[], attributes := #[] }
def k1m2 : Method := { name := "put", desc := "([IIC)I", sig := { parameters := [(.array .int), .int, .char], returnType := some .int }, accessFlags := 10, code := some k1c2 }
def k1c3 : Code := { maxStack := 3, maxLocals := 4, code := method_4_code, exceptionTable := #[], attributes := #[] }
def k1m3 : Method := { name := "exp", desc := "(I[IILjava/lang/String;)I", sig := { parameters := [.int, (.array .int), .int, (.object "java/lang/String")], returnType := some .int }, accessFlags := 10, code := some k1c3 }
def k1c4 : Code := { maxStack := 5, maxLocals := 5, code := method_5_code, exceptionTable := #[], attributes := #[] }
def k1m4 : Method := { name := "at", desc := "([BI[IILjava/lang/String;)Z", sig := { parameters := [(.array .byte), .int, (.array .int), .int, (.object "java/lang/String")], returnType := some .boolean }, accessFlags := 10, code := some k1c4 }
def k1c5 : Code := { maxStack := 5, maxLocals := 4, code := method_6_code, exceptionTable := #[], attributes := #[] }
def k1m5 : Method := { name := "check", desc := "([B[IILjava/lang/String;)Z", sig := { parameters := [(.array .byte), (.array .int), .int, (.object "java/lang/String")], returnType := some .boolean }, accessFlags := 10, code := some k1c5 }
/-- com/example/keen_queue/keenqueue/io/QueueKeysJobHashesPinLaw -/
def k1 : Class := { plain "com/example/keen_queue/keenqueue/io/QueueKeysJobHashesPinLaw" (some 0) with
  accessFlags := 49
  interfaces := #[]
  cf := some (fileOf pool1 17 #[] #[{ accessFlags := 1, nameIndex := 5, descriptorIndex := 6, attributes := #[] }, { accessFlags := 9, nameIndex := 74, descriptorIndex := 75, attributes := #[] }, { accessFlags := 10, nameIndex := 20, descriptorIndex := 21, attributes := #[] }, { accessFlags := 10, nameIndex := 63, descriptorIndex := 64, attributes := #[] }, { accessFlags := 10, nameIndex := 70, descriptorIndex := 71, attributes := #[] }, { accessFlags := 10, nameIndex := 47, descriptorIndex := 48, attributes := #[] }] 49 2 #[] #[])
  fields := #[]
  methods := #[k1m0, k1m1, k1m2, k1m3, k1m4, k1m5]
  instanceTypes := #[]
  staticTypes := #[]
  resolved := Array.replicate 81 none
  statics := none }

def pool2 : Array CpInfo := pool [(1, .class_ 2), (0, u "java/io/Serializable"), (0, .class_ 4), (0, u "java/lang/Object")] 2

/-- java/io/Serializable -/
def k2 : Class := { plain "java/io/Serializable" (some 0) with
  accessFlags := 1537
  interfaces := #[]
  cf := some (fileOf pool2 1 #[] #[] 1537 3 #[] #[])
  fields := #[]
  methods := #[]
  instanceTypes := #[]
  staticTypes := #[]
  resolved := Array.replicate 7 none
  statics := none }

def pool3 : Array CpInfo := pool [(1, .class_ 2), (0, u "java/lang/Comparable"), (0, .class_ 4), (0, u "java/lang/Object")] 7

/-- java/lang/Comparable -/
def k3 : Class := { plain "java/lang/Comparable" (some 0) with
  accessFlags := 1537
  interfaces := #[]
  cf := some (fileOf pool3 1 #[] #[] 1537 3 #[] #[])
  fields := #[]
  methods := #[]
  instanceTypes := #[]
  staticTypes := #[]
  resolved := Array.replicate 12 none
  statics := none }

def pool4 : Array CpInfo := pool [(2, .class_ 4), (1, u "java/lang/CharSequence"), (42, .class_ 48), (0, u "java/lang/CharSequence$1CodePointIterator"), (10, .class_ 60), (0, u "java/lang/CharSequence$1CharIterator"), (5, .class_ 67), (0, u "java/lang/Object")] 63

/-- java/lang/CharSequence -/
def k4 : Class := { plain "java/lang/CharSequence" (some 0) with
  accessFlags := 1537
  interfaces := #[]
  cf := some (fileOf pool4 2 #[.nestMembers #[47, 59]] #[] 1537 66 #[] #[])
  fields := #[]
  methods := #[]
  instanceTypes := #[]
  staticTypes := #[]
  resolved := Array.replicate 131 none
  statics := none }

def pool5 : Array CpInfo := pool [(1, .class_ 2), (0, u "java/lang/constant/Constable"), (0, .class_ 4), (0, u "java/lang/Object")] 6

/-- java/lang/constant/Constable -/
def k5 : Class := { plain "java/lang/constant/Constable" (some 0) with
  accessFlags := 1537
  interfaces := #[]
  cf := some (fileOf pool5 1 #[] #[] 1537 3 #[] #[])
  fields := #[]
  methods := #[]
  instanceTypes := #[]
  staticTypes := #[]
  resolved := Array.replicate 11 none
  statics := none }

def pool6 : Array CpInfo := pool [(1, .class_ 2), (0, u "java/lang/constant/ConstantDesc"), (0, .class_ 4), (0, u "java/lang/Object")] 32

/-- java/lang/constant/ConstantDesc -/
def k6 : Class := { plain "java/lang/constant/ConstantDesc" (some 0) with
  accessFlags := 1537
  interfaces := #[]
  cf := some (fileOf pool6 1 #[] #[] 1537 3 #[] #[])
  fields := #[]
  methods := #[]
  instanceTypes := #[]
  staticTypes := #[]
  resolved := Array.replicate 37 none
  statics := none }

def pool7 : Array CpInfo := pool [(1, .methodref 2 3), (0, .class_ 4), (0, .nameAndType 5 6), (0, u "java/lang/Object"), (0, u "<init>"), (0, u "()V"), (2, .fieldref 10 11), (0, .class_ 12), (0, .nameAndType 13 14), (0, u "java/lang/String"), (0, u "value"), (0, u "[B"), (0, .fieldref 10 16), (0, .nameAndType 17 18), (0, u "coder"), (0, u "B"), (2, u "hash"), (0, u "I"), (2, u "hashIsZero"), (0, u "Z"), (0, .methodref 10 28), (0, .nameAndType 5 29), (0, u "([CIILjava/lang/Void;)V"), (8, .fieldref 10 39), (0, .nameAndType 40 26), (0, u "COMPACT_STRINGS"), (1, .class_ 44), (1, u "java/lang/StringUTF16"), (0, u "compress"), (1, .methodref 42 48), (0, .nameAndType 49 50), (0, u "coderFromArrayLen"), (0, u "([BI)B"), (2, u "toBytes"), (0, .methodref 55 56), (0, .class_ 57), (0, .nameAndType 58 59), (0, u "java/util/Arrays"), (0, u "copyOfRange"), (0, u "([BII)[B"), (0, .methodref 42 61), (0, .nameAndType 62 63), (0, u "newBytesFor"), (0, u "(I)[B"), (22, .fieldref 87 88), (0, .class_ 89), (0, .nameAndType 90 91), (0, u "sun/nio/cs/UTF_8"), (0, u "INSTANCE"), (0, u "Lsun/nio/cs/UTF_8;"), (1, .class_ 95), (1, u "java/lang/StringCoding"), (6, .methodref 55 103), (0, .nameAndType 104 105), (0, u "copyOf"), (0, u "([BI)[B"), (1, .class_ 109), (1, u "java/lang/StringLatin1"), (18, .methodref 93 129), (0, .nameAndType 130 131), (0, u "hasNegatives"), (0, u "([BII)Z"), (10, u "()Z"), (34, .methodref 42 178), (0, .nameAndType 45 179), (0, u "([CII)[B"), (13, .class_ 195), (1, u "java/lang/System"), (13, .methodref 10 210), (0, .nameAndType 5 211), (0, u "([BB)V"), (0, .methodref 193 213), (0, .nameAndType 214 215), (0, u "arraycopy"), (0, u "(Ljava/lang/Object;ILjava/lang/Object;II)V"), (36, .methodref 10 253), (0, .nameAndType 254 255), (0, u "encodeUTF8"), (0, u "(B[BZ)[B"), (23, .methodref 280 281), (0, .class_ 14), (0, .nameAndType 282 283), (0, u "clone"), (0, u "()Ljava/lang/Object;"), (33, u "encode"), (16, u "()I"), (0, .methodref 10 336), (0, .nameAndType 17 337), (0, u "()B"), (2, u "()[B"), (22, u "([BI)C"), (5, u "(C)Z"), (21, u "(II)V"), (35, u "(I)C"), (61, .methodref 10 490), (0, .nameAndType 5 491), (0, u "(Ljava/lang/AbstractStringBuilder;Ljava/lang/Void;)V"), (0, .methodref 10 493), (0, .nameAndType 494 142), (0, u "isLatin1"), (0, .methodref 107 496), (0, .nameAndType 497 363), (0, u "charAt"), (3, u "checkIndex"), (3, .methodref 10 506), (0, .nameAndType 507 334), (0, u "length"), (24, u "getBytes"), (2, .methodref 10 536), (0, .nameAndType 317 537), (0, u "(Ljava/nio/charset/Charset;B[B)[B"), (11, .methodref 550 506), (0, .class_ 551), (0, u "java/lang/AbstractStringBuilder"), (0, .methodref 550 553), (0, .nameAndType 554 340), (0, u "getValue"), (20, .class_ 576), (0, u "java/lang/CharSequence"), (22, u "CASE_INSENSITIVE_ORDER"), (0, u "Ljava/util/Comparator;"), (32, .methodref 10 634), (0, .nameAndType 635 636), (0, u "indexOf"), (0, u "(II)I"), (0, .methodref 107 638), (0, .nameAndType 635 639), (0, u "([BIII)I"), (52, u "isEmpty"), (72, u "(I)I"), (16, u "valueOf"), (0, u "(C)Ljava/lang/String;"), (37, u "([BIB)V"), (188, u "([C)V"), (4, .methodref 107 1016), (0, .nameAndType 1017 369), (0, u "canEncode"), (0, .methodref 107 1019), (0, .nameAndType 53 1020), (0, u "(C)[B"), (26, .methodref 550 493), (5, .fieldref 1054 1055), (0, .class_ 1056), (0, .nameAndType 1057 1058), (0, u "jdk/internal/util/Preconditions"), (0, u "SIOOBE_FORMATTER"), (0, u "Ljava/util/function/BiFunction;"), (0, .methodref 1054 1060), (0, .nameAndType 501 1061), (0, u "(IILjava/util/function/BiFunction;)I"), (39, u "serialPersistentFields"), (0, u "[Ljava/io/ObjectStreamField;"), (0, .class_ 1104), (0, u "java/lang/String$CaseInsensitiveComparator"), (1, .class_ 1107), (0, u "java/io/Serializable"), (0, .class_ 1109), (0, u "java/lang/Comparable"), (0, .class_ 1111), (0, u "java/lang/constant/Constable"), (0, .class_ 1113), (0, u "java/lang/constant/ConstantDesc"), (2, u "serialVersionUID"), (0, u "J"), (3, u "REPL"), (0, u "C"), (2, u "LATIN1"), (1, u "UTF16"), (105, u "(Ljava/lang/StringBuilder;)V"), (11, u "(Ljava/nio/charset/Charset;)[B")] 205

def k7m0 : Method := { name := "<init>", desc := "()V", sig := { parameters := [], returnType := none }, accessFlags := 1, code := none }
def k7c1 : Code := { maxStack := 5, maxLocals := 2, code := jdk_42_method_3_code, exceptionTable := #[], attributes := #[] }
def k7m1 : Method := { name := "<init>", desc := "([C)V", sig := { parameters := [(.array .char)], returnType := none }, accessFlags := 1, code := some k7c1 }
def k7c2 : Code := { maxStack := 4, maxLocals := 3, code := jdk_42_method_18_code, exceptionTable := #[], attributes := #[] }
def k7m2 : Method := { name := "encode", desc := "(Ljava/nio/charset/Charset;B[B)[B", sig := { parameters := [(.object "java/nio/charset/Charset"), .byte, (.array .byte)], returnType := some (.array .byte) }, accessFlags := 10, code := some k7c2 }
def k7c3 : Code := { maxStack := 5, maxLocals := 9, code := jdk_42_method_46_code, exceptionTable := #[], attributes := #[] }
def k7m3 : Method := { name := "encodeUTF8", desc := "(B[BZ)[B", sig := { parameters := [.byte, (.array .byte), .boolean], returnType := some (.array .byte) }, accessFlags := 10, code := some k7c3 }
def k7c4 : Code := { maxStack := 3, maxLocals := 2, code := jdk_42_method_53_code, exceptionTable := #[], attributes := #[] }
def k7m4 : Method := { name := "<init>", desc := "(Ljava/lang/StringBuilder;)V", sig := { parameters := [(.object "java/lang/StringBuilder")], returnType := none }, accessFlags := 1, code := some k7c4 }
def k7c5 : Code := { maxStack := 2, maxLocals := 1, code := jdk_42_method_54_code, exceptionTable := #[], attributes := #[] }
def k7m5 : Method := { name := "length", desc := "()I", sig := { parameters := [], returnType := some .int }, accessFlags := 1, code := some k7c5 }
def k7c6 : Code := { maxStack := 1, maxLocals := 1, code := jdk_42_method_55_code, exceptionTable := #[], attributes := #[] }
def k7m6 : Method := { name := "isEmpty", desc := "()Z", sig := { parameters := [], returnType := some .boolean }, accessFlags := 1, code := some k7c6 }
def k7c7 : Code := { maxStack := 2, maxLocals := 2, code := jdk_42_method_56_code, exceptionTable := #[], attributes := #[] }
def k7m7 : Method := { name := "charAt", desc := "(I)C", sig := { parameters := [.int], returnType := some .char }, accessFlags := 1, code := some k7c7 }
def k7c8 : Code := { maxStack := 3, maxLocals := 2, code := jdk_42_method_64_code, exceptionTable := #[], attributes := #[] }
def k7m8 : Method := { name := "getBytes", desc := "(Ljava/nio/charset/Charset;)[B", sig := { parameters := [(.object "java/nio/charset/Charset")], returnType := some (.array .byte) }, accessFlags := 1, code := some k7c8 }
def k7c9 : Code := { maxStack := 3, maxLocals := 2, code := jdk_42_method_79_code, exceptionTable := #[], attributes := #[] }
def k7m9 : Method := { name := "indexOf", desc := "(I)I", sig := { parameters := [.int], returnType := some .int }, accessFlags := 1, code := some k7c9 }
def k7c10 : Code := { maxStack := 4, maxLocals := 3, code := jdk_42_method_80_code, exceptionTable := #[], attributes := #[] }
def k7m10 : Method := { name := "indexOf", desc := "(II)I", sig := { parameters := [.int, .int], returnType := some .int }, accessFlags := 1, code := some k7c10 }
def k7c11 : Code := { maxStack := 4, maxLocals := 1, code := jdk_42_method_139_code, exceptionTable := #[], attributes := #[] }
def k7m11 : Method := { name := "valueOf", desc := "(C)Ljava/lang/String;", sig := { parameters := [.char], returnType := some (.object "java/lang/String") }, accessFlags := 9, code := some k7c11 }
def k7c12 : Code := { maxStack := 5, maxLocals := 4, code := jdk_42_method_147_code, exceptionTable := #[], attributes := #[] }
def k7m12 : Method := { name := "getBytes", desc := "([BIB)V", sig := { parameters := [(.array .byte), .int, .byte], returnType := none }, accessFlags := 0, code := some k7c12 }
def k7c13 : Code := { maxStack := 4, maxLocals := 6, code := jdk_42_method_149_code, exceptionTable := #[], attributes := #[] }
def k7m13 : Method := { name := "<init>", desc := "([CIILjava/lang/Void;)V", sig := { parameters := [(.array .char), .int, .int, (.object "java/lang/Void")], returnType := none }, accessFlags := 2, code := some k7c13 }
def k7c14 : Code := { maxStack := 5, maxLocals := 5, code := jdk_42_method_150_code, exceptionTable := #[], attributes := #[] }
def k7m14 : Method := { name := "<init>", desc := "(Ljava/lang/AbstractStringBuilder;Ljava/lang/Void;)V", sig := { parameters := [(.object "java/lang/AbstractStringBuilder"), (.object "java/lang/Void")], returnType := none }, accessFlags := 0, code := some k7c14 }
def k7c15 : Code := { maxStack := 2, maxLocals := 3, code := jdk_42_method_151_code, exceptionTable := #[], attributes := #[] }
def k7m15 : Method := { name := "<init>", desc := "([BB)V", sig := { parameters := [(.array .byte), .byte], returnType := none }, accessFlags := 0, code := some k7c15 }
def k7c16 : Code := { maxStack := 1, maxLocals := 1, code := jdk_42_method_152_code, exceptionTable := #[], attributes := #[] }
def k7m16 : Method := { name := "coder", desc := "()B", sig := { parameters := [], returnType := some .byte }, accessFlags := 0, code := some k7c16 }
def k7c17 : Code := { maxStack := 1, maxLocals := 1, code := jdk_42_method_154_code, exceptionTable := #[], attributes := #[] }
def k7m17 : Method := { name := "isLatin1", desc := "()Z", sig := { parameters := [], returnType := some .boolean }, accessFlags := 0, code := some k7c17 }
def k7c18 : Code := { maxStack := 3, maxLocals := 2, code := jdk_42_method_155_code, exceptionTable := #[], attributes := #[] }
def k7m18 : Method := { name := "checkIndex", desc := "(II)V", sig := { parameters := [.int, .int], returnType := none }, accessFlags := 8, code := some k7c18 }
/-- java/lang/String -/
def k7 : Class := { plain "java/lang/String" (some 0) with
  accessFlags := 49
  interfaces := #[2, 3, 4, 5, 6]
  cf := some (fileOf pool7 10 #[.nestMembers #[1103]] #[{ accessFlags := 1, nameIndex := 5, descriptorIndex := 6, attributes := #[] }, { accessFlags := 1, nameIndex := 5, descriptorIndex := 1010, attributes := #[] }, { accessFlags := 10, nameIndex := 317, descriptorIndex := 537, attributes := #[] }, { accessFlags := 10, nameIndex := 254, descriptorIndex := 255, attributes := #[] }, { accessFlags := 1, nameIndex := 5, descriptorIndex := 1233, attributes := #[] }, { accessFlags := 1, nameIndex := 507, descriptorIndex := 334, attributes := #[] }, { accessFlags := 1, nameIndex := 692, descriptorIndex := 142, attributes := #[] }, { accessFlags := 1, nameIndex := 497, descriptorIndex := 427, attributes := #[] }, { accessFlags := 1, nameIndex := 532, descriptorIndex := 1245, attributes := #[] }, { accessFlags := 1, nameIndex := 635, descriptorIndex := 765, attributes := #[] }, { accessFlags := 1, nameIndex := 635, descriptorIndex := 636, attributes := #[] }, { accessFlags := 9, nameIndex := 782, descriptorIndex := 783, attributes := #[] }, { accessFlags := 0, nameIndex := 532, descriptorIndex := 821, attributes := #[] }, { accessFlags := 2, nameIndex := 5, descriptorIndex := 29, attributes := #[] }, { accessFlags := 0, nameIndex := 5, descriptorIndex := 491, attributes := #[] }, { accessFlags := 0, nameIndex := 5, descriptorIndex := 211, attributes := #[] }, { accessFlags := 0, nameIndex := 17, descriptorIndex := 337, attributes := #[] }, { accessFlags := 0, nameIndex := 494, descriptorIndex := 142, attributes := #[] }, { accessFlags := 8, nameIndex := 501, descriptorIndex := 391, attributes := #[] }] 49 2 #[1106, 1108, 575, 1110, 1112] #[{ accessFlags := 18, nameIndex := 13, descriptorIndex := 14, attributes := #[] }, { accessFlags := 18, nameIndex := 17, descriptorIndex := 18, attributes := #[] }, { accessFlags := 2, nameIndex := 21, descriptorIndex := 22, attributes := #[] }, { accessFlags := 2, nameIndex := 25, descriptorIndex := 26, attributes := #[] }, { accessFlags := 26, nameIndex := 1116, descriptorIndex := 1117, attributes := #[] }, { accessFlags := 24, nameIndex := 40, descriptorIndex := 26, attributes := #[] }, { accessFlags := 26, nameIndex := 1101, descriptorIndex := 1102, attributes := #[] }, { accessFlags := 26, nameIndex := 1121, descriptorIndex := 1122, attributes := #[] }, { accessFlags := 25, nameIndex := 599, descriptorIndex := 600, attributes := #[] }, { accessFlags := 24, nameIndex := 1125, descriptorIndex := 18, attributes := #[] }, { accessFlags := 24, nameIndex := 1127, descriptorIndex := 18, attributes := #[] }])
  fields := #[{ name := "value", type := (.array .byte), accessFlags := 18, slot := 0, constantValue := 0 }, { name := "coder", type := .byte, accessFlags := 18, slot := 1, constantValue := 0 }, { name := "hash", type := .int, accessFlags := 2, slot := 2, constantValue := 0 }, { name := "hashIsZero", type := .boolean, accessFlags := 2, slot := 3, constantValue := 0 }, { name := "serialVersionUID", type := .long, accessFlags := 26, slot := 0, constantValue := 0 }, { name := "COMPACT_STRINGS", type := .boolean, accessFlags := 24, slot := 1, constantValue := 0 }, { name := "serialPersistentFields", type := (.array (.object "java/io/ObjectStreamField")), accessFlags := 26, slot := 2, constantValue := 0 }, { name := "REPL", type := .char, accessFlags := 26, slot := 3, constantValue := 0 }, { name := "CASE_INSENSITIVE_ORDER", type := (.object "java/util/Comparator"), accessFlags := 25, slot := 4, constantValue := 0 }, { name := "LATIN1", type := .byte, accessFlags := 24, slot := 5, constantValue := 0 }, { name := "UTF16", type := .byte, accessFlags := 24, slot := 6, constantValue := 0 }]
  methods := #[k7m0, k7m1, k7m2, k7m3, k7m4, k7m5, k7m6, k7m7, k7m8, k7m9, k7m10, k7m11, k7m12, k7m13, k7m14, k7m15, k7m16, k7m17, k7m18]
  instanceTypes := #[(.array .byte), .byte, .int, .boolean]
  staticTypes := #[.long, .boolean, (.array (.object "java/io/ObjectStreamField")), .char, (.object "java/util/Comparator"), .byte, .byte]
  resolved := Array.replicate 1451 none
  statics := some 0 }

def pool8 : Array CpInfo := pool [(1, .class_ 2), (0, u "java/lang/String"), (1, .class_ 6), (1, u "java/lang/Object"), (0, u "<init>"), (0, u "()V"), (0, .methodref 1 10), (0, .nameAndType 11 12), (0, u "checkIndex"), (0, u "(II)V"), (1, .class_ 16), (1, u "java/lang/StringLatin1"), (21, .methodref 39 40), (0, .class_ 41), (0, .nameAndType 42 43), (0, u "java/lang/Math"), (0, u "min"), (0, u "(II)I"), (9, u "([BI)C"), (34, .methodref 14 89), (0, .nameAndType 90 91), (0, u "canEncode"), (0, u "(I)Z"), (0, .methodref 39 93), (0, .nameAndType 94 43), (0, u "max"), (0, .methodref 14 96), (0, .nameAndType 97 98), (0, u "indexOfChar"), (0, u "([BIII)I"), (2, u "indexOf"), (3, u "(C)Z"), (15, u "$assertionsDisabled"), (0, u "Z"), (98, .class_ 223), (1, u "java/lang/StringLatin1$LinesSpliterator"), (28, u "charAt"), (127, u "toBytes"), (1, u "(C)[B"), (7, .class_ 391), (0, u "java/lang/StringLatin1$CharsSpliterator")] 3

def k8m0 : Method := { name := "<init>", desc := "()V", sig := { parameters := [], returnType := none }, accessFlags := 0, code := none }
def k8c1 : Code := { maxStack := 2, maxLocals := 2, code := jdk_43_method_2_code, exceptionTable := #[], attributes := #[] }
def k8m1 : Method := { name := "charAt", desc := "([BI)C", sig := { parameters := [(.array .byte), .int], returnType := some .char }, accessFlags := 9, code := some k8c1 }
def k8c2 : Code := { maxStack := 2, maxLocals := 1, code := jdk_43_method_3_code, exceptionTable := #[], attributes := #[] }
def k8m2 : Method := { name := "canEncode", desc := "(C)Z", sig := { parameters := [.char], returnType := some .boolean }, accessFlags := 9, code := some k8c2 }
def k8c3 : Code := { maxStack := 2, maxLocals := 1, code := jdk_43_method_4_code, exceptionTable := #[], attributes := #[] }
def k8m3 : Method := { name := "canEncode", desc := "(I)Z", sig := { parameters := [.int], returnType := some .boolean }, accessFlags := 9, code := some k8c3 }
def k8c4 : Code := { maxStack := 4, maxLocals := 4, code := jdk_43_method_22_code, exceptionTable := #[], attributes := #[] }
def k8m4 : Method := { name := "indexOf", desc := "([BIII)I", sig := { parameters := [(.array .byte), .int, .int, .int], returnType := some .int }, accessFlags := 9, code := some k8c4 }
def k8c5 : Code := { maxStack := 2, maxLocals := 6, code := jdk_43_method_23_code, exceptionTable := #[], attributes := #[] }
def k8m5 : Method := { name := "indexOfChar", desc := "([BIII)I", sig := { parameters := [(.array .byte), .int, .int, .int], returnType := some .int }, accessFlags := 10, code := some k8c5 }
def k8c6 : Code := { maxStack := 4, maxLocals := 1, code := jdk_43_method_46_code, exceptionTable := #[], attributes := #[] }
def k8m6 : Method := { name := "toBytes", desc := "(C)[B", sig := { parameters := [.char], returnType := some (.array .byte) }, accessFlags := 9, code := some k8c6 }
/-- java/lang/StringLatin1 -/
def k8 : Class := { plain "java/lang/StringLatin1" (some 0) with
  accessFlags := 48
  interfaces := #[]
  cf := some (fileOf pool8 14 #[.nestMembers #[390, 221]] #[{ accessFlags := 0, nameIndex := 7, descriptorIndex := 8, attributes := #[] }, { accessFlags := 9, nameIndex := 252, descriptorIndex := 53, attributes := #[] }, { accessFlags := 9, nameIndex := 90, descriptorIndex := 105, attributes := #[] }, { accessFlags := 9, nameIndex := 90, descriptorIndex := 91, attributes := #[] }, { accessFlags := 9, nameIndex := 101, descriptorIndex := 98, attributes := #[] }, { accessFlags := 10, nameIndex := 97, descriptorIndex := 98, attributes := #[] }, { accessFlags := 9, nameIndex := 380, descriptorIndex := 382, attributes := #[] }] 48 4 #[] #[{ accessFlags := 4120, nameIndex := 121, descriptorIndex := 122, attributes := #[] }])
  fields := #[{ name := "$assertionsDisabled", type := .boolean, accessFlags := 4120, slot := 0, constantValue := 0 }]
  methods := #[k8m0, k8m1, k8m2, k8m3, k8m4, k8m5, k8m6]
  instanceTypes := #[]
  staticTypes := #[.boolean]
  resolved := Array.replicate 395 none
  statics := none }

def pool9 : Array CpInfo := pool [(1, .methodref 2 3), (0, .class_ 4), (0, .nameAndType 5 6), (0, u "java/lang/Object"), (0, u "<init>"), (0, u "()V"), (0, .string 8), (0, u "queueName"), (0, .methodref 10 11), (0, .class_ 12), (0, .nameAndType 13 14), (0, u "java/util/Objects"), (0, u "requireNonNull"), (0, u "(Ljava/lang/Object;Ljava/lang/String;)Ljava/lang/Object;"), (0, .methodref 16 17), (0, .class_ 18), (0, .nameAndType 19 20), (0, u "java/lang/String"), (0, u "isEmpty"), (0, u "()Z"), (6, u "(Ljava/lang/String;)V"), (0, .methodref 16 29), (0, .nameAndType 30 31), (0, u "indexOf"), (0, u "(I)I"), (6, .class_ 39), (0, u "java/lang/StringBuilder"), (0, .methodref 38 3), (0, .string 42), (0, u "kq:{"), (0, .methodref 38 44), (0, .nameAndType 45 46), (0, u "append"), (0, u "(Ljava/lang/String;)Ljava/lang/StringBuilder;"), (0, .string 48), (0, u "}:"), (0, .methodref 38 50), (0, .nameAndType 51 52), (0, u "toString"), (0, u "()Ljava/lang/String;"), (0, .fieldref 54 55), (0, .class_ 56), (0, .nameAndType 57 58), (0, u "com/example/keen_queue/keenqueue/io/QueueKeys"), (0, u "prefix"), (0, u "Ljava/lang/String;"), (2, .methodref 54 62), (0, .nameAndType 63 64), (0, u "key"), (0, u "(Ljava/lang/String;)[B"), (10, .string 76), (0, u "payload"), (0, .string 78), (0, u "attempt"), (0, .string 80), (0, u "token"), (0, .string 82), (0, u "error"), (0, .string 84), (0, u "stall"), (0, .methodref 54 86), (0, .nameAndType 87 88), (0, u "payloads"), (0, u "()[B"), (0, .methodref 54 90), (0, .nameAndType 91 88), (0, u "attempts"), (0, .methodref 54 93), (0, .nameAndType 94 88), (0, u "tokens"), (0, .methodref 54 96), (0, .nameAndType 97 88), (0, u "errors"), (0, .methodref 54 99), (0, .nameAndType 100 88), (0, u "stalls"), (0, .interfaceMethodref 102 103), (0, .class_ 104), (0, .nameAndType 105 106), (0, u "java/util/List"), (0, u "of"), (0, u "(Ljava/lang/Object;Ljava/lang/Object;Ljava/lang/Object;Ljava/lang/Object;Ljava/lang/Object;)Ljava/util/List;"), (0, .fieldref 108 109), (0, .class_ 110), (0, .nameAndType 111 112), (0, u "java/nio/charset/StandardCharsets"), (0, u "UTF_8"), (0, u "Ljava/nio/charset/Charset;"), (0, .methodref 16 114), (0, .nameAndType 115 116), (0, u "getBytes"), (0, u "(Ljava/nio/charset/Charset;)[B"), (5, u "jobHashes"), (0, u "()Ljava/util/List;")] 4

def k9c0 : Code := { maxStack := 7, maxLocals := 2, code := prog_1_method_1_code, exceptionTable := #[], attributes := #[] }
def k9m0 : Method := { name := "<init>", desc := "(Ljava/lang/String;)V", sig := { parameters := [(.object "java/lang/String")], returnType := none }, accessFlags := 1, code := some k9c0 }
def k9c1 : Code := { maxStack := 2, maxLocals := 1, code := prog_1_method_8_code, exceptionTable := #[], attributes := #[] }
def k9m1 : Method := { name := "payloads", desc := "()[B", sig := { parameters := [], returnType := some (.array .byte) }, accessFlags := 1, code := some k9c1 }
def k9c2 : Code := { maxStack := 2, maxLocals := 1, code := prog_1_method_9_code, exceptionTable := #[], attributes := #[] }
def k9m2 : Method := { name := "attempts", desc := "()[B", sig := { parameters := [], returnType := some (.array .byte) }, accessFlags := 1, code := some k9c2 }
def k9c3 : Code := { maxStack := 2, maxLocals := 1, code := prog_1_method_10_code, exceptionTable := #[], attributes := #[] }
def k9m3 : Method := { name := "tokens", desc := "()[B", sig := { parameters := [], returnType := some (.array .byte) }, accessFlags := 1, code := some k9c3 }
def k9c4 : Code := { maxStack := 2, maxLocals := 1, code := prog_1_method_11_code, exceptionTable := #[], attributes := #[] }
def k9m4 : Method := { name := "errors", desc := "()[B", sig := { parameters := [], returnType := some (.array .byte) }, accessFlags := 1, code := some k9c4 }
def k9c5 : Code := { maxStack := 2, maxLocals := 1, code := prog_1_method_12_code, exceptionTable := #[], attributes := #[] }
def k9m5 : Method := { name := "stalls", desc := "()[B", sig := { parameters := [], returnType := some (.array .byte) }, accessFlags := 1, code := some k9c5 }
def k9c6 : Code := { maxStack := 5, maxLocals := 1, code := prog_1_method_13_code, exceptionTable := #[], attributes := #[] }
def k9m6 : Method := { name := "jobHashes", desc := "()Ljava/util/List;", sig := { parameters := [], returnType := some (.object "java/util/List") }, accessFlags := 1, code := some k9c6 }
def k9c7 : Code := { maxStack := 2, maxLocals := 2, code := prog_1_method_14_code, exceptionTable := #[], attributes := #[] }
def k9m7 : Method := { name := "key", desc := "(Ljava/lang/String;)[B", sig := { parameters := [(.object "java/lang/String")], returnType := some (.array .byte) }, accessFlags := 2, code := some k9c7 }
/-- com/example/keen_queue/keenqueue/io/QueueKeys -/
def k9 : Class := { plain "com/example/keen_queue/keenqueue/io/QueueKeys" (some 0) with
  accessFlags := 49
  interfaces := #[]
  cf := some (fileOf pool9 54 #[] #[{ accessFlags := 1, nameIndex := 5, descriptorIndex := 27, attributes := #[] }, { accessFlags := 1, nameIndex := 87, descriptorIndex := 88, attributes := #[] }, { accessFlags := 1, nameIndex := 91, descriptorIndex := 88, attributes := #[] }, { accessFlags := 1, nameIndex := 94, descriptorIndex := 88, attributes := #[] }, { accessFlags := 1, nameIndex := 97, descriptorIndex := 88, attributes := #[] }, { accessFlags := 1, nameIndex := 100, descriptorIndex := 88, attributes := #[] }, { accessFlags := 1, nameIndex := 122, descriptorIndex := 123, attributes := #[] }, { accessFlags := 2, nameIndex := 63, descriptorIndex := 64, attributes := #[] }] 49 2 #[] #[{ accessFlags := 18, nameIndex := 57, descriptorIndex := 58, attributes := #[] }])
  fields := #[{ name := "prefix", type := (.object "java/lang/String"), accessFlags := 18, slot := 0, constantValue := 0 }]
  methods := #[k9m0, k9m1, k9m2, k9m3, k9m4, k9m5, k9m6, k9m7]
  instanceTypes := #[(.object "java/lang/String")]
  staticTypes := #[]
  resolved := Array.replicate 128 none
  statics := none }

def pool10 : Array CpInfo := pool [(2, .class_ 4), (1, u "java/lang/Object"), (0, u "<init>"), (0, u "()V"), (35, .class_ 44), (1, u "java/util/Objects"), (0, u "requireNonNull"), (0, u "(Ljava/lang/Object;)Ljava/lang/Object;"), (47, u "(Ljava/lang/Object;Ljava/lang/String;)Ljava/lang/Object;")] 89

def k10m0 : Method := { name := "<init>", desc := "()V", sig := { parameters := [], returnType := none }, accessFlags := 2, code := none }
def k10c1 : Code := { maxStack := 2, maxLocals := 1, code := jdk_31_method_10_code, exceptionTable := #[], attributes := #[] }
def k10m1 : Method := { name := "requireNonNull", desc := "(Ljava/lang/Object;)Ljava/lang/Object;", sig := { parameters := [(.object "java/lang/Object")], returnType := some (.object "java/lang/Object") }, accessFlags := 9, code := some k10c1 }
def k10c2 : Code := { maxStack := 3, maxLocals := 2, code := jdk_31_method_11_code, exceptionTable := #[], attributes := #[] }
def k10m2 : Method := { name := "requireNonNull", desc := "(Ljava/lang/Object;Ljava/lang/String;)Ljava/lang/Object;", sig := { parameters := [(.object "java/lang/Object"), (.object "java/lang/String")], returnType := some (.object "java/lang/Object") }, accessFlags := 9, code := some k10c2 }
/-- java/util/Objects -/
def k10 : Class := { plain "java/util/Objects" (some 0) with
  accessFlags := 49
  interfaces := #[]
  cf := some (fileOf pool10 42 #[] #[{ accessFlags := 2, nameIndex := 5, descriptorIndex := 6, attributes := #[] }, { accessFlags := 9, nameIndex := 45, descriptorIndex := 46, attributes := #[] }, { accessFlags := 9, nameIndex := 45, descriptorIndex := 94, attributes := #[] }] 49 2 #[] #[])
  fields := #[]
  methods := #[k10m0, k10m1, k10m2]
  instanceTypes := #[]
  staticTypes := #[]
  resolved := Array.replicate 184 none
  statics := none }

def pool11 : Array CpInfo := pool [(1, .class_ 2), (0, u "java/lang/Math"), (1, .class_ 6), (1, u "java/lang/Object"), (0, u "<init>"), (0, u "()V"), (89, .class_ 100), (1, u "java/lang/Math$RandomNumberGeneratorHolder"), (71, u "negativeZeroFloatBits"), (0, u "J"), (2, u "negativeZeroDoubleBits"), (21, u "max"), (2, u "min"), (43, u "$assertionsDisabled"), (0, u "Z"), (88, u "(II)I"), (2, u "twoToTheDoubleScaleDown"), (0, u "D"), (4, u "twoToTheDoubleScaleUp"), (9, u "E"), (3, u "PI"), (2, u "TAU"), (2, u "DEGREES_TO_RADIANS"), (0, u "RADIANS_TO_DEGREES")] 94

def k11m0 : Method := { name := "<init>", desc := "()V", sig := { parameters := [], returnType := none }, accessFlags := 2, code := none }
def k11c1 : Code := { maxStack := 2, maxLocals := 2, code := jdk_29_method_65_code, exceptionTable := #[], attributes := #[] }
def k11m1 : Method := { name := "max", desc := "(II)I", sig := { parameters := [.int, .int], returnType := some .int }, accessFlags := 9, code := some k11c1 }
def k11c2 : Code := { maxStack := 2, maxLocals := 2, code := jdk_29_method_69_code, exceptionTable := #[], attributes := #[] }
def k11m2 : Method := { name := "min", desc := "(II)I", sig := { parameters := [.int, .int], returnType := some .int }, accessFlags := 9, code := some k11c2 }
/-- java/lang/Math -/
def k11 : Class := { plain "java/lang/Math" (some 0) with
  accessFlags := 49
  interfaces := #[]
  cf := some (fileOf pool11 1 #[.nestMembers #[98]] #[{ accessFlags := 2, nameIndex := 7, descriptorIndex := 8, attributes := #[] }, { accessFlags := 9, nameIndex := 198, descriptorIndex := 335, attributes := #[] }, { accessFlags := 9, nameIndex := 201, descriptorIndex := 335, attributes := #[] }] 49 4 #[] #[{ accessFlags := 25, nameIndex := 354, descriptorIndex := 339, attributes := #[] }, { accessFlags := 25, nameIndex := 358, descriptorIndex := 339, attributes := #[] }, { accessFlags := 25, nameIndex := 361, descriptorIndex := 339, attributes := #[] }, { accessFlags := 26, nameIndex := 364, descriptorIndex := 339, attributes := #[] }, { accessFlags := 26, nameIndex := 365, descriptorIndex := 339, attributes := #[] }, { accessFlags := 26, nameIndex := 172, descriptorIndex := 173, attributes := #[] }, { accessFlags := 26, nameIndex := 176, descriptorIndex := 173, attributes := #[] }, { accessFlags := 8, nameIndex := 344, descriptorIndex := 339, attributes := #[] }, { accessFlags := 8, nameIndex := 338, descriptorIndex := 339, attributes := #[] }, { accessFlags := 4120, nameIndex := 245, descriptorIndex := 246, attributes := #[] }])
  fields := #[{ name := "E", type := .double, accessFlags := 25, slot := 0, constantValue := 0 }, { name := "PI", type := .double, accessFlags := 25, slot := 1, constantValue := 0 }, { name := "TAU", type := .double, accessFlags := 25, slot := 2, constantValue := 0 }, { name := "DEGREES_TO_RADIANS", type := .double, accessFlags := 26, slot := 3, constantValue := 0 }, { name := "RADIANS_TO_DEGREES", type := .double, accessFlags := 26, slot := 4, constantValue := 0 }, { name := "negativeZeroFloatBits", type := .long, accessFlags := 26, slot := 5, constantValue := 0 }, { name := "negativeZeroDoubleBits", type := .long, accessFlags := 26, slot := 6, constantValue := 0 }, { name := "twoToTheDoubleScaleUp", type := .double, accessFlags := 8, slot := 7, constantValue := 0 }, { name := "twoToTheDoubleScaleDown", type := .double, accessFlags := 8, slot := 8, constantValue := 0 }, { name := "$assertionsDisabled", type := .boolean, accessFlags := 4120, slot := 9, constantValue := 0 }]
  methods := #[k11m0, k11m1, k11m2]
  instanceTypes := #[]
  staticTypes := #[.double, .double, .double, .double, .double, .long, .long, .double, .double, .boolean]
  resolved := Array.replicate 460 none
  statics := none }

def pool12 : Array CpInfo := pool [(1, .class_ 2), (0, u "java/lang/Appendable"), (0, .class_ 4), (0, u "java/lang/Object")] 9

/-- java/lang/Appendable -/
def k12 : Class := { plain "java/lang/Appendable" (some 0) with
  accessFlags := 1537
  interfaces := #[]
  cf := some (fileOf pool12 1 #[] #[] 1537 3 #[] #[])
  fields := #[]
  methods := #[]
  instanceTypes := #[]
  staticTypes := #[]
  resolved := Array.replicate 14 none
  statics := none }

def pool13 : Array CpInfo := pool [(1, .class_ 2), (0, u "java/lang/String"), (0, .methodref 4 5), (0, .class_ 6), (0, .nameAndType 7 8), (0, u "java/lang/Object"), (0, u "<init>"), (0, u "()V"), (1, .class_ 12), (1, u "java/lang/AbstractStringBuilder"), (0, u "EMPTYVALUE"), (0, u "[B"), (0, .fieldref 10 16), (0, .nameAndType 17 14), (0, u "value"), (0, .fieldref 1 19), (0, .nameAndType 20 21), (0, u "COMPACT_STRINGS"), (0, u "Z"), (0, .fieldref 10 23), (0, .nameAndType 24 25), (0, u "coder"), (0, u "B"), (6, .methodref 1 33), (0, .nameAndType 34 35), (0, u "length"), (0, u "()I"), (4, .methodref 1 41), (0, .nameAndType 24 42), (0, u "()B"), (2, u "append"), (0, u "(Ljava/lang/String;)Ljava/lang/AbstractStringBuilder;"), (1, .class_ 49), (0, u "java/lang/CharSequence"), (19, u "(Ljava/lang/String;)V"), (5, u "maybeLatin1"), (3, .fieldref 10 80), (0, .nameAndType 81 82), (0, u "count"), (0, u "I"), (2, u "isLatin1"), (0, u "()Z"), (13, .methodref 10 101), (0, .nameAndType 102 103), (0, u "ensureCapacityInternal"), (0, u "(I)V"), (104, .methodref 10 209), (0, .nameAndType 210 211), (0, u "putStringAt"), (0, u "(ILjava/lang/String;)V"), (5, u "inflateIfNeededFor"), (2, .nameAndType 221 222), (0, u "getBytes"), (0, u "([BIB)V"), (174, .methodref 10 398), (0, .nameAndType 217 69), (0, .methodref 1 220), (3, u "()[B"), (40, .class_ 445), (0, u "java/lang/Appendable"), (106, u "getValue")] 56

def k13m0 : Method := { name := "<init>", desc := "()V", sig := { parameters := [], returnType := none }, accessFlags := 0, code := none }
def k13c1 : Code := { maxStack := 2, maxLocals := 2, code := jdk_68_method_2_code, exceptionTable := #[], attributes := #[] }
def k13m1 : Method := { name := "<init>", desc := "(I)V", sig := { parameters := [.int], returnType := none }, accessFlags := 0, code := some k13c1 }
def k13c2 : Code := { maxStack := 1, maxLocals := 1, code := jdk_68_method_6_code, exceptionTable := #[], attributes := #[] }
def k13m2 : Method := { name := "length", desc := "()I", sig := { parameters := [], returnType := some .int }, accessFlags := 1, code := some k13c2 }
def k13c3 : Code := { maxStack := 4, maxLocals := 3, code := jdk_68_method_9_code, exceptionTable := #[], attributes := #[] }
def k13m3 : Method := { name := "ensureCapacityInternal", desc := "(I)V", sig := { parameters := [.int], returnType := none }, accessFlags := 2, code := some k13c3 }
def k13c4 : Code := { maxStack := 3, maxLocals := 3, code := jdk_68_method_22_code, exceptionTable := #[], attributes := #[] }
def k13m4 : Method := { name := "append", desc := "(Ljava/lang/String;)Ljava/lang/AbstractStringBuilder;", sig := { parameters := [(.object "java/lang/String")], returnType := some (.object "java/lang/AbstractStringBuilder") }, accessFlags := 1, code := some k13c4 }
def k13c5 : Code := { maxStack := 1, maxLocals := 1, code := jdk_68_method_64_code, exceptionTable := #[], attributes := #[] }
def k13m5 : Method := { name := "getValue", desc := "()[B", sig := { parameters := [], returnType := some (.array .byte) }, accessFlags := 16, code := some k13c5 }
def k13c6 : Code := { maxStack := 1, maxLocals := 1, code := jdk_68_method_68_code, exceptionTable := #[], attributes := #[] }
def k13m6 : Method := { name := "isLatin1", desc := "()Z", sig := { parameters := [], returnType := some .boolean }, accessFlags := 16, code := some k13c6 }
def k13c7 : Code := { maxStack := 2, maxLocals := 2, code := jdk_68_method_71_code, exceptionTable := #[], attributes := #[] }
def k13m7 : Method := { name := "inflateIfNeededFor", desc := "(Ljava/lang/String;)V", sig := { parameters := [(.object "java/lang/String")], returnType := none }, accessFlags := 2, code := some k13c7 }
def k13c8 : Code := { maxStack := 4, maxLocals := 3, code := jdk_68_method_73_code, exceptionTable := #[], attributes := #[] }
def k13m8 : Method := { name := "putStringAt", desc := "(ILjava/lang/String;)V", sig := { parameters := [.int, (.object "java/lang/String")], returnType := none }, accessFlags := 2, code := some k13c8 }
/-- java/lang/AbstractStringBuilder -/
def k13 : Class := { plain "java/lang/AbstractStringBuilder" (some 0) with
  accessFlags := 1056
  interfaces := #[12, 4]
  cf := some (fileOf pool13 10 #[] #[{ accessFlags := 0, nameIndex := 7, descriptorIndex := 8, attributes := #[] }, { accessFlags := 0, nameIndex := 7, descriptorIndex := 103, attributes := #[] }, { accessFlags := 1, nameIndex := 34, descriptorIndex := 35, attributes := #[] }, { accessFlags := 2, nameIndex := 102, descriptorIndex := 103, attributes := #[] }, { accessFlags := 1, nameIndex := 45, descriptorIndex := 46, attributes := #[] }, { accessFlags := 16, nameIndex := 552, descriptorIndex := 403, attributes := #[] }, { accessFlags := 16, nameIndex := 85, descriptorIndex := 86, attributes := #[] }, { accessFlags := 2, nameIndex := 217, descriptorIndex := 69, attributes := #[] }, { accessFlags := 2, nameIndex := 210, descriptorIndex := 211, attributes := #[] }] 1056 4 #[444, 48] #[{ accessFlags := 0, nameIndex := 17, descriptorIndex := 14, attributes := #[] }, { accessFlags := 0, nameIndex := 24, descriptorIndex := 25, attributes := #[] }, { accessFlags := 0, nameIndex := 75, descriptorIndex := 21, attributes := #[] }, { accessFlags := 0, nameIndex := 81, descriptorIndex := 82, attributes := #[] }, { accessFlags := 26, nameIndex := 13, descriptorIndex := 14, attributes := #[] }])
  fields := #[{ name := "value", type := (.array .byte), accessFlags := 0, slot := 0, constantValue := 0 }, { name := "coder", type := .byte, accessFlags := 0, slot := 1, constantValue := 0 }, { name := "maybeLatin1", type := .boolean, accessFlags := 0, slot := 2, constantValue := 0 }, { name := "count", type := .int, accessFlags := 0, slot := 3, constantValue := 0 }, { name := "EMPTYVALUE", type := (.array .byte), accessFlags := 26, slot := 0, constantValue := 0 }]
  methods := #[k13m0, k13m1, k13m2, k13m3, k13m4, k13m5, k13m6, k13m7, k13m8]
  instanceTypes := #[(.array .byte), .byte, .boolean, .int]
  staticTypes := #[(.array .byte)]
  resolved := Array.replicate 609 none
  statics := none }

def pool14 : Array CpInfo := pool [(1, .methodref 2 3), (0, .class_ 4), (0, .nameAndType 5 6), (0, u "java/lang/AbstractStringBuilder"), (0, u "<init>"), (0, u "(I)V"), (11, .class_ 20), (1, u "java/lang/String"), (3, .class_ 26), (1, u "java/lang/StringBuilder"), (0, u "append"), (0, u "(Ljava/lang/String;)Ljava/lang/StringBuilder;"), (0, .methodref 2 30), (0, .nameAndType 27 31), (0, u "(Ljava/lang/String;)Ljava/lang/AbstractStringBuilder;"), (105, .methodref 18 138), (0, .nameAndType 5 139), (0, u "(Ljava/lang/StringBuilder;)V"), (5, u "()V"), (10, u "()I"), (186, .methodref 2 344), (0, .nameAndType 345 156), (0, u "length"), (3, .class_ 350), (0, u "java/lang/Appendable"), (0, .class_ 352), (0, u "java/io/Serializable"), (0, .class_ 354), (0, u "java/lang/Comparable"), (0, .class_ 356), (0, u "java/lang/CharSequence"), (0, u "serialVersionUID"), (0, u "J"), (40, u "toString"), (0, u "()Ljava/lang/String;")] 21

def k14c0 : Code := { maxStack := 2, maxLocals := 1, code := jdk_67_method_1_code, exceptionTable := #[], attributes := #[] }
def k14m0 : Method := { name := "<init>", desc := "()V", sig := { parameters := [], returnType := none }, accessFlags := 1, code := some k14c0 }
def k14c1 : Code := { maxStack := 2, maxLocals := 2, code := jdk_67_method_7_code, exceptionTable := #[], attributes := #[] }
def k14m1 : Method := { name := "append", desc := "(Ljava/lang/String;)Ljava/lang/StringBuilder;", sig := { parameters := [(.object "java/lang/String")], returnType := some (.object "java/lang/StringBuilder") }, accessFlags := 1, code := some k14c1 }
def k14c2 : Code := { maxStack := 3, maxLocals := 1, code := jdk_67_method_42_code, exceptionTable := #[], attributes := #[] }
def k14m2 : Method := { name := "toString", desc := "()Ljava/lang/String;", sig := { parameters := [], returnType := some (.object "java/lang/String") }, accessFlags := 1, code := some k14c2 }
def k14c3 : Code := { maxStack := 1, maxLocals := 1, code := jdk_67_method_93_code, exceptionTable := #[], attributes := #[] }
def k14m3 : Method := { name := "length", desc := "()I", sig := { parameters := [], returnType := some .int }, accessFlags := 4161, code := some k14c3 }
/-- java/lang/StringBuilder -/
def k14 : Class := { plain "java/lang/StringBuilder" (some 13) with
  accessFlags := 49
  interfaces := #[12, 2, 3, 4]
  cf := some (fileOf pool14 24 #[] #[{ accessFlags := 1, nameIndex := 5, descriptorIndex := 145, attributes := #[] }, { accessFlags := 1, nameIndex := 27, descriptorIndex := 28, attributes := #[] }, { accessFlags := 1, nameIndex := 399, descriptorIndex := 400, attributes := #[] }, { accessFlags := 4161, nameIndex := 345, descriptorIndex := 156, attributes := #[] }] 49 2 #[349, 351, 353, 355] #[{ accessFlags := 24, nameIndex := 357, descriptorIndex := 358, attributes := #[] }])
  fields := #[{ name := "serialVersionUID", type := .long, accessFlags := 24, slot := 0, constantValue := 0 }]
  methods := #[k14m0, k14m1, k14m2, k14m3]
  instanceTypes := #[(.array .byte), .byte, .boolean, .int]
  staticTypes := #[.long]
  resolved := Array.replicate 422 none
  statics := none }

def pool15 : Array CpInfo := pool [(2, .class_ 4), (1, u "java/lang/Object"), (0, u "<init>"), (0, u "()V"), (1, .class_ 10), (1, u "java/lang/System"), (0, u "allowSecurityManager"), (0, u "I"), (16, u "cons"), (0, u "Ljava/io/Console;"), (77, .class_ 110), (1, u "java/lang/System$CallersHolder"), (43, u "initialErrStream"), (0, u "Ljava/io/PrintStream;"), (19, u "security"), (0, u "Ljava/lang/SecurityManager;"), (31, .class_ 209), (0, u "java/lang/System$1"), (7, u "props"), (0, u "Ljava/util/Properties;"), (2, u "lineSeparator"), (0, u "Ljava/lang/String;"), (96, .class_ 321), (1, u "java/lang/System$LoggerFinder"), (5, .class_ 328), (0, u "java/lang/System$Logger"), (67, u "err"), (2, u "out"), (91, u "notSupportedJnuEncoding"), (15, u "in"), (17, u "initialIn"), (0, u "Ljava/io/InputStream;"), (35, u "bootLayer"), (0, u "Ljava/lang/ModuleLayer;"), (99, .class_ 664), (0, u "java/lang/System$2"), (9, u "NEVER"), (2, u "MAYBE"), (49, u "arraycopy"), (0, u "(Ljava/lang/Object;ILjava/lang/Object;II)V"), (72, .class_ 802), (0, u "java/lang/System$Logger$Level")] 31

def k15m0 : Method := { name := "<init>", desc := "()V", sig := { parameters := [], returnType := none }, accessFlags := 2, code := none }
def k15m1 : Method := { name := "arraycopy", desc := "(Ljava/lang/Object;ILjava/lang/Object;II)V", sig := { parameters := [(.object "java/lang/Object"), .int, (.object "java/lang/Object"), .int, .int], returnType := none }, accessFlags := 265, code := none }
/-- java/lang/System -/
def k15 : Class := { plain "java/lang/System" (some 0) with
  accessFlags := 49
  interfaces := #[]
  cf := some (fileOf pool15 8 #[.nestMembers #[319, 327, 801, 108, 663, 208]] #[{ accessFlags := 2, nameIndex := 5, descriptorIndex := 6, attributes := #[] }, { accessFlags := 265, nameIndex := 727, descriptorIndex := 728, attributes := #[] }] 49 2 #[] #[{ accessFlags := 25, nameIndex := 507, descriptorIndex := 526, attributes := #[] }, { accessFlags := 25, nameIndex := 399, descriptorIndex := 155, attributes := #[] }, { accessFlags := 25, nameIndex := 396, descriptorIndex := 155, attributes := #[] }, { accessFlags := 10, nameIndex := 525, descriptorIndex := 526, attributes := #[] }, { accessFlags := 26, nameIndex := 674, descriptorIndex := 12, attributes := #[] }, { accessFlags := 26, nameIndex := 677, descriptorIndex := 12, attributes := #[] }, { accessFlags := 10, nameIndex := 11, descriptorIndex := 12, attributes := #[] }, { accessFlags := 74, nameIndex := 175, descriptorIndex := 176, attributes := #[] }, { accessFlags := 10, nameIndex := 491, descriptorIndex := 222, attributes := #[] }, { accessFlags := 74, nameIndex := 29, descriptorIndex := 30, attributes := #[] }, { accessFlags := 74, nameIndex := 154, descriptorIndex := 155, attributes := #[] }, { accessFlags := 10, nameIndex := 217, descriptorIndex := 218, attributes := #[] }, { accessFlags := 10, nameIndex := 221, descriptorIndex := 222, attributes := #[] }, { accessFlags := 8, nameIndex := 562, descriptorIndex := 563, attributes := #[] }])
  fields := #[{ name := "in", type := (.object "java/io/InputStream"), accessFlags := 25, slot := 0, constantValue := 0 }, { name := "out", type := (.object "java/io/PrintStream"), accessFlags := 25, slot := 1, constantValue := 0 }, { name := "err", type := (.object "java/io/PrintStream"), accessFlags := 25, slot := 2, constantValue := 0 }, { name := "initialIn", type := (.object "java/io/InputStream"), accessFlags := 10, slot := 3, constantValue := 0 }, { name := "NEVER", type := .int, accessFlags := 26, slot := 4, constantValue := 0 }, { name := "MAYBE", type := .int, accessFlags := 26, slot := 5, constantValue := 0 }, { name := "allowSecurityManager", type := .int, accessFlags := 10, slot := 6, constantValue := 0 }, { name := "security", type := (.object "java/lang/SecurityManager"), accessFlags := 74, slot := 7, constantValue := 0 }, { name := "notSupportedJnuEncoding", type := (.object "java/lang/String"), accessFlags := 10, slot := 8, constantValue := 0 }, { name := "cons", type := (.object "java/io/Console"), accessFlags := 74, slot := 9, constantValue := 0 }, { name := "initialErrStream", type := (.object "java/io/PrintStream"), accessFlags := 74, slot := 10, constantValue := 0 }, { name := "props", type := (.object "java/util/Properties"), accessFlags := 10, slot := 11, constantValue := 0 }, { name := "lineSeparator", type := (.object "java/lang/String"), accessFlags := 10, slot := 12, constantValue := 0 }, { name := "bootLayer", type := (.object "java/lang/ModuleLayer"), accessFlags := 8, slot := 13, constantValue := 0 }]
  methods := #[k15m0, k15m1]
  instanceTypes := #[]
  staticTypes := #[(.object "java/io/InputStream"), (.object "java/io/PrintStream"), (.object "java/io/PrintStream"), (.object "java/io/InputStream"), .int, .int, .int, (.object "java/lang/SecurityManager"), (.object "java/lang/String"), (.object "java/io/Console"), (.object "java/io/PrintStream"), (.object "java/util/Properties"), (.object "java/lang/String"), (.object "java/lang/ModuleLayer")]
  resolved := Array.replicate 834 none
  statics := none }

def pool16 : Array CpInfo := pool [(2, .class_ 4), (1, u "java/lang/Object"), (0, u "<init>"), (0, u "()V"), (7, .class_ 16), (1, u "java/util/Arrays"), (57, .class_ 76), (1, u "java/util/Arrays$NaturalOrder"), (36, .class_ 115), (1, u "java/util/Arrays$LegacyMergeSort"), (1, u "Z"), (21, u "copyOfRange"), (10, .methodref 151 152), (0, .class_ 153), (0, .nameAndType 154 155), (0, u "java/lang/System"), (0, u "arraycopy"), (0, u "(Ljava/lang/Object;ILjava/lang/Object;II)V"), (146, u "copyOf"), (1, .methodref 305 306), (0, .class_ 307), (0, .nameAndType 308 309), (0, u "java/lang/Math"), (0, u "min"), (0, u "(II)I"), (29, .methodref 14 340), (0, .nameAndType 341 342), (0, u "copyOfRangeByte"), (0, u "([BII)[B"), (0, .methodref 14 344), (0, .nameAndType 345 346), (0, u "checkLength"), (0, u "(II)V"), (28, .class_ 376), (0, u "java/util/Arrays$ArrayList"), (68, u "$assertionsDisabled"), (269, u "MIN_ARRAY_SORT_GRAN"), (0, u "I"), (2, u "INSERTIONSORT_THRESHOLD"), (149, u "([BI)[B"), (105, .class_ 976), (0, u "java/util/Arrays$ArrayItr")] 52

def k16m0 : Method := { name := "<init>", desc := "()V", sig := { parameters := [], returnType := none }, accessFlags := 2, code := none }
def k16c1 : Code := { maxStack := 6, maxLocals := 3, code := jdk_65_method_121_code, exceptionTable := #[], attributes := #[] }
def k16m1 : Method := { name := "copyOf", desc := "([BI)[B", sig := { parameters := [(.array .byte), .int], returnType := some (.array .byte) }, accessFlags := 9, code := some k16c1 }
def k16c2 : Code := { maxStack := 4, maxLocals := 2, code := jdk_65_method_131_code, exceptionTable := #[], attributes := #[] }
def k16m2 : Method := { name := "checkLength", desc := "(II)V", sig := { parameters := [.int, .int], returnType := none }, accessFlags := 10, code := some k16c2 }
def k16c3 : Code := { maxStack := 3, maxLocals := 3, code := jdk_65_method_132_code, exceptionTable := #[], attributes := #[] }
def k16m3 : Method := { name := "copyOfRange", desc := "([BII)[B", sig := { parameters := [(.array .byte), .int, .int], returnType := some (.array .byte) }, accessFlags := 9, code := some k16c3 }
def k16c4 : Code := { maxStack := 6, maxLocals := 5, code := jdk_65_method_133_code, exceptionTable := #[], attributes := #[] }
def k16m4 : Method := { name := "copyOfRangeByte", desc := "([BII)[B", sig := { parameters := [(.array .byte), .int, .int], returnType := some (.array .byte) }, accessFlags := 10, code := some k16c4 }
/-- java/util/Arrays -/
def k16 : Class := { plain "java/util/Arrays" (some 0) with
  accessFlags := 49
  interfaces := #[]
  cf := some (fileOf pool16 14 #[.nestMembers #[975, 375, 113, 74]] #[{ accessFlags := 2, nameIndex := 5, descriptorIndex := 6, attributes := #[] }, { accessFlags := 9, nameIndex := 302, descriptorIndex := 869, attributes := #[] }, { accessFlags := 10, nameIndex := 345, descriptorIndex := 346, attributes := #[] }, { accessFlags := 9, nameIndex := 139, descriptorIndex := 342, attributes := #[] }, { accessFlags := 10, nameIndex := 341, descriptorIndex := 342, attributes := #[] }] 49 2 #[] #[{ accessFlags := 26, nameIndex := 715, descriptorIndex := 716, attributes := #[] }, { accessFlags := 26, nameIndex := 719, descriptorIndex := 716, attributes := #[] }, { accessFlags := 4120, nameIndex := 445, descriptorIndex := 117, attributes := #[] }])
  fields := #[{ name := "MIN_ARRAY_SORT_GRAN", type := .int, accessFlags := 26, slot := 0, constantValue := 0 }, { name := "INSERTIONSORT_THRESHOLD", type := .int, accessFlags := 26, slot := 1, constantValue := 0 }, { name := "$assertionsDisabled", type := .boolean, accessFlags := 4120, slot := 2, constantValue := 0 }]
  methods := #[k16m0, k16m1, k16m2, k16m3, k16m4]
  instanceTypes := #[]
  staticTypes := #[.int, .int, .boolean]
  resolved := Array.replicate 1029 none
  statics := none }

def pool17 : Array CpInfo := pool [(2, .class_ 4), (1, u "java/lang/Object"), (0, u "<init>"), (0, u "()V"), (14, .class_ 23), (1, u "java/nio/charset/StandardCharsets"), (0, u "US_ASCII"), (0, u "Ljava/nio/charset/Charset;"), (7, u "ISO_8859_1"), (7, u "UTF_8"), (5, u "UTF_16BE"), (5, u "UTF_16LE"), (5, u "UTF_16")] 8

def k17m0 : Method := { name := "<init>", desc := "()V", sig := { parameters := [], returnType := none }, accessFlags := 2, code := none }
/-- java/nio/charset/StandardCharsets -/
def k17 : Class := { plain "java/nio/charset/StandardCharsets" (some 0) with
  accessFlags := 49
  interfaces := #[]
  cf := some (fileOf pool17 21 #[] #[{ accessFlags := 2, nameIndex := 5, descriptorIndex := 6, attributes := #[] }] 49 2 #[] #[{ accessFlags := 25, nameIndex := 24, descriptorIndex := 25, attributes := #[] }, { accessFlags := 25, nameIndex := 33, descriptorIndex := 25, attributes := #[] }, { accessFlags := 25, nameIndex := 41, descriptorIndex := 25, attributes := #[] }, { accessFlags := 25, nameIndex := 47, descriptorIndex := 25, attributes := #[] }, { accessFlags := 25, nameIndex := 53, descriptorIndex := 25, attributes := #[] }, { accessFlags := 25, nameIndex := 59, descriptorIndex := 25, attributes := #[] }])
  fields := #[{ name := "US_ASCII", type := (.object "java/nio/charset/Charset"), accessFlags := 25, slot := 0, constantValue := 0 }, { name := "ISO_8859_1", type := (.object "java/nio/charset/Charset"), accessFlags := 25, slot := 1, constantValue := 0 }, { name := "UTF_8", type := (.object "java/nio/charset/Charset"), accessFlags := 25, slot := 2, constantValue := 0 }, { name := "UTF_16BE", type := (.object "java/nio/charset/Charset"), accessFlags := 25, slot := 3, constantValue := 0 }, { name := "UTF_16LE", type := (.object "java/nio/charset/Charset"), accessFlags := 25, slot := 4, constantValue := 0 }, { name := "UTF_16", type := (.object "java/nio/charset/Charset"), accessFlags := 25, slot := 5, constantValue := 0 }]
  methods := #[k17m0]
  instanceTypes := #[]
  staticTypes := #[(.object "java/nio/charset/Charset"), (.object "java/nio/charset/Charset"), (.object "java/nio/charset/Charset"), (.object "java/nio/charset/Charset"), (.object "java/nio/charset/Charset"), (.object "java/nio/charset/Charset")]
  resolved := Array.replicate 68 none
  statics := some 1 }

def pool18 : Array CpInfo := pool [(18, .class_ 20), (1, u "java/nio/charset/Charset"), (0, u "cache1"), (0, u "[Ljava/lang/Object;"), (2, u "cache2"), (0, .class_ 27), (0, u "java/lang/Object"), (0, .class_ 29), (0, u "java/nio/charset/Charset$1"), (4, .class_ 36), (1, u "java/nio/charset/Charset$ThreadTrackHolder"), (21, .class_ 59), (0, u "java/nio/charset/Charset$2"), (11, .class_ 73), (1, u "java/nio/charset/Charset$ExtendedProviderHolder"), (22, u "standardProvider"), (0, u "Ljava/nio/charset/spi/CharsetProvider;"), (29, u "name"), (7, .class_ 136), (0, u "java/nio/charset/Charset$3"), (5, u "defaultCharset"), (0, u "Ljava/nio/charset/Charset;"), (14, u "zeroAliases"), (0, u "[Ljava/lang/String;"), (29, u "Ljava/lang/String;"), (2, u "aliases"), (2, u "aliasSet"), (0, u "Ljava/util/Set;"), (82, .class_ 280), (0, u "java/lang/Comparable"), (84, .class_ 366), (0, u "java/nio/charset/Charset$ExtendedProviderHolder$1")] 3

/-- java/nio/charset/Charset -/
def k18 : Class := { plain "java/nio/charset/Charset" (some 0) with
  accessFlags := 1057
  interfaces := #[3]
  cf := some (fileOf pool18 18 #[.nestMembers #[71, 365, 34, 135, 58, 28]] #[] 1057 26 #[279] #[{ accessFlags := 26, nameIndex := 96, descriptorIndex := 97, attributes := #[] }, { accessFlags := 26, nameIndex := 158, descriptorIndex := 159, attributes := #[] }, { accessFlags := 74, nameIndex := 21, descriptorIndex := 22, attributes := #[] }, { accessFlags := 74, nameIndex := 25, descriptorIndex := 22, attributes := #[] }, { accessFlags := 10, nameIndex := 142, descriptorIndex := 143, attributes := #[] }, { accessFlags := 18, nameIndex := 127, descriptorIndex := 189, attributes := #[] }, { accessFlags := 18, nameIndex := 192, descriptorIndex := 159, attributes := #[] }, { accessFlags := 2, nameIndex := 195, descriptorIndex := 196, attributes := #[] }])
  fields := #[{ name := "standardProvider", type := (.object "java/nio/charset/spi/CharsetProvider"), accessFlags := 26, slot := 0, constantValue := 0 }, { name := "zeroAliases", type := (.array (.object "java/lang/String")), accessFlags := 26, slot := 1, constantValue := 0 }, { name := "cache1", type := (.array (.object "java/lang/Object")), accessFlags := 74, slot := 2, constantValue := 0 }, { name := "cache2", type := (.array (.object "java/lang/Object")), accessFlags := 74, slot := 3, constantValue := 0 }, { name := "defaultCharset", type := (.object "java/nio/charset/Charset"), accessFlags := 10, slot := 4, constantValue := 0 }, { name := "name", type := (.object "java/lang/String"), accessFlags := 18, slot := 0, constantValue := 0 }, { name := "aliases", type := (.array (.object "java/lang/String")), accessFlags := 18, slot := 1, constantValue := 0 }, { name := "aliasSet", type := (.object "java/util/Set"), accessFlags := 2, slot := 2, constantValue := 0 }]
  methods := #[]
  instanceTypes := #[(.object "java/lang/String"), (.array (.object "java/lang/String")), (.object "java/util/Set")]
  staticTypes := #[(.object "java/nio/charset/spi/CharsetProvider"), (.array (.object "java/lang/String")), (.array (.object "java/lang/Object")), (.array (.object "java/lang/Object")), (.object "java/nio/charset/Charset")]
  resolved := Array.replicate 370 none
  statics := none }

def pool19 : Array CpInfo := pool [(1, .class_ 2), (0, u "sun/nio/cs/HistoricallyNamedCharset"), (0, .class_ 4), (0, u "java/lang/Object")] 4

/-- sun/nio/cs/HistoricallyNamedCharset -/
def k19 : Class := { plain "sun/nio/cs/HistoricallyNamedCharset" (some 0) with
  accessFlags := 1537
  interfaces := #[]
  cf := some (fileOf pool19 1 #[] #[] 1537 3 #[] #[])
  fields := #[]
  methods := #[]
  instanceTypes := #[]
  staticTypes := #[]
  resolved := Array.replicate 9 none
  statics := none }

def pool20 : Array CpInfo := pool [(2, .class_ 4), (1, u "java/nio/charset/Charset"), (130, .class_ 136), (0, u "sun/nio/cs/Unicode"), (0, .class_ 138), (0, u "sun/nio/cs/HistoricallyNamedCharset")] 15

/-- sun/nio/cs/Unicode -/
def k20 : Class := { plain "sun/nio/cs/Unicode" (some 18) with
  accessFlags := 1056
  interfaces := #[19]
  cf := some (fileOf pool20 135 #[] #[] 1056 2 #[137] #[])
  fields := #[]
  methods := #[]
  instanceTypes := #[(.object "java/lang/String"), (.array (.object "java/lang/String")), (.object "java/util/Set")]
  staticTypes := #[]
  resolved := Array.replicate 154 none
  statics := none }

def pool21 : Array CpInfo := pool [(10, .class_ 12), (1, u "sun/nio/cs/Unicode"), (0, u "<init>"), (3, .class_ 18), (0, u "sun/nio/cs/UTF_8$Decoder"), (3, .class_ 23), (0, u "sun/nio/cs/UTF_8$Encoder"), (15, .class_ 40), (0, u "sun/nio/cs/UTF_8"), (2, u "()V"), (2, u "INSTANCE"), (0, u "Lsun/nio/cs/UTF_8;"), (8, u "JLA"), (0, u "Ljdk/internal/access/JavaLangAccess;")] 26

def k21m0 : Method := { name := "<init>", desc := "()V", sig := { parameters := [], returnType := none }, accessFlags := 1, code := none }
/-- sun/nio/cs/UTF_8 -/
def k21 : Class := { plain "sun/nio/cs/UTF_8" (some 20) with
  accessFlags := 49
  interfaces := #[]
  cf := some (fileOf pool21 39 #[.nestMembers #[22, 17]] #[{ accessFlags := 1, nameIndex := 13, descriptorIndex := 43, attributes := #[] }] 49 10 #[] #[{ accessFlags := 25, nameIndex := 46, descriptorIndex := 47, attributes := #[] }, { accessFlags := 26, nameIndex := 56, descriptorIndex := 57, attributes := #[] }])
  fields := #[{ name := "INSTANCE", type := (.object "sun/nio/cs/UTF_8"), accessFlags := 25, slot := 0, constantValue := 0 }, { name := "JLA", type := (.object "jdk/internal/access/JavaLangAccess"), accessFlags := 26, slot := 1, constantValue := 0 }]
  methods := #[k21m0]
  instanceTypes := #[(.object "java/lang/String"), (.array (.object "java/lang/String")), (.object "java/util/Set")]
  staticTypes := #[(.object "sun/nio/cs/UTF_8"), (.object "jdk/internal/access/JavaLangAccess")]
  resolved := Array.replicate 84 none
  statics := some 2 }

def pool22 : Array CpInfo := pool [(2, .class_ 4), (1, u "java/lang/Object"), (0, u "<init>"), (0, u "()V"), (0, .methodref 8 9), (0, .class_ 10), (0, .nameAndType 11 12), (0, u "java/lang/StringCoding"), (0, u "countPositives"), (0, u "([BII)I"), (11, u "hasNegatives"), (0, u "([BII)Z")] 23

def k22m0 : Method := { name := "<init>", desc := "()V", sig := { parameters := [], returnType := none }, accessFlags := 2, code := none }
def k22c1 : Code := { maxStack := 3, maxLocals := 3, code := jdk_123_method_2_code, exceptionTable := #[], attributes := #[] }
def k22m1 : Method := { name := "hasNegatives", desc := "([BII)Z", sig := { parameters := [(.array .byte), .int, .int], returnType := some .boolean }, accessFlags := 9, code := some k22c1 }
def k22c2 : Code := { maxStack := 2, maxLocals := 5, code := jdk_123_method_3_code, exceptionTable := #[], attributes := #[] }
def k22m2 : Method := { name := "countPositives", desc := "([BII)I", sig := { parameters := [(.array .byte), .int, .int], returnType := some .int }, accessFlags := 9, code := some k22c2 }
/-- java/lang/StringCoding -/
def k22 : Class := { plain "java/lang/StringCoding" (some 0) with
  accessFlags := 32
  interfaces := #[]
  cf := some (fileOf pool22 8 #[] #[{ accessFlags := 2, nameIndex := 5, descriptorIndex := 6, attributes := #[] }, { accessFlags := 9, nameIndex := 24, descriptorIndex := 25, attributes := #[] }, { accessFlags := 9, nameIndex := 11, descriptorIndex := 12, attributes := #[] }] 32 2 #[] #[])
  fields := #[]
  methods := #[k22m0, k22m1, k22m2]
  instanceTypes := #[]
  staticTypes := #[]
  resolved := Array.replicate 49 none
  statics := none }

def pool23 : Array CpInfo := pool [(1, .class_ 2), (0, u "java/lang/Cloneable"), (0, .class_ 4), (0, u "java/lang/Object")] 2

/-- java/lang/Cloneable -/
def k23 : Class := { plain "java/lang/Cloneable" (some 0) with
  accessFlags := 1537
  interfaces := #[]
  cf := some (fileOf pool23 1 #[] #[] 1537 3 #[] #[])
  fields := #[]
  methods := #[]
  instanceTypes := #[]
  staticTypes := #[]
  resolved := Array.replicate 7 none
  statics := none }

def pool24 : Array CpInfo := pool [(8, .class_ 10), (1, u "java/lang/Iterable"), (24, .class_ 36), (0, u "java/lang/Object")] 25

/-- java/lang/Iterable -/
def k24 : Class := { plain "java/lang/Iterable" (some 0) with
  accessFlags := 1537
  interfaces := #[]
  cf := some (fileOf pool24 8 #[] #[] 1537 35 #[] #[])
  fields := #[]
  methods := #[]
  instanceTypes := #[]
  staticTypes := #[]
  resolved := Array.replicate 62 none
  statics := none }

def pool25 : Array CpInfo := pool [(10, .class_ 12), (1, u "java/util/Collection"), (47, .class_ 61), (0, u "java/lang/Object"), (0, .class_ 63), (0, u "java/lang/Iterable")] 51

/-- java/util/Collection -/
def k25 : Class := { plain "java/util/Collection" (some 0) with
  accessFlags := 1537
  interfaces := #[24]
  cf := some (fileOf pool25 10 #[] #[] 1537 60 #[62] #[])
  fields := #[]
  methods := #[]
  instanceTypes := #[]
  staticTypes := #[]
  resolved := Array.replicate 115 none
  statics := none }

def pool26 : Array CpInfo := pool [(8, .class_ 10), (1, u "java/util/SequencedCollection"), (15, .class_ 27), (0, u "java/lang/Object"), (0, .class_ 29), (0, u "java/util/Collection")] 27

/-- java/util/SequencedCollection -/
def k26 : Class := { plain "java/util/SequencedCollection" (some 0) with
  accessFlags := 1537
  interfaces := #[25]
  cf := some (fileOf pool26 8 #[] #[] 1537 26 #[28] #[])
  fields := #[]
  methods := #[]
  instanceTypes := #[]
  staticTypes := #[]
  resolved := Array.replicate 57 none
  statics := none }

def pool27 : Array CpInfo := pool [(8, .class_ 10), (1, u "java/util/List"), (64, u "get"), (0, u "(I)Ljava/lang/Object;"), (2, u "size"), (0, u "()I"), (7, u "of"), (2, .class_ 93), (1, u "java/util/ImmutableCollections"), (9, .class_ 104), (0, u "java/lang/Object"), (0, .methodref 91 106), (0, .nameAndType 107 108), (0, u "listFromTrustedArray"), (0, u "([Ljava/lang/Object;)Ljava/util/List;"), (11, .class_ 121), (0, u "java/util/SequencedCollection"), (88, u "(Ljava/lang/Object;Ljava/lang/Object;Ljava/lang/Object;Ljava/lang/Object;Ljava/lang/Object;)Ljava/util/List;")] 40

def k27m0 : Method := { name := "size", desc := "()I", sig := { parameters := [], returnType := some .int }, accessFlags := 1025, code := none }
def k27m1 : Method := { name := "get", desc := "(I)Ljava/lang/Object;", sig := { parameters := [.int], returnType := some (.object "java/lang/Object") }, accessFlags := 1025, code := none }
def k27c2 : Code := { maxStack := 4, maxLocals := 5, code := jdk_40_method_41_code, exceptionTable := #[], attributes := #[] }
def k27m2 : Method := { name := "of", desc := "(Ljava/lang/Object;Ljava/lang/Object;Ljava/lang/Object;Ljava/lang/Object;Ljava/lang/Object;)Ljava/util/List;", sig := { parameters := [(.object "java/lang/Object"), (.object "java/lang/Object"), (.object "java/lang/Object"), (.object "java/lang/Object"), (.object "java/lang/Object")], returnType := some (.object "java/util/List") }, accessFlags := 9, code := some k27c2 }
/-- java/util/List -/
def k27 : Class := { plain "java/util/List" (some 0) with
  accessFlags := 1537
  interfaces := #[26]
  cf := some (fileOf pool27 8 #[] #[{ accessFlags := 1025, nameIndex := 79, descriptorIndex := 80, attributes := #[] }, { accessFlags := 1025, nameIndex := 75, descriptorIndex := 76, attributes := #[] }, { accessFlags := 9, nameIndex := 88, descriptorIndex := 210, attributes := #[] }] 1537 103 #[120] #[])
  fields := #[]
  methods := #[k27m0, k27m1, k27m2]
  instanceTypes := #[]
  staticTypes := #[]
  resolved := Array.replicate 251 none
  statics := none }

def pool28 : Array CpInfo := pool [(2, .class_ 4), (1, u "java/lang/Object"), (0, u "<init>"), (0, u "()V"), (3, .class_ 11), (0, u "java/util/ImmutableCollections$List12"), (0, .class_ 13), (0, u "java/util/ImmutableCollections$ListN"), (3, u "Z"), (18, u "([Ljava/lang/Object;)Ljava/util/List;"), (0, .methodref 38 39), (0, .class_ 40), (0, .nameAndType 41 42), (0, u "java/util/Objects"), (0, u "requireNonNull"), (0, u "(Ljava/lang/Object;)Ljava/lang/Object;"), (0, .methodref 12 44), (0, .nameAndType 5 45), (0, u "([Ljava/lang/Object;Z)V"), (0, .fieldref 47 48), (0, .class_ 49), (0, .nameAndType 50 17), (0, u "java/util/ImmutableCollections"), (0, u "$assertionsDisabled"), (5, u "[Ljava/lang/Object;"), (5, u "EMPTY_LIST"), (0, u "Ljava/util/ImmutableCollections$ListN;"), (8, u "EMPTY_LIST_NULLS"), (22, u "SALT32L"), (0, u "J"), (2, u "REVERSE"), (6, u "archivedObjects"), (2, u "EMPTY"), (0, u "Ljava/lang/Object;"), (0, .class_ 112), (0, u "java/util/ImmutableCollections$SetN"), (5, u "EMPTY_SET"), (0, u "Ljava/util/ImmutableCollections$SetN;"), (0, .class_ 121), (0, u "java/util/ImmutableCollections$MapN"), (3, u "EMPTY_MAP"), (0, u "Ljava/util/ImmutableCollections$MapN;"), (4, u "EXPAND_FACTOR"), (0, u "I"), (26, u "listFromTrustedArray"), (9, .class_ 170), (0, u "java/util/ImmutableCollections$MapN$MapNIterator"), (0, .class_ 172), (0, u "java/util/ImmutableCollections$MapN$1"), (0, .class_ 174), (0, u "java/util/ImmutableCollections$Map1"), (0, .class_ 176), (0, u "java/util/ImmutableCollections$AbstractImmutableMap"), (0, .class_ 178), (0, u "java/util/ImmutableCollections$SetN$SetNIterator"), (0, .class_ 180), (0, u "java/util/ImmutableCollections$Set12"), (0, .class_ 182), (0, u "java/util/ImmutableCollections$Set12$1"), (0, .class_ 184), (0, u "java/util/ImmutableCollections$AbstractImmutableSet"), (0, .class_ 186), (0, u "java/util/ImmutableCollections$SubList"), (0, .class_ 188), (0, u "java/util/ImmutableCollections$ListItr"), (0, .class_ 190), (0, u "java/util/ImmutableCollections$AbstractImmutableList"), (0, .class_ 192), (0, u "java/util/ImmutableCollections$AbstractImmutableCollection"), (0, .class_ 194), (0, u "java/util/ImmutableCollections$Access"), (0, .class_ 196), (0, u "java/util/ImmutableCollections$Access$1")] 16

def k28m0 : Method := { name := "<init>", desc := "()V", sig := { parameters := [], returnType := none }, accessFlags := 2, code := none }
def k28c1 : Code := { maxStack := 5, maxLocals := 5, code := jdk_56_method_5_code, exceptionTable := #[], attributes := #[] }
def k28m1 : Method := { name := "listFromTrustedArray", desc := "([Ljava/lang/Object;)Ljava/util/List;", sig := { parameters := [(.array (.object "java/lang/Object"))], returnType := some (.object "java/util/List") }, accessFlags := 136, code := some k28c1 }
/-- java/util/ImmutableCollections -/
def k28 : Class := { plain "java/util/ImmutableCollections" (some 0) with
  accessFlags := 32
  interfaces := #[]
  cf := some (fileOf pool28 47 #[.nestMembers #[120, 169, 171, 173, 175, 111, 177, 179, 181, 183, 12, 10, 185, 187, 189, 191, 193, 195]] #[{ accessFlags := 2, nameIndex := 5, descriptorIndex := 6, attributes := #[] }, { accessFlags := 136, nameIndex := 159, descriptorIndex := 36, attributes := #[] }] 32 2 #[] #[{ accessFlags := 26, nameIndex := 95, descriptorIndex := 96, attributes := #[] }, { accessFlags := 26, nameIndex := 99, descriptorIndex := 17, attributes := #[] }, { accessFlags := 10, nameIndex := 106, descriptorIndex := 56, attributes := #[] }, { accessFlags := 26, nameIndex := 109, descriptorIndex := 110, attributes := #[] }, { accessFlags := 24, nameIndex := 62, descriptorIndex := 63, attributes := #[] }, { accessFlags := 24, nameIndex := 72, descriptorIndex := 63, attributes := #[] }, { accessFlags := 24, nameIndex := 118, descriptorIndex := 119, attributes := #[] }, { accessFlags := 24, nameIndex := 125, descriptorIndex := 126, attributes := #[] }, { accessFlags := 24, nameIndex := 131, descriptorIndex := 132, attributes := #[] }, { accessFlags := 4120, nameIndex := 50, descriptorIndex := 17, attributes := #[] }])
  fields := #[{ name := "SALT32L", type := .long, accessFlags := 26, slot := 0, constantValue := 0 }, { name := "REVERSE", type := .boolean, accessFlags := 26, slot := 1, constantValue := 0 }, { name := "archivedObjects", type := (.array (.object "java/lang/Object")), accessFlags := 10, slot := 2, constantValue := 0 }, { name := "EMPTY", type := (.object "java/lang/Object"), accessFlags := 26, slot := 3, constantValue := 0 }, { name := "EMPTY_LIST", type := (.object "java/util/ImmutableCollections$ListN"), accessFlags := 24, slot := 4, constantValue := 0 }, { name := "EMPTY_LIST_NULLS", type := (.object "java/util/ImmutableCollections$ListN"), accessFlags := 24, slot := 5, constantValue := 0 }, { name := "EMPTY_SET", type := (.object "java/util/ImmutableCollections$SetN"), accessFlags := 24, slot := 6, constantValue := 0 }, { name := "EMPTY_MAP", type := (.object "java/util/ImmutableCollections$MapN"), accessFlags := 24, slot := 7, constantValue := 0 }, { name := "EXPAND_FACTOR", type := .int, accessFlags := 24, slot := 8, constantValue := 0 }, { name := "$assertionsDisabled", type := .boolean, accessFlags := 4120, slot := 9, constantValue := 0 }]
  methods := #[k28m0, k28m1]
  instanceTypes := #[]
  staticTypes := #[.long, .boolean, (.array (.object "java/lang/Object")), (.object "java/lang/Object"), (.object "java/util/ImmutableCollections$ListN"), (.object "java/util/ImmutableCollections$ListN"), (.object "java/util/ImmutableCollections$SetN"), (.object "java/util/ImmutableCollections$MapN"), .int, .boolean]
  resolved := Array.replicate 213 none
  statics := some 3 }

def pool29 : Array CpInfo := pool [(1, .methodref 2 3), (0, .class_ 4), (0, .nameAndType 5 6), (0, u "java/lang/Object"), (0, u "<init>"), (0, u "()V"), (1, .class_ 10), (1, u "java/util/AbstractCollection"), (66, .class_ 78), (0, u "java/util/Collection")] 81

def k29c0 : Code := { maxStack := 1, maxLocals := 1, code := jdk_22_method_1_code, exceptionTable := #[], attributes := #[] }
def k29m0 : Method := { name := "<init>", desc := "()V", sig := { parameters := [], returnType := none }, accessFlags := 4, code := some k29c0 }
/-- java/util/AbstractCollection -/
def k29 : Class := { plain "java/util/AbstractCollection" (some 0) with
  accessFlags := 1057
  interfaces := #[25]
  cf := some (fileOf pool29 8 #[] #[{ accessFlags := 4, nameIndex := 5, descriptorIndex := 6, attributes := #[] }] 1057 2 #[77] #[])
  fields := #[]
  methods := #[k29m0]
  instanceTypes := #[]
  staticTypes := #[]
  resolved := Array.replicate 160 none
  statics := none }

def pool30 : Array CpInfo := pool [(1, .methodref 2 3), (0, .class_ 4), (0, .nameAndType 5 6), (0, u "java/util/AbstractCollection"), (0, u "<init>"), (0, u "()V"), (1, .class_ 10), (1, u "java/util/ImmutableCollections"), (2, .class_ 14), (0, u "java/util/ImmutableCollections$AbstractImmutableCollection")] 41

def k30c0 : Code := { maxStack := 1, maxLocals := 1, code := jdk_47_method_1_code, exceptionTable := #[], attributes := #[] }
def k30m0 : Method := { name := "<init>", desc := "()V", sig := { parameters := [], returnType := none }, accessFlags := 0, code := some k30c0 }
/-- java/util/ImmutableCollections$AbstractImmutableCollection -/
def k30 : Class := { plain "java/util/ImmutableCollections$AbstractImmutableCollection" (some 29) with
  accessFlags := 1056
  interfaces := #[]
  cf := some (fileOf pool30 13 #[.nestHost 8] #[{ accessFlags := 0, nameIndex := 5, descriptorIndex := 6, attributes := #[] }] 1056 2 #[] #[])
  fields := #[]
  methods := #[k30m0]
  instanceTypes := #[]
  staticTypes := #[]
  resolved := Array.replicate 56 none
  statics := none }

def pool31 : Array CpInfo := pool [(1, .class_ 2), (0, u "java/util/RandomAccess"), (0, .class_ 4), (0, u "java/lang/Object")] 2

/-- java/util/RandomAccess -/
def k31 : Class := { plain "java/util/RandomAccess" (some 0) with
  accessFlags := 1537
  interfaces := #[]
  cf := some (fileOf pool31 1 #[] #[] 1537 3 #[] #[])
  fields := #[]
  methods := #[]
  instanceTypes := #[]
  staticTypes := #[]
  resolved := Array.replicate 7 none
  statics := none }

def pool32 : Array CpInfo := pool [(1, .methodref 2 3), (0, .class_ 4), (0, .nameAndType 5 6), (0, u "java/util/ImmutableCollections$AbstractImmutableCollection"), (0, u "<init>"), (0, u "()V"), (1, .class_ 10), (1, u "java/util/ImmutableCollections"), (3, .class_ 16), (1, u "java/util/ImmutableCollections$AbstractImmutableList"), (60, .class_ 78), (0, u "java/util/List"), (45, .class_ 125), (0, u "java/util/RandomAccess")] 70

def k32c0 : Code := { maxStack := 1, maxLocals := 1, code := jdk_46_method_1_code, exceptionTable := #[], attributes := #[] }
def k32m0 : Method := { name := "<init>", desc := "()V", sig := { parameters := [], returnType := none }, accessFlags := 0, code := some k32c0 }
/-- java/util/ImmutableCollections$AbstractImmutableList -/
def k32 : Class := { plain "java/util/ImmutableCollections$AbstractImmutableList" (some 30) with
  accessFlags := 1056
  interfaces := #[27, 31]
  cf := some (fileOf pool32 14 #[.nestHost 8] #[{ accessFlags := 0, nameIndex := 5, descriptorIndex := 6, attributes := #[] }] 1056 2 #[77, 124] #[])
  fields := #[]
  methods := #[k32m0]
  instanceTypes := #[]
  staticTypes := #[]
  resolved := Array.replicate 196 none
  statics := none }

def pool33 : Array CpInfo := pool [(1, .methodref 2 3), (0, .class_ 4), (0, .nameAndType 5 6), (0, u "java/util/ImmutableCollections$AbstractImmutableList"), (0, u "<init>"), (0, u "()V"), (0, .fieldref 8 9), (0, .class_ 10), (0, .nameAndType 11 12), (0, u "java/util/ImmutableCollections$ListN"), (0, u "elements"), (0, u "[Ljava/lang/Object;"), (0, .fieldref 8 14), (0, .nameAndType 15 16), (0, u "allowNulls"), (0, u "Z"), (42, .class_ 60), (0, u "java/io/Serializable"), (4, u "([Ljava/lang/Object;Z)V"), (11, u "size"), (0, u "()I"), (0, u "get"), (0, u "(I)Ljava/lang/Object;"), (33, .class_ 115), (0, u "java/util/ImmutableCollections")] 3

def k33c0 : Code := { maxStack := 2, maxLocals := 3, code := jdk_45_method_1_code, exceptionTable := #[], attributes := #[] }
def k33m0 : Method := { name := "<init>", desc := "([Ljava/lang/Object;Z)V", sig := { parameters := [(.array (.object "java/lang/Object")), .boolean], returnType := none }, accessFlags := 2, code := some k33c0 }
def k33c1 : Code := { maxStack := 1, maxLocals := 1, code := jdk_45_method_3_code, exceptionTable := #[], attributes := #[] }
def k33m1 : Method := { name := "size", desc := "()I", sig := { parameters := [], returnType := some .int }, accessFlags := 1, code := some k33c1 }
def k33c2 : Code := { maxStack := 2, maxLocals := 2, code := jdk_45_method_4_code, exceptionTable := #[], attributes := #[] }
def k33m2 : Method := { name := "get", desc := "(I)Ljava/lang/Object;", sig := { parameters := [.int], returnType := some (.object "java/lang/Object") }, accessFlags := 1, code := some k33c2 }
/-- java/util/ImmutableCollections$ListN -/
def k33 : Class := { plain "java/util/ImmutableCollections$ListN" (some 32) with
  accessFlags := 48
  interfaces := #[2]
  cf := some (fileOf pool33 8 #[.nestHost 114] #[{ accessFlags := 2, nameIndex := 5, descriptorIndex := 65, attributes := #[] }, { accessFlags := 1, nameIndex := 77, descriptorIndex := 78, attributes := #[] }, { accessFlags := 1, nameIndex := 79, descriptorIndex := 80, attributes := #[] }] 48 2 #[59] #[{ accessFlags := 18, nameIndex := 11, descriptorIndex := 12, attributes := #[] }, { accessFlags := 18, nameIndex := 15, descriptorIndex := 16, attributes := #[] }])
  fields := #[{ name := "elements", type := (.array (.object "java/lang/Object")), accessFlags := 18, slot := 0, constantValue := 0 }, { name := "allowNulls", type := .boolean, accessFlags := 18, slot := 1, constantValue := 0 }]
  methods := #[k33m0, k33m1, k33m2]
  instanceTypes := #[(.array (.object "java/lang/Object")), .boolean]
  staticTypes := #[]
  resolved := Array.replicate 119 none
  statics := none }

def pool34 : Array CpInfo := pool [(2, .class_ 4), (1, u "java/lang/Object"), (0, u "<init>"), (0, u "()V"), (17, .class_ 26), (1, u "jdk/internal/util/Preconditions"), (6, u "checkIndex"), (21, .class_ 56), (0, u "jdk/internal/util/Preconditions$4"), (57, .class_ 115), (0, u "jdk/internal/util/Preconditions$1"), (7, u "SIOOBE_FORMATTER"), (0, u "Ljava/util/function/BiFunction;"), (0, .class_ 126), (0, u "jdk/internal/util/Preconditions$2"), (3, u "AIOOBE_FORMATTER"), (0, .class_ 132), (0, u "jdk/internal/util/Preconditions$3"), (3, u "IOOBE_FORMATTER"), (41, u "(IILjava/util/function/BiFunction;)I")] 15

def k34m0 : Method := { name := "<init>", desc := "()V", sig := { parameters := [], returnType := none }, accessFlags := 1, code := none }
def k34c1 : Code := { maxStack := 3, maxLocals := 3, code := jdk_41_method_11_code, exceptionTable := #[], attributes := #[] }
def k34m1 : Method := { name := "checkIndex", desc := "(IILjava/util/function/BiFunction;)I", sig := { parameters := [.int, .int, (.object "java/util/function/BiFunction")], returnType := some .int }, accessFlags := 9, code := some k34c1 }
/-- jdk/internal/util/Preconditions -/
def k34 : Class := { plain "jdk/internal/util/Preconditions" (some 0) with
  accessFlags := 33
  interfaces := #[]
  cf := some (fileOf pool34 24 #[.nestMembers #[55, 131, 125, 114]] #[{ accessFlags := 1, nameIndex := 5, descriptorIndex := 6, attributes := #[] }, { accessFlags := 9, nameIndex := 33, descriptorIndex := 178, attributes := #[] }] 33 2 #[] #[{ accessFlags := 25, nameIndex := 123, descriptorIndex := 124, attributes := #[] }, { accessFlags := 25, nameIndex := 130, descriptorIndex := 124, attributes := #[] }, { accessFlags := 25, nameIndex := 136, descriptorIndex := 124, attributes := #[] }])
  fields := #[{ name := "SIOOBE_FORMATTER", type := (.object "java/util/function/BiFunction"), accessFlags := 25, slot := 0, constantValue := 0 }, { name := "AIOOBE_FORMATTER", type := (.object "java/util/function/BiFunction"), accessFlags := 25, slot := 1, constantValue := 0 }, { name := "IOOBE_FORMATTER", type := (.object "java/util/function/BiFunction"), accessFlags := 25, slot := 2, constantValue := 0 }]
  methods := #[k34m0, k34m1]
  instanceTypes := #[]
  staticTypes := #[(.object "java/util/function/BiFunction"), (.object "java/util/function/BiFunction"), (.object "java/util/function/BiFunction")]
  resolved := Array.replicate 194 none
  statics := some 4 }

def pool35 : Array CpInfo := pool [(6, .class_ 8), (1, u "java/lang/Object"), (0, u "<init>"), (0, u "()V"), (0, .methodref 12 13), (0, .class_ 14), (0, .nameAndType 15 16), (0, u "java/lang/StringUTF16"), (0, u "newBytesLength"), (0, u "(I)I"), (3, .integer 1073741823), (25, u "$assertionsDisabled"), (0, u "Z"), (13, u "HI_BYTE_SHIFT"), (0, u "I"), (2, u "LO_BYTE_SHIFT"), (43, u "newBytesFor"), (0, u "(I)[B"), (4, .methodref 12 116), (0, .nameAndType 117 118), (0, u "compress"), (0, u "([CI[BII)I"), (3, u "([CII)[B"), (138, u "coderFromArrayLen"), (0, u "([BI)B"), (106, .class_ 371), (1, u "java/lang/StringUTF16$LinesSpliterator"), (58, u "MAX_LENGTH"), (196, .class_ 628), (0, u "java/lang/StringUTF16$CodePointsSpliterator"), (0, .class_ 630), (0, u "java/lang/StringUTF16$CharsSpliterator")] 4

def k35m0 : Method := { name := "<init>", desc := "()V", sig := { parameters := [], returnType := none }, accessFlags := 0, code := none }
def k35c1 : Code := { maxStack := 1, maxLocals := 1, code := jdk_52_method_2_code, exceptionTable := #[], attributes := #[] }
def k35m1 : Method := { name := "newBytesFor", desc := "(I)[B", sig := { parameters := [.int], returnType := some (.array .byte) }, accessFlags := 9, code := some k35c1 }
def k35c2 : Code := { maxStack := 4, maxLocals := 1, code := jdk_52_method_3_code, exceptionTable := #[], attributes := #[] }
def k35m2 : Method := { name := "newBytesLength", desc := "(I)I", sig := { parameters := [.int], returnType := some .int }, accessFlags := 9, code := some k35c2 }
def k35c3 : Code := { maxStack := 2, maxLocals := 2, code := jdk_52_method_15_code, exceptionTable := #[], attributes := #[] }
def k35m3 : Method := { name := "coderFromArrayLen", desc := "([BI)B", sig := { parameters := [(.array .byte), .int], returnType := some .byte }, accessFlags := 8, code := some k35c3 }
def k35c4 : Code := { maxStack := 5, maxLocals := 6, code := jdk_52_method_16_code, exceptionTable := #[], attributes := #[] }
def k35m4 : Method := { name := "compress", desc := "([CII)[B", sig := { parameters := [(.array .char), .int, .int], returnType := some (.array .byte) }, accessFlags := 9, code := some k35c4 }
def k35c5 : Code := { maxStack := 3, maxLocals := 7, code := jdk_52_method_21_code, exceptionTable := #[], attributes := #[] }
def k35m5 : Method := { name := "compress", desc := "([CI[BII)I", sig := { parameters := [(.array .char), .int, (.array .byte), .int, .int], returnType := some .int }, accessFlags := 9, code := some k35c5 }
/-- java/lang/StringUTF16 -/
def k35 : Class := { plain "java/lang/StringUTF16" (some 0) with
  accessFlags := 48
  interfaces := #[]
  cf := some (fileOf pool35 12 #[.nestMembers #[627, 629, 369]] #[{ accessFlags := 0, nameIndex := 9, descriptorIndex := 10, attributes := #[] }, { accessFlags := 9, nameIndex := 109, descriptorIndex := 110, attributes := #[] }, { accessFlags := 9, nameIndex := 15, descriptorIndex := 16, attributes := #[] }, { accessFlags := 8, nameIndex := 261, descriptorIndex := 262, attributes := #[] }, { accessFlags := 9, nameIndex := 117, descriptorIndex := 122, attributes := #[] }, { accessFlags := 9, nameIndex := 117, descriptorIndex := 118, attributes := #[] }] 48 6 #[] #[{ accessFlags := 26, nameIndex := 61, descriptorIndex := 62, attributes := #[] }, { accessFlags := 26, nameIndex := 65, descriptorIndex := 62, attributes := #[] }, { accessFlags := 24, nameIndex := 430, descriptorIndex := 62, attributes := #[] }, { accessFlags := 4120, nameIndex := 46, descriptorIndex := 47, attributes := #[] }])
  fields := #[{ name := "HI_BYTE_SHIFT", type := .int, accessFlags := 26, slot := 0, constantValue := 0 }, { name := "LO_BYTE_SHIFT", type := .int, accessFlags := 26, slot := 1, constantValue := 0 }, { name := "MAX_LENGTH", type := .int, accessFlags := 24, slot := 2, constantValue := 0 }, { name := "$assertionsDisabled", type := .boolean, accessFlags := 4120, slot := 3, constantValue := 0 }]
  methods := #[k35m0, k35m1, k35m2, k35m3, k35m4, k35m5]
  instanceTypes := #[]
  staticTypes := #[.int, .int, .int, .boolean]
  resolved := Array.replicate 635 none
  statics := none }

def pool36 : Array CpInfo := pool [(9, u "<init>"), (6, .class_ 18), (1, u "java/lang/Object"), (0, u "()V"), (1, .class_ 23), (1, u "jdk/internal/util/ArraysSupport"), (0, u "LOG2_ARRAY_LONG_INDEX_SCALE"), (0, u "I"), (2, u "U"), (0, u "Ljdk/internal/misc/Unsafe;"), (8, u "BIG_ENDIAN"), (0, u "Z"), (8, u "LOG2_BYTE_BIT_SIZE"), (4, u "LOG2_ARRAY_INT_INDEX_SCALE"), (54, u "JLA"), (0, u "Ljdk/internal/access/JavaLangAccess;"), (11, u "LOG2_ARRAY_BOOLEAN_INDEX_SCALE"), (9, u "LOG2_ARRAY_BYTE_INDEX_SCALE"), (5, u "LOG2_ARRAY_CHAR_INDEX_SCALE"), (5, u "LOG2_ARRAY_SHORT_INDEX_SCALE"), (18, u "LOG2_ARRAY_FLOAT_INDEX_SCALE"), (24, u "LOG2_ARRAY_DOUBLE_INDEX_SCALE"), (89, u "T_BOOLEAN"), (2, u "T_CHAR"), (1, u "T_FLOAT"), (1, u "T_DOUBLE"), (1, u "T_BYTE"), (1, u "T_SHORT"), (1, u "T_INT"), (1, u "T_LONG"), (1, u "SOFT_MAX_ARRAY_LENGTH")] 83

def k36m0 : Method := { name := "<init>", desc := "()V", sig := { parameters := [], returnType := none }, accessFlags := 2, code := none }
/-- jdk/internal/util/ArraysSupport -/
def k36 : Class := { plain "jdk/internal/util/ArraysSupport" (some 0) with
  accessFlags := 33
  interfaces := #[]
  cf := some (fileOf pool36 21 #[] #[{ accessFlags := 2, nameIndex := 9, descriptorIndex := 19, attributes := #[] }] 33 16 #[] #[{ accessFlags := 24, nameIndex := 28, descriptorIndex := 29, attributes := #[] }, { accessFlags := 26, nameIndex := 38, descriptorIndex := 39, attributes := #[] }, { accessFlags := 25, nameIndex := 121, descriptorIndex := 25, attributes := #[] }, { accessFlags := 25, nameIndex := 131, descriptorIndex := 25, attributes := #[] }, { accessFlags := 25, nameIndex := 137, descriptorIndex := 25, attributes := #[] }, { accessFlags := 25, nameIndex := 143, descriptorIndex := 25, attributes := #[] }, { accessFlags := 25, nameIndex := 53, descriptorIndex := 25, attributes := #[] }, { accessFlags := 25, nameIndex := 24, descriptorIndex := 25, attributes := #[] }, { accessFlags := 25, nameIndex := 162, descriptorIndex := 25, attributes := #[] }, { accessFlags := 25, nameIndex := 187, descriptorIndex := 25, attributes := #[] }, { accessFlags := 26, nameIndex := 48, descriptorIndex := 25, attributes := #[] }, { accessFlags := 25, nameIndex := 277, descriptorIndex := 25, attributes := #[] }, { accessFlags := 25, nameIndex := 280, descriptorIndex := 25, attributes := #[] }, { accessFlags := 25, nameIndex := 282, descriptorIndex := 25, attributes := #[] }, { accessFlags := 25, nameIndex := 284, descriptorIndex := 25, attributes := #[] }, { accessFlags := 25, nameIndex := 286, descriptorIndex := 25, attributes := #[] }, { accessFlags := 25, nameIndex := 288, descriptorIndex := 25, attributes := #[] }, { accessFlags := 25, nameIndex := 290, descriptorIndex := 25, attributes := #[] }, { accessFlags := 25, nameIndex := 292, descriptorIndex := 25, attributes := #[] }, { accessFlags := 26, nameIndex := 108, descriptorIndex := 109, attributes := #[] }, { accessFlags := 25, nameIndex := 294, descriptorIndex := 25, attributes := #[] }])
  fields := #[{ name := "U", type := (.object "jdk/internal/misc/Unsafe"), accessFlags := 24, slot := 0, constantValue := 0 }, { name := "BIG_ENDIAN", type := .boolean, accessFlags := 26, slot := 1, constantValue := 0 }, { name := "LOG2_ARRAY_BOOLEAN_INDEX_SCALE", type := .int, accessFlags := 25, slot := 2, constantValue := 0 }, { name := "LOG2_ARRAY_BYTE_INDEX_SCALE", type := .int, accessFlags := 25, slot := 3, constantValue := 0 }, { name := "LOG2_ARRAY_CHAR_INDEX_SCALE", type := .int, accessFlags := 25, slot := 4, constantValue := 0 }, { name := "LOG2_ARRAY_SHORT_INDEX_SCALE", type := .int, accessFlags := 25, slot := 5, constantValue := 0 }, { name := "LOG2_ARRAY_INT_INDEX_SCALE", type := .int, accessFlags := 25, slot := 6, constantValue := 0 }, { name := "LOG2_ARRAY_LONG_INDEX_SCALE", type := .int, accessFlags := 25, slot := 7, constantValue := 0 }, { name := "LOG2_ARRAY_FLOAT_INDEX_SCALE", type := .int, accessFlags := 25, slot := 8, constantValue := 0 }, { name := "LOG2_ARRAY_DOUBLE_INDEX_SCALE", type := .int, accessFlags := 25, slot := 9, constantValue := 0 }, { name := "LOG2_BYTE_BIT_SIZE", type := .int, accessFlags := 26, slot := 10, constantValue := 0 }, { name := "T_BOOLEAN", type := .int, accessFlags := 25, slot := 11, constantValue := 0 }, { name := "T_CHAR", type := .int, accessFlags := 25, slot := 12, constantValue := 0 }, { name := "T_FLOAT", type := .int, accessFlags := 25, slot := 13, constantValue := 0 }, { name := "T_DOUBLE", type := .int, accessFlags := 25, slot := 14, constantValue := 0 }, { name := "T_BYTE", type := .int, accessFlags := 25, slot := 15, constantValue := 0 }, { name := "T_SHORT", type := .int, accessFlags := 25, slot := 16, constantValue := 0 }, { name := "T_INT", type := .int, accessFlags := 25, slot := 17, constantValue := 0 }, { name := "T_LONG", type := .int, accessFlags := 25, slot := 18, constantValue := 0 }, { name := "JLA", type := (.object "jdk/internal/access/JavaLangAccess"), accessFlags := 26, slot := 19, constantValue := 0 }, { name := "SOFT_MAX_ARRAY_LENGTH", type := .int, accessFlags := 25, slot := 20, constantValue := 0 }]
  methods := #[k36m0]
  instanceTypes := #[]
  staticTypes := #[(.object "jdk/internal/misc/Unsafe"), .boolean, .int, .int, .int, .int, .int, .int, .int, .int, .int, .int, .int, .int, .int, .int, .int, .int, .int, (.object "jdk/internal/access/JavaLangAccess"), .int]
  resolved := Array.replicate 378 none
  statics := none }

/-- the primitive byte -/
def k37 : Class := { plain "byte" none with kind := .primitive 'B', accessFlags := 0x411 }
/-- [B -/
def k38 : Class := { plain "[B" (some 0) with kind := .array 37 .byte, interfaces := #[23, 2], accessFlags := 1041 }

/-- the primitive char -/
def k39 : Class := { plain "char" none with kind := .primitive 'C', accessFlags := 0x411 }
/-- [C -/
def k40 : Class := { plain "[C" (some 0) with kind := .array 39 .char, interfaces := #[23, 2], accessFlags := 1041 }

/-- the primitive int -/
def k41 : Class := { plain "int" none with kind := .primitive 'I', accessFlags := 0x411 }
/-- [I -/
def k42 : Class := { plain "[I" (some 0) with kind := .array 41 .int, interfaces := #[23, 2], accessFlags := 1041 }

/-- [Ljava/lang/Object; -/
def k43 : Class := { plain "[Ljava/lang/Object;" (some 0) with kind := .array 0 (.object "java/lang/Object"), interfaces := #[23, 2], accessFlags := 1041 }

def heap : Heap := #[{ cls := 7, slots := #[.long 0, .int 1, .null, .int 0, .null, .int 0, .int 0], vm := .statics 7 },
  { cls := 17, slots := #[.null, .null, .ref 5, .null, .null, .null], vm := .statics 17 },
  { cls := 21, slots := #[.ref 5, .null], vm := .statics 21 },
  { cls := 28, slots := #[.long 0, .int 0, .null, .ref 6, .ref 7, .null, .null, .null, .int 0, .int 1], vm := .statics 28 },
  { cls := 34, slots := #[.null, .null, .null], vm := .statics 34 },
  { cls := 21, slots := #[.null, .null, .null], vm := .none },
  { cls := 0, slots := #[], vm := .none },
  { cls := 33, slots := #[.null, .int 0], vm := .none }]
def classes : Array Class := #[k0, k1, k2, k3, k4, k5, k6, k7, k8, k9, k10, k11, k12, k13, k14, k15, k16, k17, k18, k19, k20, k21, k22, k23, k24, k25, k26, k27, k28, k29, k30, k31, k32, k33, k34, k35, k36, k37, k38, k39, k40, k41, k42, k43]
def interned : List (Array UInt16 × Addr) := []
def slotsUsed : Nat := 33
def theMethod : MethodId := ⟨1, 1⟩
def args0 : Array Value := #[.int 0]
def aboutOver (below : List Frame) : State where
  vm := { classes := classes, interned := interned.toArray }
  heap := heap
  slotsUsed := slotsUsed
  threads := #[{ frames := .invoking theMethod args0 :: below }]
def below0 : List Frame := [.native { method := ⟨0, 0⟩, args := #[] }]
def about1 : State := aboutOver below0
def p0 : Program := .bare "" "" ""
def e0 : Env := launch0.env 0 0 0
theorem w_frames : about1.frames = Frame.invoking theMethod args0 :: below0 := rfl
set_option maxRecDepth 65536 in
theorem w_args : argsFit about1.vm theMethod args0 = true := by decide +kernel
set_option maxRecDepth 65536 in
theorem w_heap : heapFits about1 = true := by decide +kernel
set_option maxRecDepth 65536 in
theorem w_runnable : about1.curStatus? = some .runnable := by decide +kernel
set_option maxRecDepth 65536 in
theorem w_alone : about1.alone = true := by decide +kernel
set_option maxRecDepth 65536 in
theorem w_named : about1.methodNamed? x = some theMethod := by decide +kernel
set_option maxRecDepth 65536 in
theorem w_hears : about1.hears theMethod below0 = true := by decide +kernel
set_option maxRecDepth 65536 in
theorem w_ripe : about1.ripe theMethod args0 below0 = true := by decide +kernel
theorem w_running : about1.status = .running := rfl
set_option maxRecDepth 65536 in
theorem w_room : about1.hasRoom e0.platform room_1 = true :=
  launch0.hasRoom_least _ room_1 (by decide +kernel) (by decide +kernel) (by decide +kernel) (by decide +kernel) (by decide +kernel) (by decide +kernel)
theorem allAtoms_all (ts : List Jvm.Cond) (a : Array Jvm.Value) (st : Jvm.State) : (allAtoms ts).before a st = ts.all (fun c => c.before a st) := by
  induction ts with
  | nil => rfl
  | cons c t ih =>
    show (Jvm.Cond.and c (allAtoms t)).before a st = _
    rw [Jvm.Cond.before_and, ih, List.all_cons]
def words1 : List Jvm.Cond := Jvm.Cond.code x code maxLocals ret :: tables_1
/-- a 'code' word, met by the world's own term for the bytes: nothing is compared byte by byte -/
theorem code_word {y : MethodName} {bytes : ByteArray} {mx : Nat} {rt : Option FieldType} {a : Array Value} {s : State} {m : MethodId} {meth : Method} {c : Code} (h1 : s.methodNamed? y = some m) (h2 : s.vm.method? m = some meth) (h3 : meth.code = some c) (h4 : c.code = bytes)
    (h5 : (c.maxLocals == mx && c.exceptionTable.isEmpty && decide (c.maxStack ≤ mostOperands) && decide (meth.sig.returnType = rt) && !meth.locks && decide (parseMethodDescriptor y.desc = some meth.sig)) = true) : (Jvm.Cond.code y bytes mx rt).before a s = true := by
  simp only [Bool.and_eq_true, beq_iff_eq, Bool.not_eq_true', decide_eq_true_eq] at h5
  obtain ⟨⟨⟨⟨⟨g1, g2⟩, g3⟩, g4⟩, g5⟩, g6⟩ := h5
  simp [Cond.before, Cond.holds, Cond.value, h1, h2, h3, h4, g1, g2, g3, g4, g5, g6]
def isCode : Jvm.Cond → Bool
  | .code _ _ _ _ => true
  | _ => false
theorem all_split {L : List Jvm.Cond} {P : Jvm.Cond → Bool} (h1 : L.all (fun c => isCode c || P c) = true) (h2 : ∀ c ∈ L.filter isCode, P c = true) : L.all P = true := by
  refine List.all_eq_true.mpr fun c hc => ?_
  have h := List.all_eq_true.mp h1 c hc
  rcases Bool.eq_false_or_eq_true (isCode c) with hi | hi
  · exact h2 c (List.mem_filter.mpr ⟨hc, hi⟩)
  · simpa [hi] using h
set_option maxRecDepth 65536 in
theorem w_c0 : (Jvm.Cond.code x code maxLocals ret).before args0 about1 = true := code_word (m := ⟨1, 1⟩) (meth := k1m1) (c := k1c1) (by decide +kernel) rfl rfl rfl (by decide +kernel)
set_option maxRecDepth 65536 in
theorem w_c1 : (Jvm.Cond.code ({ cls := "java/lang/String", name := "valueOf", desc := "(C)Ljava/lang/String;" } : Jvm.MethodName) jdk_42_method_139_code (1 : Nat) (Option.some (Jvm.ClassFile.FieldType.object "java/lang/String"))).before args0 about1 = true := code_word (m := ⟨7, 11⟩) (meth := k7m11) (c := k7c11) (by decide +kernel) rfl rfl rfl (by decide +kernel)
set_option maxRecDepth 65536 in
theorem w_c2 : (Jvm.Cond.code ({ cls := "java/lang/StringLatin1", name := "canEncode", desc := "(C)Z" } : Jvm.MethodName) jdk_43_method_3_code (1 : Nat) (Option.some Jvm.ClassFile.FieldType.boolean)).before args0 about1 = true := code_word (m := ⟨8, 2⟩) (meth := k8m2) (c := k8c2) (by decide +kernel) rfl rfl rfl (by decide +kernel)
set_option maxRecDepth 65536 in
theorem w_c3 : (Jvm.Cond.code ({ cls := "java/lang/StringLatin1", name := "toBytes", desc := "(C)[B" } : Jvm.MethodName) jdk_43_method_46_code (1 : Nat) (Option.some (Jvm.ClassFile.FieldType.array Jvm.ClassFile.FieldType.byte))).before args0 about1 = true := code_word (m := ⟨8, 6⟩) (meth := k8m6) (c := k8c6) (by decide +kernel) rfl rfl rfl (by decide +kernel)
set_option maxRecDepth 65536 in
theorem w_c4 : (Jvm.Cond.code ({ cls := "java/lang/String", name := "<init>", desc := "([BB)V" } : Jvm.MethodName) jdk_42_method_151_code (3 : Nat) (Option.none : Option Jvm.ClassFile.FieldType)).before args0 about1 = true := code_word (m := ⟨7, 15⟩) (meth := k7m15) (c := k7c15) (by decide +kernel) rfl rfl rfl (by decide +kernel)
set_option maxRecDepth 65536 in
theorem w_c5 : (Jvm.Cond.code ({ cls := "java/lang/Object", name := "<init>", desc := "()V" } : Jvm.MethodName) object_method_1_code (1 : Nat) (Option.none : Option Jvm.ClassFile.FieldType)).before args0 about1 = true := code_word (m := ⟨0, 0⟩) (meth := k0m0) (c := k0c0) (by decide +kernel) rfl rfl rfl (by decide +kernel)
set_option maxRecDepth 65536 in
theorem w_c6 : (Jvm.Cond.code ({ cls := "com/example/keen_queue/keenqueue/io/QueueKeysJobHashesPinLaw", name := "put", desc := "([IIC)I" } : Jvm.MethodName) method_3_code (3 : Nat) (Option.some Jvm.ClassFile.FieldType.int)).before args0 about1 = true := code_word (m := ⟨1, 2⟩) (meth := k1m2) (c := k1c2) (by decide +kernel) rfl rfl rfl (by decide +kernel)
set_option maxRecDepth 65536 in
theorem w_c7 : (Jvm.Cond.code ({ cls := "com/example/keen_queue/keenqueue/io/QueueKeys", name := "<init>", desc := "(Ljava/lang/String;)V" } : Jvm.MethodName) prog_1_method_1_code (2 : Nat) (Option.none : Option Jvm.ClassFile.FieldType)).before args0 about1 = true := code_word (m := ⟨9, 0⟩) (meth := k9m0) (c := k9c0) (by decide +kernel) rfl rfl rfl (by decide +kernel)
set_option maxRecDepth 65536 in
theorem w_c8 : (Jvm.Cond.code ({ cls := "java/util/Objects", name := "requireNonNull", desc := "(Ljava/lang/Object;Ljava/lang/String;)Ljava/lang/Object;" } : Jvm.MethodName) jdk_31_method_11_code (2 : Nat) (Option.some (Jvm.ClassFile.FieldType.object "java/lang/Object"))).before args0 about1 = true := code_word (m := ⟨10, 2⟩) (meth := k10m2) (c := k10c2) (by decide +kernel) rfl rfl rfl (by decide +kernel)
set_option maxRecDepth 65536 in
theorem w_c9 : (Jvm.Cond.code ({ cls := "java/lang/String", name := "isEmpty", desc := "()Z" } : Jvm.MethodName) jdk_42_method_55_code (1 : Nat) (Option.some Jvm.ClassFile.FieldType.boolean)).before args0 about1 = true := code_word (m := ⟨7, 6⟩) (meth := k7m6) (c := k7c6) (by decide +kernel) rfl rfl rfl (by decide +kernel)
set_option maxRecDepth 65536 in
theorem w_c10 : (Jvm.Cond.code ({ cls := "java/lang/String", name := "indexOf", desc := "(I)I" } : Jvm.MethodName) jdk_42_method_79_code (2 : Nat) (Option.some Jvm.ClassFile.FieldType.int)).before args0 about1 = true := code_word (m := ⟨7, 9⟩) (meth := k7m9) (c := k7c9) (by decide +kernel) rfl rfl rfl (by decide +kernel)
set_option maxRecDepth 65536 in
theorem w_c11 : (Jvm.Cond.code ({ cls := "java/lang/String", name := "indexOf", desc := "(II)I" } : Jvm.MethodName) jdk_42_method_80_code (3 : Nat) (Option.some Jvm.ClassFile.FieldType.int)).before args0 about1 = true := code_word (m := ⟨7, 10⟩) (meth := k7m10) (c := k7c10) (by decide +kernel) rfl rfl rfl (by decide +kernel)
set_option maxRecDepth 65536 in
theorem w_c12 : (Jvm.Cond.code ({ cls := "java/lang/String", name := "isLatin1", desc := "()Z" } : Jvm.MethodName) jdk_42_method_154_code (1 : Nat) (Option.some Jvm.ClassFile.FieldType.boolean)).before args0 about1 = true := code_word (m := ⟨7, 17⟩) (meth := k7m17) (c := k7c17) (by decide +kernel) rfl rfl rfl (by decide +kernel)
set_option maxRecDepth 65536 in
theorem w_c13 : (Jvm.Cond.code ({ cls := "java/lang/String", name := "length", desc := "()I" } : Jvm.MethodName) jdk_42_method_54_code (1 : Nat) (Option.some Jvm.ClassFile.FieldType.int)).before args0 about1 = true := code_word (m := ⟨7, 5⟩) (meth := k7m5) (c := k7c5) (by decide +kernel) rfl rfl rfl (by decide +kernel)
set_option maxRecDepth 65536 in
theorem w_c14 : (Jvm.Cond.code ({ cls := "java/lang/String", name := "coder", desc := "()B" } : Jvm.MethodName) jdk_42_method_152_code (1 : Nat) (Option.some Jvm.ClassFile.FieldType.byte)).before args0 about1 = true := code_word (m := ⟨7, 16⟩) (meth := k7m16) (c := k7c16) (by decide +kernel) rfl rfl rfl (by decide +kernel)
set_option maxRecDepth 65536 in
theorem w_c15 : (Jvm.Cond.code ({ cls := "java/lang/StringLatin1", name := "indexOf", desc := "([BIII)I" } : Jvm.MethodName) jdk_43_method_22_code (4 : Nat) (Option.some Jvm.ClassFile.FieldType.int)).before args0 about1 = true := code_word (m := ⟨8, 4⟩) (meth := k8m4) (c := k8c4) (by decide +kernel) rfl rfl rfl (by decide +kernel)
set_option maxRecDepth 65536 in
theorem w_c16 : (Jvm.Cond.code ({ cls := "java/lang/StringLatin1", name := "canEncode", desc := "(I)Z" } : Jvm.MethodName) jdk_43_method_4_code (1 : Nat) (Option.some Jvm.ClassFile.FieldType.boolean)).before args0 about1 = true := code_word (m := ⟨8, 3⟩) (meth := k8m3) (c := k8c3) (by decide +kernel) rfl rfl rfl (by decide +kernel)
set_option maxRecDepth 65536 in
theorem w_c17 : (Jvm.Cond.code ({ cls := "java/lang/Math", name := "max", desc := "(II)I" } : Jvm.MethodName) jdk_29_method_65_code (2 : Nat) (Option.some Jvm.ClassFile.FieldType.int)).before args0 about1 = true := code_word (m := ⟨11, 1⟩) (meth := k11m1) (c := k11c1) (by decide +kernel) rfl rfl rfl (by decide +kernel)
set_option maxRecDepth 65536 in
theorem w_c18 : (Jvm.Cond.code ({ cls := "java/lang/Math", name := "min", desc := "(II)I" } : Jvm.MethodName) jdk_29_method_69_code (2 : Nat) (Option.some Jvm.ClassFile.FieldType.int)).before args0 about1 = true := code_word (m := ⟨11, 2⟩) (meth := k11m2) (c := k11c2) (by decide +kernel) rfl rfl rfl (by decide +kernel)
set_option maxRecDepth 65536 in
theorem w_c19 : (Jvm.Cond.code ({ cls := "java/lang/StringLatin1", name := "indexOfChar", desc := "([BIII)I" } : Jvm.MethodName) jdk_43_method_23_code (6 : Nat) (Option.some Jvm.ClassFile.FieldType.int)).before args0 about1 = true := code_word (m := ⟨8, 5⟩) (meth := k8m5) (c := k8c5) (by decide +kernel) rfl rfl rfl (by decide +kernel)
set_option maxRecDepth 65536 in
theorem w_c20 : (Jvm.Cond.code ({ cls := "java/lang/StringBuilder", name := "<init>", desc := "()V" } : Jvm.MethodName) jdk_67_method_1_code (1 : Nat) (Option.none : Option Jvm.ClassFile.FieldType)).before args0 about1 = true := code_word (m := ⟨14, 0⟩) (meth := k14m0) (c := k14c0) (by decide +kernel) rfl rfl rfl (by decide +kernel)
set_option maxRecDepth 65536 in
theorem w_c21 : (Jvm.Cond.code ({ cls := "java/lang/AbstractStringBuilder", name := "<init>", desc := "(I)V" } : Jvm.MethodName) jdk_68_method_2_code (2 : Nat) (Option.none : Option Jvm.ClassFile.FieldType)).before args0 about1 = true := code_word (m := ⟨13, 1⟩) (meth := k13m1) (c := k13c1) (by decide +kernel) rfl rfl rfl (by decide +kernel)
set_option maxRecDepth 65536 in
theorem w_c22 : (Jvm.Cond.code ({ cls := "java/lang/StringBuilder", name := "append", desc := "(Ljava/lang/String;)Ljava/lang/StringBuilder;" } : Jvm.MethodName) jdk_67_method_7_code (2 : Nat) (Option.some (Jvm.ClassFile.FieldType.object "java/lang/StringBuilder"))).before args0 about1 = true := code_word (m := ⟨14, 1⟩) (meth := k14m1) (c := k14c1) (by decide +kernel) rfl rfl rfl (by decide +kernel)
set_option maxRecDepth 65536 in
theorem w_c23 : (Jvm.Cond.code ({ cls := "java/lang/AbstractStringBuilder", name := "append", desc := "(Ljava/lang/String;)Ljava/lang/AbstractStringBuilder;" } : Jvm.MethodName) jdk_68_method_22_code (3 : Nat) (Option.some (Jvm.ClassFile.FieldType.object "java/lang/AbstractStringBuilder"))).before args0 about1 = true := code_word (m := ⟨13, 4⟩) (meth := k13m4) (c := k13c4) (by decide +kernel) rfl rfl rfl (by decide +kernel)
set_option maxRecDepth 65536 in
theorem w_c24 : (Jvm.Cond.code ({ cls := "java/lang/AbstractStringBuilder", name := "ensureCapacityInternal", desc := "(I)V" } : Jvm.MethodName) jdk_68_method_9_code (3 : Nat) (Option.none : Option Jvm.ClassFile.FieldType)).before args0 about1 = true := code_word (m := ⟨13, 3⟩) (meth := k13m3) (c := k13c3) (by decide +kernel) rfl rfl rfl (by decide +kernel)
set_option maxRecDepth 65536 in
theorem w_c25 : (Jvm.Cond.code ({ cls := "java/lang/AbstractStringBuilder", name := "putStringAt", desc := "(ILjava/lang/String;)V" } : Jvm.MethodName) jdk_68_method_73_code (3 : Nat) (Option.none : Option Jvm.ClassFile.FieldType)).before args0 about1 = true := code_word (m := ⟨13, 8⟩) (meth := k13m8) (c := k13c8) (by decide +kernel) rfl rfl rfl (by decide +kernel)
set_option maxRecDepth 65536 in
theorem w_c26 : (Jvm.Cond.code ({ cls := "java/lang/AbstractStringBuilder", name := "inflateIfNeededFor", desc := "(Ljava/lang/String;)V" } : Jvm.MethodName) jdk_68_method_71_code (2 : Nat) (Option.none : Option Jvm.ClassFile.FieldType)).before args0 about1 = true := code_word (m := ⟨13, 7⟩) (meth := k13m7) (c := k13c7) (by decide +kernel) rfl rfl rfl (by decide +kernel)
set_option maxRecDepth 65536 in
theorem w_c27 : (Jvm.Cond.code ({ cls := "java/lang/String", name := "getBytes", desc := "([BIB)V" } : Jvm.MethodName) jdk_42_method_147_code (4 : Nat) (Option.none : Option Jvm.ClassFile.FieldType)).before args0 about1 = true := code_word (m := ⟨7, 12⟩) (meth := k7m12) (c := k7c12) (by decide +kernel) rfl rfl rfl (by decide +kernel)
set_option maxRecDepth 65536 in
theorem w_c28 : (Jvm.Cond.code ({ cls := "java/lang/StringBuilder", name := "toString", desc := "()Ljava/lang/String;" } : Jvm.MethodName) jdk_67_method_42_code (1 : Nat) (Option.some (Jvm.ClassFile.FieldType.object "java/lang/String"))).before args0 about1 = true := code_word (m := ⟨14, 2⟩) (meth := k14m2) (c := k14c2) (by decide +kernel) rfl rfl rfl (by decide +kernel)
set_option maxRecDepth 65536 in
theorem w_c29 : (Jvm.Cond.code ({ cls := "java/lang/String", name := "<init>", desc := "(Ljava/lang/StringBuilder;)V" } : Jvm.MethodName) jdk_42_method_53_code (2 : Nat) (Option.none : Option Jvm.ClassFile.FieldType)).before args0 about1 = true := code_word (m := ⟨7, 4⟩) (meth := k7m4) (c := k7c4) (by decide +kernel) rfl rfl rfl (by decide +kernel)
set_option maxRecDepth 65536 in
theorem w_c30 : (Jvm.Cond.code ({ cls := "java/lang/String", name := "<init>", desc := "(Ljava/lang/AbstractStringBuilder;Ljava/lang/Void;)V" } : Jvm.MethodName) jdk_42_method_150_code (5 : Nat) (Option.none : Option Jvm.ClassFile.FieldType)).before args0 about1 = true := code_word (m := ⟨7, 14⟩) (meth := k7m14) (c := k7c14) (by decide +kernel) rfl rfl rfl (by decide +kernel)
set_option maxRecDepth 65536 in
theorem w_c31 : (Jvm.Cond.code ({ cls := "java/lang/AbstractStringBuilder", name := "getValue", desc := "()[B" } : Jvm.MethodName) jdk_68_method_64_code (1 : Nat) (Option.some (Jvm.ClassFile.FieldType.array Jvm.ClassFile.FieldType.byte))).before args0 about1 = true := code_word (m := ⟨13, 5⟩) (meth := k13m5) (c := k13c5) (by decide +kernel) rfl rfl rfl (by decide +kernel)
set_option maxRecDepth 65536 in
theorem w_c32 : (Jvm.Cond.code ({ cls := "java/lang/StringBuilder", name := "length", desc := "()I" } : Jvm.MethodName) jdk_67_method_93_code (1 : Nat) (Option.some Jvm.ClassFile.FieldType.int)).before args0 about1 = true := code_word (m := ⟨14, 3⟩) (meth := k14m3) (c := k14c3) (by decide +kernel) rfl rfl rfl (by decide +kernel)
set_option maxRecDepth 65536 in
theorem w_c33 : (Jvm.Cond.code ({ cls := "java/lang/AbstractStringBuilder", name := "length", desc := "()I" } : Jvm.MethodName) jdk_68_method_6_code (1 : Nat) (Option.some Jvm.ClassFile.FieldType.int)).before args0 about1 = true := code_word (m := ⟨13, 2⟩) (meth := k13m2) (c := k13c2) (by decide +kernel) rfl rfl rfl (by decide +kernel)
set_option maxRecDepth 65536 in
theorem w_c34 : (Jvm.Cond.code ({ cls := "java/lang/AbstractStringBuilder", name := "isLatin1", desc := "()Z" } : Jvm.MethodName) jdk_68_method_68_code (1 : Nat) (Option.some Jvm.ClassFile.FieldType.boolean)).before args0 about1 = true := code_word (m := ⟨13, 6⟩) (meth := k13m6) (c := k13c6) (by decide +kernel) rfl rfl rfl (by decide +kernel)
set_option maxRecDepth 65536 in
theorem w_c35 : (Jvm.Cond.code ({ cls := "java/util/Arrays", name := "copyOfRange", desc := "([BII)[B" } : Jvm.MethodName) jdk_65_method_132_code (3 : Nat) (Option.some (Jvm.ClassFile.FieldType.array Jvm.ClassFile.FieldType.byte))).before args0 about1 = true := code_word (m := ⟨16, 3⟩) (meth := k16m3) (c := k16c3) (by decide +kernel) rfl rfl rfl (by decide +kernel)
set_option maxRecDepth 65536 in
theorem w_c36 : (Jvm.Cond.code ({ cls := "java/util/Arrays", name := "copyOfRangeByte", desc := "([BII)[B" } : Jvm.MethodName) jdk_65_method_133_code (5 : Nat) (Option.some (Jvm.ClassFile.FieldType.array Jvm.ClassFile.FieldType.byte))).before args0 about1 = true := code_word (m := ⟨16, 4⟩) (meth := k16m4) (c := k16c4) (by decide +kernel) rfl rfl rfl (by decide +kernel)
set_option maxRecDepth 65536 in
theorem w_c37 : (Jvm.Cond.code ({ cls := "java/util/Arrays", name := "checkLength", desc := "(II)V" } : Jvm.MethodName) jdk_65_method_131_code (2 : Nat) (Option.none : Option Jvm.ClassFile.FieldType)).before args0 about1 = true := code_word (m := ⟨16, 2⟩) (meth := k16m2) (c := k16c2) (by decide +kernel) rfl rfl rfl (by decide +kernel)
set_option maxRecDepth 65536 in
theorem w_c38 : (Jvm.Cond.code ({ cls := "com/example/keen_queue/keenqueue/io/QueueKeys", name := "jobHashes", desc := "()Ljava/util/List;" } : Jvm.MethodName) prog_1_method_13_code (1 : Nat) (Option.some (Jvm.ClassFile.FieldType.object "java/util/List"))).before args0 about1 = true := code_word (m := ⟨9, 6⟩) (meth := k9m6) (c := k9c6) (by decide +kernel) rfl rfl rfl (by decide +kernel)
set_option maxRecDepth 65536 in
theorem w_c39 : (Jvm.Cond.code ({ cls := "com/example/keen_queue/keenqueue/io/QueueKeys", name := "payloads", desc := "()[B" } : Jvm.MethodName) prog_1_method_8_code (1 : Nat) (Option.some (Jvm.ClassFile.FieldType.array Jvm.ClassFile.FieldType.byte))).before args0 about1 = true := code_word (m := ⟨9, 1⟩) (meth := k9m1) (c := k9c1) (by decide +kernel) rfl rfl rfl (by decide +kernel)
set_option maxRecDepth 65536 in
theorem w_c40 : (Jvm.Cond.code ({ cls := "com/example/keen_queue/keenqueue/io/QueueKeys", name := "key", desc := "(Ljava/lang/String;)[B" } : Jvm.MethodName) prog_1_method_14_code (2 : Nat) (Option.some (Jvm.ClassFile.FieldType.array Jvm.ClassFile.FieldType.byte))).before args0 about1 = true := code_word (m := ⟨9, 7⟩) (meth := k9m7) (c := k9c7) (by decide +kernel) rfl rfl rfl (by decide +kernel)
set_option maxRecDepth 65536 in
theorem w_c41 : (Jvm.Cond.code ({ cls := "java/lang/String", name := "getBytes", desc := "(Ljava/nio/charset/Charset;)[B" } : Jvm.MethodName) jdk_42_method_64_code (2 : Nat) (Option.some (Jvm.ClassFile.FieldType.array Jvm.ClassFile.FieldType.byte))).before args0 about1 = true := code_word (m := ⟨7, 8⟩) (meth := k7m8) (c := k7c8) (by decide +kernel) rfl rfl rfl (by decide +kernel)
set_option maxRecDepth 65536 in
theorem w_c42 : (Jvm.Cond.code ({ cls := "java/lang/String", name := "encode", desc := "(Ljava/nio/charset/Charset;B[B)[B" } : Jvm.MethodName) jdk_42_method_18_code (3 : Nat) (Option.some (Jvm.ClassFile.FieldType.array Jvm.ClassFile.FieldType.byte))).before args0 about1 = true := code_word (m := ⟨7, 2⟩) (meth := k7m2) (c := k7c2) (by decide +kernel) rfl rfl rfl (by decide +kernel)
set_option maxRecDepth 65536 in
theorem w_c43 : (Jvm.Cond.code ({ cls := "java/lang/String", name := "encodeUTF8", desc := "(B[BZ)[B" } : Jvm.MethodName) jdk_42_method_46_code (9 : Nat) (Option.some (Jvm.ClassFile.FieldType.array Jvm.ClassFile.FieldType.byte))).before args0 about1 = true := code_word (m := ⟨7, 3⟩) (meth := k7m3) (c := k7c3) (by decide +kernel) rfl rfl rfl (by decide +kernel)
set_option maxRecDepth 65536 in
theorem w_c44 : (Jvm.Cond.code ({ cls := "java/lang/StringCoding", name := "hasNegatives", desc := "([BII)Z" } : Jvm.MethodName) jdk_123_method_2_code (3 : Nat) (Option.some Jvm.ClassFile.FieldType.boolean)).before args0 about1 = true := code_word (m := ⟨22, 1⟩) (meth := k22m1) (c := k22c1) (by decide +kernel) rfl rfl rfl (by decide +kernel)
set_option maxRecDepth 65536 in
theorem w_c45 : (Jvm.Cond.code ({ cls := "java/lang/StringCoding", name := "countPositives", desc := "([BII)I" } : Jvm.MethodName) jdk_123_method_3_code (5 : Nat) (Option.some Jvm.ClassFile.FieldType.int)).before args0 about1 = true := code_word (m := ⟨22, 2⟩) (meth := k22m2) (c := k22c2) (by decide +kernel) rfl rfl rfl (by decide +kernel)
set_option maxRecDepth 65536 in
theorem w_c46 : (Jvm.Cond.code ({ cls := "com/example/keen_queue/keenqueue/io/QueueKeys", name := "attempts", desc := "()[B" } : Jvm.MethodName) prog_1_method_9_code (1 : Nat) (Option.some (Jvm.ClassFile.FieldType.array Jvm.ClassFile.FieldType.byte))).before args0 about1 = true := code_word (m := ⟨9, 2⟩) (meth := k9m2) (c := k9c2) (by decide +kernel) rfl rfl rfl (by decide +kernel)
set_option maxRecDepth 65536 in
theorem w_c47 : (Jvm.Cond.code ({ cls := "com/example/keen_queue/keenqueue/io/QueueKeys", name := "tokens", desc := "()[B" } : Jvm.MethodName) prog_1_method_10_code (1 : Nat) (Option.some (Jvm.ClassFile.FieldType.array Jvm.ClassFile.FieldType.byte))).before args0 about1 = true := code_word (m := ⟨9, 3⟩) (meth := k9m3) (c := k9c3) (by decide +kernel) rfl rfl rfl (by decide +kernel)
set_option maxRecDepth 65536 in
theorem w_c48 : (Jvm.Cond.code ({ cls := "com/example/keen_queue/keenqueue/io/QueueKeys", name := "errors", desc := "()[B" } : Jvm.MethodName) prog_1_method_11_code (1 : Nat) (Option.some (Jvm.ClassFile.FieldType.array Jvm.ClassFile.FieldType.byte))).before args0 about1 = true := code_word (m := ⟨9, 4⟩) (meth := k9m4) (c := k9c4) (by decide +kernel) rfl rfl rfl (by decide +kernel)
set_option maxRecDepth 65536 in
theorem w_c49 : (Jvm.Cond.code ({ cls := "com/example/keen_queue/keenqueue/io/QueueKeys", name := "stalls", desc := "()[B" } : Jvm.MethodName) prog_1_method_12_code (1 : Nat) (Option.some (Jvm.ClassFile.FieldType.array Jvm.ClassFile.FieldType.byte))).before args0 about1 = true := code_word (m := ⟨9, 5⟩) (meth := k9m5) (c := k9c5) (by decide +kernel) rfl rfl rfl (by decide +kernel)
set_option maxRecDepth 65536 in
theorem w_c50 : (Jvm.Cond.code ({ cls := "java/util/List", name := "of", desc := "(Ljava/lang/Object;Ljava/lang/Object;Ljava/lang/Object;Ljava/lang/Object;Ljava/lang/Object;)Ljava/util/List;" } : Jvm.MethodName) jdk_40_method_41_code (5 : Nat) (Option.some (Jvm.ClassFile.FieldType.object "java/util/List"))).before args0 about1 = true := code_word (m := ⟨27, 2⟩) (meth := k27m2) (c := k27c2) (by decide +kernel) rfl rfl rfl (by decide +kernel)
set_option maxRecDepth 65536 in
theorem w_c51 : (Jvm.Cond.code ({ cls := "java/util/ImmutableCollections", name := "listFromTrustedArray", desc := "([Ljava/lang/Object;)Ljava/util/List;" } : Jvm.MethodName) jdk_56_method_5_code (5 : Nat) (Option.some (Jvm.ClassFile.FieldType.object "java/util/List"))).before args0 about1 = true := code_word (m := ⟨28, 1⟩) (meth := k28m1) (c := k28c1) (by decide +kernel) rfl rfl rfl (by decide +kernel)
set_option maxRecDepth 65536 in
theorem w_c52 : (Jvm.Cond.code ({ cls := "java/util/Objects", name := "requireNonNull", desc := "(Ljava/lang/Object;)Ljava/lang/Object;" } : Jvm.MethodName) jdk_31_method_10_code (1 : Nat) (Option.some (Jvm.ClassFile.FieldType.object "java/lang/Object"))).before args0 about1 = true := code_word (m := ⟨10, 1⟩) (meth := k10m1) (c := k10c1) (by decide +kernel) rfl rfl rfl (by decide +kernel)
set_option maxRecDepth 65536 in
theorem w_c53 : (Jvm.Cond.code ({ cls := "java/util/ImmutableCollections$ListN", name := "<init>", desc := "([Ljava/lang/Object;Z)V" } : Jvm.MethodName) jdk_45_method_1_code (3 : Nat) (Option.none : Option Jvm.ClassFile.FieldType)).before args0 about1 = true := code_word (m := ⟨33, 0⟩) (meth := k33m0) (c := k33c0) (by decide +kernel) rfl rfl rfl (by decide +kernel)
set_option maxRecDepth 65536 in
theorem w_c54 : (Jvm.Cond.code ({ cls := "java/util/ImmutableCollections$AbstractImmutableList", name := "<init>", desc := "()V" } : Jvm.MethodName) jdk_46_method_1_code (1 : Nat) (Option.none : Option Jvm.ClassFile.FieldType)).before args0 about1 = true := code_word (m := ⟨32, 0⟩) (meth := k32m0) (c := k32c0) (by decide +kernel) rfl rfl rfl (by decide +kernel)
set_option maxRecDepth 65536 in
theorem w_c55 : (Jvm.Cond.code ({ cls := "java/util/ImmutableCollections$AbstractImmutableCollection", name := "<init>", desc := "()V" } : Jvm.MethodName) jdk_47_method_1_code (1 : Nat) (Option.none : Option Jvm.ClassFile.FieldType)).before args0 about1 = true := code_word (m := ⟨30, 0⟩) (meth := k30m0) (c := k30c0) (by decide +kernel) rfl rfl rfl (by decide +kernel)
set_option maxRecDepth 65536 in
theorem w_c56 : (Jvm.Cond.code ({ cls := "java/util/AbstractCollection", name := "<init>", desc := "()V" } : Jvm.MethodName) jdk_22_method_1_code (1 : Nat) (Option.none : Option Jvm.ClassFile.FieldType)).before args0 about1 = true := code_word (m := ⟨29, 0⟩) (meth := k29m0) (c := k29c0) (by decide +kernel) rfl rfl rfl (by decide +kernel)
set_option maxRecDepth 65536 in
theorem w_c57 : (Jvm.Cond.code ({ cls := "java/util/ImmutableCollections$ListN", name := "size", desc := "()I" } : Jvm.MethodName) jdk_45_method_3_code (1 : Nat) (Option.some Jvm.ClassFile.FieldType.int)).before args0 about1 = true := code_word (m := ⟨33, 1⟩) (meth := k33m1) (c := k33c1) (by decide +kernel) rfl rfl rfl (by decide +kernel)
set_option maxRecDepth 65536 in
theorem w_c58 : (Jvm.Cond.code ({ cls := "java/util/ImmutableCollections$ListN", name := "get", desc := "(I)Ljava/lang/Object;" } : Jvm.MethodName) jdk_45_method_4_code (2 : Nat) (Option.some (Jvm.ClassFile.FieldType.object "java/lang/Object"))).before args0 about1 = true := code_word (m := ⟨33, 2⟩) (meth := k33m2) (c := k33c2) (by decide +kernel) rfl rfl rfl (by decide +kernel)
set_option maxRecDepth 65536 in
theorem w_c59 : (Jvm.Cond.code ({ cls := "com/example/keen_queue/keenqueue/io/QueueKeysJobHashesPinLaw", name := "check", desc := "([B[IILjava/lang/String;)Z" } : Jvm.MethodName) method_6_code (4 : Nat) (Option.some Jvm.ClassFile.FieldType.boolean)).before args0 about1 = true := code_word (m := ⟨1, 5⟩) (meth := k1m5) (c := k1c5) (by decide +kernel) rfl rfl rfl (by decide +kernel)
set_option maxRecDepth 65536 in
theorem w_c60 : (Jvm.Cond.code ({ cls := "com/example/keen_queue/keenqueue/io/QueueKeysJobHashesPinLaw", name := "at", desc := "([BI[IILjava/lang/String;)Z" } : Jvm.MethodName) method_5_code (5 : Nat) (Option.some Jvm.ClassFile.FieldType.boolean)).before args0 about1 = true := code_word (m := ⟨1, 4⟩) (meth := k1m4) (c := k1c4) (by decide +kernel) rfl rfl rfl (by decide +kernel)
set_option maxRecDepth 65536 in
theorem w_c61 : (Jvm.Cond.code ({ cls := "com/example/keen_queue/keenqueue/io/QueueKeysJobHashesPinLaw", name := "exp", desc := "(I[IILjava/lang/String;)I" } : Jvm.MethodName) method_4_code (4 : Nat) (Option.some Jvm.ClassFile.FieldType.int)).before args0 about1 = true := code_word (m := ⟨1, 3⟩) (meth := k1m3) (c := k1c3) (by decide +kernel) rfl rfl rfl (by decide +kernel)
set_option maxRecDepth 65536 in
theorem w_c62 : (Jvm.Cond.code ({ cls := "java/lang/String", name := "charAt", desc := "(I)C" } : Jvm.MethodName) jdk_42_method_56_code (2 : Nat) (Option.some Jvm.ClassFile.FieldType.char)).before args0 about1 = true := code_word (m := ⟨7, 7⟩) (meth := k7m7) (c := k7c7) (by decide +kernel) rfl rfl rfl (by decide +kernel)
set_option maxRecDepth 65536 in
theorem w_c63 : (Jvm.Cond.code ({ cls := "java/lang/StringLatin1", name := "charAt", desc := "([BI)C" } : Jvm.MethodName) jdk_43_method_2_code (2 : Nat) (Option.some Jvm.ClassFile.FieldType.char)).before args0 about1 = true := code_word (m := ⟨8, 1⟩) (meth := k8m1) (c := k8c1) (by decide +kernel) rfl rfl rfl (by decide +kernel)
set_option maxRecDepth 65536 in
theorem w_c64 : (Jvm.Cond.code ({ cls := "java/lang/String", name := "checkIndex", desc := "(II)V" } : Jvm.MethodName) jdk_42_method_155_code (2 : Nat) (Option.none : Option Jvm.ClassFile.FieldType)).before args0 about1 = true := code_word (m := ⟨7, 18⟩) (meth := k7m18) (c := k7c18) (by decide +kernel) rfl rfl rfl (by decide +kernel)
set_option maxRecDepth 65536 in
theorem w_c65 : (Jvm.Cond.code ({ cls := "jdk/internal/util/Preconditions", name := "checkIndex", desc := "(IILjava/util/function/BiFunction;)I" } : Jvm.MethodName) jdk_41_method_11_code (3 : Nat) (Option.some Jvm.ClassFile.FieldType.int)).before args0 about1 = true := code_word (m := ⟨34, 1⟩) (meth := k34m1) (c := k34c1) (by decide +kernel) rfl rfl rfl (by decide +kernel)
set_option maxRecDepth 65536 in
theorem w_c66 : (Jvm.Cond.code ({ cls := "java/lang/StringUTF16", name := "newBytesFor", desc := "(I)[B" } : Jvm.MethodName) jdk_52_method_2_code (1 : Nat) (Option.some (Jvm.ClassFile.FieldType.array Jvm.ClassFile.FieldType.byte))).before args0 about1 = true := code_word (m := ⟨35, 1⟩) (meth := k35m1) (c := k35c1) (by decide +kernel) rfl rfl rfl (by decide +kernel)
set_option maxRecDepth 65536 in
theorem w_c67 : (Jvm.Cond.code ({ cls := "java/lang/StringUTF16", name := "newBytesLength", desc := "(I)I" } : Jvm.MethodName) jdk_52_method_3_code (1 : Nat) (Option.some Jvm.ClassFile.FieldType.int)).before args0 about1 = true := code_word (m := ⟨35, 2⟩) (meth := k35m2) (c := k35c2) (by decide +kernel) rfl rfl rfl (by decide +kernel)
set_option maxRecDepth 65536 in
theorem w_c68 : (Jvm.Cond.code ({ cls := "java/util/Arrays", name := "copyOf", desc := "([BI)[B" } : Jvm.MethodName) jdk_65_method_121_code (3 : Nat) (Option.some (Jvm.ClassFile.FieldType.array Jvm.ClassFile.FieldType.byte))).before args0 about1 = true := code_word (m := ⟨16, 1⟩) (meth := k16m1) (c := k16c1) (by decide +kernel) rfl rfl rfl (by decide +kernel)
set_option maxRecDepth 65536 in
theorem w_c69 : (Jvm.Cond.code ({ cls := "java/lang/String", name := "<init>", desc := "([C)V" } : Jvm.MethodName) jdk_42_method_3_code (2 : Nat) (Option.none : Option Jvm.ClassFile.FieldType)).before args0 about1 = true := code_word (m := ⟨7, 1⟩) (meth := k7m1) (c := k7c1) (by decide +kernel) rfl rfl rfl (by decide +kernel)
set_option maxRecDepth 65536 in
theorem w_c70 : (Jvm.Cond.code ({ cls := "java/lang/String", name := "<init>", desc := "([CIILjava/lang/Void;)V" } : Jvm.MethodName) jdk_42_method_149_code (6 : Nat) (Option.none : Option Jvm.ClassFile.FieldType)).before args0 about1 = true := code_word (m := ⟨7, 13⟩) (meth := k7m13) (c := k7c13) (by decide +kernel) rfl rfl rfl (by decide +kernel)
set_option maxRecDepth 65536 in
theorem w_c71 : (Jvm.Cond.code ({ cls := "java/lang/StringUTF16", name := "compress", desc := "([CII)[B" } : Jvm.MethodName) jdk_52_method_16_code (6 : Nat) (Option.some (Jvm.ClassFile.FieldType.array Jvm.ClassFile.FieldType.byte))).before args0 about1 = true := code_word (m := ⟨35, 4⟩) (meth := k35m4) (c := k35c4) (by decide +kernel) rfl rfl rfl (by decide +kernel)
set_option maxRecDepth 65536 in
theorem w_c72 : (Jvm.Cond.code ({ cls := "java/lang/StringUTF16", name := "compress", desc := "([CI[BII)I" } : Jvm.MethodName) jdk_52_method_21_code (7 : Nat) (Option.some Jvm.ClassFile.FieldType.int)).before args0 about1 = true := code_word (m := ⟨35, 5⟩) (meth := k35m5) (c := k35c5) (by decide +kernel) rfl rfl rfl (by decide +kernel)
set_option maxRecDepth 65536 in
theorem w_c73 : (Jvm.Cond.code ({ cls := "java/lang/StringUTF16", name := "coderFromArrayLen", desc := "([BI)B" } : Jvm.MethodName) jdk_52_method_15_code (2 : Nat) (Option.some Jvm.ClassFile.FieldType.byte)).before args0 about1 = true := code_word (m := ⟨35, 3⟩) (meth := k35m3) (c := k35c3) (by decide +kernel) rfl rfl rfl (by decide +kernel)
def codes1 : List Jvm.Cond := [Jvm.Cond.code x code maxLocals ret, Jvm.Cond.code ({ cls := "java/lang/String", name := "valueOf", desc := "(C)Ljava/lang/String;" } : Jvm.MethodName) jdk_42_method_139_code (1 : Nat) (Option.some (Jvm.ClassFile.FieldType.object "java/lang/String")), Jvm.Cond.code ({ cls := "java/lang/StringLatin1", name := "canEncode", desc := "(C)Z" } : Jvm.MethodName) jdk_43_method_3_code (1 : Nat) (Option.some Jvm.ClassFile.FieldType.boolean), Jvm.Cond.code ({ cls := "java/lang/StringLatin1", name := "toBytes", desc := "(C)[B" } : Jvm.MethodName) jdk_43_method_46_code (1 : Nat) (Option.some (Jvm.ClassFile.FieldType.array Jvm.ClassFile.FieldType.byte)), Jvm.Cond.code ({ cls := "java/lang/String", name := "<init>", desc := "([BB)V" } : Jvm.MethodName) jdk_42_method_151_code (3 : Nat) (Option.none : Option Jvm.ClassFile.FieldType), Jvm.Cond.code ({ cls := "java/lang/Object", name := "<init>", desc := "()V" } : Jvm.MethodName) object_method_1_code (1 : Nat) (Option.none : Option Jvm.ClassFile.FieldType), Jvm.Cond.code ({ cls := "com/example/keen_queue/keenqueue/io/QueueKeysJobHashesPinLaw", name := "put", desc := "([IIC)I" } : Jvm.MethodName) method_3_code (3 : Nat) (Option.some Jvm.ClassFile.FieldType.int), Jvm.Cond.code ({ cls := "com/example/keen_queue/keenqueue/io/QueueKeys", name := "<init>", desc := "(Ljava/lang/String;)V" } : Jvm.MethodName) prog_1_method_1_code (2 : Nat) (Option.none : Option Jvm.ClassFile.FieldType), Jvm.Cond.code ({ cls := "java/util/Objects", name := "requireNonNull", desc := "(Ljava/lang/Object;Ljava/lang/String;)Ljava/lang/Object;" } : Jvm.MethodName) jdk_31_method_11_code (2 : Nat) (Option.some (Jvm.ClassFile.FieldType.object "java/lang/Object")), Jvm.Cond.code ({ cls := "java/lang/String", name := "isEmpty", desc := "()Z" } : Jvm.MethodName) jdk_42_method_55_code (1 : Nat) (Option.some Jvm.ClassFile.FieldType.boolean), Jvm.Cond.code ({ cls := "java/lang/String", name := "indexOf", desc := "(I)I" } : Jvm.MethodName) jdk_42_method_79_code (2 : Nat) (Option.some Jvm.ClassFile.FieldType.int), Jvm.Cond.code ({ cls := "java/lang/String", name := "indexOf", desc := "(II)I" } : Jvm.MethodName) jdk_42_method_80_code (3 : Nat) (Option.some Jvm.ClassFile.FieldType.int), Jvm.Cond.code ({ cls := "java/lang/String", name := "isLatin1", desc := "()Z" } : Jvm.MethodName) jdk_42_method_154_code (1 : Nat) (Option.some Jvm.ClassFile.FieldType.boolean), Jvm.Cond.code ({ cls := "java/lang/String", name := "length", desc := "()I" } : Jvm.MethodName) jdk_42_method_54_code (1 : Nat) (Option.some Jvm.ClassFile.FieldType.int), Jvm.Cond.code ({ cls := "java/lang/String", name := "coder", desc := "()B" } : Jvm.MethodName) jdk_42_method_152_code (1 : Nat) (Option.some Jvm.ClassFile.FieldType.byte), Jvm.Cond.code ({ cls := "java/lang/StringLatin1", name := "indexOf", desc := "([BIII)I" } : Jvm.MethodName) jdk_43_method_22_code (4 : Nat) (Option.some Jvm.ClassFile.FieldType.int), Jvm.Cond.code ({ cls := "java/lang/StringLatin1", name := "canEncode", desc := "(I)Z" } : Jvm.MethodName) jdk_43_method_4_code (1 : Nat) (Option.some Jvm.ClassFile.FieldType.boolean), Jvm.Cond.code ({ cls := "java/lang/Math", name := "max", desc := "(II)I" } : Jvm.MethodName) jdk_29_method_65_code (2 : Nat) (Option.some Jvm.ClassFile.FieldType.int), Jvm.Cond.code ({ cls := "java/lang/Math", name := "min", desc := "(II)I" } : Jvm.MethodName) jdk_29_method_69_code (2 : Nat) (Option.some Jvm.ClassFile.FieldType.int), Jvm.Cond.code ({ cls := "java/lang/StringLatin1", name := "indexOfChar", desc := "([BIII)I" } : Jvm.MethodName) jdk_43_method_23_code (6 : Nat) (Option.some Jvm.ClassFile.FieldType.int), Jvm.Cond.code ({ cls := "java/lang/StringBuilder", name := "<init>", desc := "()V" } : Jvm.MethodName) jdk_67_method_1_code (1 : Nat) (Option.none : Option Jvm.ClassFile.FieldType), Jvm.Cond.code ({ cls := "java/lang/AbstractStringBuilder", name := "<init>", desc := "(I)V" } : Jvm.MethodName) jdk_68_method_2_code (2 : Nat) (Option.none : Option Jvm.ClassFile.FieldType), Jvm.Cond.code ({ cls := "java/lang/StringBuilder", name := "append", desc := "(Ljava/lang/String;)Ljava/lang/StringBuilder;" } : Jvm.MethodName) jdk_67_method_7_code (2 : Nat) (Option.some (Jvm.ClassFile.FieldType.object "java/lang/StringBuilder")), Jvm.Cond.code ({ cls := "java/lang/AbstractStringBuilder", name := "append", desc := "(Ljava/lang/String;)Ljava/lang/AbstractStringBuilder;" } : Jvm.MethodName) jdk_68_method_22_code (3 : Nat) (Option.some (Jvm.ClassFile.FieldType.object "java/lang/AbstractStringBuilder")), Jvm.Cond.code ({ cls := "java/lang/AbstractStringBuilder", name := "ensureCapacityInternal", desc := "(I)V" } : Jvm.MethodName) jdk_68_method_9_code (3 : Nat) (Option.none : Option Jvm.ClassFile.FieldType), Jvm.Cond.code ({ cls := "java/lang/AbstractStringBuilder", name := "putStringAt", desc := "(ILjava/lang/String;)V" } : Jvm.MethodName) jdk_68_method_73_code (3 : Nat) (Option.none : Option Jvm.ClassFile.FieldType), Jvm.Cond.code ({ cls := "java/lang/AbstractStringBuilder", name := "inflateIfNeededFor", desc := "(Ljava/lang/String;)V" } : Jvm.MethodName) jdk_68_method_71_code (2 : Nat) (Option.none : Option Jvm.ClassFile.FieldType), Jvm.Cond.code ({ cls := "java/lang/String", name := "getBytes", desc := "([BIB)V" } : Jvm.MethodName) jdk_42_method_147_code (4 : Nat) (Option.none : Option Jvm.ClassFile.FieldType), Jvm.Cond.code ({ cls := "java/lang/StringBuilder", name := "toString", desc := "()Ljava/lang/String;" } : Jvm.MethodName) jdk_67_method_42_code (1 : Nat) (Option.some (Jvm.ClassFile.FieldType.object "java/lang/String")), Jvm.Cond.code ({ cls := "java/lang/String", name := "<init>", desc := "(Ljava/lang/StringBuilder;)V" } : Jvm.MethodName) jdk_42_method_53_code (2 : Nat) (Option.none : Option Jvm.ClassFile.FieldType), Jvm.Cond.code ({ cls := "java/lang/String", name := "<init>", desc := "(Ljava/lang/AbstractStringBuilder;Ljava/lang/Void;)V" } : Jvm.MethodName) jdk_42_method_150_code (5 : Nat) (Option.none : Option Jvm.ClassFile.FieldType), Jvm.Cond.code ({ cls := "java/lang/AbstractStringBuilder", name := "getValue", desc := "()[B" } : Jvm.MethodName) jdk_68_method_64_code (1 : Nat) (Option.some (Jvm.ClassFile.FieldType.array Jvm.ClassFile.FieldType.byte)), Jvm.Cond.code ({ cls := "java/lang/StringBuilder", name := "length", desc := "()I" } : Jvm.MethodName) jdk_67_method_93_code (1 : Nat) (Option.some Jvm.ClassFile.FieldType.int), Jvm.Cond.code ({ cls := "java/lang/AbstractStringBuilder", name := "length", desc := "()I" } : Jvm.MethodName) jdk_68_method_6_code (1 : Nat) (Option.some Jvm.ClassFile.FieldType.int), Jvm.Cond.code ({ cls := "java/lang/AbstractStringBuilder", name := "isLatin1", desc := "()Z" } : Jvm.MethodName) jdk_68_method_68_code (1 : Nat) (Option.some Jvm.ClassFile.FieldType.boolean), Jvm.Cond.code ({ cls := "java/util/Arrays", name := "copyOfRange", desc := "([BII)[B" } : Jvm.MethodName) jdk_65_method_132_code (3 : Nat) (Option.some (Jvm.ClassFile.FieldType.array Jvm.ClassFile.FieldType.byte)), Jvm.Cond.code ({ cls := "java/util/Arrays", name := "copyOfRangeByte", desc := "([BII)[B" } : Jvm.MethodName) jdk_65_method_133_code (5 : Nat) (Option.some (Jvm.ClassFile.FieldType.array Jvm.ClassFile.FieldType.byte)), Jvm.Cond.code ({ cls := "java/util/Arrays", name := "checkLength", desc := "(II)V" } : Jvm.MethodName) jdk_65_method_131_code (2 : Nat) (Option.none : Option Jvm.ClassFile.FieldType), Jvm.Cond.code ({ cls := "com/example/keen_queue/keenqueue/io/QueueKeys", name := "jobHashes", desc := "()Ljava/util/List;" } : Jvm.MethodName) prog_1_method_13_code (1 : Nat) (Option.some (Jvm.ClassFile.FieldType.object "java/util/List")), Jvm.Cond.code ({ cls := "com/example/keen_queue/keenqueue/io/QueueKeys", name := "payloads", desc := "()[B" } : Jvm.MethodName) prog_1_method_8_code (1 : Nat) (Option.some (Jvm.ClassFile.FieldType.array Jvm.ClassFile.FieldType.byte)), Jvm.Cond.code ({ cls := "com/example/keen_queue/keenqueue/io/QueueKeys", name := "key", desc := "(Ljava/lang/String;)[B" } : Jvm.MethodName) prog_1_method_14_code (2 : Nat) (Option.some (Jvm.ClassFile.FieldType.array Jvm.ClassFile.FieldType.byte)), Jvm.Cond.code ({ cls := "java/lang/String", name := "getBytes", desc := "(Ljava/nio/charset/Charset;)[B" } : Jvm.MethodName) jdk_42_method_64_code (2 : Nat) (Option.some (Jvm.ClassFile.FieldType.array Jvm.ClassFile.FieldType.byte)), Jvm.Cond.code ({ cls := "java/lang/String", name := "encode", desc := "(Ljava/nio/charset/Charset;B[B)[B" } : Jvm.MethodName) jdk_42_method_18_code (3 : Nat) (Option.some (Jvm.ClassFile.FieldType.array Jvm.ClassFile.FieldType.byte)), Jvm.Cond.code ({ cls := "java/lang/String", name := "encodeUTF8", desc := "(B[BZ)[B" } : Jvm.MethodName) jdk_42_method_46_code (9 : Nat) (Option.some (Jvm.ClassFile.FieldType.array Jvm.ClassFile.FieldType.byte)), Jvm.Cond.code ({ cls := "java/lang/StringCoding", name := "hasNegatives", desc := "([BII)Z" } : Jvm.MethodName) jdk_123_method_2_code (3 : Nat) (Option.some Jvm.ClassFile.FieldType.boolean), Jvm.Cond.code ({ cls := "java/lang/StringCoding", name := "countPositives", desc := "([BII)I" } : Jvm.MethodName) jdk_123_method_3_code (5 : Nat) (Option.some Jvm.ClassFile.FieldType.int), Jvm.Cond.code ({ cls := "com/example/keen_queue/keenqueue/io/QueueKeys", name := "attempts", desc := "()[B" } : Jvm.MethodName) prog_1_method_9_code (1 : Nat) (Option.some (Jvm.ClassFile.FieldType.array Jvm.ClassFile.FieldType.byte)), Jvm.Cond.code ({ cls := "com/example/keen_queue/keenqueue/io/QueueKeys", name := "tokens", desc := "()[B" } : Jvm.MethodName) prog_1_method_10_code (1 : Nat) (Option.some (Jvm.ClassFile.FieldType.array Jvm.ClassFile.FieldType.byte)), Jvm.Cond.code ({ cls := "com/example/keen_queue/keenqueue/io/QueueKeys", name := "errors", desc := "()[B" } : Jvm.MethodName) prog_1_method_11_code (1 : Nat) (Option.some (Jvm.ClassFile.FieldType.array Jvm.ClassFile.FieldType.byte)), Jvm.Cond.code ({ cls := "com/example/keen_queue/keenqueue/io/QueueKeys", name := "stalls", desc := "()[B" } : Jvm.MethodName) prog_1_method_12_code (1 : Nat) (Option.some (Jvm.ClassFile.FieldType.array Jvm.ClassFile.FieldType.byte)), Jvm.Cond.code ({ cls := "java/util/List", name := "of", desc := "(Ljava/lang/Object;Ljava/lang/Object;Ljava/lang/Object;Ljava/lang/Object;Ljava/lang/Object;)Ljava/util/List;" } : Jvm.MethodName) jdk_40_method_41_code (5 : Nat) (Option.some (Jvm.ClassFile.FieldType.object "java/util/List")), Jvm.Cond.code ({ cls := "java/util/ImmutableCollections", name := "listFromTrustedArray", desc := "([Ljava/lang/Object;)Ljava/util/List;" } : Jvm.MethodName) jdk_56_method_5_code (5 : Nat) (Option.some (Jvm.ClassFile.FieldType.object "java/util/List")), Jvm.Cond.code ({ cls := "java/util/Objects", name := "requireNonNull", desc := "(Ljava/lang/Object;)Ljava/lang/Object;" } : Jvm.MethodName) jdk_31_method_10_code (1 : Nat) (Option.some (Jvm.ClassFile.FieldType.object "java/lang/Object")), Jvm.Cond.code ({ cls := "java/util/ImmutableCollections$ListN", name := "<init>", desc := "([Ljava/lang/Object;Z)V" } : Jvm.MethodName) jdk_45_method_1_code (3 : Nat) (Option.none : Option Jvm.ClassFile.FieldType), Jvm.Cond.code ({ cls := "java/util/ImmutableCollections$AbstractImmutableList", name := "<init>", desc := "()V" } : Jvm.MethodName) jdk_46_method_1_code (1 : Nat) (Option.none : Option Jvm.ClassFile.FieldType), Jvm.Cond.code ({ cls := "java/util/ImmutableCollections$AbstractImmutableCollection", name := "<init>", desc := "()V" } : Jvm.MethodName) jdk_47_method_1_code (1 : Nat) (Option.none : Option Jvm.ClassFile.FieldType), Jvm.Cond.code ({ cls := "java/util/AbstractCollection", name := "<init>", desc := "()V" } : Jvm.MethodName) jdk_22_method_1_code (1 : Nat) (Option.none : Option Jvm.ClassFile.FieldType), Jvm.Cond.code ({ cls := "java/util/ImmutableCollections$ListN", name := "size", desc := "()I" } : Jvm.MethodName) jdk_45_method_3_code (1 : Nat) (Option.some Jvm.ClassFile.FieldType.int), Jvm.Cond.code ({ cls := "java/util/ImmutableCollections$ListN", name := "get", desc := "(I)Ljava/lang/Object;" } : Jvm.MethodName) jdk_45_method_4_code (2 : Nat) (Option.some (Jvm.ClassFile.FieldType.object "java/lang/Object")), Jvm.Cond.code ({ cls := "com/example/keen_queue/keenqueue/io/QueueKeysJobHashesPinLaw", name := "check", desc := "([B[IILjava/lang/String;)Z" } : Jvm.MethodName) method_6_code (4 : Nat) (Option.some Jvm.ClassFile.FieldType.boolean), Jvm.Cond.code ({ cls := "com/example/keen_queue/keenqueue/io/QueueKeysJobHashesPinLaw", name := "at", desc := "([BI[IILjava/lang/String;)Z" } : Jvm.MethodName) method_5_code (5 : Nat) (Option.some Jvm.ClassFile.FieldType.boolean), Jvm.Cond.code ({ cls := "com/example/keen_queue/keenqueue/io/QueueKeysJobHashesPinLaw", name := "exp", desc := "(I[IILjava/lang/String;)I" } : Jvm.MethodName) method_4_code (4 : Nat) (Option.some Jvm.ClassFile.FieldType.int), Jvm.Cond.code ({ cls := "java/lang/String", name := "charAt", desc := "(I)C" } : Jvm.MethodName) jdk_42_method_56_code (2 : Nat) (Option.some Jvm.ClassFile.FieldType.char), Jvm.Cond.code ({ cls := "java/lang/StringLatin1", name := "charAt", desc := "([BI)C" } : Jvm.MethodName) jdk_43_method_2_code (2 : Nat) (Option.some Jvm.ClassFile.FieldType.char), Jvm.Cond.code ({ cls := "java/lang/String", name := "checkIndex", desc := "(II)V" } : Jvm.MethodName) jdk_42_method_155_code (2 : Nat) (Option.none : Option Jvm.ClassFile.FieldType), Jvm.Cond.code ({ cls := "jdk/internal/util/Preconditions", name := "checkIndex", desc := "(IILjava/util/function/BiFunction;)I" } : Jvm.MethodName) jdk_41_method_11_code (3 : Nat) (Option.some Jvm.ClassFile.FieldType.int), Jvm.Cond.code ({ cls := "java/lang/StringUTF16", name := "newBytesFor", desc := "(I)[B" } : Jvm.MethodName) jdk_52_method_2_code (1 : Nat) (Option.some (Jvm.ClassFile.FieldType.array Jvm.ClassFile.FieldType.byte)), Jvm.Cond.code ({ cls := "java/lang/StringUTF16", name := "newBytesLength", desc := "(I)I" } : Jvm.MethodName) jdk_52_method_3_code (1 : Nat) (Option.some Jvm.ClassFile.FieldType.int), Jvm.Cond.code ({ cls := "java/util/Arrays", name := "copyOf", desc := "([BI)[B" } : Jvm.MethodName) jdk_65_method_121_code (3 : Nat) (Option.some (Jvm.ClassFile.FieldType.array Jvm.ClassFile.FieldType.byte)), Jvm.Cond.code ({ cls := "java/lang/String", name := "<init>", desc := "([C)V" } : Jvm.MethodName) jdk_42_method_3_code (2 : Nat) (Option.none : Option Jvm.ClassFile.FieldType), Jvm.Cond.code ({ cls := "java/lang/String", name := "<init>", desc := "([CIILjava/lang/Void;)V" } : Jvm.MethodName) jdk_42_method_149_code (6 : Nat) (Option.none : Option Jvm.ClassFile.FieldType), Jvm.Cond.code ({ cls := "java/lang/StringUTF16", name := "compress", desc := "([CII)[B" } : Jvm.MethodName) jdk_52_method_16_code (6 : Nat) (Option.some (Jvm.ClassFile.FieldType.array Jvm.ClassFile.FieldType.byte)), Jvm.Cond.code ({ cls := "java/lang/StringUTF16", name := "compress", desc := "([CI[BII)I" } : Jvm.MethodName) jdk_52_method_21_code (7 : Nat) (Option.some Jvm.ClassFile.FieldType.int), Jvm.Cond.code ({ cls := "java/lang/StringUTF16", name := "coderFromArrayLen", desc := "([BI)B" } : Jvm.MethodName) jdk_52_method_15_code (2 : Nat) (Option.some Jvm.ClassFile.FieldType.byte)]
set_option maxRecDepth 65536 in
theorem codes_eq : words1.filter isCode = codes1 := rfl
theorem w_codes : ∀ c ∈ words1.filter isCode, c.before args0 about1 = true := by
  rw [codes_eq]
  intro c hc
  simp only [codes1, List.mem_cons, List.not_mem_nil, or_false] at hc
  rcases hc with rfl | rfl | rfl | rfl | rfl | rfl | rfl | rfl | rfl | rfl | rfl | rfl | rfl | rfl | rfl | rfl | rfl | rfl | rfl | rfl | rfl | rfl | rfl | rfl | rfl | rfl | rfl | rfl | rfl | rfl | rfl | rfl | rfl | rfl | rfl | rfl | rfl | rfl | rfl | rfl | rfl | rfl | rfl | rfl | rfl | rfl | rfl | rfl | rfl | rfl | rfl | rfl | rfl | rfl | rfl | rfl | rfl | rfl | rfl | rfl | rfl | rfl | rfl | rfl | rfl | rfl | rfl | rfl | rfl | rfl | rfl | rfl | rfl | rfl
  · exact w_c0
  · exact w_c1
  · exact w_c2
  · exact w_c3
  · exact w_c4
  · exact w_c5
  · exact w_c6
  · exact w_c7
  · exact w_c8
  · exact w_c9
  · exact w_c10
  · exact w_c11
  · exact w_c12
  · exact w_c13
  · exact w_c14
  · exact w_c15
  · exact w_c16
  · exact w_c17
  · exact w_c18
  · exact w_c19
  · exact w_c20
  · exact w_c21
  · exact w_c22
  · exact w_c23
  · exact w_c24
  · exact w_c25
  · exact w_c26
  · exact w_c27
  · exact w_c28
  · exact w_c29
  · exact w_c30
  · exact w_c31
  · exact w_c32
  · exact w_c33
  · exact w_c34
  · exact w_c35
  · exact w_c36
  · exact w_c37
  · exact w_c38
  · exact w_c39
  · exact w_c40
  · exact w_c41
  · exact w_c42
  · exact w_c43
  · exact w_c44
  · exact w_c45
  · exact w_c46
  · exact w_c47
  · exact w_c48
  · exact w_c49
  · exact w_c50
  · exact w_c51
  · exact w_c52
  · exact w_c53
  · exact w_c54
  · exact w_c55
  · exact w_c56
  · exact w_c57
  · exact w_c58
  · exact w_c59
  · exact w_c60
  · exact w_c61
  · exact w_c62
  · exact w_c63
  · exact w_c64
  · exact w_c65
  · exact w_c66
  · exact w_c67
  · exact w_c68
  · exact w_c69
  · exact w_c70
  · exact w_c71
  · exact w_c72
  · exact w_c73
set_option maxRecDepth 65536 in
theorem w_t1 : (words1.take 24).all (fun c => isCode c || c.before args0 about1) = true := by decide +kernel
set_option maxRecDepth 65536 in
theorem w_t2 : ((words1.drop 24).take 24).all (fun c => isCode c || c.before args0 about1) = true := by decide +kernel
set_option maxRecDepth 65536 in
theorem w_t3 : (((words1.drop 24).drop 24).take 24).all (fun c => isCode c || c.before args0 about1) = true := by decide +kernel
set_option maxRecDepth 65536 in
theorem w_t4 : ((((words1.drop 24).drop 24).drop 24).take 24).all (fun c => isCode c || c.before args0 about1) = true := by decide +kernel
set_option maxRecDepth 65536 in
theorem w_t5 : (((((words1.drop 24).drop 24).drop 24).drop 24).take 24).all (fun c => isCode c || c.before args0 about1) = true := by decide +kernel
set_option maxRecDepth 65536 in
theorem w_t6 : ((((((words1.drop 24).drop 24).drop 24).drop 24).drop 24).take 24).all (fun c => isCode c || c.before args0 about1) = true := by decide +kernel
set_option maxRecDepth 65536 in
theorem w_t7 : (((((((words1.drop 24).drop 24).drop 24).drop 24).drop 24).drop 24).take 24).all (fun c => isCode c || c.before args0 about1) = true := by decide +kernel
set_option maxRecDepth 65536 in
theorem w_t8 : ((((((((words1.drop 24).drop 24).drop 24).drop 24).drop 24).drop 24).drop 24).take 24).all (fun c => isCode c || c.before args0 about1) = true := by decide +kernel
set_option maxRecDepth 65536 in
theorem w_t9 : (((((((((words1.drop 24).drop 24).drop 24).drop 24).drop 24).drop 24).drop 24).drop 24).take 24).all (fun c => isCode c || c.before args0 about1) = true := by decide +kernel
set_option maxRecDepth 65536 in
theorem w_t10 : ((((((((((words1.drop 24).drop 24).drop 24).drop 24).drop 24).drop 24).drop 24).drop 24).drop 24).take 24).all (fun c => isCode c || c.before args0 about1) = true := by decide +kernel
set_option maxRecDepth 65536 in
theorem w_t11 : (((((((((((words1.drop 24).drop 24).drop 24).drop 24).drop 24).drop 24).drop 24).drop 24).drop 24).drop 24).take 24).all (fun c => isCode c || c.before args0 about1) = true := by decide +kernel
set_option maxRecDepth 65536 in
theorem w_t12 : ((((((((((((words1.drop 24).drop 24).drop 24).drop 24).drop 24).drop 24).drop 24).drop 24).drop 24).drop 24).drop 24).take 24).all (fun c => isCode c || c.before args0 about1) = true := by decide +kernel
set_option maxRecDepth 65536 in
theorem w_t13 : (((((((((((((words1.drop 24).drop 24).drop 24).drop 24).drop 24).drop 24).drop 24).drop 24).drop 24).drop 24).drop 24).drop 24).take 24).all (fun c => isCode c || c.before args0 about1) = true := by decide +kernel
set_option maxRecDepth 65536 in
theorem w_t14 : ((((((((((((((words1.drop 24).drop 24).drop 24).drop 24).drop 24).drop 24).drop 24).drop 24).drop 24).drop 24).drop 24).drop 24).drop 24).take 24).all (fun c => isCode c || c.before args0 about1) = true := by decide +kernel
set_option maxRecDepth 65536 in
theorem w_t15 : (((((((((((((((words1.drop 24).drop 24).drop 24).drop 24).drop 24).drop 24).drop 24).drop 24).drop 24).drop 24).drop 24).drop 24).drop 24).drop 24).take 24).all (fun c => isCode c || c.before args0 about1) = true := by decide +kernel
set_option maxRecDepth 65536 in
theorem w_t16 : ((((((((((((((((words1.drop 24).drop 24).drop 24).drop 24).drop 24).drop 24).drop 24).drop 24).drop 24).drop 24).drop 24).drop 24).drop 24).drop 24).drop 24).take 24).all (fun c => isCode c || c.before args0 about1) = true := by decide +kernel
set_option maxRecDepth 65536 in
theorem w_t17 : ((((((((((((((((words1.drop 24).drop 24).drop 24).drop 24).drop 24).drop 24).drop 24).drop 24).drop 24).drop 24).drop 24).drop 24).drop 24).drop 24).drop 24).drop 24).all (fun c => isCode c || c.before args0 about1) = true := by decide +kernel
theorem w_tables : (allAtoms (Jvm.Cond.code x code maxLocals ret :: tables_1)).before args0 about1 = true := by
  rw [allAtoms_all]
  show words1.all (fun c => c.before args0 about1) = true
  refine all_split ?_ w_codes
  rw [← List.take_append_drop 24 words1, List.all_append, w_t1, ← List.take_append_drop 24 (words1.drop 24), List.all_append, w_t2, ← List.take_append_drop 24 ((words1.drop 24).drop 24), List.all_append, w_t3, ← List.take_append_drop 24 (((words1.drop 24).drop 24).drop 24), List.all_append, w_t4, ← List.take_append_drop 24 ((((words1.drop 24).drop 24).drop 24).drop 24), List.all_append, w_t5, ← List.take_append_drop 24 (((((words1.drop 24).drop 24).drop 24).drop 24).drop 24), List.all_append, w_t6, ← List.take_append_drop 24 ((((((words1.drop 24).drop 24).drop 24).drop 24).drop 24).drop 24), List.all_append, w_t7, ← List.take_append_drop 24 (((((((words1.drop 24).drop 24).drop 24).drop 24).drop 24).drop 24).drop 24), List.all_append, w_t8, ← List.take_append_drop 24 ((((((((words1.drop 24).drop 24).drop 24).drop 24).drop 24).drop 24).drop 24).drop 24), List.all_append, w_t9, ← List.take_append_drop 24 (((((((((words1.drop 24).drop 24).drop 24).drop 24).drop 24).drop 24).drop 24).drop 24).drop 24), List.all_append, w_t10, ← List.take_append_drop 24 ((((((((((words1.drop 24).drop 24).drop 24).drop 24).drop 24).drop 24).drop 24).drop 24).drop 24).drop 24), List.all_append, w_t11, ← List.take_append_drop 24 (((((((((((words1.drop 24).drop 24).drop 24).drop 24).drop 24).drop 24).drop 24).drop 24).drop 24).drop 24).drop 24), List.all_append, w_t12, ← List.take_append_drop 24 ((((((((((((words1.drop 24).drop 24).drop 24).drop 24).drop 24).drop 24).drop 24).drop 24).drop 24).drop 24).drop 24).drop 24), List.all_append, w_t13, ← List.take_append_drop 24 (((((((((((((words1.drop 24).drop 24).drop 24).drop 24).drop 24).drop 24).drop 24).drop 24).drop 24).drop 24).drop 24).drop 24).drop 24), List.all_append, w_t14, ← List.take_append_drop 24 ((((((((((((((words1.drop 24).drop 24).drop 24).drop 24).drop 24).drop 24).drop 24).drop 24).drop 24).drop 24).drop 24).drop 24).drop 24).drop 24), List.all_append, w_t15, ← List.take_append_drop 24 (((((((((((((((words1.drop 24).drop 24).drop 24).drop 24).drop 24).drop 24).drop 24).drop 24).drop 24).drop 24).drop 24).drop 24).drop 24).drop 24).drop 24), List.all_append, w_t16, w_t17]
  rfl
set_option maxRecDepth 65536 in
theorem w_rest : rest_1_c.before args0 about1 = true := by decide +kernel
set_option maxRecDepth 65536 in
theorem w_case : (Jvm.Cond.and given_1 narrow_1).before args0 about1 = true := by decide +kernel
set_option maxRecDepth 65536 in
theorem w_consts : constsHeld consts_1 about1 := Jvm.Lit.constsHeldB_iff.mp (by decide +kernel)
theorem w_applies : (headSpec (Jvm.Cond.code x code maxLocals ret :: tables_1) room_1).applies x e0.platform about1 = true :=
  (Spec.applies_iff w_frames).mpr ⟨w_running, w_runnable, w_alone, w_named, w_hears, w_ripe, w_room, w_tables⟩
theorem atStart : AtStart classFile x code maxLocals ret World_1 tables_1 room_1 Calls_1 rest_1 Pre_1 launch0 p0 e0 about1 theMethod args0 below0 :=
  ⟨lists_1, trivial, launch0.admits_env _ _ _, launch0.least_env, fairChoices_fair.cas, fairChoices_fair.clock, w_frames, w_args, w_heap, w_applies, ⟨w_consts, trivial⟩, w_rest, w_case⟩
end start1
theorem witness_1 : WitnessClaimed_1 := ⟨start1.p0, start1.e0, start1.about1, start1.theMethod, start1.args0, start1.below0, start1.atStart⟩
end Jvm.Pilot.@@N@@
