import JvmDerived
import JvmDerived.Pilot.@@N@@Statement
import JvmDerived.Pilot.@@N@@Code
set_option linter.unusedVariables false
set_option linter.unusedSimpArgs false
namespace Jvm.Pilot.@@N@@
open Jvm Jvm.ClassFile Sem Op Lib Jvm.Free Jvm.Stand Jvm.LawKit Jvm.RoadKit Bundle Jvm.Pilot.@@N@@.Jvm.D
/-! own kit, part 1: the walk by continuations -/
abbrev Cx : Type := Program × Env × State × MethodId × Array Value × List Frame × Method × Code × (Outcome → State → Prop)
abbrev Cx.p (x : Cx) : Program := x.1
abbrev Cx.e (x : Cx) : Env := x.2.1
abbrev Cx.s (x : Cx) : State := x.2.2.1
abbrev Cx.m (x : Cx) : MethodId := x.2.2.2.1
abbrev Cx.args (x : Cx) : Array Value := x.2.2.2.2.1
abbrev Cx.below (x : Cx) : List Frame := x.2.2.2.2.2.1
abbrev Cx.meth (x : Cx) : Method := x.2.2.2.2.2.2.1
abbrev Cx.c (x : Cx) : Code := x.2.2.2.2.2.2.2.1
abbrev Cx.F (x : Cx) : Outcome → State → Prop := x.2.2.2.2.2.2.2.2
abbrev BP : Type := Addr → Prop
abbrev QT : Type := Option Value → Heap → BP → Prop
/-- the end is reached from A -/
def Go (x : Cx) (A : State) : Prop := ∃ s₂ o, Steps x.p.tables x.e x.below A s₂ ∧ s₂.status = .running ∧ Ended s₂ x.below o ∧ x.F o s₂
theorem Go.from {x : Cx} {A A' : State} (G : Go x A') (st : ∀ t, Steps x.p.tables x.e x.below A' t → Steps x.p.tables x.e x.below A t) : Go x A := by
  obtain ⟨t, o, h1, r⟩ := G
  exact ⟨t, o, st _ h1, r⟩
/-- an instruction of the bytes: where it stands, its length, the place behind it -/
def Dc (bytes : ByteArray) (pc : Nat) (i : Instr) (len pc' : Nat) : Prop := decode bytes pc = .ok (i, len) ∧ pc' = pc + len
/-- a branch: where it stands, where it goes -/
def Db (bytes : ByteArray) (pc : Nat) (i : Instr) (o : Int) (pc' pc'' : Nat) : Prop := decode bytes pc = .ok (i, 3) ∧ pc' = pc + 3 ∧ 0 ≤ (pc : Int) + o ∧ ((pc : Int) + o).toNat = pc''
def k_inv (Z : State) (EL : List (String × Nat)) (B : BP) (vm : Vm) (h : Heap) : Prop :=
  CHv Z EL vm h ∧ (∀ y, Bk Z EL vm h y → B y) ∧ (∀ y, B y → y < h.size) ∧ Ext Z.heap h ∧ ∃ a0, EW Z a0 EL
def k_end (nw : Bool) (U : State) (o : Outcome) (U' : State) (L : List Loc) (k n : Nat) : Prop :=
  ReturnedEndW U o U' L k n ∧ (nw = true → U.WarmedH U'.vm)
/-- the booked places: none is lost, and what has come lies at n or above -/
def k_more (B B' : BP) (n : Nat) : Prop := (∀ y, B' y → B y ∨ n ≤ y) ∧ ∀ y, B y → B' y
theorem k_more.refl (B : BP) (n : Nat) : k_more B B n := ⟨fun _ q => Or.inl q, fun _ q => q⟩
theorem k_more.trans {B B' B'' : BP} {n n' : Nat} (a : k_more B B' n) (b : k_more B' B'' n') (q : n ≤ n') : k_more B B'' n := ⟨fun y hy => by
  rcases b.1 y hy with r | r
  · exact a.1 y r
  · exact Or.inr (Nat.le_trans q r), fun y hy => b.2 y (a.2 y hy)⟩
theorem k_more.no {B B' : BP} {n : Nat} (a : k_more B B' n) {y : Addr} (h1 : ¬ B y) (h2 : @LT.lt Nat _ y n) : ¬ B' y := fun q => by
  rcases a.1 y q with r | r
  · exact h1 r
  · exact absurd h2 (Nat.not_lt.mpr r)
/-- what a body promises -/
def ConQ (nw : Bool) (Z : State) (EL : List (String × Nat)) (rm : Room) (h : Heap) (B : BP) (ws : List Addr) (Q : QT) (U : State) (o : Outcome) (U' : State) : Prop :=
  ∃ v L B', o = .returned v ∧ Q v U'.heap B' ∧ Keep h U'.heap ws ∧ k_more B B' h.size ∧ Fr Z.heap.size L ∧ k_inv Z EL B' U'.vm U'.heap ∧ k_end nw U o U' L rm.cells rm.slots
def Con (nw : Bool) (l : Launch) (Z : State) (EL : List (String × Nat)) (y : MethodName) (bytes : ByteArray) (maxL : Nat) (ret : Option FieldType) (wl : List Jvm.Cond) (rm : Room) (as : Array Value) (h : Heap) (B : BP) (ws : List Addr) (Q : QT) : Prop :=
  MetFree l y (head1 (Cond.code y bytes maxL ret :: wl) rm) (fun a U => a = as ∧ Z.Warmed39 U.vm ∧ U.heap = h ∧ k_inv Z EL B U.vm h) (fun _ _ _ _ _ => True) (fun _ U o U' => ConQ nw Z EL rm h B ws Q U o U')
/-- the walk stands at T, heap h -/
def Wk (nw : Bool) (l : Launch) (Z : State) (EL : List (String × Nat)) (own : String) (bytes : ByteArray) (maxL : Nat) (ret : Option FieldType) (mnm : String) (R : Room) (h0 : Heap) (B0 : BP) (ws : List Addr) (Q : QT) (x : Cx) (T : State) (h : Heap) (B : BP) (k n : Nat) : Prop :=
  (x.p.tables.exec = Jvm.exec ∧ x.c.code = bytes ∧ x.c.maxLocals = maxL ∧ x.meth.sig.returnType = ret ∧ x.meth.locks = false ∧ x.meth.name = mnm ∧ x.F = ConQ nw Z EL R h0 B0 ws Q x.s) ∧
  ∃ vm0 k0 locs, Stand x.p l x.e R (x.s.setVm vm0) x.m x.args x.below x.meth x.c T locs k n ∧ T.heap = h ∧ x.s.Since vm0 k0 ∧ k0 ≤ h.size ∧ Z.Warmed39 vm0 ∧ vm0.findClass own = some x.m.cls ∧ k_inv Z EL B vm0 h ∧ Fr Z.heap.size locs ∧ Keep h0 h ws ∧ k_more B0 B h0.size ∧ (nw = true → x.s.WarmedH vm0)
theorem k_neN {x y : Nat} (q : x ≠ y) : x ≠ y := q
theorem k_ltE {Z : State} {h : Heap} {a : Addr} {C : String} (E : Exa Z h a C) : @LT.lt Nat _ a h.size := E.lt
section Inv
variable {Z : State} {EL : List (String × Nat)} {B : BP} {vm vm0 : Vm} {h h' : Heap}
theorem k_inv.lt (I : k_inv Z EL B vm h) : ¬ B h.size := fun q => Nat.lt_irrefl _ (I.2.2.1 _ q)
theorem k_inv.keep (I : k_inv Z EL B vm h) {ws : List Addr} (K : Keep h h' ws) (hw : ∀ x ∈ ws, ¬ B x ∧ Z.heap.size ≤ x) : k_inv Z EL B vm h' := by
  obtain ⟨i1, i2, i3, i4, i5⟩ := I
  have q := CHv.keepStep K (fun x hx b => (hw x hx).1 (i2 _ b)) i1
  refine ⟨q.1, fun y b => i2 y (q.2 y b), fun y b => Nat.lt_of_lt_of_le (i3 y b) K.1, ⟨Nat.le_trans i4.1 K.1, fun a c e => K.2.1 a c (i4.2 a c e) fun z => ?_⟩, i5⟩
  exact absurd (Array.getElem?_eq_some_iff.mp e).1 (Nat.not_lt.mpr (hw a z).2)
theorem k_inv.ext (I : k_inv Z EL B vm h) (E : Ext h h') : k_inv Z EL B vm h' := I.keep ((Keep.refl h []).ext E) (fun _ q => nomatch q)
theorem k_inv.wr (I : k_inv Z EL B vm h) {a : Addr} {sl : Nat} {v : Value} (W : Wr h h' a sl v) (hb : ¬ B a) (hz : Z.heap.size ≤ a) : k_inv Z EL B vm h' :=
  I.keep (Keep.of_wr W) (fun y q => by cases List.mem_singleton.mp q; exact ⟨hb, hz⟩)
theorem k_inv.vmT {p : Program} {l : Launch} {e : Env} {R : Room} {s : State} {m : MethodId} {args : Array Value} {below : List Frame} {meth : Method} {c : Code} {T : State} {locs : List Loc} {cells slots : Nat}
    (I : k_inv Z EL B vm0 h) (X : Stand p l e R (s.setVm vm0) m args below meth c T locs cells slots) (hZ : Z.Warmed39 vm0) : k_inv Z EL B T.vm h := by
  obtain ⟨i1, i2, i3, i4, a0, i5⟩ := I
  have q := CHv.at X hZ i5 i1
  refine ⟨q.1, fun y b => ?_, i3, i4, a0, i5⟩
  rcases q.2.2 y b with r | r
  · exact i2 y r
  · exact absurd (by obtain ⟨cell, hc⟩ := Bk.there b; exact (Array.getElem?_eq_some_iff.mp hc).1) (Nat.not_lt.mpr r)
end Inv
section Kit
variable {nw : Bool} {l : Launch} {Z : State} {EL : List (String × Nat)} {own : String} {bytes : ByteArray} {maxL : Nat} {ret : Option FieldType} {mnm : String} {R : Room} {h0 : Heap} {B0 : BP} {ws : List Addr} {Q : QT} {x : Cx} {T : State} {h : Heap} {B : BP} {k n : Nat} {a0 : Array Value} {pc pc' : Nat} {Ls : Array Slot} {st : List Value}
/-- a body is walked from its entry -/
theorem k_intro {y : MethodName} {wl : List Jvm.Cond} {as : Array Value} (hy : plainFor y = true) (hef' : Jvm.Sym.laidSlots as.toList ++ List.replicate (maxL - (Jvm.Sym.laidSlots as.toList).length) .unset = Ls.toList)
    (body : ∀ (x : Cx) (T : State), Wk nw l Z EL y.cls bytes maxL ret y.name R h0 B0 ws Q x T h0 B0 0 0 → Go x (T.setTop (mkF x.m 0 Ls []))) :
    Con nw l Z EL y bytes maxL ret wl R as h0 B0 ws Q := by
  have hef : ∀ m, entryFrame m as maxL = mkF m 0 Ls [] := fun m => by
    have : argsToLocals as maxL = Ls := Array.toList_inj.mp (by rw [Jvm.Sym.argsToLocals_toList]; exact hef')
    unfold entryFrame
    rw [this]
  refine MetFree.of_bodySF hy hisR ?_
  intro p e s m args below meth c s₁ Bd hml0 hP hK
  obtain ⟨rfl, hZ, hh, hI⟩ := hP
  have hown : s.vm.findClass y.cls = some m.cls := findClass_of_methodNamed Bd.named
  have hnm := (name_of_methodNamed Bd.named Bd.method).1
  have X0 : Stand p l e R s m args below meth c s₁ [] 0 0 := Stand.of_body Bd
  have e0 : s₁.heap = h0 := by rw [← hh, Bd.state]; rfl
  have W : Wk nw l Z EL y.cls bytes maxL ret y.name R h0 B0 ws Q (p, e, s, m, args, below, meth, c, fun o t => ConQ nw Z EL R h0 B0 ws Q s o t) s₁ h0 B0 0 0 :=
    ⟨⟨Bd.exec, Bd.bytes, hml0, Bd.returns, Bd.notSynchronized, hnm, rfl⟩, s.vm, h0.size, [], X0, e0, (State.WarmedH.refl s).since _, Nat.le_refl _, hZ, hown, hI, Fr.nil _, Keep.refl _ _, k_more.refl _ _, fun _ => State.WarmedH.refl s⟩
  obtain ⟨t, o, g1, g2, g3, g4⟩ := body _ _ W
  exact ⟨t, o, castTop (hef m) g1, g2, g3, g4⟩
theorem Wk.at (X : Wk nw l Z EL own bytes maxL ret mnm R h0 B0 ws Q x T h B k n) : At T x.m x.c x.below := by obtain ⟨-, _, _, _, X, -⟩ := X; exact X.here
theorem Wk.ex (X : Wk nw l Z EL own bytes maxL ret mnm R h0 B0 ws Q x T h B k n) : x.p.tables.exec = Jvm.exec := X.1.1
theorem Wk.dec (X : Wk nw l Z EL own bytes maxL ret mnm R h0 B0 ws Q x T h B k n) {r : Except ClassFile.DecodeError (Instr × Nat)} (hd : decode bytes pc = r) : decode x.c.code pc = r := by rw [X.1.2.1]; exact hd
theorem Wk.inv (X : Wk nw l Z EL own bytes maxL ret mnm R h0 B0 ws Q x T h B k n) : ∃ vm, k_inv Z EL B vm h := by obtain ⟨-, vm, _, _, -, -, -, -, -, -, hI, -⟩ := X; exact ⟨vm, hI⟩
theorem Wk.old (X : Wk nw l Z EL own bytes maxL ret mnm R h0 B0 ws Q x T h B k n) : Ext Z.heap h := by obtain ⟨vm, I⟩ := X.inv; exact I.2.2.2.1
theorem Wk.fresh (X : Wk nw l Z EL own bytes maxL ret mnm R h0 B0 ws Q x T h B k n) : ¬ B h.size := by obtain ⟨vm, I⟩ := X.inv; exact I.lt
theorem Wk.free (X : Wk nw l Z EL own bytes maxL ret mnm R h0 B0 ws Q x T h B k n) {y : Addr} (q : h.size ≤ y) : ¬ B y := fun b => by obtain ⟨vm, I⟩ := X.inv; exact absurd (I.2.2.1 y b) (Nat.not_lt.mpr q)
theorem Wk.kept (X : Wk nw l Z EL own bytes maxL ret mnm R h0 B0 ws Q x T h B k n) : Keep h0 h ws := by obtain ⟨-, _, _, _, -, -, -, -, -, -, -, -, K, -⟩ := X; exact K
theorem Wk.more (X : Wk nw l Z EL own bytes maxL ret mnm R h0 B0 ws Q x T h B k n) {k' n' : Nat} (h1 : k ≤ k') (h2 : n ≤ n') : Wk nw l Z EL own bytes maxL ret mnm R h0 B0 ws Q x T h B k' n' := by
  obtain ⟨a, vm0, k0, locs, X, r⟩ := X
  exact ⟨a, vm0, k0, locs, X.more h1 h2, r⟩
theorem Wk.sz (X : Wk nw l Z EL own bytes maxL ret mnm R h0 B0 ws Q x T h B k n) : h0.size ≤ h.size := X.kept.1
theorem Wk.szZ (X : Wk nw l Z EL own bytes maxL ret mnm R h0 B0 ws Q x T h B k n) : Z.heap.size ≤ h.size := X.old.1
/-! the ends -/
theorem k_leave (X : Wk nw l Z EL own bytes maxL ret mnm R h0 B0 ws Q x T h B k n) (hk : k ≤ R.cells) (hn : n ≤ R.slots) {v : Option Value} (hv : ret = none → v = none) (hQ : Q v h B)
    {A : State} (st : ∀ fs, (∀ (f : JFrame) (acts : List Action), f.method = x.m → f.locked = none → f.entered = [] → (doReturn x.e (T.setTop f) acts v).1 = T.setFrames fs) → Steps x.p.tables x.e x.below A (T.setFrames fs)) : Go x A := by
  obtain ⟨⟨-, -, -, hr, hlk, -, hF⟩, vm0, k0, locs, X, rfl, hS, hk0, hZ, hown, hI, hFr, hK, hM, hN⟩ := X
  obtain ⟨fs, g1, g2, g3, g4⟩ := X.leaveW hS hk0 (v := v) (fun q => hv (hr ▸ q)) hlk
  refine ⟨T.setFrames fs, .returned v, st fs g1, g2, g3, ?_⟩
  rw [hF]
  refine ⟨v, locs, B, rfl, hQ, hK, hM, hFr, (have q := hI.vmT X hZ; q), ⟨?_, fun q => State.WarmedH.trans (hN q) X.warmed⟩⟩
  obtain ⟨q1, q2, q3, q4⟩ := g4
  exact ⟨q1, q2, q3, q4.mono hk hn⟩
theorem g_return (X : Wk nw l Z EL own bytes maxL none mnm R h0 B0 ws Q x T h B k n) (hd : Dc bytes pc .return_ 1 pc') (hk : k ≤ R.cells) (hn : n ≤ R.slots) (hQ : Q none h B) : Go x (T.setTop (mkF x.m pc Ls [])) := by
  refine k_leave X hk hn (fun _ => rfl) hQ fun fs hl => ?_
  obtain ⟨⟨hx, hb, -, hr, -, -, -⟩, vm0, k0, locs, X, -⟩ := X
  exact X.returnOut hx hr (hb ▸ hd.1) hl
theorem g_areturn {t : FieldType} {w : Value} (X : Wk nw l Z EL own bytes maxL (some t) mnm R h0 B0 ws Q x T h B k n) (hd : Dc bytes pc .areturn 1 pc') (ht : t.isReference = true) (hnw : narrow t w = w) (hw : w.isRef = true) (hk : k ≤ R.cells) (hn : n ≤ R.slots) (hQ : Q (some w) h B) : Go x (T.setTop (mkF x.m pc Ls (w :: st))) := by
  refine k_leave X hk hn (fun q => by cases q) hQ fun fs hl => ?_
  obtain ⟨⟨hx, hb, -, hr, -, -, -⟩, vm0, k0, locs, X, -⟩ := X
  exact retOut X hx hr hnw (Or.inr (Or.inr (Or.inr (Or.inr ⟨rfl, ht, hw⟩)))) (hb ▸ hd.1) hl
theorem g_ireturn {t : FieldType} {w w' : Int32} (X : Wk nw l Z EL own bytes maxL (some t) mnm R h0 B0 ws Q x T h B k n) (hd : Dc bytes pc .ireturn 1 pc') (ht : t = .boolean ∨ t = .byte ∨ t = .char ∨ t = .short) (hw : RoadKit.nar t w = w') (hk : k ≤ R.cells) (hn : n ≤ R.slots) (hQ : Q (some (.int w')) h B) : Go x (T.setTop (mkF x.m pc Ls (.int w :: st))) := by
  subst hw
  refine k_leave X hk hn (fun q => by cases q) hQ fun fs hl => ?_
  obtain ⟨⟨hx, hb, -, hr, -, -, -⟩, vm0, k0, locs, X, -⟩ := X
  exact retN X hx hr ht (hb ▸ hd.1) hl
theorem g_ireturnI {w : Int32} (X : Wk nw l Z EL own bytes maxL (some .int) mnm R h0 B0 ws Q x T h B k n) (hd : Dc bytes pc .ireturn 1 pc') (hk : k ≤ R.cells) (hn : n ≤ R.slots) (hQ : Q (some (.int w)) h B) : Go x (T.setTop (mkF x.m pc Ls (.int w :: st))) := by
  refine k_leave X hk hn (fun q => by cases q) hQ fun fs hl => ?_
  obtain ⟨⟨hx, hb, -, hr, -, -, -⟩, vm0, k0, locs, X, -⟩ := X
  exact retOut X hx hr rfl (Or.inl ⟨rfl, Or.inl rfl, _, rfl⟩) (hb ▸ hd.1) hl
theorem g_lreturn {w : Int64} (X : Wk nw l Z EL own bytes maxL (some .long) mnm R h0 B0 ws Q x T h B k n) (hd : Dc bytes pc .lreturn 1 pc') (hk : k ≤ R.cells) (hn : n ≤ R.slots) (hQ : Q (some (.long w)) h B) : Go x (T.setTop (mkF x.m pc Ls (.long w :: st))) := by
  refine k_leave X hk hn (fun q => by cases q) hQ fun fs hl => ?_
  obtain ⟨⟨hx, hb, -, hr, -, -, -⟩, vm0, k0, locs, X, -⟩ := X
  exact retOut X hx hr rfl (Or.inr (Or.inl ⟨rfl, rfl, _, rfl⟩)) (hb ▸ hd.1) hl
theorem g_iloadN (X : Wk nw l Z EL own bytes maxL ret mnm R h0 B0 ws Q x T h B k n) {j : Fin 4} {v : Int32} (hd : Dc bytes pc (.iload_n j) 1 pc') (hl : Ls[j.val]? = some (.val (.int v))) (G : Go x (T.setTop (mkF x.m pc' Ls (.int v :: st)))) : Go x (T.setTop (mkF x.m pc Ls st)) := by
  obtain ⟨hd, rfl⟩ := hd
  exact G.from fun t q => XS.iloadN X.at X.ex rfl (X.dec hd) hl q
theorem g_iload (X : Wk nw l Z EL own bytes maxL ret mnm R h0 B0 ws Q x T h B k n) {j : Nat} {v : Int32} (hd : Dc bytes pc (.iload j) 2 pc') (hl : Ls[j]? = some (.val (.int v))) (G : Go x (T.setTop (mkF x.m pc' Ls (.int v :: st)))) : Go x (T.setTop (mkF x.m pc Ls st)) := by
  obtain ⟨hd, rfl⟩ := hd
  exact G.from fun t q => XS.iload X.at X.ex rfl (X.dec hd) hl q
theorem g_lloadN (X : Wk nw l Z EL own bytes maxL ret mnm R h0 B0 ws Q x T h B k n) {j : Fin 4} {v : Int64} (hd : Dc bytes pc (.lload_n j) 1 pc') (hl : Ls[j.val]? = some (.val (.long v))) (G : Go x (T.setTop (mkF x.m pc' Ls (.long v :: st)))) : Go x (T.setTop (mkF x.m pc Ls st)) := by
  obtain ⟨hd, rfl⟩ := hd
  exact G.from fun t q => XT.lloadN X.at X.ex rfl (X.dec hd) hl q
theorem g_lload (X : Wk nw l Z EL own bytes maxL ret mnm R h0 B0 ws Q x T h B k n) {j : Nat} {v : Int64} (hd : Dc bytes pc (.lload j) 2 pc') (hl : Ls[j]? = some (.val (.long v))) (G : Go x (T.setTop (mkF x.m pc' Ls (.long v :: st)))) : Go x (T.setTop (mkF x.m pc Ls st)) := by
  obtain ⟨hd, rfl⟩ := hd
  exact G.from fun t q => XT.lload X.at X.ex rfl (X.dec hd) hl q
theorem g_aloadN (X : Wk nw l Z EL own bytes maxL ret mnm R h0 B0 ws Q x T h B k n) {j : Fin 4} {v : Value} (hd : Dc bytes pc (.aload_n j) 1 pc') (hl : Ls[j.val]? = some (.val v)) (hv : v.isRef = true) (G : Go x (T.setTop (mkF x.m pc' Ls (v :: st)))) : Go x (T.setTop (mkF x.m pc Ls st)) := by
  obtain ⟨hd, rfl⟩ := hd
  exact G.from fun t q => XS.aloadN X.at X.ex rfl (X.dec hd) hl hv q
theorem g_aload (X : Wk nw l Z EL own bytes maxL ret mnm R h0 B0 ws Q x T h B k n) {j : Nat} {v : Value} (hd : Dc bytes pc (.aload j) 2 pc') (hl : Ls[j]? = some (.val v)) (hv : v.isRef = true) (G : Go x (T.setTop (mkF x.m pc' Ls (v :: st)))) : Go x (T.setTop (mkF x.m pc Ls st)) := by
  obtain ⟨hd, rfl⟩ := hd
  exact G.from fun t q => XS.aload X.at X.ex rfl (X.dec hd) hl hv q
theorem g_istoreN (X : Wk nw l Z EL own bytes maxL ret mnm R h0 B0 ws Q x T h B k n) {j : Fin 4} {v : Int32} (Ls' : Array Slot) (hd : Dc bytes pc (.istore_n j) 1 pc') (hl : storeLocals Ls j.val (.int v) = some Ls') (G : Go x (T.setTop (mkF x.m pc' Ls' st))) : Go x (T.setTop (mkF x.m pc Ls (.int v :: st))) := by
  obtain ⟨hd, rfl⟩ := hd
  exact G.from fun t q => XS.istoreN X.at X.ex rfl (X.dec hd) rfl hl q
theorem g_istore (X : Wk nw l Z EL own bytes maxL ret mnm R h0 B0 ws Q x T h B k n) {j : Nat} {v : Int32} (Ls' : Array Slot) (hd : Dc bytes pc (.istore j) 2 pc') (hl : storeLocals Ls j (.int v) = some Ls') (G : Go x (T.setTop (mkF x.m pc' Ls' st))) : Go x (T.setTop (mkF x.m pc Ls (.int v :: st))) := by
  obtain ⟨hd, rfl⟩ := hd
  exact G.from fun t q => XS.istore X.at X.ex rfl (X.dec hd) rfl hl q
theorem g_lstoreN (X : Wk nw l Z EL own bytes maxL ret mnm R h0 B0 ws Q x T h B k n) {j : Fin 4} {v : Int64} (Ls' : Array Slot) (hd : Dc bytes pc (.lstore_n j) 1 pc') (hl : storeLocals Ls j.val (.long v) = some Ls') (G : Go x (T.setTop (mkF x.m pc' Ls' st))) : Go x (T.setTop (mkF x.m pc Ls (.long v :: st))) := by
  obtain ⟨hd, rfl⟩ := hd
  exact G.from fun t q => XT.lstoreN X.at X.ex rfl (X.dec hd) rfl hl q
theorem g_lstore (X : Wk nw l Z EL own bytes maxL ret mnm R h0 B0 ws Q x T h B k n) {j : Nat} {v : Int64} (Ls' : Array Slot) (hd : Dc bytes pc (.lstore j) 2 pc') (hl : storeLocals Ls j (.long v) = some Ls') (G : Go x (T.setTop (mkF x.m pc' Ls' st))) : Go x (T.setTop (mkF x.m pc Ls (.long v :: st))) := by
  obtain ⟨hd, rfl⟩ := hd
  exact G.from fun t q => XT.lstore X.at X.ex rfl (X.dec hd) rfl hl q
theorem g_astoreN (X : Wk nw l Z EL own bytes maxL ret mnm R h0 B0 ws Q x T h B k n) {j : Fin 4} {v : Value} (Ls' : Array Slot) (hd : Dc bytes pc (.astore_n j) 1 pc') (hv : v.isRef = true) (hl : storeLocals Ls j.val v = some Ls') (G : Go x (T.setTop (mkF x.m pc' Ls' st))) : Go x (T.setTop (mkF x.m pc Ls (v :: st))) := by
  obtain ⟨hd, rfl⟩ := hd
  exact G.from fun t q => XS.astoreN X.at X.ex rfl (X.dec hd) rfl hv hl q
theorem g_astore (X : Wk nw l Z EL own bytes maxL ret mnm R h0 B0 ws Q x T h B k n) {j : Nat} {v : Value} (Ls' : Array Slot) (hd : Dc bytes pc (.astore j) 2 pc') (hv : v.isRef = true) (hl : storeLocals Ls j v = some Ls') (G : Go x (T.setTop (mkF x.m pc' Ls' st))) : Go x (T.setTop (mkF x.m pc Ls (v :: st))) := by
  obtain ⟨hd, rfl⟩ := hd
  exact G.from fun t q => XS.astore X.at X.ex rfl (X.dec hd) rfl hv hl q
theorem g_iconst (X : Wk nw l Z EL own bytes maxL ret mnm R h0 B0 ws Q x T h B k n) {i : Int} (v : Int32) (hd : Dc bytes pc (.iconst i) 1 pc') (hv : Int32.ofInt i = v) (G : Go x (T.setTop (mkF x.m pc' Ls (.int v :: st)))) : Go x (T.setTop (mkF x.m pc Ls st)) := by
  obtain ⟨hd, rfl⟩ := hd
  exact G.from fun t q => XT.iconstV X.at X.ex rfl v (X.dec hd) hv q
theorem g_bipush (X : Wk nw l Z EL own bytes maxL ret mnm R h0 B0 ws Q x T h B k n) {i : Int} (v : Int32) (hd : Dc bytes pc (.bipush i) 2 pc') (hv : (Int8.ofInt i).toInt32 = v) (G : Go x (T.setTop (mkF x.m pc' Ls (.int v :: st)))) : Go x (T.setTop (mkF x.m pc Ls st)) := by
  obtain ⟨hd, rfl⟩ := hd
  exact G.from fun t q => XT.bipushV X.at X.ex rfl v (X.dec hd) hv q
theorem g_sipush (X : Wk nw l Z EL own bytes maxL ret mnm R h0 B0 ws Q x T h B k n) {i : Int} (v : Int32) (hd : Dc bytes pc (.sipush i) 3 pc') (hv : (Int16.ofInt i).toInt32 = v) (G : Go x (T.setTop (mkF x.m pc' Ls (.int v :: st)))) : Go x (T.setTop (mkF x.m pc Ls st)) := by
  obtain ⟨hd, rfl⟩ := hd
  exact G.from fun t q => XT.sipushV X.at X.ex rfl v (X.dec hd) hv q
theorem g_lconst (X : Wk nw l Z EL own bytes maxL ret mnm R h0 B0 ws Q x T h B k n) {i : Fin 2} (v : Int64) (hd : Dc bytes pc (.lconst i) 1 pc') (hv : Int64.ofNat i = v) (G : Go x (T.setTop (mkF x.m pc' Ls (.long v :: st)))) : Go x (T.setTop (mkF x.m pc Ls st)) := by
  obtain ⟨hd, rfl⟩ := hd
  exact G.from fun t q => XT.lconstV X.at X.ex rfl v (X.dec hd) hv q
theorem g_aconst_null (X : Wk nw l Z EL own bytes maxL ret mnm R h0 B0 ws Q x T h B k n)  (hd : Dc bytes pc (.aconst_null) 1 pc')  (G : Go x (T.setTop (mkF x.m pc' Ls (.null :: st)))) : Go x (T.setTop (mkF x.m pc Ls st)) := by
  obtain ⟨hd, rfl⟩ := hd
  exact G.from fun t q => XS.aconstNull X.at X.ex rfl (X.dec hd) q
theorem g_iinc (X : Wk nw l Z EL own bytes maxL ret mnm R h0 B0 ws Q x T h B k n) {j : Nat} {cst : Int} {v r : Int32} (Ls' : Array Slot) (hd : Dc bytes pc (.iinc j cst) 3 pc') (hl : Ls[j]? = some (.val (.int v))) (hr : v + Int32.ofInt cst = r) (hl' : storeLocals Ls j (.int r) = some Ls') (G : Go x (T.setTop (mkF x.m pc' Ls' st))) : Go x (T.setTop (mkF x.m pc Ls st)) := by
  obtain ⟨hd, rfl⟩ := hd
  exact G.from fun t q => XS.iinc X.at X.ex rfl (X.dec hd) hl (hr ▸ hl') q
theorem g_iadd (X : Wk nw l Z EL own bytes maxL ret mnm R h0 B0 ws Q x T h B k n) {u v : Int32} (r : Int32) (hd : Dc bytes pc (.iadd) 1 pc') (hr : u + v = r) (G : Go x (T.setTop (mkF x.m pc' Ls (.int r :: st)))) : Go x (T.setTop (mkF x.m pc Ls (.int v :: .int u :: st))) := by
  obtain ⟨hd, rfl⟩ := hd
  exact G.from fun t q => XS.iadd X.at X.ex rfl (X.dec hd) rfl (hr ▸ q)
theorem g_isub (X : Wk nw l Z EL own bytes maxL ret mnm R h0 B0 ws Q x T h B k n) {u v : Int32} (r : Int32) (hd : Dc bytes pc (.isub) 1 pc') (hr : u - v = r) (G : Go x (T.setTop (mkF x.m pc' Ls (.int r :: st)))) : Go x (T.setTop (mkF x.m pc Ls (.int v :: .int u :: st))) := by
  obtain ⟨hd, rfl⟩ := hd
  exact G.from fun t q => XS.isub X.at X.ex rfl (X.dec hd) rfl (hr ▸ q)
theorem g_imul (X : Wk nw l Z EL own bytes maxL ret mnm R h0 B0 ws Q x T h B k n) {u v : Int32} (r : Int32) (hd : Dc bytes pc (.imul) 1 pc') (hr : u * v = r) (G : Go x (T.setTop (mkF x.m pc' Ls (.int r :: st)))) : Go x (T.setTop (mkF x.m pc Ls (.int v :: .int u :: st))) := by
  obtain ⟨hd, rfl⟩ := hd
  exact G.from fun t q => XS.imul X.at X.ex rfl (X.dec hd) rfl (hr ▸ q)
theorem g_iand (X : Wk nw l Z EL own bytes maxL ret mnm R h0 B0 ws Q x T h B k n) {u v : Int32} (r : Int32) (hd : Dc bytes pc (.iand) 1 pc') (hr : u &&& v = r) (G : Go x (T.setTop (mkF x.m pc' Ls (.int r :: st)))) : Go x (T.setTop (mkF x.m pc Ls (.int v :: .int u :: st))) := by
  obtain ⟨hd, rfl⟩ := hd
  exact G.from fun t q => XS.iand X.at X.ex rfl (X.dec hd) rfl (hr ▸ q)
theorem g_ior (X : Wk nw l Z EL own bytes maxL ret mnm R h0 B0 ws Q x T h B k n) {u v : Int32} (r : Int32) (hd : Dc bytes pc (.ior) 1 pc') (hr : u ||| v = r) (G : Go x (T.setTop (mkF x.m pc' Ls (.int r :: st)))) : Go x (T.setTop (mkF x.m pc Ls (.int v :: .int u :: st))) := by
  obtain ⟨hd, rfl⟩ := hd
  exact G.from fun t q => XT.ior X.at X.ex rfl (X.dec hd) rfl (hr ▸ q)
theorem g_ixor (X : Wk nw l Z EL own bytes maxL ret mnm R h0 B0 ws Q x T h B k n) {u v : Int32} (r : Int32) (hd : Dc bytes pc (.ixor) 1 pc') (hr : u ^^^ v = r) (G : Go x (T.setTop (mkF x.m pc' Ls (.int r :: st)))) : Go x (T.setTop (mkF x.m pc Ls (.int v :: .int u :: st))) := by
  obtain ⟨hd, rfl⟩ := hd
  exact G.from fun t q => XT.ixor X.at X.ex rfl (X.dec hd) rfl (hr ▸ q)
theorem g_ishl (X : Wk nw l Z EL own bytes maxL ret mnm R h0 B0 ws Q x T h B k n) {u v : Int32} (r : Int32) (hd : Dc bytes pc (.ishl) 1 pc') (hr : u <<< (v &&& 31) = r) (G : Go x (T.setTop (mkF x.m pc' Ls (.int r :: st)))) : Go x (T.setTop (mkF x.m pc Ls (.int v :: .int u :: st))) := by
  obtain ⟨hd, rfl⟩ := hd
  exact G.from fun t q => XT.ishl X.at X.ex rfl (X.dec hd) rfl (hr ▸ q)
theorem g_ishr (X : Wk nw l Z EL own bytes maxL ret mnm R h0 B0 ws Q x T h B k n) {u v : Int32} (r : Int32) (hd : Dc bytes pc (.ishr) 1 pc') (hr : u >>> (v &&& 31) = r) (G : Go x (T.setTop (mkF x.m pc' Ls (.int r :: st)))) : Go x (T.setTop (mkF x.m pc Ls (.int v :: .int u :: st))) := by
  obtain ⟨hd, rfl⟩ := hd
  exact G.from fun t q => XT.ishr X.at X.ex rfl (X.dec hd) rfl (hr ▸ q)
theorem g_iushr (X : Wk nw l Z EL own bytes maxL ret mnm R h0 B0 ws Q x T h B k n) {u v : Int32} (r : Int32) (hd : Dc bytes pc (.iushr) 1 pc') (hr : XT.ushr u v = r) (G : Go x (T.setTop (mkF x.m pc' Ls (.int r :: st)))) : Go x (T.setTop (mkF x.m pc Ls (.int v :: .int u :: st))) := by
  obtain ⟨hd, rfl⟩ := hd
  exact G.from fun t q => XT.iushr X.at X.ex rfl (X.dec hd) rfl (hr ▸ q)
theorem g_idiv (X : Wk nw l Z EL own bytes maxL ret mnm R h0 B0 ws Q x T h B k n) {u v : Int32} (r : Int32) (hd : Dc bytes pc (.idiv) 1 pc') (h0 : v ≠ 0) (hr : u / v = r) (G : Go x (T.setTop (mkF x.m pc' Ls (.int r :: st)))) : Go x (T.setTop (mkF x.m pc Ls (.int v :: .int u :: st))) := by
  obtain ⟨hd, rfl⟩ := hd
  exact G.from fun t q => XS.idiv X.at X.ex rfl (X.dec hd) rfl h0 (hr ▸ q)
theorem g_irem (X : Wk nw l Z EL own bytes maxL ret mnm R h0 B0 ws Q x T h B k n) {u v : Int32} (r : Int32) (hd : Dc bytes pc (.irem) 1 pc') (h0 : v ≠ 0) (hr : u % v = r) (G : Go x (T.setTop (mkF x.m pc' Ls (.int r :: st)))) : Go x (T.setTop (mkF x.m pc Ls (.int v :: .int u :: st))) := by
  obtain ⟨hd, rfl⟩ := hd
  exact G.from fun t q => XS.irem X.at X.ex rfl (X.dec hd) rfl h0 (by rw [irem_eq_mod u v, hr]; exact q)
theorem g_ladd (X : Wk nw l Z EL own bytes maxL ret mnm R h0 B0 ws Q x T h B k n) {u v : Int64} (r : Int64) (hd : Dc bytes pc (.ladd) 1 pc') (hr : u + v = r) (G : Go x (T.setTop (mkF x.m pc' Ls (.long r :: st)))) : Go x (T.setTop (mkF x.m pc Ls (.long v :: .long u :: st))) := by
  obtain ⟨hd, rfl⟩ := hd
  exact G.from fun t q => XT.ladd X.at X.ex rfl (X.dec hd) rfl (hr ▸ q)
theorem g_lsub (X : Wk nw l Z EL own bytes maxL ret mnm R h0 B0 ws Q x T h B k n) {u v : Int64} (r : Int64) (hd : Dc bytes pc (.lsub) 1 pc') (hr : u - v = r) (G : Go x (T.setTop (mkF x.m pc' Ls (.long r :: st)))) : Go x (T.setTop (mkF x.m pc Ls (.long v :: .long u :: st))) := by
  obtain ⟨hd, rfl⟩ := hd
  exact G.from fun t q => XT.lsub X.at X.ex rfl (X.dec hd) rfl (hr ▸ q)
theorem g_lmul (X : Wk nw l Z EL own bytes maxL ret mnm R h0 B0 ws Q x T h B k n) {u v : Int64} (r : Int64) (hd : Dc bytes pc (.lmul) 1 pc') (hr : u * v = r) (G : Go x (T.setTop (mkF x.m pc' Ls (.long r :: st)))) : Go x (T.setTop (mkF x.m pc Ls (.long v :: .long u :: st))) := by
  obtain ⟨hd, rfl⟩ := hd
  exact G.from fun t q => XT.lmul X.at X.ex rfl (X.dec hd) rfl (hr ▸ q)
theorem g_land (X : Wk nw l Z EL own bytes maxL ret mnm R h0 B0 ws Q x T h B k n) {u v : Int64} (r : Int64) (hd : Dc bytes pc (.land) 1 pc') (hr : u &&& v = r) (G : Go x (T.setTop (mkF x.m pc' Ls (.long r :: st)))) : Go x (T.setTop (mkF x.m pc Ls (.long v :: .long u :: st))) := by
  obtain ⟨hd, rfl⟩ := hd
  exact G.from fun t q => XT.land X.at X.ex rfl (X.dec hd) rfl (hr ▸ q)
theorem g_lor (X : Wk nw l Z EL own bytes maxL ret mnm R h0 B0 ws Q x T h B k n) {u v : Int64} (r : Int64) (hd : Dc bytes pc (.lor) 1 pc') (hr : u ||| v = r) (G : Go x (T.setTop (mkF x.m pc' Ls (.long r :: st)))) : Go x (T.setTop (mkF x.m pc Ls (.long v :: .long u :: st))) := by
  obtain ⟨hd, rfl⟩ := hd
  exact G.from fun t q => XT.lor X.at X.ex rfl (X.dec hd) rfl (hr ▸ q)
theorem g_lxor (X : Wk nw l Z EL own bytes maxL ret mnm R h0 B0 ws Q x T h B k n) {u v : Int64} (r : Int64) (hd : Dc bytes pc (.lxor) 1 pc') (hr : u ^^^ v = r) (G : Go x (T.setTop (mkF x.m pc' Ls (.long r :: st)))) : Go x (T.setTop (mkF x.m pc Ls (.long v :: .long u :: st))) := by
  obtain ⟨hd, rfl⟩ := hd
  exact G.from fun t q => XT.lxor X.at X.ex rfl (X.dec hd) rfl (hr ▸ q)
theorem g_lshl (X : Wk nw l Z EL own bytes maxL ret mnm R h0 B0 ws Q x T h B k n) {u : Int64} {v : Int32} (r : Int64) (hd : Dc bytes pc (.lshl) 1 pc') (hr : u <<< (v.toInt64 &&& 63) = r) (G : Go x (T.setTop (mkF x.m pc' Ls (.long r :: st)))) : Go x (T.setTop (mkF x.m pc Ls (.int v :: .long u :: st))) := by
  obtain ⟨hd, rfl⟩ := hd
  exact G.from fun t q => XT.lshl X.at X.ex rfl (X.dec hd) rfl (hr ▸ q)
theorem g_lshr (X : Wk nw l Z EL own bytes maxL ret mnm R h0 B0 ws Q x T h B k n) {u : Int64} {v : Int32} (r : Int64) (hd : Dc bytes pc (.lshr) 1 pc') (hr : u >>> (v.toInt64 &&& 63) = r) (G : Go x (T.setTop (mkF x.m pc' Ls (.long r :: st)))) : Go x (T.setTop (mkF x.m pc Ls (.int v :: .long u :: st))) := by
  obtain ⟨hd, rfl⟩ := hd
  exact G.from fun t q => XT.lshr X.at X.ex rfl (X.dec hd) rfl (hr ▸ q)
theorem g_lushr (X : Wk nw l Z EL own bytes maxL ret mnm R h0 B0 ws Q x T h B k n) {u : Int64} {v : Int32} (r : Int64) (hd : Dc bytes pc (.lushr) 1 pc') (hr : XT.ushrL u v = r) (G : Go x (T.setTop (mkF x.m pc' Ls (.long r :: st)))) : Go x (T.setTop (mkF x.m pc Ls (.int v :: .long u :: st))) := by
  obtain ⟨hd, rfl⟩ := hd
  exact G.from fun t q => XT.lushr X.at X.ex rfl (X.dec hd) rfl (hr ▸ q)
theorem g_ineg (X : Wk nw l Z EL own bytes maxL ret mnm R h0 B0 ws Q x T h B k n) {u : Int32} (r : Int32) (hd : Dc bytes pc (.ineg) 1 pc') (hr : -u = r) (G : Go x (T.setTop (mkF x.m pc' Ls (.int r :: st)))) : Go x (T.setTop (mkF x.m pc Ls (.int u :: st))) := by
  obtain ⟨hd, rfl⟩ := hd
  exact G.from fun t q => XS.ineg X.at X.ex rfl (X.dec hd) rfl (hr ▸ q)
theorem g_i2l (X : Wk nw l Z EL own bytes maxL ret mnm R h0 B0 ws Q x T h B k n) {u : Int32} (r : Int64) (hd : Dc bytes pc (.i2l) 1 pc') (hr : u.toInt64 = r) (G : Go x (T.setTop (mkF x.m pc' Ls (.long r :: st)))) : Go x (T.setTop (mkF x.m pc Ls (.int u :: st))) := by
  obtain ⟨hd, rfl⟩ := hd
  exact G.from fun t q => XT.i2l X.at X.ex rfl (X.dec hd) rfl (hr ▸ q)
theorem g_l2i (X : Wk nw l Z EL own bytes maxL ret mnm R h0 B0 ws Q x T h B k n) {u : Int64} (r : Int32) (hd : Dc bytes pc (.l2i) 1 pc') (hr : u.toInt32 = r) (G : Go x (T.setTop (mkF x.m pc' Ls (.int r :: st)))) : Go x (T.setTop (mkF x.m pc Ls (.long u :: st))) := by
  obtain ⟨hd, rfl⟩ := hd
  exact G.from fun t q => XT.l2i X.at X.ex rfl (X.dec hd) rfl (hr ▸ q)
theorem g_i2b (X : Wk nw l Z EL own bytes maxL ret mnm R h0 B0 ws Q x T h B k n) {u : Int32} (r : Int32) (hd : Dc bytes pc (.i2b) 1 pc') (hr : u.toInt8.toInt32 = r) (G : Go x (T.setTop (mkF x.m pc' Ls (.int r :: st)))) : Go x (T.setTop (mkF x.m pc Ls (.int u :: st))) := by
  obtain ⟨hd, rfl⟩ := hd
  exact G.from fun t q => XT.i2b X.at X.ex rfl (X.dec hd) rfl (hr ▸ q)
theorem g_i2c (X : Wk nw l Z EL own bytes maxL ret mnm R h0 B0 ws Q x T h B k n) {u : Int32} (r : Int32) (hd : Dc bytes pc (.i2c) 1 pc') (hr : u.toUInt32.toUInt16.toUInt32.toInt32 = r) (G : Go x (T.setTop (mkF x.m pc' Ls (.int r :: st)))) : Go x (T.setTop (mkF x.m pc Ls (.int u :: st))) := by
  obtain ⟨hd, rfl⟩ := hd
  exact G.from fun t q => XT.i2c X.at X.ex rfl (X.dec hd) rfl (hr ▸ q)
theorem g_i2s (X : Wk nw l Z EL own bytes maxL ret mnm R h0 B0 ws Q x T h B k n) {u : Int32} (r : Int32) (hd : Dc bytes pc (.i2s) 1 pc') (hr : u.toInt16.toInt32 = r) (G : Go x (T.setTop (mkF x.m pc' Ls (.int r :: st)))) : Go x (T.setTop (mkF x.m pc Ls (.int u :: st))) := by
  obtain ⟨hd, rfl⟩ := hd
  exact G.from fun t q => XT.i2s X.at X.ex rfl (X.dec hd) rfl (hr ▸ q)
theorem g_lcmp (X : Wk nw l Z EL own bytes maxL ret mnm R h0 B0 ws Q x T h B k n) {u v : Int64} (r : Int32) (hd : Dc bytes pc (.lcmp) 1 pc') (hr : XT.cmpL u v = r) (G : Go x (T.setTop (mkF x.m pc' Ls (.int r :: st)))) : Go x (T.setTop (mkF x.m pc Ls (.long v :: .long u :: st))) := by
  obtain ⟨hd, rfl⟩ := hd
  exact G.from fun t q => XT.lcmp X.at X.ex rfl (X.dec hd) rfl (hr ▸ q)
theorem g_dup (X : Wk nw l Z EL own bytes maxL ret mnm R h0 B0 ws Q x T h B k n) {v : Value} (hd : Dc bytes pc (.dup) 1 pc') (hc : v.category = 1) (G : Go x (T.setTop (mkF x.m pc' Ls (v :: v :: st)))) : Go x (T.setTop (mkF x.m pc Ls (v :: st))) := by
  obtain ⟨hd, rfl⟩ := hd
  exact G.from fun t q => XS.dup X.at X.ex rfl (X.dec hd) rfl hc q
theorem g_pop (X : Wk nw l Z EL own bytes maxL ret mnm R h0 B0 ws Q x T h B k n) {v : Value} (hd : Dc bytes pc (.pop) 1 pc') (hc : v.category = 1) (G : Go x (T.setTop (mkF x.m pc' Ls st))) : Go x (T.setTop (mkF x.m pc Ls (v :: st))) := by
  obtain ⟨hd, rfl⟩ := hd
  exact G.from fun t q => XT.pop X.at X.ex rfl (X.dec hd) rfl hc q
theorem g_dup_x1 (X : Wk nw l Z EL own bytes maxL ret mnm R h0 B0 ws Q x T h B k n) {u v : Value} (hd : Dc bytes pc (.dup_x1) 1 pc') (hc : u.category = 1) (hc' : v.category = 1) (G : Go x (T.setTop (mkF x.m pc' Ls (u :: v :: u :: st)))) : Go x (T.setTop (mkF x.m pc Ls (u :: v :: st))) := by
  obtain ⟨hd, rfl⟩ := hd
  exact G.from fun t q => XT.dupX1 X.at X.ex rfl (X.dec hd) rfl hc hc' q
theorem g_dup2 (X : Wk nw l Z EL own bytes maxL ret mnm R h0 B0 ws Q x T h B k n) {u v : Value} (hd : Dc bytes pc (.dup2) 1 pc') (hc : u.category = 1) (hc' : v.category = 1) (G : Go x (T.setTop (mkF x.m pc' Ls (u :: v :: u :: v :: st)))) : Go x (T.setTop (mkF x.m pc Ls (u :: v :: st))) := by
  obtain ⟨hd, rfl⟩ := hd
  exact G.from fun t q => XT.dup2 X.at X.ex rfl (X.dec hd) rfl hc hc' q
theorem g_dup2L (X : Wk nw l Z EL own bytes maxL ret mnm R h0 B0 ws Q x T h B k n) {u : Int64} (hd : Dc bytes pc (.dup2) 1 pc')  (G : Go x (T.setTop (mkF x.m pc' Ls (.long u :: .long u :: st)))) : Go x (T.setTop (mkF x.m pc Ls (.long u :: st))) := by
  obtain ⟨hd, rfl⟩ := hd
  exact G.from fun t q => XT.dup2L X.at X.ex rfl (X.dec hd) rfl q
theorem g_goto (X : Wk nw l Z EL own bytes maxL ret mnm R h0 B0 ws Q x T h B k n) {o : Int} {pc'' : Nat}  (hd : Db bytes pc (.goto o) o pc' pc'')  (G : Go x (T.setTop (mkF x.m pc'' Ls st))) : Go x (T.setTop (mkF x.m pc Ls st)) := by
  obtain ⟨hd, rfl, ho, rfl⟩ := hd
  exact G.from fun t q => XS.goto X.at X.ex rfl rfl (X.dec hd) ho rfl q
theorem g_ifT (X : Wk nw l Z EL own bytes maxL ret mnm R h0 B0 ws Q x T h B k n) {o : Int} {pc'' : Nat} {cd : ClassFile.Cond} {v : Int32} (hd : Db bytes pc (.ifCond cd o) o pc' pc'') (hc : ifCond.holds cd v = true) (G : Go x (T.setTop (mkF x.m pc'' Ls st))) : Go x (T.setTop (mkF x.m pc Ls (.int v :: st))) := by
  obtain ⟨hd, rfl, ho, rfl⟩ := hd
  exact G.from fun t q => XS.ifYes X.at X.ex rfl rfl (X.dec hd) rfl hc ho rfl q
theorem g_ifF (X : Wk nw l Z EL own bytes maxL ret mnm R h0 B0 ws Q x T h B k n) {o : Int} {pc'' : Nat} {cd : ClassFile.Cond} {v : Int32} (hd : Db bytes pc (.ifCond cd o) o pc' pc'') (hc : ifCond.holds cd v = false) (G : Go x (T.setTop (mkF x.m pc' Ls st))) : Go x (T.setTop (mkF x.m pc Ls (.int v :: st))) := by
  obtain ⟨hd, rfl, ho, rfl⟩ := hd
  exact G.from fun t q => XS.ifNo X.at X.ex rfl (X.dec hd) rfl hc q
theorem g_icmpT (X : Wk nw l Z EL own bytes maxL ret mnm R h0 B0 ws Q x T h B k n) {o : Int} {pc'' : Nat} {cd : ClassFile.Cond} {u v : Int32} (hd : Db bytes pc (.if_icmp cd o) o pc' pc'') (hc : if_icmp.holds cd u v = true) (G : Go x (T.setTop (mkF x.m pc'' Ls st))) : Go x (T.setTop (mkF x.m pc Ls (.int v :: .int u :: st))) := by
  obtain ⟨hd, rfl, ho, rfl⟩ := hd
  exact G.from fun t q => XS.icmpYes X.at X.ex rfl rfl (X.dec hd) rfl hc ho rfl q
theorem g_icmpF (X : Wk nw l Z EL own bytes maxL ret mnm R h0 B0 ws Q x T h B k n) {o : Int} {pc'' : Nat} {cd : ClassFile.Cond} {u v : Int32} (hd : Db bytes pc (.if_icmp cd o) o pc' pc'') (hc : if_icmp.holds cd u v = false) (G : Go x (T.setTop (mkF x.m pc' Ls st))) : Go x (T.setTop (mkF x.m pc Ls (.int v :: .int u :: st))) := by
  obtain ⟨hd, rfl, ho, rfl⟩ := hd
  exact G.from fun t q => XS.icmpNo X.at X.ex rfl (X.dec hd) rfl hc q
theorem g_acmpT (X : Wk nw l Z EL own bytes maxL ret mnm R h0 B0 ws Q x T h B k n) {o : Int} {pc'' : Nat} {cd : ClassFile.ACond} {u v : Value} (hd : Db bytes pc (.if_acmp cd o) o pc' pc'') (h1 : u.isRef = true) (h2 : v.isRef = true) (hc : XT.acmp cd u v = true) (G : Go x (T.setTop (mkF x.m pc'' Ls st))) : Go x (T.setTop (mkF x.m pc Ls (v :: u :: st))) := by
  obtain ⟨hd, rfl, ho, rfl⟩ := hd
  exact G.from fun t q => XT.acmpYes X.at X.ex rfl rfl (X.dec hd) rfl h1 h2 hc ho rfl q
theorem g_acmpF (X : Wk nw l Z EL own bytes maxL ret mnm R h0 B0 ws Q x T h B k n) {o : Int} {pc'' : Nat} {cd : ClassFile.ACond} {u v : Value} (hd : Db bytes pc (.if_acmp cd o) o pc' pc'') (h1 : u.isRef = true) (h2 : v.isRef = true) (hc : XT.acmp cd u v = false) (G : Go x (T.setTop (mkF x.m pc' Ls st))) : Go x (T.setTop (mkF x.m pc Ls (v :: u :: st))) := by
  obtain ⟨hd, rfl, ho, rfl⟩ := hd
  exact G.from fun t q => XT.acmpNo X.at X.ex rfl (X.dec hd) rfl h1 h2 hc q
theorem g_ifnullT (X : Wk nw l Z EL own bytes maxL ret mnm R h0 B0 ws Q x T h B k n) {o : Int} {pc'' : Nat}  (hd : Db bytes pc (.ifnull o) o pc' pc'')  (G : Go x (T.setTop (mkF x.m pc'' Ls st))) : Go x (T.setTop (mkF x.m pc Ls (.null :: st))) := by
  obtain ⟨hd, rfl, ho, rfl⟩ := hd
  exact G.from fun t q => XS.ifnullYes X.at X.ex rfl rfl (X.dec hd) rfl ho rfl q
theorem g_ifnullF (X : Wk nw l Z EL own bytes maxL ret mnm R h0 B0 ws Q x T h B k n) {o : Int} {pc'' : Nat} {a : Addr} (hd : Db bytes pc (.ifnull o) o pc' pc'')  (G : Go x (T.setTop (mkF x.m pc' Ls st))) : Go x (T.setTop (mkF x.m pc Ls (.ref a :: st))) := by
  obtain ⟨hd, rfl, ho, rfl⟩ := hd
  exact G.from fun t q => XS.ifnullNo X.at X.ex rfl (X.dec hd) rfl q
theorem g_ifnonnullT (X : Wk nw l Z EL own bytes maxL ret mnm R h0 B0 ws Q x T h B k n) {o : Int} {pc'' : Nat} {a : Addr} (hd : Db bytes pc (.ifnonnull o) o pc' pc'')  (G : Go x (T.setTop (mkF x.m pc'' Ls st))) : Go x (T.setTop (mkF x.m pc Ls (.ref a :: st))) := by
  obtain ⟨hd, rfl, ho, rfl⟩ := hd
  exact G.from fun t q => XT.ifnonnullYes X.at X.ex rfl rfl (X.dec hd) rfl ho rfl q
theorem g_ifnonnullF (X : Wk nw l Z EL own bytes maxL ret mnm R h0 B0 ws Q x T h B k n) {o : Int} {pc'' : Nat}  (hd : Db bytes pc (.ifnonnull o) o pc' pc'')  (G : Go x (T.setTop (mkF x.m pc' Ls st))) : Go x (T.setTop (mkF x.m pc Ls (.null :: st))) := by
  obtain ⟨hd, rfl, ho, rfl⟩ := hd
  exact G.from fun t q => XT.ifnonnullNo X.at X.ex rfl (X.dec hd) rfl q
end Kit
/-! own kit, part 3: fields, statics, objects, arrays -/
/-- the array at a holds just these values -/
def Ay (Z : State) (h : Heap) (a : Addr) (ty : FieldType) (vs : List Value) : Prop :=
  ∃ c : Cell, Arr Z h a c ty ∧ c.slots.toList = vs ∧ vs.length < 2 ^ 31 ∧ ∀ v ∈ vs, fits ty v = true
section Ay
variable {Z : State} {h h' : Heap} {a b : Addr} {ty : FieldType} {vs : List Value} {ws : List Addr}
theorem Ay.lt (A : Ay Z h a ty vs) : @LT.lt Nat _ a h.size := by obtain ⟨c, A, -⟩ := A; exact A.lt
theorem Ay.len (A : Ay Z h a ty vs) : vs.length < 2 ^ 31 := by obtain ⟨c, A, -, l, -⟩ := A; exact l
theorem Ay.fit (A : Ay Z h a ty vs) : ∀ v ∈ vs, fits ty v = true := by obtain ⟨c, A, -, -, f⟩ := A; exact f
theorem Ay.keep (A : Ay Z h a ty vs) (K : Keep h h' ws) (q : a ∉ ws) : Ay Z h' a ty vs := by obtain ⟨c, A, r⟩ := A; exact ⟨c, ⟨K.2.1 a c A.1 q, A.2⟩, r⟩
theorem Ay.ext (A : Ay Z h a ty vs) (E : Ext h h') : Ay Z h' a ty vs := by obtain ⟨c, A, r⟩ := A; exact ⟨c, A.ext E, r⟩
theorem Ay.arv (A : Ay Z h a ty vs) (d : Value) : ∃ k, Arv Z h a k ty vs.length.toInt32 vs d := by
  obtain ⟨c, A, e, l, f⟩ := A
  have hsz : c.slots.size = vs.length := by rw [← e]; simp
  have hn : (vs.length.toInt32).toNatClampNeg = vs.length := by
    have := len_toInt l
    rw [Int32.toNatClampNeg, this]; rfl
  refine ⟨c.cls, c, A, rfl, by rw [hn, hsz], ?_, fun i hi => ?_, fun i hi => ?_⟩
  · have := len_toInt l
    rw [Int32.lt_iff_toInt_lt, this, Int32.toInt_zero]; omega
  · have hi' : i < vs.length := by omega
    subst e
    simp only [Array.length_toList] at hi'
    simp [List.getD, hi]
  · have hi' : i < vs.length := by omega
    rw [List.getD_eq_getElem?_getD, List.getElem?_eq_getElem hi', Option.getD_some]
    exact f _ (List.getElem_mem _)
theorem Ay.of_arv {k : ClassId} {z : Int32} {d : Value} (A : Arv Z h a k ty z vs d) (hl : z.toNatClampNeg = vs.length) : Ay Z h a ty vs := by
  obtain ⟨c, A, -, s, nn, H, G⟩ := A
  have hsz : c.slots.size = vs.length := by rw [s, hl]
  refine ⟨c, A, ?_, ?_, ?_⟩
  · refine List.ext_getElem (by simpa using hsz) fun i h1 h2 => ?_
    have hi : i < c.slots.size := by omega
    have q := H i hi
    rw [Array.getElem?_eq_getElem hi, List.getD_eq_getElem?_getD, List.getElem?_eq_getElem h2, Option.getD_some] at q
    simpa using q
  · rw [← hl]
    have := z.toInt_lt
    rw [Int32.toNatClampNeg]
    omega
  · intro v hv
    obtain ⟨i, hi, rfl⟩ := List.mem_iff_getElem.mp hv
    have q := G i (by omega)
    rw [List.getD_eq_getElem?_getD, List.getElem?_eq_getElem hi, Option.getD_some] at q
    exact q
theorem i32_nat {i : Nat} (h : i < 2 ^ 31) : (Int32.ofNat i).toNatClampNeg = i ∧ ¬ Int32.ofNat i < 0 := by
  have e : (Int32.ofNat i).toInt = i := Int32.toInt_ofNat_small h
  refine ⟨by rw [Int32.toNatClampNeg, e]; rfl, ?_⟩
  rw [Int32.lt_iff_toInt_lt, e, Int32.toInt_zero]; omega
theorem Ay.at (A : Ay Z h a ty vs) {i : Nat} {v : Value} (hi : vs[i]? = some v) : ∃ c : Cell, Arr Z h a c ty ∧ ¬ (Int32.ofNat i < 0 ∨ c.slots.size ≤ (Int32.ofNat i).toNatClampNeg) ∧ c.slots[(Int32.ofNat i).toNatClampNeg]? = some v := by
  obtain ⟨c, A, e, l, -⟩ := A
  have hlt : i < vs.length := (List.getElem?_eq_some_iff.mp hi).1
  obtain ⟨q1, q2⟩ := i32_nat (Nat.lt_trans hlt l)
  refine ⟨c, A, ?_, ?_⟩
  · rw [q1]; rintro (r | r)
    · exact q2 r
    · rw [← e] at hlt; simp at hlt; omega
  · rw [q1, ← Array.getElem?_toList, e]; exact hi
theorem Ay.set (A : Ay Z h a ty vs) {i : Nat} (hi : i < vs.length) {v : Value} (hv : fits ty v = true) : ∃ c : Cell, Arr Z h a c ty ∧ ¬ (Int32.ofNat i < 0 ∨ c.slots.size ≤ (Int32.ofNat i).toNatClampNeg) ∧ ∀ h', Wr h h' a (Int32.ofNat i).toNatClampNeg v → Ay Z h' a ty (vs.set i v) := by
  obtain ⟨c, A, e, l, f⟩ := A
  obtain ⟨q1, q2⟩ := i32_nat (Nat.lt_trans hi l)
  refine ⟨c, A, ?_, fun h' W => ⟨_, A.same W, ?_, by simpa using l, ?_⟩⟩
  · rw [q1]; rintro (r | r)
    · exact q2 r
    · rw [← e] at hi; simp at hi; omega
  · rw [q1]; simp [Cell.setSlot, e]
  · intro w hw
    rcases List.mem_or_eq_of_mem_set hw with r | r
    · exact f w r
    · rw [r]; exact hv
end Ay
section Heap
variable {nw : Bool} {l : Launch} {Z : State} {EL : List (String × Nat)} {own : String} {bytes : ByteArray} {maxL : Nat} {ret : Option FieldType} {mnm : String} {R : Room} {h0 : Heap} {B0 : BP} {ws : List Addr} {Q : QT} {x : Cx} {T : State} {h : Heap} {B : BP} {k n : Nat} {a0 : Array Value} {pc pc' : Nat} {Ls : Array Slot} {st : List Value}
theorem g_getfield (X : Wk nw l Z EL own bytes maxL ret mnm R h0 B0 ws Q x T h B k n) {R0 O nm d : String} {idx : Nat} (hd : Dc bytes pc (.getfield idx) 3 pc') (w : (Cond.fieldLink own idx R0 nm d).before a0 Z = true) (via : Via Z R0 O nm d) {a : Addr} {v : Value} (F : Fld Z h a O nm d v)
    (K : ∀ T', Wk nw l Z EL own bytes maxL ret mnm R h0 B0 ws Q x T' h B k n → Go x (T'.setTop (mkF x.m pc' Ls (v :: st)))) : Go x (T.setTop (mkF x.m pc Ls (.ref a :: st))) := by
  obtain ⟨S, vm0, k0, locs, X, eT, hS, hk, hZ, hown, r⟩ := X
  obtain ⟨hd, rfl⟩ := hd
  obtain ⟨T', X', e', stp⟩ := getF X S.1 hZ hown (host := "") (Or.inl w) via eT F (g := mkF x.m pc Ls (.ref a :: st)) rfl rfl (S.2.1 ▸ hd)
  exact (K T' ⟨S, vm0, k0, locs, X', e', hS, hk, hZ, hown, r⟩).from stp
theorem g_getstatic (X : Wk nw l Z EL own bytes maxL ret mnm R h0 B0 ws Q x T h B k n) {R0 O nm d : String} {idx : Nat} (hd : Dc bytes pc (.getstatic idx) 3 pc') (w : (Cond.fieldLink own idx R0 nm d).before a0 Z = true) (via : Via Z R0 O nm d) {v : Value} (F : Sta Z Z.heap O nm d v)
    (K : ∀ T', Wk nw l Z EL own bytes maxL ret mnm R h0 B0 ws Q x T' h B k n → Go x (T'.setTop (mkF x.m pc' Ls (v :: st)))) : Go x (T.setTop (mkF x.m pc Ls st)) := by
  have F' := F.ext X.old
  obtain ⟨S, vm0, k0, locs, X, eT, hS, hk, hZ, hown, r⟩ := X
  obtain ⟨hd, rfl⟩ := hd
  obtain ⟨T', X', e', stp⟩ := getS (host := "") X S.1 hZ hown w via eT F' (g := mkF x.m pc Ls st) rfl (S.2.1 ▸ hd)
  exact (K T' ⟨S, vm0, k0, locs, X', e', hS, hk, hZ, hown, r⟩).from stp
/-- a step that writes one place -/
theorem Wk.wrote {T' : State} {h' : Heap} {vm0 : Vm} {k0 : Nat} {locs : List Loc} {a : Addr} {sl : Nat} {v : Value} (W : Wr h h' a sl v) (hB : ¬ B a) (hz : Z.heap.size ≤ a) (hw : a ∈ ws ∨ h0.size ≤ a)
    (S : x.p.tables.exec = Jvm.exec ∧ x.c.code = bytes ∧ x.c.maxLocals = maxL ∧ x.meth.sig.returnType = ret ∧ x.meth.locks = false ∧ x.meth.name = mnm ∧ x.F = ConQ nw Z EL R h0 B0 ws Q x.s)
    (X' : Stand x.p l x.e R (x.s.setVm vm0) x.m x.args x.below x.meth x.c T' (locs ++ [⟨a, sl⟩]) k n) (e' : T'.heap = h') (hS : x.s.Since vm0 k0) (hk : k0 ≤ h.size) (hZ : Z.Warmed39 vm0) (hown : vm0.findClass own = some x.m.cls)
    (hI : k_inv Z EL B vm0 h) (hFr : Fr Z.heap.size locs) (hK : Keep h0 h ws) (hM : k_more B0 B h0.size) (hN : nw = true → x.s.WarmedH vm0) : Wk nw l Z EL own bytes maxL ret mnm R h0 B0 ws Q x T' h' B k n :=
  ⟨S, vm0, k0, _, X', e', hS, by rw [W.size]; exact hk, hZ, hown, hI.wr W hB hz, Fr.snoc X' hFr hz, hK.wr W hw, hM, hN⟩
theorem g_putfield (X : Wk nw l Z EL own bytes maxL ret mnm R h0 B0 ws Q x T h B k n) {R0 O nm d C : String} {idx kk : Nat} {ty : FieldType} (hd : Dc bytes pc (.putfield idx) 3 pc') (w : (Cond.fieldLink own idx R0 nm d).before a0 Z = true) (via : Via Z R0 O nm d) {a : Addr} {v v' old : Value} (F : Fld Z h a O nm d old) (E : Exa Z h a C)
    (L : (Cond.lays C O nm d).before a0 Z = true ∨ ((Cond.laysFinal C O nm d).before a0 Z = true ∧ own = O ∧ mnm = "<init>")) (wi : (Cond.instantiable C kk).before a0 Z = true) (hty : parseFieldDescriptor d = some ty) (hn : narrow ty v = v') (hf : fits ty v' = true)
    (hB : ¬ B a) (hz : Z.heap.size ≤ a) (hw : a ∈ ws ∨ h0.size ≤ a)
    (K : ∀ T' h', Wk nw l Z EL own bytes maxL ret mnm R h0 B0 ws Q x T' h' B k n → Wr h h' a (RoadKit.slotOf Z O nm d) v' → Go x (T'.setTop (mkF x.m pc' Ls st))) : Go x (T.setTop (mkF x.m pc Ls (v :: .ref a :: st))) := by
  obtain ⟨S, vm0, k0, locs, X, eT, hS, hk, hZ, hown, hI, hFr, hK, hM, hN⟩ := X
  obtain ⟨hd, rfl⟩ := hd
  obtain ⟨T', h', X', e', W, stp⟩ := putFN X S.1 hZ hown w via eT F E (L.imp id fun q => ⟨q.1, q.2.1, S.2.2.2.2.2.1.trans q.2.2⟩) wi hty hn hf (g := mkF x.m pc Ls (v :: .ref a :: st)) rfl rfl (S.2.1 ▸ hd)
  exact (K T' h' (Wk.wrote W hB hz hw S X' e' hS hk hZ hown hI hFr hK hM hN) W).from stp
theorem g_new (X : Wk nw l Z EL own bytes maxL ret mnm R h0 B0 ws Q x T h B k n) {C : String} {idx nf : Nat} (hd : Dc bytes pc (.new idx) 3 pc') (w : (Cond.classLink own idx C).before a0 Z = true) (wi : (Cond.instantiable C nf).before a0 Z = true) (wz : (Cond.initialized C).before a0 Z = true) (k' n' : Nat) (ek : k + 1 = k') (en : n + nf = n') (hc : k' ≤ R.cells) (hs : n' ≤ R.slots)
    (K : ∀ T' h' a, Wk nw l Z EL own bytes maxL ret mnm R h0 B0 ws Q x T' h' B k' n' → Ext h h' → a = h.size → ¬ B a → Exa Z h' a C → (∀ {O nm d : String} {ty : FieldType}, Laid Z a0 C O nm d → parseFieldDescriptor d = some ty → Fld Z h' a O nm d (defaultValue ty)) → Go x (T'.setTop (mkF x.m pc' Ls (.ref a :: st)))) : Go x (T.setTop (mkF x.m pc Ls st)) := by
  have hB := X.fresh
  subst ek en
  obtain ⟨S, vm0, k0, locs, X, eT, hS, hk, hZ, hown, hI, hFr, hK, hM, hN⟩ := X
  obtain ⟨hd, rfl⟩ := hd
  obtain ⟨T', h', X', e', E, A, D, -, stp⟩ := newO X S.1 hZ hown w wi wz eT (g := mkF x.m pc Ls st) rfl (S.2.1 ▸ hd) hc hs
  exact (K T' h' _ ⟨S, vm0, k0, locs, X', e', hS, Nat.le_trans hk E.1, hZ, hown, hI.ext E, hFr, hK.ext E, hM, hN⟩ E rfl hB A D).from stp
theorem g_newarray (X : Wk nw l Z EL own bytes maxL ret mnm R h0 B0 ws Q x T h B k n) {aty : ArrayType} {ty : FieldType} (hd : Dc bytes pc (.newarray aty) 2 pc') (hty : newarray.typeOf aty = ty) (w : (Cond.arrayClass ty).before a0 Z = true) {j : Int32} (len cap : Nat) (hj : j = Int32.ofNat len) (hcap : len ≤ cap) (hbig : cap * 8 ≤ 536870912) (k' n' : Nat) (ek : k + 1 = k') (en : n + cap = n') (hc : k' ≤ R.cells) (hs : n' ≤ R.slots)
    (K : ∀ T' h' a, Wk nw l Z EL own bytes maxL ret mnm R h0 B0 ws Q x T' h' B k' n' → Ext h h' → a = h.size → ¬ B a → Ay Z h' a ty (List.replicate len (defaultValue ty)) → Go x (T'.setTop (mkF x.m pc' Ls (.ref a :: st)))) : Go x (T.setTop (mkF x.m pc Ls (.int j :: st))) := by
  have hB := X.fresh
  subst hty hj ek en
  obtain ⟨S, vm0, k0, locs, X, eT, hS, hk, hZ, hown, hI, hFr, hK, hM, hN⟩ := X
  obtain ⟨hd, rfl⟩ := hd
  have hlt : len < 2 ^ 31 := by omega
  obtain ⟨q1, q2⟩ := i32_nat hlt
  obtain ⟨T', h', cA, X', e', E, A, stp⟩ := newP X S.1 hZ w eT (g := mkF x.m pc Ls (.int (Int32.ofNat len) :: st)) rfl (S.2.1 ▸ hd) rfl q2 (cap := cap) (by rw [q1]; exact hcap) hbig hc hs
  refine (K T' h' _ ⟨S, vm0, k0, locs, X', e', hS, Nat.le_trans hk E.1, hZ, hown, hI.ext E, hFr, hK.ext E, hM, hN⟩ E rfl hB ⟨_, A, ?_, by simpa using hlt, ?_⟩).from stp
  · simp [newA, q1]
  · intro v hv
    rw [(List.mem_replicate.mp hv).2]
    cases aty <;> rfl
theorem g_arraylength (X : Wk nw l Z EL own bytes maxL ret mnm R h0 B0 ws Q x T h B k n) (hd : Dc bytes pc .arraylength 1 pc') {a : Addr} {ty : FieldType} {vs : List Value} (A : Ay Z h a ty vs) (r : Int32) (hr : Int32.ofNat vs.length = r)
    (G : Go x (T.setTop (mkF x.m pc' Ls (.int r :: st)))) : Go x (T.setTop (mkF x.m pc Ls (.ref a :: st))) := by
  subst hr
  obtain ⟨S, vm0, k0, locs, X, eT, hS, hk, hZ, hown, hI, hFr, hK, hM, hN⟩ := X
  obtain ⟨hd, rfl⟩ := hd
  obtain ⟨c, A, e, -, -⟩ := A
  refine G.from fun t q => X.arraylength S.1 (cell := c) (by rw [eT]; exact A.1) (State.isArrayOf_alike hZ.alike A.2.1) (g := mkF x.m pc Ls (.ref a :: st)) rfl rfl (S.2.1 ▸ hd) t ?_
  have hsz : c.slots.size = vs.length := by rw [← e]; simp
  rw [hsz]; exact q
theorem g_caload (X : Wk nw l Z EL own bytes maxL ret mnm R h0 B0 ws Q x T h B k n) (hd : Dc bytes pc .caload 1 pc') {a : Addr} {vs : List Value} (A : Ay Z h a .char vs) {j : Int32} (i : Nat) (hj : j = Int32.ofNat i) {v : Value} (hi : vs[i]? = some v)
    (G : Go x (T.setTop (mkF x.m pc' Ls (v :: st)))) : Go x (T.setTop (mkF x.m pc Ls (.int j :: .ref a :: st))) := by
  subst hj
  obtain ⟨S, vm0, k0, locs, X, eT, hS, hk, hZ, hown, hI, hFr, hK, hM, hN⟩ := X
  obtain ⟨hd, rfl⟩ := hd
  obtain ⟨c, A, h1, h2⟩ := A.at hi
  exact G.from fun t q => X.caload S.1 (by rw [eT]; exact A.1) (State.isArrayOf_alike hZ.alike A.2.1) A.2.2 h1 h2 (g := mkF x.m pc Ls (.int (Int32.ofNat i) :: .ref a :: st)) rfl rfl (S.2.1 ▸ hd) t q
theorem g_iaload (X : Wk nw l Z EL own bytes maxL ret mnm R h0 B0 ws Q x T h B k n) (hd : Dc bytes pc .iaload 1 pc') {a : Addr} {vs : List Value} (A : Ay Z h a .int vs) {j : Int32} (i : Nat) (hj : j = Int32.ofNat i) {v : Value} (hi : vs[i]? = some v)
    (G : Go x (T.setTop (mkF x.m pc' Ls (v :: st)))) : Go x (T.setTop (mkF x.m pc Ls (.int j :: .ref a :: st))) := by
  subst hj
  obtain ⟨S, vm0, k0, locs, X, eT, hS, hk, hZ, hown, hI, hFr, hK, hM, hN⟩ := X
  obtain ⟨hd, rfl⟩ := hd
  obtain ⟨c, A, h1, h2⟩ := A.at hi
  exact G.from fun t q => X.iaload S.1 (by rw [eT]; exact A.1) (State.isArrayOf_alike hZ.alike A.2.1) A.2.2 h1 h2 (g := mkF x.m pc Ls (.int (Int32.ofNat i) :: .ref a :: st)) rfl rfl (S.2.1 ▸ hd) t q
theorem g_laload (X : Wk nw l Z EL own bytes maxL ret mnm R h0 B0 ws Q x T h B k n) (hd : Dc bytes pc .laload 1 pc') {a : Addr} {vs : List Value} (A : Ay Z h a .long vs) {j : Int32} (i : Nat) (hj : j = Int32.ofNat i) {v : Value} (hi : vs[i]? = some v)
    (G : Go x (T.setTop (mkF x.m pc' Ls (v :: st)))) : Go x (T.setTop (mkF x.m pc Ls (.int j :: .ref a :: st))) := by
  subst hj
  obtain ⟨S, vm0, k0, locs, X, eT, hS, hk, hZ, hown, hI, hFr, hK, hM, hN⟩ := X
  obtain ⟨hd, rfl⟩ := hd
  obtain ⟨c, A, h1, h2⟩ := A.at hi
  exact G.from fun t q => X.laload S.1 (by rw [eT]; exact A.1) (State.isArrayOf_alike hZ.alike A.2.1) A.2.2 h1 h2 (g := mkF x.m pc Ls (.int (Int32.ofNat i) :: .ref a :: st)) rfl rfl (S.2.1 ▸ hd) t q
theorem g_baload (X : Wk nw l Z EL own bytes maxL ret mnm R h0 B0 ws Q x T h B k n) (hd : Dc bytes pc .baload 1 pc') {a : Addr} {vs : List Value} (A : Ay Z h a .byte vs) {j : Int32} (i : Nat) (hj : j = Int32.ofNat i) {v : Value} (hi : vs[i]? = some v)
    (G : Go x (T.setTop (mkF x.m pc' Ls (v :: st)))) : Go x (T.setTop (mkF x.m pc Ls (.int j :: .ref a :: st))) := by
  subst hj
  obtain ⟨S, vm0, k0, locs, X, eT, hS, hk, hZ, hown, hI, hFr, hK, hM, hN⟩ := X
  obtain ⟨hd, rfl⟩ := hd
  obtain ⟨c, A, h1, h2⟩ := A.at hi
  exact G.from fun t q => X.baloadBytes S.1 (by rw [eT]; exact A.1) (State.isArrayOf_alike hZ.alike A.2.1) A.2.2 h1 h2 (g := mkF x.m pc Ls (.int (Int32.ofNat i) :: .ref a :: st)) rfl rfl (S.2.1 ▸ hd) t q
theorem g_aaload (X : Wk nw l Z EL own bytes maxL ret mnm R h0 B0 ws Q x T h B k n) (hd : Dc bytes pc .aaload 1 pc') {a : Addr} {ty : FieldType} (hty : ty.isReference = true) {vs : List Value} (A : Ay Z h a ty vs) {j : Int32} (i : Nat) (hj : j = Int32.ofNat i) {v : Value} (hi : vs[i]? = some v)
    (G : Go x (T.setTop (mkF x.m pc' Ls (v :: st)))) : Go x (T.setTop (mkF x.m pc Ls (.int j :: .ref a :: st))) := by
  subst hj
  obtain ⟨S, vm0, k0, locs, X, eT, hS, hk, hZ, hown, hI, hFr, hK, hM, hN⟩ := X
  obtain ⟨hd, rfl⟩ := hd
  obtain ⟨c, A, h1, h2⟩ := A.at hi
  exact G.from fun t q => X.aaload S.1 (by rw [eT]; exact A.1) (State.isArrayOf_alike hZ.alike A.2.1) hty A.2.2 h1 h2 (g := mkF x.m pc Ls (.int (Int32.ofNat i) :: .ref a :: st)) rfl rfl (S.2.1 ▸ hd) t q
theorem g_iastore (X : Wk nw l Z EL own bytes maxL ret mnm R h0 B0 ws Q x T h B k n) (hd : Dc bytes pc .iastore 1 pc') {a : Addr} {vs : List Value} (A : Ay Z h a .int vs) {j : Int32} (i : Nat) (hj : j = Int32.ofNat i) {v : Int32} (v' : Int32) (hv : v = v') (hi : i < vs.length) (hB : ¬ B a) (hz : Z.heap.size ≤ a) (hw : a ∈ ws ∨ h0.size ≤ a)
    (K : ∀ T' h', Wk nw l Z EL own bytes maxL ret mnm R h0 B0 ws Q x T' h' B k n → Keep h h' [a] → Ay Z h' a .int (vs.set i (.int v')) → Go x (T'.setTop (mkF x.m pc' Ls st))) : Go x (T.setTop (mkF x.m pc Ls (.int v :: .int j :: .ref a :: st))) := by
  subst hj hv
  obtain ⟨S, vm0, k0, locs, X, eT, hS, hk, hZ, hown, hI, hFr, hK, hM, hN⟩ := X
  obtain ⟨hd, rfl⟩ := hd
  obtain ⟨c, A, h1, h2⟩ := A.set hi (v := .int v) rfl
  obtain ⟨T', h', X', e', Wr', stp⟩ := stI X S.1 hZ eT A h1 (g := mkF x.m pc Ls (.int v :: .int (Int32.ofNat i) :: .ref a :: st)) rfl rfl (S.2.1 ▸ hd)
  exact (K T' h' (Wk.wrote Wr' hB hz hw S X' e' hS hk hZ hown hI hFr hK hM hN) (Keep.of_wr Wr') (h2 h' Wr')).from stp
theorem g_castore (X : Wk nw l Z EL own bytes maxL ret mnm R h0 B0 ws Q x T h B k n) (hd : Dc bytes pc .castore 1 pc') {a : Addr} {vs : List Value} (A : Ay Z h a .char vs) {j : Int32} (i : Nat) (hj : j = Int32.ofNat i) {v : Int32} (v' : Int32) (hv : (RoadKit.nar .char v) = v') (hi : i < vs.length) (hB : ¬ B a) (hz : Z.heap.size ≤ a) (hw : a ∈ ws ∨ h0.size ≤ a)
    (K : ∀ T' h', Wk nw l Z EL own bytes maxL ret mnm R h0 B0 ws Q x T' h' B k n → Keep h h' [a] → Ay Z h' a .char (vs.set i (.int v')) → Go x (T'.setTop (mkF x.m pc' Ls st))) : Go x (T.setTop (mkF x.m pc Ls (.int v :: .int j :: .ref a :: st))) := by
  subst hj hv
  obtain ⟨S, vm0, k0, locs, X, eT, hS, hk, hZ, hown, hI, hFr, hK, hM, hN⟩ := X
  obtain ⟨hd, rfl⟩ := hd
  obtain ⟨c, A, h1, h2⟩ := A.set hi (v := .int (RoadKit.nar .char v)) (fits_nar_char v)
  obtain ⟨T', h', X', e', Wr', stp⟩ := stC X S.1 hZ eT A h1 (g := mkF x.m pc Ls (.int v :: .int (Int32.ofNat i) :: .ref a :: st)) rfl rfl (S.2.1 ▸ hd)
  exact (K T' h' (Wk.wrote Wr' hB hz hw S X' e' hS hk hZ hown hI hFr hK hM hN) (Keep.of_wr Wr') (h2 h' Wr')).from stp
theorem g_bastore (X : Wk nw l Z EL own bytes maxL ret mnm R h0 B0 ws Q x T h B k n) (hd : Dc bytes pc .bastore 1 pc') {a : Addr} {vs : List Value} (A : Ay Z h a .byte vs) {j : Int32} (i : Nat) (hj : j = Int32.ofNat i) {v : Int32} (v' : Int32) (hv : (RoadKit.nar .byte v) = v') (hi : i < vs.length) (hB : ¬ B a) (hz : Z.heap.size ≤ a) (hw : a ∈ ws ∨ h0.size ≤ a)
    (K : ∀ T' h', Wk nw l Z EL own bytes maxL ret mnm R h0 B0 ws Q x T' h' B k n → Keep h h' [a] → Ay Z h' a .byte (vs.set i (.int v')) → Go x (T'.setTop (mkF x.m pc' Ls st))) : Go x (T.setTop (mkF x.m pc Ls (.int v :: .int j :: .ref a :: st))) := by
  subst hj hv
  obtain ⟨S, vm0, k0, locs, X, eT, hS, hk, hZ, hown, hI, hFr, hK, hM, hN⟩ := X
  obtain ⟨hd, rfl⟩ := hd
  obtain ⟨c, A, h1, h2⟩ := A.set hi (v := .int (RoadKit.nar .byte v)) (fits_nar_byte v)
  obtain ⟨T', h', X', e', Wr', stp⟩ := stB X S.1 hZ eT A h1 (g := mkF x.m pc Ls (.int v :: .int (Int32.ofNat i) :: .ref a :: st)) rfl rfl (S.2.1 ▸ hd)
  exact (K T' h' (Wk.wrote Wr' hB hz hw S X' e' hS hk hZ hown hI hFr hK hM hN) (Keep.of_wr Wr') (h2 h' Wr')).from stp
theorem g_lastore (X : Wk nw l Z EL own bytes maxL ret mnm R h0 B0 ws Q x T h B k n) (hd : Dc bytes pc .lastore 1 pc') {a : Addr} {vs : List Value} (A : Ay Z h a .long vs) {j : Int32} (i : Nat) (hj : j = Int32.ofNat i) {v : Int64} (v' : Int64) (hv : v = v') (hi : i < vs.length) (hB : ¬ B a) (hz : Z.heap.size ≤ a) (hw : a ∈ ws ∨ h0.size ≤ a)
    (K : ∀ T' h', Wk nw l Z EL own bytes maxL ret mnm R h0 B0 ws Q x T' h' B k n → Keep h h' [a] → Ay Z h' a .long (vs.set i (.long v')) → Go x (T'.setTop (mkF x.m pc' Ls st))) : Go x (T.setTop (mkF x.m pc Ls (.long v :: .int j :: .ref a :: st))) := by
  subst hj hv
  obtain ⟨S, vm0, k0, locs, X, eT, hS, hk, hZ, hown, hI, hFr, hK, hM, hN⟩ := X
  obtain ⟨hd, rfl⟩ := hd
  obtain ⟨c, A, h1, h2⟩ := A.set hi (v := .long v) rfl
  obtain ⟨T', h', X', e', Wr', stp⟩ := stJ X S.1 hZ eT A h1 (g := mkF x.m pc Ls (.long v :: .int (Int32.ofNat i) :: .ref a :: st)) rfl rfl (S.2.1 ▸ hd)
  exact (K T' h' (Wk.wrote Wr' hB hz hw S X' e' hS hk hZ hown hI hFr hK hM hN) (Keep.of_wr Wr') (h2 h' Wr')).from stp
end Heap
/-! own kit, part 4: calls, constants, casts -/
/-- pure: the value r, the heap as it was -/
def PQ (r : Option Value) (h0 : Heap) (B0 : BP) : QT := fun v h B => v = r ∧ h = h0 ∧ B = B0
theorem k_ws1 {B : BP} {Z : State} {ws : List Addr} {h0 : Heap} {a : Addr} (q : ¬ B a ∧ Z.heap.size ≤ a ∧ (a ∈ ws ∨ h0.size ≤ a)) : ∀ z ∈ [a], ¬ B z ∧ Z.heap.size ≤ z ∧ (z ∈ ws ∨ h0.size ≤ z) := fun z hz => by cases List.mem_singleton.mp hz; exact q
theorem k_narref (t : FieldType) {v : Value} (h : v.isRef = true) : narrow t v = v := by
  rcases ref_cases h with rfl | ⟨a, rfl⟩ <;> cases t <;> rfl
theorem k_fitref {t : FieldType} {v : Value} (ht : refKind t = true) (h : v.isRef = true) : fits t v = true := by
  rcases ref_cases h with rfl | ⟨a, rfl⟩ <;> cases t <;> first | rfl | cases ht
theorem k_top {x : Cx} {T : State} {pc : Nat} {Ls : Array Slot} {st : List Value} {v v' : Value} (e : v = v') (G : Go x (T.setTop (mkF x.m pc Ls (v' :: st)))) : Go x (T.setTop (mkF x.m pc Ls (v :: st))) := by subst e; exact G
section Calls
variable {nw : Bool} {l : Launch} {Z : State} {EL : List (String × Nat)} {own : String} {bytes : ByteArray} {maxL : Nat} {ret : Option FieldType} {mnm : String} {R : Room} {h0 : Heap} {B0 : BP} {ws : List Addr} {Q : QT} {x : Cx} {T : State} {h : Heap} {B : BP} {k n : Nat} {a0 : Array Value} {pc pc' : Nat} {Ls : Array Slot} {st : List Value}
/-- a callee's promise, as the library's calls take it -/
theorem conBack {p : Program} {e : Env} {below : List Frame} {s : State} {args : Array Value} {vm0 : Vm} {len W : Nat} {y : MethodName} {bytes' : ByteArray} {maxL' : Nat} {ret' : Option FieldType} {rm : Room} {as : Array Value} {ws' : List Addr} {Q' : QT}
    (C : Con nw l Z EL y bytes' maxL' ret' [] rm as h B ws' Q') (hZ : Z.Warmed39 vm0) (wc : (Cond.code y bytes' maxL' ret').before a0 Z = true) (wz : (Cond.initialized y.cls).before a0 Z = true) (hf : rm.frames + 1 ≤ R.frames) (hl : W + (maxL' + 11) + rm.locals ≤ R.locals) (hI : k_inv Z EL B vm0 h) :
    BackS l R p e below (s.setVm vm0) args y len W (fun A a => a = as ∧ A.U.heap = h ∧ A.cells + rm.cells ≤ R.cells ∧ A.slots + rm.slots ≤ R.slots)
      (fun A _ v D => ∃ L B', Q' v D.U.heap B' ∧ Keep h D.U.heap ws' ∧ k_more B B' h.size ∧ Fr Z.heap.size L ∧ D.locs = A.locs ++ L ∧ D.cells = A.cells + rm.cells ∧ D.slots = A.slots + rm.slots ∧ k_inv Z EL B' D.U.vm D.U.heap ∧ (nw = true → (s.setVm vm0).WarmedH D.U.vm)) :=
  BackS.of_freeW (bytes := bytes') (maxL := maxL') (ret := ret')
    (E := fun _ first o t L k n => k = rm.cells ∧ n = rm.slots ∧ ∃ v B', o = .returned v ∧ Q' v t.heap B' ∧ Keep h t.heap ws' ∧ k_more B B' h.size ∧ Fr Z.heap.size L ∧ k_inv Z EL B' t.vm t.heap ∧ (nw = true → first.WarmedH t.vm)) C hf hl
    (fun m meth c A a Y hp => have hU : Z.Warmed39 A.U.vm := wtrans (s := s.setVm vm0) hZ Y.warmed
      ⟨by show (Cond.and _ .tt).before a A.U = true; rw [Cond.before_and, mv hU wc]; rfl, mv hU wc, mv hU wz, hp.2.2.1, hp.2.2.2⟩)
    (fun m meth c A a g mk Y hp => ⟨hp.1, wtrans (s := s.setVm vm0) hZ Y.warmed, hp.2.1, (have q := hI.vmT Y hZ; q)⟩) (fun _ _ _ _ _ _ _ _ _ => trivial)
    (fun _ _ _ _ ⟨v, L, B', q1, q2, q3, q4, q5, q6, q7⟩ => ⟨L, _, _, q7.1, rfl, rfl, v, B', q1, q2, q3, q4, q5, q6, q7.2⟩)
    (fun m meth c A a g mk v t L k n Y hp _ _ ⟨e1, e2, v', B', q1, q2, q3, q4, q5, q6, q7⟩ => by
      cases q1; subst e1 e2
      exact ⟨L, B', q2, q3, q4, q5, rfl, rfl, rfl, q6, fun r => State.WarmedH.trans Y.warmed (q7 r)⟩)
theorem Wk.called {T' : State} {h' : Heap} {B' : BP} {vm0 vm1 : Vm} {k0 k' n' : Nat} {locs L : List Loc} {ws' : List Addr} (hK' : Keep h h' ws') (hws : ∀ z ∈ ws', ¬ B z ∧ Z.heap.size ≤ z ∧ (z ∈ ws ∨ h0.size ≤ z)) (hM' : k_more B B' h.size) (hFr' : Fr Z.heap.size L) (hI' : k_inv Z EL B' vm1 h')
    (S : x.p.tables.exec = Jvm.exec ∧ x.c.code = bytes ∧ x.c.maxLocals = maxL ∧ x.meth.sig.returnType = ret ∧ x.meth.locks = false ∧ x.meth.name = mnm ∧ x.F = ConQ nw Z EL R h0 B0 ws Q x.s)
    (X' : Stand x.p l x.e R ((x.s.setVm vm0).setVm vm1) x.m x.args x.below x.meth x.c T' (locs ++ L) k' n') (e' : T'.heap = h') (hS : x.s.Since vm0 k0) (hk : k0 ≤ h.size) (hS' : (x.s.setVm vm0).Since vm1 h'.size) (hZ : Z.Warmed39 vm0) (hown : vm0.findClass own = some x.m.cls)
    (hFr : Fr Z.heap.size locs) (hK : Keep h0 h ws) (hM : k_more B0 B h0.size) (hN : nw = true → x.s.WarmedH vm0) (hN' : nw = true → (x.s.setVm vm0).WarmedH vm1) : Wk nw l Z EL own bytes maxL ret mnm R h0 B0 ws Q x T' h' B' k' n' := by
  obtain ⟨q1, q2, q3, q4⟩ := rebS (Z := Z) (own := own) hS hk X' hS' hK'.1 hZ hown
  exact ⟨S, vm1, h'.size, _, q1, e', q2, Nat.le_refl _, q3, q4, hI', hFr.app hFr', hK.trans hK' fun z hz => (hws z hz).2.2, hM.trans hM' hK.1, fun r => State.WarmedH.trans (t := x.s.setVm vm0) (hN r) (hN' r)⟩
abbrev noHandle (y : MethodName) : Prop := y.cls ≠ "java/lang/invoke/MethodHandle" ∧ y.cls ≠ "java/lang/invoke/VarHandle"
theorem g_callS (X : Wk nw l Z EL own bytes maxL ret mnm R h0 B0 ws Q x T h B k n) {y : MethodName} {idx : Nat} {bytes' : ByteArray} {maxL' : Nat} {ret' : Option FieldType} {rm : Room} {ws' : List Addr} {Q' : QT} {ps : List FieldType} {rt : Option FieldType} (hd : Dc bytes pc (.invokestatic idx) 3 pc')
    (w1 : (Cond.methodLink own idx y).before a0 Z = true) (w2 : (Cond.static y).before a0 Z = true) (w3 : (Cond.initialized y.cls).before a0 Z = true) (w4 : (Cond.code y bytes' maxL' ret').before a0 Z = true) (hy : noHandle y) (hpd : parseMethodDescriptor y.desc = some ⟨ps, rt⟩)
    (argsL rest : List Value) (W : Nat) (C : Con nw l Z EL y bytes' maxL' ret' [] rm argsL.toArray h B ws' Q') (hlen : argsL.length = ps.length) (hst : st = argsL.reverse ++ rest) (hsz : Ls.size = maxL) (hW : (rest.map fun v => v.category).sum ≤ W) (hf : rm.frames + 1 ≤ R.frames) (hl : W + (maxL' + 11) + rm.locals ≤ R.locals) (k' n' : Nat) (ek : k + rm.cells = k') (en : n + rm.slots = n') (hc : k' ≤ R.cells) (hs : n' ≤ R.slots)
    (hws : ∀ z ∈ ws', ¬ B z ∧ Z.heap.size ≤ z ∧ (z ∈ ws ∨ h0.size ≤ z))
    (K : ∀ v T' h' B', Wk nw l Z EL own bytes maxL ret mnm R h0 B0 ws Q x T' h' B' k' n' → Keep h h' ws' → k_more B B' h.size → Q' v h' B' → Go x (T'.setTop (mkF x.m pc' Ls (v.toList ++ rest)))) : Go x (T.setTop (mkF x.m pc Ls st)) := by
  subst ek en
  obtain ⟨S, vm0, k0, locs, X, eT, hS, hk, hZ, hown, hI, hFr, hK, hM, hN⟩ := X
  obtain ⟨hd, rfl⟩ := hd
  obtain ⟨v, vm₁, ⟨T', L', k'', n''⟩, -, X', hS', hgr, ⟨L, B', q1, q2, q3, q4, e1, e2, e3, q5, q6⟩, stp⟩ := callSS X S.1 hown (mvT (s := x.s.setVm vm0) hZ w1) (mvT (s := x.s.setVm vm0) hZ w2) (mvT (s := x.s.setVm vm0) hZ w3) (mvT (s := x.s.setVm vm0) hZ w4) hy (conBack (W := W) C hZ w4 w3 hf hl hI) (g := mkF x.m pc Ls st) rfl (by rw [S.2.2.1]; exact hsz) (lenOf hpd hlen) hst (by show 2 * 0 + _ ≤ _; omega) (S.2.1 ▸ hd) (fun _ _ => ⟨rfl, eT, hc, hs⟩)
  dsimp only [Pt.U, Pt.locs, Pt.cells, Pt.slots] at X' hS' hgr q1 q2 q5 q6 e1 e2 e3 stp
  subst e1 e2 e3
  exact (K v T' _ B' (Wk.called q2 hws q3 q4 q5 S X' rfl hS hk hS' hZ hown hFr hK hM hN q6) q2 q3 q1).from fun t q => stp.trans q
theorem g_callI (X : Wk nw l Z EL own bytes maxL ret mnm R h0 B0 ws Q x T h B k n) {y : MethodName} {idx : Nat} {bytes' : ByteArray} {maxL' : Nat} {rm : Room} {ws' : List Addr} {Q' : QT} {ps : List FieldType} {rt : Option FieldType} (hd : Dc bytes pc (.invokespecial idx) 3 pc')
    (w1 : (Cond.methodLink own idx y).before a0 Z = true) (w2 : (Cond.instanceMethod y).before a0 Z = true) (w3 : (Cond.initialized y.cls).before a0 Z = true) (w4 : (Cond.code y bytes' maxL' none).before a0 Z = true) (hn : y.name = "<init>") (hy : noHandle y) (hpd : parseMethodDescriptor y.desc = some ⟨ps, rt⟩)
    (a : Addr) (argsL rest : List Value) (W : Nat) (C : Con nw l Z EL y bytes' maxL' none [] rm (.ref a :: argsL).toArray h B ws' Q') (hlen : argsL.length = ps.length) (hst : st = argsL.reverse ++ .ref a :: rest) (hsz : Ls.size = maxL) (hW : (rest.map fun v => v.category).sum ≤ W) (hf : rm.frames + 1 ≤ R.frames) (hl : W + (maxL' + 11) + rm.locals ≤ R.locals) (k' n' : Nat) (ek : k + rm.cells = k') (en : n + rm.slots = n') (hc : k' ≤ R.cells) (hs : n' ≤ R.slots)
    (hws : ∀ z ∈ ws', ¬ B z ∧ Z.heap.size ≤ z ∧ (z ∈ ws ∨ h0.size ≤ z))
    (K : ∀ v T' h' B', Wk nw l Z EL own bytes maxL ret mnm R h0 B0 ws Q x T' h' B' k' n' → Keep h h' ws' → k_more B B' h.size → Q' v h' B' → Go x (T'.setTop (mkF x.m pc' Ls (v.toList ++ rest)))) : Go x (T.setTop (mkF x.m pc Ls st)) := by
  subst ek en
  obtain ⟨S, vm0, k0, locs, X, eT, hS, hk, hZ, hown, hI, hFr, hK, hM, hN⟩ := X
  obtain ⟨hd, rfl⟩ := hd
  obtain ⟨v, vm₁, ⟨T', L', k'', n''⟩, -, X', hS', hgr, ⟨L, B', q1, q2, q3, q4, e1, e2, e3, q5, q6⟩, stp⟩ := X.specialBackS S.1 hn hown (mvT (s := x.s.setVm vm0) hZ w1) (mvT (s := x.s.setVm vm0) hZ w2) (mvT (s := x.s.setVm vm0) hZ w4) hy (conBack (W := W) C hZ w4 w3 hf hl hI) (g := mkF x.m pc Ls st) rfl (by rw [S.2.2.1]; exact hsz) (Steps.refl _) (lenOf hpd hlen) hst (by show 2 * 0 + _ ≤ _; omega) (S.2.1 ▸ hd) (fun _ _ => ⟨rfl, eT, hc, hs⟩)
  dsimp only [Pt.U, Pt.locs, Pt.cells, Pt.slots] at X' hS' hgr q1 q2 q5 q6 e1 e2 e3 stp
  subst e1 e2 e3
  exact (K v T' _ B' (Wk.called q2 hws q3 q4 q5 S X' rfl hS hk hS' hZ hown hFr hK hM hN q6) q2 q3 q1).from fun t q => stp.trans q
theorem g_callN (X : Wk nw l Z EL own bytes maxL ret mnm R h0 B0 ws Q x T h B k n) {host : String} {y : MethodName} {idx : Nat} {bytes' : ByteArray} {maxL' : Nat} {rm : Room} {ws' : List Addr} {Q' : QT} {ps : List FieldType} {rt : Option FieldType} (hd : Dc bytes pc (.invokespecial idx) 3 pc')
    (w1 : (Cond.methodLinkNest own idx y host).before a0 Z = true) (w2 : (Cond.instanceMethod y).before a0 Z = true) (w3 : (Cond.initialized y.cls).before a0 Z = true) (w4 : (Cond.code y bytes' maxL' none).before a0 Z = true) (hn : y.name = "<init>") (hy : noHandle y) (hpd : parseMethodDescriptor y.desc = some ⟨ps, rt⟩)
    (a : Addr) (argsL rest : List Value) (W : Nat) (C : Con nw l Z EL y bytes' maxL' none [] rm (.ref a :: argsL).toArray h B ws' Q') (hlen : argsL.length = ps.length) (hst : st = argsL.reverse ++ .ref a :: rest) (hsz : Ls.size = maxL) (hW : (rest.map fun v => v.category).sum ≤ W) (hf : rm.frames + 1 ≤ R.frames) (hl : W + (maxL' + 11) + rm.locals ≤ R.locals) (k' n' : Nat) (ek : k + rm.cells = k') (en : n + rm.slots = n') (hc : k' ≤ R.cells) (hs : n' ≤ R.slots)
    (hws : ∀ z ∈ ws', ¬ B z ∧ Z.heap.size ≤ z ∧ (z ∈ ws ∨ h0.size ≤ z))
    (K : ∀ v T' h' B', Wk nw l Z EL own bytes maxL ret mnm R h0 B0 ws Q x T' h' B' k' n' → Keep h h' ws' → k_more B B' h.size → Q' v h' B' → Go x (T'.setTop (mkF x.m pc' Ls (v.toList ++ rest)))) : Go x (T.setTop (mkF x.m pc Ls st)) := by
  subst ek en
  obtain ⟨S, vm0, k0, locs, X, eT, hS, hk, hZ, hown, hI, hFr, hK, hM, hN⟩ := X
  obtain ⟨hd, rfl⟩ := hd
  obtain ⟨v, vm₁, ⟨T', L', k'', n''⟩, -, X', hS', hgr, ⟨L, B', q1, q2, q3, q4, e1, e2, e3, q5, q6⟩, stp⟩ := X.specialBackNestS S.1 hn hown (Cond.methodLinkNest_wide hZ w1 :) (mvT (s := x.s.setVm vm0) hZ w2) (mvT (s := x.s.setVm vm0) hZ w4) hy (conBack (W := W) C hZ w4 w3 hf hl hI) (g := mkF x.m pc Ls st) rfl (by rw [S.2.2.1]; exact hsz) (Steps.refl _) (lenOf hpd hlen) hst (by show 2 * 0 + _ ≤ _; omega) (S.2.1 ▸ hd) (fun _ _ => ⟨rfl, eT, hc, hs⟩)
  dsimp only [Pt.U, Pt.locs, Pt.cells, Pt.slots] at X' hS' hgr q1 q2 q5 q6 e1 e2 e3 stp
  subst e1 e2 e3
  exact (K v T' _ B' (Wk.called q2 hws q3 q4 q5 S X' rfl hS hk hS' hZ hown hFr hK hM hN q6) q2 q3 q1).from fun t q => stp.trans q
theorem g_callV (X : Wk nw l Z EL own bytes maxL ret mnm R h0 B0 ws Q x T h B k n) {D : String} {y : MethodName} {idx : Nat} {bytes' : ByteArray} {maxL' : Nat} {ret' : Option FieldType} {rm : Room} {ws' : List Addr} {Q' : QT} {ps : List FieldType} {rt : Option FieldType} (hd : Dc bytes pc (.invokevirtual idx) 3 pc')
    (w1 : (Cond.methodLink own idx y).before a0 Z = true) (w2 : (Cond.declares y).before a0 Z = true) (w3 : (Cond.selects D y y).before a0 Z = true) (w4 : (Cond.instanceMethod y).before a0 Z = true) (w5 : (Cond.initialized y.cls).before a0 Z = true) (w6 : (Cond.code y bytes' maxL' ret').before a0 Z = true) (hy : noHandle y) (hpd : parseMethodDescriptor y.desc = some ⟨ps, rt⟩)
    (a : Addr) (argsL rest : List Value) (W : Nat) (E : Exa Z h a D) (C : Con nw l Z EL y bytes' maxL' ret' [] rm (.ref a :: argsL).toArray h B ws' Q') (hlen : argsL.length = ps.length) (hst : st = argsL.reverse ++ .ref a :: rest) (hsz : Ls.size = maxL) (hW : (rest.map fun v => v.category).sum ≤ W) (hf : rm.frames + 1 ≤ R.frames) (hl : W + (maxL' + 11) + rm.locals ≤ R.locals) (k' n' : Nat) (ek : k + rm.cells = k') (en : n + rm.slots = n') (hc : k' ≤ R.cells) (hs : n' ≤ R.slots)
    (hws : ∀ z ∈ ws', ¬ B z ∧ Z.heap.size ≤ z ∧ (z ∈ ws ∨ h0.size ≤ z))
    (K : ∀ v T' h' B', Wk nw l Z EL own bytes maxL ret mnm R h0 B0 ws Q x T' h' B' k' n' → Keep h h' ws' → k_more B B' h.size → Q' v h' B' → Go x (T'.setTop (mkF x.m pc' Ls (v.toList ++ rest)))) : Go x (T.setTop (mkF x.m pc Ls st)) := by
  subst ek en
  obtain ⟨S, vm0, k0, locs, X, eT, hS, hk, hZ, hown, hI, hFr, hK, hM, hN⟩ := X
  obtain ⟨hd, rfl⟩ := hd
  obtain ⟨cq, kq, qa, qb, qc⟩ := isOf (s := x.s.setVm vm0) hZ eT E
  obtain ⟨v, vm₁, ⟨T', L', k'', n''⟩, -, X', hS', hgr, ⟨L, B', q1, q2, q3, q4, e1, e2, e3, q5, q6⟩, stp⟩ := X.virtualBackS S.1 (y := y) (z := y) hown (mvT (s := x.s.setVm vm0) hZ w1) (mvT (s := x.s.setVm vm0) hZ w2) (notFace_of_selects (args := #[]) (mvT (s := x.s.setVm vm0) hZ w3)) (mvT (s := x.s.setVm vm0) hZ w3) (mvT (s := x.s.setVm vm0) hZ w4) hy (conBack (W := W) C hZ w6 w5 hf hl hI) qa qc (g := mkF x.m pc Ls st) rfl (by rw [S.2.2.1]; exact hsz) (Steps.refl _) (lenOf hpd hlen) hst (by show 2 * 0 + _ ≤ _; omega) (S.2.1 ▸ hd) (fun _ _ => ⟨rfl, eT, hc, hs⟩)
  dsimp only [Pt.U, Pt.locs, Pt.cells, Pt.slots] at X' hS' hgr q1 q2 q5 q6 e1 e2 e3 stp
  subst e1 e2 e3
  exact (K v T' _ B' (Wk.called q2 hws q3 q4 q5 S X' rfl hS hk hS' hZ hown hFr hK hM hN q6) q2 q3 q1).from fun t q => stp.trans q
theorem g_callSp (X : Wk nw l Z EL own bytes maxL ret mnm R h0 B0 ws Q x T h B k n) {y : MethodName} {idx : Nat} {bytes' : ByteArray} {maxL' : Nat} {ret' : Option FieldType} {rm : Room} {v : Value} {ps : List FieldType} {rt : Option FieldType} (hd : Dc bytes pc (.invokestatic idx) 3 pc')
    (w1 : (Cond.methodLink own idx y).before a0 Z = true) (w2 : (Cond.static y).before a0 Z = true) (w3 : (Cond.initialized y.cls).before a0 Z = true) (w4 : (Cond.code y bytes' maxL' ret').before a0 Z = true) (hy : noHandle y) (hpd : parseMethodDescriptor y.desc = some ⟨ps, rt⟩)
    (argsL rest : List Value) (W : Nat) (C : Con nw l Z EL y bytes' maxL' ret' [] rm argsL.toArray h B [] (PQ (some v) h B)) (hlen : argsL.length = ps.length) (hst : st = argsL.reverse ++ rest) (hsz : Ls.size = maxL) (hW : (rest.map fun v => v.category).sum ≤ W) (hf : rm.frames + 1 ≤ R.frames) (hl : W + (maxL' + 11) + rm.locals ≤ R.locals) (k' n' : Nat) (ek : k + rm.cells = k') (en : n + rm.slots = n') (hc : k' ≤ R.cells) (hs : n' ≤ R.slots)
    (K : ∀ T', Wk nw l Z EL own bytes maxL ret mnm R h0 B0 ws Q x T' h B k' n' → Go x (T'.setTop (mkF x.m pc' Ls (v :: rest)))) : Go x (T.setTop (mkF x.m pc Ls st)) :=
  g_callS X hd w1 w2 w3 w4 hy hpd argsL rest W C hlen hst hsz hW hf hl k' n' ek en hc hs (fun _ q => nomatch q) fun _ T' _ _ X' _ _ ⟨e1, e2, e3⟩ => by subst e1 e2 e3; exact K T' X'
theorem g_callSp0 (X : Wk nw l Z EL own bytes maxL ret mnm R h0 B0 ws Q x T h B k n) {y : MethodName} {idx : Nat} {bytes' : ByteArray} {maxL' : Nat} {ret' : Option FieldType} {rm : Room} {ps : List FieldType} {rt : Option FieldType} (hd : Dc bytes pc (.invokestatic idx) 3 pc')
    (w1 : (Cond.methodLink own idx y).before a0 Z = true) (w2 : (Cond.static y).before a0 Z = true) (w3 : (Cond.initialized y.cls).before a0 Z = true) (w4 : (Cond.code y bytes' maxL' ret').before a0 Z = true) (hy : noHandle y) (hpd : parseMethodDescriptor y.desc = some ⟨ps, rt⟩)
    (argsL rest : List Value) (W : Nat) (C : Con nw l Z EL y bytes' maxL' ret' [] rm argsL.toArray h B [] (PQ none h B)) (hlen : argsL.length = ps.length) (hst : st = argsL.reverse ++ rest) (hsz : Ls.size = maxL) (hW : (rest.map fun v => v.category).sum ≤ W) (hf : rm.frames + 1 ≤ R.frames) (hl : W + (maxL' + 11) + rm.locals ≤ R.locals) (k' n' : Nat) (ek : k + rm.cells = k') (en : n + rm.slots = n') (hc : k' ≤ R.cells) (hs : n' ≤ R.slots)
    (K : ∀ T', Wk nw l Z EL own bytes maxL ret mnm R h0 B0 ws Q x T' h B k' n' → Go x (T'.setTop (mkF x.m pc' Ls rest))) : Go x (T.setTop (mkF x.m pc Ls st)) :=
  g_callS X hd w1 w2 w3 w4 hy hpd argsL rest W C hlen hst hsz hW hf hl k' n' ek en hc hs (fun _ q => nomatch q) fun _ T' _ _ X' _ _ ⟨e1, e2, e3⟩ => by subst e1 e2 e3; exact K T' X'
theorem g_callVp (X : Wk nw l Z EL own bytes maxL ret mnm R h0 B0 ws Q x T h B k n) {D : String} {y : MethodName} {idx : Nat} {bytes' : ByteArray} {maxL' : Nat} {ret' : Option FieldType} {rm : Room} {v : Value} {ps : List FieldType} {rt : Option FieldType} (hd : Dc bytes pc (.invokevirtual idx) 3 pc')
    (w1 : (Cond.methodLink own idx y).before a0 Z = true) (w2 : (Cond.declares y).before a0 Z = true) (w3 : (Cond.selects D y y).before a0 Z = true) (w4 : (Cond.instanceMethod y).before a0 Z = true) (w5 : (Cond.initialized y.cls).before a0 Z = true) (w6 : (Cond.code y bytes' maxL' ret').before a0 Z = true) (hy : noHandle y) (hpd : parseMethodDescriptor y.desc = some ⟨ps, rt⟩)
    (a : Addr) (argsL rest : List Value) (W : Nat) (E : Exa Z h a D) (C : Con nw l Z EL y bytes' maxL' ret' [] rm (.ref a :: argsL).toArray h B [] (PQ (some v) h B)) (hlen : argsL.length = ps.length) (hst : st = argsL.reverse ++ .ref a :: rest) (hsz : Ls.size = maxL) (hW : (rest.map fun v => v.category).sum ≤ W) (hf : rm.frames + 1 ≤ R.frames) (hl : W + (maxL' + 11) + rm.locals ≤ R.locals) (k' n' : Nat) (ek : k + rm.cells = k') (en : n + rm.slots = n') (hc : k' ≤ R.cells) (hs : n' ≤ R.slots)
    (K : ∀ T', Wk nw l Z EL own bytes maxL ret mnm R h0 B0 ws Q x T' h B k' n' → Go x (T'.setTop (mkF x.m pc' Ls (v :: rest)))) : Go x (T.setTop (mkF x.m pc Ls st)) :=
  g_callV X hd w1 w2 w3 w4 w5 w6 hy hpd a argsL rest W E C hlen hst hsz hW hf hl k' n' ek en hc hs (fun _ q => nomatch q) fun _ T' _ _ X' _ _ ⟨e1, e2, e3⟩ => by subst e1 e2 e3; exact K T' X'
theorem g_callVp0 (X : Wk nw l Z EL own bytes maxL ret mnm R h0 B0 ws Q x T h B k n) {D : String} {y : MethodName} {idx : Nat} {bytes' : ByteArray} {maxL' : Nat} {ret' : Option FieldType} {rm : Room} {ps : List FieldType} {rt : Option FieldType} (hd : Dc bytes pc (.invokevirtual idx) 3 pc')
    (w1 : (Cond.methodLink own idx y).before a0 Z = true) (w2 : (Cond.declares y).before a0 Z = true) (w3 : (Cond.selects D y y).before a0 Z = true) (w4 : (Cond.instanceMethod y).before a0 Z = true) (w5 : (Cond.initialized y.cls).before a0 Z = true) (w6 : (Cond.code y bytes' maxL' ret').before a0 Z = true) (hy : noHandle y) (hpd : parseMethodDescriptor y.desc = some ⟨ps, rt⟩)
    (a : Addr) (argsL rest : List Value) (W : Nat) (E : Exa Z h a D) (C : Con nw l Z EL y bytes' maxL' ret' [] rm (.ref a :: argsL).toArray h B [] (PQ none h B)) (hlen : argsL.length = ps.length) (hst : st = argsL.reverse ++ .ref a :: rest) (hsz : Ls.size = maxL) (hW : (rest.map fun v => v.category).sum ≤ W) (hf : rm.frames + 1 ≤ R.frames) (hl : W + (maxL' + 11) + rm.locals ≤ R.locals) (k' n' : Nat) (ek : k + rm.cells = k') (en : n + rm.slots = n') (hc : k' ≤ R.cells) (hs : n' ≤ R.slots)
    (K : ∀ T', Wk nw l Z EL own bytes maxL ret mnm R h0 B0 ws Q x T' h B k' n' → Go x (T'.setTop (mkF x.m pc' Ls rest))) : Go x (T.setTop (mkF x.m pc Ls st)) :=
  g_callV X hd w1 w2 w3 w4 w5 w6 hy hpd a argsL rest W E C hlen hst hsz hW hf hl k' n' ek en hc hs (fun _ q => nomatch q) fun _ T' _ _ X' _ _ ⟨e1, e2, e3⟩ => by subst e1 e2 e3; exact K T' X'
theorem g_callIp0 (X : Wk nw l Z EL own bytes maxL ret mnm R h0 B0 ws Q x T h B k n) {y : MethodName} {idx : Nat} {bytes' : ByteArray} {maxL' : Nat} {rm : Room} {ps : List FieldType} {rt : Option FieldType} (hd : Dc bytes pc (.invokespecial idx) 3 pc')
    (w1 : (Cond.methodLink own idx y).before a0 Z = true) (w2 : (Cond.instanceMethod y).before a0 Z = true) (w3 : (Cond.initialized y.cls).before a0 Z = true) (w4 : (Cond.code y bytes' maxL' none).before a0 Z = true) (hn : y.name = "<init>") (hy : noHandle y) (hpd : parseMethodDescriptor y.desc = some ⟨ps, rt⟩)
    (a : Addr) (argsL rest : List Value) (W : Nat) (C : Con nw l Z EL y bytes' maxL' none [] rm (.ref a :: argsL).toArray h B [] (PQ none h B)) (hlen : argsL.length = ps.length) (hst : st = argsL.reverse ++ .ref a :: rest) (hsz : Ls.size = maxL) (hW : (rest.map fun v => v.category).sum ≤ W) (hf : rm.frames + 1 ≤ R.frames) (hl : W + (maxL' + 11) + rm.locals ≤ R.locals) (k' n' : Nat) (ek : k + rm.cells = k') (en : n + rm.slots = n') (hc : k' ≤ R.cells) (hs : n' ≤ R.slots)
    (K : ∀ T', Wk nw l Z EL own bytes maxL ret mnm R h0 B0 ws Q x T' h B k' n' → Go x (T'.setTop (mkF x.m pc' Ls rest))) : Go x (T.setTop (mkF x.m pc Ls st)) :=
  g_callI X hd w1 w2 w3 w4 hn hy hpd a argsL rest W C hlen hst hsz hW hf hl k' n' ek en hc hs (fun _ q => nomatch q) fun _ T' _ _ X' _ _ ⟨e1, e2, e3⟩ => by subst e1 e2 e3; exact K T' X'
theorem g_callF (X : Wk nw l Z EL own bytes maxL ret mnm R h0 B0 ws Q x T h B k n) {D : String} {y z : MethodName} {idx cnt : Nat} {bytes' : ByteArray} {maxL' : Nat} {ret' : Option FieldType} {rm : Room} {ws' : List Addr} {Q' : QT} {ps : List FieldType} {rt : Option FieldType} (hd : Dc bytes pc (.invokeinterface idx cnt) 5 pc')
    (w1 : (Cond.methodLink own idx y).before a0 Z = true) (w2 : (Cond.declares y).before a0 Z = true) (wa : (Cond.interfaceMethod y.cls y.cls y.name y.desc).before a0 Z = true) (wb : (Cond.publicMethod z).before a0 Z = true) (wc : (Cond.unhidden D y.name y.desc).before a0 Z = true) (wd : (Cond.castable D y.cls).before a0 Z = true) (w3 : (Cond.selects D y z).before a0 Z = true) (w4 : (Cond.instanceMethod z).before a0 Z = true) (w5 : (Cond.initialized z.cls).before a0 Z = true) (w6 : (Cond.code z bytes' maxL' ret').before a0 Z = true) (hy : noHandle y) (hpd : parseMethodDescriptor y.desc = some ⟨ps, rt⟩)
    (a : Addr) (argsL rest : List Value) (W : Nat) (E : Exa Z h a D) (C : Con nw l Z EL z bytes' maxL' ret' [] rm (.ref a :: argsL).toArray h B ws' Q') (hlen : argsL.length = ps.length) (hst : st = argsL.reverse ++ .ref a :: rest) (hsz : Ls.size = maxL) (hW : (rest.map fun v => v.category).sum ≤ W) (hf : rm.frames + 1 ≤ R.frames) (hl : W + (maxL' + 11) + rm.locals ≤ R.locals) (k' n' : Nat) (ek : k + rm.cells = k') (en : n + rm.slots = n') (hc : k' ≤ R.cells) (hs : n' ≤ R.slots)
    (hws : ∀ z ∈ ws', ¬ B z ∧ Z.heap.size ≤ z ∧ (z ∈ ws ∨ h0.size ≤ z))
    (K : ∀ v T' h' B', Wk nw l Z EL own bytes maxL ret mnm R h0 B0 ws Q x T' h' B' k' n' → Keep h h' ws' → k_more B B' h.size → Q' v h' B' → Go x (T'.setTop (mkF x.m pc' Ls (v.toList ++ rest)))) : Go x (T.setTop (mkF x.m pc Ls st)) := by
  subst ek en
  obtain ⟨S, vm0, k0, locs, X, eT, hS, hk, hZ, hown, hI, hFr, hK, hM, hN⟩ := X
  obtain ⟨hd, rfl⟩ := hd
  obtain ⟨cq, kq, qa, qb, qc⟩ := isOf (s := x.s.setVm vm0) hZ eT E
  obtain ⟨v, vm₁, ⟨T', L', k'', n''⟩, -, X', hS', hgr, ⟨L, B', q1, q2, q3, q4, e1, e2, e3, q5, q6⟩, stp⟩ := X.interfaceBackS S.1 (xi := y) (y := z) hown (mvT (s := x.s.setVm vm0) hZ w1) (mvT (s := x.s.setVm vm0) hZ w2) (mvT (s := x.s.setVm vm0) hZ wa (by simp [Cond.onTables, Cond.keepsFace, Cond.keeps, Cond.faceAtom, hy.1, hy.2])) (mvT (s := x.s.setVm vm0) hZ w3) (mvT (s := x.s.setVm vm0) hZ w4) (mvT (s := x.s.setVm vm0) hZ wb) (mvT (s := x.s.setVm vm0) hZ wc) (mvT (s := x.s.setVm vm0) hZ wd) hy (conBack (W := W) C hZ w6 w5 hf hl hI) qa qb qc (g := mkF x.m pc Ls st) rfl (by rw [S.2.2.1]; exact hsz) (Steps.refl _) (lenOf hpd hlen) hst (by show 2 * 0 + _ ≤ _; omega) (S.2.1 ▸ hd) (fun _ _ => ⟨rfl, eT, hc, hs⟩)
  dsimp only [Pt.U, Pt.locs, Pt.cells, Pt.slots] at X' hS' hgr q1 q2 q5 q6 e1 e2 e3 stp
  subst e1 e2 e3
  exact (K v T' _ B' (Wk.called q2 hws q3 q4 q5 S X' rfl hS hk hS' hZ hown hFr hK hM hN q6) q2 q3 q1).from fun t q => stp.trans q
theorem g_callFp (X : Wk nw l Z EL own bytes maxL ret mnm R h0 B0 ws Q x T h B k n) {D : String} {y z : MethodName} {idx cnt : Nat} {bytes' : ByteArray} {maxL' : Nat} {ret' : Option FieldType} {rm : Room} {v : Value} {ps : List FieldType} {rt : Option FieldType} (hd : Dc bytes pc (.invokeinterface idx cnt) 5 pc')
    (w1 : (Cond.methodLink own idx y).before a0 Z = true) (w2 : (Cond.declares y).before a0 Z = true) (wa : (Cond.interfaceMethod y.cls y.cls y.name y.desc).before a0 Z = true) (wb : (Cond.publicMethod z).before a0 Z = true) (wc : (Cond.unhidden D y.name y.desc).before a0 Z = true) (wd : (Cond.castable D y.cls).before a0 Z = true) (w3 : (Cond.selects D y z).before a0 Z = true) (w4 : (Cond.instanceMethod z).before a0 Z = true) (w5 : (Cond.initialized z.cls).before a0 Z = true) (w6 : (Cond.code z bytes' maxL' ret').before a0 Z = true) (hy : noHandle y) (hpd : parseMethodDescriptor y.desc = some ⟨ps, rt⟩)
    (a : Addr) (argsL rest : List Value) (W : Nat) (E : Exa Z h a D) (C : Con nw l Z EL z bytes' maxL' ret' [] rm (.ref a :: argsL).toArray h B [] (PQ (some v) h B)) (hlen : argsL.length = ps.length) (hst : st = argsL.reverse ++ .ref a :: rest) (hsz : Ls.size = maxL) (hW : (rest.map fun v => v.category).sum ≤ W) (hf : rm.frames + 1 ≤ R.frames) (hl : W + (maxL' + 11) + rm.locals ≤ R.locals) (k' n' : Nat) (ek : k + rm.cells = k') (en : n + rm.slots = n') (hc : k' ≤ R.cells) (hs : n' ≤ R.slots)
    (K : ∀ T', Wk nw l Z EL own bytes maxL ret mnm R h0 B0 ws Q x T' h B k' n' → Go x (T'.setTop (mkF x.m pc' Ls (v :: rest)))) : Go x (T.setTop (mkF x.m pc Ls st)) :=
  g_callF X hd w1 w2 wa wb wc wd w3 w4 w5 w6 hy hpd a argsL rest W E C hlen hst hsz hW hf hl k' n' ek en hc hs (fun _ q => nomatch q) fun _ T' _ _ X' _ _ ⟨e1, e2, e3⟩ => by subst e1 e2 e3; exact K T' X'
/-- Object.<init> -/
theorem g_init (X : Wk nw l Z EL own bytes maxL ret mnm R h0 B0 ws Q x T h B k n) {idx : Nat} {y : MethodName} {ob : ByteArray} (hd : Dc bytes pc (.invokespecial idx) 3 pc') (hy : y = Lib.objectInit) (hob : ob = ⟨#[0xb1]⟩) (w1 : (Cond.methodLink own idx y).before a0 Z = true) (w2 : (Cond.instanceMethod y).before a0 Z = true) (w3 : (Cond.code y ob 1 none).before a0 Z = true)
    (W : Nat) (hsz : Ls.size = maxL) (hf : 1 ≤ R.frames) {a : Addr} (hW : (st.map fun v => v.category).sum ≤ W) (hl : W + 12 ≤ R.locals)
    (K : ∀ T', Wk nw l Z EL own bytes maxL ret mnm R h0 B0 ws Q x T' h B k n → Go x (T'.setTop (mkF x.m pc' Ls st))) : Go x (T.setTop (mkF x.m pc Ls (.ref a :: st))) := by
  subst hy hob
  obtain ⟨S, vm0, k0, locs, X, eT, hS, hk, hZ, hown, r⟩ := X
  obtain ⟨hd, rfl⟩ := hd
  obtain ⟨T', X', e', stp⟩ := initO X S.1 hZ hown w1 w2 w3 eT (g := mkF x.m pc Ls (.ref a :: st)) rfl (by rw [S.2.2.1]; exact hsz) rfl (S.2.1 ▸ hd) hf (W := W) (by show 2 * 0 + _ ≤ _; omega) hl
  exact (K T' ⟨S, vm0, k0, locs, X', e', hS, hk, hZ, hown, r⟩).from stp
/-- a String constant, unread -/
theorem g_ldcO (X : Wk nw l Z EL own bytes maxL ret mnm R h0 B0 ws Q x T h B k n) {idx : Nat} {text : String} (hnw : nw = false) (hd : Dc bytes pc (.ldc idx) 2 pc') (w : (Cond.stringLink own idx text).before a0 Z = true) (wS : ∀ a ∈ Bundle.stringAtoms, a.before a0 Z = true) (cap : Nat) (hn : 4 * text.toList.length ≤ cap) (hbig : cap ≤ 536870912) (k' n' : Nat) (ek : k + 2 = k') (en : n + (cap + 4) = n') (hc : k' ≤ R.cells) (hs : n' ≤ R.slots)
    (K : ∀ T' h' B' a, Wk nw l Z EL own bytes maxL ret mnm R h0 B0 ws Q x T' h' B' k' n' → Ext h h' → k_more B B' h.size → Go x (T'.setTop (mkF x.m pc' Ls (.ref a :: st)))) : Go x (T.setTop (mkF x.m pc Ls st)) := by
  subst hnw ek en
  obtain ⟨S, vm0, k0, locs, X, eT, hS, hk, hZ, hown, ⟨i1, i2, i3, i4, b0, i5⟩, hFr, hK, hM, hN⟩ := X
  obtain ⟨hd, rfl⟩ := hd
  have w' : (Cond.stringLink own idx text).before b0 Z = true := w
  have wS' : ∀ a ∈ Bundle.stringAtoms, a.before b0 Z = true := fun d hd => by
    have q := wS d hd
    simp only [Bundle.stringAtoms, List.mem_cons, List.not_mem_nil, or_false] at hd
    rcases hd with rfl | rfl | rfl | rfl | rfl | rfl | rfl <;> exact q
  obtain ⟨a, T', h', k1, X', e', E, hS', hk', hZ', hown', hC, -, stp⟩ := ldcOH X S.1 hZ hown w' wS' eT hS hk i5 i1 (g := mkF x.m pc Ls st) rfl (S.2.1 ▸ hd) hn hbig hc hs
  have hM' : k_more B (fun y => B y ∨ Bk Z EL T'.vm h' y) h.size := by
    refine ⟨?_, fun y q => Or.inl q⟩
    rintro y (q | q)
    · exact Or.inl q
    · rcases hC.2.2 y q with r | r
      · exact Or.inl (i2 y r)
      · exact Or.inr r
  refine (K T' h' (fun y => B y ∨ Bk Z EL T'.vm h' y) a ⟨S, T'.vm, k1, locs, X', e', hS', hk', hZ', hown', ⟨hC.1, fun y q => Or.inr q, ?_, ⟨Nat.le_trans i4.1 E.1, fun b c q => E.2 _ _ (i4.2 b c q)⟩, b0, i5⟩, hFr, hK.ext E, hM.trans hM' hK.1, fun q => nomatch q⟩ E hM').from stp
  rintro y (q | q)
  · exact Nat.lt_of_lt_of_le (i3 y q) E.1
  · obtain ⟨cell, hc⟩ := Bk.there q; exact (Array.getElem?_eq_some_iff.mp hc).1
/-- a String constant of EL, read -/
theorem g_ldcC (X : Wk nw l Z EL own bytes maxL ret mnm R h0 B0 ws Q x T h B k n) {idx : Nat} {text : String} (hnw : nw = false) (hd : Dc bytes pc (.ldc idx) 2 pc') (w : (Cond.stringLink own idx text).before a0 Z = true) (wS : ∀ a ∈ Bundle.stringAtoms, a.before a0 Z = true) (hmem : (own, idx) ∈ EL) (bs : List Int32) (hlt : bs.length < 2 ^ 31) (ht : (∀ c ∈ text.toList, c.toNat < 256) ∧ text.toList.map (fun c => Value.int (Jvm.Lit.byteI c.toNat.toUInt16)) = bs.map Value.int) (cap : Nat) (hn : 4 * text.toList.length ≤ cap) (hbig : cap ≤ 536870912) (k' n' : Nat) (ek : k + 2 = k') (en : n + (cap + 4) = n') (hc : k' ≤ R.cells) (hs : n' ≤ R.slots)
    (K : ∀ T' h' B' a t, Wk nw l Z EL own bytes maxL ret mnm R h0 B0 ws Q x T' h' B' k' n' → Ext h h' → k_more B B' h.size → Exa Z h' a "java/lang/String" → Fld Z h' a "java/lang/String" "coder" "B" (.int 0) → Fld Z h' a "java/lang/String" "value" "[B" (.ref t) → Ay Z h' t .byte (bs.map Value.int) → a < h'.size → t < h'.size → (∀ z, ¬ B' z → z ≠ a ∧ z ≠ t) → Go x (T'.setTop (mkF x.m pc' Ls (.ref a :: st)))) : Go x (T.setTop (mkF x.m pc Ls st)) := by
  subst hnw ek en
  obtain ⟨S, vm0, k0, locs, X, eT, hS, hk, hZ, hown, ⟨i1, i2, i3, i4, b0, i5⟩, hFr, hK, hM, hN⟩ := X
  obtain ⟨hd, rfl⟩ := hd
  have w' : (Cond.stringLink own idx text).before b0 Z = true := w
  have wS' : ∀ a ∈ Bundle.stringAtoms, a.before b0 Z = true := fun d hd => by
    have q := wS d hd
    simp only [Bundle.stringAtoms, List.mem_cons, List.not_mem_nil, or_false] at hd
    rcases hd with rfl | rfl | rfl | rfl | rfl | rfl | rfl <;> exact q
  obtain ⟨z1, z2⟩ := i32_nat hlt
  obtain ⟨a, T', h', k1, t, kk, X', e', E, hS', hk', hZ', hown', p1, p2, p3, p4, p5, p6, hC, -, p7, stp⟩ := ldcCH X S.1 hZ hown w' wS' eT hS hk i5 hmem i1 (vs := bs.map Value.int) (z := Int32.ofNat bs.length) ht z2 (by rw [z1]; simp) (g := mkF x.m pc Ls st) rfl (S.2.1 ▸ hd) hn hbig hc hs
  have hM' : k_more B (fun y => B y ∨ Bk Z EL T'.vm h' y) h.size := by
    refine ⟨?_, fun y q => Or.inl q⟩
    rintro y (q | q)
    · exact Or.inl q
    · rcases hC.2.2 y q with r | r
      · exact Or.inl (i2 y r)
      · exact Or.inr r
  refine (K T' h' (fun y => B y ∨ Bk Z EL T'.vm h' y) a t ⟨S, T'.vm, k1, locs, X', e', hS', hk', hZ', hown', ⟨hC.1, fun y q => Or.inr q, ?_, ⟨Nat.le_trans i4.1 E.1, fun b c q => E.2 _ _ (i4.2 b c q)⟩, b0, i5⟩, hFr, hK.ext E, hM.trans hM' hK.1, fun q => nomatch q⟩ E hM' p1 p2 p3 (Ay.of_arv p4 (by rw [z1]; simp)) p5 p6 (fun z hz => p7 z fun q => hz (Or.inr q))).from stp
  rintro y (q | q)
  · exact Nat.lt_of_lt_of_le (i3 y q) E.1
  · obtain ⟨cell, hc⟩ := Bk.there q; exact (Array.getElem?_eq_some_iff.mp hc).1
theorem g_ldc2 (X : Wk nw l Z EL own bytes maxL ret mnm R h0 B0 ws Q x T h B k n) {idx : Nat} {v : Int64} (hd : Dc bytes pc (.ldc2_w idx) 3 pc') (w : (Cond.constantLong own idx v).before a0 Z = true) (G : Go x (T.setTop (mkF x.m pc' Ls (.long v :: st)))) : Go x (T.setTop (mkF x.m pc Ls st)) := by
  obtain ⟨S, vm0, k0, locs, X, eT, hS, hk, hZ, hown, r⟩ := X
  obtain ⟨hd, rfl⟩ := hd
  exact G.from fun t q => X.ldc2J S.1 hown (mvT (s := x.s.setVm vm0) hZ w) (g := mkF x.m pc Ls st) rfl (S.2.1 ▸ hd) q
theorem g_ldcI (X : Wk nw l Z EL own bytes maxL ret mnm R h0 B0 ws Q x T h B k n) {idx : Nat} {v : Int32} (hd : Dc bytes pc (.ldc idx) 2 pc') (w : (Cond.constant own idx v).before a0 Z = true) (G : Go x (T.setTop (mkF x.m pc' Ls (.int v :: st)))) : Go x (T.setTop (mkF x.m pc Ls st)) := by
  obtain ⟨S, vm0, k0, locs, X, eT, hS, hk, hZ, hown, r⟩ := X
  obtain ⟨hd, rfl⟩ := hd
  exact G.from fun t q => X.ldcI S.1 hown (mvT (s := x.s.setVm vm0) hZ w) (g := mkF x.m pc Ls st) rfl (S.2.1 ▸ hd) q
theorem g_ldcWI (X : Wk nw l Z EL own bytes maxL ret mnm R h0 B0 ws Q x T h B k n) {idx : Nat} {v : Int32} (hd : Dc bytes pc (.ldc_w idx) 3 pc') (w : (Cond.constant own idx v).before a0 Z = true) (G : Go x (T.setTop (mkF x.m pc' Ls (.int v :: st)))) : Go x (T.setTop (mkF x.m pc Ls st)) := by
  obtain ⟨S, vm0, k0, locs, X, eT, hS, hk, hZ, hown, r⟩ := X
  obtain ⟨hd, rfl⟩ := hd
  exact G.from fun t q => X.ldcWI S.1 hown (mvT (s := x.s.setVm vm0) hZ w) (g := mkF x.m pc Ls st) rfl (S.2.1 ▸ hd) q
theorem g_castY (X : Wk nw l Z EL own bytes maxL ret mnm R h0 B0 ws Q x T h B k n) {K : String} {idx : Nat} (hd : Dc bytes pc (.checkcast idx) 3 pc') (w : (Cond.classLink own idx K).before a0 Z = true) {a : Addr} (F : Ins Z h a K true)
    (K' : ∀ T', Wk nw l Z EL own bytes maxL ret mnm R h0 B0 ws Q x T' h B k n → Go x (T'.setTop (mkF x.m pc' Ls (.ref a :: st)))) : Go x (T.setTop (mkF x.m pc Ls (.ref a :: st))) := by
  obtain ⟨S, vm0, k0, locs, X, eT, hS, hk, hZ, hown, r⟩ := X
  obtain ⟨hd, rfl⟩ := hd
  obtain ⟨T', X', e', stp⟩ := castY X S.1 hZ hown w eT F (g := mkF x.m pc Ls (.ref a :: st)) rfl rfl (S.2.1 ▸ hd)
  exact (K' T' ⟨S, vm0, k0, locs, X', e', hS, hk, hZ, hown, r⟩).from stp
theorem g_instY (X : Wk nw l Z EL own bytes maxL ret mnm R h0 B0 ws Q x T h B k n) {K : String} {idx : Nat} (hd : Dc bytes pc (.instanceof idx) 3 pc') (w : (Cond.classLink own idx K).before a0 Z = true) {a : Addr} (F : Ins Z h a K true)
    (K' : ∀ T', Wk nw l Z EL own bytes maxL ret mnm R h0 B0 ws Q x T' h B k n → Go x (T'.setTop (mkF x.m pc' Ls (.int 1 :: st)))) : Go x (T.setTop (mkF x.m pc Ls (.ref a :: st))) := by
  obtain ⟨S, vm0, k0, locs, X, eT, hS, hk, hZ, hown, r⟩ := X
  obtain ⟨hd, rfl⟩ := hd
  obtain ⟨T', X', e', stp⟩ := instY X S.1 hZ hown w eT F (g := mkF x.m pc Ls (.ref a :: st)) rfl rfl (S.2.1 ▸ hd)
  exact (K' T' ⟨S, vm0, k0, locs, X', e', hS, hk, hZ, hown, r⟩).from stp
theorem g_instNo (X : Wk nw l Z EL own bytes maxL ret mnm R h0 B0 ws Q x T h B k n) {K C : String} {idx : Nat} (hd : Dc bytes pc (.instanceof idx) 3 pc') (w : (Cond.classLink own idx K).before a0 Z = true) {a : Addr} (E : Exa Z h a C) (F : ∃ c t, Z.vm.findClass C = some c ∧ Z.vm.findClass K = some t ∧ Z.vm.assignable c t = false)
    (K' : ∀ T', Wk nw l Z EL own bytes maxL ret mnm R h0 B0 ws Q x T' h B k n → Go x (T'.setTop (mkF x.m pc' Ls (.int 0 :: st)))) : Go x (T.setTop (mkF x.m pc Ls (.ref a :: st))) := by
  obtain ⟨S, vm0, k0, locs, X, eT, hS, hk, hZ, hown, r⟩ := X
  obtain ⟨hd, rfl⟩ := hd
  obtain ⟨T', X', e', stp⟩ := instNo X S.1 hZ hown w eT E F (g := mkF x.m pc Ls (.ref a :: st)) rfl rfl (S.2.1 ▸ hd)
  exact (K' T' ⟨S, vm0, k0, locs, X', e', hS, hk, hZ, hown, r⟩).from stp
theorem g_instNull (X : Wk nw l Z EL own bytes maxL ret mnm R h0 B0 ws Q x T h B k n) {idx : Nat} (hd : Dc bytes pc (.instanceof idx) 3 pc') (G : Go x (T.setTop (mkF x.m pc' Ls (.int 0 :: st)))) : Go x (T.setTop (mkF x.m pc Ls (.null :: st))) := by
  obtain ⟨S, vm0, k0, locs, X, eT, hS, hk, hZ, hown, r⟩ := X
  obtain ⟨hd, rfl⟩ := hd
  exact G.from fun t q => X.instanceofNull S.1 (g := mkF x.m pc Ls (.null :: st)) rfl rfl (S.2.1 ▸ hd) t q
theorem k_slice (vs : List Value) (d : Value) (sp nn : Nat) (h : sp + nn ≤ vs.length) : ((List.range nn).map fun i => vs.getD (sp + i) d) = (vs.drop sp).take nn := by
  refine List.ext_getElem (by simp; omega) fun i h1 h2 => ?_
  simp at h1
  simp [List.getD, List.getElem?_eq_getElem (show sp + i < vs.length by omega)]
theorem g_arraycopy (X : Wk nw l Z EL own bytes maxL ret mnm R h0 B0 ws Q x T h B k n) {idx : Nat} {y : MethodName} {ty : FieldType} {a b : Addr} {vs vd : List Value} (hd : Dc bytes pc (.invokestatic idx) 3 pc') (hy : y = Jvm.Stand.acN) (w1 : (Cond.methodLink own idx y).before a0 Z = true) (w2 : (Cond.native y).before a0 Z = true) (w3 : (Cond.static y).before a0 Z = true) (w4 : (Cond.initialized "java/lang/System").before a0 Z = true)
    (A : Ay Z h a ty vs) (D : Ay Z h b ty vd) (hp : refKind ty = false) (sp dp nn : Nat) (h4 : sp + nn ≤ vs.length) (h5 : dp + nn ≤ vd.length) {j1 j2 j3 : Int32} (e1 : j1 = Int32.ofNat sp) (e2 : j2 = Int32.ofNat dp) (e3 : j3 = Int32.ofNat nn) (hsz : Ls.size = maxL) (hB : ¬ B b) (hz : Z.heap.size ≤ b) (hw : b ∈ ws ∨ h0.size ≤ b)
    (W : Nat) (hW : (st.map fun v => v.category).sum ≤ W) (hf : 1 ≤ R.frames) (hl : W + (nativeFrameWords "java/lang/System" "arraycopy" 5 + 11) ≤ R.locals)
    (K : ∀ T' h', Wk nw l Z EL own bytes maxL ret mnm R h0 B0 ws Q x T' h' B k n → Keep h h' [b] → Ay Z h' b ty (vd.take dp ++ (vs.drop sp).take nn ++ vd.drop (dp + nn)) → Go x (T'.setTop (mkF x.m pc' Ls st))) : Go x (T.setTop (mkF x.m pc Ls (.int j3 :: .int j2 :: .ref b :: .int j1 :: .ref a :: st))) := by
  subst hy e1 e2 e3
  obtain ⟨S, vm0, k0, locs, X, eT, hS, hk, hZ, hown, hI, hFr, hK, hM, hN⟩ := X
  obtain ⟨hd, rfl⟩ := hd
  have la := A.len
  have lb := D.len
  obtain ⟨ka, A⟩ := A.arv (.int 0)
  obtain ⟨kb, D⟩ := D.arv (.int 0)
  obtain ⟨s1, s2⟩ := i32_nat (show sp < 2 ^ 31 by omega)
  obtain ⟨d1, d2⟩ := i32_nat (show dp < 2 ^ 31 by omega)
  obtain ⟨n1, n2⟩ := i32_nat (show nn < 2 ^ 31 by omega)
  have va : (vs.length.toInt32).toNatClampNeg = vs.length := (i32_nat la).1
  have vb : (vd.length.toInt32).toNatClampNeg = vd.length := (i32_nat lb).1
  obtain ⟨T', h', L, X', e', hL, K', D', stp⟩ := cpA X S.1 hZ hown w1 w2 w3 w4 eT A D (us := (List.range nn).map fun i => vs.getD (sp + i) (.int 0)) (Or.inl ⟨rfl, hp⟩) s2 d2 n2 (by rw [s1, n1, va]; exact h4) (by rw [d1, n1, vb]; exact h5) (by rw [s1, n1]) (by rw [d1, n1]; exact h5) hFr hz (g := mkF x.m pc Ls (.int (Int32.ofNat nn) :: .int (Int32.ofNat dp) :: .ref b :: .int (Int32.ofNat sp) :: .ref a :: st)) rfl (by rw [S.2.2.1]; exact hsz) rfl (S.2.1 ▸ hd) hf (W := W) (by show 2 * 0 + _ ≤ _; omega) hl
  rw [d1, n1, k_slice vs _ sp nn h4] at D'
  refine (K T' h' ⟨S, vm0, k0, L, X', e', hS, Nat.le_trans hk K'.1, hZ, hown, hI.keep K' (fun y q => by cases List.mem_singleton.mp q; exact ⟨hB, hz⟩), hL, hK.trans K' (fun y q => by cases List.mem_singleton.mp q; exact hw), hM, hN⟩ K' (Ay.of_arv D' ?_)).from stp
  rw [vb]; simp; omega
end Calls
/-! own kit, part 5: numbers and Strings -/
theorem k_inc (i : Nat) : Int32.ofNat i + Int32.ofInt 1 = Int32.ofNat (i + 1) := (inc_ofNat i).symm
theorem k_ofNat {i : Nat} (h : i < 2 ^ 31) : (Int32.ofNat i).toInt = i := Int32.toInt_ofNat_small h
theorem k_lt {i j : Nat} (h : i < j) (hj : j < 2 ^ 31) : Int32.ofNat i < Int32.ofNat j := by
  rw [Int32.lt_iff_toInt_lt, k_ofNat (by omega), k_ofNat hj]; omega
theorem k_nlt {i j : Nat} (h : j ≤ i) (hi : i < 2 ^ 31) : ¬ Int32.ofNat i < Int32.ofNat j := by
  rw [Int32.lt_iff_toInt_lt, k_ofNat hi, k_ofNat (by omega)]; omega
theorem k_eqn {i j : Nat} (hi : i < 2 ^ 31) (hj : j < 2 ^ 31) : Int32.ofNat i = Int32.ofNat j ↔ i = j := by
  rw [← Int32.toInt_inj, k_ofNat hi, k_ofNat hj]; omega
theorem k_sub {i j : Nat} (h : j ≤ i) : Int32.ofNat i - Int32.ofNat j = Int32.ofNat (i - j) := by
  have e : i = (i - j) + j := by omega
  rw [e, Int32.ofNat_add]
  simp
/-- the low byte, signed -/
def lo8 (c : Int32) : Int32 := c.toInt8.toInt32
theorem nar_b8 (c : Int32) : RoadKit.nar .byte (lo8 c) = lo8 c := by simp [RoadKit.nar, lo8]
theorem fit_b8 (c : Int32) : fits .byte (.int (lo8 c)) = true := fits_nar_byte c
/-- a String: its coder, its bytes; all of it lies under N -/
def Str (Z : State) (h : Heap) (N : Nat) (a : Addr) (cd : Int32) (bs : List Int32) : Prop :=
  ∃ t : Addr, @LT.lt Nat _ a N ∧ @LT.lt Nat _ t N ∧ Exa Z h a "java/lang/String" ∧ Fld Z h a "java/lang/String" "coder" "B" (.int cd) ∧ Fld Z h a "java/lang/String" "value" "[B" (.ref t) ∧ Ay Z h t .byte (bs.map Value.int)
theorem Str.keep {Z : State} {h h' : Heap} {N : Nat} {a : Addr} {cd : Int32} {bs : List Int32} {ws : List Addr} (S : Str Z h N a cd bs) (K : Keep h h' ws) (q : ∀ z ∈ ws, N ≤ z) : Str Z h' N a cd bs := by
  obtain ⟨t, l1, l2, e, f, g, r⟩ := S
  have n1 : a ∉ ws := fun z => absurd l1 (Nat.not_lt.mpr (q a z))
  have n2 : t ∉ ws := fun z => absurd l2 (Nat.not_lt.mpr (q t z))
  exact ⟨t, l1, l2, e.keep K, f.keep K n1, g.keep K n1, r.keep K n2⟩
theorem Str.ext {Z : State} {h h' : Heap} {N : Nat} {a : Addr} {cd : Int32} {bs : List Int32} (S : Str Z h N a cd bs) (E : Ext h h') : Str Z h' N a cd bs := S.keep ((Keep.refl h []).ext E) (fun _ q => nomatch q)
theorem Str.mono {Z : State} {h : Heap} {N N' : Nat} {a : Addr} {cd : Int32} {bs : List Int32} (S : Str Z h N a cd bs) (q : N ≤ N') : Str Z h N' a cd bs := by
  obtain ⟨t, l1, l2, r⟩ := S; exact ⟨t, Nat.lt_of_lt_of_le l1 q, Nat.lt_of_lt_of_le l2 q, r⟩
theorem Str.exa {Z : State} {h : Heap} {N : Nat} {a : Addr} {cd : Int32} {bs : List Int32} (S : Str Z h N a cd bs) : Exa Z h a "java/lang/String" := by obtain ⟨t, l1, l2, e, r⟩ := S; exact e
theorem Str.lt {Z : State} {h : Heap} {N : Nat} {a : Addr} {cd : Int32} {bs : List Int32} (S : Str Z h N a cd bs) : @LT.lt Nat _ a N := by obtain ⟨t, l1, r⟩ := S; exact l1
theorem Str.len {Z : State} {h : Heap} {N : Nat} {a : Addr} {cd : Int32} {bs : List Int32} (S : Str Z h N a cd bs) : bs.length < 2 ^ 31 := by obtain ⟨t, l1, l2, e, f, g, A⟩ := S; simpa using A.len
theorem k_fill (cs : List Int32) (f : Int32 → Int32) (i : Nat) (hi : i < cs.length) :
    (((cs.take i).map (fun c => Value.int (f c)) ++ List.replicate (cs.length - i) (Value.int 0)).set i (.int (f cs[i]))) = (cs.take (i + 1)).map (fun c => Value.int (f c)) ++ List.replicate (cs.length - (i + 1)) (Value.int 0) := by
  have e1 : ((cs.take i).map (fun c => Value.int (f c))).length = i := by simp; omega
  have e2 : cs.length - i = (cs.length - (i + 1)) + 1 := by omega
  rw [e2, List.replicate_succ, List.take_succ_eq_append_getElem hi, List.map_append]
  generalize (cs.take i).map (fun c => Value.int (f c)) = P at e1
  rw [List.set_append_right _ _ (by omega)]
  simp [e1]
/-- a String that is read -/
def StrV (Z : State) (h : Heap) (a : Addr) (cd : Int32) (bs : List Int32) : Prop :=
  ∃ t, Exa Z h a "java/lang/String" ∧ Fld Z h a "java/lang/String" "coder" "B" (.int cd) ∧ Fld Z h a "java/lang/String" "value" "[B" (.ref t) ∧ Ay Z h t .byte (bs.map Value.int)
theorem StrV.op {Z : State} {h : Heap} {a : Addr} {cd : Int32} {bs : List Int32} (S : StrV Z h a cd bs) : ∃ t, Exa Z h a "java/lang/String" ∧ Fld Z h a "java/lang/String" "coder" "B" (.int cd) ∧ Fld Z h a "java/lang/String" "value" "[B" (.ref t) ∧ Ay Z h t .byte (bs.map Value.int) := S
theorem Str.v {Z : State} {h : Heap} {N : Nat} {a : Addr} {cd : Int32} {bs : List Int32} (S : Str Z h N a cd bs) : StrV Z h a cd bs := by obtain ⟨t, -, -, r⟩ := S; exact ⟨t, r⟩
theorem Fld.uniq {Z : State} {h : Heap} {a : Addr} {C n d : String} {v w : Value} (F : Fld Z h a C n d v) (G : Fld Z h a C n d w) : v = w := by
  rcases Classical.em (v = w) with q | q
  · exact q
  · exact absurd rfl (F.ne G q)
theorem Ay.uniq {Z : State} {h : Heap} {a : Addr} {ty ty' : FieldType} {vs us : List Value} (F : Ay Z h a ty vs) (G : Ay Z h a ty' us) : vs = us := by
  obtain ⟨c, A, e, -⟩ := F
  obtain ⟨c', A', e', -⟩ := G
  cases A.1.symm.trans A'.1
  exact e.symm.trans e'
theorem StrV.uniq {Z : State} {h : Heap} {a : Addr} {cd cd' : Int32} {bs bs' : List Int32} (S : StrV Z h a cd bs) (S' : StrV Z h a cd' bs') : bs = bs' := by
  obtain ⟨t, -, -, f, A⟩ := S
  obtain ⟨t', -, -, f', A'⟩ := S'
  cases Value.ref.inj (Fld.uniq f f')
  have := A.uniq A'
  exact (List.map_inj_right (fun a b q => Value.int.inj q)).mp this
theorem StrV.len {Z : State} {h : Heap} {a : Addr} {cd : Int32} {bs : List Int32} (S : StrV Z h a cd bs) : bs.length < 2 ^ 31 := by obtain ⟨t, -, -, -, A⟩ := S; simpa using A.len
theorem k_shr0 (x : Int32) : x >>> ((0 : Int32) &&& 31) = x := by
  have : ((0 : Int32) &&& 31) = 0 := by decide
  rw [this]
  apply Int32.toBitVec_inj.mp
  simp
/-- an object of the class C (below Object alone) is none of K -/
theorem k_not {Z : State} {a0 : Array Value} {C K O : String} {n : Nat} (w : (Cond.superclass C O).before a0 Z = true) (wo : (Cond.noSuperclass O).before a0 Z = true) (wk : (Cond.instantiable K n).before a0 Z = true) (h1 : C ≠ K) (h2 : O ≠ K) : ∃ c t, Z.vm.findClass C = some c ∧ Z.vm.findClass K = some t ∧ Z.vm.assignable c t = false := by
  obtain ⟨t, k', g0, g2, g5, hi⟩ : ∃ t k', Z.vm.findClass K = some t ∧ Z.vm.classes[t]? = some k' ∧ k'.kind = .ordinary ∧ k'.isInterface = false := by
    obtain ⟨t, k', g1, g2, g3, g4, -⟩ := Cond.instantiable_spec wk
    exact ⟨t, k', g1, g2, g3, by simpa using (Bool.or_eq_false_iff.mp g4).1⟩
  obtain ⟨co, ko, o1, o2, o3, -, -⟩ := Cond.noSuperclass_spec wo
  obtain ⟨c, h0⟩ := found_sup w
  obtain ⟨p, k, kp, q1, q2, q3, q4, q5, -, q7⟩ := Cond.superclass_spec h0 w
  cases o1.symm.trans q1
  have ne := ids_ne h0 g0 h1
  have neo := ids_ne o1 g0 h2
  have no : ∀ fuel, Z.vm.isSubclassAux fuel co t = false := fun fuel => by
    cases fuel with
    | zero => rfl
    | succ f => simp [Vm.isSubclassAux, neo, o2, o3]
  have nc : ∀ fuel, Z.vm.isSubclassAux fuel c t = false := fun fuel => by
    cases fuel with
    | zero => rfl
    | succ f => simp [Vm.isSubclassAux, ne, q2, q4, no]
  refine ⟨c, t, h0, g0, ?_⟩
  show Z.vm.assignableAux (255 + 1) c t = false
  simp [Vm.assignableAux, ne, q2, g2, q5, g5, hi, Vm.isSubclass, nc]
theorem k_nn {i : Nat} (h : i < 2 ^ 31) : ¬ Int32.ofNat i < 0 := (i32_nat h).2
theorem k_ne0 {i : Nat} (h : 0 < i) (hi : i < 2 ^ 31) : ¬ Int32.ofNat i = 0 := fun q => by
  have := (k_eqn hi (by decide)).mp (show Int32.ofNat i = Int32.ofNat 0 from q)
  omega
theorem k_add (i j : Nat) : Int32.ofNat i + Int32.ofNat j = Int32.ofNat (i + j) := (Int32.ofNat_add i j).symm
theorem k_min {i j : Nat} (h : j ≤ i) (hi : i < 2 ^ 31) : (if Int32.ofNat j < Int32.ofNat i then Int32.ofNat j else Int32.ofNat i) = Int32.ofNat j := by
  rcases Nat.lt_or_ge j i with q | q
  · rw [if_pos (k_lt q hi)]
  · have : i = j := by omega
    subst this
    split <;> rfl
abbrev HW (Z : State) (a0 : Array Value) : Prop := ∀ d ∈ tables_1, d.before a0 Z = true
theorem w0 {Z : State} {a0 : Array Value} (hw : HW Z a0) : ((Jvm.Cond.methodLink "com/example/lease/lease/KeyEqualsPinLaw" (16 : Nat) ({ cls := "com/example/lease/lease/KeyEqualsPinLaw", name := "mk", desc := "(ICC)Ljava/lang/String;" } : Jvm.MethodName))).before a0 Z = true := hw _ (List.mem_of_getElem? (i := 0) rfl)
theorem w1 {Z : State} {a0 : Array Value} (hw : HW Z a0) : ((Jvm.Cond.static ({ cls := "com/example/lease/lease/KeyEqualsPinLaw", name := "mk", desc := "(ICC)Ljava/lang/String;" } : Jvm.MethodName))).before a0 Z = true := hw _ (List.mem_of_getElem? (i := 1) rfl)
theorem w2 {Z : State} {a0 : Array Value} (hw : HW Z a0) : ((Jvm.Cond.initialized "com/example/lease/lease/KeyEqualsPinLaw")).before a0 Z = true := hw _ (List.mem_of_getElem? (i := 2) rfl)
theorem w3 {Z : State} {a0 : Array Value} (hw : HW Z a0) : ((Jvm.Cond.code ({ cls := "com/example/lease/lease/KeyEqualsPinLaw", name := "mk", desc := "(ICC)Ljava/lang/String;" } : Jvm.MethodName) method_2_code (3 : Nat) (Option.some (Jvm.ClassFile.FieldType.object "java/lang/String")))).before a0 Z = true := hw _ (List.mem_of_getElem? (i := 3) rfl)
theorem w4 {Z : State} {a0 : Array Value} (hw : HW Z a0) : ((Jvm.Cond.classLink "com/example/lease/lease/KeyEqualsPinLaw" (7 : Nat) "java/lang/String")).before a0 Z = true := hw _ (List.mem_of_getElem? (i := 4) rfl)
theorem w5 {Z : State} {a0 : Array Value} (hw : HW Z a0) : ((Jvm.Cond.instantiable "java/lang/String" (4 : Nat))).before a0 Z = true := hw _ (List.mem_of_getElem? (i := 5) rfl)
theorem w6 {Z : State} {a0 : Array Value} (hw : HW Z a0) : ((Jvm.Cond.initialized "java/lang/String")).before a0 Z = true := hw _ (List.mem_of_getElem? (i := 6) rfl)
theorem w7 {Z : State} {a0 : Array Value} (hw : HW Z a0) : ((Jvm.Cond.arrayClass Jvm.ClassFile.FieldType.char)).before a0 Z = true := hw _ (List.mem_of_getElem? (i := 7) rfl)
theorem w8 {Z : State} {a0 : Array Value} (hw : HW Z a0) : ((Jvm.Cond.methodLink "com/example/lease/lease/KeyEqualsPinLaw" (9 : Nat) ({ cls := "java/lang/String", name := "<init>", desc := "([C)V" } : Jvm.MethodName))).before a0 Z = true := hw _ (List.mem_of_getElem? (i := 8) rfl)
theorem w9 {Z : State} {a0 : Array Value} (hw : HW Z a0) : ((Jvm.Cond.instanceMethod ({ cls := "java/lang/String", name := "<init>", desc := "([C)V" } : Jvm.MethodName))).before a0 Z = true := hw _ (List.mem_of_getElem? (i := 9) rfl)
theorem w10 {Z : State} {a0 : Array Value} (hw : HW Z a0) : ((Jvm.Cond.code ({ cls := "java/lang/String", name := "<init>", desc := "([C)V" } : Jvm.MethodName) jdk_42_method_3_code (2 : Nat) (Option.none : Option Jvm.ClassFile.FieldType))).before a0 Z = true := hw _ (List.mem_of_getElem? (i := 10) rfl)
theorem w11 {Z : State} {a0 : Array Value} (hw : HW Z a0) : ((Jvm.Cond.methodLink "java/lang/String" (27 : Nat) ({ cls := "java/lang/String", name := "<init>", desc := "([CIILjava/lang/Void;)V" } : Jvm.MethodName))).before a0 Z = true := hw _ (List.mem_of_getElem? (i := 11) rfl)
theorem w12 {Z : State} {a0 : Array Value} (hw : HW Z a0) : ((Jvm.Cond.instanceMethod ({ cls := "java/lang/String", name := "<init>", desc := "([CIILjava/lang/Void;)V" } : Jvm.MethodName))).before a0 Z = true := hw _ (List.mem_of_getElem? (i := 12) rfl)
theorem w14 {Z : State} {a0 : Array Value} (hw : HW Z a0) : ((Jvm.Cond.code ({ cls := "java/lang/String", name := "<init>", desc := "([CIILjava/lang/Void;)V" } : Jvm.MethodName) jdk_42_method_149_code (6 : Nat) (Option.none : Option Jvm.ClassFile.FieldType))).before a0 Z = true := hw _ (List.mem_of_getElem? (i := 14) rfl)
theorem w15 {Z : State} {a0 : Array Value} (hw : HW Z a0) : ((Jvm.Cond.methodLink "java/lang/String" (1 : Nat) ({ cls := "java/lang/Object", name := "<init>", desc := "()V" } : Jvm.MethodName))).before a0 Z = true := hw _ (List.mem_of_getElem? (i := 15) rfl)
theorem w16 {Z : State} {a0 : Array Value} (hw : HW Z a0) : ((Jvm.Cond.instanceMethod ({ cls := "java/lang/Object", name := "<init>", desc := "()V" } : Jvm.MethodName))).before a0 Z = true := hw _ (List.mem_of_getElem? (i := 16) rfl)
theorem w17 {Z : State} {a0 : Array Value} (hw : HW Z a0) : ((Jvm.Cond.code ({ cls := "java/lang/Object", name := "<init>", desc := "()V" } : Jvm.MethodName) object_method_1_code (1 : Nat) (Option.none : Option Jvm.ClassFile.FieldType))).before a0 Z = true := hw _ (List.mem_of_getElem? (i := 17) rfl)
theorem w18 {Z : State} {a0 : Array Value} (hw : HW Z a0) : ((Jvm.Cond.fieldLink "java/lang/String" (38 : Nat) "java/lang/String" "COMPACT_STRINGS" "Z")).before a0 Z = true := hw _ (List.mem_of_getElem? (i := 18) rfl)
theorem w19 {Z : State} {a0 : Array Value} (hw : HW Z a0) : ((Jvm.Cond.methodLink "java/lang/String" (177 : Nat) ({ cls := "java/lang/StringUTF16", name := "compress", desc := "([CII)[B" } : Jvm.MethodName))).before a0 Z = true := hw _ (List.mem_of_getElem? (i := 19) rfl)
theorem w20 {Z : State} {a0 : Array Value} (hw : HW Z a0) : ((Jvm.Cond.static ({ cls := "java/lang/StringUTF16", name := "compress", desc := "([CII)[B" } : Jvm.MethodName))).before a0 Z = true := hw _ (List.mem_of_getElem? (i := 20) rfl)
theorem w21 {Z : State} {a0 : Array Value} (hw : HW Z a0) : ((Jvm.Cond.initialized "java/lang/StringUTF16")).before a0 Z = true := hw _ (List.mem_of_getElem? (i := 21) rfl)
theorem w22 {Z : State} {a0 : Array Value} (hw : HW Z a0) : ((Jvm.Cond.code ({ cls := "java/lang/StringUTF16", name := "compress", desc := "([CII)[B" } : Jvm.MethodName) jdk_52_method_16_code (6 : Nat) (Option.some (Jvm.ClassFile.FieldType.array Jvm.ClassFile.FieldType.byte)))).before a0 Z = true := hw _ (List.mem_of_getElem? (i := 22) rfl)
theorem w23 {Z : State} {a0 : Array Value} (hw : HW Z a0) : ((Jvm.Cond.arrayClass Jvm.ClassFile.FieldType.byte)).before a0 Z = true := hw _ (List.mem_of_getElem? (i := 23) rfl)
theorem w24 {Z : State} {a0 : Array Value} (hw : HW Z a0) : ((Jvm.Cond.methodLink "java/lang/StringUTF16" (115 : Nat) ({ cls := "java/lang/StringUTF16", name := "compress", desc := "([CI[BII)I" } : Jvm.MethodName))).before a0 Z = true := hw _ (List.mem_of_getElem? (i := 24) rfl)
theorem w25 {Z : State} {a0 : Array Value} (hw : HW Z a0) : ((Jvm.Cond.static ({ cls := "java/lang/StringUTF16", name := "compress", desc := "([CI[BII)I" } : Jvm.MethodName))).before a0 Z = true := hw _ (List.mem_of_getElem? (i := 25) rfl)
theorem w26 {Z : State} {a0 : Array Value} (hw : HW Z a0) : ((Jvm.Cond.code ({ cls := "java/lang/StringUTF16", name := "compress", desc := "([CI[BII)I" } : Jvm.MethodName) jdk_52_method_21_code (7 : Nat) (Option.some Jvm.ClassFile.FieldType.int))).before a0 Z = true := hw _ (List.mem_of_getElem? (i := 26) rfl)
theorem w27 {Z : State} {a0 : Array Value} (hw : HW Z a0) : ((Jvm.Cond.methodLink "java/lang/String" (47 : Nat) ({ cls := "java/lang/StringUTF16", name := "coderFromArrayLen", desc := "([BI)B" } : Jvm.MethodName))).before a0 Z = true := hw _ (List.mem_of_getElem? (i := 27) rfl)
theorem w28 {Z : State} {a0 : Array Value} (hw : HW Z a0) : ((Jvm.Cond.static ({ cls := "java/lang/StringUTF16", name := "coderFromArrayLen", desc := "([BI)B" } : Jvm.MethodName))).before a0 Z = true := hw _ (List.mem_of_getElem? (i := 28) rfl)
theorem w29 {Z : State} {a0 : Array Value} (hw : HW Z a0) : ((Jvm.Cond.code ({ cls := "java/lang/StringUTF16", name := "coderFromArrayLen", desc := "([BI)B" } : Jvm.MethodName) jdk_52_method_15_code (2 : Nat) (Option.some Jvm.ClassFile.FieldType.byte))).before a0 Z = true := hw _ (List.mem_of_getElem? (i := 29) rfl)
theorem w30 {Z : State} {a0 : Array Value} (hw : HW Z a0) : ((Jvm.Cond.fieldLink "java/lang/String" (15 : Nat) "java/lang/String" "coder" "B")).before a0 Z = true := hw _ (List.mem_of_getElem? (i := 30) rfl)
theorem w31 {Z : State} {a0 : Array Value} (hw : HW Z a0) : ((Jvm.Cond.laysFinal "java/lang/String" "java/lang/String" "coder" "B")).before a0 Z = true := hw _ (List.mem_of_getElem? (i := 31) rfl)
theorem w32 {Z : State} {a0 : Array Value} (hw : HW Z a0) : ((Jvm.Cond.fieldLink "java/lang/String" (9 : Nat) "java/lang/String" "value" "[B")).before a0 Z = true := hw _ (List.mem_of_getElem? (i := 32) rfl)
theorem w33 {Z : State} {a0 : Array Value} (hw : HW Z a0) : ((Jvm.Cond.laysFinal "java/lang/String" "java/lang/String" "value" "[B")).before a0 Z = true := hw _ (List.mem_of_getElem? (i := 33) rfl)
theorem w34 {Z : State} {a0 : Array Value} (hw : HW Z a0) : ((Jvm.Cond.stringLink "java/lang/String" (7 : Nat) "")).before a0 Z = true := hw _ (List.mem_of_getElem? (i := 34) rfl)
theorem w35 {Z : State} {a0 : Array Value} (hw : HW Z a0) : ((Jvm.Cond.soleField "java/lang/String" "value")).before a0 Z = true := hw _ (List.mem_of_getElem? (i := 35) rfl)
theorem w36 {Z : State} {a0 : Array Value} (hw : HW Z a0) : ((Jvm.Cond.soleField "java/lang/String" "coder")).before a0 Z = true := hw _ (List.mem_of_getElem? (i := 36) rfl)
theorem w37 {Z : State} {a0 : Array Value} (hw : HW Z a0) : ((Jvm.Cond.classLink "com/example/lease/lease/KeyEqualsPinLaw" (22 : Nat) "com/example/lease/lease/Holds$Key")).before a0 Z = true := hw _ (List.mem_of_getElem? (i := 37) rfl)
theorem w38 {Z : State} {a0 : Array Value} (hw : HW Z a0) : ((Jvm.Cond.instantiable "com/example/lease/lease/Holds$Key" (2 : Nat))).before a0 Z = true := hw _ (List.mem_of_getElem? (i := 38) rfl)
theorem w39 {Z : State} {a0 : Array Value} (hw : HW Z a0) : ((Jvm.Cond.initialized "com/example/lease/lease/Holds$Key")).before a0 Z = true := hw _ (List.mem_of_getElem? (i := 39) rfl)
theorem w40 {Z : State} {a0 : Array Value} (hw : HW Z a0) : ((Jvm.Cond.methodLink "com/example/lease/lease/KeyEqualsPinLaw" (24 : Nat) ({ cls := "com/example/lease/lease/Holds$Key", name := "<init>", desc := "(Ljava/lang/String;J)V" } : Jvm.MethodName))).before a0 Z = true := hw _ (List.mem_of_getElem? (i := 40) rfl)
theorem w41 {Z : State} {a0 : Array Value} (hw : HW Z a0) : ((Jvm.Cond.instanceMethod ({ cls := "com/example/lease/lease/Holds$Key", name := "<init>", desc := "(Ljava/lang/String;J)V" } : Jvm.MethodName))).before a0 Z = true := hw _ (List.mem_of_getElem? (i := 41) rfl)
theorem w42 {Z : State} {a0 : Array Value} (hw : HW Z a0) : ((Jvm.Cond.code ({ cls := "com/example/lease/lease/Holds$Key", name := "<init>", desc := "(Ljava/lang/String;J)V" } : Jvm.MethodName) prog_5_method_1_code (4 : Nat) (Option.none : Option Jvm.ClassFile.FieldType))).before a0 Z = true := hw _ (List.mem_of_getElem? (i := 42) rfl)
theorem w43 {Z : State} {a0 : Array Value} (hw : HW Z a0) : ((Jvm.Cond.methodLink "com/example/lease/lease/Holds$Key" (1 : Nat) ({ cls := "java/lang/Object", name := "<init>", desc := "()V" } : Jvm.MethodName))).before a0 Z = true := hw _ (List.mem_of_getElem? (i := 43) rfl)
theorem w44 {Z : State} {a0 : Array Value} (hw : HW Z a0) : ((Jvm.Cond.fieldLink "com/example/lease/lease/Holds$Key" (7 : Nat) "com/example/lease/lease/Holds$Key" "lockName" "Ljava/lang/String;")).before a0 Z = true := hw _ (List.mem_of_getElem? (i := 44) rfl)
theorem w45 {Z : State} {a0 : Array Value} (hw : HW Z a0) : ((Jvm.Cond.laysFinal "com/example/lease/lease/Holds$Key" "com/example/lease/lease/Holds$Key" "lockName" "Ljava/lang/String;")).before a0 Z = true := hw _ (List.mem_of_getElem? (i := 45) rfl)
theorem w46 {Z : State} {a0 : Array Value} (hw : HW Z a0) : ((Jvm.Cond.fieldLink "com/example/lease/lease/Holds$Key" (13 : Nat) "com/example/lease/lease/Holds$Key" "threadId" "J")).before a0 Z = true := hw _ (List.mem_of_getElem? (i := 46) rfl)
theorem w47 {Z : State} {a0 : Array Value} (hw : HW Z a0) : ((Jvm.Cond.laysFinal "com/example/lease/lease/Holds$Key" "com/example/lease/lease/Holds$Key" "threadId" "J")).before a0 Z = true := hw _ (List.mem_of_getElem? (i := 47) rfl)
theorem w48 {Z : State} {a0 : Array Value} (hw : HW Z a0) : ((Jvm.Cond.methodLink "com/example/lease/lease/KeyEqualsPinLaw" (27 : Nat) ({ cls := "com/example/lease/lease/Holds$Key", name := "equals", desc := "(Ljava/lang/Object;)Z" } : Jvm.MethodName))).before a0 Z = true := hw _ (List.mem_of_getElem? (i := 48) rfl)
theorem w49 {Z : State} {a0 : Array Value} (hw : HW Z a0) : ((Jvm.Cond.declares ({ cls := "com/example/lease/lease/Holds$Key", name := "equals", desc := "(Ljava/lang/Object;)Z" } : Jvm.MethodName))).before a0 Z = true := hw _ (List.mem_of_getElem? (i := 49) rfl)
theorem w50 {Z : State} {a0 : Array Value} (hw : HW Z a0) : ((Jvm.Cond.instanceMethod ({ cls := "com/example/lease/lease/Holds$Key", name := "equals", desc := "(Ljava/lang/Object;)Z" } : Jvm.MethodName))).before a0 Z = true := hw _ (List.mem_of_getElem? (i := 50) rfl)
theorem w51 {Z : State} {a0 : Array Value} (hw : HW Z a0) : ((Jvm.Cond.selects "com/example/lease/lease/Holds$Key" ({ cls := "com/example/lease/lease/Holds$Key", name := "equals", desc := "(Ljava/lang/Object;)Z" } : Jvm.MethodName) ({ cls := "com/example/lease/lease/Holds$Key", name := "equals", desc := "(Ljava/lang/Object;)Z" } : Jvm.MethodName))).before a0 Z = true := hw _ (List.mem_of_getElem? (i := 51) rfl)
theorem w52 {Z : State} {a0 : Array Value} (hw : HW Z a0) : ((Jvm.Cond.code ({ cls := "com/example/lease/lease/Holds$Key", name := "equals", desc := "(Ljava/lang/Object;)Z" } : Jvm.MethodName) prog_5_method_4_code (3 : Nat) (Option.some Jvm.ClassFile.FieldType.boolean))).before a0 Z = true := hw _ (List.mem_of_getElem? (i := 52) rfl)
theorem w53 {Z : State} {a0 : Array Value} (hw : HW Z a0) : ((Jvm.Cond.classLink "com/example/lease/lease/Holds$Key" (8 : Nat) "com/example/lease/lease/Holds$Key")).before a0 Z = true := hw _ (List.mem_of_getElem? (i := 53) rfl)
theorem w55 {Z : State} {a0 : Array Value} (hw : HW Z a0) : ((Jvm.Cond.methodLink "com/example/lease/lease/Holds$Key" (17 : Nat) ({ cls := "java/lang/String", name := "equals", desc := "(Ljava/lang/Object;)Z" } : Jvm.MethodName))).before a0 Z = true := hw _ (List.mem_of_getElem? (i := 55) rfl)
theorem w56 {Z : State} {a0 : Array Value} (hw : HW Z a0) : ((Jvm.Cond.declares ({ cls := "java/lang/String", name := "equals", desc := "(Ljava/lang/Object;)Z" } : Jvm.MethodName))).before a0 Z = true := hw _ (List.mem_of_getElem? (i := 56) rfl)
theorem w57 {Z : State} {a0 : Array Value} (hw : HW Z a0) : ((Jvm.Cond.instanceMethod ({ cls := "java/lang/String", name := "equals", desc := "(Ljava/lang/Object;)Z" } : Jvm.MethodName))).before a0 Z = true := hw _ (List.mem_of_getElem? (i := 57) rfl)
theorem w58 {Z : State} {a0 : Array Value} (hw : HW Z a0) : ((Jvm.Cond.selects "java/lang/String" ({ cls := "java/lang/String", name := "equals", desc := "(Ljava/lang/Object;)Z" } : Jvm.MethodName) ({ cls := "java/lang/String", name := "equals", desc := "(Ljava/lang/Object;)Z" } : Jvm.MethodName))).before a0 Z = true := hw _ (List.mem_of_getElem? (i := 58) rfl)
theorem w59 {Z : State} {a0 : Array Value} (hw : HW Z a0) : ((Jvm.Cond.code ({ cls := "java/lang/String", name := "equals", desc := "(Ljava/lang/Object;)Z" } : Jvm.MethodName) jdk_42_method_66_code (3 : Nat) (Option.some Jvm.ClassFile.FieldType.boolean))).before a0 Z = true := hw _ (List.mem_of_getElem? (i := 59) rfl)
theorem w60 {Z : State} {a0 : Array Value} (hw : HW Z a0) : ((Jvm.Cond.superclass "java/lang/String" "java/lang/Object")).before a0 Z = true := hw _ (List.mem_of_getElem? (i := 60) rfl)
theorem w61 {Z : State} {a0 : Array Value} (hw : HW Z a0) : ((Jvm.Cond.noSuperclass "java/lang/Object")).before a0 Z = true := hw _ (List.mem_of_getElem? (i := 61) rfl)
theorem w62 {Z : State} {a0 : Array Value} (hw : HW Z a0) : ((Jvm.Cond.methodLink "com/example/lease/lease/KeyEqualsPinLaw" (12 : Nat) ({ cls := "java/lang/String", name := "valueOf", desc := "(C)Ljava/lang/String;" } : Jvm.MethodName))).before a0 Z = true := hw _ (List.mem_of_getElem? (i := 62) rfl)
theorem w63 {Z : State} {a0 : Array Value} (hw : HW Z a0) : ((Jvm.Cond.static ({ cls := "java/lang/String", name := "valueOf", desc := "(C)Ljava/lang/String;" } : Jvm.MethodName))).before a0 Z = true := hw _ (List.mem_of_getElem? (i := 63) rfl)
theorem w64 {Z : State} {a0 : Array Value} (hw : HW Z a0) : ((Jvm.Cond.code ({ cls := "java/lang/String", name := "valueOf", desc := "(C)Ljava/lang/String;" } : Jvm.MethodName) jdk_42_method_139_code (1 : Nat) (Option.some (Jvm.ClassFile.FieldType.object "java/lang/String")))).before a0 Z = true := hw _ (List.mem_of_getElem? (i := 64) rfl)
theorem w65 {Z : State} {a0 : Array Value} (hw : HW Z a0) : ((Jvm.Cond.methodLink "java/lang/String" (1015 : Nat) ({ cls := "java/lang/StringLatin1", name := "canEncode", desc := "(C)Z" } : Jvm.MethodName))).before a0 Z = true := hw _ (List.mem_of_getElem? (i := 65) rfl)
theorem w66 {Z : State} {a0 : Array Value} (hw : HW Z a0) : ((Jvm.Cond.static ({ cls := "java/lang/StringLatin1", name := "canEncode", desc := "(C)Z" } : Jvm.MethodName))).before a0 Z = true := hw _ (List.mem_of_getElem? (i := 66) rfl)
theorem w67 {Z : State} {a0 : Array Value} (hw : HW Z a0) : ((Jvm.Cond.initialized "java/lang/StringLatin1")).before a0 Z = true := hw _ (List.mem_of_getElem? (i := 67) rfl)
theorem w68 {Z : State} {a0 : Array Value} (hw : HW Z a0) : ((Jvm.Cond.code ({ cls := "java/lang/StringLatin1", name := "canEncode", desc := "(C)Z" } : Jvm.MethodName) jdk_43_method_3_code (1 : Nat) (Option.some Jvm.ClassFile.FieldType.boolean))).before a0 Z = true := hw _ (List.mem_of_getElem? (i := 68) rfl)
theorem w69 {Z : State} {a0 : Array Value} (hw : HW Z a0) : ((Jvm.Cond.classLink "java/lang/String" (10 : Nat) "java/lang/String")).before a0 Z = true := hw _ (List.mem_of_getElem? (i := 69) rfl)
theorem w70 {Z : State} {a0 : Array Value} (hw : HW Z a0) : ((Jvm.Cond.methodLink "java/lang/String" (1018 : Nat) ({ cls := "java/lang/StringLatin1", name := "toBytes", desc := "(C)[B" } : Jvm.MethodName))).before a0 Z = true := hw _ (List.mem_of_getElem? (i := 70) rfl)
theorem w71 {Z : State} {a0 : Array Value} (hw : HW Z a0) : ((Jvm.Cond.static ({ cls := "java/lang/StringLatin1", name := "toBytes", desc := "(C)[B" } : Jvm.MethodName))).before a0 Z = true := hw _ (List.mem_of_getElem? (i := 71) rfl)
theorem w72 {Z : State} {a0 : Array Value} (hw : HW Z a0) : ((Jvm.Cond.code ({ cls := "java/lang/StringLatin1", name := "toBytes", desc := "(C)[B" } : Jvm.MethodName) jdk_43_method_46_code (1 : Nat) (Option.some (Jvm.ClassFile.FieldType.array Jvm.ClassFile.FieldType.byte)))).before a0 Z = true := hw _ (List.mem_of_getElem? (i := 72) rfl)
theorem w73 {Z : State} {a0 : Array Value} (hw : HW Z a0) : ((Jvm.Cond.methodLink "java/lang/String" (209 : Nat) ({ cls := "java/lang/String", name := "<init>", desc := "([BB)V" } : Jvm.MethodName))).before a0 Z = true := hw _ (List.mem_of_getElem? (i := 73) rfl)
theorem w74 {Z : State} {a0 : Array Value} (hw : HW Z a0) : ((Jvm.Cond.instanceMethod ({ cls := "java/lang/String", name := "<init>", desc := "([BB)V" } : Jvm.MethodName))).before a0 Z = true := hw _ (List.mem_of_getElem? (i := 74) rfl)
theorem w75 {Z : State} {a0 : Array Value} (hw : HW Z a0) : ((Jvm.Cond.code ({ cls := "java/lang/String", name := "<init>", desc := "([BB)V" } : Jvm.MethodName) jdk_42_method_151_code (3 : Nat) (Option.none : Option Jvm.ClassFile.FieldType))).before a0 Z = true := hw _ (List.mem_of_getElem? (i := 75) rfl)
theorem w76 {Z : State} {a0 : Array Value} (hw : HW Z a0) : ((Jvm.Cond.methodLink "java/lang/String" (541 : Nat) ({ cls := "java/lang/StringLatin1", name := "equals", desc := "([B[B)Z" } : Jvm.MethodName))).before a0 Z = true := hw _ (List.mem_of_getElem? (i := 76) rfl)
theorem w77 {Z : State} {a0 : Array Value} (hw : HW Z a0) : ((Jvm.Cond.static ({ cls := "java/lang/StringLatin1", name := "equals", desc := "([B[B)Z" } : Jvm.MethodName))).before a0 Z = true := hw _ (List.mem_of_getElem? (i := 77) rfl)
theorem w78 {Z : State} {a0 : Array Value} (hw : HW Z a0) : ((Jvm.Cond.code ({ cls := "java/lang/StringLatin1", name := "equals", desc := "([B[B)Z" } : Jvm.MethodName) jdk_43_method_13_code (3 : Nat) (Option.some Jvm.ClassFile.FieldType.boolean))).before a0 Z = true := hw _ (List.mem_of_getElem? (i := 78) rfl)
theorem pd0 : parseMethodDescriptor "(C)Z" = some ⟨[.char], some .boolean⟩ := by decide +kernel
theorem pd1 : parseMethodDescriptor "(C)[B" = some ⟨[.char], some (.array .byte)⟩ := by decide +kernel
theorem pd2 : parseMethodDescriptor "([BB)V" = some ⟨[(.array .byte), .byte], none⟩ := by decide +kernel
theorem pd3 : parseMethodDescriptor "([CI[BII)I" = some ⟨[(.array .char), .int, (.array .byte), .int, .int], some .int⟩ := by decide +kernel
theorem pd4 : parseMethodDescriptor "([CII)[B" = some ⟨[(.array .char), .int, .int], some (.array .byte)⟩ := by decide +kernel
theorem pd5 : parseMethodDescriptor "([BI)B" = some ⟨[(.array .byte), .int], some .byte⟩ := by decide +kernel
theorem pd6 : parseMethodDescriptor "([CIILjava/lang/Void;)V" = some ⟨[(.array .char), .int, .int, (.object "java/lang/Void")], none⟩ := by decide +kernel
theorem pd7 : parseMethodDescriptor "([B[B)Z" = some ⟨[(.array .byte), (.array .byte)], some .boolean⟩ := by decide +kernel
theorem pd8 : parseMethodDescriptor "([C)V" = some ⟨[(.array .char)], none⟩ := by decide +kernel
theorem pd9 : parseMethodDescriptor "(C)Ljava/lang/String;" = some ⟨[.char], some (.object "java/lang/String")⟩ := by decide +kernel
theorem pd10 : parseMethodDescriptor "(Ljava/lang/Object;)Z" = some ⟨[(.object "java/lang/Object")], some .boolean⟩ := by decide +kernel
theorem pd11 : parseMethodDescriptor "(ICC)Ljava/lang/String;" = some ⟨[.int, .char, .char], some (.object "java/lang/String")⟩ := by decide +kernel
theorem pd12 : parseMethodDescriptor "(Ljava/lang/String;J)V" = some ⟨[(.object "java/lang/String"), .long], none⟩ := by decide +kernel
theorem d0_0 : Dc jdk_43_method_3_code 0 (.iload_n 0) 1 1 := ⟨by decide +kernel, rfl⟩
theorem d0_1 : Dc jdk_43_method_3_code 1 (.sipush 255) 3 4 := ⟨by decide +kernel, rfl⟩
theorem d0_4 : Db jdk_43_method_3_code 4 (.if_icmp .gt 7) 7 7 11 := ⟨by decide +kernel, rfl, by decide, by decide⟩
theorem d0_7 : Dc jdk_43_method_3_code 7 (.iconst 1) 1 8 := ⟨by decide +kernel, rfl⟩
theorem d0_8 : Db jdk_43_method_3_code 8 (.goto 4) 4 11 12 := ⟨by decide +kernel, rfl, by decide, by decide⟩
theorem d0_12 : Dc jdk_43_method_3_code 12 (.ireturn) 1 13 := ⟨by decide +kernel, rfl⟩
theorem d1_0 : Dc jdk_43_method_46_code 0 (.iconst 1) 1 1 := ⟨by decide +kernel, rfl⟩
theorem d1_1 : Dc jdk_43_method_46_code 1 (.newarray .byte) 2 3 := ⟨by decide +kernel, rfl⟩
theorem d1_3 : Dc jdk_43_method_46_code 3 (.dup) 1 4 := ⟨by decide +kernel, rfl⟩
theorem d1_4 : Dc jdk_43_method_46_code 4 (.iconst 0) 1 5 := ⟨by decide +kernel, rfl⟩
theorem d1_5 : Dc jdk_43_method_46_code 5 (.iload_n 0) 1 6 := ⟨by decide +kernel, rfl⟩
theorem d1_6 : Dc jdk_43_method_46_code 6 (.i2b) 1 7 := ⟨by decide +kernel, rfl⟩
theorem d1_7 : Dc jdk_43_method_46_code 7 (.bastore) 1 8 := ⟨by decide +kernel, rfl⟩
theorem d1_8 : Dc jdk_43_method_46_code 8 (.areturn) 1 9 := ⟨by decide +kernel, rfl⟩
theorem d2_0 : Dc jdk_42_method_151_code 0 (.aload_n 0) 1 1 := ⟨by decide +kernel, rfl⟩
theorem d2_1 : Dc jdk_42_method_151_code 1 (.invokespecial 1) 3 4 := ⟨by decide +kernel, rfl⟩
theorem d2_4 : Dc jdk_42_method_151_code 4 (.aload_n 0) 1 5 := ⟨by decide +kernel, rfl⟩
theorem d2_5 : Dc jdk_42_method_151_code 5 (.aload_n 1) 1 6 := ⟨by decide +kernel, rfl⟩
theorem d2_6 : Dc jdk_42_method_151_code 6 (.putfield 9) 3 9 := ⟨by decide +kernel, rfl⟩
theorem d2_9 : Dc jdk_42_method_151_code 9 (.aload_n 0) 1 10 := ⟨by decide +kernel, rfl⟩
theorem d2_10 : Dc jdk_42_method_151_code 10 (.iload_n 2) 1 11 := ⟨by decide +kernel, rfl⟩
theorem d2_11 : Dc jdk_42_method_151_code 11 (.putfield 15) 3 14 := ⟨by decide +kernel, rfl⟩
theorem d2_14 : Dc jdk_42_method_151_code 14 (.return_) 1 15 := ⟨by decide +kernel, rfl⟩
theorem d3_0 : Dc jdk_42_method_139_code 0 (.getstatic 38) 3 3 := ⟨by decide +kernel, rfl⟩
theorem d3_3 : Db jdk_42_method_139_code 3 (.ifCond .eq 23) 23 6 26 := ⟨by decide +kernel, rfl, by decide, by decide⟩
theorem d3_6 : Dc jdk_42_method_139_code 6 (.iload_n 0) 1 7 := ⟨by decide +kernel, rfl⟩
theorem d3_7 : Dc jdk_42_method_139_code 7 (.invokestatic 1015) 3 10 := ⟨by decide +kernel, rfl⟩
theorem d3_10 : Db jdk_42_method_139_code 10 (.ifCond .eq 16) 16 13 26 := ⟨by decide +kernel, rfl, by decide, by decide⟩
theorem d3_13 : Dc jdk_42_method_139_code 13 (.new 10) 3 16 := ⟨by decide +kernel, rfl⟩
theorem d3_16 : Dc jdk_42_method_139_code 16 (.dup) 1 17 := ⟨by decide +kernel, rfl⟩
theorem d3_17 : Dc jdk_42_method_139_code 17 (.iload_n 0) 1 18 := ⟨by decide +kernel, rfl⟩
theorem d3_18 : Dc jdk_42_method_139_code 18 (.invokestatic 1018) 3 21 := ⟨by decide +kernel, rfl⟩
theorem d3_21 : Dc jdk_42_method_139_code 21 (.iconst 0) 1 22 := ⟨by decide +kernel, rfl⟩
theorem d3_22 : Dc jdk_42_method_139_code 22 (.invokespecial 209) 3 25 := ⟨by decide +kernel, rfl⟩
theorem d3_25 : Dc jdk_42_method_139_code 25 (.areturn) 1 26 := ⟨by decide +kernel, rfl⟩
theorem d4_0 : Dc jdk_52_method_21_code 0 (.iconst 0) 1 1 := ⟨by decide +kernel, rfl⟩
theorem d4_1 : Dc jdk_52_method_21_code 1 (.istore 5) 2 3 := ⟨by decide +kernel, rfl⟩
theorem d4_3 : Dc jdk_52_method_21_code 3 (.iload 5) 2 5 := ⟨by decide +kernel, rfl⟩
theorem d4_5 : Dc jdk_52_method_21_code 5 (.iload 4) 2 7 := ⟨by decide +kernel, rfl⟩
theorem d4_7 : Db jdk_52_method_21_code 7 (.if_icmp .ge 37) 37 10 44 := ⟨by decide +kernel, rfl, by decide, by decide⟩
theorem d4_44 : Dc jdk_52_method_21_code 44 (.iload 4) 2 46 := ⟨by decide +kernel, rfl⟩
theorem d4_46 : Dc jdk_52_method_21_code 46 (.ireturn) 1 47 := ⟨by decide +kernel, rfl⟩
theorem d4_10 : Dc jdk_52_method_21_code 10 (.aload_n 0) 1 11 := ⟨by decide +kernel, rfl⟩
theorem d4_11 : Dc jdk_52_method_21_code 11 (.iload_n 1) 1 12 := ⟨by decide +kernel, rfl⟩
theorem d4_12 : Dc jdk_52_method_21_code 12 (.caload) 1 13 := ⟨by decide +kernel, rfl⟩
theorem d4_13 : Dc jdk_52_method_21_code 13 (.istore 6) 2 15 := ⟨by decide +kernel, rfl⟩
theorem d4_15 : Dc jdk_52_method_21_code 15 (.iload 6) 2 17 := ⟨by decide +kernel, rfl⟩
theorem d4_17 : Dc jdk_52_method_21_code 17 (.sipush 255) 3 20 := ⟨by decide +kernel, rfl⟩
theorem d4_20 : Db jdk_52_method_21_code 20 (.if_icmp .le 6) 6 23 26 := ⟨by decide +kernel, rfl, by decide, by decide⟩
theorem d4_23 : Dc jdk_52_method_21_code 23 (.iload 5) 2 25 := ⟨by decide +kernel, rfl⟩
theorem d4_25 : Dc jdk_52_method_21_code 25 (.ireturn) 1 26 := ⟨by decide +kernel, rfl⟩
theorem d4_26 : Dc jdk_52_method_21_code 26 (.aload_n 2) 1 27 := ⟨by decide +kernel, rfl⟩
theorem d4_27 : Dc jdk_52_method_21_code 27 (.iload_n 3) 1 28 := ⟨by decide +kernel, rfl⟩
theorem d4_28 : Dc jdk_52_method_21_code 28 (.iload 6) 2 30 := ⟨by decide +kernel, rfl⟩
theorem d4_30 : Dc jdk_52_method_21_code 30 (.i2b) 1 31 := ⟨by decide +kernel, rfl⟩
theorem d4_31 : Dc jdk_52_method_21_code 31 (.bastore) 1 32 := ⟨by decide +kernel, rfl⟩
theorem d4_32 : Dc jdk_52_method_21_code 32 (.iinc 1 1) 3 35 := ⟨by decide +kernel, rfl⟩
theorem d4_35 : Dc jdk_52_method_21_code 35 (.iinc 3 1) 3 38 := ⟨by decide +kernel, rfl⟩
theorem d4_38 : Dc jdk_52_method_21_code 38 (.iinc 5 1) 3 41 := ⟨by decide +kernel, rfl⟩
theorem d4_41 : Db jdk_52_method_21_code 41 (.goto (-38)) (-38) 44 3 := ⟨by decide +kernel, rfl, by decide, by decide⟩
theorem d5_0 : Dc jdk_52_method_16_code 0 (.iload_n 2) 1 1 := ⟨by decide +kernel, rfl⟩
theorem d5_1 : Dc jdk_52_method_16_code 1 (.newarray .byte) 2 3 := ⟨by decide +kernel, rfl⟩
theorem d5_3 : Dc jdk_52_method_16_code 3 (.astore_n 3) 1 4 := ⟨by decide +kernel, rfl⟩
theorem d5_4 : Dc jdk_52_method_16_code 4 (.aload_n 0) 1 5 := ⟨by decide +kernel, rfl⟩
theorem d5_5 : Dc jdk_52_method_16_code 5 (.iload_n 1) 1 6 := ⟨by decide +kernel, rfl⟩
theorem d5_6 : Dc jdk_52_method_16_code 6 (.aload_n 3) 1 7 := ⟨by decide +kernel, rfl⟩
theorem d5_7 : Dc jdk_52_method_16_code 7 (.iconst 0) 1 8 := ⟨by decide +kernel, rfl⟩
theorem d5_8 : Dc jdk_52_method_16_code 8 (.iload_n 2) 1 9 := ⟨by decide +kernel, rfl⟩
theorem d5_9 : Dc jdk_52_method_16_code 9 (.invokestatic 115) 3 12 := ⟨by decide +kernel, rfl⟩
theorem d5_12 : Dc jdk_52_method_16_code 12 (.istore 4) 2 14 := ⟨by decide +kernel, rfl⟩
theorem d5_14 : Dc jdk_52_method_16_code 14 (.iload 4) 2 16 := ⟨by decide +kernel, rfl⟩
theorem d5_16 : Dc jdk_52_method_16_code 16 (.iload_n 2) 1 17 := ⟨by decide +kernel, rfl⟩
theorem d5_17 : Db jdk_52_method_16_code 17 (.if_icmp .eq 40) 40 20 57 := ⟨by decide +kernel, rfl, by decide, by decide⟩
theorem d5_57 : Dc jdk_52_method_16_code 57 (.aload_n 3) 1 58 := ⟨by decide +kernel, rfl⟩
theorem d5_58 : Dc jdk_52_method_16_code 58 (.areturn) 1 59 := ⟨by decide +kernel, rfl⟩
theorem d6_0 : Dc jdk_52_method_15_code 0 (.iload_n 1) 1 1 := ⟨by decide +kernel, rfl⟩
theorem d6_1 : Dc jdk_52_method_15_code 1 (.aload_n 0) 1 2 := ⟨by decide +kernel, rfl⟩
theorem d6_2 : Dc jdk_52_method_15_code 2 (.arraylength) 1 3 := ⟨by decide +kernel, rfl⟩
theorem d6_3 : Dc jdk_52_method_15_code 3 (.isub) 1 4 := ⟨by decide +kernel, rfl⟩
theorem d6_4 : Dc jdk_52_method_15_code 4 (.bipush 31) 2 6 := ⟨by decide +kernel, rfl⟩
theorem d6_6 : Dc jdk_52_method_15_code 6 (.iushr) 1 7 := ⟨by decide +kernel, rfl⟩
theorem d6_7 : Dc jdk_52_method_15_code 7 (.i2b) 1 8 := ⟨by decide +kernel, rfl⟩
theorem d6_8 : Dc jdk_52_method_15_code 8 (.ireturn) 1 9 := ⟨by decide +kernel, rfl⟩
theorem d7_0 : Dc jdk_42_method_149_code 0 (.aload_n 0) 1 1 := ⟨by decide +kernel, rfl⟩
theorem d7_1 : Dc jdk_42_method_149_code 1 (.invokespecial 1) 3 4 := ⟨by decide +kernel, rfl⟩
theorem d7_4 : Dc jdk_42_method_149_code 4 (.iload_n 3) 1 5 := ⟨by decide +kernel, rfl⟩
theorem d7_5 : Db jdk_42_method_149_code 5 (.ifCond .ne 22) 22 8 27 := ⟨by decide +kernel, rfl, by decide, by decide⟩
theorem d7_27 : Dc jdk_42_method_149_code 27 (.getstatic 38) 3 30 := ⟨by decide +kernel, rfl⟩
theorem d7_30 : Db jdk_42_method_149_code 30 (.ifCond .eq 28) 28 33 58 := ⟨by decide +kernel, rfl, by decide, by decide⟩
theorem d7_33 : Dc jdk_42_method_149_code 33 (.aload_n 1) 1 34 := ⟨by decide +kernel, rfl⟩
theorem d7_34 : Dc jdk_42_method_149_code 34 (.iload_n 2) 1 35 := ⟨by decide +kernel, rfl⟩
theorem d7_35 : Dc jdk_42_method_149_code 35 (.iload_n 3) 1 36 := ⟨by decide +kernel, rfl⟩
theorem d7_36 : Dc jdk_42_method_149_code 36 (.invokestatic 177) 3 39 := ⟨by decide +kernel, rfl⟩
theorem d7_39 : Dc jdk_42_method_149_code 39 (.astore 5) 2 41 := ⟨by decide +kernel, rfl⟩
theorem d7_41 : Dc jdk_42_method_149_code 41 (.aload_n 0) 1 42 := ⟨by decide +kernel, rfl⟩
theorem d7_42 : Dc jdk_42_method_149_code 42 (.aload 5) 2 44 := ⟨by decide +kernel, rfl⟩
theorem d7_44 : Dc jdk_42_method_149_code 44 (.iload_n 3) 1 45 := ⟨by decide +kernel, rfl⟩
theorem d7_45 : Dc jdk_42_method_149_code 45 (.invokestatic 47) 3 48 := ⟨by decide +kernel, rfl⟩
theorem d7_48 : Dc jdk_42_method_149_code 48 (.putfield 15) 3 51 := ⟨by decide +kernel, rfl⟩
theorem d7_51 : Dc jdk_42_method_149_code 51 (.aload_n 0) 1 52 := ⟨by decide +kernel, rfl⟩
theorem d7_52 : Dc jdk_42_method_149_code 52 (.aload 5) 2 54 := ⟨by decide +kernel, rfl⟩
theorem d7_54 : Dc jdk_42_method_149_code 54 (.putfield 9) 3 57 := ⟨by decide +kernel, rfl⟩
theorem d7_57 : Dc jdk_42_method_149_code 57 (.return_) 1 58 := ⟨by decide +kernel, rfl⟩
theorem d8_0 : Dc jdk_42_method_3_code 0 (.aload_n 0) 1 1 := ⟨by decide +kernel, rfl⟩
theorem d8_1 : Dc jdk_42_method_3_code 1 (.aload_n 1) 1 2 := ⟨by decide +kernel, rfl⟩
theorem d8_2 : Dc jdk_42_method_3_code 2 (.iconst 0) 1 3 := ⟨by decide +kernel, rfl⟩
theorem d8_3 : Dc jdk_42_method_3_code 3 (.aload_n 1) 1 4 := ⟨by decide +kernel, rfl⟩
theorem d8_4 : Dc jdk_42_method_3_code 4 (.arraylength) 1 5 := ⟨by decide +kernel, rfl⟩
theorem d8_5 : Dc jdk_42_method_3_code 5 (.aconst_null) 1 6 := ⟨by decide +kernel, rfl⟩
theorem d8_6 : Dc jdk_42_method_3_code 6 (.invokespecial 27) 3 9 := ⟨by decide +kernel, rfl⟩
theorem d8_9 : Dc jdk_42_method_3_code 9 (.return_) 1 10 := ⟨by decide +kernel, rfl⟩
theorem d9_0 : Dc jdk_43_method_13_code 0 (.aload_n 0) 1 1 := ⟨by decide +kernel, rfl⟩
theorem d9_1 : Dc jdk_43_method_13_code 1 (.arraylength) 1 2 := ⟨by decide +kernel, rfl⟩
theorem d9_2 : Dc jdk_43_method_13_code 2 (.aload_n 1) 1 3 := ⟨by decide +kernel, rfl⟩
theorem d9_3 : Dc jdk_43_method_13_code 3 (.arraylength) 1 4 := ⟨by decide +kernel, rfl⟩
theorem d9_4 : Db jdk_43_method_13_code 4 (.if_icmp .ne 30) 30 7 34 := ⟨by decide +kernel, rfl, by decide, by decide⟩
theorem d9_7 : Dc jdk_43_method_13_code 7 (.iconst 0) 1 8 := ⟨by decide +kernel, rfl⟩
theorem d9_8 : Dc jdk_43_method_13_code 8 (.istore_n 2) 1 9 := ⟨by decide +kernel, rfl⟩
theorem d9_9 : Dc jdk_43_method_13_code 9 (.iload_n 2) 1 10 := ⟨by decide +kernel, rfl⟩
theorem d9_10 : Dc jdk_43_method_13_code 10 (.aload_n 0) 1 11 := ⟨by decide +kernel, rfl⟩
theorem d9_11 : Dc jdk_43_method_13_code 11 (.arraylength) 1 12 := ⟨by decide +kernel, rfl⟩
theorem d9_12 : Db jdk_43_method_13_code 12 (.if_icmp .ge 20) 20 15 32 := ⟨by decide +kernel, rfl, by decide, by decide⟩
theorem d9_32 : Dc jdk_43_method_13_code 32 (.iconst 1) 1 33 := ⟨by decide +kernel, rfl⟩
theorem d9_33 : Dc jdk_43_method_13_code 33 (.ireturn) 1 34 := ⟨by decide +kernel, rfl⟩
theorem d9_15 : Dc jdk_43_method_13_code 15 (.aload_n 0) 1 16 := ⟨by decide +kernel, rfl⟩
theorem d9_16 : Dc jdk_43_method_13_code 16 (.iload_n 2) 1 17 := ⟨by decide +kernel, rfl⟩
theorem d9_17 : Dc jdk_43_method_13_code 17 (.baload) 1 18 := ⟨by decide +kernel, rfl⟩
theorem d9_18 : Dc jdk_43_method_13_code 18 (.aload_n 1) 1 19 := ⟨by decide +kernel, rfl⟩
theorem d9_19 : Dc jdk_43_method_13_code 19 (.iload_n 2) 1 20 := ⟨by decide +kernel, rfl⟩
theorem d9_20 : Dc jdk_43_method_13_code 20 (.baload) 1 21 := ⟨by decide +kernel, rfl⟩
theorem d9_21 : Db jdk_43_method_13_code 21 (.if_icmp .eq 5) 5 24 26 := ⟨by decide +kernel, rfl, by decide, by decide⟩
theorem d9_26 : Dc jdk_43_method_13_code 26 (.iinc 2 1) 3 29 := ⟨by decide +kernel, rfl⟩
theorem d9_29 : Db jdk_43_method_13_code 29 (.goto (-20)) (-20) 32 9 := ⟨by decide +kernel, rfl, by decide, by decide⟩
theorem d9_24 : Dc jdk_43_method_13_code 24 (.iconst 0) 1 25 := ⟨by decide +kernel, rfl⟩
theorem d9_25 : Dc jdk_43_method_13_code 25 (.ireturn) 1 26 := ⟨by decide +kernel, rfl⟩
theorem d9_34 : Dc jdk_43_method_13_code 34 (.iconst 0) 1 35 := ⟨by decide +kernel, rfl⟩
theorem d9_35 : Dc jdk_43_method_13_code 35 (.ireturn) 1 36 := ⟨by decide +kernel, rfl⟩
theorem d10_0 : Dc jdk_42_method_66_code 0 (.aload_n 0) 1 1 := ⟨by decide +kernel, rfl⟩
theorem d10_1 : Dc jdk_42_method_66_code 1 (.aload_n 1) 1 2 := ⟨by decide +kernel, rfl⟩
theorem d10_2 : Db jdk_42_method_66_code 2 (.if_acmp .ne 5) 5 5 7 := ⟨by decide +kernel, rfl, by decide, by decide⟩
theorem d10_5 : Dc jdk_42_method_66_code 5 (.iconst 1) 1 6 := ⟨by decide +kernel, rfl⟩
theorem d10_6 : Dc jdk_42_method_66_code 6 (.ireturn) 1 7 := ⟨by decide +kernel, rfl⟩
theorem d10_7 : Dc jdk_42_method_66_code 7 (.aload_n 1) 1 8 := ⟨by decide +kernel, rfl⟩
theorem d10_8 : Dc jdk_42_method_66_code 8 (.instanceof 10) 3 11 := ⟨by decide +kernel, rfl⟩
theorem d10_11 : Db jdk_42_method_66_code 11 (.ifCond .eq 43) 43 14 54 := ⟨by decide +kernel, rfl, by decide, by decide⟩
theorem d10_14 : Dc jdk_42_method_66_code 14 (.aload_n 1) 1 15 := ⟨by decide +kernel, rfl⟩
theorem d10_15 : Dc jdk_42_method_66_code 15 (.checkcast 10) 3 18 := ⟨by decide +kernel, rfl⟩
theorem d10_18 : Dc jdk_42_method_66_code 18 (.astore_n 2) 1 19 := ⟨by decide +kernel, rfl⟩
theorem d10_19 : Dc jdk_42_method_66_code 19 (.getstatic 38) 3 22 := ⟨by decide +kernel, rfl⟩
theorem d10_22 : Db jdk_42_method_66_code 22 (.ifCond .eq 14) 14 25 36 := ⟨by decide +kernel, rfl, by decide, by decide⟩
theorem d10_25 : Dc jdk_42_method_66_code 25 (.aload_n 0) 1 26 := ⟨by decide +kernel, rfl⟩
theorem d10_26 : Dc jdk_42_method_66_code 26 (.getfield 15) 3 29 := ⟨by decide +kernel, rfl⟩
theorem d10_29 : Dc jdk_42_method_66_code 29 (.aload_n 2) 1 30 := ⟨by decide +kernel, rfl⟩
theorem d10_30 : Dc jdk_42_method_66_code 30 (.getfield 15) 3 33 := ⟨by decide +kernel, rfl⟩
theorem d10_33 : Db jdk_42_method_66_code 33 (.if_icmp .ne 21) 21 36 54 := ⟨by decide +kernel, rfl, by decide, by decide⟩
theorem d10_36 : Dc jdk_42_method_66_code 36 (.aload_n 0) 1 37 := ⟨by decide +kernel, rfl⟩
theorem d10_37 : Dc jdk_42_method_66_code 37 (.getfield 9) 3 40 := ⟨by decide +kernel, rfl⟩
theorem d10_40 : Dc jdk_42_method_66_code 40 (.aload_n 2) 1 41 := ⟨by decide +kernel, rfl⟩
theorem d10_41 : Dc jdk_42_method_66_code 41 (.getfield 9) 3 44 := ⟨by decide +kernel, rfl⟩
theorem d10_44 : Dc jdk_42_method_66_code 44 (.invokestatic 541) 3 47 := ⟨by decide +kernel, rfl⟩
theorem d10_47 : Db jdk_42_method_66_code 47 (.ifCond .eq 7) 7 50 54 := ⟨by decide +kernel, rfl, by decide, by decide⟩
theorem d10_50 : Dc jdk_42_method_66_code 50 (.iconst 1) 1 51 := ⟨by decide +kernel, rfl⟩
theorem d10_51 : Db jdk_42_method_66_code 51 (.goto 4) 4 54 55 := ⟨by decide +kernel, rfl, by decide, by decide⟩
theorem d10_55 : Dc jdk_42_method_66_code 55 (.ireturn) 1 56 := ⟨by decide +kernel, rfl⟩
theorem d10_54 : Dc jdk_42_method_66_code 54 (.iconst 0) 1 55 := ⟨by decide +kernel, rfl⟩
theorem d7_8 : Dc jdk_42_method_149_code 8 (.aload_n 0) 1 9 := ⟨by decide +kernel, rfl⟩
theorem d7_9 : Dc jdk_42_method_149_code 9 (.ldc 7) 2 11 := ⟨by decide +kernel, rfl⟩
theorem d7_11 : Dc jdk_42_method_149_code 11 (.getfield 9) 3 14 := ⟨by decide +kernel, rfl⟩
theorem d7_14 : Dc jdk_42_method_149_code 14 (.putfield 9) 3 17 := ⟨by decide +kernel, rfl⟩
theorem d7_17 : Dc jdk_42_method_149_code 17 (.aload_n 0) 1 18 := ⟨by decide +kernel, rfl⟩
theorem d7_18 : Dc jdk_42_method_149_code 18 (.ldc 7) 2 20 := ⟨by decide +kernel, rfl⟩
theorem d7_20 : Dc jdk_42_method_149_code 20 (.getfield 15) 3 23 := ⟨by decide +kernel, rfl⟩
theorem d7_23 : Dc jdk_42_method_149_code 23 (.putfield 15) 3 26 := ⟨by decide +kernel, rfl⟩
theorem d7_26 : Dc jdk_42_method_149_code 26 (.return_) 1 27 := ⟨by decide +kernel, rfl⟩
theorem d11_0 : Dc method_2_code 0 (.iload_n 0) 1 1 := ⟨by decide +kernel, rfl⟩
theorem d11_1 : Db method_2_code 1 (.ifCond .ne 14) 14 4 15 := ⟨by decide +kernel, rfl, by decide, by decide⟩
theorem d11_4 : Dc method_2_code 4 (.new 7) 3 7 := ⟨by decide +kernel, rfl⟩
theorem d11_7 : Dc method_2_code 7 (.dup) 1 8 := ⟨by decide +kernel, rfl⟩
theorem d11_8 : Dc method_2_code 8 (.iconst 0) 1 9 := ⟨by decide +kernel, rfl⟩
theorem d11_9 : Dc method_2_code 9 (.newarray .char) 2 11 := ⟨by decide +kernel, rfl⟩
theorem d11_11 : Dc method_2_code 11 (.invokespecial 9) 3 14 := ⟨by decide +kernel, rfl⟩
theorem d11_14 : Dc method_2_code 14 (.areturn) 1 15 := ⟨by decide +kernel, rfl⟩
theorem d11_15 : Dc method_2_code 15 (.iload_n 0) 1 16 := ⟨by decide +kernel, rfl⟩
theorem d11_16 : Dc method_2_code 16 (.iconst 1) 1 17 := ⟨by decide +kernel, rfl⟩
theorem d11_17 : Db method_2_code 17 (.if_icmp .ne 8) 8 20 25 := ⟨by decide +kernel, rfl, by decide, by decide⟩
theorem d11_20 : Dc method_2_code 20 (.iload_n 1) 1 21 := ⟨by decide +kernel, rfl⟩
theorem d11_21 : Dc method_2_code 21 (.invokestatic 12) 3 24 := ⟨by decide +kernel, rfl⟩
theorem d11_24 : Dc method_2_code 24 (.areturn) 1 25 := ⟨by decide +kernel, rfl⟩
theorem d11_25 : Dc method_2_code 25 (.new 7) 3 28 := ⟨by decide +kernel, rfl⟩
theorem d11_28 : Dc method_2_code 28 (.dup) 1 29 := ⟨by decide +kernel, rfl⟩
theorem d11_29 : Dc method_2_code 29 (.iconst 2) 1 30 := ⟨by decide +kernel, rfl⟩
theorem d11_30 : Dc method_2_code 30 (.newarray .char) 2 32 := ⟨by decide +kernel, rfl⟩
theorem d11_32 : Dc method_2_code 32 (.dup) 1 33 := ⟨by decide +kernel, rfl⟩
theorem d11_33 : Dc method_2_code 33 (.iconst 0) 1 34 := ⟨by decide +kernel, rfl⟩
theorem d11_34 : Dc method_2_code 34 (.iload_n 1) 1 35 := ⟨by decide +kernel, rfl⟩
theorem d11_35 : Dc method_2_code 35 (.castore) 1 36 := ⟨by decide +kernel, rfl⟩
theorem d11_36 : Dc method_2_code 36 (.dup) 1 37 := ⟨by decide +kernel, rfl⟩
theorem d11_37 : Dc method_2_code 37 (.iconst 1) 1 38 := ⟨by decide +kernel, rfl⟩
theorem d11_38 : Dc method_2_code 38 (.iload_n 2) 1 39 := ⟨by decide +kernel, rfl⟩
theorem d11_39 : Dc method_2_code 39 (.castore) 1 40 := ⟨by decide +kernel, rfl⟩
theorem d11_40 : Dc method_2_code 40 (.invokespecial 9) 3 43 := ⟨by decide +kernel, rfl⟩
theorem d11_43 : Dc method_2_code 43 (.areturn) 1 44 := ⟨by decide +kernel, rfl⟩
theorem d12_0 : Dc prog_5_method_1_code 0 (.aload_n 0) 1 1 := ⟨by decide +kernel, rfl⟩
theorem d12_1 : Dc prog_5_method_1_code 1 (.invokespecial 1) 3 4 := ⟨by decide +kernel, rfl⟩
theorem d12_4 : Dc prog_5_method_1_code 4 (.aload_n 0) 1 5 := ⟨by decide +kernel, rfl⟩
theorem d12_5 : Dc prog_5_method_1_code 5 (.aload_n 1) 1 6 := ⟨by decide +kernel, rfl⟩
theorem d12_6 : Dc prog_5_method_1_code 6 (.putfield 7) 3 9 := ⟨by decide +kernel, rfl⟩
theorem d12_9 : Dc prog_5_method_1_code 9 (.aload_n 0) 1 10 := ⟨by decide +kernel, rfl⟩
theorem d12_10 : Dc prog_5_method_1_code 10 (.lload_n 2) 1 11 := ⟨by decide +kernel, rfl⟩
theorem d12_11 : Dc prog_5_method_1_code 11 (.putfield 13) 3 14 := ⟨by decide +kernel, rfl⟩
theorem d12_14 : Dc prog_5_method_1_code 14 (.return_) 1 15 := ⟨by decide +kernel, rfl⟩
theorem d13_0 : Dc prog_5_method_4_code 0 (.aload_n 1) 1 1 := ⟨by decide +kernel, rfl⟩
theorem d13_1 : Dc prog_5_method_4_code 1 (.instanceof 8) 3 4 := ⟨by decide +kernel, rfl⟩
theorem d13_4 : Db prog_5_method_4_code 4 (.ifCond .eq 38) 38 7 42 := ⟨by decide +kernel, rfl, by decide, by decide⟩
theorem d13_7 : Dc prog_5_method_4_code 7 (.aload_n 1) 1 8 := ⟨by decide +kernel, rfl⟩
theorem d13_8 : Dc prog_5_method_4_code 8 (.checkcast 8) 3 11 := ⟨by decide +kernel, rfl⟩
theorem d13_11 : Dc prog_5_method_4_code 11 (.astore_n 2) 1 12 := ⟨by decide +kernel, rfl⟩
theorem d13_12 : Dc prog_5_method_4_code 12 (.aload_n 2) 1 13 := ⟨by decide +kernel, rfl⟩
theorem d13_13 : Dc prog_5_method_4_code 13 (.getfield 13) 3 16 := ⟨by decide +kernel, rfl⟩
theorem d13_16 : Dc prog_5_method_4_code 16 (.aload_n 0) 1 17 := ⟨by decide +kernel, rfl⟩
theorem d13_17 : Dc prog_5_method_4_code 17 (.getfield 13) 3 20 := ⟨by decide +kernel, rfl⟩
theorem d13_20 : Dc prog_5_method_4_code 20 (.lcmp) 1 21 := ⟨by decide +kernel, rfl⟩
theorem d13_21 : Db prog_5_method_4_code 21 (.ifCond .ne 21) 21 24 42 := ⟨by decide +kernel, rfl, by decide, by decide⟩
theorem d13_24 : Dc prog_5_method_4_code 24 (.aload_n 2) 1 25 := ⟨by decide +kernel, rfl⟩
theorem d13_25 : Dc prog_5_method_4_code 25 (.getfield 7) 3 28 := ⟨by decide +kernel, rfl⟩
theorem d13_28 : Dc prog_5_method_4_code 28 (.aload_n 0) 1 29 := ⟨by decide +kernel, rfl⟩
theorem d13_29 : Dc prog_5_method_4_code 29 (.getfield 7) 3 32 := ⟨by decide +kernel, rfl⟩
theorem d13_32 : Dc prog_5_method_4_code 32 (.invokevirtual 17) 3 35 := ⟨by decide +kernel, rfl⟩
theorem d13_35 : Db prog_5_method_4_code 35 (.ifCond .eq 7) 7 38 42 := ⟨by decide +kernel, rfl, by decide, by decide⟩
theorem d13_38 : Dc prog_5_method_4_code 38 (.iconst 1) 1 39 := ⟨by decide +kernel, rfl⟩
theorem d13_39 : Db prog_5_method_4_code 39 (.goto 4) 4 42 43 := ⟨by decide +kernel, rfl, by decide, by decide⟩
theorem d13_43 : Dc prog_5_method_4_code 43 (.ireturn) 1 44 := ⟨by decide +kernel, rfl⟩
theorem d13_42 : Dc prog_5_method_4_code 42 (.iconst 0) 1 43 := ⟨by decide +kernel, rfl⟩
theorem d14_0 : Dc code 0 (.iload 6) 2 2 := ⟨by decide +kernel, rfl⟩
theorem d14_2 : Dc code 2 (.iconst 3) 1 3 := ⟨by decide +kernel, rfl⟩
theorem d14_3 : Dc code 3 (.iand) 1 4 := ⟨by decide +kernel, rfl⟩
theorem d14_4 : Dc code 4 (.iconst 3) 1 5 := ⟨by decide +kernel, rfl⟩
theorem d14_5 : Dc code 5 (.irem) 1 6 := ⟨by decide +kernel, rfl⟩
theorem d14_6 : Dc code 6 (.istore 7) 2 8 := ⟨by decide +kernel, rfl⟩
theorem d14_8 : Dc code 8 (.iload 6) 2 10 := ⟨by decide +kernel, rfl⟩
theorem d14_10 : Dc code 10 (.iconst 2) 1 11 := ⟨by decide +kernel, rfl⟩
theorem d14_11 : Dc code 11 (.iushr) 1 12 := ⟨by decide +kernel, rfl⟩
theorem d14_12 : Dc code 12 (.iconst 3) 1 13 := ⟨by decide +kernel, rfl⟩
theorem d14_13 : Dc code 13 (.iand) 1 14 := ⟨by decide +kernel, rfl⟩
theorem d14_14 : Dc code 14 (.iconst 3) 1 15 := ⟨by decide +kernel, rfl⟩
theorem d14_15 : Dc code 15 (.irem) 1 16 := ⟨by decide +kernel, rfl⟩
theorem d14_16 : Dc code 16 (.istore 8) 2 18 := ⟨by decide +kernel, rfl⟩
theorem d14_18 : Dc code 18 (.iload_n 0) 1 19 := ⟨by decide +kernel, rfl⟩
theorem d14_19 : Dc code 19 (.sipush 255) 3 22 := ⟨by decide +kernel, rfl⟩
theorem d14_22 : Dc code 22 (.iand) 1 23 := ⟨by decide +kernel, rfl⟩
theorem d14_23 : Dc code 23 (.i2c) 1 24 := ⟨by decide +kernel, rfl⟩
theorem d14_24 : Dc code 24 (.istore 9) 2 26 := ⟨by decide +kernel, rfl⟩
theorem d14_26 : Dc code 26 (.iload_n 0) 1 27 := ⟨by decide +kernel, rfl⟩
theorem d14_27 : Dc code 27 (.bipush 8) 2 29 := ⟨by decide +kernel, rfl⟩
theorem d14_29 : Dc code 29 (.iushr) 1 30 := ⟨by decide +kernel, rfl⟩
theorem d14_30 : Dc code 30 (.sipush 255) 3 33 := ⟨by decide +kernel, rfl⟩
theorem d14_33 : Dc code 33 (.iand) 1 34 := ⟨by decide +kernel, rfl⟩
theorem d14_34 : Dc code 34 (.i2c) 1 35 := ⟨by decide +kernel, rfl⟩
theorem d14_35 : Dc code 35 (.istore 10) 2 37 := ⟨by decide +kernel, rfl⟩
theorem d14_37 : Dc code 37 (.iload 6) 2 39 := ⟨by decide +kernel, rfl⟩
theorem d14_39 : Dc code 39 (.iconst 4) 1 40 := ⟨by decide +kernel, rfl⟩
theorem d14_40 : Dc code 40 (.iushr) 1 41 := ⟨by decide +kernel, rfl⟩
theorem d14_41 : Dc code 41 (.iconst 1) 1 42 := ⟨by decide +kernel, rfl⟩
theorem d14_42 : Dc code 42 (.iand) 1 43 := ⟨by decide +kernel, rfl⟩
theorem d14_57 : Dc code 57 (.istore 11) 2 59 := ⟨by decide +kernel, rfl⟩
theorem d14_59 : Dc code 59 (.iload 6) 2 61 := ⟨by decide +kernel, rfl⟩
theorem d14_61 : Dc code 61 (.iconst 5) 1 62 := ⟨by decide +kernel, rfl⟩
theorem d14_62 : Dc code 62 (.iushr) 1 63 := ⟨by decide +kernel, rfl⟩
theorem d14_63 : Dc code 63 (.iconst 1) 1 64 := ⟨by decide +kernel, rfl⟩
theorem d14_64 : Dc code 64 (.iand) 1 65 := ⟨by decide +kernel, rfl⟩
theorem d14_82 : Dc code 82 (.istore 12) 2 84 := ⟨by decide +kernel, rfl⟩
theorem d14_84 : Dc code 84 (.iload 6) 2 86 := ⟨by decide +kernel, rfl⟩
theorem d14_86 : Dc code 86 (.bipush 6) 2 88 := ⟨by decide +kernel, rfl⟩
theorem d14_88 : Dc code 88 (.iushr) 1 89 := ⟨by decide +kernel, rfl⟩
theorem d14_89 : Dc code 89 (.iconst 1) 1 90 := ⟨by decide +kernel, rfl⟩
theorem d14_90 : Dc code 90 (.iand) 1 91 := ⟨by decide +kernel, rfl⟩
theorem d14_100 : Dc code 100 (.lstore 13) 2 102 := ⟨by decide +kernel, rfl⟩
theorem d14_102 : Dc code 102 (.iload 7) 2 104 := ⟨by decide +kernel, rfl⟩
theorem d14_104 : Dc code 104 (.iload 9) 2 106 := ⟨by decide +kernel, rfl⟩
theorem d14_106 : Dc code 106 (.iload 10) 2 108 := ⟨by decide +kernel, rfl⟩
theorem d14_108 : Dc code 108 (.invokestatic 16) 3 111 := ⟨by decide +kernel, rfl⟩
theorem d14_111 : Dc code 111 (.astore 15) 2 113 := ⟨by decide +kernel, rfl⟩
theorem d14_113 : Dc code 113 (.iload 8) 2 115 := ⟨by decide +kernel, rfl⟩
theorem d14_115 : Dc code 115 (.iload 11) 2 117 := ⟨by decide +kernel, rfl⟩
theorem d14_117 : Dc code 117 (.iload 12) 2 119 := ⟨by decide +kernel, rfl⟩
theorem d14_119 : Dc code 119 (.invokestatic 16) 3 122 := ⟨by decide +kernel, rfl⟩
theorem d14_122 : Dc code 122 (.astore 16) 2 124 := ⟨by decide +kernel, rfl⟩
theorem d14_124 : Dc code 124 (.new 22) 3 127 := ⟨by decide +kernel, rfl⟩
theorem d14_127 : Dc code 127 (.dup) 1 128 := ⟨by decide +kernel, rfl⟩
theorem d14_128 : Dc code 128 (.aload 15) 2 130 := ⟨by decide +kernel, rfl⟩
theorem d14_130 : Dc code 130 (.lload_n 2) 1 131 := ⟨by decide +kernel, rfl⟩
theorem d14_131 : Dc code 131 (.invokespecial 24) 3 134 := ⟨by decide +kernel, rfl⟩
theorem d14_134 : Dc code 134 (.astore 17) 2 136 := ⟨by decide +kernel, rfl⟩
theorem d14_136 : Dc code 136 (.new 22) 3 139 := ⟨by decide +kernel, rfl⟩
theorem d14_139 : Dc code 139 (.dup) 1 140 := ⟨by decide +kernel, rfl⟩
theorem d14_140 : Dc code 140 (.aload 16) 2 142 := ⟨by decide +kernel, rfl⟩
theorem d14_142 : Dc code 142 (.lload 13) 2 144 := ⟨by decide +kernel, rfl⟩
theorem d14_144 : Dc code 144 (.invokespecial 24) 3 147 := ⟨by decide +kernel, rfl⟩
theorem d14_147 : Dc code 147 (.astore 18) 2 149 := ⟨by decide +kernel, rfl⟩
theorem d14_149 : Dc code 149 (.lload_n 2) 1 150 := ⟨by decide +kernel, rfl⟩
theorem d14_150 : Dc code 150 (.lload 13) 2 152 := ⟨by decide +kernel, rfl⟩
theorem d14_152 : Dc code 152 (.lcmp) 1 153 := ⟨by decide +kernel, rfl⟩
theorem d14_194 : Dc code 194 (.istore 19) 2 196 := ⟨by decide +kernel, rfl⟩
theorem d14_196 : Dc code 196 (.aload 17) 2 198 := ⟨by decide +kernel, rfl⟩
theorem d14_198 : Dc code 198 (.aload 18) 2 200 := ⟨by decide +kernel, rfl⟩
theorem d14_200 : Dc code 200 (.invokevirtual 27) 3 203 := ⟨by decide +kernel, rfl⟩
theorem d14_203 : Dc code 203 (.istore 20) 2 205 := ⟨by decide +kernel, rfl⟩
theorem d14_205 : Dc code 205 (.aload 18) 2 207 := ⟨by decide +kernel, rfl⟩
theorem d14_207 : Dc code 207 (.aload 17) 2 209 := ⟨by decide +kernel, rfl⟩
theorem d14_209 : Dc code 209 (.invokevirtual 27) 3 212 := ⟨by decide +kernel, rfl⟩
theorem d14_212 : Dc code 212 (.istore 21) 2 214 := ⟨by decide +kernel, rfl⟩
theorem d14_214 : Dc code 214 (.aload 17) 2 216 := ⟨by decide +kernel, rfl⟩
theorem d14_216 : Dc code 216 (.aload 17) 2 218 := ⟨by decide +kernel, rfl⟩
theorem d14_218 : Dc code 218 (.invokevirtual 27) 3 221 := ⟨by decide +kernel, rfl⟩
theorem d14_221 : Dc code 221 (.istore 22) 2 223 := ⟨by decide +kernel, rfl⟩
theorem d14_223 : Dc code 223 (.aload 17) 2 225 := ⟨by decide +kernel, rfl⟩
theorem d14_225 : Dc code 225 (.aload 15) 2 227 := ⟨by decide +kernel, rfl⟩
theorem d14_227 : Dc code 227 (.invokevirtual 27) 3 230 := ⟨by decide +kernel, rfl⟩
theorem d14_230 : Dc code 230 (.istore 23) 2 232 := ⟨by decide +kernel, rfl⟩
theorem d14_232 : Dc code 232 (.aload 17) 2 234 := ⟨by decide +kernel, rfl⟩
theorem d14_234 : Dc code 234 (.aconst_null) 1 235 := ⟨by decide +kernel, rfl⟩
theorem d14_235 : Dc code 235 (.invokevirtual 27) 3 238 := ⟨by decide +kernel, rfl⟩
theorem d14_238 : Dc code 238 (.istore 24) 2 240 := ⟨by decide +kernel, rfl⟩
theorem d14_240 : Dc code 240 (.iload 20) 2 242 := ⟨by decide +kernel, rfl⟩
theorem d14_242 : Dc code 242 (.iload 19) 2 244 := ⟨by decide +kernel, rfl⟩
theorem d14_244 : Db code 244 (.if_icmp .ne 29) 29 247 273 := ⟨by decide +kernel, rfl, by decide, by decide⟩
theorem d14_247 : Dc code 247 (.iload 21) 2 249 := ⟨by decide +kernel, rfl⟩
theorem d14_249 : Dc code 249 (.iload 19) 2 251 := ⟨by decide +kernel, rfl⟩
theorem d14_251 : Db code 251 (.if_icmp .ne 22) 22 254 273 := ⟨by decide +kernel, rfl, by decide, by decide⟩
theorem d14_254 : Dc code 254 (.iload 22) 2 256 := ⟨by decide +kernel, rfl⟩
theorem d14_256 : Db code 256 (.ifCond .eq 17) 17 259 273 := ⟨by decide +kernel, rfl, by decide, by decide⟩
theorem d14_259 : Dc code 259 (.iload 23) 2 261 := ⟨by decide +kernel, rfl⟩
theorem d14_261 : Db code 261 (.ifCond .ne 12) 12 264 273 := ⟨by decide +kernel, rfl, by decide, by decide⟩
theorem d14_264 : Dc code 264 (.iload 24) 2 266 := ⟨by decide +kernel, rfl⟩
theorem d14_266 : Db code 266 (.ifCond .ne 7) 7 269 273 := ⟨by decide +kernel, rfl, by decide, by decide⟩
theorem d14_269 : Dc code 269 (.iconst 1) 1 270 := ⟨by decide +kernel, rfl⟩
theorem d14_270 : Db code 270 (.goto 4) 4 273 274 := ⟨by decide +kernel, rfl, by decide, by decide⟩
theorem d14_274 : Dc code 274 (.ireturn) 1 275 := ⟨by decide +kernel, rfl⟩
theorem d14_153 : Db code 153 (.ifCond .ne 40) 40 156 193 := ⟨by decide +kernel, rfl, by decide, by decide⟩
theorem d14_156 : Dc code 156 (.iload 7) 2 158 := ⟨by decide +kernel, rfl⟩
theorem d14_158 : Dc code 158 (.iload 8) 2 160 := ⟨by decide +kernel, rfl⟩
theorem d14_160 : Db code 160 (.if_icmp .ne 33) 33 163 193 := ⟨by decide +kernel, rfl, by decide, by decide⟩
theorem d14_163 : Dc code 163 (.iload 7) 2 165 := ⟨by decide +kernel, rfl⟩
theorem d14_165 : Dc code 165 (.iconst 1) 1 166 := ⟨by decide +kernel, rfl⟩
theorem d14_176 : Dc code 176 (.iload 7) 2 178 := ⟨by decide +kernel, rfl⟩
theorem d14_178 : Dc code 178 (.iconst 2) 1 179 := ⟨by decide +kernel, rfl⟩
theorem d14_189 : Dc code 189 (.iconst 1) 1 190 := ⟨by decide +kernel, rfl⟩
theorem d14_190 : Db code 190 (.goto 4) 4 193 194 := ⟨by decide +kernel, rfl, by decide, by decide⟩
theorem d14_179 : Db code 179 (.if_icmp .lt 10) 10 182 189 := ⟨by decide +kernel, rfl, by decide, by decide⟩
theorem d14_182 : Dc code 182 (.iload 10) 2 184 := ⟨by decide +kernel, rfl⟩
theorem d14_184 : Dc code 184 (.iload 12) 2 186 := ⟨by decide +kernel, rfl⟩
theorem d14_186 : Db code 186 (.if_icmp .ne 7) 7 189 193 := ⟨by decide +kernel, rfl, by decide, by decide⟩
theorem d14_193 : Dc code 193 (.iconst 0) 1 194 := ⟨by decide +kernel, rfl⟩
theorem d14_166 : Db code 166 (.if_icmp .lt 10) 10 169 176 := ⟨by decide +kernel, rfl, by decide, by decide⟩
theorem d14_169 : Dc code 169 (.iload 9) 2 171 := ⟨by decide +kernel, rfl⟩
theorem d14_171 : Dc code 171 (.iload 11) 2 173 := ⟨by decide +kernel, rfl⟩
theorem d14_173 : Db code 173 (.if_icmp .ne 20) 20 176 193 := ⟨by decide +kernel, rfl, by decide, by decide⟩
theorem d14_91 : Db code 91 (.ifCond .eq 7) 7 94 98 := ⟨by decide +kernel, rfl, by decide, by decide⟩
theorem d14_98 : Dc code 98 (.lload 4) 2 100 := ⟨by decide +kernel, rfl⟩
theorem d14_94 : Dc code 94 (.lload_n 2) 1 95 := ⟨by decide +kernel, rfl⟩
theorem d14_95 : Db code 95 (.goto 5) 5 98 100 := ⟨by decide +kernel, rfl, by decide, by decide⟩
theorem d14_65 : Db code 65 (.ifCond .eq 8) 8 68 73 := ⟨by decide +kernel, rfl, by decide, by decide⟩
theorem d14_73 : Dc code 73 (.iload_n 1) 1 74 := ⟨by decide +kernel, rfl⟩
theorem d14_74 : Dc code 74 (.bipush 8) 2 76 := ⟨by decide +kernel, rfl⟩
theorem d14_76 : Dc code 76 (.iushr) 1 77 := ⟨by decide +kernel, rfl⟩
theorem d14_77 : Dc code 77 (.sipush 255) 3 80 := ⟨by decide +kernel, rfl⟩
theorem d14_80 : Dc code 80 (.iand) 1 81 := ⟨by decide +kernel, rfl⟩
theorem d14_81 : Dc code 81 (.i2c) 1 82 := ⟨by decide +kernel, rfl⟩
theorem d14_68 : Dc code 68 (.iload 10) 2 70 := ⟨by decide +kernel, rfl⟩
theorem d14_70 : Db code 70 (.goto 12) 12 73 82 := ⟨by decide +kernel, rfl, by decide, by decide⟩
theorem d14_43 : Db code 43 (.ifCond .eq 8) 8 46 51 := ⟨by decide +kernel, rfl, by decide, by decide⟩
theorem d14_51 : Dc code 51 (.iload_n 1) 1 52 := ⟨by decide +kernel, rfl⟩
theorem d14_52 : Dc code 52 (.sipush 255) 3 55 := ⟨by decide +kernel, rfl⟩
theorem d14_55 : Dc code 55 (.iand) 1 56 := ⟨by decide +kernel, rfl⟩
theorem d14_56 : Dc code 56 (.i2c) 1 57 := ⟨by decide +kernel, rfl⟩
theorem d14_46 : Dc code 46 (.iload 9) 2 48 := ⟨by decide +kernel, rfl⟩
theorem d14_48 : Db code 48 (.goto 9) 9 51 57 := ⟨by decide +kernel, rfl, by decide, by decide⟩
theorem strAtoms {Z : State} {a0 : Array Value} (hw : HW Z a0) : ∀ a ∈ Bundle.stringAtoms, a.before a0 Z = true := fun d hd => by
  simp only [Bundle.stringAtoms, List.mem_cons, List.not_mem_nil, or_false] at hd
  rcases hd with rfl | rfl | rfl | rfl | rfl | rfl | rfl
  · first | exact (w6 hw) | exact (w5 hw) | exact (w23 hw) | exact (w33 hw) | exact (w31 hw) | exact (w35 hw) | exact (w36 hw)
  · first | exact (w6 hw) | exact (w5 hw) | exact (w23 hw) | exact (w33 hw) | exact (w31 hw) | exact (w35 hw) | exact (w36 hw)
  · first | exact (w6 hw) | exact (w5 hw) | exact (w23 hw) | exact (w33 hw) | exact (w31 hw) | exact (w35 hw) | exact (w36 hw)
  · first | exact (w6 hw) | exact (w5 hw) | exact (w23 hw) | exact (w33 hw) | exact (w31 hw) | exact (w35 hw) | exact (w36 hw)
  · first | exact (w6 hw) | exact (w5 hw) | exact (w23 hw) | exact (w33 hw) | exact (w31 hw) | exact (w35 hw) | exact (w36 hw)
  · first | exact (w6 hw) | exact (w5 hw) | exact (w23 hw) | exact (w33 hw) | exact (w31 hw) | exact (w35 hw) | exact (w36 hw)
  · first | exact (w6 hw) | exact (w5 hw) | exact (w23 hw) | exact (w33 hw) | exact (w31 hw) | exact (w35 hw) | exact (w36 hw)

def Sts (Z : State) : Prop := (∃ cv : Int32, Sta Z Z.heap "java/lang/String" "COMPACT_STRINGS" "Z" (.int cv) ∧ ¬ cv = 0) ∧ True
/-- a sign from 0 to 255 -/
def C8 (c : Int32) : Prop := ¬ 255 < c ∧ ¬ c < 0
theorem k_and255 (p : Int32) : 0 ≤ (p &&& 255).toInt ∧ (p &&& 255).toInt ≤ 255 := by
  have h2 : (p.toBitVec &&& 255#32).toNat ≤ 255 := by rw [BitVec.toNat_and]; exact Nat.and_le_right
  have e : (p &&& 255).toInt = ((p.toBitVec &&& 255#32).toNat : Int) := by
    have h1 : (p &&& 255).toBitVec = p.toBitVec &&& 255#32 := by simp
    rw [← Int32.toInt_toBitVec, h1, BitVec.toInt_eq_toNat_of_lt (by omega)]
  omega
theorem c8_int {c : Int32} : C8 c ↔ 0 ≤ c.toInt ∧ c.toInt ≤ 255 := by
  rw [C8, Int32.lt_iff_toInt_lt, Int32.lt_iff_toInt_lt, show (255 : Int32).toInt = 255 from by decide, show (0 : Int32).toInt = 0 from by decide]; omega
theorem c8_and (p : Int32) : C8 (p &&& 255) := c8_int.mpr (k_and255 p)
theorem k_le255 (p : Int32) : ¬ (255 : Int32) < p &&& 255 := (c8_and p).1
theorem k_c255' (p : Int32) : (p &&& 255).toUInt32.toUInt16.toUInt32.toInt32 = p &&& 255 := i2c_mask p
theorem k_c255 (p : Int32) : RoadKit.nar .char (p &&& 255).toUInt32.toUInt16.toUInt32.toInt32 = p &&& 255 := by rw [i2c_mask]; exact i2c_mask p
theorem c8_nat {c : Int32} (h : C8 c) : ∃ m : Nat, m < 256 ∧ c = Int32.ofNat m := by
  have h := c8_int.mp h
  exact ⟨c.toInt.toNat, by omega, by rw [← Int32.toInt_inj, k_ofNat (by omega)]; omega⟩
theorem c8_all : ∀ m, m < 256 → Int32.ofNat m &&& 255 = Int32.ofNat m ∧ lo8 (Int32.ofNat m) &&& 255 = Int32.ofNat m := by decide +kernel
theorem c8_and_self {c : Int32} (h : C8 c) : c &&& 255 = c := by
  obtain ⟨m, hm, rfl⟩ := c8_nat h
  exact (c8_all m hm).1
theorem nar_c8 {c : Int32} (h : C8 c) : RoadKit.nar .char c = c := by
  rw [← c8_and_self h]; exact i2c_mask c
theorem b8_inj {c d : Int32} (h : C8 c) (h' : C8 d) : lo8 c = lo8 d ↔ c = d := by
  refine ⟨fun q => ?_, fun q => by rw [q]⟩
  obtain ⟨m, hm, rfl⟩ := c8_nat h
  obtain ⟨m', hm', rfl⟩ := c8_nat h'
  have := congrArg (· &&& 255) q
  rwa [(c8_all m hm).2, (c8_all m' hm').2] at this

/-- the bytes that mk's String holds -/
def mkb (n u v : Int32) : List Int32 := if n = 0 then [] else if n = 1 then [lo8 u] else [lo8 u, lo8 v]
theorem mkb_eq {n n' u v u' v' : Int32} (h : n = 0 ∨ n = 1 ∨ n = 2) (h' : n' = 0 ∨ n' = 1 ∨ n' = 2) (hu : C8 u) (hv : C8 v) (hu' : C8 u') (hv' : C8 v') : mkb n u v = mkb n' u' v' ↔ n = n' ∧ (n < 1 ∨ u = u') ∧ (n < 2 ∨ v = v') := by
  have i1 : lo8 u = lo8 u' ↔ u = u' := b8_inj hu hu'
  have i2 : lo8 v = lo8 v' ↔ v = v' := b8_inj hv hv'
  rcases h with rfl | rfl | rfl <;> rcases h' with rfl | rfl | rfl <;> simp [mkb, i1, i2]
theorem k_mod3 (x : Int32) : ∃ n : Int32, (x &&& 3) % 3 = n ∧ (n = 0 ∨ n = 1 ∨ n = 2) := by
  refine ⟨_, rfl, ?_⟩
  have h2 : (x.toBitVec &&& 3#32).toNat ≤ 3 := by rw [BitVec.toNat_and]; exact Nat.and_le_right
  have e : x &&& 3 = Int32.ofNat (x.toBitVec &&& 3#32).toNat := by
    apply Int32.toBitVec_inj.mp
    simp
  rw [e]
  generalize (x.toBitVec &&& 3#32).toNat = m at h2
  have : m = 0 ∨ m = 1 ∨ m = 2 ∨ m = 3 := by omega
  rcases this with rfl | rfl | rfl | rfl <;> decide
set_option maxRecDepth 65536 in
set_option maxHeartbeats 40000000 in
theorem c_canEncC {nw : Bool} {l : Launch} {Z : State} {EL : List (String × Nat)} {a0 : Array Value} (hw : HW Z a0) (hs : Sts Z) {h0 : Heap} {B0 : BP} (c : Int32) (hc : ¬ 255 < c) :
    Con nw l Z EL (⟨"java/lang/StringLatin1", "canEncode", "(C)Z"⟩ : MethodName) jdk_43_method_3_code 1 (some .boolean) [] ({ frames := 0, cells := 0, slots := 0, locals := 0 } : Room) #[(.int c)] h0 B0 [] (PQ (some (.int (1 : Int32))) h0 B0) := by
  refine k_intro (Ls := #[.val (.int c)]) (by decide +kernel) rfl fun x T0 X0 => ?_
  refine g_iloadN X0 d0_0 rfl ?_
  refine g_sipush X0 (255 : Int32) d0_1 (by decide) ?_
  refine g_icmpF X0 d0_4 (XT.ii_gt_f hc) ?_
  refine g_iconst X0 (1 : Int32) d0_7 (by decide) ?_
  refine g_goto X0 d0_8 ?_
  exact g_ireturn (w' := (1 : Int32)) X0 d0_12 (Or.inl rfl) (by decide) (by decide) (by decide) ⟨rfl, rfl, rfl⟩
set_option maxRecDepth 65536 in
set_option maxHeartbeats 40000000 in
theorem c_toBytesC {nw : Bool} {l : Launch} {Z : State} {EL : List (String × Nat)} {a0 : Array Value} (hw : HW Z a0) (hs : Sts Z) {h0 : Heap} {B0 : BP} (c : Int32)  :
    Con nw l Z EL (⟨"java/lang/StringLatin1", "toBytes", "(C)[B"⟩ : MethodName) jdk_43_method_46_code 1 (some (.array .byte)) [] ({ frames := 0, cells := 1, slots := 1, locals := 0 } : Room) #[(.int c)] h0 B0 [] (fun v h B => ∃ t, v = some (.ref t) ∧ B0 = B ∧ h0.size ≤ t ∧ Ay Z h t .byte [.int (lo8 c)]) := by
  refine k_intro (Ls := #[.val (.int c)]) (by decide +kernel) rfl fun x T0 X0 => ?_
  refine g_iconst X0 (1 : Int32) d1_0 (by decide) ?_
  refine g_newarray X0 d1_1 rfl (w23 hw) 1 1 (by decide) (Nat.le_refl _) (by decide) 1 1 rfl rfl (by decide) (by decide) fun T1 h1 b1 X1 E1 eb1 nb1 A1 => ?_
  have z1 := E1.1; have lt1 : @LT.lt Nat _ b1 h1.size := A1.lt; have zl1 : @LE.le Nat _ Z.heap.size b1 := eb1 ▸ X0.szZ; have fr1 : @LE.le Nat _ h0.size b1 := eb1 ▸ X0.sz
  have A1a : Ay Z h1 b1 .byte [(.int (0 : Int32))] := A1
  refine g_dup X1 d1_3 rfl ?_
  refine g_iconst X1 (0 : Int32) d1_4 (by decide) ?_
  refine g_iloadN X1 d1_5 rfl ?_
  refine g_i2b X1 (lo8 c) d1_6 rfl ?_
  refine g_bastore X1 d1_7 A1a 0 (by decide) (lo8 c) (nar_b8 c) (Nat.le_of_ble_eq_true rfl) nb1 zl1 (Or.inr fr1) fun T2 h2 X2 K2 A2 => ?_
  have z2 := K2.1
  have A2a : Ay Z h2 b1 .byte [(.int (lo8 c))] := A2
  exact g_areturn X2 d1_8 rfl rfl rfl (by decide) (by decide) ⟨_, rfl, rfl, fr1, A2a⟩
set_option maxRecDepth 65536 in
set_option maxHeartbeats 40000000 in
theorem c_initBB {nw : Bool} {l : Launch} {Z : State} {EL : List (String × Nat)} {a0 : Array Value} (hw : HW Z a0) (hs : Sts Z) {h0 : Heap} {B0 : BP} (a t : Addr) (cd : Int32) (E_a : Exa Z h0 a "java/lang/String") {u_value : Value} (F_value : Fld Z h0 a "java/lang/String" "value" "[B" u_value) {u_coder : Value} (F_coder : Fld Z h0 a "java/lang/String" "coder" "B" u_coder) (nb : ¬ B0 a) (zl : Z.heap.size ≤ a) (hcd : cd = 0 ∨ cd = 1) :
    Con nw l Z EL (⟨"java/lang/String", "<init>", "([BB)V"⟩ : MethodName) jdk_42_method_151_code 3 none [] ({ frames := 1, cells := 0, slots := 0, locals := 12 } : Room) #[(.ref a), (.ref t), (.int cd)] h0 B0 [a] (fun v h B => v = none ∧ B0 = B ∧ Exa Z h a "java/lang/String" ∧ Fld Z h a "java/lang/String" "coder" "B" (.int cd) ∧ Fld Z h a "java/lang/String" "value" "[B" (.ref t)) := by
  refine k_intro (Ls := #[.val (.ref a), .val (.ref t), .val (.int cd)]) (by decide +kernel) rfl fun x T0 X0 => ?_
  have lt_a := k_ltE E_a
  refine g_aloadN X0 d2_0 rfl rfl ?_
  refine g_init X0 d2_1 rfl rfl (w15 hw) (w16 hw) (w17 hw) 0 rfl (by decide) (Nat.le_of_eq rfl) (by decide) fun T1 X1 => ?_
  refine g_aloadN X1 d2_4 rfl rfl ?_
  refine g_aloadN X1 d2_5 rfl rfl ?_
  refine g_putfield X1 d2_6 (w32 hw) Via.refl F_value E_a (Or.inr ⟨(w33 hw), rfl, rfl⟩) (w5 hw) (ty := (.array .byte)) (v' := (.ref t)) (by decide) rfl rfl nb zl (Or.inl (List.mem_of_getElem? (i := 0) rfl)) fun T2 h2 X2 W2 => ?_
  have z2 := W2.size; have Fw2 := F_value.same W2
  refine g_aloadN X2 d2_9 rfl rfl ?_
  refine g_iloadN X2 d2_10 rfl ?_
  have F3 := (F_coder.other W2 (Or.inr (slot_ne (Or.inr (w31 hw)) (Or.inr (w33 hw)) (by decide) (t := .byte) (t' := (.array .byte)) (by decide) (by decide))))
  have E_4 := (E_a.wr W2)
  refine g_putfield X2 d2_11 (w30 hw) Via.refl F3 E_4 (Or.inr ⟨(w31 hw), rfl, rfl⟩) (w5 hw) (ty := .byte) (v' := (.int cd)) (by decide) (by rcases hcd with rfl | rfl <;> rfl) (by rcases hcd with rfl | rfl <;> rfl) nb zl (Or.inl (List.mem_of_getElem? (i := 0) rfl)) fun T5 h5 X5 W5 => ?_
  have z5 := W5.size; have Fw5 := F3.same W5
  have F6 := (Fw2.other W5 (Or.inr (slot_ne (Or.inr (w33 hw)) (Or.inr (w31 hw)) (by decide) (t := (.array .byte)) (t' := .byte) (by decide) (by decide))))
  have E_7 := (E_4.wr W5)
  exact g_return X5 d2_14 (by decide) (by decide) ⟨rfl, rfl, E_7, Fw5, F6⟩
set_option maxRecDepth 65536 in
set_option maxHeartbeats 40000000 in
theorem c_valueOfC {nw : Bool} {l : Launch} {Z : State} {EL : List (String × Nat)} {a0 : Array Value} (hw : HW Z a0) (hs : Sts Z) {h0 : Heap} {B0 : BP} (c : Int32) (hc : ¬ 255 < c) :
    Con nw l Z EL (⟨"java/lang/String", "valueOf", "(C)Ljava/lang/String;"⟩ : MethodName) jdk_42_method_139_code 1 (some (.object "java/lang/String")) [] ({ frames := 2, cells := 2, slots := 5, locals := 27 } : Room) #[(.int c)] h0 B0 [] (fun v h B => ∃ a, v = some (.ref a) ∧ B0 = B ∧ h0.size ≤ a ∧ ¬ B a ∧ Str Z h h.size a 0 [lo8 c]) := by
  refine k_intro (Ls := #[.val (.int c)]) (by decide +kernel) rfl fun x T0 X0 => ?_
  obtain ⟨cv, sCS, ncv⟩ := hs.1
  refine g_getstatic X0 d3_0 (w18 hw) Via.refl sCS fun T1 X1 => ?_
  refine g_ifF X1 d3_3 (XT.i0_eq_f ncv) ?_
  refine g_iloadN X1 d3_6 rfl ?_
  refine g_callSp X1 d3_7 (w65 hw) (w66 hw) (w67 hw) (w68 hw) (by decide) pd0 [(.int c)] [] 0 (c_canEncC hw hs c hc) rfl rfl rfl (Nat.le_of_eq rfl) (by decide) (by decide) 0 0 rfl rfl (by decide) (by decide) fun T2 X2 => ?_
  refine g_ifF X2 d3_10 (by decide) ?_
  refine g_new X2 d3_13 (w69 hw) (w5 hw) (w6 hw) 1 4 rfl rfl (by decide) (by decide) fun T3 h3 b3 X3 E3 eb3 nb3 Ex3 D3 => ?_
  have z3 := E3.1; have lt3 : @LT.lt Nat _ b3 h3.size := Ex3.lt; have zl3 : @LE.le Nat _ Z.heap.size b3 := eb3 ▸ X2.szZ; have fr3 : @LE.le Nat _ h0.size b3 := eb3 ▸ X2.sz
  have F3_coder : Fld Z h3 b3 "java/lang/String" "coder" "B" (.int (0 : Int32)) := D3 (Or.inr (w31 hw)) (ty := .byte) (by decide)
  have F3_value : Fld Z h3 b3 "java/lang/String" "value" "[B" .null := D3 (Or.inr (w33 hw)) (ty := (.array .byte)) (by decide)
  refine g_dup X3 d3_16 rfl ?_
  refine g_iloadN X3 d3_17 rfl ?_
  refine g_callS X3 d3_18 (w70 hw) (w71 hw) (w67 hw) (w72 hw) (by decide) pd1 [(.int c)] [(.ref b3), (.ref b3)] 2 (c_toBytesC hw hs c) rfl rfl rfl (Nat.le_of_eq rfl) (by decide) (by decide) 2 5 rfl rfl (by decide) (by decide) (fun _ q => nomatch q) fun v4 T4 h4 B4 X4 K4 M4 q4 => ?_
  obtain ⟨t, rfl, rfl, ft, At⟩ := q4
  have z4 := K4.1
  show Go x (T4.setTop (mkF x.m 21 #[.val (.int c)] [(.ref t), (.ref b3), (.ref b3)]))
  have lt_t := At.lt
  refine g_iconst X4 (0 : Int32) d3_21 (by decide) ?_
  have F5 := (F3_value.keep K4 nin0)
  have F6 := (F3_coder.keep K4 nin0)
  have E_7 := (Ex3.keep K4)
  refine g_callI X4 d3_22 (w73 hw) (w74 hw) (w6 hw) (w75 hw) rfl (by decide) pd2 b3 [(.ref t), (.int (0 : Int32))] [(.ref b3)] 1 (c_initBB hw hs b3 t 0 E_7 F5 F6 nb3 zl3 (Or.inl rfl)) rfl rfl rfl (Nat.le_of_eq rfl) (by decide) (by decide) 2 5 rfl rfl (by decide) (by decide) (k_ws1 ⟨nb3, zl3, (Or.inr fr3)⟩) fun v8 T8 h8 B8 X8 K8 M8 q8 => ?_
  obtain ⟨rfl, rfl, Es, Fc, Fv⟩ := q8
  have z8 := K8.1
  show Go x (T8.setTop (mkF x.m 25 #[.val (.int c)] [(.ref b3)]))
  have A9 := (At.keep K8 (ninS (k_neN (by omega)) nin0))
  exact g_areturn X8 d3_25 rfl rfl rfl (by decide) (by decide) ⟨_, rfl, rfl, fr3, nb3, t, Es.lt, A9.lt, Es, Fc, Fv, A9⟩
set_option maxRecDepth 65536 in
set_option maxHeartbeats 40000000 in
theorem c_compress5 {nw : Bool} {l : Launch} {Z : State} {EL : List (String × Nat)} {a0 : Array Value} (hw : HW Z a0) (hs : Sts Z) {h0 : Heap} {B0 : BP} (a1 a2 : Addr) (cs : List Int32) (Aa : Ay Z h0 a1 .char (cs.map Value.int)) (Ab : Ay Z h0 a2 .byte (List.replicate cs.length (.int 0))) (ne : @Ne Nat a1 a2) (nb : ¬ B0 a2) (zl : Z.heap.size ≤ a2) :
    Con nw l Z EL (⟨"java/lang/StringUTF16", "compress", "([CI[BII)I"⟩ : MethodName) jdk_52_method_21_code 7 (some .int) [] ({ frames := 0, cells := 0, slots := 0, locals := 0 } : Room) #[(.ref a1), (.int (0 : Int32)), (.ref a2), (.int (0 : Int32)), (.int (Int32.ofNat cs.length))] h0 B0 [a2] (fun v h B => ∃ i, i ≤ cs.length ∧ v = some (.int (Int32.ofNat i)) ∧ B0 = B ∧ (∀ c ∈ cs.take i, ¬ 255 < c) ∧ (∀ hi : i < cs.length, 255 < cs[i]) ∧ Ay Z h a2 .byte ((cs.take i).map (fun c => Value.int (lo8 c)) ++ List.replicate (cs.length - i) (.int 0))) := by
  refine k_intro (Ls := #[.val (.ref a1), .val (.int (0 : Int32)), .val (.ref a2), .val (.int (0 : Int32)), .val (.int (Int32.ofNat cs.length)), .unset, .unset]) (by decide +kernel) rfl fun x T0 X0 => ?_
  have hlen : cs.length < 2 ^ 31 := by simpa using Aa.len
  refine g_iconst X0 (0 : Int32) d4_0 (by decide) ?_
  refine g_istore X0 #[.val (.ref a1), .val (.int (0 : Int32)), .val (.ref a2), .val (.int (0 : Int32)), .val (.int (Int32.ofNat cs.length)), .val (.int (0 : Int32)), .unset] d4_1 rfl ?_
  have loop : ∀ (d i : Nat) (hi : i + d = cs.length) (s6 : Slot) (h6 : LS s6) (T : State) (h : Heap) (X : Wk nw l Z EL "java/lang/StringUTF16" jdk_52_method_21_code 7 (some .int) "compress" ({ frames := 0, cells := 0, slots := 0, locals := 0 } : Room) h0 B0 [a2] (fun v h B => ∃ i, i ≤ cs.length ∧ v = some (.int (Int32.ofNat i)) ∧ B0 = B ∧ (∀ c ∈ cs.take i, ¬ 255 < c) ∧ (∀ hi : i < cs.length, 255 < cs[i]) ∧ Ay Z h a2 .byte ((cs.take i).map (fun c => Value.int (lo8 c)) ++ List.replicate (cs.length - i) (.int 0))) x T h B0 0 0) (hlo : ∀ c ∈ cs.take i, ¬ 255 < c) (A : Ay Z h a2 .byte ((cs.take i).map (fun c => Value.int (lo8 c)) ++ List.replicate (cs.length - i) (.int 0))), Go x (T.setTop (mkF x.m 3 #[.val (.ref a1), .val (.int (Int32.ofNat i)), .val (.ref a2), .val (.int (Int32.ofNat i)), .val (.int (Int32.ofNat cs.length)), .val (.int (Int32.ofNat i)), s6] [])) := by
    intro d
    induction d with
    | zero =>
      intro i hi s6 h6 T h X hlo A
      obtain rfl : i = cs.length := by omega
      refine g_iload X d4_3 rfl ?_
      refine g_iload X d4_5 rfl ?_
      refine g_icmpT X d4_7 (XT.ii_ge_t (k_nlt (Nat.le_refl _) hlen)) ?_
      refine g_iload X d4_44 rfl ?_
      exact g_ireturnI X d4_46 (by decide) (by decide) ⟨cs.length, Nat.le_refl _, rfl, rfl, hlo, fun hi => absurd hi (Nat.lt_irrefl _), A⟩
    | succ d ih =>
      intro i hi s6 h6 T h X hlo A
      have hil : i < cs.length := by omega
      refine g_iload X d4_3 rfl ?_
      refine g_iload X d4_5 rfl ?_
      refine g_icmpF X d4_7 (XT.ii_ge_f (k_lt hil hlen)) ?_
      refine g_aloadN X d4_10 rfl rfl ?_
      refine g_iloadN X d4_11 rfl ?_
      have Aa' := Aa.keep X.kept (ninS ne nin0)
      refine g_caload X d4_12 Aa' i rfl (v := .int cs[i]) (by simp [hil]) ?_
      refine g_istore X #[.val (.ref a1), .val (.int (Int32.ofNat i)), .val (.ref a2), .val (.int (Int32.ofNat i)), .val (.int (Int32.ofNat cs.length)), .val (.int (Int32.ofNat i)), .val (.int (cs[i]))] d4_13 (by rcases h6 with rfl | ⟨u, rfl⟩ <;> rfl) ?_
      refine g_iload X d4_15 rfl ?_
      refine g_sipush X (255 : Int32) d4_17 (by decide) ?_
      by_cases hb : (255 : Int32) < (cs[i])
      ·
        refine g_icmpF X d4_20 (XT.ii_le_f hb) ?_
        refine g_iload X d4_23 rfl ?_
        exact g_ireturnI X d4_25 (by decide) (by decide) ⟨i, Nat.le_of_lt hil, rfl, rfl, hlo, fun _ => hb, A⟩
      ·
        refine g_icmpT X d4_20 (XT.ii_le_t hb) ?_
        refine g_aloadN X d4_26 rfl rfl ?_
        refine g_iloadN X d4_27 rfl ?_
        refine g_iload X d4_28 rfl ?_
        refine g_i2b X (lo8 cs[i]) d4_30 rfl ?_
        refine g_bastore X d4_31 A i rfl (lo8 cs[i]) (nar_b8 _) (by simp; omega) nb zl (Or.inl (List.mem_of_getElem? (i := 0) rfl)) fun T1 h1 X1 K1 A1 => ?_
        have z1 := K1.1
        rw [k_fill cs lo8 i hil] at A1
        refine g_iinc X1 #[.val (.ref a1), .val (.int (Int32.ofNat (i + 1))), .val (.ref a2), .val (.int (Int32.ofNat i)), .val (.int (Int32.ofNat cs.length)), .val (.int (Int32.ofNat i)), .val (.int (cs[i]))] d4_32 rfl (k_inc i) rfl ?_
        refine g_iinc X1 #[.val (.ref a1), .val (.int (Int32.ofNat (i + 1))), .val (.ref a2), .val (.int (Int32.ofNat (i + 1))), .val (.int (Int32.ofNat cs.length)), .val (.int (Int32.ofNat i)), .val (.int (cs[i]))] d4_35 rfl (k_inc i) rfl ?_
        refine g_iinc X1 #[.val (.ref a1), .val (.int (Int32.ofNat (i + 1))), .val (.ref a2), .val (.int (Int32.ofNat (i + 1))), .val (.int (Int32.ofNat cs.length)), .val (.int (Int32.ofNat (i + 1))), .val (.int (cs[i]))] d4_38 rfl (k_inc i) rfl ?_
        refine g_goto X1 d4_41 ?_
        refine ih (i + 1) (by omega) (.val (.int cs[i])) (Or.inr ⟨_, rfl⟩) T1 h1 X1 ?_ A1
        intro c hc
        rw [List.take_succ_eq_append_getElem hil] at hc
        rcases List.mem_append.mp hc with q | q
        · exact hlo c q
        · rw [List.mem_singleton.mp q]; exact hb
  exact loop cs.length 0 (by omega) .unset (Or.inl rfl) T0 h0 X0 (fun c q => by simp at q) (by simpa using Ab)
set_option maxRecDepth 65536 in
set_option maxHeartbeats 40000000 in
theorem c_compress3L {nw : Bool} {l : Launch} {Z : State} {EL : List (String × Nat)} {a0 : Array Value} (hw : HW Z a0) (hs : Sts Z) {h0 : Heap} {B0 : BP} (a1 : Addr) (cs : List Int32) (Aa : Ay Z h0 a1 .char (cs.map Value.int)) (hcap : cs.length ≤ 2) (hlat : ∀ c ∈ cs, ¬ 255 < c) :
    Con nw l Z EL (⟨"java/lang/StringUTF16", "compress", "([CII)[B"⟩ : MethodName) jdk_52_method_16_code 6 (some (.array .byte)) [] ({ frames := 1, cells := 1, slots := 2, locals := 18 } : Room) #[(.ref a1), (.int (0 : Int32)), (.int (Int32.ofNat cs.length))] h0 B0 [] (fun v h B => ∃ t, v = some (.ref t) ∧ B0 = B ∧ h0.size ≤ t ∧ Ay Z h t .byte ((cs.map lo8).map Value.int)) := by
  refine k_intro (Ls := #[.val (.ref a1), .val (.int (0 : Int32)), .val (.int (Int32.ofNat cs.length)), .unset, .unset, .unset]) (by decide +kernel) rfl fun x T0 X0 => ?_
  have hlen : cs.length < 2 ^ 31 := by omega
  have lt_a1 := Aa.lt
  refine g_iloadN X0 d5_0 rfl ?_
  refine g_newarray X0 d5_1 rfl (w23 hw) cs.length 2 rfl hcap (by decide) 1 2 rfl rfl (by decide) (by decide) fun T1 h1 b1 X1 E1 eb1 nb1 A1 => ?_
  have z1 := E1.1; have lt1 : @LT.lt Nat _ b1 h1.size := A1.lt; have zl1 : @LE.le Nat _ Z.heap.size b1 := eb1 ▸ X0.szZ; have fr1 : @LE.le Nat _ h0.size b1 := eb1 ▸ X0.sz
  refine g_astoreN X1 #[.val (.ref a1), .val (.int (0 : Int32)), .val (.int (Int32.ofNat cs.length)), .val (.ref b1), .unset, .unset] d5_3 rfl rfl ?_
  refine g_aloadN X1 d5_4 rfl rfl ?_
  refine g_iloadN X1 d5_5 rfl ?_
  refine g_aloadN X1 d5_6 rfl rfl ?_
  refine g_iconst X1 (0 : Int32) d5_7 (by decide) ?_
  refine g_iloadN X1 d5_8 rfl ?_
  have A2 := (Aa.ext E1)
  refine g_callS X1 d5_9 (w24 hw) (w25 hw) (w21 hw) (w26 hw) (by decide) pd3 [(.ref a1), (.int (0 : Int32)), (.ref b1), (.int (0 : Int32)), (.int (Int32.ofNat cs.length))] [] 0 (c_compress5 hw hs a1 b1 cs A2 A1 (k_neN (by omega)) nb1 zl1) rfl rfl rfl (Nat.le_of_eq rfl) (by decide) (by decide) 1 2 rfl rfl (by decide) (by decide) (k_ws1 ⟨nb1, zl1, (Or.inr fr1)⟩) fun v3 T3 h3 B3 X3 K3 M3 q3 => ?_
  obtain ⟨i, hi, rfl, rfl, hlo, hhi, At⟩ := q3
  have z3 := K3.1
  show Go x (T3.setTop (mkF x.m 12 #[.val (.ref a1), .val (.int (0 : Int32)), .val (.int (Int32.ofNat cs.length)), .val (.ref b1), .unset, .unset] [(.int (Int32.ofNat i))]))
  obtain rfl : i = cs.length := by
    rcases Nat.lt_or_ge i cs.length with q | q
    · exact absurd (hhi q) (hlat _ (List.getElem_mem q))
    · omega
  refine g_istore X3 #[.val (.ref a1), .val (.int (0 : Int32)), .val (.int (Int32.ofNat cs.length)), .val (.ref b1), .val (.int (Int32.ofNat cs.length)), .unset] d5_12 rfl ?_
  refine g_iload X3 d5_14 rfl ?_
  refine g_iloadN X3 d5_16 rfl ?_
  refine g_icmpT X3 d5_17 (XT.ii_eq_t rfl) ?_
  refine g_aloadN X3 d5_57 rfl rfl ?_
  exact g_areturn X3 d5_58 rfl rfl rfl (by decide) (by decide) ⟨_, rfl, rfl, fr1, by simp at At; rw [List.map_map]; exact At⟩
set_option maxRecDepth 65536 in
set_option maxHeartbeats 40000000 in
theorem c_coderL {nw : Bool} {l : Launch} {Z : State} {EL : List (String × Nat)} {a0 : Array Value} (hw : HW Z a0) (hs : Sts Z) {h0 : Heap} {B0 : BP} (t : Addr) (vs : List Value) (A : Ay Z h0 t .byte vs) :
    Con nw l Z EL (⟨"java/lang/StringUTF16", "coderFromArrayLen", "([BI)B"⟩ : MethodName) jdk_52_method_15_code 2 (some .byte) [] ({ frames := 0, cells := 0, slots := 0, locals := 0 } : Room) #[(.ref t), (.int (Int32.ofNat vs.length))] h0 B0 [] (PQ (some (.int (0 : Int32))) h0 B0) := by
  refine k_intro (Ls := #[.val (.ref t), .val (.int (Int32.ofNat vs.length))]) (by decide +kernel) rfl fun x T0 X0 => ?_
  refine g_iloadN X0 d6_0 rfl ?_
  refine g_aloadN X0 d6_1 rfl rfl ?_
  refine g_arraylength X0 d6_2 A _ rfl ?_
  refine g_isub X0 (0 : Int32) d6_3 (by simp) ?_
  refine g_bipush X0 (31 : Int32) d6_4 (by decide) ?_
  refine g_iushr X0 (0 : Int32) d6_6 (by decide) ?_
  refine g_i2b X0 (0 : Int32) d6_7 (by decide) ?_
  exact g_ireturn (w' := (0 : Int32)) X0 d6_8 (Or.inr (Or.inl rfl)) (by decide) (by decide) (by decide) ⟨rfl, rfl, rfl⟩
set_option maxRecDepth 65536 in
set_option maxHeartbeats 40000000 in
theorem c_initCIIL {nw : Bool} {l : Launch} {Z : State} {EL : List (String × Nat)} {a0 : Array Value} (hw : HW Z a0) (hs : Sts Z) {h0 : Heap} {B0 : BP} (a a1 : Addr) (cs : List Int32) (E_a : Exa Z h0 a "java/lang/String") {u_value : Value} (F_value : Fld Z h0 a "java/lang/String" "value" "[B" u_value) {u_coder : Value} (F_coder : Fld Z h0 a "java/lang/String" "coder" "B" u_coder) (nb : ¬ B0 a) (zl : Z.heap.size ≤ a) (Aa : Ay Z h0 a1 .char (cs.map Value.int)) (ne : @Ne Nat a a1) (hne : cs ≠ []) (hcap : cs.length ≤ 2) (hlat : ∀ c ∈ cs, ¬ 255 < c) :
    Con nw l Z EL (⟨"java/lang/String", "<init>", "([CIILjava/lang/Void;)V"⟩ : MethodName) jdk_42_method_149_code 6 none [] ({ frames := 2, cells := 1, slots := 2, locals := 35 } : Room) #[(.ref a), (.ref a1), (.int (0 : Int32)), (.int (Int32.ofNat cs.length)), .null] h0 B0 [a] (fun v h B => v = none ∧ B0 = B ∧ Str Z h h.size a 0 (cs.map lo8)) := by
  refine k_intro (Ls := #[.val (.ref a), .val (.ref a1), .val (.int (0 : Int32)), .val (.int (Int32.ofNat cs.length)), .val .null, .unset]) (by decide +kernel) rfl fun x T0 X0 => ?_
  have hlen : cs.length < 2 ^ 31 := by omega
  have hpos : 0 < cs.length := List.length_pos_iff.mpr hne
  have lt_a1 := Aa.lt
  obtain ⟨cv, sCS, ncv⟩ := hs.1
  have lt_a := k_ltE E_a
  refine g_aloadN X0 d7_0 rfl rfl ?_
  refine g_init X0 d7_1 rfl rfl (w15 hw) (w16 hw) (w17 hw) 0 rfl (by decide) (Nat.le_of_eq rfl) (by decide) fun T1 X1 => ?_
  refine g_iloadN X1 d7_4 rfl ?_
  refine g_ifT X1 d7_5 (XT.i0_ne_t (fun q => absurd ((k_eqn hlen (by decide)).mp (show Int32.ofNat cs.length = Int32.ofNat 0 from q)) (by omega))) ?_
  refine g_getstatic X1 d7_27 (w18 hw) Via.refl sCS fun T2 X2 => ?_
  refine g_ifF X2 d7_30 (XT.i0_eq_f ncv) ?_
  refine g_aloadN X2 d7_33 rfl rfl ?_
  refine g_iloadN X2 d7_34 rfl ?_
  refine g_iloadN X2 d7_35 rfl ?_
  refine g_callS X2 d7_36 (w19 hw) (w20 hw) (w21 hw) (w22 hw) (by decide) pd4 [(.ref a1), (.int (0 : Int32)), (.int (Int32.ofNat cs.length))] [] 0 (c_compress3L hw hs a1 cs Aa hcap hlat) rfl rfl rfl (Nat.le_of_eq rfl) (by decide) (by decide) 1 2 rfl rfl (by decide) (by decide) (fun _ q => nomatch q) fun v3 T3 h3 B3 X3 K3 M3 q3 => ?_
  obtain ⟨t, rfl, rfl, ft, At⟩ := q3
  have z3 := K3.1
  show Go x (T3.setTop (mkF x.m 39 #[.val (.ref a), .val (.ref a1), .val (.int (0 : Int32)), .val (.int (Int32.ofNat cs.length)), .val .null, .unset] [(.ref t)]))
  have lt_t := At.lt
  refine g_astore X3 #[.val (.ref a), .val (.ref a1), .val (.int (0 : Int32)), .val (.int (Int32.ofNat cs.length)), .val .null, .val (.ref t)] d7_39 rfl rfl ?_
  refine g_aloadN X3 d7_41 rfl rfl ?_
  refine g_aload X3 d7_42 rfl rfl ?_
  refine g_iloadN X3 d7_44 rfl ?_
  have hl2 : ((cs.map lo8).map Value.int).length = cs.length := by simp
  refine g_callSp X3 d7_45 (w27 hw) (w28 hw) (w21 hw) (w29 hw) (by decide) pd5 [(.ref t), (.int (Int32.ofNat cs.length))] [(.ref a)] 1 (hl2 ▸ c_coderL hw hs t ((cs.map lo8).map Value.int) At) rfl rfl rfl (Nat.le_of_eq rfl) (by decide) (by decide) 1 2 rfl rfl (by decide) (by decide) fun T4 X4 => ?_
  have F5 := (F_coder.keep K3 nin0)
  have E_6 := (E_a.keep K3)
  refine g_putfield X4 d7_48 (w30 hw) Via.refl F5 E_6 (Or.inr ⟨(w31 hw), rfl, rfl⟩) (w5 hw) (ty := .byte) (v' := (.int (0 : Int32))) (by decide) rfl rfl nb zl (Or.inl (List.mem_of_getElem? (i := 0) rfl)) fun T7 h7 X7 W7 => ?_
  have z7 := W7.size; have Fw7 := F5.same W7
  refine g_aloadN X7 d7_51 rfl rfl ?_
  refine g_aload X7 d7_52 rfl rfl ?_
  have F8 := ((F_value.keep K3 nin0).other W7 (Or.inr (slot_ne (Or.inr (w33 hw)) (Or.inr (w31 hw)) (by decide) (t := (.array .byte)) (t' := .byte) (by decide) (by decide))))
  have E_9 := (E_6.wr W7)
  refine g_putfield X7 d7_54 (w32 hw) Via.refl F8 E_9 (Or.inr ⟨(w33 hw), rfl, rfl⟩) (w5 hw) (ty := (.array .byte)) (v' := (.ref t)) (by decide) rfl rfl nb zl (Or.inl (List.mem_of_getElem? (i := 0) rfl)) fun T10 h10 X10 W10 => ?_
  have z10 := W10.size; have Fw10 := F8.same W10
  have E_11 := (E_9.wr W10)
  have F12 := (Fw7.other W10 (Or.inr (slot_ne (Or.inr (w31 hw)) (Or.inr (w33 hw)) (by decide) (t := .byte) (t' := (.array .byte)) (by decide) (by decide))))
  have A13 := ((At.keep (Keep.of_wr W7) (ninS (k_neN (by omega)) nin0)).keep (Keep.of_wr W10) (ninS (k_neN (by omega)) nin0))
  exact g_return X10 d7_57 (by decide) (by decide) ⟨rfl, rfl, t, E_11.lt, A13.lt, E_11, F12, Fw10, A13⟩
set_option maxRecDepth 65536 in
set_option maxHeartbeats 40000000 in
theorem c_initCL {nw : Bool} {l : Launch} {Z : State} {EL : List (String × Nat)} {a0 : Array Value} (hw : HW Z a0) (hs : Sts Z) {h0 : Heap} {B0 : BP} (a a1 : Addr) (cs : List Int32) (E_a : Exa Z h0 a "java/lang/String") {u_value : Value} (F_value : Fld Z h0 a "java/lang/String" "value" "[B" u_value) {u_coder : Value} (F_coder : Fld Z h0 a "java/lang/String" "coder" "B" u_coder) (nb : ¬ B0 a) (zl : Z.heap.size ≤ a) (Aa : Ay Z h0 a1 .char (cs.map Value.int)) (ne : @Ne Nat a a1) (hne : cs ≠ []) (hcap : cs.length ≤ 2) (hlat : ∀ c ∈ cs, ¬ 255 < c) :
    Con nw l Z EL (⟨"java/lang/String", "<init>", "([C)V"⟩ : MethodName) jdk_42_method_3_code 2 none [] ({ frames := 3, cells := 1, slots := 2, locals := 52 } : Room) #[(.ref a), (.ref a1)] h0 B0 [a] (fun v h B => v = none ∧ B0 = B ∧ Str Z h h.size a 0 (cs.map lo8)) := by
  refine k_intro (Ls := #[.val (.ref a), .val (.ref a1)]) (by decide +kernel) rfl fun x T0 X0 => ?_
  have lt_a := k_ltE E_a
  refine g_aloadN X0 d8_0 rfl rfl ?_
  refine g_aloadN X0 d8_1 rfl rfl ?_
  refine g_iconst X0 (0 : Int32) d8_2 (by decide) ?_
  refine g_aloadN X0 d8_3 rfl rfl ?_
  refine g_arraylength X0 d8_4 Aa (Int32.ofNat cs.length) (by simp) ?_
  refine g_aconst_null X0 d8_5 ?_
  refine g_callI X0 d8_6 (w11 hw) (w12 hw) (w6 hw) (w14 hw) rfl (by decide) pd6 a [(.ref a1), (.int (0 : Int32)), (.int (Int32.ofNat cs.length)), .null] [] 0 (c_initCIIL hw hs a a1 cs E_a F_value F_coder nb zl Aa ne hne hcap hlat) rfl rfl rfl (Nat.le_of_eq rfl) (by decide) (by decide) 1 2 rfl rfl (by decide) (by decide) (k_ws1 ⟨nb, zl, (Or.inl (List.mem_of_getElem? (i := 0) rfl))⟩) fun v1 T1 h1 B1 X1 K1 M1 q1 => ?_
  obtain ⟨rfl, rfl, S⟩ := q1
  have z1 := K1.1
  show Go x (T1.setTop (mkF x.m 9 #[.val (.ref a), .val (.ref a1)] []))
  exact g_return X1 d8_9 (by decide) (by decide) ⟨rfl, rfl, S⟩
set_option maxRecDepth 65536 in
set_option maxHeartbeats 40000000 in
theorem c_equalsL1 {nw : Bool} {l : Launch} {Z : State} {EL : List (String × Nat)} {a0 : Array Value} (hw : HW Z a0) (hs : Sts Z) {h0 : Heap} {B0 : BP} (t1 t2 : Addr) (bs cs : List Int32) (Aa : Ay Z h0 t1 .byte (bs.map Value.int)) (Ab : Ay Z h0 t2 .byte (cs.map Value.int)) :
    Con nw l Z EL (⟨"java/lang/StringLatin1", "equals", "([B[B)Z"⟩ : MethodName) jdk_43_method_13_code 3 (some .boolean) [] ({ frames := 0, cells := 0, slots := 0, locals := 0 } : Room) #[(.ref t1), (.ref t2)] h0 B0 [] (PQ (some (.int (if bs = cs then 1 else 0))) h0 B0) := by
  refine k_intro (Ls := #[.val (.ref t1), .val (.ref t2), .unset]) (by decide +kernel) rfl fun x T0 X0 => ?_
  have l1 : bs.length < 2 ^ 31 := by simpa using Aa.len
  have l2 : cs.length < 2 ^ 31 := by simpa using Ab.len
  refine g_aloadN X0 d9_0 rfl rfl ?_
  refine g_arraylength X0 d9_1 Aa (Int32.ofNat bs.length) (by simp) ?_
  refine g_aloadN X0 d9_2 rfl rfl ?_
  refine g_arraylength X0 d9_3 Ab (Int32.ofNat cs.length) (by simp) ?_
  by_cases hl : (Int32.ofNat bs.length) = (Int32.ofNat cs.length)
  ·
    refine g_icmpF X0 d9_4 (XT.ii_ne_f hl) ?_
    have hl' : bs.length = cs.length := (k_eqn l1 l2).mp hl
    refine g_iconst X0 (0 : Int32) d9_7 (by decide) ?_
    refine g_istoreN X0 #[.val (.ref t1), .val (.ref t2), .val (.int (0 : Int32))] d9_8 rfl ?_
    have loop : ∀ (d i : Nat) (hi : i + d = bs.length) (he : bs.take i = cs.take i), Go x (T0.setTop (mkF x.m 9 #[.val (.ref t1), .val (.ref t2), .val (.int (Int32.ofNat i))] [])) := by
      intro d
      induction d with
      | zero =>
        intro i hi he
        obtain rfl : i = bs.length := by omega
        refine g_iloadN X0 d9_9 rfl ?_
        refine g_aloadN X0 d9_10 rfl rfl ?_
        refine g_arraylength X0 d9_11 Aa (Int32.ofNat bs.length) (by simp) ?_
        refine g_icmpT X0 d9_12 (XT.ii_ge_t (k_nlt (Nat.le_refl _) l1)) ?_
        refine g_iconst X0 (1 : Int32) d9_32 (by decide) ?_
        have hbc : bs = cs := by
          rw [List.take_length] at he
          rw [he, hl', List.take_length]
        exact g_ireturn (w' := (1 : Int32)) X0 d9_33 (Or.inl rfl) (by decide) (by decide) (by decide) ⟨by rw [if_pos hbc], rfl, rfl⟩
      | succ d ih =>
        intro i hi he
        have h1 : i < bs.length := by omega
        have h2 : i < cs.length := by omega
        refine g_iloadN X0 d9_9 rfl ?_
        refine g_aloadN X0 d9_10 rfl rfl ?_
        refine g_arraylength X0 d9_11 Aa (Int32.ofNat bs.length) (by simp) ?_
        refine g_icmpF X0 d9_12 (XT.ii_ge_f (k_lt h1 l1)) ?_
        refine g_aloadN X0 d9_15 rfl rfl ?_
        refine g_iloadN X0 d9_16 rfl ?_
        refine g_baload X0 d9_17 Aa i rfl (v := .int bs[i]) (by simp [h1]) ?_
        refine g_aloadN X0 d9_18 rfl rfl ?_
        refine g_iloadN X0 d9_19 rfl ?_
        refine g_baload X0 d9_20 Ab i rfl (v := .int cs[i]) (by simp [h2]) ?_
        by_cases hb : (bs[i]) = (cs[i])
        ·
          refine g_icmpT X0 d9_21 (XT.ii_eq_t hb) ?_
          refine g_iinc X0 #[.val (.ref t1), .val (.ref t2), .val (.int (Int32.ofNat (i + 1)))] d9_26 rfl (k_inc i) rfl ?_
          refine g_goto X0 d9_29 ?_
          exact ih (i + 1) (by omega) (by rw [List.take_succ_eq_append_getElem h1, List.take_succ_eq_append_getElem h2, he, hb])
        ·
          refine g_icmpF X0 d9_21 (XT.ii_eq_f hb) ?_
          refine g_iconst X0 (0 : Int32) d9_24 (by decide) ?_
          exact g_ireturn (w' := (0 : Int32)) X0 d9_25 (Or.inl rfl) (by decide) (by decide) (by decide) ⟨by rw [if_neg (fun e => hb (by simp [e]))], rfl, rfl⟩
    exact loop bs.length 0 (by omega) (by simp)
  ·
    refine g_icmpT X0 d9_4 (XT.ii_ne_t hl) ?_
    refine g_iconst X0 (0 : Int32) d9_34 (by decide) ?_
    exact g_ireturn (w' := (0 : Int32)) X0 d9_35 (Or.inl rfl) (by decide) (by decide) (by decide) ⟨by rw [if_neg (fun e => hl (by rw [e]))], rfl, rfl⟩
set_option maxRecDepth 65536 in
set_option maxHeartbeats 40000000 in
theorem c_equalsS {nw : Bool} {l : Launch} {Z : State} {EL : List (String × Nat)} {a0 : Array Value} (hw : HW Z a0) (hs : Sts Z) {h0 : Heap} {B0 : BP} (a b : Addr) (bs cs : List Int32) (S : StrV Z h0 a 0 bs) (S' : StrV Z h0 b 0 cs) :
    Con nw l Z EL (⟨"java/lang/String", "equals", "(Ljava/lang/Object;)Z"⟩ : MethodName) jdk_42_method_66_code 3 (some .boolean) [] ({ frames := 1, cells := 0, slots := 0, locals := 14 } : Room) #[(.ref a), (.ref b)] h0 B0 [] (PQ (some (.int (if bs = cs then 1 else 0))) h0 B0) := by
  refine k_intro (Ls := #[.val (.ref a), .val (.ref b), .unset]) (by decide +kernel) rfl fun x T0 X0 => ?_
  obtain ⟨cv, sCS, ncv⟩ := hs.1
  obtain ⟨t_a, E_a, Fc_a, Fv_a, A_a⟩ := S.op
  obtain ⟨t_b, E_b, Fc_b, Fv_b, A_b⟩ := S'.op
  refine g_aloadN X0 d10_0 rfl rfl ?_
  refine g_aloadN X0 d10_1 rfl rfl ?_
  by_cases hab : (.ref a : Value) = .ref b
  ·
    refine g_acmpF X0 d10_2 rfl rfl (XT.aa_ne_f hab) ?_
    refine g_iconst X0 (1 : Int32) d10_5 (by decide) ?_
    cases hab
    exact g_ireturn (w' := (1 : Int32)) X0 d10_6 (Or.inl rfl) (by decide) (by decide) (by decide) ⟨by rw [if_pos (S.uniq S')], rfl, rfl⟩
  ·
    refine g_acmpT X0 d10_2 rfl rfl (XT.aa_ne_t hab) ?_
    refine g_aloadN X0 d10_7 rfl rfl ?_
    refine g_instY X0 d10_8 (w69 hw) (Ins.self E_b) fun T1 X1 => ?_
    refine g_ifF X1 d10_11 (by decide) ?_
    refine g_aloadN X1 d10_14 rfl rfl ?_
    refine g_castY X1 d10_15 (w69 hw) (Ins.self E_b) fun T2 X2 => ?_
    refine g_astoreN X2 #[.val (.ref a), .val (.ref b), .val (.ref b)] d10_18 rfl rfl ?_
    refine g_getstatic X2 d10_19 (w18 hw) Via.refl sCS fun T3 X3 => ?_
    refine g_ifF X3 d10_22 (XT.i0_eq_f ncv) ?_
    refine g_aloadN X3 d10_25 rfl rfl ?_
    refine g_getfield X3 d10_26 (w30 hw) Via.refl Fc_a fun T4 X4 => ?_
    refine g_aloadN X4 d10_29 rfl rfl ?_
    refine g_getfield X4 d10_30 (w30 hw) Via.refl Fc_b fun T5 X5 => ?_
    refine g_icmpF X5 d10_33 (by decide) ?_
    refine g_aloadN X5 d10_36 rfl rfl ?_
    refine g_getfield X5 d10_37 (w32 hw) Via.refl Fv_a fun T6 X6 => ?_
    refine g_aloadN X6 d10_40 rfl rfl ?_
    refine g_getfield X6 d10_41 (w32 hw) Via.refl Fv_b fun T7 X7 => ?_
    refine g_callSp X7 d10_44 (w76 hw) (w77 hw) (w67 hw) (w78 hw) (by decide) pd7 [(.ref t_a), (.ref t_b)] [] 0 (c_equalsL1 hw hs t_a t_b bs cs A_a A_b) rfl rfl rfl (Nat.le_of_eq rfl) (by decide) (by decide) 0 0 rfl rfl (by decide) (by decide) fun T8 X8 => ?_
    by_cases hb : bs = cs
    ·
      refine g_ifF X8 d10_47 (XT.i0_eq_f (by rw [if_pos hb]; decide)) ?_
      refine g_iconst X8 (1 : Int32) d10_50 (by decide) ?_
      refine g_goto X8 d10_51 ?_
      exact g_ireturn (w' := (1 : Int32)) X8 d10_55 (Or.inl rfl) (by decide) (by decide) (by decide) ⟨by rw [if_pos hb], rfl, rfl⟩
    ·
      refine g_ifT X8 d10_47 (XT.i0_eq_t (by rw [if_neg hb])) ?_
      refine g_iconst X8 (0 : Int32) d10_54 (by decide) ?_
      exact g_ireturn (w' := (0 : Int32)) X8 d10_55 (Or.inl rfl) (by decide) (by decide) (by decide) ⟨by rw [if_neg hb], rfl, rfl⟩
set_option maxRecDepth 65536 in
set_option maxHeartbeats 40000000 in
theorem c_initCIIE {l : Launch} {Z : State} {EL : List (String × Nat)} {a0 : Array Value} (hw : HW Z a0) (hs : Sts Z) {h0 : Heap} {B0 : BP} (a a1 : Addr) (E_a : Exa Z h0 a "java/lang/String") {u_value : Value} (F_value : Fld Z h0 a "java/lang/String" "value" "[B" u_value) {u_coder : Value} (F_coder : Fld Z h0 a "java/lang/String" "coder" "B" u_coder) (nb : ¬ B0 a) (zl : Z.heap.size ≤ a) (hE : ("java/lang/String", 7) ∈ EL) :
    Con false l Z EL (⟨"java/lang/String", "<init>", "([CIILjava/lang/Void;)V"⟩ : MethodName) jdk_42_method_149_code 6 none [] ({ frames := 1, cells := 4, slots := 8, locals := 12 } : Room) #[(.ref a), (.ref a1), (.int (0 : Int32)), (.int (0 : Int32)), .null] h0 B0 [a] (fun v h B => v = none ∧ Str Z h h.size a 0 []) := by
  refine k_intro (Ls := #[.val (.ref a), .val (.ref a1), .val (.int (0 : Int32)), .val (.int (0 : Int32)), .val .null, .unset]) (by decide +kernel) rfl fun x T0 X0 => ?_
  have lt_a := k_ltE E_a
  refine g_aloadN X0 d7_0 rfl rfl ?_
  refine g_init X0 d7_1 rfl rfl (w15 hw) (w16 hw) (w17 hw) 0 rfl (by decide) (Nat.le_of_eq rfl) (by decide) fun T1 X1 => ?_
  refine g_iloadN X1 d7_4 rfl ?_
  refine g_ifF X1 d7_5 (by decide) ?_
  refine g_aloadN X1 d7_8 rfl rfl ?_
  refine g_ldcC X1 rfl d7_9 (w34 hw) (strAtoms hw) hE ([] : List Int32) (by decide) (by decide +kernel) 0 (by decide) (by decide) 2 4 rfl rfl (by decide) (by decide) fun T2 h2 B2 s2 t2 X2 E2 M2 Es2 Fc2 Fv2 At2 ls2 lt2 hn2 => ?_
  have z2 := E2.1
  refine g_getfield X2 d7_11 (w32 hw) Via.refl Fv2 fun T3 X3 => ?_
  have nb4 : ¬ B2 a := (M2.no nb (by omega))
  have F5 := (F_value.ext E2)
  have E_6 := (E_a.ext E2)
  refine g_putfield X3 d7_14 (w32 hw) Via.refl F5 E_6 (Or.inr ⟨(w33 hw), rfl, rfl⟩) (w5 hw) (ty := (.array .byte)) (v' := (.ref t2)) (by decide) rfl rfl nb4 zl (Or.inl (List.mem_of_getElem? (i := 0) rfl)) fun T7 h7 X7 W7 => ?_
  have z7 := W7.size; have Fw7 := F5.same W7
  refine g_aloadN X7 d7_17 rfl rfl ?_
  refine g_ldcC X7 rfl d7_18 (w34 hw) (strAtoms hw) hE ([] : List Int32) (by decide) (by decide +kernel) 0 (by decide) (by decide) 4 8 rfl rfl (by decide) (by decide) fun T8 h8 B8 s8 t8 X8 E8 M8 Es8 Fc8 Fv8 At8 ls8 lt8 hn8 => ?_
  have z8 := E8.1
  refine g_getfield X8 d7_20 (w30 hw) Via.refl Fc8 fun T9 X9 => ?_
  have F10 := (((F_coder.ext E2).other W7 (Or.inr (slot_ne (Or.inr (w31 hw)) (Or.inr (w33 hw)) (by decide) (t := .byte) (t' := (.array .byte)) (by decide) (by decide)))).ext E8)
  have E_11 := ((E_6.wr W7).ext E8)
  have nb12 : ¬ B8 a := (M8.no nb4 (by omega))
  refine g_putfield X9 d7_23 (w30 hw) Via.refl F10 E_11 (Or.inr ⟨(w31 hw), rfl, rfl⟩) (w5 hw) (ty := .byte) (v' := (.int (0 : Int32))) (by decide) rfl rfl nb12 zl (Or.inl (List.mem_of_getElem? (i := 0) rfl)) fun T13 h13 X13 W13 => ?_
  have z13 := W13.size; have Fw13 := F10.same W13
  have E_14 := (E_11.wr W13)
  have F15 := ((Fw7.ext E8).other W13 (Or.inr (slot_ne (Or.inr (w33 hw)) (Or.inr (w31 hw)) (by decide) (t := (.array .byte)) (t' := .byte) (by decide) (by decide))))
  have A16 := (((At2.keep (Keep.of_wr W7) (ninS (Ne.symm (hn2 a nb4).2) nin0)).ext E8).keep (Keep.of_wr W13) (ninS (Ne.symm (hn2 a nb4).2) nin0))
  exact g_return X13 d7_26 (by decide) (by decide) ⟨rfl, t2, E_14.lt, A16.lt, E_14, Fw13, F15, A16⟩
set_option maxRecDepth 65536 in
set_option maxHeartbeats 40000000 in
theorem c_initCE {l : Launch} {Z : State} {EL : List (String × Nat)} {a0 : Array Value} (hw : HW Z a0) (hs : Sts Z) {h0 : Heap} {B0 : BP} (a a1 : Addr) (E_a : Exa Z h0 a "java/lang/String") {u_value : Value} (F_value : Fld Z h0 a "java/lang/String" "value" "[B" u_value) {u_coder : Value} (F_coder : Fld Z h0 a "java/lang/String" "coder" "B" u_coder) (nb : ¬ B0 a) (zl : Z.heap.size ≤ a) (Aa : Ay Z h0 a1 .char []) (hE : ("java/lang/String", 7) ∈ EL) :
    Con false l Z EL (⟨"java/lang/String", "<init>", "([C)V"⟩ : MethodName) jdk_42_method_3_code 2 none [] ({ frames := 2, cells := 4, slots := 8, locals := 29 } : Room) #[(.ref a), (.ref a1)] h0 B0 [a] (fun v h B => v = none ∧ Str Z h h.size a 0 []) := by
  refine k_intro (Ls := #[.val (.ref a), .val (.ref a1)]) (by decide +kernel) rfl fun x T0 X0 => ?_
  have lt_a := k_ltE E_a
  refine g_aloadN X0 d8_0 rfl rfl ?_
  refine g_aloadN X0 d8_1 rfl rfl ?_
  refine g_iconst X0 (0 : Int32) d8_2 (by decide) ?_
  refine g_aloadN X0 d8_3 rfl rfl ?_
  refine g_arraylength X0 d8_4 Aa (0 : Int32) (by decide) ?_
  refine g_aconst_null X0 d8_5 ?_
  refine g_callI X0 d8_6 (w11 hw) (w12 hw) (w6 hw) (w14 hw) rfl (by decide) pd6 a [(.ref a1), (.int (0 : Int32)), (.int (0 : Int32)), .null] [] 0 (c_initCIIE hw hs a a1 E_a F_value F_coder nb zl hE) rfl rfl rfl (Nat.le_of_eq rfl) (by decide) (by decide) 4 8 rfl rfl (by decide) (by decide) (k_ws1 ⟨nb, zl, (Or.inl (List.mem_of_getElem? (i := 0) rfl))⟩) fun v1 T1 h1 B1 X1 K1 M1 q1 => ?_
  obtain ⟨rfl, S⟩ := q1
  have z1 := K1.1
  show Go x (T1.setTop (mkF x.m 9 #[.val (.ref a), .val (.ref a1)] []))
  exact g_return X1 d8_9 (by decide) (by decide) ⟨rfl, S⟩
set_option maxRecDepth 65536 in
set_option maxHeartbeats 40000000 in
theorem c_mk {l : Launch} {Z : State} {EL : List (String × Nat)} {a0 : Array Value} (hw : HW Z a0) (hs : Sts Z) {h0 : Heap} {B0 : BP} (n u v : Int32) (hn : n = 0 ∨ n = 1 ∨ n = 2) (hu : C8 u) (hv : C8 v) (hE : ("java/lang/String", 7) ∈ EL) :
    Con false l Z EL (⟨"com/example/lease/lease/KeyEqualsPinLaw", "mk", "(ICC)Ljava/lang/String;"⟩ : MethodName) method_2_code 3 (some (.object "java/lang/String")) [] ({ frames := 4, cells := 6, slots := 12, locals := 66 } : Room) #[(.int n), (.int u), (.int v)] h0 B0 [] (fun r h B => ∃ a, r = some (.ref a) ∧ Str Z h h.size a 0 (mkb n u v)) := by
  refine k_intro (Ls := #[.val (.int n), .val (.int u), .val (.int v)]) (by decide +kernel) rfl fun x T0 X0 => ?_
  refine g_iloadN X0 d11_0 rfl ?_
  by_cases h0n : n = 0
  ·
    refine g_ifF X0 d11_1 (XT.i0_ne_f h0n) ?_
    refine g_new X0 d11_4 (w4 hw) (w5 hw) (w6 hw) 1 4 rfl rfl (by decide) (by decide) fun T1 h1 b1 X1 E1 eb1 nb1 Ex1 D1 => ?_
    have z1 := E1.1; have lt1 : @LT.lt Nat _ b1 h1.size := Ex1.lt; have zl1 : @LE.le Nat _ Z.heap.size b1 := eb1 ▸ X0.szZ; have fr1 : @LE.le Nat _ h0.size b1 := eb1 ▸ X0.sz
    have F1_coder : Fld Z h1 b1 "java/lang/String" "coder" "B" (.int (0 : Int32)) := D1 (Or.inr (w31 hw)) (ty := .byte) (by decide)
    have F1_value : Fld Z h1 b1 "java/lang/String" "value" "[B" .null := D1 (Or.inr (w33 hw)) (ty := (.array .byte)) (by decide)
    refine g_dup X1 d11_7 rfl ?_
    refine g_iconst X1 (0 : Int32) d11_8 (by decide) ?_
    refine g_newarray X1 d11_9 rfl (w7 hw) 0 0 (by decide) (Nat.le_refl _) (by decide) 2 4 rfl rfl (by decide) (by decide) fun T2 h2 b2 X2 E2 eb2 nb2 A2 => ?_
    have z2 := E2.1; have lt2 : @LT.lt Nat _ b2 h2.size := A2.lt; have zl2 : @LE.le Nat _ Z.heap.size b2 := eb2 ▸ X1.szZ; have fr2 : @LE.le Nat _ h0.size b2 := eb2 ▸ X1.sz
    have A2a : Ay Z h2 b2 .char [] := A2
    have E_3 := (Ex1.ext E2)
    have F4 := (F1_value.ext E2)
    have F5 := (F1_coder.ext E2)
    refine g_callI X2 d11_11 (w8 hw) (w9 hw) (w6 hw) (w10 hw) rfl (by decide) pd8 b1 [(.ref b2)] [(.ref b1)] 1 (c_initCE hw hs b1 b2 E_3 F4 F5 nb1 zl1 A2a hE) rfl rfl rfl (Nat.le_of_eq rfl) (by decide) (by decide) 6 12 rfl rfl (by decide) (by decide) (k_ws1 ⟨nb1, zl1, (Or.inr fr1)⟩) fun v6 T6 h6 B6 X6 K6 M6 q6 => ?_
    obtain ⟨rfl, S⟩ := q6
    have z6 := K6.1
    show Go x (T6.setTop (mkF x.m 14 #[.val (.int n), .val (.int u), .val (.int v)] [(.ref b1)]))
    exact g_areturn X6 d11_14 rfl rfl rfl (by decide) (by decide) ⟨_, rfl, by rw [mkb, if_pos h0n]; exact S⟩
  ·
    refine g_ifT X0 d11_1 (XT.i0_ne_t h0n) ?_
    refine g_iloadN X0 d11_15 rfl ?_
    refine g_iconst X0 (1 : Int32) d11_16 (by decide) ?_
    by_cases h1n : n = (1 : Int32)
    ·
      refine g_icmpF X0 d11_17 (XT.ii_ne_f h1n) ?_
      refine g_iloadN X0 d11_20 rfl ?_
      refine g_callS X0 d11_21 (w62 hw) (w63 hw) (w6 hw) (w64 hw) (by decide) pd9 [(.int u)] [] 0 (c_valueOfC hw hs u hu.1) rfl rfl rfl (Nat.le_of_eq rfl) (by decide) (by decide) 2 5 rfl rfl (by decide) (by decide) (fun _ q => nomatch q) fun v7 T7 h7 B7 X7 K7 M7 q7 => ?_
      obtain ⟨a, rfl, rfl, _, _, S⟩ := q7
      have z7 := K7.1
      show Go x (T7.setTop (mkF x.m 24 #[.val (.int n), .val (.int u), .val (.int v)] [(.ref a)]))
      exact g_areturn X7 d11_24 rfl rfl rfl (by decide) (by decide) ⟨_, rfl, by rw [mkb, if_neg h0n, if_pos h1n]; exact S⟩
    ·
      refine g_icmpT X0 d11_17 (XT.ii_ne_t h1n) ?_
      refine g_new X0 d11_25 (w4 hw) (w5 hw) (w6 hw) 1 4 rfl rfl (by decide) (by decide) fun T8 h8 b8 X8 E8 eb8 nb8 Ex8 D8 => ?_
      have z8 := E8.1; have lt8 : @LT.lt Nat _ b8 h8.size := Ex8.lt; have zl8 : @LE.le Nat _ Z.heap.size b8 := eb8 ▸ X0.szZ; have fr8 : @LE.le Nat _ h0.size b8 := eb8 ▸ X0.sz
      have F8_coder : Fld Z h8 b8 "java/lang/String" "coder" "B" (.int (0 : Int32)) := D8 (Or.inr (w31 hw)) (ty := .byte) (by decide)
      have F8_value : Fld Z h8 b8 "java/lang/String" "value" "[B" .null := D8 (Or.inr (w33 hw)) (ty := (.array .byte)) (by decide)
      refine g_dup X8 d11_28 rfl ?_
      refine g_iconst X8 (2 : Int32) d11_29 (by decide) ?_
      refine g_newarray X8 d11_30 rfl (w7 hw) 2 2 (by decide) (Nat.le_refl _) (by decide) 2 6 rfl rfl (by decide) (by decide) fun T9 h9 b9 X9 E9 eb9 nb9 A9 => ?_
      have z9 := E9.1; have lt9 : @LT.lt Nat _ b9 h9.size := A9.lt; have zl9 : @LE.le Nat _ Z.heap.size b9 := eb9 ▸ X8.szZ; have fr9 : @LE.le Nat _ h0.size b9 := eb9 ▸ X8.sz
      have A9a : Ay Z h9 b9 .char [(.int (0 : Int32)), (.int (0 : Int32))] := A9
      refine g_dup X9 d11_32 rfl ?_
      refine g_iconst X9 (0 : Int32) d11_33 (by decide) ?_
      refine g_iloadN X9 d11_34 rfl ?_
      refine g_castore X9 d11_35 A9a 0 (by decide) u (nar_c8 hu) (Nat.le_of_ble_eq_true rfl) nb9 zl9 (Or.inr fr9) fun T10 h10 X10 K10 A10 => ?_
      have z10 := K10.1
      have A10a : Ay Z h10 b9 .char [(.int u), (.int (0 : Int32))] := A10
      refine g_dup X10 d11_36 rfl ?_
      refine g_iconst X10 (1 : Int32) d11_37 (by decide) ?_
      refine g_iloadN X10 d11_38 rfl ?_
      refine g_castore X10 d11_39 A10a 1 (by decide) v (nar_c8 hv) (Nat.le_of_ble_eq_true rfl) nb9 zl9 (Or.inr fr9) fun T11 h11 X11 K11 A11 => ?_
      have z11 := K11.1
      have A11a : Ay Z h11 b9 .char [(.int u), (.int v)] := A11
      have E_12 := (((Ex8.ext E9).keep K10).keep K11)
      have F13 := (((F8_value.ext E9).keep K10 (ninS (k_neN (by omega)) nin0)).keep K11 (ninS (k_neN (by omega)) nin0))
      have F14 := (((F8_coder.ext E9).keep K10 (ninS (k_neN (by omega)) nin0)).keep K11 (ninS (k_neN (by omega)) nin0))
      refine g_callI X11 d11_40 (w8 hw) (w9 hw) (w6 hw) (w10 hw) rfl (by decide) pd8 b8 [(.ref b9)] [(.ref b8)] 1 (c_initCL hw hs b8 b9 [u, v] E_12 F13 F14 nb8 zl8 A11a (k_neN (by omega)) (by simp) (by simp) (by intro c hc; simp only [List.mem_cons, List.not_mem_nil, or_false] at hc; rcases hc with rfl | rfl <;> first | exact hu.1 | exact hv.1)) rfl rfl rfl (Nat.le_of_eq rfl) (by decide) (by decide) 3 8 rfl rfl (by decide) (by decide) (k_ws1 ⟨nb8, zl8, (Or.inr fr8)⟩) fun v15 T15 h15 B15 X15 K15 M15 q15 => ?_
      obtain ⟨rfl, rfl, S⟩ := q15
      have z15 := K15.1
      show Go x (T15.setTop (mkF x.m 43 #[.val (.int n), .val (.int u), .val (.int v)] [(.ref b8)]))
      exact g_areturn X15 d11_43 rfl rfl rfl (by decide) (by decide) ⟨_, rfl, by rw [mkb, if_neg h0n, if_neg h1n]; exact S⟩
set_option maxRecDepth 65536 in
set_option maxHeartbeats 40000000 in
theorem c_keyInit {nw : Bool} {l : Launch} {Z : State} {EL : List (String × Nat)} {a0 : Array Value} (hw : HW Z a0) (hs : Sts Z) {h0 : Heap} {B0 : BP} (a s : Addr) (q : Int64) (E_a : Exa Z h0 a "com/example/lease/lease/Holds$Key") {u_lockName : Value} (F_lockName : Fld Z h0 a "com/example/lease/lease/Holds$Key" "lockName" "Ljava/lang/String;" u_lockName) {u_threadId : Value} (F_threadId : Fld Z h0 a "com/example/lease/lease/Holds$Key" "threadId" "J" u_threadId) (nb : ¬ B0 a) (zl : Z.heap.size ≤ a) :
    Con nw l Z EL (⟨"com/example/lease/lease/Holds$Key", "<init>", "(Ljava/lang/String;J)V"⟩ : MethodName) prog_5_method_1_code 4 none [] ({ frames := 1, cells := 0, slots := 0, locals := 12 } : Room) #[(.ref a), (.ref s), (.long q)] h0 B0 [a] (fun v h B => v = none ∧ B0 = B ∧ Exa Z h a "com/example/lease/lease/Holds$Key" ∧ Fld Z h a "com/example/lease/lease/Holds$Key" "lockName" "Ljava/lang/String;" (.ref s) ∧ Fld Z h a "com/example/lease/lease/Holds$Key" "threadId" "J" (.long q)) := by
  refine k_intro (Ls := #[.val (.ref a), .val (.ref s), .val (.long q), .second]) (by decide +kernel) rfl fun x T0 X0 => ?_
  refine g_aloadN X0 d12_0 rfl rfl ?_
  refine g_init X0 d12_1 rfl rfl (w43 hw) (w16 hw) (w17 hw) 0 rfl (by decide) (Nat.le_of_eq rfl) (by decide) fun T1 X1 => ?_
  refine g_aloadN X1 d12_4 rfl rfl ?_
  refine g_aloadN X1 d12_5 rfl rfl ?_
  refine g_putfield X1 d12_6 (w44 hw) Via.refl F_lockName E_a (Or.inr ⟨(w45 hw), rfl, rfl⟩) (w38 hw) (ty := (.object "java/lang/String")) (v' := (.ref s)) (by decide) rfl rfl nb zl (Or.inl (List.mem_of_getElem? (i := 0) rfl)) fun T2 h2 X2 W2 => ?_
  have z2 := W2.size; have Fw2 := F_lockName.same W2
  refine g_aloadN X2 d12_9 rfl rfl ?_
  refine g_lloadN X2 d12_10 rfl ?_
  have F3 := (F_threadId.other W2 (Or.inr (slot_ne (Or.inr (w47 hw)) (Or.inr (w45 hw)) (by decide) (t := .long) (t' := (.object "java/lang/String")) (by decide) (by decide))))
  have E_4 := (E_a.wr W2)
  refine g_putfield X2 d12_11 (w46 hw) Via.refl F3 E_4 (Or.inr ⟨(w47 hw), rfl, rfl⟩) (w38 hw) (ty := .long) (v' := (.long q)) (by decide) rfl rfl nb zl (Or.inl (List.mem_of_getElem? (i := 0) rfl)) fun T5 h5 X5 W5 => ?_
  have z5 := W5.size; have Fw5 := F3.same W5
  have E_6 := (E_4.wr W5)
  have F7 := (Fw2.other W5 (Or.inr (slot_ne (Or.inr (w45 hw)) (Or.inr (w47 hw)) (by decide) (t := (.object "java/lang/String")) (t' := .long) (by decide) (by decide))))
  exact g_return X5 d12_14 (by decide) (by decide) ⟨rfl, rfl, E_6, F7, Fw5⟩
set_option maxRecDepth 65536 in
set_option maxHeartbeats 40000000 in
theorem c_keyEq {nw : Bool} {l : Launch} {Z : State} {EL : List (String × Nat)} {a0 : Array Value} (hw : HW Z a0) (hs : Sts Z) {h0 : Heap} {B0 : BP} (a b s t : Addr) (q r : Int64) (bs cs : List Int32) (E_b : Exa Z h0 b "com/example/lease/lease/Holds$Key") (L_a : Fld Z h0 a "com/example/lease/lease/Holds$Key" "lockName" "Ljava/lang/String;" (.ref s)) (I_a : Fld Z h0 a "com/example/lease/lease/Holds$Key" "threadId" "J" (.long q)) (L_b : Fld Z h0 b "com/example/lease/lease/Holds$Key" "lockName" "Ljava/lang/String;" (.ref t)) (I_b : Fld Z h0 b "com/example/lease/lease/Holds$Key" "threadId" "J" (.long r)) (S : StrV Z h0 s 0 bs) (S' : StrV Z h0 t 0 cs) :
    Con nw l Z EL (⟨"com/example/lease/lease/Holds$Key", "equals", "(Ljava/lang/Object;)Z"⟩ : MethodName) prog_5_method_4_code 3 (some .boolean) [] ({ frames := 2, cells := 0, slots := 0, locals := 28 } : Room) #[(.ref a), (.ref b)] h0 B0 [] (PQ (some (.int (if r = q ∧ cs = bs then 1 else 0))) h0 B0) := by
  refine k_intro (Ls := #[.val (.ref a), .val (.ref b), .unset]) (by decide +kernel) rfl fun x T0 X0 => ?_
  obtain ⟨_, E_t, _, _, _⟩ := S'.op
  refine g_aloadN X0 d13_0 rfl rfl ?_
  refine g_instY X0 d13_1 (w53 hw) (Ins.self E_b) fun T1 X1 => ?_
  refine g_ifF X1 d13_4 (by decide) ?_
  refine g_aloadN X1 d13_7 rfl rfl ?_
  refine g_castY X1 d13_8 (w53 hw) (Ins.self E_b) fun T2 X2 => ?_
  refine g_astoreN X2 #[.val (.ref a), .val (.ref b), .val (.ref b)] d13_11 rfl rfl ?_
  refine g_aloadN X2 d13_12 rfl rfl ?_
  refine g_getfield X2 d13_13 (w46 hw) Via.refl I_b fun T3 X3 => ?_
  refine g_aloadN X3 d13_16 rfl rfl ?_
  refine g_getfield X3 d13_17 (w46 hw) Via.refl I_a fun T4 X4 => ?_
  refine g_lcmp X4 (XT.cmpL r q) d13_20 rfl ?_
  by_cases hq : r = q
  ·
    refine g_ifF X4 d13_21 (XT.ll_ne_f hq) ?_
    refine g_aloadN X4 d13_24 rfl rfl ?_
    refine g_getfield X4 d13_25 (w44 hw) Via.refl L_b fun T5 X5 => ?_
    refine g_aloadN X5 d13_28 rfl rfl ?_
    refine g_getfield X5 d13_29 (w44 hw) Via.refl L_a fun T6 X6 => ?_
    refine g_callVp X6 d13_32 (w55 hw) (w56 hw) (w58 hw) (w57 hw) (w6 hw) (w59 hw) (by decide) pd10 t [(.ref s)] [] 0 E_t (c_equalsS hw hs t s cs bs S' S) rfl rfl rfl (Nat.le_of_eq rfl) (by decide) (by decide) 0 0 rfl rfl (by decide) (by decide) fun T7 X7 => ?_
    by_cases hb : cs = bs
    ·
      refine g_ifF X7 d13_35 (XT.i0_eq_f (by rw [if_pos hb]; decide)) ?_
      refine g_iconst X7 (1 : Int32) d13_38 (by decide) ?_
      refine g_goto X7 d13_39 ?_
      exact g_ireturn (w' := (1 : Int32)) X7 d13_43 (Or.inl rfl) (by decide) (by decide) (by decide) ⟨by rw [if_pos ⟨hq, hb⟩], rfl, rfl⟩
    ·
      refine g_ifT X7 d13_35 (XT.i0_eq_t (by rw [if_neg hb])) ?_
      refine g_iconst X7 (0 : Int32) d13_42 (by decide) ?_
      exact g_ireturn (w' := (0 : Int32)) X7 d13_43 (Or.inl rfl) (by decide) (by decide) (by decide) ⟨by rw [if_neg (fun e => hb e.2)], rfl, rfl⟩
  ·
    refine g_ifT X4 d13_21 (XT.ll_ne_t hq) ?_
    refine g_iconst X4 (0 : Int32) d13_42 (by decide) ?_
    exact g_ireturn (w' := (0 : Int32)) X4 d13_43 (Or.inl rfl) (by decide) (by decide) (by decide) ⟨by rw [if_neg (fun e => hq e.1)], rfl, rfl⟩
set_option maxRecDepth 65536 in
set_option maxHeartbeats 40000000 in
theorem c_keyEqS {nw : Bool} {l : Launch} {Z : State} {EL : List (String × Nat)} {a0 : Array Value} (hw : HW Z a0) (hs : Sts Z) {h0 : Heap} {B0 : BP} (a b : Addr) (E_b : Exa Z h0 b "java/lang/String") :
    Con nw l Z EL (⟨"com/example/lease/lease/Holds$Key", "equals", "(Ljava/lang/Object;)Z"⟩ : MethodName) prog_5_method_4_code 3 (some .boolean) [] ({ frames := 0, cells := 0, slots := 0, locals := 0 } : Room) #[(.ref a), (.ref b)] h0 B0 [] (PQ (some (.int (0 : Int32))) h0 B0) := by
  refine k_intro (Ls := #[.val (.ref a), .val (.ref b), .unset]) (by decide +kernel) rfl fun x T0 X0 => ?_
  refine g_aloadN X0 d13_0 rfl rfl ?_
  refine g_instNo X0 d13_1 (w53 hw) E_b (k_not (w60 hw) (w61 hw) (w38 hw) (by decide) (by decide)) fun T1 X1 => ?_
  refine g_ifT X1 d13_4 (by decide) ?_
  refine g_iconst X1 (0 : Int32) d13_42 (by decide) ?_
  exact g_ireturn (w' := (0 : Int32)) X1 d13_43 (Or.inl rfl) (by decide) (by decide) (by decide) ⟨rfl, rfl, rfl⟩
set_option maxRecDepth 65536 in
set_option maxHeartbeats 40000000 in
theorem c_keyEqN {nw : Bool} {l : Launch} {Z : State} {EL : List (String × Nat)} {a0 : Array Value} (hw : HW Z a0) (hs : Sts Z) {h0 : Heap} {B0 : BP} (a : Addr)  :
    Con nw l Z EL (⟨"com/example/lease/lease/Holds$Key", "equals", "(Ljava/lang/Object;)Z"⟩ : MethodName) prog_5_method_4_code 3 (some .boolean) [] ({ frames := 0, cells := 0, slots := 0, locals := 0 } : Room) #[(.ref a), .null] h0 B0 [] (PQ (some (.int (0 : Int32))) h0 B0) := by
  refine k_intro (Ls := #[.val (.ref a), .val .null, .unset]) (by decide +kernel) rfl fun x T0 X0 => ?_
  refine g_aloadN X0 d13_0 rfl rfl ?_
  refine g_instNull X0 d13_1 ?_
  refine g_ifT X0 d13_4 (by decide) ?_
  refine g_iconst X0 (0 : Int32) d13_42 (by decide) ?_
  exact g_ireturn (w' := (0 : Int32)) X0 d13_43 (Or.inl rfl) (by decide) (by decide) (by decide) ⟨rfl, rfl, rfl⟩
set_option maxRecDepth 65536 in
set_option maxHeartbeats 40000000 in
theorem c_law {l : Launch} {Z : State} {a0 : Array Value} (hw : HW Z a0) (hs : Sts Z) {h0 : Heap} {B0 : BP} (c1 c2 : Int32) (t1 t2 : Int64) (md : Int32)  :
    Con false l Z consts_1 (⟨"com/example/lease/lease/KeyEqualsPinLaw", "law", "(IIJJI)Z"⟩ : MethodName) code 25 (some .boolean) tables_1 room_1 #[(.int c1), (.int c2), (.long t1), (.long t2), (.int md)] h0 B0 [] (fun v h B => v = some (.int 1)) := by
  refine k_intro (Ls := #[.val (.int c1), .val (.int c2), .val (.long t1), .second, .val (.long t2), .second, .val (.int md), .unset, .unset, .unset, .unset, .unset, .unset, .unset, .unset, .unset, .unset, .unset, .unset, .unset, .unset, .unset, .unset, .unset, .unset]) (by decide +kernel) rfl fun x T0 X0 => ?_
  have hE : ("java/lang/String", 7) ∈ consts_1 := List.mem_of_getElem? (i := 0) rfl
  obtain ⟨n1, e1, hn1⟩ := k_mod3 md
  obtain ⟨n2, e2, hn2⟩ := k_mod3 (XT.ushr md 2)
  refine g_iload X0 d14_0 rfl ?_
  refine g_iconst X0 (3 : Int32) d14_2 (by decide) ?_
  refine g_iand X0 (md &&& (3 : Int32)) d14_3 rfl ?_
  refine g_iconst X0 (3 : Int32) d14_4 (by decide) ?_
  refine g_irem X0 n1 d14_5 (by decide) e1 ?_
  refine g_istore X0 #[.val (.int c1), .val (.int c2), .val (.long t1), .second, .val (.long t2), .second, .val (.int md), .val (.int n1), .unset, .unset, .unset, .unset, .unset, .unset, .unset, .unset, .unset, .unset, .unset, .unset, .unset, .unset, .unset, .unset, .unset] d14_6 rfl ?_
  refine g_iload X0 d14_8 rfl ?_
  refine g_iconst X0 (2 : Int32) d14_10 (by decide) ?_
  refine g_iushr X0 (XT.ushr md (2 : Int32)) d14_11 rfl ?_
  refine g_iconst X0 (3 : Int32) d14_12 (by decide) ?_
  refine g_iand X0 ((XT.ushr md (2 : Int32)) &&& (3 : Int32)) d14_13 rfl ?_
  refine g_iconst X0 (3 : Int32) d14_14 (by decide) ?_
  refine g_irem X0 n2 d14_15 (by decide) e2 ?_
  refine g_istore X0 #[.val (.int c1), .val (.int c2), .val (.long t1), .second, .val (.long t2), .second, .val (.int md), .val (.int n1), .val (.int n2), .unset, .unset, .unset, .unset, .unset, .unset, .unset, .unset, .unset, .unset, .unset, .unset, .unset, .unset, .unset, .unset] d14_16 rfl ?_
  refine g_iloadN X0 d14_18 rfl ?_
  refine g_sipush X0 (255 : Int32) d14_19 (by decide) ?_
  refine g_iand X0 (c1 &&& (255 : Int32)) d14_22 rfl ?_
  refine g_i2c X0 (c1 &&& 255) d14_23 (k_c255' _) ?_
  refine g_istore X0 #[.val (.int c1), .val (.int c2), .val (.long t1), .second, .val (.long t2), .second, .val (.int md), .val (.int n1), .val (.int n2), .val (.int (c1 &&& 255)), .unset, .unset, .unset, .unset, .unset, .unset, .unset, .unset, .unset, .unset, .unset, .unset, .unset, .unset, .unset] d14_24 rfl ?_
  refine g_iloadN X0 d14_26 rfl ?_
  refine g_bipush X0 (8 : Int32) d14_27 (by decide) ?_
  refine g_iushr X0 (XT.ushr c1 (8 : Int32)) d14_29 rfl ?_
  refine g_sipush X0 (255 : Int32) d14_30 (by decide) ?_
  refine g_iand X0 ((XT.ushr c1 (8 : Int32)) &&& (255 : Int32)) d14_33 rfl ?_
  refine g_i2c X0 (XT.ushr c1 8 &&& 255) d14_34 (k_c255' _) ?_
  refine g_istore X0 #[.val (.int c1), .val (.int c2), .val (.long t1), .second, .val (.long t2), .second, .val (.int md), .val (.int n1), .val (.int n2), .val (.int (c1 &&& 255)), .val (.int (XT.ushr c1 8 &&& 255)), .unset, .unset, .unset, .unset, .unset, .unset, .unset, .unset, .unset, .unset, .unset, .unset, .unset, .unset] d14_35 rfl ?_
  refine g_iload X0 d14_37 rfl ?_
  refine g_iconst X0 (4 : Int32) d14_39 (by decide) ?_
  refine g_iushr X0 (XT.ushr md (4 : Int32)) d14_40 rfl ?_
  refine g_iconst X0 (1 : Int32) d14_41 (by decide) ?_
  refine g_iand X0 ((XT.ushr md (4 : Int32)) &&& (1 : Int32)) d14_42 rfl ?_
  obtain ⟨a0, ea0⟩ : ∃ z, z = c1 &&& 255 := ⟨_, rfl⟩
  have ha0 : C8 a0 := ea0 ▸ c8_and _
  obtain ⟨a1, ea1⟩ : ∃ z, z = XT.ushr c1 8 &&& 255 := ⟨_, rfl⟩
  have ha1 : C8 a1 := ea1 ▸ c8_and _
  rw [← ea0, ← ea1]
  show Go x (T0.setTop (mkF x.m 43 #[.val (.int c1), .val (.int c2), .val (.long t1), .second, .val (.long t2), .second, .val (.int md), .val (.int n1), .val (.int n2), .val (.int a0), .val (.int a1), .unset, .unset, .unset, .unset, .unset, .unset, .unset, .unset, .unset, .unset, .unset, .unset, .unset, .unset] [(.int ((XT.ushr md (4 : Int32)) &&& (1 : Int32)))]))
  have J57 : ∀ (b0 : Int32) (hb0 : C8 b0), Go x (T0.setTop (mkF x.m 57 #[.val (.int c1), .val (.int c2), .val (.long t1), .second, .val (.long t2), .second, .val (.int md), .val (.int n1), .val (.int n2), .val (.int a0), .val (.int a1), .unset, .unset, .unset, .unset, .unset, .unset, .unset, .unset, .unset, .unset, .unset, .unset, .unset, .unset] [(.int b0)])) := by
    intro b0 hb0
    refine g_istore X0 #[.val (.int c1), .val (.int c2), .val (.long t1), .second, .val (.long t2), .second, .val (.int md), .val (.int n1), .val (.int n2), .val (.int a0), .val (.int a1), .val (.int b0), .unset, .unset, .unset, .unset, .unset, .unset, .unset, .unset, .unset, .unset, .unset, .unset, .unset] d14_57 rfl ?_
    refine g_iload X0 d14_59 rfl ?_
    refine g_iconst X0 (5 : Int32) d14_61 (by decide) ?_
    refine g_iushr X0 (XT.ushr md (5 : Int32)) d14_62 rfl ?_
    refine g_iconst X0 (1 : Int32) d14_63 (by decide) ?_
    refine g_iand X0 ((XT.ushr md (5 : Int32)) &&& (1 : Int32)) d14_64 rfl ?_
    have J82 : ∀ (b1 : Int32) (hb1 : C8 b1), Go x (T0.setTop (mkF x.m 82 #[.val (.int c1), .val (.int c2), .val (.long t1), .second, .val (.long t2), .second, .val (.int md), .val (.int n1), .val (.int n2), .val (.int a0), .val (.int a1), .val (.int b0), .unset, .unset, .unset, .unset, .unset, .unset, .unset, .unset, .unset, .unset, .unset, .unset, .unset] [(.int b1)])) := by
      intro b1 hb1
      refine g_istore X0 #[.val (.int c1), .val (.int c2), .val (.long t1), .second, .val (.long t2), .second, .val (.int md), .val (.int n1), .val (.int n2), .val (.int a0), .val (.int a1), .val (.int b0), .val (.int b1), .unset, .unset, .unset, .unset, .unset, .unset, .unset, .unset, .unset, .unset, .unset, .unset] d14_82 rfl ?_
      refine g_iload X0 d14_84 rfl ?_
      refine g_bipush X0 (6 : Int32) d14_86 (by decide) ?_
      refine g_iushr X0 (XT.ushr md (6 : Int32)) d14_88 rfl ?_
      refine g_iconst X0 (1 : Int32) d14_89 (by decide) ?_
      refine g_iand X0 ((XT.ushr md (6 : Int32)) &&& (1 : Int32)) d14_90 rfl ?_
      have J100 : ∀ (tid : Int64), Go x (T0.setTop (mkF x.m 100 #[.val (.int c1), .val (.int c2), .val (.long t1), .second, .val (.long t2), .second, .val (.int md), .val (.int n1), .val (.int n2), .val (.int a0), .val (.int a1), .val (.int b0), .val (.int b1), .unset, .unset, .unset, .unset, .unset, .unset, .unset, .unset, .unset, .unset, .unset, .unset] [(.long tid)])) := by
        intro tid
        refine g_lstore X0 #[.val (.int c1), .val (.int c2), .val (.long t1), .second, .val (.long t2), .second, .val (.int md), .val (.int n1), .val (.int n2), .val (.int a0), .val (.int a1), .val (.int b0), .val (.int b1), .val (.long tid), .second, .unset, .unset, .unset, .unset, .unset, .unset, .unset, .unset, .unset, .unset] d14_100 rfl ?_
        refine g_iload X0 d14_102 rfl ?_
        refine g_iload X0 d14_104 rfl ?_
        refine g_iload X0 d14_106 rfl ?_
        refine g_callS X0 d14_108 (w0 hw) (w1 hw) (w2 hw) (w3 hw) (by decide) pd11 [(.int n1), (.int a0), (.int a1)] [] 0 (c_mk hw hs n1 a0 a1 hn1 ha0 ha1 hE) rfl rfl rfl (Nat.le_of_eq rfl) (by decide) (by decide) 6 12 rfl rfl (by decide) (by decide) (fun _ q => nomatch q) fun v1 T1 h1 B1 X1 K1 M1 q1 => ?_
        obtain ⟨s1, rfl, S1⟩ := q1
        have z1 := K1.1
        show Go x (T1.setTop (mkF x.m 111 #[.val (.int c1), .val (.int c2), .val (.long t1), .second, .val (.long t2), .second, .val (.int md), .val (.int n1), .val (.int n2), .val (.int a0), .val (.int a1), .val (.int b0), .val (.int b1), .val (.long tid), .second, .unset, .unset, .unset, .unset, .unset, .unset, .unset, .unset, .unset, .unset] [(.ref s1)]))
        have ls1 := S1.lt
        refine g_astore X1 #[.val (.int c1), .val (.int c2), .val (.long t1), .second, .val (.long t2), .second, .val (.int md), .val (.int n1), .val (.int n2), .val (.int a0), .val (.int a1), .val (.int b0), .val (.int b1), .val (.long tid), .second, .val (.ref s1), .unset, .unset, .unset, .unset, .unset, .unset, .unset, .unset, .unset] d14_111 rfl rfl ?_
        refine g_iload X1 d14_113 rfl ?_
        refine g_iload X1 d14_115 rfl ?_
        refine g_iload X1 d14_117 rfl ?_
        refine g_callS X1 d14_119 (w0 hw) (w1 hw) (w2 hw) (w3 hw) (by decide) pd11 [(.int n2), (.int b0), (.int b1)] [] 0 (c_mk hw hs n2 b0 b1 hn2 hb0 hb1 hE) rfl rfl rfl (Nat.le_of_eq rfl) (by decide) (by decide) 12 24 rfl rfl (by decide) (by decide) (fun _ q => nomatch q) fun v2 T2 h2 B2 X2 K2 M2 q2 => ?_
        obtain ⟨s2, rfl, S2⟩ := q2
        have z2 := K2.1
        show Go x (T2.setTop (mkF x.m 122 #[.val (.int c1), .val (.int c2), .val (.long t1), .second, .val (.long t2), .second, .val (.int md), .val (.int n1), .val (.int n2), .val (.int a0), .val (.int a1), .val (.int b0), .val (.int b1), .val (.long tid), .second, .val (.ref s1), .unset, .unset, .unset, .unset, .unset, .unset, .unset, .unset, .unset] [(.ref s2)]))
        have ls2 := S2.lt
        refine g_astore X2 #[.val (.int c1), .val (.int c2), .val (.long t1), .second, .val (.long t2), .second, .val (.int md), .val (.int n1), .val (.int n2), .val (.int a0), .val (.int a1), .val (.int b0), .val (.int b1), .val (.long tid), .second, .val (.ref s1), .val (.ref s2), .unset, .unset, .unset, .unset, .unset, .unset, .unset, .unset] d14_122 rfl rfl ?_
        refine g_new X2 d14_124 (w37 hw) (w38 hw) (w39 hw) 13 26 rfl rfl (by decide) (by decide) fun T3 h3 b3 X3 E3 eb3 nb3 Ex3 D3 => ?_
        have z3 := E3.1; have lt3 : @LT.lt Nat _ b3 h3.size := Ex3.lt; have zl3 : @LE.le Nat _ Z.heap.size b3 := eb3 ▸ X2.szZ; have fr3 : @LE.le Nat _ h0.size b3 := eb3 ▸ X2.sz
        have F3_lockName : Fld Z h3 b3 "com/example/lease/lease/Holds$Key" "lockName" "Ljava/lang/String;" .null := D3 (Or.inr (w45 hw)) (ty := (.object "java/lang/String")) (by decide)
        have F3_threadId : Fld Z h3 b3 "com/example/lease/lease/Holds$Key" "threadId" "J" (.long (0 : Int64)) := D3 (Or.inr (w47 hw)) (ty := .long) (by decide)
        refine g_dup X3 d14_127 rfl ?_
        refine g_aload X3 d14_128 rfl rfl ?_
        refine g_lloadN X3 d14_130 rfl ?_
        refine g_callI X3 d14_131 (w40 hw) (w41 hw) (w39 hw) (w42 hw) rfl (by decide) pd12 b3 [(.ref s1), (.long t1)] [(.ref b3)] 1 (c_keyInit hw hs b3 s1 t1 Ex3 F3_lockName F3_threadId nb3 zl3) rfl rfl rfl (Nat.le_of_eq rfl) (by decide) (by decide) 13 26 rfl rfl (by decide) (by decide) (k_ws1 ⟨nb3, zl3, (Or.inr fr3)⟩) fun v4 T4 h4 B4 X4 K4 M4 q4 => ?_
        obtain ⟨rfl, rfl, Ek1, Fl1, Ft1⟩ := q4
        have z4 := K4.1
        show Go x (T4.setTop (mkF x.m 134 #[.val (.int c1), .val (.int c2), .val (.long t1), .second, .val (.long t2), .second, .val (.int md), .val (.int n1), .val (.int n2), .val (.int a0), .val (.int a1), .val (.int b0), .val (.int b1), .val (.long tid), .second, .val (.ref s1), .val (.ref s2), .unset, .unset, .unset, .unset, .unset, .unset, .unset, .unset] [(.ref b3)]))
        have lk1 := k_ltE Ek1
        refine g_astore X4 #[.val (.int c1), .val (.int c2), .val (.long t1), .second, .val (.long t2), .second, .val (.int md), .val (.int n1), .val (.int n2), .val (.int a0), .val (.int a1), .val (.int b0), .val (.int b1), .val (.long tid), .second, .val (.ref s1), .val (.ref s2), .val (.ref b3), .unset, .unset, .unset, .unset, .unset, .unset, .unset] d14_134 rfl rfl ?_
        refine g_new X4 d14_136 (w37 hw) (w38 hw) (w39 hw) 14 28 rfl rfl (by decide) (by decide) fun T5 h5 b5 X5 E5 eb5 nb5 Ex5 D5 => ?_
        have z5 := E5.1; have lt5 : @LT.lt Nat _ b5 h5.size := Ex5.lt; have zl5 : @LE.le Nat _ Z.heap.size b5 := eb5 ▸ X4.szZ; have fr5 : @LE.le Nat _ h0.size b5 := eb5 ▸ X4.sz
        have F5_lockName : Fld Z h5 b5 "com/example/lease/lease/Holds$Key" "lockName" "Ljava/lang/String;" .null := D5 (Or.inr (w45 hw)) (ty := (.object "java/lang/String")) (by decide)
        have F5_threadId : Fld Z h5 b5 "com/example/lease/lease/Holds$Key" "threadId" "J" (.long (0 : Int64)) := D5 (Or.inr (w47 hw)) (ty := .long) (by decide)
        refine g_dup X5 d14_139 rfl ?_
        refine g_aload X5 d14_140 rfl rfl ?_
        refine g_lload X5 d14_142 rfl ?_
        refine g_callI X5 d14_144 (w40 hw) (w41 hw) (w39 hw) (w42 hw) rfl (by decide) pd12 b5 [(.ref s2), (.long tid)] [(.ref b5)] 1 (c_keyInit hw hs b5 s2 tid Ex5 F5_lockName F5_threadId nb5 zl5) rfl rfl rfl (Nat.le_of_eq rfl) (by decide) (by decide) 14 28 rfl rfl (by decide) (by decide) (k_ws1 ⟨nb5, zl5, (Or.inr fr5)⟩) fun v6 T6 h6 B6 X6 K6 M6 q6 => ?_
        obtain ⟨rfl, rfl, Ek2, Fl2, Ft2⟩ := q6
        have z6 := K6.1
        show Go x (T6.setTop (mkF x.m 147 #[.val (.int c1), .val (.int c2), .val (.long t1), .second, .val (.long t2), .second, .val (.int md), .val (.int n1), .val (.int n2), .val (.int a0), .val (.int a1), .val (.int b0), .val (.int b1), .val (.long tid), .second, .val (.ref s1), .val (.ref s2), .val (.ref b3), .unset, .unset, .unset, .unset, .unset, .unset, .unset] [(.ref b5)]))
        have lk2 := k_ltE Ek2
        have U7 := (((((S1.keep K2 (fun _ q => nomatch q)).ext E3).keep K4 (allS (by omega) all0)).ext E5).keep K6 (allS (by omega) all0))
        have U8 := ((((S2.ext E3).keep K4 (allS (by omega) all0)).ext E5).keep K6 (allS (by omega) all0))
        have E_9 := ((Ek1.ext E5).keep K6)
        have F10 := ((Fl1.ext E5).keep K6 (ninS (k_neN (by omega)) nin0))
        have F11 := ((Ft1.ext E5).keep K6 (ninS (k_neN (by omega)) nin0))
        have hm := mkb_eq hn1 hn2 ha0 ha1 hb0 hb1
        refine g_astore X6 #[.val (.int c1), .val (.int c2), .val (.long t1), .second, .val (.long t2), .second, .val (.int md), .val (.int n1), .val (.int n2), .val (.int a0), .val (.int a1), .val (.int b0), .val (.int b1), .val (.long tid), .second, .val (.ref s1), .val (.ref s2), .val (.ref b3), .val (.ref b5), .unset, .unset, .unset, .unset, .unset, .unset] d14_147 rfl rfl ?_
        refine g_lloadN X6 d14_149 rfl ?_
        refine g_lload X6 d14_150 rfl ?_
        refine g_lcmp X6 (XT.cmpL t1 tid) d14_152 rfl ?_
        have J194 : ∀ (ex : Int32) (hex : ex = (if t1 = tid ∧ (mkb n1 a0 a1) = (mkb n2 b0 b1) then 1 else 0)), Go x (T6.setTop (mkF x.m 194 #[.val (.int c1), .val (.int c2), .val (.long t1), .second, .val (.long t2), .second, .val (.int md), .val (.int n1), .val (.int n2), .val (.int a0), .val (.int a1), .val (.int b0), .val (.int b1), .val (.long tid), .second, .val (.ref s1), .val (.ref s2), .val (.ref b3), .val (.ref b5), .unset, .unset, .unset, .unset, .unset, .unset] [(.int ex)])) := by
          intro ex hex
          refine g_istore X6 #[.val (.int c1), .val (.int c2), .val (.long t1), .second, .val (.long t2), .second, .val (.int md), .val (.int n1), .val (.int n2), .val (.int a0), .val (.int a1), .val (.int b0), .val (.int b1), .val (.long tid), .second, .val (.ref s1), .val (.ref s2), .val (.ref b3), .val (.ref b5), .val (.int ex), .unset, .unset, .unset, .unset, .unset] d14_194 rfl ?_
          refine g_aload X6 d14_196 rfl rfl ?_
          refine g_aload X6 d14_198 rfl rfl ?_
          refine g_callVp X6 d14_200 (w48 hw) (w49 hw) (w51 hw) (w50 hw) (w39 hw) (w52 hw) (by decide) pd10 b3 [(.ref b5)] [] 0 E_9 (c_keyEq hw hs b3 b5 s1 s2 t1 tid (mkb n1 a0 a1) (mkb n2 b0 b1) Ek2 F10 F11 Fl2 Ft2 U7.v U8.v) rfl rfl rfl (Nat.le_of_eq rfl) (by decide) (by decide) 14 28 rfl rfl (by decide) (by decide) fun T12 X12 => ?_
          refine g_istore X12 #[.val (.int c1), .val (.int c2), .val (.long t1), .second, .val (.long t2), .second, .val (.int md), .val (.int n1), .val (.int n2), .val (.int a0), .val (.int a1), .val (.int b0), .val (.int b1), .val (.long tid), .second, .val (.ref s1), .val (.ref s2), .val (.ref b3), .val (.ref b5), .val (.int ex), .val (.int (if tid = t1 ∧ (mkb n2 b0 b1) = (mkb n1 a0 a1) then 1 else 0)), .unset, .unset, .unset, .unset] d14_203 rfl ?_
          refine g_aload X12 d14_205 rfl rfl ?_
          refine g_aload X12 d14_207 rfl rfl ?_
          refine g_callVp X12 d14_209 (w48 hw) (w49 hw) (w51 hw) (w50 hw) (w39 hw) (w52 hw) (by decide) pd10 b5 [(.ref b3)] [] 0 Ek2 (c_keyEq hw hs b5 b3 s2 s1 tid t1 (mkb n2 b0 b1) (mkb n1 a0 a1) E_9 Fl2 Ft2 F10 F11 U8.v U7.v) rfl rfl rfl (Nat.le_of_eq rfl) (by decide) (by decide) 14 28 rfl rfl (by decide) (by decide) fun T13 X13 => ?_
          refine g_istore X13 #[.val (.int c1), .val (.int c2), .val (.long t1), .second, .val (.long t2), .second, .val (.int md), .val (.int n1), .val (.int n2), .val (.int a0), .val (.int a1), .val (.int b0), .val (.int b1), .val (.long tid), .second, .val (.ref s1), .val (.ref s2), .val (.ref b3), .val (.ref b5), .val (.int ex), .val (.int (if tid = t1 ∧ (mkb n2 b0 b1) = (mkb n1 a0 a1) then 1 else 0)), .val (.int (if t1 = tid ∧ (mkb n1 a0 a1) = (mkb n2 b0 b1) then 1 else 0)), .unset, .unset, .unset] d14_212 rfl ?_
          refine g_aload X13 d14_214 rfl rfl ?_
          refine g_aload X13 d14_216 rfl rfl ?_
          refine g_callVp X13 d14_218 (w48 hw) (w49 hw) (w51 hw) (w50 hw) (w39 hw) (w52 hw) (by decide) pd10 b3 [(.ref b3)] [] 0 E_9 (c_keyEq hw hs b3 b3 s1 s1 t1 t1 (mkb n1 a0 a1) (mkb n1 a0 a1) E_9 F10 F11 F10 F11 U7.v U7.v) rfl rfl rfl (Nat.le_of_eq rfl) (by decide) (by decide) 14 28 rfl rfl (by decide) (by decide) fun T14 X14 => ?_
          refine g_istore X14 #[.val (.int c1), .val (.int c2), .val (.long t1), .second, .val (.long t2), .second, .val (.int md), .val (.int n1), .val (.int n2), .val (.int a0), .val (.int a1), .val (.int b0), .val (.int b1), .val (.long tid), .second, .val (.ref s1), .val (.ref s2), .val (.ref b3), .val (.ref b5), .val (.int ex), .val (.int (if tid = t1 ∧ (mkb n2 b0 b1) = (mkb n1 a0 a1) then 1 else 0)), .val (.int (if t1 = tid ∧ (mkb n1 a0 a1) = (mkb n2 b0 b1) then 1 else 0)), .val (.int (if t1 = t1 ∧ (mkb n1 a0 a1) = (mkb n1 a0 a1) then 1 else 0)), .unset, .unset] d14_221 rfl ?_
          refine g_aload X14 d14_223 rfl rfl ?_
          refine g_aload X14 d14_225 rfl rfl ?_
          refine g_callVp X14 d14_227 (w48 hw) (w49 hw) (w51 hw) (w50 hw) (w39 hw) (w52 hw) (by decide) pd10 b3 [(.ref s1)] [] 0 E_9 (c_keyEqS hw hs b3 s1 U7.exa) rfl rfl rfl (Nat.le_of_eq rfl) (by decide) (by decide) 14 28 rfl rfl (by decide) (by decide) fun T15 X15 => ?_
          refine g_istore X15 #[.val (.int c1), .val (.int c2), .val (.long t1), .second, .val (.long t2), .second, .val (.int md), .val (.int n1), .val (.int n2), .val (.int a0), .val (.int a1), .val (.int b0), .val (.int b1), .val (.long tid), .second, .val (.ref s1), .val (.ref s2), .val (.ref b3), .val (.ref b5), .val (.int ex), .val (.int (if tid = t1 ∧ (mkb n2 b0 b1) = (mkb n1 a0 a1) then 1 else 0)), .val (.int (if t1 = tid ∧ (mkb n1 a0 a1) = (mkb n2 b0 b1) then 1 else 0)), .val (.int (if t1 = t1 ∧ (mkb n1 a0 a1) = (mkb n1 a0 a1) then 1 else 0)), .val (.int (0 : Int32)), .unset] d14_230 rfl ?_
          refine g_aload X15 d14_232 rfl rfl ?_
          refine g_aconst_null X15 d14_234 ?_
          refine g_callVp X15 d14_235 (w48 hw) (w49 hw) (w51 hw) (w50 hw) (w39 hw) (w52 hw) (by decide) pd10 b3 [.null] [] 0 E_9 (c_keyEqN hw hs b3) rfl rfl rfl (Nat.le_of_eq rfl) (by decide) (by decide) 14 28 rfl rfl (by decide) (by decide) fun T16 X16 => ?_
          refine g_istore X16 #[.val (.int c1), .val (.int c2), .val (.long t1), .second, .val (.long t2), .second, .val (.int md), .val (.int n1), .val (.int n2), .val (.int a0), .val (.int a1), .val (.int b0), .val (.int b1), .val (.long tid), .second, .val (.ref s1), .val (.ref s2), .val (.ref b3), .val (.ref b5), .val (.int ex), .val (.int (if tid = t1 ∧ (mkb n2 b0 b1) = (mkb n1 a0 a1) then 1 else 0)), .val (.int (if t1 = tid ∧ (mkb n1 a0 a1) = (mkb n2 b0 b1) then 1 else 0)), .val (.int (if t1 = t1 ∧ (mkb n1 a0 a1) = (mkb n1 a0 a1) then 1 else 0)), .val (.int (0 : Int32)), .val (.int (0 : Int32))] d14_238 rfl ?_
          refine g_iload X16 d14_240 rfl ?_
          refine g_iload X16 d14_242 rfl ?_
          refine g_icmpF X16 d14_244 (XT.ii_ne_f (by rw [hex]; simp only [eq_comm])) ?_
          refine g_iload X16 d14_247 rfl ?_
          refine g_iload X16 d14_249 rfl ?_
          refine g_icmpF X16 d14_251 (XT.ii_ne_f hex.symm) ?_
          refine g_iload X16 d14_254 rfl ?_
          refine g_ifF X16 d14_256 (XT.i0_eq_f (by simp)) ?_
          refine g_iload X16 d14_259 rfl ?_
          refine g_ifF X16 d14_261 (by decide) ?_
          refine g_iload X16 d14_264 rfl ?_
          refine g_ifF X16 d14_266 (by decide) ?_
          refine g_iconst X16 (1 : Int32) d14_269 (by decide) ?_
          refine g_goto X16 d14_270 ?_
          exact g_ireturn (w' := (1 : Int32)) X16 d14_274 (Or.inl rfl) (by decide) (by decide) (by decide) rfl
        by_cases hq : t1 = tid
        ·
          refine g_ifF X6 d14_153 (XT.ll_ne_f hq) ?_
          refine g_iload X6 d14_156 rfl ?_
          refine g_iload X6 d14_158 rfl ?_
          by_cases hn12 : n1 = n2
          ·
            refine g_icmpF X6 d14_160 (XT.ii_ne_f hn12) ?_
            refine g_iload X6 d14_163 rfl ?_
            refine g_iconst X6 (1 : Int32) d14_165 (by decide) ?_
            have J176 : ∀ (hA : n1 < 1 ∨ a0 = b0), Go x (T6.setTop (mkF x.m 176 #[.val (.int c1), .val (.int c2), .val (.long t1), .second, .val (.long t2), .second, .val (.int md), .val (.int n1), .val (.int n2), .val (.int a0), .val (.int a1), .val (.int b0), .val (.int b1), .val (.long tid), .second, .val (.ref s1), .val (.ref s2), .val (.ref b3), .val (.ref b5), .unset, .unset, .unset, .unset, .unset, .unset] [])) := by
              intro hA
              refine g_iload X6 d14_176 rfl ?_
              refine g_iconst X6 (2 : Int32) d14_178 (by decide) ?_
              have J189 : ∀ (hB : n1 < 2 ∨ a1 = b1), Go x (T6.setTop (mkF x.m 189 #[.val (.int c1), .val (.int c2), .val (.long t1), .second, .val (.long t2), .second, .val (.int md), .val (.int n1), .val (.int n2), .val (.int a0), .val (.int a1), .val (.int b0), .val (.int b1), .val (.long tid), .second, .val (.ref s1), .val (.ref s2), .val (.ref b3), .val (.ref b5), .unset, .unset, .unset, .unset, .unset, .unset] [])) := by
                intro hB
                refine g_iconst X6 (1 : Int32) d14_189 (by decide) ?_
                refine g_goto X6 d14_190 ?_
                exact J194 1 (by rw [if_pos ⟨hq, hm.mpr ⟨hn12, hA, hB⟩⟩])
              by_cases hlt2 : n1 < (2 : Int32)
              ·
                refine g_icmpT X6 d14_179 (XT.ii_lt_t hlt2) ?_
                exact J189 (Or.inl hlt2)
              ·
                refine g_icmpF X6 d14_179 (XT.ii_lt_f hlt2) ?_
                refine g_iload X6 d14_182 rfl ?_
                refine g_iload X6 d14_184 rfl ?_
                by_cases ha : a1 = b1
                ·
                  refine g_icmpF X6 d14_186 (XT.ii_ne_f ha) ?_
                  exact J189 (Or.inr ha)
                ·
                  refine g_icmpT X6 d14_186 (XT.ii_ne_t ha) ?_
                  refine g_iconst X6 (0 : Int32) d14_193 (by decide) ?_
                  exact J194 0 (by rw [if_neg]; rintro ⟨_, g⟩; rcases (hm.mp g).2.2 with g | g <;> first | exact hlt2 g | exact ha g)
            by_cases hlt1 : n1 < (1 : Int32)
            ·
              refine g_icmpT X6 d14_166 (XT.ii_lt_t hlt1) ?_
              exact J176 (Or.inl hlt1)
            ·
              refine g_icmpF X6 d14_166 (XT.ii_lt_f hlt1) ?_
              refine g_iload X6 d14_169 rfl ?_
              refine g_iload X6 d14_171 rfl ?_
              by_cases ha : a0 = b0
              ·
                refine g_icmpF X6 d14_173 (XT.ii_ne_f ha) ?_
                exact J176 (Or.inr ha)
              ·
                refine g_icmpT X6 d14_173 (XT.ii_ne_t ha) ?_
                refine g_iconst X6 (0 : Int32) d14_193 (by decide) ?_
                exact J194 0 (by rw [if_neg]; rintro ⟨_, g⟩; rcases (hm.mp g).2.1 with g | g <;> first | exact hlt1 g | exact ha g)
          ·
            refine g_icmpT X6 d14_160 (XT.ii_ne_t hn12) ?_
            refine g_iconst X6 (0 : Int32) d14_193 (by decide) ?_
            exact J194 0 (by rw [if_neg]; rintro ⟨_, g⟩; exact hn12 (hm.mp g).1)
        ·
          refine g_ifT X6 d14_153 (XT.ll_ne_t hq) ?_
          refine g_iconst X6 (0 : Int32) d14_193 (by decide) ?_
          exact J194 0 (by rw [if_neg]; rintro ⟨g, _⟩; exact hq g)
      by_cases hc17 : ((XT.ushr md (6 : Int32)) &&& (1 : Int32)) = 0
      ·
        refine g_ifT X0 d14_91 (XT.i0_eq_t hc17) ?_
        refine g_lload X0 d14_98 rfl ?_
        exact J100 t2
      ·
        refine g_ifF X0 d14_91 (XT.i0_eq_f hc17) ?_
        refine g_lloadN X0 d14_94 rfl ?_
        refine g_goto X0 d14_95 ?_
        exact J100 t1
    by_cases hc18 : ((XT.ushr md (5 : Int32)) &&& (1 : Int32)) = 0
    ·
      refine g_ifT X0 d14_65 (XT.i0_eq_t hc18) ?_
      refine g_iloadN X0 d14_73 rfl ?_
      refine g_bipush X0 (8 : Int32) d14_74 (by decide) ?_
      refine g_iushr X0 (XT.ushr c2 (8 : Int32)) d14_76 rfl ?_
      refine g_sipush X0 (255 : Int32) d14_77 (by decide) ?_
      refine g_iand X0 ((XT.ushr c2 (8 : Int32)) &&& (255 : Int32)) d14_80 rfl ?_
      refine g_i2c X0 (XT.ushr c2 8 &&& 255) d14_81 (k_c255' _) ?_
      exact J82 _ (c8_and _)
    ·
      refine g_ifF X0 d14_65 (XT.i0_eq_f hc18) ?_
      refine g_iload X0 d14_68 rfl ?_
      refine g_goto X0 d14_70 ?_
      exact J82 a1 ha1
  by_cases hc19 : ((XT.ushr md (4 : Int32)) &&& (1 : Int32)) = 0
  ·
    refine g_ifT X0 d14_43 (XT.i0_eq_t hc19) ?_
    refine g_iloadN X0 d14_51 rfl ?_
    refine g_sipush X0 (255 : Int32) d14_52 (by decide) ?_
    refine g_iand X0 (c2 &&& (255 : Int32)) d14_55 rfl ?_
    refine g_i2c X0 (c2 &&& 255) d14_56 (k_c255' _) ?_
    exact J57 _ (c8_and _)
  ·
    refine g_ifF X0 d14_43 (XT.i0_eq_f hc19) ?_
    refine g_iload X0 d14_46 rfl ?_
    refine g_goto X0 d14_48 ?_
    exact J57 a0 ha0
theorem comes_1 {Post : Tables → Env → Array Value → State → Outcome → State → Prop} (hpost : ∀ tb e args s v u, (limb_1_1.after args s (.returned v) u = true ∧ limb_1_2.after args s (.returned v) u = true ∧ True) → FramedW s (.returned v) u (Jvm.fieldLocs frame_1_writes args s ++ Jvm.arrayLocs frame_1_arrays args s ++ Jvm.staticLocs frame_1_statics s) 32 1152 → Post tb e args s (.returned v) u) :
    ArmFor flags0 classFile x code maxLocals ret World_1 tables_1 room_1 Calls_1 rest_1 Pre_1 Post := by
  intro l hfl _ _ p e ha hc hk s m args below hf hA hF happ hP
  obtain ⟨hcalls, hrest, hpre⟩ := hP
  obtain ⟨-, -, -, hnamed, -, -, -, hat⟩ := (Spec.applies_iff hf).mp happ
  obtain ⟨hg, hn⟩ := and_e (Cond.before_iff.mp (show (Jvm.Cond.and given_1 narrow_1).before args s = true from hpre))
  obtain ⟨h1, hg⟩ := and_e hg
  obtain ⟨g0, hg⟩ := and_e hg
  obtain ⟨g1, hg⟩ := and_e hg
  obtain ⟨g2, hg⟩ := and_e hg
  obtain ⟨g3, hg⟩ := and_e hg
  have g4 := hg
  obtain ⟨w0, w1, w2, w3, w4, rfl⟩ : ∃ w0 w1 w2 w3 w4 : Value, args = #[w0, w1, w2, w3, w4] := by
    have hs : args.size = 5 := by simpa [Cond.value, given_1] using h1
    obtain ⟨L⟩ := args
    match L, hs with
    | [w0, w1, w2, w3, w4], _ => exact ⟨w0, w1, w2, w3, w4, rfl⟩
  have hw := fun d (hd : d ∈ tables_1) => atoms_spec (ws := Jvm.Cond.code x code maxLocals ret :: tables_1) hat d (List.mem_cons_of_mem _ hd)
  obtain ⟨hsets, hown0⟩ := atoms_of _ (rest_1_c_eq ▸ (show rest_1_c.before _ s = true from hrest))
  obtain ⟨p0, e0⟩ := is_v g0
  obtain rfl : w0 = (.int p0) := Option.some.inj e0
  obtain ⟨p1, e1⟩ := is_v g1
  obtain rfl : w1 = (.int p1) := Option.some.inj e1
  obtain ⟨p2, e2⟩ := isL_v g2
  obtain rfl : w2 = (.long p2) := Option.some.inj e2
  obtain ⟨p3, e3⟩ := isL_v g3
  obtain rfl : w3 = (.long p3) := Option.some.inj e3
  obtain ⟨p4, e4⟩ := is_v g4
  obtain rfl : w4 = (.int p4) := Option.some.inj e4
  have n5 := not_v (Cond.before_iff.mp (hsets _ (List.mem_of_getElem? (i := 2) rfl)))
  obtain ⟨cv, ec⟩ := is_v (Cond.before_iff.mp (hsets _ (List.mem_of_getElem? (i := 1) rfl)))
  have S1 : Sta s s.heap "java/lang/String" "COMPACT_STRINGS" "Z" (.int cv) := Sta.start ec (Or.inl (hsets _ (List.mem_of_getElem? (i := 0) rfl)))
  have ncv : ¬ (cv = (0 : Int32)) := gotF (Cond.eq_ints ec (Term.int_eval (0))) n5
  have hS : Sts s := ⟨⟨cv, S1, ncv⟩, trivial⟩
  have hEW : EW s _ consts_1 := EW.cons (w34 hw) (by decide) EW.nil
  have hH : ∀ p ∈ consts_1, Jvm.Lit.constHeld s p.1 p.2 := hcalls.1
  have hI : k_inv s consts_1 (Bk s consts_1 s.vm s.heap) s.vm s.heap := ⟨CHv.start hEW hH (hsets _ (List.mem_of_getElem? (i := 2) rfl)) (strAtoms hw _ (List.mem_of_getElem? (i := 2) rfl)) (strAtoms hw _ (List.mem_of_getElem? (i := 1) rfl)), fun y b => b, fun y b => by obtain ⟨cell, hc⟩ := Bk.there b; exact (Array.getElem?_eq_some_iff.mp hc).1, ⟨Nat.le_refl _, fun _ _ q => q⟩, _, hEW⟩
  obtain ⟨n, o, h1, h2, h3, v, L, B', rfl, rfl, -, -, N, -, hq⟩ := c_law (l := l) hw hS (B0 := (Bk s consts_1 s.vm s.heap)) p0 p1 p2 p3 p4 p e ha hc hk s m _ below hf ((Spec.applies_iff_loose hf).mp happ).1 ⟨rfl, State.Warmed39.refl s, rfl, hI⟩ trivial
  obtain ⟨⟨q1, q2, q3, q4⟩, -⟩ := hq
  refine ⟨n, _, h1, h2, h3, hpost _ _ _ _ _ _ ⟨Cond.after_iff.mpr rfl, Cond.after_iff.mpr (eq_i res_at (Term.int_eval (1)) rfl), trivial⟩ ⟨q1, q2, q3, (q4.sift fun y hy => Or.inr (N y hy)).mono (by decide) (by decide)⟩⟩
theorem main_1_1 : Claimed_1_1 := comes_1 fun _ _ _ _ _ _ h hF => ⟨h.1, hF⟩
theorem main_1_2 : Claimed_1_2 := comes_1 fun _ _ _ _ _ _ h hF => ⟨h.2.1, hF⟩
end Jvm.Pilot.@@N@@
namespace Jvm.Pilot.@@N@@
open Jvm Jvm.ClassFile Sem Op Lib Jvm.Free Jvm.Stand Jvm.Pilot.@@N@@.Jvm.D
/-! MADE BY PROGRAM (witnessworld.py) out of the Statement's table words and the real class files: 20 classes; the members and pool entries that the words name. The judged class is class 1, her method 2. -/
namespace start1
open Jvm.ClassFile
def u (s : String) : CpInfo := .utf8 (stringToUtf16 s)
/-- a pool by its gaps: so many unusable entries, then the entry; so many at the end -/
def gap : Nat → List CpInfo → List CpInfo
  | 0, r => r
  | n + 1, r => .unusable :: gap n r
def poolList (es : List (Nat × CpInfo)) (last : Nat) : List CpInfo := es.foldr (fun e r => gap e.1 (e.2 :: r)) (gap last [])
def pool (es : List (Nat × CpInfo)) (last : Nat) : Array CpInfo := ⟨poolList es last⟩
def fileOf (pool : Array CpInfo) (this : Nat) (attrs : Array Attribute := #[]) (ms : Array MethodInfo := #[]) (fl : Nat := 33) (sup : Nat := 0) (ifs : Array Nat := #[]) (fds : Array FieldInfo := #[]) : ClassFile where
  minorVersion := 0
  majorVersion := 65
  constantPool := pool
  accessFlags := fl
  thisClass := this
  superClass := sup
  interfaces := ifs
  fields := fds
  methods := ms
  attributes := attrs
def plain (name : String) (sup : Option ClassId) : Class where
  name := name
  kind := .ordinary
  loader := none
  accessFlags := 33
  super := sup
  interfaces := #[]
  cf := none
  fields := #[]
  methods := #[]
  instanceTypes := #[]
  staticTypes := #[]
  resolved := #[]
  callSites := []
  init := .initialized
  statics := none
  mirror := none

def pool0 : Array CpInfo := pool [(5, u "<init>"), (0, u "()V"), (1, .class_ 10), (1, u "java/lang/Object")] 113

def k0c0 : Code := { maxStack := 0, maxLocals := 1, code := object_method_1_code, exceptionTable := #[], attributes := #[] }
def k0m0 : Method := { name := "<init>", desc := "()V", sig := { parameters := [], returnType := none }, accessFlags := 1, code := some k0c0 }
/-- java/lang/Object -/
def k0 : Class := { plain "java/lang/Object" none with
  accessFlags := 33
  interfaces := #[]
  cf := some (fileOf pool0 8 #[] #[{ accessFlags := 1, nameIndex := 5, descriptorIndex := 6, attributes := #[] }] 33 0 #[] #[])
  fields := #[]
  methods := #[k0m0]
  instanceTypes := #[]
  staticTypes := #[]
  resolved := Array.replicate 124 none
  statics := none }

def pool1 : Array CpInfo := pool [(2, .class_ 4), (1, u "java/lang/Object"), (0, u "<init>"), (0, u "()V"), (0, .class_ 8), (0, u "java/lang/String"), (0, .methodref 7 10), (0, .nameAndType 5 11), (0, u "([C)V"), (0, .methodref 7 13), (0, .nameAndType 14 15), (0, u "valueOf"), (0, u "(C)Ljava/lang/String;"), (0, .methodref 17 18), (0, .class_ 19), (0, .nameAndType 20 21), (0, u "com/example/lease/lease/KeyEqualsPinLaw"), (0, u "mk"), (0, u "(ICC)Ljava/lang/String;"), (0, .class_ 23), (0, u "com/example/lease/lease/Holds$Key"), (0, .methodref 22 25), (0, .nameAndType 5 26), (0, u "(Ljava/lang/String;J)V"), (0, .methodref 22 28), (0, .nameAndType 29 30), (0, u "equals"), (0, u "(Ljava/lang/Object;)Z"), (3, u "law"), (0, u "(IIJJI)Z")] 6

def k1m0 : Method := { name := "<init>", desc := "()V", sig := { parameters := [], returnType := none }, accessFlags := 2, code := none }
def k1c1 : Code := { maxStack := 6, maxLocals := 3, code := method_2_code, exceptionTable := #[], attributes := #[] }
def k1m1 : Method := { name := "mk", desc := "(ICC)Ljava/lang/String;", sig := { parameters := [.int, .char, .char], returnType := some (.object "java/lang/String") }, accessFlags := 10, code := some k1c1 }
def k1c2 : Code := { maxStack := 5, maxLocals := 25, code := code, exceptionTable := #[], attributes := #[] }
def k1m2 : Method := { name := "law", desc := "(IIJJI)Z", sig := { parameters := [.int, .int, .long, .long, .int], returnType := some .boolean }, accessFlags := 9, code := some k1c2 }
/-- com/example/lease/lease/KeyEqualsPinLaw -/
def k1 : Class := { plain "com/example/lease/lease/KeyEqualsPinLaw" (some 0) with
  accessFlags := 49
  interfaces := #[]
  cf := some (fileOf pool1 17 #[] #[{ accessFlags := 2, nameIndex := 5, descriptorIndex := 6, attributes := #[] }, { accessFlags := 10, nameIndex := 20, descriptorIndex := 21, attributes := #[] }, { accessFlags := 9, nameIndex := 34, descriptorIndex := 35, attributes := #[] }] 49 2 #[] #[])
  fields := #[]
  methods := #[k1m0, k1m1, k1m2]
  instanceTypes := #[]
  staticTypes := #[]
  resolved := Array.replicate 42 none
  statics := none }

def pool2 : Array CpInfo := pool [(1, .class_ 2), (0, u "java/io/Serializable"), (0, .class_ 4), (0, u "java/lang/Object")] 2

/-- java/io/Serializable -/
def k2 : Class := { plain "java/io/Serializable" (some 0) with
  accessFlags := 1537
  interfaces := #[]
  cf := some (fileOf pool2 1 #[] #[] 1537 3 #[] #[])
  fields := #[]
  methods := #[]
  instanceTypes := #[]
  staticTypes := #[]
  resolved := Array.replicate 7 none
  statics := none }

def pool3 : Array CpInfo := pool [(1, .class_ 2), (0, u "java/lang/Comparable"), (0, .class_ 4), (0, u "java/lang/Object")] 7

/-- java/lang/Comparable -/
def k3 : Class := { plain "java/lang/Comparable" (some 0) with
  accessFlags := 1537
  interfaces := #[]
  cf := some (fileOf pool3 1 #[] #[] 1537 3 #[] #[])
  fields := #[]
  methods := #[]
  instanceTypes := #[]
  staticTypes := #[]
  resolved := Array.replicate 12 none
  statics := none }

def pool4 : Array CpInfo := pool [(2, .class_ 4), (1, u "java/lang/CharSequence"), (42, .class_ 48), (0, u "java/lang/CharSequence$1CodePointIterator"), (10, .class_ 60), (0, u "java/lang/CharSequence$1CharIterator"), (5, .class_ 67), (0, u "java/lang/Object")] 63

/-- java/lang/CharSequence -/
def k4 : Class := { plain "java/lang/CharSequence" (some 0) with
  accessFlags := 1537
  interfaces := #[]
  cf := some (fileOf pool4 2 #[.nestMembers #[47, 59]] #[] 1537 66 #[] #[])
  fields := #[]
  methods := #[]
  instanceTypes := #[]
  staticTypes := #[]
  resolved := Array.replicate 131 none
  statics := none }

def pool5 : Array CpInfo := pool [(1, .class_ 2), (0, u "java/lang/constant/Constable"), (0, .class_ 4), (0, u "java/lang/Object")] 6

/-- java/lang/constant/Constable -/
def k5 : Class := { plain "java/lang/constant/Constable" (some 0) with
  accessFlags := 1537
  interfaces := #[]
  cf := some (fileOf pool5 1 #[] #[] 1537 3 #[] #[])
  fields := #[]
  methods := #[]
  instanceTypes := #[]
  staticTypes := #[]
  resolved := Array.replicate 11 none
  statics := none }

def pool6 : Array CpInfo := pool [(1, .class_ 2), (0, u "java/lang/constant/ConstantDesc"), (0, .class_ 4), (0, u "java/lang/Object")] 32

/-- java/lang/constant/ConstantDesc -/
def k6 : Class := { plain "java/lang/constant/ConstantDesc" (some 0) with
  accessFlags := 1537
  interfaces := #[]
  cf := some (fileOf pool6 1 #[] #[] 1537 3 #[] #[])
  fields := #[]
  methods := #[]
  instanceTypes := #[]
  staticTypes := #[]
  resolved := Array.replicate 37 none
  statics := none }

def pool7 : Array CpInfo := pool [(1, .methodref 2 3), (0, .class_ 4), (0, .nameAndType 5 6), (0, u "java/lang/Object"), (0, u "<init>"), (0, u "()V"), (0, .string 8), (0, u ""), (0, .fieldref 10 11), (0, .class_ 12), (0, .nameAndType 13 14), (0, u "java/lang/String"), (0, u "value"), (0, u "[B"), (0, .fieldref 10 16), (0, .nameAndType 17 18), (0, u "coder"), (0, u "B"), (2, u "hash"), (0, u "I"), (2, u "hashIsZero"), (0, u "Z"), (0, .methodref 10 28), (0, .nameAndType 5 29), (0, u "([CIILjava/lang/Void;)V"), (8, .fieldref 10 39), (0, .nameAndType 40 26), (0, u "COMPACT_STRINGS"), (1, .class_ 44), (1, u "java/lang/StringUTF16"), (0, u "compress"), (1, .methodref 42 48), (0, .nameAndType 49 50), (0, u "coderFromArrayLen"), (0, u "([BI)B"), (2, u "toBytes"), (53, .class_ 109), (1, u "java/lang/StringLatin1"), (67, .methodref 42 178), (0, .nameAndType 45 179), (0, u "([CII)[B"), (29, .methodref 10 210), (0, .nameAndType 5 211), (0, u "([BB)V"), (157, u "(C)Z"), (171, .methodref 107 542), (0, .nameAndType 543 544), (0, u "equals"), (0, u "([B[B)Z"), (28, u "(Ljava/lang/Object;)Z"), (1, .class_ 576), (0, u "java/lang/CharSequence"), (22, u "CASE_INSENSITIVE_ORDER"), (0, u "Ljava/util/Comparator;"), (181, u "valueOf"), (0, u "(C)Ljava/lang/String;"), (226, u "([C)V"), (4, .methodref 107 1016), (0, .nameAndType 1017 369), (0, u "canEncode"), (0, .methodref 107 1019), (0, .nameAndType 53 1020), (0, u "(C)[B"), (80, u "serialPersistentFields"), (0, u "[Ljava/io/ObjectStreamField;"), (0, .class_ 1104), (0, u "java/lang/String$CaseInsensitiveComparator"), (1, .class_ 1107), (0, u "java/io/Serializable"), (0, .class_ 1109), (0, u "java/lang/Comparable"), (0, .class_ 1111), (0, u "java/lang/constant/Constable"), (0, .class_ 1113), (0, u "java/lang/constant/ConstantDesc"), (2, u "serialVersionUID"), (0, u "J"), (3, u "REPL"), (0, u "C"), (2, u "LATIN1"), (1, u "UTF16")] 323

def k7m0 : Method := { name := "<init>", desc := "()V", sig := { parameters := [], returnType := none }, accessFlags := 1, code := none }
def k7c1 : Code := { maxStack := 5, maxLocals := 2, code := jdk_42_method_3_code, exceptionTable := #[], attributes := #[] }
def k7m1 : Method := { name := "<init>", desc := "([C)V", sig := { parameters := [(.array .char)], returnType := none }, accessFlags := 1, code := some k7c1 }
def k7c2 : Code := { maxStack := 2, maxLocals := 3, code := jdk_42_method_66_code, exceptionTable := #[], attributes := #[] }
def k7m2 : Method := { name := "equals", desc := "(Ljava/lang/Object;)Z", sig := { parameters := [(.object "java/lang/Object")], returnType := some .boolean }, accessFlags := 1, code := some k7c2 }
def k7c3 : Code := { maxStack := 4, maxLocals := 1, code := jdk_42_method_139_code, exceptionTable := #[], attributes := #[] }
def k7m3 : Method := { name := "valueOf", desc := "(C)Ljava/lang/String;", sig := { parameters := [.char], returnType := some (.object "java/lang/String") }, accessFlags := 9, code := some k7c3 }
def k7c4 : Code := { maxStack := 4, maxLocals := 6, code := jdk_42_method_149_code, exceptionTable := #[], attributes := #[] }
def k7m4 : Method := { name := "<init>", desc := "([CIILjava/lang/Void;)V", sig := { parameters := [(.array .char), .int, .int, (.object "java/lang/Void")], returnType := none }, accessFlags := 2, code := some k7c4 }
def k7c5 : Code := { maxStack := 2, maxLocals := 3, code := jdk_42_method_151_code, exceptionTable := #[], attributes := #[] }
def k7m5 : Method := { name := "<init>", desc := "([BB)V", sig := { parameters := [(.array .byte), .byte], returnType := none }, accessFlags := 0, code := some k7c5 }
/-- java/lang/String -/
def k7 : Class := { plain "java/lang/String" (some 0) with
  accessFlags := 49
  interfaces := #[2, 3, 4, 5, 6]
  cf := some (fileOf pool7 10 #[.nestMembers #[1103]] #[{ accessFlags := 1, nameIndex := 5, descriptorIndex := 6, attributes := #[] }, { accessFlags := 1, nameIndex := 5, descriptorIndex := 1010, attributes := #[] }, { accessFlags := 1, nameIndex := 543, descriptorIndex := 573, attributes := #[] }, { accessFlags := 9, nameIndex := 782, descriptorIndex := 783, attributes := #[] }, { accessFlags := 2, nameIndex := 5, descriptorIndex := 29, attributes := #[] }, { accessFlags := 0, nameIndex := 5, descriptorIndex := 211, attributes := #[] }] 49 2 #[1106, 1108, 575, 1110, 1112] #[{ accessFlags := 18, nameIndex := 13, descriptorIndex := 14, attributes := #[] }, { accessFlags := 18, nameIndex := 17, descriptorIndex := 18, attributes := #[] }, { accessFlags := 2, nameIndex := 21, descriptorIndex := 22, attributes := #[] }, { accessFlags := 2, nameIndex := 25, descriptorIndex := 26, attributes := #[] }, { accessFlags := 26, nameIndex := 1116, descriptorIndex := 1117, attributes := #[] }, { accessFlags := 24, nameIndex := 40, descriptorIndex := 26, attributes := #[] }, { accessFlags := 26, nameIndex := 1101, descriptorIndex := 1102, attributes := #[] }, { accessFlags := 26, nameIndex := 1121, descriptorIndex := 1122, attributes := #[] }, { accessFlags := 25, nameIndex := 599, descriptorIndex := 600, attributes := #[] }, { accessFlags := 24, nameIndex := 1125, descriptorIndex := 18, attributes := #[] }, { accessFlags := 24, nameIndex := 1127, descriptorIndex := 18, attributes := #[] }])
  fields := #[{ name := "value", type := (.array .byte), accessFlags := 18, slot := 0, constantValue := 0 }, { name := "coder", type := .byte, accessFlags := 18, slot := 1, constantValue := 0 }, { name := "hash", type := .int, accessFlags := 2, slot := 2, constantValue := 0 }, { name := "hashIsZero", type := .boolean, accessFlags := 2, slot := 3, constantValue := 0 }, { name := "serialVersionUID", type := .long, accessFlags := 26, slot := 0, constantValue := 0 }, { name := "COMPACT_STRINGS", type := .boolean, accessFlags := 24, slot := 1, constantValue := 0 }, { name := "serialPersistentFields", type := (.array (.object "java/io/ObjectStreamField")), accessFlags := 26, slot := 2, constantValue := 0 }, { name := "REPL", type := .char, accessFlags := 26, slot := 3, constantValue := 0 }, { name := "CASE_INSENSITIVE_ORDER", type := (.object "java/util/Comparator"), accessFlags := 25, slot := 4, constantValue := 0 }, { name := "LATIN1", type := .byte, accessFlags := 24, slot := 5, constantValue := 0 }, { name := "UTF16", type := .byte, accessFlags := 24, slot := 6, constantValue := 0 }]
  methods := #[k7m0, k7m1, k7m2, k7m3, k7m4, k7m5]
  instanceTypes := #[(.array .byte), .byte, .int, .boolean]
  staticTypes := #[.long, .boolean, (.array (.object "java/io/ObjectStreamField")), .char, (.object "java/util/Comparator"), .byte, .byte]
  resolved := Array.replicate 1451 none
  statics := some 0 }

def pool8 : Array CpInfo := pool [(6, .class_ 8), (1, u "java/lang/Object"), (0, u "<init>"), (0, u "()V"), (1, .class_ 14), (1, u "java/lang/StringUTF16"), (31, u "$assertionsDisabled"), (0, u "Z"), (13, u "HI_BYTE_SHIFT"), (0, u "I"), (2, u "LO_BYTE_SHIFT"), (49, .methodref 12 116), (0, .nameAndType 117 118), (0, u "compress"), (0, u "([CI[BII)I"), (3, u "([CII)[B"), (138, u "coderFromArrayLen"), (0, u "([BI)B"), (106, .class_ 371), (1, u "java/lang/StringUTF16$LinesSpliterator"), (58, u "MAX_LENGTH"), (196, .class_ 628), (0, u "java/lang/StringUTF16$CodePointsSpliterator"), (0, .class_ 630), (0, u "java/lang/StringUTF16$CharsSpliterator")] 4

def k8m0 : Method := { name := "<init>", desc := "()V", sig := { parameters := [], returnType := none }, accessFlags := 0, code := none }
def k8c1 : Code := { maxStack := 2, maxLocals := 2, code := jdk_52_method_15_code, exceptionTable := #[], attributes := #[] }
def k8m1 : Method := { name := "coderFromArrayLen", desc := "([BI)B", sig := { parameters := [(.array .byte), .int], returnType := some .byte }, accessFlags := 8, code := some k8c1 }
def k8c2 : Code := { maxStack := 5, maxLocals := 6, code := jdk_52_method_16_code, exceptionTable := #[], attributes := #[] }
def k8m2 : Method := { name := "compress", desc := "([CII)[B", sig := { parameters := [(.array .char), .int, .int], returnType := some (.array .byte) }, accessFlags := 9, code := some k8c2 }
def k8c3 : Code := { maxStack := 3, maxLocals := 7, code := jdk_52_method_21_code, exceptionTable := #[], attributes := #[] }
def k8m3 : Method := { name := "compress", desc := "([CI[BII)I", sig := { parameters := [(.array .char), .int, (.array .byte), .int, .int], returnType := some .int }, accessFlags := 9, code := some k8c3 }
/-- java/lang/StringUTF16 -/
def k8 : Class := { plain "java/lang/StringUTF16" (some 0) with
  accessFlags := 48
  interfaces := #[]
  cf := some (fileOf pool8 12 #[.nestMembers #[627, 629, 369]] #[{ accessFlags := 0, nameIndex := 9, descriptorIndex := 10, attributes := #[] }, { accessFlags := 8, nameIndex := 261, descriptorIndex := 262, attributes := #[] }, { accessFlags := 9, nameIndex := 117, descriptorIndex := 122, attributes := #[] }, { accessFlags := 9, nameIndex := 117, descriptorIndex := 118, attributes := #[] }] 48 6 #[] #[{ accessFlags := 26, nameIndex := 61, descriptorIndex := 62, attributes := #[] }, { accessFlags := 26, nameIndex := 65, descriptorIndex := 62, attributes := #[] }, { accessFlags := 24, nameIndex := 430, descriptorIndex := 62, attributes := #[] }, { accessFlags := 4120, nameIndex := 46, descriptorIndex := 47, attributes := #[] }])
  fields := #[{ name := "HI_BYTE_SHIFT", type := .int, accessFlags := 26, slot := 0, constantValue := 0 }, { name := "LO_BYTE_SHIFT", type := .int, accessFlags := 26, slot := 1, constantValue := 0 }, { name := "MAX_LENGTH", type := .int, accessFlags := 24, slot := 2, constantValue := 0 }, { name := "$assertionsDisabled", type := .boolean, accessFlags := 4120, slot := 3, constantValue := 0 }]
  methods := #[k8m0, k8m1, k8m2, k8m3]
  instanceTypes := #[]
  staticTypes := #[.int, .int, .int, .boolean]
  resolved := Array.replicate 635 none
  statics := none }

def pool9 : Array CpInfo := pool [(1, .methodref 2 3), (0, .class_ 4), (0, .nameAndType 5 6), (0, u "java/lang/Object"), (0, u "<init>"), (0, u "()V"), (0, .fieldref 8 9), (0, .class_ 10), (0, .nameAndType 11 12), (0, u "com/example/lease/lease/Holds$Key"), (0, u "lockName"), (0, u "Ljava/lang/String;"), (0, .fieldref 8 14), (0, .nameAndType 15 16), (0, u "threadId"), (0, u "J"), (0, .methodref 18 19), (0, .class_ 20), (0, .nameAndType 21 22), (0, u "java/lang/String"), (0, u "equals"), (0, u "(Ljava/lang/Object;)Z"), (12, u "(Ljava/lang/String;J)V"), (10, .class_ 47), (0, u "com/example/lease/lease/Holds")] 2

def k9c0 : Code := { maxStack := 3, maxLocals := 4, code := prog_5_method_1_code, exceptionTable := #[], attributes := #[] }
def k9m0 : Method := { name := "<init>", desc := "(Ljava/lang/String;J)V", sig := { parameters := [(.object "java/lang/String"), .long], returnType := none }, accessFlags := 0, code := some k9c0 }
def k9c1 : Code := { maxStack := 4, maxLocals := 3, code := prog_5_method_4_code, exceptionTable := #[], attributes := #[] }
def k9m1 : Method := { name := "equals", desc := "(Ljava/lang/Object;)Z", sig := { parameters := [(.object "java/lang/Object")], returnType := some .boolean }, accessFlags := 1, code := some k9c1 }
/-- com/example/lease/lease/Holds$Key -/
def k9 : Class := { plain "com/example/lease/lease/Holds$Key" (some 0) with
  accessFlags := 48
  interfaces := #[]
  cf := some (fileOf pool9 8 #[.nestHost 46] #[{ accessFlags := 0, nameIndex := 5, descriptorIndex := 35, attributes := #[] }, { accessFlags := 1, nameIndex := 21, descriptorIndex := 22, attributes := #[] }] 48 2 #[] #[{ accessFlags := 18, nameIndex := 11, descriptorIndex := 12, attributes := #[] }, { accessFlags := 18, nameIndex := 15, descriptorIndex := 16, attributes := #[] }])
  fields := #[{ name := "lockName", type := (.object "java/lang/String"), accessFlags := 18, slot := 0, constantValue := 0 }, { name := "threadId", type := .long, accessFlags := 18, slot := 1, constantValue := 0 }]
  methods := #[k9m0, k9m1]
  instanceTypes := #[(.object "java/lang/String"), .long]
  staticTypes := #[]
  resolved := Array.replicate 50 none
  statics := none }

def pool10 : Array CpInfo := pool [(4, .class_ 6), (1, u "java/lang/Object"), (0, u "<init>"), (0, u "()V"), (5, .class_ 16), (1, u "java/lang/StringLatin1"), (73, u "canEncode"), (14, u "(C)Z"), (15, u "$assertionsDisabled"), (0, u "Z"), (98, .class_ 223), (1, u "java/lang/StringLatin1$LinesSpliterator"), (57, u "equals"), (0, u "([B[B)Z"), (97, u "toBytes"), (1, u "(C)[B"), (7, .class_ 391), (0, u "java/lang/StringLatin1$CharsSpliterator")] 3

def k10m0 : Method := { name := "<init>", desc := "()V", sig := { parameters := [], returnType := none }, accessFlags := 0, code := none }
def k10c1 : Code := { maxStack := 2, maxLocals := 1, code := jdk_43_method_3_code, exceptionTable := #[], attributes := #[] }
def k10m1 : Method := { name := "canEncode", desc := "(C)Z", sig := { parameters := [.char], returnType := some .boolean }, accessFlags := 9, code := some k10c1 }
def k10c2 : Code := { maxStack := 3, maxLocals := 3, code := jdk_43_method_13_code, exceptionTable := #[], attributes := #[] }
def k10m2 : Method := { name := "equals", desc := "([B[B)Z", sig := { parameters := [(.array .byte), (.array .byte)], returnType := some .boolean }, accessFlags := 9, code := some k10c2 }
def k10c3 : Code := { maxStack := 4, maxLocals := 1, code := jdk_43_method_46_code, exceptionTable := #[], attributes := #[] }
def k10m3 : Method := { name := "toBytes", desc := "(C)[B", sig := { parameters := [.char], returnType := some (.array .byte) }, accessFlags := 9, code := some k10c3 }
/-- java/lang/StringLatin1 -/
def k10 : Class := { plain "java/lang/StringLatin1" (some 0) with
  accessFlags := 48
  interfaces := #[]
  cf := some (fileOf pool10 14 #[.nestMembers #[390, 221]] #[{ accessFlags := 0, nameIndex := 7, descriptorIndex := 8, attributes := #[] }, { accessFlags := 9, nameIndex := 90, descriptorIndex := 105, attributes := #[] }, { accessFlags := 9, nameIndex := 281, descriptorIndex := 282, attributes := #[] }, { accessFlags := 9, nameIndex := 380, descriptorIndex := 382, attributes := #[] }] 48 4 #[] #[{ accessFlags := 4120, nameIndex := 121, descriptorIndex := 122, attributes := #[] }])
  fields := #[{ name := "$assertionsDisabled", type := .boolean, accessFlags := 4120, slot := 0, constantValue := 0 }]
  methods := #[k10m0, k10m1, k10m2, k10m3]
  instanceTypes := #[]
  staticTypes := #[.boolean]
  resolved := Array.replicate 395 none
  statics := none }

def pool11 : Array CpInfo := pool [(2, .class_ 4), (1, u "java/lang/Object"), (0, u "<init>"), (0, u "()V"), (17, .class_ 26), (1, u "jdk/internal/util/Preconditions"), (28, .class_ 56), (0, u "jdk/internal/util/Preconditions$4"), (57, .class_ 115), (0, u "jdk/internal/util/Preconditions$1"), (7, u "SIOOBE_FORMATTER"), (0, u "Ljava/util/function/BiFunction;"), (0, .class_ 126), (0, u "jdk/internal/util/Preconditions$2"), (3, u "AIOOBE_FORMATTER"), (0, .class_ 132), (0, u "jdk/internal/util/Preconditions$3"), (3, u "IOOBE_FORMATTER")] 57

def k11m0 : Method := { name := "<init>", desc := "()V", sig := { parameters := [], returnType := none }, accessFlags := 1, code := none }
/-- jdk/internal/util/Preconditions -/
def k11 : Class := { plain "jdk/internal/util/Preconditions" (some 0) with
  accessFlags := 33
  interfaces := #[]
  cf := some (fileOf pool11 24 #[.nestMembers #[55, 131, 125, 114]] #[{ accessFlags := 1, nameIndex := 5, descriptorIndex := 6, attributes := #[] }] 33 2 #[] #[{ accessFlags := 25, nameIndex := 123, descriptorIndex := 124, attributes := #[] }, { accessFlags := 25, nameIndex := 130, descriptorIndex := 124, attributes := #[] }, { accessFlags := 25, nameIndex := 136, descriptorIndex := 124, attributes := #[] }])
  fields := #[{ name := "SIOOBE_FORMATTER", type := (.object "java/util/function/BiFunction"), accessFlags := 25, slot := 0, constantValue := 0 }, { name := "AIOOBE_FORMATTER", type := (.object "java/util/function/BiFunction"), accessFlags := 25, slot := 1, constantValue := 0 }, { name := "IOOBE_FORMATTER", type := (.object "java/util/function/BiFunction"), accessFlags := 25, slot := 2, constantValue := 0 }]
  methods := #[k11m0]
  instanceTypes := #[]
  staticTypes := #[(.object "java/util/function/BiFunction"), (.object "java/util/function/BiFunction"), (.object "java/util/function/BiFunction")]
  resolved := Array.replicate 194 none
  statics := some 1 }

def pool12 : Array CpInfo := pool [(9, u "<init>"), (6, .class_ 18), (1, u "java/lang/Object"), (0, u "()V"), (1, .class_ 23), (1, u "jdk/internal/util/ArraysSupport"), (0, u "LOG2_ARRAY_LONG_INDEX_SCALE"), (0, u "I"), (2, u "U"), (0, u "Ljdk/internal/misc/Unsafe;"), (8, u "BIG_ENDIAN"), (0, u "Z"), (8, u "LOG2_BYTE_BIT_SIZE"), (4, u "LOG2_ARRAY_INT_INDEX_SCALE"), (54, u "JLA"), (0, u "Ljdk/internal/access/JavaLangAccess;"), (11, u "LOG2_ARRAY_BOOLEAN_INDEX_SCALE"), (9, u "LOG2_ARRAY_BYTE_INDEX_SCALE"), (5, u "LOG2_ARRAY_CHAR_INDEX_SCALE"), (5, u "LOG2_ARRAY_SHORT_INDEX_SCALE"), (18, u "LOG2_ARRAY_FLOAT_INDEX_SCALE"), (24, u "LOG2_ARRAY_DOUBLE_INDEX_SCALE"), (89, u "T_BOOLEAN"), (2, u "T_CHAR"), (1, u "T_FLOAT"), (1, u "T_DOUBLE"), (1, u "T_BYTE"), (1, u "T_SHORT"), (1, u "T_INT"), (1, u "T_LONG"), (1, u "SOFT_MAX_ARRAY_LENGTH")] 83

def k12m0 : Method := { name := "<init>", desc := "()V", sig := { parameters := [], returnType := none }, accessFlags := 2, code := none }
/-- jdk/internal/util/ArraysSupport -/
def k12 : Class := { plain "jdk/internal/util/ArraysSupport" (some 0) with
  accessFlags := 33
  interfaces := #[]
  cf := some (fileOf pool12 21 #[] #[{ accessFlags := 2, nameIndex := 9, descriptorIndex := 19, attributes := #[] }] 33 16 #[] #[{ accessFlags := 24, nameIndex := 28, descriptorIndex := 29, attributes := #[] }, { accessFlags := 26, nameIndex := 38, descriptorIndex := 39, attributes := #[] }, { accessFlags := 25, nameIndex := 121, descriptorIndex := 25, attributes := #[] }, { accessFlags := 25, nameIndex := 131, descriptorIndex := 25, attributes := #[] }, { accessFlags := 25, nameIndex := 137, descriptorIndex := 25, attributes := #[] }, { accessFlags := 25, nameIndex := 143, descriptorIndex := 25, attributes := #[] }, { accessFlags := 25, nameIndex := 53, descriptorIndex := 25, attributes := #[] }, { accessFlags := 25, nameIndex := 24, descriptorIndex := 25, attributes := #[] }, { accessFlags := 25, nameIndex := 162, descriptorIndex := 25, attributes := #[] }, { accessFlags := 25, nameIndex := 187, descriptorIndex := 25, attributes := #[] }, { accessFlags := 26, nameIndex := 48, descriptorIndex := 25, attributes := #[] }, { accessFlags := 25, nameIndex := 277, descriptorIndex := 25, attributes := #[] }, { accessFlags := 25, nameIndex := 280, descriptorIndex := 25, attributes := #[] }, { accessFlags := 25, nameIndex := 282, descriptorIndex := 25, attributes := #[] }, { accessFlags := 25, nameIndex := 284, descriptorIndex := 25, attributes := #[] }, { accessFlags := 25, nameIndex := 286, descriptorIndex := 25, attributes := #[] }, { accessFlags := 25, nameIndex := 288, descriptorIndex := 25, attributes := #[] }, { accessFlags := 25, nameIndex := 290, descriptorIndex := 25, attributes := #[] }, { accessFlags := 25, nameIndex := 292, descriptorIndex := 25, attributes := #[] }, { accessFlags := 26, nameIndex := 108, descriptorIndex := 109, attributes := #[] }, { accessFlags := 25, nameIndex := 294, descriptorIndex := 25, attributes := #[] }])
  fields := #[{ name := "U", type := (.object "jdk/internal/misc/Unsafe"), accessFlags := 24, slot := 0, constantValue := 0 }, { name := "BIG_ENDIAN", type := .boolean, accessFlags := 26, slot := 1, constantValue := 0 }, { name := "LOG2_ARRAY_BOOLEAN_INDEX_SCALE", type := .int, accessFlags := 25, slot := 2, constantValue := 0 }, { name := "LOG2_ARRAY_BYTE_INDEX_SCALE", type := .int, accessFlags := 25, slot := 3, constantValue := 0 }, { name := "LOG2_ARRAY_CHAR_INDEX_SCALE", type := .int, accessFlags := 25, slot := 4, constantValue := 0 }, { name := "LOG2_ARRAY_SHORT_INDEX_SCALE", type := .int, accessFlags := 25, slot := 5, constantValue := 0 }, { name := "LOG2_ARRAY_INT_INDEX_SCALE", type := .int, accessFlags := 25, slot := 6, constantValue := 0 }, { name := "LOG2_ARRAY_LONG_INDEX_SCALE", type := .int, accessFlags := 25, slot := 7, constantValue := 0 }, { name := "LOG2_ARRAY_FLOAT_INDEX_SCALE", type := .int, accessFlags := 25, slot := 8, constantValue := 0 }, { name := "LOG2_ARRAY_DOUBLE_INDEX_SCALE", type := .int, accessFlags := 25, slot := 9, constantValue := 0 }, { name := "LOG2_BYTE_BIT_SIZE", type := .int, accessFlags := 26, slot := 10, constantValue := 0 }, { name := "T_BOOLEAN", type := .int, accessFlags := 25, slot := 11, constantValue := 0 }, { name := "T_CHAR", type := .int, accessFlags := 25, slot := 12, constantValue := 0 }, { name := "T_FLOAT", type := .int, accessFlags := 25, slot := 13, constantValue := 0 }, { name := "T_DOUBLE", type := .int, accessFlags := 25, slot := 14, constantValue := 0 }, { name := "T_BYTE", type := .int, accessFlags := 25, slot := 15, constantValue := 0 }, { name := "T_SHORT", type := .int, accessFlags := 25, slot := 16, constantValue := 0 }, { name := "T_INT", type := .int, accessFlags := 25, slot := 17, constantValue := 0 }, { name := "T_LONG", type := .int, accessFlags := 25, slot := 18, constantValue := 0 }, { name := "JLA", type := (.object "jdk/internal/access/JavaLangAccess"), accessFlags := 26, slot := 19, constantValue := 0 }, { name := "SOFT_MAX_ARRAY_LENGTH", type := .int, accessFlags := 25, slot := 20, constantValue := 0 }]
  methods := #[k12m0]
  instanceTypes := #[]
  staticTypes := #[(.object "jdk/internal/misc/Unsafe"), .boolean, .int, .int, .int, .int, .int, .int, .int, .int, .int, .int, .int, .int, .int, .int, .int, .int, .int, (.object "jdk/internal/access/JavaLangAccess"), .int]
  resolved := Array.replicate 378 none
  statics := none }

def pool13 : Array CpInfo := pool [(1, u "java/lang/Cloneable"), (0, .class_ 1), (0, u "java/lang/Object"), (0, .class_ 3)] 3

/-- java/lang/Cloneable -/
def k13 : Class := { plain "java/lang/Cloneable" (some 0) with
  accessFlags := 1537
  interfaces := #[]
  cf := some (fileOf pool13 2 #[] #[] 1537 4 #[] #[])
  fields := #[]
  methods := #[]
  instanceTypes := #[]
  staticTypes := #[]
  resolved := Array.replicate 8 none
  statics := none }

/-- the primitive byte -/
def k14 : Class := { plain "byte" none with kind := .primitive 'B', accessFlags := 0x411 }
/-- [B -/
def k15 : Class := { plain "[B" (some 0) with kind := .array 14 .byte, interfaces := #[13, 2], accessFlags := 1041 }

/-- the primitive char -/
def k16 : Class := { plain "char" none with kind := .primitive 'C', accessFlags := 0x411 }
/-- [C -/
def k17 : Class := { plain "[C" (some 0) with kind := .array 16 .char, interfaces := #[13, 2], accessFlags := 1041 }

/-- the primitive int -/
def k18 : Class := { plain "int" none with kind := .primitive 'I', accessFlags := 0x411 }
/-- [I -/
def k19 : Class := { plain "[I" (some 0) with kind := .array 18 .int, interfaces := #[13, 2], accessFlags := 1041 }

def heap : Heap := #[{ cls := 7, slots := #[.long 0, .int 1, .null, .int 0, .null, .int 0, .int 0], vm := .statics 7 },
  { cls := 11, slots := #[.null, .null, .null], vm := .statics 11 }]
def classes : Array Class := #[k0, k1, k2, k3, k4, k5, k6, k7, k8, k9, k10, k11, k12, k13, k14, k15, k16, k17, k18, k19]
def interned : List (Array UInt16 × Addr) := []
def slotsUsed : Nat := 10
def theMethod : MethodId := ⟨1, 2⟩
def args0 : Array Value := #[.int 0, .int 0, .long 0, .long 0, .int 0]
def aboutOver (below : List Frame) : State where
  vm := { classes := classes, interned := interned.toArray }
  heap := heap
  slotsUsed := slotsUsed
  threads := #[{ frames := .invoking theMethod args0 :: below }]
def below0 : List Frame := [.native { method := ⟨0, 0⟩, args := #[] }]
def about1 : State := aboutOver below0
def p0 : Program := .bare "" "" ""
def e0 : Env := launch0.env 0 0 0
theorem w_frames : about1.frames = Frame.invoking theMethod args0 :: below0 := rfl
set_option maxRecDepth 65536 in
theorem w_args : argsFit about1.vm theMethod args0 = true := by decide +kernel
set_option maxRecDepth 65536 in
theorem w_heap : heapFits about1 = true := by decide +kernel
set_option maxRecDepth 65536 in
theorem w_runnable : about1.curStatus? = some .runnable := by decide +kernel
set_option maxRecDepth 65536 in
theorem w_alone : about1.alone = true := by decide +kernel
set_option maxRecDepth 65536 in
theorem w_named : about1.methodNamed? x = some theMethod := by decide +kernel
set_option maxRecDepth 65536 in
theorem w_hears : about1.hears theMethod below0 = true := by decide +kernel
set_option maxRecDepth 65536 in
theorem w_ripe : about1.ripe theMethod args0 below0 = true := by decide +kernel
theorem w_running : about1.status = .running := rfl
set_option maxRecDepth 65536 in
theorem w_room : about1.hasRoom e0.platform room_1 = true :=
  launch0.hasRoom_least _ room_1 (by decide +kernel) (by decide +kernel) (by decide +kernel) (by decide +kernel) (by decide +kernel) (by decide +kernel)
theorem allAtoms_all (ts : List Jvm.Cond) (a : Array Jvm.Value) (st : Jvm.State) : (allAtoms ts).before a st = ts.all (fun c => c.before a st) := by
  induction ts with
  | nil => rfl
  | cons c t ih =>
    show (Jvm.Cond.and c (allAtoms t)).before a st = _
    rw [Jvm.Cond.before_and, ih, List.all_cons]
def words1 : List Jvm.Cond := Jvm.Cond.code x code maxLocals ret :: tables_1
/-- a 'code' word, met by the world's own term for the bytes: nothing is compared byte by byte -/
theorem code_word {y : MethodName} {bytes : ByteArray} {mx : Nat} {rt : Option FieldType} {a : Array Value} {s : State} {m : MethodId} {meth : Method} {c : Code} (h1 : s.methodNamed? y = some m) (h2 : s.vm.method? m = some meth) (h3 : meth.code = some c) (h4 : c.code = bytes)
    (h5 : (c.maxLocals == mx && c.exceptionTable.isEmpty && decide (c.maxStack ≤ mostOperands) && decide (meth.sig.returnType = rt) && !meth.locks && decide (parseMethodDescriptor y.desc = some meth.sig)) = true) : (Jvm.Cond.code y bytes mx rt).before a s = true := by
  simp only [Bool.and_eq_true, beq_iff_eq, Bool.not_eq_true', decide_eq_true_eq] at h5
  obtain ⟨⟨⟨⟨⟨g1, g2⟩, g3⟩, g4⟩, g5⟩, g6⟩ := h5
  simp [Cond.before, Cond.holds, Cond.value, h1, h2, h3, h4, g1, g2, g3, g4, g5, g6]
def isCode : Jvm.Cond → Bool
  | .code _ _ _ _ => true
  | _ => false
theorem all_split {L : List Jvm.Cond} {P : Jvm.Cond → Bool} (h1 : L.all (fun c => isCode c || P c) = true) (h2 : ∀ c ∈ L.filter isCode, P c = true) : L.all P = true := by
  refine List.all_eq_true.mpr fun c hc => ?_
  have h := List.all_eq_true.mp h1 c hc
  rcases Bool.eq_false_or_eq_true (isCode c) with hi | hi
  · exact h2 c (List.mem_filter.mpr ⟨hc, hi⟩)
  · simpa [hi] using h
set_option maxRecDepth 65536 in
theorem w_c0 : (Jvm.Cond.code x code maxLocals ret).before args0 about1 = true := code_word (m := ⟨1, 2⟩) (meth := k1m2) (c := k1c2) (by decide +kernel) rfl rfl rfl (by decide +kernel)
set_option maxRecDepth 65536 in
theorem w_c1 : (Jvm.Cond.code ({ cls := "com/example/lease/lease/KeyEqualsPinLaw", name := "mk", desc := "(ICC)Ljava/lang/String;" } : Jvm.MethodName) method_2_code (3 : Nat) (Option.some (Jvm.ClassFile.FieldType.object "java/lang/String"))).before args0 about1 = true := code_word (m := ⟨1, 1⟩) (meth := k1m1) (c := k1c1) (by decide +kernel) rfl rfl rfl (by decide +kernel)
set_option maxRecDepth 65536 in
theorem w_c2 : (Jvm.Cond.code ({ cls := "java/lang/String", name := "<init>", desc := "([C)V" } : Jvm.MethodName) jdk_42_method_3_code (2 : Nat) (Option.none : Option Jvm.ClassFile.FieldType)).before args0 about1 = true := code_word (m := ⟨7, 1⟩) (meth := k7m1) (c := k7c1) (by decide +kernel) rfl rfl rfl (by decide +kernel)
set_option maxRecDepth 65536 in
theorem w_c3 : (Jvm.Cond.code ({ cls := "java/lang/String", name := "<init>", desc := "([CIILjava/lang/Void;)V" } : Jvm.MethodName) jdk_42_method_149_code (6 : Nat) (Option.none : Option Jvm.ClassFile.FieldType)).before args0 about1 = true := code_word (m := ⟨7, 4⟩) (meth := k7m4) (c := k7c4) (by decide +kernel) rfl rfl rfl (by decide +kernel)
set_option maxRecDepth 65536 in
theorem w_c4 : (Jvm.Cond.code ({ cls := "java/lang/Object", name := "<init>", desc := "()V" } : Jvm.MethodName) object_method_1_code (1 : Nat) (Option.none : Option Jvm.ClassFile.FieldType)).before args0 about1 = true := code_word (m := ⟨0, 0⟩) (meth := k0m0) (c := k0c0) (by decide +kernel) rfl rfl rfl (by decide +kernel)
set_option maxRecDepth 65536 in
theorem w_c5 : (Jvm.Cond.code ({ cls := "java/lang/StringUTF16", name := "compress", desc := "([CII)[B" } : Jvm.MethodName) jdk_52_method_16_code (6 : Nat) (Option.some (Jvm.ClassFile.FieldType.array Jvm.ClassFile.FieldType.byte))).before args0 about1 = true := code_word (m := ⟨8, 2⟩) (meth := k8m2) (c := k8c2) (by decide +kernel) rfl rfl rfl (by decide +kernel)
set_option maxRecDepth 65536 in
theorem w_c6 : (Jvm.Cond.code ({ cls := "java/lang/StringUTF16", name := "compress", desc := "([CI[BII)I" } : Jvm.MethodName) jdk_52_method_21_code (7 : Nat) (Option.some Jvm.ClassFile.FieldType.int)).before args0 about1 = true := code_word (m := ⟨8, 3⟩) (meth := k8m3) (c := k8c3) (by decide +kernel) rfl rfl rfl (by decide +kernel)
set_option maxRecDepth 65536 in
theorem w_c7 : (Jvm.Cond.code ({ cls := "java/lang/StringUTF16", name := "coderFromArrayLen", desc := "([BI)B" } : Jvm.MethodName) jdk_52_method_15_code (2 : Nat) (Option.some Jvm.ClassFile.FieldType.byte)).before args0 about1 = true := code_word (m := ⟨8, 1⟩) (meth := k8m1) (c := k8c1) (by decide +kernel) rfl rfl rfl (by decide +kernel)
set_option maxRecDepth 65536 in
theorem w_c8 : (Jvm.Cond.code ({ cls := "com/example/lease/lease/Holds$Key", name := "<init>", desc := "(Ljava/lang/String;J)V" } : Jvm.MethodName) prog_5_method_1_code (4 : Nat) (Option.none : Option Jvm.ClassFile.FieldType)).before args0 about1 = true := code_word (m := ⟨9, 0⟩) (meth := k9m0) (c := k9c0) (by decide +kernel) rfl rfl rfl (by decide +kernel)
set_option maxRecDepth 65536 in
theorem w_c9 : (Jvm.Cond.code ({ cls := "com/example/lease/lease/Holds$Key", name := "equals", desc := "(Ljava/lang/Object;)Z" } : Jvm.MethodName) prog_5_method_4_code (3 : Nat) (Option.some Jvm.ClassFile.FieldType.boolean)).before args0 about1 = true := code_word (m := ⟨9, 1⟩) (meth := k9m1) (c := k9c1) (by decide +kernel) rfl rfl rfl (by decide +kernel)
set_option maxRecDepth 65536 in
theorem w_c10 : (Jvm.Cond.code ({ cls := "java/lang/String", name := "equals", desc := "(Ljava/lang/Object;)Z" } : Jvm.MethodName) jdk_42_method_66_code (3 : Nat) (Option.some Jvm.ClassFile.FieldType.boolean)).before args0 about1 = true := code_word (m := ⟨7, 2⟩) (meth := k7m2) (c := k7c2) (by decide +kernel) rfl rfl rfl (by decide +kernel)
set_option maxRecDepth 65536 in
theorem w_c11 : (Jvm.Cond.code ({ cls := "java/lang/String", name := "valueOf", desc := "(C)Ljava/lang/String;" } : Jvm.MethodName) jdk_42_method_139_code (1 : Nat) (Option.some (Jvm.ClassFile.FieldType.object "java/lang/String"))).before args0 about1 = true := code_word (m := ⟨7, 3⟩) (meth := k7m3) (c := k7c3) (by decide +kernel) rfl rfl rfl (by decide +kernel)
set_option maxRecDepth 65536 in
theorem w_c12 : (Jvm.Cond.code ({ cls := "java/lang/StringLatin1", name := "canEncode", desc := "(C)Z" } : Jvm.MethodName) jdk_43_method_3_code (1 : Nat) (Option.some Jvm.ClassFile.FieldType.boolean)).before args0 about1 = true := code_word (m := ⟨10, 1⟩) (meth := k10m1) (c := k10c1) (by decide +kernel) rfl rfl rfl (by decide +kernel)
set_option maxRecDepth 65536 in
theorem w_c13 : (Jvm.Cond.code ({ cls := "java/lang/StringLatin1", name := "toBytes", desc := "(C)[B" } : Jvm.MethodName) jdk_43_method_46_code (1 : Nat) (Option.some (Jvm.ClassFile.FieldType.array Jvm.ClassFile.FieldType.byte))).before args0 about1 = true := code_word (m := ⟨10, 3⟩) (meth := k10m3) (c := k10c3) (by decide +kernel) rfl rfl rfl (by decide +kernel)
set_option maxRecDepth 65536 in
theorem w_c14 : (Jvm.Cond.code ({ cls := "java/lang/String", name := "<init>", desc := "([BB)V" } : Jvm.MethodName) jdk_42_method_151_code (3 : Nat) (Option.none : Option Jvm.ClassFile.FieldType)).before args0 about1 = true := code_word (m := ⟨7, 5⟩) (meth := k7m5) (c := k7c5) (by decide +kernel) rfl rfl rfl (by decide +kernel)
set_option maxRecDepth 65536 in
theorem w_c15 : (Jvm.Cond.code ({ cls := "java/lang/StringLatin1", name := "equals", desc := "([B[B)Z" } : Jvm.MethodName) jdk_43_method_13_code (3 : Nat) (Option.some Jvm.ClassFile.FieldType.boolean)).before args0 about1 = true := code_word (m := ⟨10, 2⟩) (meth := k10m2) (c := k10c2) (by decide +kernel) rfl rfl rfl (by decide +kernel)
def codes1 : List Jvm.Cond := [Jvm.Cond.code x code maxLocals ret, Jvm.Cond.code ({ cls := "com/example/lease/lease/KeyEqualsPinLaw", name := "mk", desc := "(ICC)Ljava/lang/String;" } : Jvm.MethodName) method_2_code (3 : Nat) (Option.some (Jvm.ClassFile.FieldType.object "java/lang/String")), Jvm.Cond.code ({ cls := "java/lang/String", name := "<init>", desc := "([C)V" } : Jvm.MethodName) jdk_42_method_3_code (2 : Nat) (Option.none : Option Jvm.ClassFile.FieldType), Jvm.Cond.code ({ cls := "java/lang/String", name := "<init>", desc := "([CIILjava/lang/Void;)V" } : Jvm.MethodName) jdk_42_method_149_code (6 : Nat) (Option.none : Option Jvm.ClassFile.FieldType), Jvm.Cond.code ({ cls := "java/lang/Object", name := "<init>", desc := "()V" } : Jvm.MethodName) object_method_1_code (1 : Nat) (Option.none : Option Jvm.ClassFile.FieldType), Jvm.Cond.code ({ cls := "java/lang/StringUTF16", name := "compress", desc := "([CII)[B" } : Jvm.MethodName) jdk_52_method_16_code (6 : Nat) (Option.some (Jvm.ClassFile.FieldType.array Jvm.ClassFile.FieldType.byte)), Jvm.Cond.code ({ cls := "java/lang/StringUTF16", name := "compress", desc := "([CI[BII)I" } : Jvm.MethodName) jdk_52_method_21_code (7 : Nat) (Option.some Jvm.ClassFile.FieldType.int), Jvm.Cond.code ({ cls := "java/lang/StringUTF16", name := "coderFromArrayLen", desc := "([BI)B" } : Jvm.MethodName) jdk_52_method_15_code (2 : Nat) (Option.some Jvm.ClassFile.FieldType.byte), Jvm.Cond.code ({ cls := "com/example/lease/lease/Holds$Key", name := "<init>", desc := "(Ljava/lang/String;J)V" } : Jvm.MethodName) prog_5_method_1_code (4 : Nat) (Option.none : Option Jvm.ClassFile.FieldType), Jvm.Cond.code ({ cls := "com/example/lease/lease/Holds$Key", name := "equals", desc := "(Ljava/lang/Object;)Z" } : Jvm.MethodName) prog_5_method_4_code (3 : Nat) (Option.some Jvm.ClassFile.FieldType.boolean), Jvm.Cond.code ({ cls := "java/lang/String", name := "equals", desc := "(Ljava/lang/Object;)Z" } : Jvm.MethodName) jdk_42_method_66_code (3 : Nat) (Option.some Jvm.ClassFile.FieldType.boolean), Jvm.Cond.code ({ cls := "java/lang/String", name := "valueOf", desc := "(C)Ljava/lang/String;" } : Jvm.MethodName) jdk_42_method_139_code (1 : Nat) (Option.some (Jvm.ClassFile.FieldType.object "java/lang/String")), Jvm.Cond.code ({ cls := "java/lang/StringLatin1", name := "canEncode", desc := "(C)Z" } : Jvm.MethodName) jdk_43_method_3_code (1 : Nat) (Option.some Jvm.ClassFile.FieldType.boolean), Jvm.Cond.code ({ cls := "java/lang/StringLatin1", name := "toBytes", desc := "(C)[B" } : Jvm.MethodName) jdk_43_method_46_code (1 : Nat) (Option.some (Jvm.ClassFile.FieldType.array Jvm.ClassFile.FieldType.byte)), Jvm.Cond.code ({ cls := "java/lang/String", name := "<init>", desc := "([BB)V" } : Jvm.MethodName) jdk_42_method_151_code (3 : Nat) (Option.none : Option Jvm.ClassFile.FieldType), Jvm.Cond.code ({ cls := "java/lang/StringLatin1", name := "equals", desc := "([B[B)Z" } : Jvm.MethodName) jdk_43_method_13_code (3 : Nat) (Option.some Jvm.ClassFile.FieldType.boolean)]
set_option maxRecDepth 65536 in
theorem codes_eq : words1.filter isCode = codes1 := rfl
theorem w_codes : ∀ c ∈ words1.filter isCode, c.before args0 about1 = true := by
  rw [codes_eq]
  intro c hc
  simp only [codes1, List.mem_cons, List.not_mem_nil, or_false] at hc
  rcases hc with rfl | rfl | rfl | rfl | rfl | rfl | rfl | rfl | rfl | rfl | rfl | rfl | rfl | rfl | rfl | rfl
  · exact w_c0
  · exact w_c1
  · exact w_c2
  · exact w_c3
  · exact w_c4
  · exact w_c5
  · exact w_c6
  · exact w_c7
  · exact w_c8
  · exact w_c9
  · exact w_c10
  · exact w_c11
  · exact w_c12
  · exact w_c13
  · exact w_c14
  · exact w_c15
set_option maxRecDepth 65536 in
theorem w_t1 : (words1.take 24).all (fun c => isCode c || c.before args0 about1) = true := by decide +kernel
set_option maxRecDepth 65536 in
theorem w_t2 : ((words1.drop 24).take 24).all (fun c => isCode c || c.before args0 about1) = true := by decide +kernel
set_option maxRecDepth 65536 in
theorem w_t3 : (((words1.drop 24).drop 24).take 24).all (fun c => isCode c || c.before args0 about1) = true := by decide +kernel
set_option maxRecDepth 65536 in
theorem w_t4 : (((words1.drop 24).drop 24).drop 24).all (fun c => isCode c || c.before args0 about1) = true := by decide +kernel
theorem w_tables : (allAtoms (Jvm.Cond.code x code maxLocals ret :: tables_1)).before args0 about1 = true := by
  rw [allAtoms_all]
  show words1.all (fun c => c.before args0 about1) = true
  refine all_split ?_ w_codes
  rw [← List.take_append_drop 24 words1, List.all_append, w_t1, ← List.take_append_drop 24 (words1.drop 24), List.all_append, w_t2, ← List.take_append_drop 24 ((words1.drop 24).drop 24), List.all_append, w_t3, w_t4]
  rfl
set_option maxRecDepth 65536 in
theorem w_rest : rest_1_c.before args0 about1 = true := by decide +kernel
set_option maxRecDepth 65536 in
theorem w_case : (Jvm.Cond.and given_1 narrow_1).before args0 about1 = true := by decide +kernel
set_option maxRecDepth 65536 in
theorem w_consts : constsHeld consts_1 about1 := Jvm.Lit.constsHeldB_iff.mp (by decide +kernel)
theorem w_applies : (headSpec (Jvm.Cond.code x code maxLocals ret :: tables_1) room_1).applies x e0.platform about1 = true :=
  (Spec.applies_iff w_frames).mpr ⟨w_running, w_runnable, w_alone, w_named, w_hears, w_ripe, w_room, w_tables⟩
theorem atStart : AtStart classFile x code maxLocals ret World_1 tables_1 room_1 Calls_1 rest_1 Pre_1 launch0 p0 e0 about1 theMethod args0 below0 :=
  ⟨lists_1, trivial, launch0.admits_env _ _ _, launch0.least_env, fairChoices_fair.cas, fairChoices_fair.clock, w_frames, w_args, w_heap, w_applies, ⟨w_consts, trivial⟩, w_rest, w_case⟩
end start1
theorem witness_1 : WitnessClaimed_1 := ⟨start1.p0, start1.e0, start1.about1, start1.theMethod, start1.args0, start1.below0, start1.atStart⟩
end Jvm.Pilot.@@N@@
