import JvmDerived
import JvmDerived.Pilot.@@N@@Statement
import JvmDerived.Pilot.@@N@@Code
set_option linter.unusedVariables false
set_option linter.unusedSimpArgs false
namespace Jvm.Pilot.@@N@@
open Jvm Jvm.ClassFile Sem Op Lib Jvm.Free Jvm.Stand Jvm.LawKit Jvm.RoadKit Bundle Jvm.Pilot.@@N@@.Jvm.D
/-! own kit, part 1: the walk by continuations -/
abbrev Cx : Type := Program × Env × State × MethodId × Array Value × List Frame × Method × Code × (Outcome → State → Prop)
abbrev Cx.p (x : Cx) : Program := x.1
abbrev Cx.e (x : Cx) : Env := x.2.1
abbrev Cx.s (x : Cx) : State := x.2.2.1
abbrev Cx.m (x : Cx) : MethodId := x.2.2.2.1
abbrev Cx.args (x : Cx) : Array Value := x.2.2.2.2.1
abbrev Cx.below (x : Cx) : List Frame := x.2.2.2.2.2.1
abbrev Cx.meth (x : Cx) : Method := x.2.2.2.2.2.2.1
abbrev Cx.c (x : Cx) : Code := x.2.2.2.2.2.2.2.1
abbrev Cx.F (x : Cx) : Outcome → State → Prop := x.2.2.2.2.2.2.2.2
abbrev BP : Type := Addr → Prop
abbrev QT : Type := Option Value → Heap → BP → Prop
/-- the end is reached from A -/
def Go (x : Cx) (A : State) : Prop := ∃ s₂ o, Steps x.p.tables x.e x.below A s₂ ∧ s₂.status = .running ∧ Ended s₂ x.below o ∧ x.F o s₂
theorem Go.from {x : Cx} {A A' : State} (G : Go x A') (st : ∀ t, Steps x.p.tables x.e x.below A' t → Steps x.p.tables x.e x.below A t) : Go x A := by
  obtain ⟨t, o, h1, r⟩ := G
  exact ⟨t, o, st _ h1, r⟩
/-- an instruction of the bytes: where it stands, its length, the place behind it -/
def Dc (bytes : ByteArray) (pc : Nat) (i : Instr) (len pc' : Nat) : Prop := decode bytes pc = .ok (i, len) ∧ pc' = pc + len
/-- a branch: where it stands, where it goes -/
def Db (bytes : ByteArray) (pc : Nat) (i : Instr) (o : Int) (pc' pc'' : Nat) : Prop := decode bytes pc = .ok (i, 3) ∧ pc' = pc + 3 ∧ 0 ≤ (pc : Int) + o ∧ ((pc : Int) + o).toNat = pc''
def k_inv (Z : State) (EL : List (String × Nat)) (B : BP) (vm : Vm) (h : Heap) : Prop :=
  CHv Z EL vm h ∧ (∀ y, Bk Z EL vm h y → B y) ∧ (∀ y, B y → y < h.size) ∧ Ext Z.heap h ∧ ∃ a0, EW Z a0 EL
def k_end (nw : Bool) (U : State) (o : Outcome) (U' : State) (L : List Loc) (k n : Nat) : Prop :=
  ReturnedEndW U o U' L k n ∧ (nw = true → U.WarmedH U'.vm)
/-- the booked places: none is lost, and what has come lies at n or above -/
def k_more (B B' : BP) (n : Nat) : Prop := (∀ y, B' y → B y ∨ n ≤ y) ∧ ∀ y, B y → B' y
theorem k_more.refl (B : BP) (n : Nat) : k_more B B n := ⟨fun _ q => Or.inl q, fun _ q => q⟩
theorem k_more.trans {B B' B'' : BP} {n n' : Nat} (a : k_more B B' n) (b : k_more B' B'' n') (q : n ≤ n') : k_more B B'' n := ⟨fun y hy => by
  rcases b.1 y hy with r | r
  · exact a.1 y r
  · exact Or.inr (Nat.le_trans q r), fun y hy => b.2 y (a.2 y hy)⟩
theorem k_more.no {B B' : BP} {n : Nat} (a : k_more B B' n) {y : Addr} (h1 : ¬ B y) (h2 : @LT.lt Nat _ y n) : ¬ B' y := fun q => by
  rcases a.1 y q with r | r
  · exact h1 r
  · exact absurd h2 (Nat.not_lt.mpr r)
/-- what a body promises -/
def ConQ (nw : Bool) (Z : State) (EL : List (String × Nat)) (rm : Room) (h : Heap) (B : BP) (ws : List Addr) (Q : QT) (U : State) (o : Outcome) (U' : State) : Prop :=
  ∃ v L B', o = .returned v ∧ Q v U'.heap B' ∧ Keep h U'.heap ws ∧ k_more B B' h.size ∧ Fr Z.heap.size L ∧ k_inv Z EL B' U'.vm U'.heap ∧ k_end nw U o U' L rm.cells rm.slots
def Con (nw : Bool) (l : Launch) (Z : State) (EL : List (String × Nat)) (y : MethodName) (bytes : ByteArray) (maxL : Nat) (ret : Option FieldType) (wl : List Jvm.Cond) (rm : Room) (as : Array Value) (h : Heap) (B : BP) (ws : List Addr) (Q : QT) : Prop :=
  MetFree l y (head1 (Cond.code y bytes maxL ret :: wl) rm) (fun a U => a = as ∧ Z.Warmed39 U.vm ∧ U.heap = h ∧ k_inv Z EL B U.vm h) (fun _ _ _ _ _ => True) (fun _ U o U' => ConQ nw Z EL rm h B ws Q U o U')
/-- the walk stands at T, heap h -/
def Wk (nw : Bool) (l : Launch) (Z : State) (EL : List (String × Nat)) (own : String) (bytes : ByteArray) (maxL : Nat) (ret : Option FieldType) (mnm : String) (R : Room) (h0 : Heap) (B0 : BP) (ws : List Addr) (Q : QT) (x : Cx) (T : State) (h : Heap) (B : BP) (k n : Nat) : Prop :=
  (x.p.tables.exec = Jvm.exec ∧ x.c.code = bytes ∧ x.c.maxLocals = maxL ∧ x.meth.sig.returnType = ret ∧ x.meth.locks = false ∧ x.meth.name = mnm ∧ x.F = ConQ nw Z EL R h0 B0 ws Q x.s) ∧
  ∃ vm0 k0 locs, Stand x.p l x.e R (x.s.setVm vm0) x.m x.args x.below x.meth x.c T locs k n ∧ T.heap = h ∧ x.s.Since vm0 k0 ∧ k0 ≤ h.size ∧ Z.Warmed39 vm0 ∧ vm0.findClass own = some x.m.cls ∧ k_inv Z EL B vm0 h ∧ Fr Z.heap.size locs ∧ Keep h0 h ws ∧ k_more B0 B h0.size ∧ (nw = true → x.s.WarmedH vm0)
theorem k_neN {x y : Nat} (q : x ≠ y) : x ≠ y := q
theorem k_ltE {Z : State} {h : Heap} {a : Addr} {C : String} (E : Exa Z h a C) : @LT.lt Nat _ a h.size := E.lt
section Inv
variable {Z : State} {EL : List (String × Nat)} {B : BP} {vm vm0 : Vm} {h h' : Heap}
theorem k_inv.lt (I : k_inv Z EL B vm h) : ¬ B h.size := fun q => Nat.lt_irrefl _ (I.2.2.1 _ q)
theorem k_inv.keep (I : k_inv Z EL B vm h) {ws : List Addr} (K : Keep h h' ws) (hw : ∀ x ∈ ws, ¬ B x ∧ Z.heap.size ≤ x) : k_inv Z EL B vm h' := by
  obtain ⟨i1, i2, i3, i4, i5⟩ := I
  have q := CHv.keepStep K (fun x hx b => (hw x hx).1 (i2 _ b)) i1
  refine ⟨q.1, fun y b => i2 y (q.2 y b), fun y b => Nat.lt_of_lt_of_le (i3 y b) K.1, ⟨Nat.le_trans i4.1 K.1, fun a c e => K.2.1 a c (i4.2 a c e) fun z => ?_⟩, i5⟩
  exact absurd (Array.getElem?_eq_some_iff.mp e).1 (Nat.not_lt.mpr (hw a z).2)
theorem k_inv.ext (I : k_inv Z EL B vm h) (E : Ext h h') : k_inv Z EL B vm h' := I.keep ((Keep.refl h []).ext E) (fun _ q => nomatch q)
theorem k_inv.wr (I : k_inv Z EL B vm h) {a : Addr} {sl : Nat} {v : Value} (W : Wr h h' a sl v) (hb : ¬ B a) (hz : Z.heap.size ≤ a) : k_inv Z EL B vm h' :=
  I.keep (Keep.of_wr W) (fun y q => by cases List.mem_singleton.mp q; exact ⟨hb, hz⟩)
theorem k_inv.vmT {p : Program} {l : Launch} {e : Env} {R : Room} {s : State} {m : MethodId} {args : Array Value} {below : List Frame} {meth : Method} {c : Code} {T : State} {locs : List Loc} {cells slots : Nat}
    (I : k_inv Z EL B vm0 h) (X : Stand p l e R (s.setVm vm0) m args below meth c T locs cells slots) (hZ : Z.Warmed39 vm0) : k_inv Z EL B T.vm h := by
  obtain ⟨i1, i2, i3, i4, a0, i5⟩ := I
  have q := CHv.at X hZ i5 i1
  refine ⟨q.1, fun y b => ?_, i3, i4, a0, i5⟩
  rcases q.2.2 y b with r | r
  · exact i2 y r
  · exact absurd (by obtain ⟨cell, hc⟩ := Bk.there b; exact (Array.getElem?_eq_some_iff.mp hc).1) (Nat.not_lt.mpr r)
end Inv
section Kit
variable {nw : Bool} {l : Launch} {Z : State} {EL : List (String × Nat)} {own : String} {bytes : ByteArray} {maxL : Nat} {ret : Option FieldType} {mnm : String} {R : Room} {h0 : Heap} {B0 : BP} {ws : List Addr} {Q : QT} {x : Cx} {T : State} {h : Heap} {B : BP} {k n : Nat} {a0 : Array Value} {pc pc' : Nat} {Ls : Array Slot} {st : List Value}
/-- a body is walked from its entry -/
theorem k_intro {y : MethodName} {wl : List Jvm.Cond} {as : Array Value} (hy : plainFor y = true) (hef' : Jvm.Sym.laidSlots as.toList ++ List.replicate (maxL - (Jvm.Sym.laidSlots as.toList).length) .unset = Ls.toList)
    (body : ∀ (x : Cx) (T : State), Wk nw l Z EL y.cls bytes maxL ret y.name R h0 B0 ws Q x T h0 B0 0 0 → Go x (T.setTop (mkF x.m 0 Ls []))) :
    Con nw l Z EL y bytes maxL ret wl R as h0 B0 ws Q := by
  have hef : ∀ m, entryFrame m as maxL = mkF m 0 Ls [] := fun m => by
    have : argsToLocals as maxL = Ls := Array.toList_inj.mp (by rw [Jvm.Sym.argsToLocals_toList]; exact hef')
    unfold entryFrame
    rw [this]
  refine MetFree.of_bodySF hy hisR ?_
  intro p e s m args below meth c s₁ Bd hml0 hP hK
  obtain ⟨rfl, hZ, hh, hI⟩ := hP
  have hown : s.vm.findClass y.cls = some m.cls := findClass_of_methodNamed Bd.named
  have hnm := (name_of_methodNamed Bd.named Bd.method).1
  have X0 : Stand p l e R s m args below meth c s₁ [] 0 0 := Stand.of_body Bd
  have e0 : s₁.heap = h0 := by rw [← hh, Bd.state]; rfl
  have W : Wk nw l Z EL y.cls bytes maxL ret y.name R h0 B0 ws Q (p, e, s, m, args, below, meth, c, fun o t => ConQ nw Z EL R h0 B0 ws Q s o t) s₁ h0 B0 0 0 :=
    ⟨⟨Bd.exec, Bd.bytes, hml0, Bd.returns, Bd.notSynchronized, hnm, rfl⟩, s.vm, h0.size, [], X0, e0, (State.WarmedH.refl s).since _, Nat.le_refl _, hZ, hown, hI, Fr.nil _, Keep.refl _ _, k_more.refl _ _, fun _ => State.WarmedH.refl s⟩
  obtain ⟨t, o, g1, g2, g3, g4⟩ := body _ _ W
  exact ⟨t, o, castTop (hef m) g1, g2, g3, g4⟩
theorem Wk.at (X : Wk nw l Z EL own bytes maxL ret mnm R h0 B0 ws Q x T h B k n) : At T x.m x.c x.below := by obtain ⟨-, _, _, _, X, -⟩ := X; exact X.here
theorem Wk.ex (X : Wk nw l Z EL own bytes maxL ret mnm R h0 B0 ws Q x T h B k n) : x.p.tables.exec = Jvm.exec := X.1.1
theorem Wk.dec (X : Wk nw l Z EL own bytes maxL ret mnm R h0 B0 ws Q x T h B k n) {r : Except ClassFile.DecodeError (Instr × Nat)} (hd : decode bytes pc = r) : decode x.c.code pc = r := by rw [X.1.2.1]; exact hd
theorem Wk.inv (X : Wk nw l Z EL own bytes maxL ret mnm R h0 B0 ws Q x T h B k n) : ∃ vm, k_inv Z EL B vm h := by obtain ⟨-, vm, _, _, -, -, -, -, -, -, hI, -⟩ := X; exact ⟨vm, hI⟩
theorem Wk.old (X : Wk nw l Z EL own bytes maxL ret mnm R h0 B0 ws Q x T h B k n) : Ext Z.heap h := by obtain ⟨vm, I⟩ := X.inv; exact I.2.2.2.1
theorem Wk.fresh (X : Wk nw l Z EL own bytes maxL ret mnm R h0 B0 ws Q x T h B k n) : ¬ B h.size := by obtain ⟨vm, I⟩ := X.inv; exact I.lt
theorem Wk.free (X : Wk nw l Z EL own bytes maxL ret mnm R h0 B0 ws Q x T h B k n) {y : Addr} (q : h.size ≤ y) : ¬ B y := fun b => by obtain ⟨vm, I⟩ := X.inv; exact absurd (I.2.2.1 y b) (Nat.not_lt.mpr q)
theorem Wk.kept (X : Wk nw l Z EL own bytes maxL ret mnm R h0 B0 ws Q x T h B k n) : Keep h0 h ws := by obtain ⟨-, _, _, _, -, -, -, -, -, -, -, -, K, -⟩ := X; exact K
theorem Wk.more (X : Wk nw l Z EL own bytes maxL ret mnm R h0 B0 ws Q x T h B k n) {k' n' : Nat} (h1 : k ≤ k') (h2 : n ≤ n') : Wk nw l Z EL own bytes maxL ret mnm R h0 B0 ws Q x T h B k' n' := by
  obtain ⟨a, vm0, k0, locs, X, r⟩ := X
  exact ⟨a, vm0, k0, locs, X.more h1 h2, r⟩
theorem Wk.sz (X : Wk nw l Z EL own bytes maxL ret mnm R h0 B0 ws Q x T h B k n) : h0.size ≤ h.size := X.kept.1
theorem Wk.szZ (X : Wk nw l Z EL own bytes maxL ret mnm R h0 B0 ws Q x T h B k n) : Z.heap.size ≤ h.size := X.old.1
/-! the ends -/
theorem k_leave (X : Wk nw l Z EL own bytes maxL ret mnm R h0 B0 ws Q x T h B k n) (hk : k ≤ R.cells) (hn : n ≤ R.slots) {v : Option Value} (hv : ret = none → v = none) (hQ : Q v h B)
    {A : State} (st : ∀ fs, (∀ (f : JFrame) (acts : List Action), f.method = x.m → f.locked = none → f.entered = [] → (doReturn x.e (T.setTop f) acts v).1 = T.setFrames fs) → Steps x.p.tables x.e x.below A (T.setFrames fs)) : Go x A := by
  obtain ⟨⟨-, -, -, hr, hlk, -, hF⟩, vm0, k0, locs, X, rfl, hS, hk0, hZ, hown, hI, hFr, hK, hM, hN⟩ := X
  obtain ⟨fs, g1, g2, g3, g4⟩ := X.leaveW hS hk0 (v := v) (fun q => hv (hr ▸ q)) hlk
  refine ⟨T.setFrames fs, .returned v, st fs g1, g2, g3, ?_⟩
  rw [hF]
  refine ⟨v, locs, B, rfl, hQ, hK, hM, hFr, (have q := hI.vmT X hZ; q), ⟨?_, fun q => State.WarmedH.trans (hN q) X.warmed⟩⟩
  obtain ⟨q1, q2, q3, q4⟩ := g4
  exact ⟨q1, q2, q3, q4.mono hk hn⟩
theorem g_return (X : Wk nw l Z EL own bytes maxL none mnm R h0 B0 ws Q x T h B k n) (hd : Dc bytes pc .return_ 1 pc') (hk : k ≤ R.cells) (hn : n ≤ R.slots) (hQ : Q none h B) : Go x (T.setTop (mkF x.m pc Ls [])) := by
  refine k_leave X hk hn (fun _ => rfl) hQ fun fs hl => ?_
  obtain ⟨⟨hx, hb, -, hr, -, -, -⟩, vm0, k0, locs, X, -⟩ := X
  exact X.returnOut hx hr (hb ▸ hd.1) hl
theorem g_areturn {t : FieldType} {w : Value} (X : Wk nw l Z EL own bytes maxL (some t) mnm R h0 B0 ws Q x T h B k n) (hd : Dc bytes pc .areturn 1 pc') (ht : t.isReference = true) (hnw : narrow t w = w) (hw : w.isRef = true) (hk : k ≤ R.cells) (hn : n ≤ R.slots) (hQ : Q (some w) h B) : Go x (T.setTop (mkF x.m pc Ls (w :: st))) := by
  refine k_leave X hk hn (fun q => by cases q) hQ fun fs hl => ?_
  obtain ⟨⟨hx, hb, -, hr, -, -, -⟩, vm0, k0, locs, X, -⟩ := X
  exact retOut X hx hr hnw (Or.inr (Or.inr (Or.inr (Or.inr ⟨rfl, ht, hw⟩)))) (hb ▸ hd.1) hl
theorem g_ireturn {t : FieldType} {w w' : Int32} (X : Wk nw l Z EL own bytes maxL (some t) mnm R h0 B0 ws Q x T h B k n) (hd : Dc bytes pc .ireturn 1 pc') (ht : t = .boolean ∨ t = .byte ∨ t = .char ∨ t = .short) (hw : RoadKit.nar t w = w') (hk : k ≤ R.cells) (hn : n ≤ R.slots) (hQ : Q (some (.int w')) h B) : Go x (T.setTop (mkF x.m pc Ls (.int w :: st))) := by
  subst hw
  refine k_leave X hk hn (fun q => by cases q) hQ fun fs hl => ?_
  obtain ⟨⟨hx, hb, -, hr, -, -, -⟩, vm0, k0, locs, X, -⟩ := X
  exact retN X hx hr ht (hb ▸ hd.1) hl
theorem g_ireturnI {w : Int32} (X : Wk nw l Z EL own bytes maxL (some .int) mnm R h0 B0 ws Q x T h B k n) (hd : Dc bytes pc .ireturn 1 pc') (hk : k ≤ R.cells) (hn : n ≤ R.slots) (hQ : Q (some (.int w)) h B) : Go x (T.setTop (mkF x.m pc Ls (.int w :: st))) := by
  refine k_leave X hk hn (fun q => by cases q) hQ fun fs hl => ?_
  obtain ⟨⟨hx, hb, -, hr, -, -, -⟩, vm0, k0, locs, X, -⟩ := X
  exact retOut X hx hr rfl (Or.inl ⟨rfl, Or.inl rfl, _, rfl⟩) (hb ▸ hd.1) hl
theorem g_lreturn {w : Int64} (X : Wk nw l Z EL own bytes maxL (some .long) mnm R h0 B0 ws Q x T h B k n) (hd : Dc bytes pc .lreturn 1 pc') (hk : k ≤ R.cells) (hn : n ≤ R.slots) (hQ : Q (some (.long w)) h B) : Go x (T.setTop (mkF x.m pc Ls (.long w :: st))) := by
  refine k_leave X hk hn (fun q => by cases q) hQ fun fs hl => ?_
  obtain ⟨⟨hx, hb, -, hr, -, -, -⟩, vm0, k0, locs, X, -⟩ := X
  exact retOut X hx hr rfl (Or.inr (Or.inl ⟨rfl, rfl, _, rfl⟩)) (hb ▸ hd.1) hl
theorem g_iloadN (X : Wk nw l Z EL own bytes maxL ret mnm R h0 B0 ws Q x T h B k n) {j : Fin 4} {v : Int32} (hd : Dc bytes pc (.iload_n j) 1 pc') (hl : Ls[j.val]? = some (.val (.int v))) (G : Go x (T.setTop (mkF x.m pc' Ls (.int v :: st)))) : Go x (T.setTop (mkF x.m pc Ls st)) := by
  obtain ⟨hd, rfl⟩ := hd
  exact G.from fun t q => XS.iloadN X.at X.ex rfl (X.dec hd) hl q
theorem g_iload (X : Wk nw l Z EL own bytes maxL ret mnm R h0 B0 ws Q x T h B k n) {j : Nat} {v : Int32} (hd : Dc bytes pc (.iload j) 2 pc') (hl : Ls[j]? = some (.val (.int v))) (G : Go x (T.setTop (mkF x.m pc' Ls (.int v :: st)))) : Go x (T.setTop (mkF x.m pc Ls st)) := by
  obtain ⟨hd, rfl⟩ := hd
  exact G.from fun t q => XS.iload X.at X.ex rfl (X.dec hd) hl q
theorem g_lloadN (X : Wk nw l Z EL own bytes maxL ret mnm R h0 B0 ws Q x T h B k n) {j : Fin 4} {v : Int64} (hd : Dc bytes pc (.lload_n j) 1 pc') (hl : Ls[j.val]? = some (.val (.long v))) (G : Go x (T.setTop (mkF x.m pc' Ls (.long v :: st)))) : Go x (T.setTop (mkF x.m pc Ls st)) := by
  obtain ⟨hd, rfl⟩ := hd
  exact G.from fun t q => XT.lloadN X.at X.ex rfl (X.dec hd) hl q
theorem g_lload (X : Wk nw l Z EL own bytes maxL ret mnm R h0 B0 ws Q x T h B k n) {j : Nat} {v : Int64} (hd : Dc bytes pc (.lload j) 2 pc') (hl : Ls[j]? = some (.val (.long v))) (G : Go x (T.setTop (mkF x.m pc' Ls (.long v :: st)))) : Go x (T.setTop (mkF x.m pc Ls st)) := by
  obtain ⟨hd, rfl⟩ := hd
  exact G.from fun t q => XT.lload X.at X.ex rfl (X.dec hd) hl q
theorem g_aloadN (X : Wk nw l Z EL own bytes maxL ret mnm R h0 B0 ws Q x T h B k n) {j : Fin 4} {v : Value} (hd : Dc bytes pc (.aload_n j) 1 pc') (hl : Ls[j.val]? = some (.val v)) (hv : v.isRef = true) (G : Go x (T.setTop (mkF x.m pc' Ls (v :: st)))) : Go x (T.setTop (mkF x.m pc Ls st)) := by
  obtain ⟨hd, rfl⟩ := hd
  exact G.from fun t q => XS.aloadN X.at X.ex rfl (X.dec hd) hl hv q
theorem g_aload (X : Wk nw l Z EL own bytes maxL ret mnm R h0 B0 ws Q x T h B k n) {j : Nat} {v : Value} (hd : Dc bytes pc (.aload j) 2 pc') (hl : Ls[j]? = some (.val v)) (hv : v.isRef = true) (G : Go x (T.setTop (mkF x.m pc' Ls (v :: st)))) : Go x (T.setTop (mkF x.m pc Ls st)) := by
  obtain ⟨hd, rfl⟩ := hd
  exact G.from fun t q => XS.aload X.at X.ex rfl (X.dec hd) hl hv q
theorem g_istoreN (X : Wk nw l Z EL own bytes maxL ret mnm R h0 B0 ws Q x T h B k n) {j : Fin 4} {v : Int32} (Ls' : Array Slot) (hd : Dc bytes pc (.istore_n j) 1 pc') (hl : storeLocals Ls j.val (.int v) = some Ls') (G : Go x (T.setTop (mkF x.m pc' Ls' st))) : Go x (T.setTop (mkF x.m pc Ls (.int v :: st))) := by
  obtain ⟨hd, rfl⟩ := hd
  exact G.from fun t q => XS.istoreN X.at X.ex rfl (X.dec hd) rfl hl q
theorem g_istore (X : Wk nw l Z EL own bytes maxL ret mnm R h0 B0 ws Q x T h B k n) {j : Nat} {v : Int32} (Ls' : Array Slot) (hd : Dc bytes pc (.istore j) 2 pc') (hl : storeLocals Ls j (.int v) = some Ls') (G : Go x (T.setTop (mkF x.m pc' Ls' st))) : Go x (T.setTop (mkF x.m pc Ls (.int v :: st))) := by
  obtain ⟨hd, rfl⟩ := hd
  exact G.from fun t q => XS.istore X.at X.ex rfl (X.dec hd) rfl hl q
theorem g_lstoreN (X : Wk nw l Z EL own bytes maxL ret mnm R h0 B0 ws Q x T h B k n) {j : Fin 4} {v : Int64} (Ls' : Array Slot) (hd : Dc bytes pc (.lstore_n j) 1 pc') (hl : storeLocals Ls j.val (.long v) = some Ls') (G : Go x (T.setTop (mkF x.m pc' Ls' st))) : Go x (T.setTop (mkF x.m pc Ls (.long v :: st))) := by
  obtain ⟨hd, rfl⟩ := hd
  exact G.from fun t q => XT.lstoreN X.at X.ex rfl (X.dec hd) rfl hl q
theorem g_lstore (X : Wk nw l Z EL own bytes maxL ret mnm R h0 B0 ws Q x T h B k n) {j : Nat} {v : Int64} (Ls' : Array Slot) (hd : Dc bytes pc (.lstore j) 2 pc') (hl : storeLocals Ls j (.long v) = some Ls') (G : Go x (T.setTop (mkF x.m pc' Ls' st))) : Go x (T.setTop (mkF x.m pc Ls (.long v :: st))) := by
  obtain ⟨hd, rfl⟩ := hd
  exact G.from fun t q => XT.lstore X.at X.ex rfl (X.dec hd) rfl hl q
theorem g_astoreN (X : Wk nw l Z EL own bytes maxL ret mnm R h0 B0 ws Q x T h B k n) {j : Fin 4} {v : Value} (Ls' : Array Slot) (hd : Dc bytes pc (.astore_n j) 1 pc') (hv : v.isRef = true) (hl : storeLocals Ls j.val v = some Ls') (G : Go x (T.setTop (mkF x.m pc' Ls' st))) : Go x (T.setTop (mkF x.m pc Ls (v :: st))) := by
  obtain ⟨hd, rfl⟩ := hd
  exact G.from fun t q => XS.astoreN X.at X.ex rfl (X.dec hd) rfl hv hl q
theorem g_astore (X : Wk nw l Z EL own bytes maxL ret mnm R h0 B0 ws Q x T h B k n) {j : Nat} {v : Value} (Ls' : Array Slot) (hd : Dc bytes pc (.astore j) 2 pc') (hv : v.isRef = true) (hl : storeLocals Ls j v = some Ls') (G : Go x (T.setTop (mkF x.m pc' Ls' st))) : Go x (T.setTop (mkF x.m pc Ls (v :: st))) := by
  obtain ⟨hd, rfl⟩ := hd
  exact G.from fun t q => XS.astore X.at X.ex rfl (X.dec hd) rfl hv hl q
theorem g_iconst (X : Wk nw l Z EL own bytes maxL ret mnm R h0 B0 ws Q x T h B k n) {i : Int} (v : Int32) (hd : Dc bytes pc (.iconst i) 1 pc') (hv : Int32.ofInt i = v) (G : Go x (T.setTop (mkF x.m pc' Ls (.int v :: st)))) : Go x (T.setTop (mkF x.m pc Ls st)) := by
  obtain ⟨hd, rfl⟩ := hd
  exact G.from fun t q => XT.iconstV X.at X.ex rfl v (X.dec hd) hv q
theorem g_bipush (X : Wk nw l Z EL own bytes maxL ret mnm R h0 B0 ws Q x T h B k n) {i : Int} (v : Int32) (hd : Dc bytes pc (.bipush i) 2 pc') (hv : (Int8.ofInt i).toInt32 = v) (G : Go x (T.setTop (mkF x.m pc' Ls (.int v :: st)))) : Go x (T.setTop (mkF x.m pc Ls st)) := by
  obtain ⟨hd, rfl⟩ := hd
  exact G.from fun t q => XT.bipushV X.at X.ex rfl v (X.dec hd) hv q
theorem g_sipush (X : Wk nw l Z EL own bytes maxL ret mnm R h0 B0 ws Q x T h B k n) {i : Int} (v : Int32) (hd : Dc bytes pc (.sipush i) 3 pc') (hv : (Int16.ofInt i).toInt32 = v) (G : Go x (T.setTop (mkF x.m pc' Ls (.int v :: st)))) : Go x (T.setTop (mkF x.m pc Ls st)) := by
  obtain ⟨hd, rfl⟩ := hd
  exact G.from fun t q => XT.sipushV X.at X.ex rfl v (X.dec hd) hv q
theorem g_lconst (X : Wk nw l Z EL own bytes maxL ret mnm R h0 B0 ws Q x T h B k n) {i : Fin 2} (v : Int64) (hd : Dc bytes pc (.lconst i) 1 pc') (hv : Int64.ofNat i = v) (G : Go x (T.setTop (mkF x.m pc' Ls (.long v :: st)))) : Go x (T.setTop (mkF x.m pc Ls st)) := by
  obtain ⟨hd, rfl⟩ := hd
  exact G.from fun t q => XT.lconstV X.at X.ex rfl v (X.dec hd) hv q
theorem g_aconst_null (X : Wk nw l Z EL own bytes maxL ret mnm R h0 B0 ws Q x T h B k n)  (hd : Dc bytes pc (.aconst_null) 1 pc')  (G : Go x (T.setTop (mkF x.m pc' Ls (.null :: st)))) : Go x (T.setTop (mkF x.m pc Ls st)) := by
  obtain ⟨hd, rfl⟩ := hd
  exact G.from fun t q => XS.aconstNull X.at X.ex rfl (X.dec hd) q
theorem g_iinc (X : Wk nw l Z EL own bytes maxL ret mnm R h0 B0 ws Q x T h B k n) {j : Nat} {cst : Int} {v r : Int32} (Ls' : Array Slot) (hd : Dc bytes pc (.iinc j cst) 3 pc') (hl : Ls[j]? = some (.val (.int v))) (hr : v + Int32.ofInt cst = r) (hl' : storeLocals Ls j (.int r) = some Ls') (G : Go x (T.setTop (mkF x.m pc' Ls' st))) : Go x (T.setTop (mkF x.m pc Ls st)) := by
  obtain ⟨hd, rfl⟩ := hd
  exact G.from fun t q => XS.iinc X.at X.ex rfl (X.dec hd) hl (hr ▸ hl') q
theorem g_iadd (X : Wk nw l Z EL own bytes maxL ret mnm R h0 B0 ws Q x T h B k n) {u v : Int32} (r : Int32) (hd : Dc bytes pc (.iadd) 1 pc') (hr : u + v = r) (G : Go x (T.setTop (mkF x.m pc' Ls (.int r :: st)))) : Go x (T.setTop (mkF x.m pc Ls (.int v :: .int u :: st))) := by
  obtain ⟨hd, rfl⟩ := hd
  exact G.from fun t q => XS.iadd X.at X.ex rfl (X.dec hd) rfl (hr ▸ q)
theorem g_isub (X : Wk nw l Z EL own bytes maxL ret mnm R h0 B0 ws Q x T h B k n) {u v : Int32} (r : Int32) (hd : Dc bytes pc (.isub) 1 pc') (hr : u - v = r) (G : Go x (T.setTop (mkF x.m pc' Ls (.int r :: st)))) : Go x (T.setTop (mkF x.m pc Ls (.int v :: .int u :: st))) := by
  obtain ⟨hd, rfl⟩ := hd
  exact G.from fun t q => XS.isub X.at X.ex rfl (X.dec hd) rfl (hr ▸ q)
theorem g_imul (X : Wk nw l Z EL own bytes maxL ret mnm R h0 B0 ws Q x T h B k n) {u v : Int32} (r : Int32) (hd : Dc bytes pc (.imul) 1 pc') (hr : u * v = r) (G : Go x (T.setTop (mkF x.m pc' Ls (.int r :: st)))) : Go x (T.setTop (mkF x.m pc Ls (.int v :: .int u :: st))) := by
  obtain ⟨hd, rfl⟩ := hd
  exact G.from fun t q => XS.imul X.at X.ex rfl (X.dec hd) rfl (hr ▸ q)
theorem g_iand (X : Wk nw l Z EL own bytes maxL ret mnm R h0 B0 ws Q x T h B k n) {u v : Int32} (r : Int32) (hd : Dc bytes pc (.iand) 1 pc') (hr : u &&& v = r) (G : Go x (T.setTop (mkF x.m pc' Ls (.int r :: st)))) : Go x (T.setTop (mkF x.m pc Ls (.int v :: .int u :: st))) := by
  obtain ⟨hd, rfl⟩ := hd
  exact G.from fun t q => XS.iand X.at X.ex rfl (X.dec hd) rfl (hr ▸ q)
theorem g_ior (X : Wk nw l Z EL own bytes maxL ret mnm R h0 B0 ws Q x T h B k n) {u v : Int32} (r : Int32) (hd : Dc bytes pc (.ior) 1 pc') (hr : u ||| v = r) (G : Go x (T.setTop (mkF x.m pc' Ls (.int r :: st)))) : Go x (T.setTop (mkF x.m pc Ls (.int v :: .int u :: st))) := by
  obtain ⟨hd, rfl⟩ := hd
  exact G.from fun t q => XT.ior X.at X.ex rfl (X.dec hd) rfl (hr ▸ q)
theorem g_ixor (X : Wk nw l Z EL own bytes maxL ret mnm R h0 B0 ws Q x T h B k n) {u v : Int32} (r : Int32) (hd : Dc bytes pc (.ixor) 1 pc') (hr : u ^^^ v = r) (G : Go x (T.setTop (mkF x.m pc' Ls (.int r :: st)))) : Go x (T.setTop (mkF x.m pc Ls (.int v :: .int u :: st))) := by
  obtain ⟨hd, rfl⟩ := hd
  exact G.from fun t q => XT.ixor X.at X.ex rfl (X.dec hd) rfl (hr ▸ q)
theorem g_ishl (X : Wk nw l Z EL own bytes maxL ret mnm R h0 B0 ws Q x T h B k n) {u v : Int32} (r : Int32) (hd : Dc bytes pc (.ishl) 1 pc') (hr : u <<< (v &&& 31) = r) (G : Go x (T.setTop (mkF x.m pc' Ls (.int r :: st)))) : Go x (T.setTop (mkF x.m pc Ls (.int v :: .int u :: st))) := by
  obtain ⟨hd, rfl⟩ := hd
  exact G.from fun t q => XT.ishl X.at X.ex rfl (X.dec hd) rfl (hr ▸ q)
theorem g_ishr (X : Wk nw l Z EL own bytes maxL ret mnm R h0 B0 ws Q x T h B k n) {u v : Int32} (r : Int32) (hd : Dc bytes pc (.ishr) 1 pc') (hr : u >>> (v &&& 31) = r) (G : Go x (T.setTop (mkF x.m pc' Ls (.int r :: st)))) : Go x (T.setTop (mkF x.m pc Ls (.int v :: .int u :: st))) := by
  obtain ⟨hd, rfl⟩ := hd
  exact G.from fun t q => XT.ishr X.at X.ex rfl (X.dec hd) rfl (hr ▸ q)
theorem g_iushr (X : Wk nw l Z EL own bytes maxL ret mnm R h0 B0 ws Q x T h B k n) {u v : Int32} (r : Int32) (hd : Dc bytes pc (.iushr) 1 pc') (hr : XT.ushr u v = r) (G : Go x (T.setTop (mkF x.m pc' Ls (.int r :: st)))) : Go x (T.setTop (mkF x.m pc Ls (.int v :: .int u :: st))) := by
  obtain ⟨hd, rfl⟩ := hd
  exact G.from fun t q => XT.iushr X.at X.ex rfl (X.dec hd) rfl (hr ▸ q)
theorem g_idiv (X : Wk nw l Z EL own bytes maxL ret mnm R h0 B0 ws Q x T h B k n) {u v : Int32} (r : Int32) (hd : Dc bytes pc (.idiv) 1 pc') (h0 : v ≠ 0) (hr : u / v = r) (G : Go x (T.setTop (mkF x.m pc' Ls (.int r :: st)))) : Go x (T.setTop (mkF x.m pc Ls (.int v :: .int u :: st))) := by
  obtain ⟨hd, rfl⟩ := hd
  exact G.from fun t q => XS.idiv X.at X.ex rfl (X.dec hd) rfl h0 (hr ▸ q)
theorem g_irem (X : Wk nw l Z EL own bytes maxL ret mnm R h0 B0 ws Q x T h B k n) {u v : Int32} (r : Int32) (hd : Dc bytes pc (.irem) 1 pc') (h0 : v ≠ 0) (hr : u % v = r) (G : Go x (T.setTop (mkF x.m pc' Ls (.int r :: st)))) : Go x (T.setTop (mkF x.m pc Ls (.int v :: .int u :: st))) := by
  obtain ⟨hd, rfl⟩ := hd
  exact G.from fun t q => XS.irem X.at X.ex rfl (X.dec hd) rfl h0 (by rw [irem_eq_mod u v, hr]; exact q)
theorem g_ladd (X : Wk nw l Z EL own bytes maxL ret mnm R h0 B0 ws Q x T h B k n) {u v : Int64} (r : Int64) (hd : Dc bytes pc (.ladd) 1 pc') (hr : u + v = r) (G : Go x (T.setTop (mkF x.m pc' Ls (.long r :: st)))) : Go x (T.setTop (mkF x.m pc Ls (.long v :: .long u :: st))) := by
  obtain ⟨hd, rfl⟩ := hd
  exact G.from fun t q => XT.ladd X.at X.ex rfl (X.dec hd) rfl (hr ▸ q)
theorem g_lsub (X : Wk nw l Z EL own bytes maxL ret mnm R h0 B0 ws Q x T h B k n) {u v : Int64} (r : Int64) (hd : Dc bytes pc (.lsub) 1 pc') (hr : u - v = r) (G : Go x (T.setTop (mkF x.m pc' Ls (.long r :: st)))) : Go x (T.setTop (mkF x.m pc Ls (.long v :: .long u :: st))) := by
  obtain ⟨hd, rfl⟩ := hd
  exact G.from fun t q => XT.lsub X.at X.ex rfl (X.dec hd) rfl (hr ▸ q)
theorem g_lmul (X : Wk nw l Z EL own bytes maxL ret mnm R h0 B0 ws Q x T h B k n) {u v : Int64} (r : Int64) (hd : Dc bytes pc (.lmul) 1 pc') (hr : u * v = r) (G : Go x (T.setTop (mkF x.m pc' Ls (.long r :: st)))) : Go x (T.setTop (mkF x.m pc Ls (.long v :: .long u :: st))) := by
  obtain ⟨hd, rfl⟩ := hd
  exact G.from fun t q => XT.lmul X.at X.ex rfl (X.dec hd) rfl (hr ▸ q)
theorem g_land (X : Wk nw l Z EL own bytes maxL ret mnm R h0 B0 ws Q x T h B k n) {u v : Int64} (r : Int64) (hd : Dc bytes pc (.land) 1 pc') (hr : u &&& v = r) (G : Go x (T.setTop (mkF x.m pc' Ls (.long r :: st)))) : Go x (T.setTop (mkF x.m pc Ls (.long v :: .long u :: st))) := by
  obtain ⟨hd, rfl⟩ := hd
  exact G.from fun t q => XT.land X.at X.ex rfl (X.dec hd) rfl (hr ▸ q)
theorem g_lor (X : Wk nw l Z EL own bytes maxL ret mnm R h0 B0 ws Q x T h B k n) {u v : Int64} (r : Int64) (hd : Dc bytes pc (.lor) 1 pc') (hr : u ||| v = r) (G : Go x (T.setTop (mkF x.m pc' Ls (.long r :: st)))) : Go x (T.setTop (mkF x.m pc Ls (.long v :: .long u :: st))) := by
  obtain ⟨hd, rfl⟩ := hd
  exact G.from fun t q => XT.lor X.at X.ex rfl (X.dec hd) rfl (hr ▸ q)
theorem g_lxor (X : Wk nw l Z EL own bytes maxL ret mnm R h0 B0 ws Q x T h B k n) {u v : Int64} (r : Int64) (hd : Dc bytes pc (.lxor) 1 pc') (hr : u ^^^ v = r) (G : Go x (T.setTop (mkF x.m pc' Ls (.long r :: st)))) : Go x (T.setTop (mkF x.m pc Ls (.long v :: .long u :: st))) := by
  obtain ⟨hd, rfl⟩ := hd
  exact G.from fun t q => XT.lxor X.at X.ex rfl (X.dec hd) rfl (hr ▸ q)
theorem g_lshl (X : Wk nw l Z EL own bytes maxL ret mnm R h0 B0 ws Q x T h B k n) {u : Int64} {v : Int32} (r : Int64) (hd : Dc bytes pc (.lshl) 1 pc') (hr : u <<< (v.toInt64 &&& 63) = r) (G : Go x (T.setTop (mkF x.m pc' Ls (.long r :: st)))) : Go x (T.setTop (mkF x.m pc Ls (.int v :: .long u :: st))) := by
  obtain ⟨hd, rfl⟩ := hd
  exact G.from fun t q => XT.lshl X.at X.ex rfl (X.dec hd) rfl (hr ▸ q)
theorem g_lshr (X : Wk nw l Z EL own bytes maxL ret mnm R h0 B0 ws Q x T h B k n) {u : Int64} {v : Int32} (r : Int64) (hd : Dc bytes pc (.lshr) 1 pc') (hr : u >>> (v.toInt64 &&& 63) = r) (G : Go x (T.setTop (mkF x.m pc' Ls (.long r :: st)))) : Go x (T.setTop (mkF x.m pc Ls (.int v :: .long u :: st))) := by
  obtain ⟨hd, rfl⟩ := hd
  exact G.from fun t q => XT.lshr X.at X.ex rfl (X.dec hd) rfl (hr ▸ q)
theorem g_lushr (X : Wk nw l Z EL own bytes maxL ret mnm R h0 B0 ws Q x T h B k n) {u : Int64} {v : Int32} (r : Int64) (hd : Dc bytes pc (.lushr) 1 pc') (hr : XT.ushrL u v = r) (G : Go x (T.setTop (mkF x.m pc' Ls (.long r :: st)))) : Go x (T.setTop (mkF x.m pc Ls (.int v :: .long u :: st))) := by
  obtain ⟨hd, rfl⟩ := hd
  exact G.from fun t q => XT.lushr X.at X.ex rfl (X.dec hd) rfl (hr ▸ q)
theorem g_ineg (X : Wk nw l Z EL own bytes maxL ret mnm R h0 B0 ws Q x T h B k n) {u : Int32} (r : Int32) (hd : Dc bytes pc (.ineg) 1 pc') (hr : -u = r) (G : Go x (T.setTop (mkF x.m pc' Ls (.int r :: st)))) : Go x (T.setTop (mkF x.m pc Ls (.int u :: st))) := by
  obtain ⟨hd, rfl⟩ := hd
  exact G.from fun t q => XS.ineg X.at X.ex rfl (X.dec hd) rfl (hr ▸ q)
theorem g_i2l (X : Wk nw l Z EL own bytes maxL ret mnm R h0 B0 ws Q x T h B k n) {u : Int32} (r : Int64) (hd : Dc bytes pc (.i2l) 1 pc') (hr : u.toInt64 = r) (G : Go x (T.setTop (mkF x.m pc' Ls (.long r :: st)))) : Go x (T.setTop (mkF x.m pc Ls (.int u :: st))) := by
  obtain ⟨hd, rfl⟩ := hd
  exact G.from fun t q => XT.i2l X.at X.ex rfl (X.dec hd) rfl (hr ▸ q)
theorem g_l2i (X : Wk nw l Z EL own bytes maxL ret mnm R h0 B0 ws Q x T h B k n) {u : Int64} (r : Int32) (hd : Dc bytes pc (.l2i) 1 pc') (hr : u.toInt32 = r) (G : Go x (T.setTop (mkF x.m pc' Ls (.int r :: st)))) : Go x (T.setTop (mkF x.m pc Ls (.long u :: st))) := by
  obtain ⟨hd, rfl⟩ := hd
  exact G.from fun t q => XT.l2i X.at X.ex rfl (X.dec hd) rfl (hr ▸ q)
theorem g_i2b (X : Wk nw l Z EL own bytes maxL ret mnm R h0 B0 ws Q x T h B k n) {u : Int32} (r : Int32) (hd : Dc bytes pc (.i2b) 1 pc') (hr : u.toInt8.toInt32 = r) (G : Go x (T.setTop (mkF x.m pc' Ls (.int r :: st)))) : Go x (T.setTop (mkF x.m pc Ls (.int u :: st))) := by
  obtain ⟨hd, rfl⟩ := hd
  exact G.from fun t q => XT.i2b X.at X.ex rfl (X.dec hd) rfl (hr ▸ q)
theorem g_i2c (X : Wk nw l Z EL own bytes maxL ret mnm R h0 B0 ws Q x T h B k n) {u : Int32} (r : Int32) (hd : Dc bytes pc (.i2c) 1 pc') (hr : u.toUInt32.toUInt16.toUInt32.toInt32 = r) (G : Go x (T.setTop (mkF x.m pc' Ls (.int r :: st)))) : Go x (T.setTop (mkF x.m pc Ls (.int u :: st))) := by
  obtain ⟨hd, rfl⟩ := hd
  exact G.from fun t q => XT.i2c X.at X.ex rfl (X.dec hd) rfl (hr ▸ q)
theorem g_i2s (X : Wk nw l Z EL own bytes maxL ret mnm R h0 B0 ws Q x T h B k n) {u : Int32} (r : Int32) (hd : Dc bytes pc (.i2s) 1 pc') (hr : u.toInt16.toInt32 = r) (G : Go x (T.setTop (mkF x.m pc' Ls (.int r :: st)))) : Go x (T.setTop (mkF x.m pc Ls (.int u :: st))) := by
  obtain ⟨hd, rfl⟩ := hd
  exact G.from fun t q => XT.i2s X.at X.ex rfl (X.dec hd) rfl (hr ▸ q)
theorem g_lcmp (X : Wk nw l Z EL own bytes maxL ret mnm R h0 B0 ws Q x T h B k n) {u v : Int64} (r : Int32) (hd : Dc bytes pc (.lcmp) 1 pc') (hr : XT.cmpL u v = r) (G : Go x (T.setTop (mkF x.m pc' Ls (.int r :: st)))) : Go x (T.setTop (mkF x.m pc Ls (.long v :: .long u :: st))) := by
  obtain ⟨hd, rfl⟩ := hd
  exact G.from fun t q => XT.lcmp X.at X.ex rfl (X.dec hd) rfl (hr ▸ q)
theorem g_dup (X : Wk nw l Z EL own bytes maxL ret mnm R h0 B0 ws Q x T h B k n) {v : Value} (hd : Dc bytes pc (.dup) 1 pc') (hc : v.category = 1) (G : Go x (T.setTop (mkF x.m pc' Ls (v :: v :: st)))) : Go x (T.setTop (mkF x.m pc Ls (v :: st))) := by
  obtain ⟨hd, rfl⟩ := hd
  exact G.from fun t q => XS.dup X.at X.ex rfl (X.dec hd) rfl hc q
theorem g_pop (X : Wk nw l Z EL own bytes maxL ret mnm R h0 B0 ws Q x T h B k n) {v : Value} (hd : Dc bytes pc (.pop) 1 pc') (hc : v.category = 1) (G : Go x (T.setTop (mkF x.m pc' Ls st))) : Go x (T.setTop (mkF x.m pc Ls (v :: st))) := by
  obtain ⟨hd, rfl⟩ := hd
  exact G.from fun t q => XT.pop X.at X.ex rfl (X.dec hd) rfl hc q
theorem g_dup_x1 (X : Wk nw l Z EL own bytes maxL ret mnm R h0 B0 ws Q x T h B k n) {u v : Value} (hd : Dc bytes pc (.dup_x1) 1 pc') (hc : u.category = 1) (hc' : v.category = 1) (G : Go x (T.setTop (mkF x.m pc' Ls (u :: v :: u :: st)))) : Go x (T.setTop (mkF x.m pc Ls (u :: v :: st))) := by
  obtain ⟨hd, rfl⟩ := hd
  exact G.from fun t q => XT.dupX1 X.at X.ex rfl (X.dec hd) rfl hc hc' q
theorem g_dup2 (X : Wk nw l Z EL own bytes maxL ret mnm R h0 B0 ws Q x T h B k n) {u v : Value} (hd : Dc bytes pc (.dup2) 1 pc') (hc : u.category = 1) (hc' : v.category = 1) (G : Go x (T.setTop (mkF x.m pc' Ls (u :: v :: u :: v :: st)))) : Go x (T.setTop (mkF x.m pc Ls (u :: v :: st))) := by
  obtain ⟨hd, rfl⟩ := hd
  exact G.from fun t q => XT.dup2 X.at X.ex rfl (X.dec hd) rfl hc hc' q
theorem g_dup2L (X : Wk nw l Z EL own bytes maxL ret mnm R h0 B0 ws Q x T h B k n) {u : Int64} (hd : Dc bytes pc (.dup2) 1 pc')  (G : Go x (T.setTop (mkF x.m pc' Ls (.long u :: .long u :: st)))) : Go x (T.setTop (mkF x.m pc Ls (.long u :: st))) := by
  obtain ⟨hd, rfl⟩ := hd
  exact G.from fun t q => XT.dup2L X.at X.ex rfl (X.dec hd) rfl q
theorem g_goto (X : Wk nw l Z EL own bytes maxL ret mnm R h0 B0 ws Q x T h B k n) {o : Int} {pc'' : Nat}  (hd : Db bytes pc (.goto o) o pc' pc'')  (G : Go x (T.setTop (mkF x.m pc'' Ls st))) : Go x (T.setTop (mkF x.m pc Ls st)) := by
  obtain ⟨hd, rfl, ho, rfl⟩ := hd
  exact G.from fun t q => XS.goto X.at X.ex rfl rfl (X.dec hd) ho rfl q
theorem g_ifT (X : Wk nw l Z EL own bytes maxL ret mnm R h0 B0 ws Q x T h B k n) {o : Int} {pc'' : Nat} {cd : ClassFile.Cond} {v : Int32} (hd : Db bytes pc (.ifCond cd o) o pc' pc'') (hc : ifCond.holds cd v = true) (G : Go x (T.setTop (mkF x.m pc'' Ls st))) : Go x (T.setTop (mkF x.m pc Ls (.int v :: st))) := by
  obtain ⟨hd, rfl, ho, rfl⟩ := hd
  exact G.from fun t q => XS.ifYes X.at X.ex rfl rfl (X.dec hd) rfl hc ho rfl q
theorem g_ifF (X : Wk nw l Z EL own bytes maxL ret mnm R h0 B0 ws Q x T h B k n) {o : Int} {pc'' : Nat} {cd : ClassFile.Cond} {v : Int32} (hd : Db bytes pc (.ifCond cd o) o pc' pc'') (hc : ifCond.holds cd v = false) (G : Go x (T.setTop (mkF x.m pc' Ls st))) : Go x (T.setTop (mkF x.m pc Ls (.int v :: st))) := by
  obtain ⟨hd, rfl, ho, rfl⟩ := hd
  exact G.from fun t q => XS.ifNo X.at X.ex rfl (X.dec hd) rfl hc q
theorem g_icmpT (X : Wk nw l Z EL own bytes maxL ret mnm R h0 B0 ws Q x T h B k n) {o : Int} {pc'' : Nat} {cd : ClassFile.Cond} {u v : Int32} (hd : Db bytes pc (.if_icmp cd o) o pc' pc'') (hc : if_icmp.holds cd u v = true) (G : Go x (T.setTop (mkF x.m pc'' Ls st))) : Go x (T.setTop (mkF x.m pc Ls (.int v :: .int u :: st))) := by
  obtain ⟨hd, rfl, ho, rfl⟩ := hd
  exact G.from fun t q => XS.icmpYes X.at X.ex rfl rfl (X.dec hd) rfl hc ho rfl q
theorem g_icmpF (X : Wk nw l Z EL own bytes maxL ret mnm R h0 B0 ws Q x T h B k n) {o : Int} {pc'' : Nat} {cd : ClassFile.Cond} {u v : Int32} (hd : Db bytes pc (.if_icmp cd o) o pc' pc'') (hc : if_icmp.holds cd u v = false) (G : Go x (T.setTop (mkF x.m pc' Ls st))) : Go x (T.setTop (mkF x.m pc Ls (.int v :: .int u :: st))) := by
  obtain ⟨hd, rfl, ho, rfl⟩ := hd
  exact G.from fun t q => XS.icmpNo X.at X.ex rfl (X.dec hd) rfl hc q
theorem g_acmpT (X : Wk nw l Z EL own bytes maxL ret mnm R h0 B0 ws Q x T h B k n) {o : Int} {pc'' : Nat} {cd : ClassFile.ACond} {u v : Value} (hd : Db bytes pc (.if_acmp cd o) o pc' pc'') (h1 : u.isRef = true) (h2 : v.isRef = true) (hc : XT.acmp cd u v = true) (G : Go x (T.setTop (mkF x.m pc'' Ls st))) : Go x (T.setTop (mkF x.m pc Ls (v :: u :: st))) := by
  obtain ⟨hd, rfl, ho, rfl⟩ := hd
  exact G.from fun t q => XT.acmpYes X.at X.ex rfl rfl (X.dec hd) rfl h1 h2 hc ho rfl q
theorem g_acmpF (X : Wk nw l Z EL own bytes maxL ret mnm R h0 B0 ws Q x T h B k n) {o : Int} {pc'' : Nat} {cd : ClassFile.ACond} {u v : Value} (hd : Db bytes pc (.if_acmp cd o) o pc' pc'') (h1 : u.isRef = true) (h2 : v.isRef = true) (hc : XT.acmp cd u v = false) (G : Go x (T.setTop (mkF x.m pc' Ls st))) : Go x (T.setTop (mkF x.m pc Ls (v :: u :: st))) := by
  obtain ⟨hd, rfl, ho, rfl⟩ := hd
  exact G.from fun t q => XT.acmpNo X.at X.ex rfl (X.dec hd) rfl h1 h2 hc q
theorem g_ifnullT (X : Wk nw l Z EL own bytes maxL ret mnm R h0 B0 ws Q x T h B k n) {o : Int} {pc'' : Nat}  (hd : Db bytes pc (.ifnull o) o pc' pc'')  (G : Go x (T.setTop (mkF x.m pc'' Ls st))) : Go x (T.setTop (mkF x.m pc Ls (.null :: st))) := by
  obtain ⟨hd, rfl, ho, rfl⟩ := hd
  exact G.from fun t q => XS.ifnullYes X.at X.ex rfl rfl (X.dec hd) rfl ho rfl q
theorem g_ifnullF (X : Wk nw l Z EL own bytes maxL ret mnm R h0 B0 ws Q x T h B k n) {o : Int} {pc'' : Nat} {a : Addr} (hd : Db bytes pc (.ifnull o) o pc' pc'')  (G : Go x (T.setTop (mkF x.m pc' Ls st))) : Go x (T.setTop (mkF x.m pc Ls (.ref a :: st))) := by
  obtain ⟨hd, rfl, ho, rfl⟩ := hd
  exact G.from fun t q => XS.ifnullNo X.at X.ex rfl (X.dec hd) rfl q
theorem g_ifnonnullT (X : Wk nw l Z EL own bytes maxL ret mnm R h0 B0 ws Q x T h B k n) {o : Int} {pc'' : Nat} {a : Addr} (hd : Db bytes pc (.ifnonnull o) o pc' pc'')  (G : Go x (T.setTop (mkF x.m pc'' Ls st))) : Go x (T.setTop (mkF x.m pc Ls (.ref a :: st))) := by
  obtain ⟨hd, rfl, ho, rfl⟩ := hd
  exact G.from fun t q => XT.ifnonnullYes X.at X.ex rfl rfl (X.dec hd) rfl ho rfl q
theorem g_ifnonnullF (X : Wk nw l Z EL own bytes maxL ret mnm R h0 B0 ws Q x T h B k n) {o : Int} {pc'' : Nat}  (hd : Db bytes pc (.ifnonnull o) o pc' pc'')  (G : Go x (T.setTop (mkF x.m pc' Ls st))) : Go x (T.setTop (mkF x.m pc Ls (.null :: st))) := by
  obtain ⟨hd, rfl, ho, rfl⟩ := hd
  exact G.from fun t q => XT.ifnonnullNo X.at X.ex rfl (X.dec hd) rfl q
end Kit
/-! own kit, part 3: fields, statics, objects, arrays -/
/-- the array at a holds just these values -/
def Ay (Z : State) (h : Heap) (a : Addr) (ty : FieldType) (vs : List Value) : Prop :=
  ∃ c : Cell, Arr Z h a c ty ∧ c.slots.toList = vs ∧ vs.length < 2 ^ 31 ∧ ∀ v ∈ vs, fits ty v = true
section Ay
variable {Z : State} {h h' : Heap} {a b : Addr} {ty : FieldType} {vs : List Value} {ws : List Addr}
theorem Ay.lt (A : Ay Z h a ty vs) : @LT.lt Nat _ a h.size := by obtain ⟨c, A, -⟩ := A; exact A.lt
theorem Ay.len (A : Ay Z h a ty vs) : vs.length < 2 ^ 31 := by obtain ⟨c, A, -, l, -⟩ := A; exact l
theorem Ay.fit (A : Ay Z h a ty vs) : ∀ v ∈ vs, fits ty v = true := by obtain ⟨c, A, -, -, f⟩ := A; exact f
theorem Ay.keep (A : Ay Z h a ty vs) (K : Keep h h' ws) (q : a ∉ ws) : Ay Z h' a ty vs := by obtain ⟨c, A, r⟩ := A; exact ⟨c, ⟨K.2.1 a c A.1 q, A.2⟩, r⟩
theorem Ay.ext (A : Ay Z h a ty vs) (E : Ext h h') : Ay Z h' a ty vs := by obtain ⟨c, A, r⟩ := A; exact ⟨c, A.ext E, r⟩
theorem Ay.arv (A : Ay Z h a ty vs) (d : Value) : ∃ k, Arv Z h a k ty vs.length.toInt32 vs d := by
  obtain ⟨c, A, e, l, f⟩ := A
  have hsz : c.slots.size = vs.length := by rw [← e]; simp
  have hn : (vs.length.toInt32).toNatClampNeg = vs.length := by
    have := len_toInt l
    rw [Int32.toNatClampNeg, this]; rfl
  refine ⟨c.cls, c, A, rfl, by rw [hn, hsz], ?_, fun i hi => ?_, fun i hi => ?_⟩
  · have := len_toInt l
    rw [Int32.lt_iff_toInt_lt, this, Int32.toInt_zero]; omega
  · have hi' : i < vs.length := by omega
    subst e
    simp only [Array.length_toList] at hi'
    simp [List.getD, hi]
  · have hi' : i < vs.length := by omega
    rw [List.getD_eq_getElem?_getD, List.getElem?_eq_getElem hi', Option.getD_some]
    exact f _ (List.getElem_mem _)
theorem Ay.of_arv {k : ClassId} {z : Int32} {d : Value} (A : Arv Z h a k ty z vs d) (hl : z.toNatClampNeg = vs.length) : Ay Z h a ty vs := by
  obtain ⟨c, A, -, s, nn, H, G⟩ := A
  have hsz : c.slots.size = vs.length := by rw [s, hl]
  refine ⟨c, A, ?_, ?_, ?_⟩
  · refine List.ext_getElem (by simpa using hsz) fun i h1 h2 => ?_
    have hi : i < c.slots.size := by omega
    have q := H i hi
    rw [Array.getElem?_eq_getElem hi, List.getD_eq_getElem?_getD, List.getElem?_eq_getElem h2, Option.getD_some] at q
    simpa using q
  · rw [← hl]
    have := z.toInt_lt
    rw [Int32.toNatClampNeg]
    omega
  · intro v hv
    obtain ⟨i, hi, rfl⟩ := List.mem_iff_getElem.mp hv
    have q := G i (by omega)
    rw [List.getD_eq_getElem?_getD, List.getElem?_eq_getElem hi, Option.getD_some] at q
    exact q
theorem i32_nat {i : Nat} (h : i < 2 ^ 31) : (Int32.ofNat i).toNatClampNeg = i ∧ ¬ Int32.ofNat i < 0 := by
  have e : (Int32.ofNat i).toInt = i := Int32.toInt_ofNat_small h
  refine ⟨by rw [Int32.toNatClampNeg, e]; rfl, ?_⟩
  rw [Int32.lt_iff_toInt_lt, e, Int32.toInt_zero]; omega
theorem Ay.at (A : Ay Z h a ty vs) {i : Nat} {v : Value} (hi : vs[i]? = some v) : ∃ c : Cell, Arr Z h a c ty ∧ ¬ (Int32.ofNat i < 0 ∨ c.slots.size ≤ (Int32.ofNat i).toNatClampNeg) ∧ c.slots[(Int32.ofNat i).toNatClampNeg]? = some v := by
  obtain ⟨c, A, e, l, -⟩ := A
  have hlt : i < vs.length := (List.getElem?_eq_some_iff.mp hi).1
  obtain ⟨q1, q2⟩ := i32_nat (Nat.lt_trans hlt l)
  refine ⟨c, A, ?_, ?_⟩
  · rw [q1]; rintro (r | r)
    · exact q2 r
    · rw [← e] at hlt; simp at hlt; omega
  · rw [q1, ← Array.getElem?_toList, e]; exact hi
theorem Ay.set (A : Ay Z h a ty vs) {i : Nat} (hi : i < vs.length) {v : Value} (hv : fits ty v = true) : ∃ c : Cell, Arr Z h a c ty ∧ ¬ (Int32.ofNat i < 0 ∨ c.slots.size ≤ (Int32.ofNat i).toNatClampNeg) ∧ ∀ h', Wr h h' a (Int32.ofNat i).toNatClampNeg v → Ay Z h' a ty (vs.set i v) := by
  obtain ⟨c, A, e, l, f⟩ := A
  obtain ⟨q1, q2⟩ := i32_nat (Nat.lt_trans hi l)
  refine ⟨c, A, ?_, fun h' W => ⟨_, A.same W, ?_, by simpa using l, ?_⟩⟩
  · rw [q1]; rintro (r | r)
    · exact q2 r
    · rw [← e] at hi; simp at hi; omega
  · rw [q1]; simp [Cell.setSlot, e]
  · intro w hw
    rcases List.mem_or_eq_of_mem_set hw with r | r
    · exact f w r
    · rw [r]; exact hv
end Ay
section Heap
variable {nw : Bool} {l : Launch} {Z : State} {EL : List (String × Nat)} {own : String} {bytes : ByteArray} {maxL : Nat} {ret : Option FieldType} {mnm : String} {R : Room} {h0 : Heap} {B0 : BP} {ws : List Addr} {Q : QT} {x : Cx} {T : State} {h : Heap} {B : BP} {k n : Nat} {a0 : Array Value} {pc pc' : Nat} {Ls : Array Slot} {st : List Value}
theorem g_getfield (X : Wk nw l Z EL own bytes maxL ret mnm R h0 B0 ws Q x T h B k n) {R0 O nm d : String} {idx : Nat} (hd : Dc bytes pc (.getfield idx) 3 pc') (w : (Cond.fieldLink own idx R0 nm d).before a0 Z = true) (via : Via Z R0 O nm d) {a : Addr} {v : Value} (F : Fld Z h a O nm d v)
    (K : ∀ T', Wk nw l Z EL own bytes maxL ret mnm R h0 B0 ws Q x T' h B k n → Go x (T'.setTop (mkF x.m pc' Ls (v :: st)))) : Go x (T.setTop (mkF x.m pc Ls (.ref a :: st))) := by
  obtain ⟨S, vm0, k0, locs, X, eT, hS, hk, hZ, hown, r⟩ := X
  obtain ⟨hd, rfl⟩ := hd
  obtain ⟨T', X', e', stp⟩ := getF X S.1 hZ hown (host := "") (Or.inl w) via eT F (g := mkF x.m pc Ls (.ref a :: st)) rfl rfl (S.2.1 ▸ hd)
  exact (K T' ⟨S, vm0, k0, locs, X', e', hS, hk, hZ, hown, r⟩).from stp
theorem g_getstatic (X : Wk nw l Z EL own bytes maxL ret mnm R h0 B0 ws Q x T h B k n) {R0 O nm d : String} {idx : Nat} (hd : Dc bytes pc (.getstatic idx) 3 pc') (w : (Cond.fieldLink own idx R0 nm d).before a0 Z = true) (via : Via Z R0 O nm d) {v : Value} (F : Sta Z Z.heap O nm d v)
    (K : ∀ T', Wk nw l Z EL own bytes maxL ret mnm R h0 B0 ws Q x T' h B k n → Go x (T'.setTop (mkF x.m pc' Ls (v :: st)))) : Go x (T.setTop (mkF x.m pc Ls st)) := by
  have F' := F.ext X.old
  obtain ⟨S, vm0, k0, locs, X, eT, hS, hk, hZ, hown, r⟩ := X
  obtain ⟨hd, rfl⟩ := hd
  obtain ⟨T', X', e', stp⟩ := getS (host := "") X S.1 hZ hown w via eT F' (g := mkF x.m pc Ls st) rfl (S.2.1 ▸ hd)
  exact (K T' ⟨S, vm0, k0, locs, X', e', hS, hk, hZ, hown, r⟩).from stp
/-- a step that writes one place -/
theorem Wk.wrote {T' : State} {h' : Heap} {vm0 : Vm} {k0 : Nat} {locs : List Loc} {a : Addr} {sl : Nat} {v : Value} (W : Wr h h' a sl v) (hB : ¬ B a) (hz : Z.heap.size ≤ a) (hw : a ∈ ws ∨ h0.size ≤ a)
    (S : x.p.tables.exec = Jvm.exec ∧ x.c.code = bytes ∧ x.c.maxLocals = maxL ∧ x.meth.sig.returnType = ret ∧ x.meth.locks = false ∧ x.meth.name = mnm ∧ x.F = ConQ nw Z EL R h0 B0 ws Q x.s)
    (X' : Stand x.p l x.e R (x.s.setVm vm0) x.m x.args x.below x.meth x.c T' (locs ++ [⟨a, sl⟩]) k n) (e' : T'.heap = h') (hS : x.s.Since vm0 k0) (hk : k0 ≤ h.size) (hZ : Z.Warmed39 vm0) (hown : vm0.findClass own = some x.m.cls)
    (hI : k_inv Z EL B vm0 h) (hFr : Fr Z.heap.size locs) (hK : Keep h0 h ws) (hM : k_more B0 B h0.size) (hN : nw = true → x.s.WarmedH vm0) : Wk nw l Z EL own bytes maxL ret mnm R h0 B0 ws Q x T' h' B k n :=
  ⟨S, vm0, k0, _, X', e', hS, by rw [W.size]; exact hk, hZ, hown, hI.wr W hB hz, Fr.snoc X' hFr hz, hK.wr W hw, hM, hN⟩
theorem g_putfield (X : Wk nw l Z EL own bytes maxL ret mnm R h0 B0 ws Q x T h B k n) {R0 O nm d C : String} {idx kk : Nat} {ty : FieldType} (hd : Dc bytes pc (.putfield idx) 3 pc') (w : (Cond.fieldLink own idx R0 nm d).before a0 Z = true) (via : Via Z R0 O nm d) {a : Addr} {v v' old : Value} (F : Fld Z h a O nm d old) (E : Exa Z h a C)
    (L : (Cond.lays C O nm d).before a0 Z = true ∨ ((Cond.laysFinal C O nm d).before a0 Z = true ∧ own = O ∧ mnm = "<init>")) (wi : (Cond.instantiable C kk).before a0 Z = true) (hty : parseFieldDescriptor d = some ty) (hn : narrow ty v = v') (hf : fits ty v' = true)
    (hB : ¬ B a) (hz : Z.heap.size ≤ a) (hw : a ∈ ws ∨ h0.size ≤ a)
    (K : ∀ T' h', Wk nw l Z EL own bytes maxL ret mnm R h0 B0 ws Q x T' h' B k n → Wr h h' a (RoadKit.slotOf Z O nm d) v' → Go x (T'.setTop (mkF x.m pc' Ls st))) : Go x (T.setTop (mkF x.m pc Ls (v :: .ref a :: st))) := by
  obtain ⟨S, vm0, k0, locs, X, eT, hS, hk, hZ, hown, hI, hFr, hK, hM, hN⟩ := X
  obtain ⟨hd, rfl⟩ := hd
  obtain ⟨T', h', X', e', W, stp⟩ := putFN X S.1 hZ hown w via eT F E (L.imp id fun q => ⟨q.1, q.2.1, S.2.2.2.2.2.1.trans q.2.2⟩) wi hty hn hf (g := mkF x.m pc Ls (v :: .ref a :: st)) rfl rfl (S.2.1 ▸ hd)
  exact (K T' h' (Wk.wrote W hB hz hw S X' e' hS hk hZ hown hI hFr hK hM hN) W).from stp
theorem g_new (X : Wk nw l Z EL own bytes maxL ret mnm R h0 B0 ws Q x T h B k n) {C : String} {idx nf : Nat} (hd : Dc bytes pc (.new idx) 3 pc') (w : (Cond.classLink own idx C).before a0 Z = true) (wi : (Cond.instantiable C nf).before a0 Z = true) (wz : (Cond.initialized C).before a0 Z = true) (k' n' : Nat) (ek : k + 1 = k') (en : n + nf = n') (hc : k' ≤ R.cells) (hs : n' ≤ R.slots)
    (K : ∀ T' h' a, Wk nw l Z EL own bytes maxL ret mnm R h0 B0 ws Q x T' h' B k' n' → Ext h h' → a = h.size → ¬ B a → Exa Z h' a C → (∀ {O nm d : String} {ty : FieldType}, Laid Z a0 C O nm d → parseFieldDescriptor d = some ty → Fld Z h' a O nm d (defaultValue ty)) → Go x (T'.setTop (mkF x.m pc' Ls (.ref a :: st)))) : Go x (T.setTop (mkF x.m pc Ls st)) := by
  have hB := X.fresh
  subst ek en
  obtain ⟨S, vm0, k0, locs, X, eT, hS, hk, hZ, hown, hI, hFr, hK, hM, hN⟩ := X
  obtain ⟨hd, rfl⟩ := hd
  obtain ⟨T', h', X', e', E, A, D, -, stp⟩ := newO X S.1 hZ hown w wi wz eT (g := mkF x.m pc Ls st) rfl (S.2.1 ▸ hd) hc hs
  exact (K T' h' _ ⟨S, vm0, k0, locs, X', e', hS, Nat.le_trans hk E.1, hZ, hown, hI.ext E, hFr, hK.ext E, hM, hN⟩ E rfl hB A D).from stp
theorem g_newarray (X : Wk nw l Z EL own bytes maxL ret mnm R h0 B0 ws Q x T h B k n) {aty : ArrayType} {ty : FieldType} (hd : Dc bytes pc (.newarray aty) 2 pc') (hty : newarray.typeOf aty = ty) (w : (Cond.arrayClass ty).before a0 Z = true) {j : Int32} (len cap : Nat) (hj : j = Int32.ofNat len) (hcap : len ≤ cap) (hbig : cap * 8 ≤ 536870912) (k' n' : Nat) (ek : k + 1 = k') (en : n + cap = n') (hc : k' ≤ R.cells) (hs : n' ≤ R.slots)
    (K : ∀ T' h' a, Wk nw l Z EL own bytes maxL ret mnm R h0 B0 ws Q x T' h' B k' n' → Ext h h' → a = h.size → ¬ B a → Ay Z h' a ty (List.replicate len (defaultValue ty)) → Go x (T'.setTop (mkF x.m pc' Ls (.ref a :: st)))) : Go x (T.setTop (mkF x.m pc Ls (.int j :: st))) := by
  have hB := X.fresh
  subst hty hj ek en
  obtain ⟨S, vm0, k0, locs, X, eT, hS, hk, hZ, hown, hI, hFr, hK, hM, hN⟩ := X
  obtain ⟨hd, rfl⟩ := hd
  have hlt : len < 2 ^ 31 := by omega
  obtain ⟨q1, q2⟩ := i32_nat hlt
  obtain ⟨T', h', cA, X', e', E, A, stp⟩ := newP X S.1 hZ w eT (g := mkF x.m pc Ls (.int (Int32.ofNat len) :: st)) rfl (S.2.1 ▸ hd) rfl q2 (cap := cap) (by rw [q1]; exact hcap) hbig hc hs
  refine (K T' h' _ ⟨S, vm0, k0, locs, X', e', hS, Nat.le_trans hk E.1, hZ, hown, hI.ext E, hFr, hK.ext E, hM, hN⟩ E rfl hB ⟨_, A, ?_, by simpa using hlt, ?_⟩).from stp
  · simp [newA, q1]
  · intro v hv
    rw [(List.mem_replicate.mp hv).2]
    cases aty <;> rfl
theorem g_arraylength (X : Wk nw l Z EL own bytes maxL ret mnm R h0 B0 ws Q x T h B k n) (hd : Dc bytes pc .arraylength 1 pc') {a : Addr} {ty : FieldType} {vs : List Value} (A : Ay Z h a ty vs) (r : Int32) (hr : Int32.ofNat vs.length = r)
    (G : Go x (T.setTop (mkF x.m pc' Ls (.int r :: st)))) : Go x (T.setTop (mkF x.m pc Ls (.ref a :: st))) := by
  subst hr
  obtain ⟨S, vm0, k0, locs, X, eT, hS, hk, hZ, hown, hI, hFr, hK, hM, hN⟩ := X
  obtain ⟨hd, rfl⟩ := hd
  obtain ⟨c, A, e, -, -⟩ := A
  refine G.from fun t q => X.arraylength S.1 (cell := c) (by rw [eT]; exact A.1) (State.isArrayOf_alike hZ.alike A.2.1) (g := mkF x.m pc Ls (.ref a :: st)) rfl rfl (S.2.1 ▸ hd) t ?_
  have hsz : c.slots.size = vs.length := by rw [← e]; simp
  rw [hsz]; exact q
theorem g_caload (X : Wk nw l Z EL own bytes maxL ret mnm R h0 B0 ws Q x T h B k n) (hd : Dc bytes pc .caload 1 pc') {a : Addr} {vs : List Value} (A : Ay Z h a .char vs) {j : Int32} (i : Nat) (hj : j = Int32.ofNat i) {v : Value} (hi : vs[i]? = some v)
    (G : Go x (T.setTop (mkF x.m pc' Ls (v :: st)))) : Go x (T.setTop (mkF x.m pc Ls (.int j :: .ref a :: st))) := by
  subst hj
  obtain ⟨S, vm0, k0, locs, X, eT, hS, hk, hZ, hown, hI, hFr, hK, hM, hN⟩ := X
  obtain ⟨hd, rfl⟩ := hd
  obtain ⟨c, A, h1, h2⟩ := A.at hi
  exact G.from fun t q => X.caload S.1 (by rw [eT]; exact A.1) (State.isArrayOf_alike hZ.alike A.2.1) A.2.2 h1 h2 (g := mkF x.m pc Ls (.int (Int32.ofNat i) :: .ref a :: st)) rfl rfl (S.2.1 ▸ hd) t q
theorem g_iaload (X : Wk nw l Z EL own bytes maxL ret mnm R h0 B0 ws Q x T h B k n) (hd : Dc bytes pc .iaload 1 pc') {a : Addr} {vs : List Value} (A : Ay Z h a .int vs) {j : Int32} (i : Nat) (hj : j = Int32.ofNat i) {v : Value} (hi : vs[i]? = some v)
    (G : Go x (T.setTop (mkF x.m pc' Ls (v :: st)))) : Go x (T.setTop (mkF x.m pc Ls (.int j :: .ref a :: st))) := by
  subst hj
  obtain ⟨S, vm0, k0, locs, X, eT, hS, hk, hZ, hown, hI, hFr, hK, hM, hN⟩ := X
  obtain ⟨hd, rfl⟩ := hd
  obtain ⟨c, A, h1, h2⟩ := A.at hi
  exact G.from fun t q => X.iaload S.1 (by rw [eT]; exact A.1) (State.isArrayOf_alike hZ.alike A.2.1) A.2.2 h1 h2 (g := mkF x.m pc Ls (.int (Int32.ofNat i) :: .ref a :: st)) rfl rfl (S.2.1 ▸ hd) t q
theorem g_laload (X : Wk nw l Z EL own bytes maxL ret mnm R h0 B0 ws Q x T h B k n) (hd : Dc bytes pc .laload 1 pc') {a : Addr} {vs : List Value} (A : Ay Z h a .long vs) {j : Int32} (i : Nat) (hj : j = Int32.ofNat i) {v : Value} (hi : vs[i]? = some v)
    (G : Go x (T.setTop (mkF x.m pc' Ls (v :: st)))) : Go x (T.setTop (mkF x.m pc Ls (.int j :: .ref a :: st))) := by
  subst hj
  obtain ⟨S, vm0, k0, locs, X, eT, hS, hk, hZ, hown, hI, hFr, hK, hM, hN⟩ := X
  obtain ⟨hd, rfl⟩ := hd
  obtain ⟨c, A, h1, h2⟩ := A.at hi
  exact G.from fun t q => X.laload S.1 (by rw [eT]; exact A.1) (State.isArrayOf_alike hZ.alike A.2.1) A.2.2 h1 h2 (g := mkF x.m pc Ls (.int (Int32.ofNat i) :: .ref a :: st)) rfl rfl (S.2.1 ▸ hd) t q
theorem g_baload (X : Wk nw l Z EL own bytes maxL ret mnm R h0 B0 ws Q x T h B k n) (hd : Dc bytes pc .baload 1 pc') {a : Addr} {vs : List Value} (A : Ay Z h a .byte vs) {j : Int32} (i : Nat) (hj : j = Int32.ofNat i) {v : Value} (hi : vs[i]? = some v)
    (G : Go x (T.setTop (mkF x.m pc' Ls (v :: st)))) : Go x (T.setTop (mkF x.m pc Ls (.int j :: .ref a :: st))) := by
  subst hj
  obtain ⟨S, vm0, k0, locs, X, eT, hS, hk, hZ, hown, hI, hFr, hK, hM, hN⟩ := X
  obtain ⟨hd, rfl⟩ := hd
  obtain ⟨c, A, h1, h2⟩ := A.at hi
  exact G.from fun t q => X.baloadBytes S.1 (by rw [eT]; exact A.1) (State.isArrayOf_alike hZ.alike A.2.1) A.2.2 h1 h2 (g := mkF x.m pc Ls (.int (Int32.ofNat i) :: .ref a :: st)) rfl rfl (S.2.1 ▸ hd) t q
theorem g_aaload (X : Wk nw l Z EL own bytes maxL ret mnm R h0 B0 ws Q x T h B k n) (hd : Dc bytes pc .aaload 1 pc') {a : Addr} {ty : FieldType} (hty : ty.isReference = true) {vs : List Value} (A : Ay Z h a ty vs) {j : Int32} (i : Nat) (hj : j = Int32.ofNat i) {v : Value} (hi : vs[i]? = some v)
    (G : Go x (T.setTop (mkF x.m pc' Ls (v :: st)))) : Go x (T.setTop (mkF x.m pc Ls (.int j :: .ref a :: st))) := by
  subst hj
  obtain ⟨S, vm0, k0, locs, X, eT, hS, hk, hZ, hown, hI, hFr, hK, hM, hN⟩ := X
  obtain ⟨hd, rfl⟩ := hd
  obtain ⟨c, A, h1, h2⟩ := A.at hi
  exact G.from fun t q => X.aaload S.1 (by rw [eT]; exact A.1) (State.isArrayOf_alike hZ.alike A.2.1) hty A.2.2 h1 h2 (g := mkF x.m pc Ls (.int (Int32.ofNat i) :: .ref a :: st)) rfl rfl (S.2.1 ▸ hd) t q
theorem g_iastore (X : Wk nw l Z EL own bytes maxL ret mnm R h0 B0 ws Q x T h B k n) (hd : Dc bytes pc .iastore 1 pc') {a : Addr} {vs : List Value} (A : Ay Z h a .int vs) {j : Int32} (i : Nat) (hj : j = Int32.ofNat i) {v : Int32} (v' : Int32) (hv : v = v') (hi : i < vs.length) (hB : ¬ B a) (hz : Z.heap.size ≤ a) (hw : a ∈ ws ∨ h0.size ≤ a)
    (K : ∀ T' h', Wk nw l Z EL own bytes maxL ret mnm R h0 B0 ws Q x T' h' B k n → Keep h h' [a] → Ay Z h' a .int (vs.set i (.int v')) → Go x (T'.setTop (mkF x.m pc' Ls st))) : Go x (T.setTop (mkF x.m pc Ls (.int v :: .int j :: .ref a :: st))) := by
  subst hj hv
  obtain ⟨S, vm0, k0, locs, X, eT, hS, hk, hZ, hown, hI, hFr, hK, hM, hN⟩ := X
  obtain ⟨hd, rfl⟩ := hd
  obtain ⟨c, A, h1, h2⟩ := A.set hi (v := .int v) rfl
  obtain ⟨T', h', X', e', Wr', stp⟩ := stI X S.1 hZ eT A h1 (g := mkF x.m pc Ls (.int v :: .int (Int32.ofNat i) :: .ref a :: st)) rfl rfl (S.2.1 ▸ hd)
  exact (K T' h' (Wk.wrote Wr' hB hz hw S X' e' hS hk hZ hown hI hFr hK hM hN) (Keep.of_wr Wr') (h2 h' Wr')).from stp
theorem g_castore (X : Wk nw l Z EL own bytes maxL ret mnm R h0 B0 ws Q x T h B k n) (hd : Dc bytes pc .castore 1 pc') {a : Addr} {vs : List Value} (A : Ay Z h a .char vs) {j : Int32} (i : Nat) (hj : j = Int32.ofNat i) {v : Int32} (v' : Int32) (hv : (RoadKit.nar .char v) = v') (hi : i < vs.length) (hB : ¬ B a) (hz : Z.heap.size ≤ a) (hw : a ∈ ws ∨ h0.size ≤ a)
    (K : ∀ T' h', Wk nw l Z EL own bytes maxL ret mnm R h0 B0 ws Q x T' h' B k n → Keep h h' [a] → Ay Z h' a .char (vs.set i (.int v')) → Go x (T'.setTop (mkF x.m pc' Ls st))) : Go x (T.setTop (mkF x.m pc Ls (.int v :: .int j :: .ref a :: st))) := by
  subst hj hv
  obtain ⟨S, vm0, k0, locs, X, eT, hS, hk, hZ, hown, hI, hFr, hK, hM, hN⟩ := X
  obtain ⟨hd, rfl⟩ := hd
  obtain ⟨c, A, h1, h2⟩ := A.set hi (v := .int (RoadKit.nar .char v)) (fits_nar_char v)
  obtain ⟨T', h', X', e', Wr', stp⟩ := stC X S.1 hZ eT A h1 (g := mkF x.m pc Ls (.int v :: .int (Int32.ofNat i) :: .ref a :: st)) rfl rfl (S.2.1 ▸ hd)
  exact (K T' h' (Wk.wrote Wr' hB hz hw S X' e' hS hk hZ hown hI hFr hK hM hN) (Keep.of_wr Wr') (h2 h' Wr')).from stp
theorem g_bastore (X : Wk nw l Z EL own bytes maxL ret mnm R h0 B0 ws Q x T h B k n) (hd : Dc bytes pc .bastore 1 pc') {a : Addr} {vs : List Value} (A : Ay Z h a .byte vs) {j : Int32} (i : Nat) (hj : j = Int32.ofNat i) {v : Int32} (v' : Int32) (hv : (RoadKit.nar .byte v) = v') (hi : i < vs.length) (hB : ¬ B a) (hz : Z.heap.size ≤ a) (hw : a ∈ ws ∨ h0.size ≤ a)
    (K : ∀ T' h', Wk nw l Z EL own bytes maxL ret mnm R h0 B0 ws Q x T' h' B k n → Keep h h' [a] → Ay Z h' a .byte (vs.set i (.int v')) → Go x (T'.setTop (mkF x.m pc' Ls st))) : Go x (T.setTop (mkF x.m pc Ls (.int v :: .int j :: .ref a :: st))) := by
  subst hj hv
  obtain ⟨S, vm0, k0, locs, X, eT, hS, hk, hZ, hown, hI, hFr, hK, hM, hN⟩ := X
  obtain ⟨hd, rfl⟩ := hd
  obtain ⟨c, A, h1, h2⟩ := A.set hi (v := .int (RoadKit.nar .byte v)) (fits_nar_byte v)
  obtain ⟨T', h', X', e', Wr', stp⟩ := stB X S.1 hZ eT A h1 (g := mkF x.m pc Ls (.int v :: .int (Int32.ofNat i) :: .ref a :: st)) rfl rfl (S.2.1 ▸ hd)
  exact (K T' h' (Wk.wrote Wr' hB hz hw S X' e' hS hk hZ hown hI hFr hK hM hN) (Keep.of_wr Wr') (h2 h' Wr')).from stp
theorem g_lastore (X : Wk nw l Z EL own bytes maxL ret mnm R h0 B0 ws Q x T h B k n) (hd : Dc bytes pc .lastore 1 pc') {a : Addr} {vs : List Value} (A : Ay Z h a .long vs) {j : Int32} (i : Nat) (hj : j = Int32.ofNat i) {v : Int64} (v' : Int64) (hv : v = v') (hi : i < vs.length) (hB : ¬ B a) (hz : Z.heap.size ≤ a) (hw : a ∈ ws ∨ h0.size ≤ a)
    (K : ∀ T' h', Wk nw l Z EL own bytes maxL ret mnm R h0 B0 ws Q x T' h' B k n → Keep h h' [a] → Ay Z h' a .long (vs.set i (.long v')) → Go x (T'.setTop (mkF x.m pc' Ls st))) : Go x (T.setTop (mkF x.m pc Ls (.long v :: .int j :: .ref a :: st))) := by
  subst hj hv
  obtain ⟨S, vm0, k0, locs, X, eT, hS, hk, hZ, hown, hI, hFr, hK, hM, hN⟩ := X
  obtain ⟨hd, rfl⟩ := hd
  obtain ⟨c, A, h1, h2⟩ := A.set hi (v := .long v) rfl
  obtain ⟨T', h', X', e', Wr', stp⟩ := stJ X S.1 hZ eT A h1 (g := mkF x.m pc Ls (.long v :: .int (Int32.ofNat i) :: .ref a :: st)) rfl rfl (S.2.1 ▸ hd)
  exact (K T' h' (Wk.wrote Wr' hB hz hw S X' e' hS hk hZ hown hI hFr hK hM hN) (Keep.of_wr Wr') (h2 h' Wr')).from stp
end Heap
/-! own kit, part 4: calls, constants, casts -/
/-- pure: the value r, the heap as it was -/
def PQ (r : Option Value) (h0 : Heap) (B0 : BP) : QT := fun v h B => v = r ∧ h = h0 ∧ B = B0
theorem k_ws1 {B : BP} {Z : State} {ws : List Addr} {h0 : Heap} {a : Addr} (q : ¬ B a ∧ Z.heap.size ≤ a ∧ (a ∈ ws ∨ h0.size ≤ a)) : ∀ z ∈ [a], ¬ B z ∧ Z.heap.size ≤ z ∧ (z ∈ ws ∨ h0.size ≤ z) := fun z hz => by cases List.mem_singleton.mp hz; exact q
theorem k_narref (t : FieldType) {v : Value} (h : v.isRef = true) : narrow t v = v := by
  rcases ref_cases h with rfl | ⟨a, rfl⟩ <;> cases t <;> rfl
theorem k_fitref {t : FieldType} {v : Value} (ht : refKind t = true) (h : v.isRef = true) : fits t v = true := by
  rcases ref_cases h with rfl | ⟨a, rfl⟩ <;> cases t <;> first | rfl | cases ht
theorem k_top {x : Cx} {T : State} {pc : Nat} {Ls : Array Slot} {st : List Value} {v v' : Value} (e : v = v') (G : Go x (T.setTop (mkF x.m pc Ls (v' :: st)))) : Go x (T.setTop (mkF x.m pc Ls (v :: st))) := by subst e; exact G
section Calls
variable {nw : Bool} {l : Launch} {Z : State} {EL : List (String × Nat)} {own : String} {bytes : ByteArray} {maxL : Nat} {ret : Option FieldType} {mnm : String} {R : Room} {h0 : Heap} {B0 : BP} {ws : List Addr} {Q : QT} {x : Cx} {T : State} {h : Heap} {B : BP} {k n : Nat} {a0 : Array Value} {pc pc' : Nat} {Ls : Array Slot} {st : List Value}
/-- a callee's promise, as the library's calls take it -/
theorem conBack {p : Program} {e : Env} {below : List Frame} {s : State} {args : Array Value} {vm0 : Vm} {len W : Nat} {y : MethodName} {bytes' : ByteArray} {maxL' : Nat} {ret' : Option FieldType} {rm : Room} {as : Array Value} {ws' : List Addr} {Q' : QT}
    (C : Con nw l Z EL y bytes' maxL' ret' [] rm as h B ws' Q') (hZ : Z.Warmed39 vm0) (wc : (Cond.code y bytes' maxL' ret').before a0 Z = true) (wz : (Cond.initialized y.cls).before a0 Z = true) (hf : rm.frames + 1 ≤ R.frames) (hl : W + (maxL' + 11) + rm.locals ≤ R.locals) (hI : k_inv Z EL B vm0 h) :
    BackS l R p e below (s.setVm vm0) args y len W (fun A a => a = as ∧ A.U.heap = h ∧ A.cells + rm.cells ≤ R.cells ∧ A.slots + rm.slots ≤ R.slots)
      (fun A _ v D => ∃ L B', Q' v D.U.heap B' ∧ Keep h D.U.heap ws' ∧ k_more B B' h.size ∧ Fr Z.heap.size L ∧ D.locs = A.locs ++ L ∧ D.cells = A.cells + rm.cells ∧ D.slots = A.slots + rm.slots ∧ k_inv Z EL B' D.U.vm D.U.heap ∧ (nw = true → (s.setVm vm0).WarmedH D.U.vm)) :=
  BackS.of_freeW (bytes := bytes') (maxL := maxL') (ret := ret')
    (E := fun _ first o t L k n => k = rm.cells ∧ n = rm.slots ∧ ∃ v B', o = .returned v ∧ Q' v t.heap B' ∧ Keep h t.heap ws' ∧ k_more B B' h.size ∧ Fr Z.heap.size L ∧ k_inv Z EL B' t.vm t.heap ∧ (nw = true → first.WarmedH t.vm)) C hf hl
    (fun m meth c A a Y hp => have hU : Z.Warmed39 A.U.vm := wtrans (s := s.setVm vm0) hZ Y.warmed
      ⟨by show (Cond.and _ .tt).before a A.U = true; rw [Cond.before_and, mv hU wc]; rfl, mv hU wc, mv hU wz, hp.2.2.1, hp.2.2.2⟩)
    (fun m meth c A a g mk Y hp => ⟨hp.1, wtrans (s := s.setVm vm0) hZ Y.warmed, hp.2.1, (have q := hI.vmT Y hZ; q)⟩) (fun _ _ _ _ _ _ _ _ _ => trivial)
    (fun _ _ _ _ ⟨v, L, B', q1, q2, q3, q4, q5, q6, q7⟩ => ⟨L, _, _, q7.1, rfl, rfl, v, B', q1, q2, q3, q4, q5, q6, q7.2⟩)
    (fun m meth c A a g mk v t L k n Y hp _ _ ⟨e1, e2, v', B', q1, q2, q3, q4, q5, q6, q7⟩ => by
      cases q1; subst e1 e2
      exact ⟨L, B', q2, q3, q4, q5, rfl, rfl, rfl, q6, fun r => State.WarmedH.trans Y.warmed (q7 r)⟩)
theorem Wk.called {T' : State} {h' : Heap} {B' : BP} {vm0 vm1 : Vm} {k0 k' n' : Nat} {locs L : List Loc} {ws' : List Addr} (hK' : Keep h h' ws') (hws : ∀ z ∈ ws', ¬ B z ∧ Z.heap.size ≤ z ∧ (z ∈ ws ∨ h0.size ≤ z)) (hM' : k_more B B' h.size) (hFr' : Fr Z.heap.size L) (hI' : k_inv Z EL B' vm1 h')
    (S : x.p.tables.exec = Jvm.exec ∧ x.c.code = bytes ∧ x.c.maxLocals = maxL ∧ x.meth.sig.returnType = ret ∧ x.meth.locks = false ∧ x.meth.name = mnm ∧ x.F = ConQ nw Z EL R h0 B0 ws Q x.s)
    (X' : Stand x.p l x.e R ((x.s.setVm vm0).setVm vm1) x.m x.args x.below x.meth x.c T' (locs ++ L) k' n') (e' : T'.heap = h') (hS : x.s.Since vm0 k0) (hk : k0 ≤ h.size) (hS' : (x.s.setVm vm0).Since vm1 h'.size) (hZ : Z.Warmed39 vm0) (hown : vm0.findClass own = some x.m.cls)
    (hFr : Fr Z.heap.size locs) (hK : Keep h0 h ws) (hM : k_more B0 B h0.size) (hN : nw = true → x.s.WarmedH vm0) (hN' : nw = true → (x.s.setVm vm0).WarmedH vm1) : Wk nw l Z EL own bytes maxL ret mnm R h0 B0 ws Q x T' h' B' k' n' := by
  obtain ⟨q1, q2, q3, q4⟩ := rebS (Z := Z) (own := own) hS hk X' hS' hK'.1 hZ hown
  exact ⟨S, vm1, h'.size, _, q1, e', q2, Nat.le_refl _, q3, q4, hI', hFr.app hFr', hK.trans hK' fun z hz => (hws z hz).2.2, hM.trans hM' hK.1, fun r => State.WarmedH.trans (t := x.s.setVm vm0) (hN r) (hN' r)⟩
abbrev noHandle (y : MethodName) : Prop := y.cls ≠ "java/lang/invoke/MethodHandle" ∧ y.cls ≠ "java/lang/invoke/VarHandle"
theorem g_callS (X : Wk nw l Z EL own bytes maxL ret mnm R h0 B0 ws Q x T h B k n) {y : MethodName} {idx : Nat} {bytes' : ByteArray} {maxL' : Nat} {ret' : Option FieldType} {rm : Room} {ws' : List Addr} {Q' : QT} {ps : List FieldType} {rt : Option FieldType} (hd : Dc bytes pc (.invokestatic idx) 3 pc')
    (w1 : (Cond.methodLink own idx y).before a0 Z = true) (w2 : (Cond.static y).before a0 Z = true) (w3 : (Cond.initialized y.cls).before a0 Z = true) (w4 : (Cond.code y bytes' maxL' ret').before a0 Z = true) (hy : noHandle y) (hpd : parseMethodDescriptor y.desc = some ⟨ps, rt⟩)
    (argsL rest : List Value) (W : Nat) (C : Con nw l Z EL y bytes' maxL' ret' [] rm argsL.toArray h B ws' Q') (hlen : argsL.length = ps.length) (hst : st = argsL.reverse ++ rest) (hsz : Ls.size = maxL) (hW : (rest.map fun v => v.category).sum ≤ W) (hf : rm.frames + 1 ≤ R.frames) (hl : W + (maxL' + 11) + rm.locals ≤ R.locals) (k' n' : Nat) (ek : k + rm.cells = k') (en : n + rm.slots = n') (hc : k' ≤ R.cells) (hs : n' ≤ R.slots)
    (hws : ∀ z ∈ ws', ¬ B z ∧ Z.heap.size ≤ z ∧ (z ∈ ws ∨ h0.size ≤ z))
    (K : ∀ v T' h' B', Wk nw l Z EL own bytes maxL ret mnm R h0 B0 ws Q x T' h' B' k' n' → Keep h h' ws' → k_more B B' h.size → Q' v h' B' → Go x (T'.setTop (mkF x.m pc' Ls (v.toList ++ rest)))) : Go x (T.setTop (mkF x.m pc Ls st)) := by
  subst ek en
  obtain ⟨S, vm0, k0, locs, X, eT, hS, hk, hZ, hown, hI, hFr, hK, hM, hN⟩ := X
  obtain ⟨hd, rfl⟩ := hd
  obtain ⟨v, vm₁, ⟨T', L', k'', n''⟩, -, X', hS', hgr, ⟨L, B', q1, q2, q3, q4, e1, e2, e3, q5, q6⟩, stp⟩ := callSS X S.1 hown (mvT (s := x.s.setVm vm0) hZ w1) (mvT (s := x.s.setVm vm0) hZ w2) (mvT (s := x.s.setVm vm0) hZ w3) (mvT (s := x.s.setVm vm0) hZ w4) hy (conBack (W := W) C hZ w4 w3 hf hl hI) (g := mkF x.m pc Ls st) rfl (by rw [S.2.2.1]; exact hsz) (lenOf hpd hlen) hst (by show 2 * 0 + _ ≤ _; omega) (S.2.1 ▸ hd) (fun _ _ => ⟨rfl, eT, hc, hs⟩)
  dsimp only [Pt.U, Pt.locs, Pt.cells, Pt.slots] at X' hS' hgr q1 q2 q5 q6 e1 e2 e3 stp
  subst e1 e2 e3
  exact (K v T' _ B' (Wk.called q2 hws q3 q4 q5 S X' rfl hS hk hS' hZ hown hFr hK hM hN q6) q2 q3 q1).from fun t q => stp.trans q
theorem g_callI (X : Wk nw l Z EL own bytes maxL ret mnm R h0 B0 ws Q x T h B k n) {y : MethodName} {idx : Nat} {bytes' : ByteArray} {maxL' : Nat} {rm : Room} {ws' : List Addr} {Q' : QT} {ps : List FieldType} {rt : Option FieldType} (hd : Dc bytes pc (.invokespecial idx) 3 pc')
    (w1 : (Cond.methodLink own idx y).before a0 Z = true) (w2 : (Cond.instanceMethod y).before a0 Z = true) (w3 : (Cond.initialized y.cls).before a0 Z = true) (w4 : (Cond.code y bytes' maxL' none).before a0 Z = true) (hn : y.name = "<init>") (hy : noHandle y) (hpd : parseMethodDescriptor y.desc = some ⟨ps, rt⟩)
    (a : Addr) (argsL rest : List Value) (W : Nat) (C : Con nw l Z EL y bytes' maxL' none [] rm (.ref a :: argsL).toArray h B ws' Q') (hlen : argsL.length = ps.length) (hst : st = argsL.reverse ++ .ref a :: rest) (hsz : Ls.size = maxL) (hW : (rest.map fun v => v.category).sum ≤ W) (hf : rm.frames + 1 ≤ R.frames) (hl : W + (maxL' + 11) + rm.locals ≤ R.locals) (k' n' : Nat) (ek : k + rm.cells = k') (en : n + rm.slots = n') (hc : k' ≤ R.cells) (hs : n' ≤ R.slots)
    (hws : ∀ z ∈ ws', ¬ B z ∧ Z.heap.size ≤ z ∧ (z ∈ ws ∨ h0.size ≤ z))
    (K : ∀ v T' h' B', Wk nw l Z EL own bytes maxL ret mnm R h0 B0 ws Q x T' h' B' k' n' → Keep h h' ws' → k_more B B' h.size → Q' v h' B' → Go x (T'.setTop (mkF x.m pc' Ls (v.toList ++ rest)))) : Go x (T.setTop (mkF x.m pc Ls st)) := by
  subst ek en
  obtain ⟨S, vm0, k0, locs, X, eT, hS, hk, hZ, hown, hI, hFr, hK, hM, hN⟩ := X
  obtain ⟨hd, rfl⟩ := hd
  obtain ⟨v, vm₁, ⟨T', L', k'', n''⟩, -, X', hS', hgr, ⟨L, B', q1, q2, q3, q4, e1, e2, e3, q5, q6⟩, stp⟩ := X.specialBackS S.1 hn hown (mvT (s := x.s.setVm vm0) hZ w1) (mvT (s := x.s.setVm vm0) hZ w2) (mvT (s := x.s.setVm vm0) hZ w4) hy (conBack (W := W) C hZ w4 w3 hf hl hI) (g := mkF x.m pc Ls st) rfl (by rw [S.2.2.1]; exact hsz) (Steps.refl _) (lenOf hpd hlen) hst (by show 2 * 0 + _ ≤ _; omega) (S.2.1 ▸ hd) (fun _ _ => ⟨rfl, eT, hc, hs⟩)
  dsimp only [Pt.U, Pt.locs, Pt.cells, Pt.slots] at X' hS' hgr q1 q2 q5 q6 e1 e2 e3 stp
  subst e1 e2 e3
  exact (K v T' _ B' (Wk.called q2 hws q3 q4 q5 S X' rfl hS hk hS' hZ hown hFr hK hM hN q6) q2 q3 q1).from fun t q => stp.trans q
theorem g_callN (X : Wk nw l Z EL own bytes maxL ret mnm R h0 B0 ws Q x T h B k n) {host : String} {y : MethodName} {idx : Nat} {bytes' : ByteArray} {maxL' : Nat} {rm : Room} {ws' : List Addr} {Q' : QT} {ps : List FieldType} {rt : Option FieldType} (hd : Dc bytes pc (.invokespecial idx) 3 pc')
    (w1 : (Cond.methodLinkNest own idx y host).before a0 Z = true) (w2 : (Cond.instanceMethod y).before a0 Z = true) (w3 : (Cond.initialized y.cls).before a0 Z = true) (w4 : (Cond.code y bytes' maxL' none).before a0 Z = true) (hn : y.name = "<init>") (hy : noHandle y) (hpd : parseMethodDescriptor y.desc = some ⟨ps, rt⟩)
    (a : Addr) (argsL rest : List Value) (W : Nat) (C : Con nw l Z EL y bytes' maxL' none [] rm (.ref a :: argsL).toArray h B ws' Q') (hlen : argsL.length = ps.length) (hst : st = argsL.reverse ++ .ref a :: rest) (hsz : Ls.size = maxL) (hW : (rest.map fun v => v.category).sum ≤ W) (hf : rm.frames + 1 ≤ R.frames) (hl : W + (maxL' + 11) + rm.locals ≤ R.locals) (k' n' : Nat) (ek : k + rm.cells = k') (en : n + rm.slots = n') (hc : k' ≤ R.cells) (hs : n' ≤ R.slots)
    (hws : ∀ z ∈ ws', ¬ B z ∧ Z.heap.size ≤ z ∧ (z ∈ ws ∨ h0.size ≤ z))
    (K : ∀ v T' h' B', Wk nw l Z EL own bytes maxL ret mnm R h0 B0 ws Q x T' h' B' k' n' → Keep h h' ws' → k_more B B' h.size → Q' v h' B' → Go x (T'.setTop (mkF x.m pc' Ls (v.toList ++ rest)))) : Go x (T.setTop (mkF x.m pc Ls st)) := by
  subst ek en
  obtain ⟨S, vm0, k0, locs, X, eT, hS, hk, hZ, hown, hI, hFr, hK, hM, hN⟩ := X
  obtain ⟨hd, rfl⟩ := hd
  obtain ⟨v, vm₁, ⟨T', L', k'', n''⟩, -, X', hS', hgr, ⟨L, B', q1, q2, q3, q4, e1, e2, e3, q5, q6⟩, stp⟩ := X.specialBackNestS S.1 hn hown (Cond.methodLinkNest_wide hZ w1 :) (mvT (s := x.s.setVm vm0) hZ w2) (mvT (s := x.s.setVm vm0) hZ w4) hy (conBack (W := W) C hZ w4 w3 hf hl hI) (g := mkF x.m pc Ls st) rfl (by rw [S.2.2.1]; exact hsz) (Steps.refl _) (lenOf hpd hlen) hst (by show 2 * 0 + _ ≤ _; omega) (S.2.1 ▸ hd) (fun _ _ => ⟨rfl, eT, hc, hs⟩)
  dsimp only [Pt.U, Pt.locs, Pt.cells, Pt.slots] at X' hS' hgr q1 q2 q5 q6 e1 e2 e3 stp
  subst e1 e2 e3
  exact (K v T' _ B' (Wk.called q2 hws q3 q4 q5 S X' rfl hS hk hS' hZ hown hFr hK hM hN q6) q2 q3 q1).from fun t q => stp.trans q
theorem g_callV (X : Wk nw l Z EL own bytes maxL ret mnm R h0 B0 ws Q x T h B k n) {D : String} {y : MethodName} {idx : Nat} {bytes' : ByteArray} {maxL' : Nat} {ret' : Option FieldType} {rm : Room} {ws' : List Addr} {Q' : QT} {ps : List FieldType} {rt : Option FieldType} (hd : Dc bytes pc (.invokevirtual idx) 3 pc')
    (w1 : (Cond.methodLink own idx y).before a0 Z = true) (w2 : (Cond.declares y).before a0 Z = true) (w3 : (Cond.selects D y y).before a0 Z = true) (w4 : (Cond.instanceMethod y).before a0 Z = true) (w5 : (Cond.initialized y.cls).before a0 Z = true) (w6 : (Cond.code y bytes' maxL' ret').before a0 Z = true) (hy : noHandle y) (hpd : parseMethodDescriptor y.desc = some ⟨ps, rt⟩)
    (a : Addr) (argsL rest : List Value) (W : Nat) (E : Exa Z h a D) (C : Con nw l Z EL y bytes' maxL' ret' [] rm (.ref a :: argsL).toArray h B ws' Q') (hlen : argsL.length = ps.length) (hst : st = argsL.reverse ++ .ref a :: rest) (hsz : Ls.size = maxL) (hW : (rest.map fun v => v.category).sum ≤ W) (hf : rm.frames + 1 ≤ R.frames) (hl : W + (maxL' + 11) + rm.locals ≤ R.locals) (k' n' : Nat) (ek : k + rm.cells = k') (en : n + rm.slots = n') (hc : k' ≤ R.cells) (hs : n' ≤ R.slots)
    (hws : ∀ z ∈ ws', ¬ B z ∧ Z.heap.size ≤ z ∧ (z ∈ ws ∨ h0.size ≤ z))
    (K : ∀ v T' h' B', Wk nw l Z EL own bytes maxL ret mnm R h0 B0 ws Q x T' h' B' k' n' → Keep h h' ws' → k_more B B' h.size → Q' v h' B' → Go x (T'.setTop (mkF x.m pc' Ls (v.toList ++ rest)))) : Go x (T.setTop (mkF x.m pc Ls st)) := by
  subst ek en
  obtain ⟨S, vm0, k0, locs, X, eT, hS, hk, hZ, hown, hI, hFr, hK, hM, hN⟩ := X
  obtain ⟨hd, rfl⟩ := hd
  obtain ⟨cq, kq, qa, qb, qc⟩ := isOf (s := x.s.setVm vm0) hZ eT E
  obtain ⟨v, vm₁, ⟨T', L', k'', n''⟩, -, X', hS', hgr, ⟨L, B', q1, q2, q3, q4, e1, e2, e3, q5, q6⟩, stp⟩ := X.virtualBackS S.1 (y := y) (z := y) hown (mvT (s := x.s.setVm vm0) hZ w1) (mvT (s := x.s.setVm vm0) hZ w2) (notFace_of_selects (args := #[]) (mvT (s := x.s.setVm vm0) hZ w3)) (mvT (s := x.s.setVm vm0) hZ w3) (mvT (s := x.s.setVm vm0) hZ w4) hy (conBack (W := W) C hZ w6 w5 hf hl hI) qa qc (g := mkF x.m pc Ls st) rfl (by rw [S.2.2.1]; exact hsz) (Steps.refl _) (lenOf hpd hlen) hst (by show 2 * 0 + _ ≤ _; omega) (S.2.1 ▸ hd) (fun _ _ => ⟨rfl, eT, hc, hs⟩)
  dsimp only [Pt.U, Pt.locs, Pt.cells, Pt.slots] at X' hS' hgr q1 q2 q5 q6 e1 e2 e3 stp
  subst e1 e2 e3
  exact (K v T' _ B' (Wk.called q2 hws q3 q4 q5 S X' rfl hS hk hS' hZ hown hFr hK hM hN q6) q2 q3 q1).from fun t q => stp.trans q
theorem g_callSp (X : Wk nw l Z EL own bytes maxL ret mnm R h0 B0 ws Q x T h B k n) {y : MethodName} {idx : Nat} {bytes' : ByteArray} {maxL' : Nat} {ret' : Option FieldType} {rm : Room} {v : Value} {ps : List FieldType} {rt : Option FieldType} (hd : Dc bytes pc (.invokestatic idx) 3 pc')
    (w1 : (Cond.methodLink own idx y).before a0 Z = true) (w2 : (Cond.static y).before a0 Z = true) (w3 : (Cond.initialized y.cls).before a0 Z = true) (w4 : (Cond.code y bytes' maxL' ret').before a0 Z = true) (hy : noHandle y) (hpd : parseMethodDescriptor y.desc = some ⟨ps, rt⟩)
    (argsL rest : List Value) (W : Nat) (C : Con nw l Z EL y bytes' maxL' ret' [] rm argsL.toArray h B [] (PQ (some v) h B)) (hlen : argsL.length = ps.length) (hst : st = argsL.reverse ++ rest) (hsz : Ls.size = maxL) (hW : (rest.map fun v => v.category).sum ≤ W) (hf : rm.frames + 1 ≤ R.frames) (hl : W + (maxL' + 11) + rm.locals ≤ R.locals) (k' n' : Nat) (ek : k + rm.cells = k') (en : n + rm.slots = n') (hc : k' ≤ R.cells) (hs : n' ≤ R.slots)
    (K : ∀ T', Wk nw l Z EL own bytes maxL ret mnm R h0 B0 ws Q x T' h B k' n' → Go x (T'.setTop (mkF x.m pc' Ls (v :: rest)))) : Go x (T.setTop (mkF x.m pc Ls st)) :=
  g_callS X hd w1 w2 w3 w4 hy hpd argsL rest W C hlen hst hsz hW hf hl k' n' ek en hc hs (fun _ q => nomatch q) fun _ T' _ _ X' _ _ ⟨e1, e2, e3⟩ => by subst e1 e2 e3; exact K T' X'
theorem g_callSp0 (X : Wk nw l Z EL own bytes maxL ret mnm R h0 B0 ws Q x T h B k n) {y : MethodName} {idx : Nat} {bytes' : ByteArray} {maxL' : Nat} {ret' : Option FieldType} {rm : Room} {ps : List FieldType} {rt : Option FieldType} (hd : Dc bytes pc (.invokestatic idx) 3 pc')
    (w1 : (Cond.methodLink own idx y).before a0 Z = true) (w2 : (Cond.static y).before a0 Z = true) (w3 : (Cond.initialized y.cls).before a0 Z = true) (w4 : (Cond.code y bytes' maxL' ret').before a0 Z = true) (hy : noHandle y) (hpd : parseMethodDescriptor y.desc = some ⟨ps, rt⟩)
    (argsL rest : List Value) (W : Nat) (C : Con nw l Z EL y bytes' maxL' ret' [] rm argsL.toArray h B [] (PQ none h B)) (hlen : argsL.length = ps.length) (hst : st = argsL.reverse ++ rest) (hsz : Ls.size = maxL) (hW : (rest.map fun v => v.category).sum ≤ W) (hf : rm.frames + 1 ≤ R.frames) (hl : W + (maxL' + 11) + rm.locals ≤ R.locals) (k' n' : Nat) (ek : k + rm.cells = k') (en : n + rm.slots = n') (hc : k' ≤ R.cells) (hs : n' ≤ R.slots)
    (K : ∀ T', Wk nw l Z EL own bytes maxL ret mnm R h0 B0 ws Q x T' h B k' n' → Go x (T'.setTop (mkF x.m pc' Ls rest))) : Go x (T.setTop (mkF x.m pc Ls st)) :=
  g_callS X hd w1 w2 w3 w4 hy hpd argsL rest W C hlen hst hsz hW hf hl k' n' ek en hc hs (fun _ q => nomatch q) fun _ T' _ _ X' _ _ ⟨e1, e2, e3⟩ => by subst e1 e2 e3; exact K T' X'
theorem g_callVp (X : Wk nw l Z EL own bytes maxL ret mnm R h0 B0 ws Q x T h B k n) {D : String} {y : MethodName} {idx : Nat} {bytes' : ByteArray} {maxL' : Nat} {ret' : Option FieldType} {rm : Room} {v : Value} {ps : List FieldType} {rt : Option FieldType} (hd : Dc bytes pc (.invokevirtual idx) 3 pc')
    (w1 : (Cond.methodLink own idx y).before a0 Z = true) (w2 : (Cond.declares y).before a0 Z = true) (w3 : (Cond.selects D y y).before a0 Z = true) (w4 : (Cond.instanceMethod y).before a0 Z = true) (w5 : (Cond.initialized y.cls).before a0 Z = true) (w6 : (Cond.code y bytes' maxL' ret').before a0 Z = true) (hy : noHandle y) (hpd : parseMethodDescriptor y.desc = some ⟨ps, rt⟩)
    (a : Addr) (argsL rest : List Value) (W : Nat) (E : Exa Z h a D) (C : Con nw l Z EL y bytes' maxL' ret' [] rm (.ref a :: argsL).toArray h B [] (PQ (some v) h B)) (hlen : argsL.length = ps.length) (hst : st = argsL.reverse ++ .ref a :: rest) (hsz : Ls.size = maxL) (hW : (rest.map fun v => v.category).sum ≤ W) (hf : rm.frames + 1 ≤ R.frames) (hl : W + (maxL' + 11) + rm.locals ≤ R.locals) (k' n' : Nat) (ek : k + rm.cells = k') (en : n + rm.slots = n') (hc : k' ≤ R.cells) (hs : n' ≤ R.slots)
    (K : ∀ T', Wk nw l Z EL own bytes maxL ret mnm R h0 B0 ws Q x T' h B k' n' → Go x (T'.setTop (mkF x.m pc' Ls (v :: rest)))) : Go x (T.setTop (mkF x.m pc Ls st)) :=
  g_callV X hd w1 w2 w3 w4 w5 w6 hy hpd a argsL rest W E C hlen hst hsz hW hf hl k' n' ek en hc hs (fun _ q => nomatch q) fun _ T' _ _ X' _ _ ⟨e1, e2, e3⟩ => by subst e1 e2 e3; exact K T' X'
theorem g_callVp0 (X : Wk nw l Z EL own bytes maxL ret mnm R h0 B0 ws Q x T h B k n) {D : String} {y : MethodName} {idx : Nat} {bytes' : ByteArray} {maxL' : Nat} {ret' : Option FieldType} {rm : Room} {ps : List FieldType} {rt : Option FieldType} (hd : Dc bytes pc (.invokevirtual idx) 3 pc')
    (w1 : (Cond.methodLink own idx y).before a0 Z = true) (w2 : (Cond.declares y).before a0 Z = true) (w3 : (Cond.selects D y y).before a0 Z = true) (w4 : (Cond.instanceMethod y).before a0 Z = true) (w5 : (Cond.initialized y.cls).before a0 Z = true) (w6 : (Cond.code y bytes' maxL' ret').before a0 Z = true) (hy : noHandle y) (hpd : parseMethodDescriptor y.desc = some ⟨ps, rt⟩)
    (a : Addr) (argsL rest : List Value) (W : Nat) (E : Exa Z h a D) (C : Con nw l Z EL y bytes' maxL' ret' [] rm (.ref a :: argsL).toArray h B [] (PQ none h B)) (hlen : argsL.length = ps.length) (hst : st = argsL.reverse ++ .ref a :: rest) (hsz : Ls.size = maxL) (hW : (rest.map fun v => v.category).sum ≤ W) (hf : rm.frames + 1 ≤ R.frames) (hl : W + (maxL' + 11) + rm.locals ≤ R.locals) (k' n' : Nat) (ek : k + rm.cells = k') (en : n + rm.slots = n') (hc : k' ≤ R.cells) (hs : n' ≤ R.slots)
    (K : ∀ T', Wk nw l Z EL own bytes maxL ret mnm R h0 B0 ws Q x T' h B k' n' → Go x (T'.setTop (mkF x.m pc' Ls rest))) : Go x (T.setTop (mkF x.m pc Ls st)) :=
  g_callV X hd w1 w2 w3 w4 w5 w6 hy hpd a argsL rest W E C hlen hst hsz hW hf hl k' n' ek en hc hs (fun _ q => nomatch q) fun _ T' _ _ X' _ _ ⟨e1, e2, e3⟩ => by subst e1 e2 e3; exact K T' X'
theorem g_callIp0 (X : Wk nw l Z EL own bytes maxL ret mnm R h0 B0 ws Q x T h B k n) {y : MethodName} {idx : Nat} {bytes' : ByteArray} {maxL' : Nat} {rm : Room} {ps : List FieldType} {rt : Option FieldType} (hd : Dc bytes pc (.invokespecial idx) 3 pc')
    (w1 : (Cond.methodLink own idx y).before a0 Z = true) (w2 : (Cond.instanceMethod y).before a0 Z = true) (w3 : (Cond.initialized y.cls).before a0 Z = true) (w4 : (Cond.code y bytes' maxL' none).before a0 Z = true) (hn : y.name = "<init>") (hy : noHandle y) (hpd : parseMethodDescriptor y.desc = some ⟨ps, rt⟩)
    (a : Addr) (argsL rest : List Value) (W : Nat) (C : Con nw l Z EL y bytes' maxL' none [] rm (.ref a :: argsL).toArray h B [] (PQ none h B)) (hlen : argsL.length = ps.length) (hst : st = argsL.reverse ++ .ref a :: rest) (hsz : Ls.size = maxL) (hW : (rest.map fun v => v.category).sum ≤ W) (hf : rm.frames + 1 ≤ R.frames) (hl : W + (maxL' + 11) + rm.locals ≤ R.locals) (k' n' : Nat) (ek : k + rm.cells = k') (en : n + rm.slots = n') (hc : k' ≤ R.cells) (hs : n' ≤ R.slots)
    (K : ∀ T', Wk nw l Z EL own bytes maxL ret mnm R h0 B0 ws Q x T' h B k' n' → Go x (T'.setTop (mkF x.m pc' Ls rest))) : Go x (T.setTop (mkF x.m pc Ls st)) :=
  g_callI X hd w1 w2 w3 w4 hn hy hpd a argsL rest W C hlen hst hsz hW hf hl k' n' ek en hc hs (fun _ q => nomatch q) fun _ T' _ _ X' _ _ ⟨e1, e2, e3⟩ => by subst e1 e2 e3; exact K T' X'
theorem g_callF (X : Wk nw l Z EL own bytes maxL ret mnm R h0 B0 ws Q x T h B k n) {D : String} {y z : MethodName} {idx cnt : Nat} {bytes' : ByteArray} {maxL' : Nat} {ret' : Option FieldType} {rm : Room} {ws' : List Addr} {Q' : QT} {ps : List FieldType} {rt : Option FieldType} (hd : Dc bytes pc (.invokeinterface idx cnt) 5 pc')
    (w1 : (Cond.methodLink own idx y).before a0 Z = true) (w2 : (Cond.declares y).before a0 Z = true) (wa : (Cond.interfaceMethod y.cls y.cls y.name y.desc).before a0 Z = true) (wb : (Cond.publicMethod z).before a0 Z = true) (wc : (Cond.unhidden D y.name y.desc).before a0 Z = true) (wd : (Cond.castable D y.cls).before a0 Z = true) (w3 : (Cond.selects D y z).before a0 Z = true) (w4 : (Cond.instanceMethod z).before a0 Z = true) (w5 : (Cond.initialized z.cls).before a0 Z = true) (w6 : (Cond.code z bytes' maxL' ret').before a0 Z = true) (hy : noHandle y) (hpd : parseMethodDescriptor y.desc = some ⟨ps, rt⟩)
    (a : Addr) (argsL rest : List Value) (W : Nat) (E : Exa Z h a D) (C : Con nw l Z EL z bytes' maxL' ret' [] rm (.ref a :: argsL).toArray h B ws' Q') (hlen : argsL.length = ps.length) (hst : st = argsL.reverse ++ .ref a :: rest) (hsz : Ls.size = maxL) (hW : (rest.map fun v => v.category).sum ≤ W) (hf : rm.frames + 1 ≤ R.frames) (hl : W + (maxL' + 11) + rm.locals ≤ R.locals) (k' n' : Nat) (ek : k + rm.cells = k') (en : n + rm.slots = n') (hc : k' ≤ R.cells) (hs : n' ≤ R.slots)
    (hws : ∀ z ∈ ws', ¬ B z ∧ Z.heap.size ≤ z ∧ (z ∈ ws ∨ h0.size ≤ z))
    (K : ∀ v T' h' B', Wk nw l Z EL own bytes maxL ret mnm R h0 B0 ws Q x T' h' B' k' n' → Keep h h' ws' → k_more B B' h.size → Q' v h' B' → Go x (T'.setTop (mkF x.m pc' Ls (v.toList ++ rest)))) : Go x (T.setTop (mkF x.m pc Ls st)) := by
  subst ek en
  obtain ⟨S, vm0, k0, locs, X, eT, hS, hk, hZ, hown, hI, hFr, hK, hM, hN⟩ := X
  obtain ⟨hd, rfl⟩ := hd
  obtain ⟨cq, kq, qa, qb, qc⟩ := isOf (s := x.s.setVm vm0) hZ eT E
  obtain ⟨v, vm₁, ⟨T', L', k'', n''⟩, -, X', hS', hgr, ⟨L, B', q1, q2, q3, q4, e1, e2, e3, q5, q6⟩, stp⟩ := X.interfaceBackS S.1 (xi := y) (y := z) hown (mvT (s := x.s.setVm vm0) hZ w1) (mvT (s := x.s.setVm vm0) hZ w2) (mvT (s := x.s.setVm vm0) hZ wa (by simp [Cond.onTables, Cond.keepsFace, Cond.keeps, Cond.faceAtom, hy.1, hy.2])) (mvT (s := x.s.setVm vm0) hZ w3) (mvT (s := x.s.setVm vm0) hZ w4) (mvT (s := x.s.setVm vm0) hZ wb) (mvT (s := x.s.setVm vm0) hZ wc) (mvT (s := x.s.setVm vm0) hZ wd) hy (conBack (W := W) C hZ w6 w5 hf hl hI) qa qb qc (g := mkF x.m pc Ls st) rfl (by rw [S.2.2.1]; exact hsz) (Steps.refl _) (lenOf hpd hlen) hst (by show 2 * 0 + _ ≤ _; omega) (S.2.1 ▸ hd) (fun _ _ => ⟨rfl, eT, hc, hs⟩)
  dsimp only [Pt.U, Pt.locs, Pt.cells, Pt.slots] at X' hS' hgr q1 q2 q5 q6 e1 e2 e3 stp
  subst e1 e2 e3
  exact (K v T' _ B' (Wk.called q2 hws q3 q4 q5 S X' rfl hS hk hS' hZ hown hFr hK hM hN q6) q2 q3 q1).from fun t q => stp.trans q
theorem g_callFp (X : Wk nw l Z EL own bytes maxL ret mnm R h0 B0 ws Q x T h B k n) {D : String} {y z : MethodName} {idx cnt : Nat} {bytes' : ByteArray} {maxL' : Nat} {ret' : Option FieldType} {rm : Room} {v : Value} {ps : List FieldType} {rt : Option FieldType} (hd : Dc bytes pc (.invokeinterface idx cnt) 5 pc')
    (w1 : (Cond.methodLink own idx y).before a0 Z = true) (w2 : (Cond.declares y).before a0 Z = true) (wa : (Cond.interfaceMethod y.cls y.cls y.name y.desc).before a0 Z = true) (wb : (Cond.publicMethod z).before a0 Z = true) (wc : (Cond.unhidden D y.name y.desc).before a0 Z = true) (wd : (Cond.castable D y.cls).before a0 Z = true) (w3 : (Cond.selects D y z).before a0 Z = true) (w4 : (Cond.instanceMethod z).before a0 Z = true) (w5 : (Cond.initialized z.cls).before a0 Z = true) (w6 : (Cond.code z bytes' maxL' ret').before a0 Z = true) (hy : noHandle y) (hpd : parseMethodDescriptor y.desc = some ⟨ps, rt⟩)
    (a : Addr) (argsL rest : List Value) (W : Nat) (E : Exa Z h a D) (C : Con nw l Z EL z bytes' maxL' ret' [] rm (.ref a :: argsL).toArray h B [] (PQ (some v) h B)) (hlen : argsL.length = ps.length) (hst : st = argsL.reverse ++ .ref a :: rest) (hsz : Ls.size = maxL) (hW : (rest.map fun v => v.category).sum ≤ W) (hf : rm.frames + 1 ≤ R.frames) (hl : W + (maxL' + 11) + rm.locals ≤ R.locals) (k' n' : Nat) (ek : k + rm.cells = k') (en : n + rm.slots = n') (hc : k' ≤ R.cells) (hs : n' ≤ R.slots)
    (K : ∀ T', Wk nw l Z EL own bytes maxL ret mnm R h0 B0 ws Q x T' h B k' n' → Go x (T'.setTop (mkF x.m pc' Ls (v :: rest)))) : Go x (T.setTop (mkF x.m pc Ls st)) :=
  g_callF X hd w1 w2 wa wb wc wd w3 w4 w5 w6 hy hpd a argsL rest W E C hlen hst hsz hW hf hl k' n' ek en hc hs (fun _ q => nomatch q) fun _ T' _ _ X' _ _ ⟨e1, e2, e3⟩ => by subst e1 e2 e3; exact K T' X'
/-- Object.<init> -/
theorem g_init (X : Wk nw l Z EL own bytes maxL ret mnm R h0 B0 ws Q x T h B k n) {idx : Nat} {y : MethodName} {ob : ByteArray} (hd : Dc bytes pc (.invokespecial idx) 3 pc') (hy : y = Lib.objectInit) (hob : ob = ⟨#[0xb1]⟩) (w1 : (Cond.methodLink own idx y).before a0 Z = true) (w2 : (Cond.instanceMethod y).before a0 Z = true) (w3 : (Cond.code y ob 1 none).before a0 Z = true)
    (W : Nat) (hsz : Ls.size = maxL) (hf : 1 ≤ R.frames) {a : Addr} (hW : (st.map fun v => v.category).sum ≤ W) (hl : W + 12 ≤ R.locals)
    (K : ∀ T', Wk nw l Z EL own bytes maxL ret mnm R h0 B0 ws Q x T' h B k n → Go x (T'.setTop (mkF x.m pc' Ls st))) : Go x (T.setTop (mkF x.m pc Ls (.ref a :: st))) := by
  subst hy hob
  obtain ⟨S, vm0, k0, locs, X, eT, hS, hk, hZ, hown, r⟩ := X
  obtain ⟨hd, rfl⟩ := hd
  obtain ⟨T', X', e', stp⟩ := initO X S.1 hZ hown w1 w2 w3 eT (g := mkF x.m pc Ls (.ref a :: st)) rfl (by rw [S.2.2.1]; exact hsz) rfl (S.2.1 ▸ hd) hf (W := W) (by show 2 * 0 + _ ≤ _; omega) hl
  exact (K T' ⟨S, vm0, k0, locs, X', e', hS, hk, hZ, hown, r⟩).from stp
/-- a String constant, unread -/
theorem g_ldcO (X : Wk nw l Z EL own bytes maxL ret mnm R h0 B0 ws Q x T h B k n) {idx : Nat} {text : String} (hnw : nw = false) (hd : Dc bytes pc (.ldc idx) 2 pc') (w : (Cond.stringLink own idx text).before a0 Z = true) (wS : ∀ a ∈ Bundle.stringAtoms, a.before a0 Z = true) (cap : Nat) (hn : 4 * text.toList.length ≤ cap) (hbig : cap ≤ 536870912) (k' n' : Nat) (ek : k + 2 = k') (en : n + (cap + 4) = n') (hc : k' ≤ R.cells) (hs : n' ≤ R.slots)
    (K : ∀ T' h' B' a, Wk nw l Z EL own bytes maxL ret mnm R h0 B0 ws Q x T' h' B' k' n' → Ext h h' → k_more B B' h.size → Go x (T'.setTop (mkF x.m pc' Ls (.ref a :: st)))) : Go x (T.setTop (mkF x.m pc Ls st)) := by
  subst hnw ek en
  obtain ⟨S, vm0, k0, locs, X, eT, hS, hk, hZ, hown, ⟨i1, i2, i3, i4, b0, i5⟩, hFr, hK, hM, hN⟩ := X
  obtain ⟨hd, rfl⟩ := hd
  have w' : (Cond.stringLink own idx text).before b0 Z = true := w
  have wS' : ∀ a ∈ Bundle.stringAtoms, a.before b0 Z = true := fun d hd => by
    have q := wS d hd
    simp only [Bundle.stringAtoms, List.mem_cons, List.not_mem_nil, or_false] at hd
    rcases hd with rfl | rfl | rfl | rfl | rfl | rfl | rfl <;> exact q
  obtain ⟨a, T', h', k1, X', e', E, hS', hk', hZ', hown', hC, -, stp⟩ := ldcOH X S.1 hZ hown w' wS' eT hS hk i5 i1 (g := mkF x.m pc Ls st) rfl (S.2.1 ▸ hd) hn hbig hc hs
  have hM' : k_more B (fun y => B y ∨ Bk Z EL T'.vm h' y) h.size := by
    refine ⟨?_, fun y q => Or.inl q⟩
    rintro y (q | q)
    · exact Or.inl q
    · rcases hC.2.2 y q with r | r
      · exact Or.inl (i2 y r)
      · exact Or.inr r
  refine (K T' h' (fun y => B y ∨ Bk Z EL T'.vm h' y) a ⟨S, T'.vm, k1, locs, X', e', hS', hk', hZ', hown', ⟨hC.1, fun y q => Or.inr q, ?_, ⟨Nat.le_trans i4.1 E.1, fun b c q => E.2 _ _ (i4.2 b c q)⟩, b0, i5⟩, hFr, hK.ext E, hM.trans hM' hK.1, fun q => nomatch q⟩ E hM').from stp
  rintro y (q | q)
  · exact Nat.lt_of_lt_of_le (i3 y q) E.1
  · obtain ⟨cell, hc⟩ := Bk.there q; exact (Array.getElem?_eq_some_iff.mp hc).1
/-- a String constant of EL, read -/
theorem g_ldcC (X : Wk nw l Z EL own bytes maxL ret mnm R h0 B0 ws Q x T h B k n) {idx : Nat} {text : String} (hnw : nw = false) (hd : Dc bytes pc (.ldc idx) 2 pc') (w : (Cond.stringLink own idx text).before a0 Z = true) (wS : ∀ a ∈ Bundle.stringAtoms, a.before a0 Z = true) (hmem : (own, idx) ∈ EL) (bs : List Int32) (hlt : bs.length < 2 ^ 31) (ht : (∀ c ∈ text.toList, c.toNat < 256) ∧ text.toList.map (fun c => Value.int (Jvm.Lit.byteI c.toNat.toUInt16)) = bs.map Value.int) (cap : Nat) (hn : 4 * text.toList.length ≤ cap) (hbig : cap ≤ 536870912) (k' n' : Nat) (ek : k + 2 = k') (en : n + (cap + 4) = n') (hc : k' ≤ R.cells) (hs : n' ≤ R.slots)
    (K : ∀ T' h' B' a t, Wk nw l Z EL own bytes maxL ret mnm R h0 B0 ws Q x T' h' B' k' n' → Ext h h' → k_more B B' h.size → Exa Z h' a "java/lang/String" → Fld Z h' a "java/lang/String" "coder" "B" (.int 0) → Fld Z h' a "java/lang/String" "value" "[B" (.ref t) → Ay Z h' t .byte (bs.map Value.int) → a < h'.size → t < h'.size → (∀ z, ¬ B' z → z ≠ a ∧ z ≠ t) → Go x (T'.setTop (mkF x.m pc' Ls (.ref a :: st)))) : Go x (T.setTop (mkF x.m pc Ls st)) := by
  subst hnw ek en
  obtain ⟨S, vm0, k0, locs, X, eT, hS, hk, hZ, hown, ⟨i1, i2, i3, i4, b0, i5⟩, hFr, hK, hM, hN⟩ := X
  obtain ⟨hd, rfl⟩ := hd
  have w' : (Cond.stringLink own idx text).before b0 Z = true := w
  have wS' : ∀ a ∈ Bundle.stringAtoms, a.before b0 Z = true := fun d hd => by
    have q := wS d hd
    simp only [Bundle.stringAtoms, List.mem_cons, List.not_mem_nil, or_false] at hd
    rcases hd with rfl | rfl | rfl | rfl | rfl | rfl | rfl <;> exact q
  obtain ⟨z1, z2⟩ := i32_nat hlt
  obtain ⟨a, T', h', k1, t, kk, X', e', E, hS', hk', hZ', hown', p1, p2, p3, p4, p5, p6, hC, -, p7, stp⟩ := ldcCH X S.1 hZ hown w' wS' eT hS hk i5 hmem i1 (vs := bs.map Value.int) (z := Int32.ofNat bs.length) ht z2 (by rw [z1]; simp) (g := mkF x.m pc Ls st) rfl (S.2.1 ▸ hd) hn hbig hc hs
  have hM' : k_more B (fun y => B y ∨ Bk Z EL T'.vm h' y) h.size := by
    refine ⟨?_, fun y q => Or.inl q⟩
    rintro y (q | q)
    · exact Or.inl q
    · rcases hC.2.2 y q with r | r
      · exact Or.inl (i2 y r)
      · exact Or.inr r
  refine (K T' h' (fun y => B y ∨ Bk Z EL T'.vm h' y) a t ⟨S, T'.vm, k1, locs, X', e', hS', hk', hZ', hown', ⟨hC.1, fun y q => Or.inr q, ?_, ⟨Nat.le_trans i4.1 E.1, fun b c q => E.2 _ _ (i4.2 b c q)⟩, b0, i5⟩, hFr, hK.ext E, hM.trans hM' hK.1, fun q => nomatch q⟩ E hM' p1 p2 p3 (Ay.of_arv p4 (by rw [z1]; simp)) p5 p6 (fun z hz => p7 z fun q => hz (Or.inr q))).from stp
  rintro y (q | q)
  · exact Nat.lt_of_lt_of_le (i3 y q) E.1
  · obtain ⟨cell, hc⟩ := Bk.there q; exact (Array.getElem?_eq_some_iff.mp hc).1
theorem g_ldc2 (X : Wk nw l Z EL own bytes maxL ret mnm R h0 B0 ws Q x T h B k n) {idx : Nat} {v : Int64} (hd : Dc bytes pc (.ldc2_w idx) 3 pc') (w : (Cond.constantLong own idx v).before a0 Z = true) (G : Go x (T.setTop (mkF x.m pc' Ls (.long v :: st)))) : Go x (T.setTop (mkF x.m pc Ls st)) := by
  obtain ⟨S, vm0, k0, locs, X, eT, hS, hk, hZ, hown, r⟩ := X
  obtain ⟨hd, rfl⟩ := hd
  exact G.from fun t q => X.ldc2J S.1 hown (mvT (s := x.s.setVm vm0) hZ w) (g := mkF x.m pc Ls st) rfl (S.2.1 ▸ hd) q
theorem g_ldcI (X : Wk nw l Z EL own bytes maxL ret mnm R h0 B0 ws Q x T h B k n) {idx : Nat} {v : Int32} (hd : Dc bytes pc (.ldc idx) 2 pc') (w : (Cond.constant own idx v).before a0 Z = true) (G : Go x (T.setTop (mkF x.m pc' Ls (.int v :: st)))) : Go x (T.setTop (mkF x.m pc Ls st)) := by
  obtain ⟨S, vm0, k0, locs, X, eT, hS, hk, hZ, hown, r⟩ := X
  obtain ⟨hd, rfl⟩ := hd
  exact G.from fun t q => X.ldcI S.1 hown (mvT (s := x.s.setVm vm0) hZ w) (g := mkF x.m pc Ls st) rfl (S.2.1 ▸ hd) q
theorem g_ldcWI (X : Wk nw l Z EL own bytes maxL ret mnm R h0 B0 ws Q x T h B k n) {idx : Nat} {v : Int32} (hd : Dc bytes pc (.ldc_w idx) 3 pc') (w : (Cond.constant own idx v).before a0 Z = true) (G : Go x (T.setTop (mkF x.m pc' Ls (.int v :: st)))) : Go x (T.setTop (mkF x.m pc Ls st)) := by
  obtain ⟨S, vm0, k0, locs, X, eT, hS, hk, hZ, hown, r⟩ := X
  obtain ⟨hd, rfl⟩ := hd
  exact G.from fun t q => X.ldcWI S.1 hown (mvT (s := x.s.setVm vm0) hZ w) (g := mkF x.m pc Ls st) rfl (S.2.1 ▸ hd) q
theorem g_castY (X : Wk nw l Z EL own bytes maxL ret mnm R h0 B0 ws Q x T h B k n) {K : String} {idx : Nat} (hd : Dc bytes pc (.checkcast idx) 3 pc') (w : (Cond.classLink own idx K).before a0 Z = true) {a : Addr} (F : Ins Z h a K true)
    (K' : ∀ T', Wk nw l Z EL own bytes maxL ret mnm R h0 B0 ws Q x T' h B k n → Go x (T'.setTop (mkF x.m pc' Ls (.ref a :: st)))) : Go x (T.setTop (mkF x.m pc Ls (.ref a :: st))) := by
  obtain ⟨S, vm0, k0, locs, X, eT, hS, hk, hZ, hown, r⟩ := X
  obtain ⟨hd, rfl⟩ := hd
  obtain ⟨T', X', e', stp⟩ := castY X S.1 hZ hown w eT F (g := mkF x.m pc Ls (.ref a :: st)) rfl rfl (S.2.1 ▸ hd)
  exact (K' T' ⟨S, vm0, k0, locs, X', e', hS, hk, hZ, hown, r⟩).from stp
theorem g_instY (X : Wk nw l Z EL own bytes maxL ret mnm R h0 B0 ws Q x T h B k n) {K : String} {idx : Nat} (hd : Dc bytes pc (.instanceof idx) 3 pc') (w : (Cond.classLink own idx K).before a0 Z = true) {a : Addr} (F : Ins Z h a K true)
    (K' : ∀ T', Wk nw l Z EL own bytes maxL ret mnm R h0 B0 ws Q x T' h B k n → Go x (T'.setTop (mkF x.m pc' Ls (.int 1 :: st)))) : Go x (T.setTop (mkF x.m pc Ls (.ref a :: st))) := by
  obtain ⟨S, vm0, k0, locs, X, eT, hS, hk, hZ, hown, r⟩ := X
  obtain ⟨hd, rfl⟩ := hd
  obtain ⟨T', X', e', stp⟩ := instY X S.1 hZ hown w eT F (g := mkF x.m pc Ls (.ref a :: st)) rfl rfl (S.2.1 ▸ hd)
  exact (K' T' ⟨S, vm0, k0, locs, X', e', hS, hk, hZ, hown, r⟩).from stp
theorem g_instNo (X : Wk nw l Z EL own bytes maxL ret mnm R h0 B0 ws Q x T h B k n) {K C : String} {idx : Nat} (hd : Dc bytes pc (.instanceof idx) 3 pc') (w : (Cond.classLink own idx K).before a0 Z = true) {a : Addr} (E : Exa Z h a C) (F : ∃ c t, Z.vm.findClass C = some c ∧ Z.vm.findClass K = some t ∧ Z.vm.assignable c t = false)
    (K' : ∀ T', Wk nw l Z EL own bytes maxL ret mnm R h0 B0 ws Q x T' h B k n → Go x (T'.setTop (mkF x.m pc' Ls (.int 0 :: st)))) : Go x (T.setTop (mkF x.m pc Ls (.ref a :: st))) := by
  obtain ⟨S, vm0, k0, locs, X, eT, hS, hk, hZ, hown, r⟩ := X
  obtain ⟨hd, rfl⟩ := hd
  obtain ⟨T', X', e', stp⟩ := instNo X S.1 hZ hown w eT E F (g := mkF x.m pc Ls (.ref a :: st)) rfl rfl (S.2.1 ▸ hd)
  exact (K' T' ⟨S, vm0, k0, locs, X', e', hS, hk, hZ, hown, r⟩).from stp
theorem g_instNull (X : Wk nw l Z EL own bytes maxL ret mnm R h0 B0 ws Q x T h B k n) {idx : Nat} (hd : Dc bytes pc (.instanceof idx) 3 pc') (G : Go x (T.setTop (mkF x.m pc' Ls (.int 0 :: st)))) : Go x (T.setTop (mkF x.m pc Ls (.null :: st))) := by
  obtain ⟨S, vm0, k0, locs, X, eT, hS, hk, hZ, hown, r⟩ := X
  obtain ⟨hd, rfl⟩ := hd
  exact G.from fun t q => X.instanceofNull S.1 (g := mkF x.m pc Ls (.null :: st)) rfl rfl (S.2.1 ▸ hd) t q
theorem k_slice (vs : List Value) (d : Value) (sp nn : Nat) (h : sp + nn ≤ vs.length) : ((List.range nn).map fun i => vs.getD (sp + i) d) = (vs.drop sp).take nn := by
  refine List.ext_getElem (by simp; omega) fun i h1 h2 => ?_
  simp at h1
  simp [List.getD, List.getElem?_eq_getElem (show sp + i < vs.length by omega)]
theorem g_arraycopy (X : Wk nw l Z EL own bytes maxL ret mnm R h0 B0 ws Q x T h B k n) {idx : Nat} {y : MethodName} {ty : FieldType} {a b : Addr} {vs vd : List Value} (hd : Dc bytes pc (.invokestatic idx) 3 pc') (hy : y = Jvm.Stand.acN) (w1 : (Cond.methodLink own idx y).before a0 Z = true) (w2 : (Cond.native y).before a0 Z = true) (w3 : (Cond.static y).before a0 Z = true) (w4 : (Cond.initialized "java/lang/System").before a0 Z = true)
    (A : Ay Z h a ty vs) (D : Ay Z h b ty vd) (hp : refKind ty = false) (sp dp nn : Nat) (h4 : sp + nn ≤ vs.length) (h5 : dp + nn ≤ vd.length) {j1 j2 j3 : Int32} (e1 : j1 = Int32.ofNat sp) (e2 : j2 = Int32.ofNat dp) (e3 : j3 = Int32.ofNat nn) (hsz : Ls.size = maxL) (hB : ¬ B b) (hz : Z.heap.size ≤ b) (hw : b ∈ ws ∨ h0.size ≤ b)
    (W : Nat) (hW : (st.map fun v => v.category).sum ≤ W) (hf : 1 ≤ R.frames) (hl : W + (nativeFrameWords "java/lang/System" "arraycopy" 5 + 11) ≤ R.locals)
    (K : ∀ T' h', Wk nw l Z EL own bytes maxL ret mnm R h0 B0 ws Q x T' h' B k n → Keep h h' [b] → Ay Z h' b ty (vd.take dp ++ (vs.drop sp).take nn ++ vd.drop (dp + nn)) → Go x (T'.setTop (mkF x.m pc' Ls st))) : Go x (T.setTop (mkF x.m pc Ls (.int j3 :: .int j2 :: .ref b :: .int j1 :: .ref a :: st))) := by
  subst hy e1 e2 e3
  obtain ⟨S, vm0, k0, locs, X, eT, hS, hk, hZ, hown, hI, hFr, hK, hM, hN⟩ := X
  obtain ⟨hd, rfl⟩ := hd
  have la := A.len
  have lb := D.len
  obtain ⟨ka, A⟩ := A.arv (.int 0)
  obtain ⟨kb, D⟩ := D.arv (.int 0)
  obtain ⟨s1, s2⟩ := i32_nat (show sp < 2 ^ 31 by omega)
  obtain ⟨d1, d2⟩ := i32_nat (show dp < 2 ^ 31 by omega)
  obtain ⟨n1, n2⟩ := i32_nat (show nn < 2 ^ 31 by omega)
  have va : (vs.length.toInt32).toNatClampNeg = vs.length := (i32_nat la).1
  have vb : (vd.length.toInt32).toNatClampNeg = vd.length := (i32_nat lb).1
  obtain ⟨T', h', L, X', e', hL, K', D', stp⟩ := cpA X S.1 hZ hown w1 w2 w3 w4 eT A D (us := (List.range nn).map fun i => vs.getD (sp + i) (.int 0)) (Or.inl ⟨rfl, hp⟩) s2 d2 n2 (by rw [s1, n1, va]; exact h4) (by rw [d1, n1, vb]; exact h5) (by rw [s1, n1]) (by rw [d1, n1]; exact h5) hFr hz (g := mkF x.m pc Ls (.int (Int32.ofNat nn) :: .int (Int32.ofNat dp) :: .ref b :: .int (Int32.ofNat sp) :: .ref a :: st)) rfl (by rw [S.2.2.1]; exact hsz) rfl (S.2.1 ▸ hd) hf (W := W) (by show 2 * 0 + _ ≤ _; omega) hl
  rw [d1, n1, k_slice vs _ sp nn h4] at D'
  refine (K T' h' ⟨S, vm0, k0, L, X', e', hS, Nat.le_trans hk K'.1, hZ, hown, hI.keep K' (fun y q => by cases List.mem_singleton.mp q; exact ⟨hB, hz⟩), hL, hK.trans K' (fun y q => by cases List.mem_singleton.mp q; exact hw), hM, hN⟩ K' (Ay.of_arv D' ?_)).from stp
  rw [vb]; simp; omega
end Calls
/-! own kit, part 5: numbers and Strings -/
theorem k_inc (i : Nat) : Int32.ofNat i + Int32.ofInt 1 = Int32.ofNat (i + 1) := (inc_ofNat i).symm
theorem k_ofNat {i : Nat} (h : i < 2 ^ 31) : (Int32.ofNat i).toInt = i := Int32.toInt_ofNat_small h
theorem k_lt {i j : Nat} (h : i < j) (hj : j < 2 ^ 31) : Int32.ofNat i < Int32.ofNat j := by
  rw [Int32.lt_iff_toInt_lt, k_ofNat (by omega), k_ofNat hj]; omega
theorem k_nlt {i j : Nat} (h : j ≤ i) (hi : i < 2 ^ 31) : ¬ Int32.ofNat i < Int32.ofNat j := by
  rw [Int32.lt_iff_toInt_lt, k_ofNat hi, k_ofNat (by omega)]; omega
theorem k_eqn {i j : Nat} (hi : i < 2 ^ 31) (hj : j < 2 ^ 31) : Int32.ofNat i = Int32.ofNat j ↔ i = j := by
  rw [← Int32.toInt_inj, k_ofNat hi, k_ofNat hj]; omega
theorem k_sub {i j : Nat} (h : j ≤ i) : Int32.ofNat i - Int32.ofNat j = Int32.ofNat (i - j) := by
  have e : i = (i - j) + j := by omega
  rw [e, Int32.ofNat_add]
  simp
/-- the low byte, signed -/
def lo8 (c : Int32) : Int32 := c.toInt8.toInt32
theorem nar_b8 (c : Int32) : RoadKit.nar .byte (lo8 c) = lo8 c := by simp [RoadKit.nar, lo8]
theorem fit_b8 (c : Int32) : fits .byte (.int (lo8 c)) = true := fits_nar_byte c
/-- a String: its coder, its bytes; all of it lies under N -/
def Str (Z : State) (h : Heap) (N : Nat) (a : Addr) (cd : Int32) (bs : List Int32) : Prop :=
  ∃ t : Addr, @LT.lt Nat _ a N ∧ @LT.lt Nat _ t N ∧ Exa Z h a "java/lang/String" ∧ Fld Z h a "java/lang/String" "coder" "B" (.int cd) ∧ Fld Z h a "java/lang/String" "value" "[B" (.ref t) ∧ Ay Z h t .byte (bs.map Value.int)
theorem Str.keep {Z : State} {h h' : Heap} {N : Nat} {a : Addr} {cd : Int32} {bs : List Int32} {ws : List Addr} (S : Str Z h N a cd bs) (K : Keep h h' ws) (q : ∀ z ∈ ws, N ≤ z) : Str Z h' N a cd bs := by
  obtain ⟨t, l1, l2, e, f, g, r⟩ := S
  have n1 : a ∉ ws := fun z => absurd l1 (Nat.not_lt.mpr (q a z))
  have n2 : t ∉ ws := fun z => absurd l2 (Nat.not_lt.mpr (q t z))
  exact ⟨t, l1, l2, e.keep K, f.keep K n1, g.keep K n1, r.keep K n2⟩
theorem Ay.ne {Z : State} {a0 : Array Value} {h : Heap} {a t : Addr} {C : String} {n : Nat} {ty : FieldType} {vs : List Value} (E : Exa Z h a C) (w : (Cond.instantiable C n).before a0 Z = true) (A : Ay Z h t ty vs) : a ≠ t := by
  obtain ⟨c, A, -⟩ := A
  exact ne_arr E w A
theorem Str.keepX {Z : State} {h h' : Heap} {N : Nat} {a z : Addr} {cd : Int32} {bs : List Int32} {C : String} {n : Nat} {a0 : Array Value} (S : Str Z h N a cd bs) (K : Keep h h' [z]) (E : Exa Z h z C) (w : (Cond.instantiable C n).before a0 Z = true) (hn : "java/lang/String" ≠ C) : Str Z h' N a cd bs := by
  obtain ⟨t, l1, l2, e, f, g, r⟩ := S
  have n1 : a ∉ [z] := ninS (ne_exa e E hn) nin0
  have n2 : t ∉ [z] := ninS (Ne.symm (Ay.ne E w r)) nin0
  exact ⟨t, l1, l2, e.keep K, f.keep K n1, g.keep K n1, r.keep K n2⟩
theorem Str.ext {Z : State} {h h' : Heap} {N : Nat} {a : Addr} {cd : Int32} {bs : List Int32} (S : Str Z h N a cd bs) (E : Ext h h') : Str Z h' N a cd bs := S.keep ((Keep.refl h []).ext E) (fun _ q => nomatch q)
theorem Str.mono {Z : State} {h : Heap} {N N' : Nat} {a : Addr} {cd : Int32} {bs : List Int32} (S : Str Z h N a cd bs) (q : N ≤ N') : Str Z h N' a cd bs := by
  obtain ⟨t, l1, l2, r⟩ := S; exact ⟨t, Nat.lt_of_lt_of_le l1 q, Nat.lt_of_lt_of_le l2 q, r⟩
theorem Str.exa {Z : State} {h : Heap} {N : Nat} {a : Addr} {cd : Int32} {bs : List Int32} (S : Str Z h N a cd bs) : Exa Z h a "java/lang/String" := by obtain ⟨t, l1, l2, e, r⟩ := S; exact e
theorem Str.lt {Z : State} {h : Heap} {N : Nat} {a : Addr} {cd : Int32} {bs : List Int32} (S : Str Z h N a cd bs) : @LT.lt Nat _ a N := by obtain ⟨t, l1, r⟩ := S; exact l1
theorem Str.len {Z : State} {h : Heap} {N : Nat} {a : Addr} {cd : Int32} {bs : List Int32} (S : Str Z h N a cd bs) : bs.length < 2 ^ 31 := by obtain ⟨t, l1, l2, e, f, g, A⟩ := S; simpa using A.len
theorem k_fill (cs : List Int32) (f : Int32 → Int32) (i : Nat) (hi : i < cs.length) :
    (((cs.take i).map (fun c => Value.int (f c)) ++ List.replicate (cs.length - i) (Value.int 0)).set i (.int (f cs[i]))) = (cs.take (i + 1)).map (fun c => Value.int (f c)) ++ List.replicate (cs.length - (i + 1)) (Value.int 0) := by
  have e1 : ((cs.take i).map (fun c => Value.int (f c))).length = i := by simp; omega
  have e2 : cs.length - i = (cs.length - (i + 1)) + 1 := by omega
  rw [e2, List.replicate_succ, List.take_succ_eq_append_getElem hi, List.map_append]
  generalize (cs.take i).map (fun c => Value.int (f c)) = P at e1
  rw [List.set_append_right _ _ (by omega)]
  simp [e1]
/-- a String that is read -/
def StrV (Z : State) (h : Heap) (a : Addr) (cd : Int32) (bs : List Int32) : Prop :=
  ∃ t, Exa Z h a "java/lang/String" ∧ Fld Z h a "java/lang/String" "coder" "B" (.int cd) ∧ Fld Z h a "java/lang/String" "value" "[B" (.ref t) ∧ Ay Z h t .byte (bs.map Value.int)
theorem StrV.op {Z : State} {h : Heap} {a : Addr} {cd : Int32} {bs : List Int32} (S : StrV Z h a cd bs) : ∃ t, Exa Z h a "java/lang/String" ∧ Fld Z h a "java/lang/String" "coder" "B" (.int cd) ∧ Fld Z h a "java/lang/String" "value" "[B" (.ref t) ∧ Ay Z h t .byte (bs.map Value.int) := S
theorem Str.v {Z : State} {h : Heap} {N : Nat} {a : Addr} {cd : Int32} {bs : List Int32} (S : Str Z h N a cd bs) : StrV Z h a cd bs := by obtain ⟨t, -, -, r⟩ := S; exact ⟨t, r⟩
theorem Fld.uniq {Z : State} {h : Heap} {a : Addr} {C n d : String} {v w : Value} (F : Fld Z h a C n d v) (G : Fld Z h a C n d w) : v = w := by
  rcases Classical.em (v = w) with q | q
  · exact q
  · exact absurd rfl (F.ne G q)
theorem Ay.uniq {Z : State} {h : Heap} {a : Addr} {ty ty' : FieldType} {vs us : List Value} (F : Ay Z h a ty vs) (G : Ay Z h a ty' us) : vs = us := by
  obtain ⟨c, A, e, -⟩ := F
  obtain ⟨c', A', e', -⟩ := G
  cases A.1.symm.trans A'.1
  exact e.symm.trans e'
theorem StrV.uniq {Z : State} {h : Heap} {a : Addr} {cd cd' : Int32} {bs bs' : List Int32} (S : StrV Z h a cd bs) (S' : StrV Z h a cd' bs') : bs = bs' := by
  obtain ⟨t, -, -, f, A⟩ := S
  obtain ⟨t', -, -, f', A'⟩ := S'
  cases Value.ref.inj (Fld.uniq f f')
  have := A.uniq A'
  exact (List.map_inj_right (fun a b q => Value.int.inj q)).mp this
theorem StrV.len {Z : State} {h : Heap} {a : Addr} {cd : Int32} {bs : List Int32} (S : StrV Z h a cd bs) : bs.length < 2 ^ 31 := by obtain ⟨t, -, -, -, A⟩ := S; simpa using A.len
theorem k_shr0 (x : Int32) : x >>> ((0 : Int32) &&& 31) = x := by
  have : ((0 : Int32) &&& 31) = 0 := by decide
  rw [this]
  apply Int32.toBitVec_inj.mp
  simp
/-- an object of the class C (below Object alone) is none of K -/
theorem k_not {Z : State} {a0 : Array Value} {C K O : String} {n : Nat} (w : (Cond.superclass C O).before a0 Z = true) (wo : (Cond.noSuperclass O).before a0 Z = true) (wk : (Cond.instantiable K n).before a0 Z = true) (h1 : C ≠ K) (h2 : O ≠ K) : ∃ c t, Z.vm.findClass C = some c ∧ Z.vm.findClass K = some t ∧ Z.vm.assignable c t = false := by
  obtain ⟨t, k', g0, g2, g5, hi⟩ : ∃ t k', Z.vm.findClass K = some t ∧ Z.vm.classes[t]? = some k' ∧ k'.kind = .ordinary ∧ k'.isInterface = false := by
    obtain ⟨t, k', g1, g2, g3, g4, -⟩ := Cond.instantiable_spec wk
    exact ⟨t, k', g1, g2, g3, by simpa using (Bool.or_eq_false_iff.mp g4).1⟩
  obtain ⟨co, ko, o1, o2, o3, -, -⟩ := Cond.noSuperclass_spec wo
  obtain ⟨c, h0⟩ := found_sup w
  obtain ⟨p, k, kp, q1, q2, q3, q4, q5, -, q7⟩ := Cond.superclass_spec h0 w
  cases o1.symm.trans q1
  have ne := ids_ne h0 g0 h1
  have neo := ids_ne o1 g0 h2
  have no : ∀ fuel, Z.vm.isSubclassAux fuel co t = false := fun fuel => by
    cases fuel with
    | zero => rfl
    | succ f => simp [Vm.isSubclassAux, neo, o2, o3]
  have nc : ∀ fuel, Z.vm.isSubclassAux fuel c t = false := fun fuel => by
    cases fuel with
    | zero => rfl
    | succ f => simp [Vm.isSubclassAux, ne, q2, q4, no]
  refine ⟨c, t, h0, g0, ?_⟩
  show Z.vm.assignableAux (255 + 1) c t = false
  simp [Vm.assignableAux, ne, q2, g2, q5, g5, hi, Vm.isSubclass, nc]
theorem k_nn {i : Nat} (h : i < 2 ^ 31) : ¬ Int32.ofNat i < 0 := (i32_nat h).2
theorem k_ne0 {i : Nat} (h : 0 < i) (hi : i < 2 ^ 31) : ¬ Int32.ofNat i = 0 := fun q => by
  have := (k_eqn hi (by decide)).mp (show Int32.ofNat i = Int32.ofNat 0 from q)
  omega
theorem k_add (i j : Nat) : Int32.ofNat i + Int32.ofNat j = Int32.ofNat (i + j) := (Int32.ofNat_add i j).symm
theorem k_min {i j : Nat} (h : j ≤ i) (hi : i < 2 ^ 31) : (if Int32.ofNat j < Int32.ofNat i then Int32.ofNat j else Int32.ofNat i) = Int32.ofNat j := by
  rcases Nat.lt_or_ge j i with q | q
  · rw [if_pos (k_lt q hi)]
  · have : i = j := by omega
    subst this
    split <;> rfl
abbrev HW (Z : State) (a0 : Array Value) : Prop := ∀ d ∈ tables_1, d.before a0 Z = true
theorem w0 {Z : State} {a0 : Array Value} (hw : HW Z a0) : ((Jvm.Cond.arrayClass Jvm.ClassFile.FieldType.char)).before a0 Z = true := hw _ (List.mem_of_getElem? (i := 0) rfl)
theorem w1 {Z : State} {a0 : Array Value} (hw : HW Z a0) : ((Jvm.Cond.classLink "com/example/ajar/ajar/compile/LiteralIndividualPinLaw" (7 : Nat) "com/example/ajar/ajar/compile/Literal")).before a0 Z = true := hw _ (List.mem_of_getElem? (i := 1) rfl)
theorem w2 {Z : State} {a0 : Array Value} (hw : HW Z a0) : ((Jvm.Cond.instantiable "com/example/ajar/ajar/compile/Literal" (2 : Nat))).before a0 Z = true := hw _ (List.mem_of_getElem? (i := 2) rfl)
theorem w3 {Z : State} {a0 : Array Value} (hw : HW Z a0) : ((Jvm.Cond.initialized "com/example/ajar/ajar/compile/Literal")).before a0 Z = true := hw _ (List.mem_of_getElem? (i := 3) rfl)
theorem w4 {Z : State} {a0 : Array Value} (hw : HW Z a0) : ((Jvm.Cond.classLink "com/example/ajar/ajar/compile/LiteralIndividualPinLaw" (9 : Nat) "java/lang/String")).before a0 Z = true := hw _ (List.mem_of_getElem? (i := 4) rfl)
theorem w5 {Z : State} {a0 : Array Value} (hw : HW Z a0) : ((Jvm.Cond.instantiable "java/lang/String" (4 : Nat))).before a0 Z = true := hw _ (List.mem_of_getElem? (i := 5) rfl)
theorem w6 {Z : State} {a0 : Array Value} (hw : HW Z a0) : ((Jvm.Cond.initialized "java/lang/String")).before a0 Z = true := hw _ (List.mem_of_getElem? (i := 6) rfl)
theorem w7 {Z : State} {a0 : Array Value} (hw : HW Z a0) : ((Jvm.Cond.methodLink "com/example/ajar/ajar/compile/LiteralIndividualPinLaw" (11 : Nat) ({ cls := "java/lang/String", name := "<init>", desc := "([C)V" } : Jvm.MethodName))).before a0 Z = true := hw _ (List.mem_of_getElem? (i := 7) rfl)
theorem w8 {Z : State} {a0 : Array Value} (hw : HW Z a0) : ((Jvm.Cond.instanceMethod ({ cls := "java/lang/String", name := "<init>", desc := "([C)V" } : Jvm.MethodName))).before a0 Z = true := hw _ (List.mem_of_getElem? (i := 8) rfl)
theorem w9 {Z : State} {a0 : Array Value} (hw : HW Z a0) : ((Jvm.Cond.code ({ cls := "java/lang/String", name := "<init>", desc := "([C)V" } : Jvm.MethodName) jdk_42_method_3_code (2 : Nat) (Option.none : Option Jvm.ClassFile.FieldType))).before a0 Z = true := hw _ (List.mem_of_getElem? (i := 9) rfl)
theorem w10 {Z : State} {a0 : Array Value} (hw : HW Z a0) : ((Jvm.Cond.methodLink "java/lang/String" (27 : Nat) ({ cls := "java/lang/String", name := "<init>", desc := "([CIILjava/lang/Void;)V" } : Jvm.MethodName))).before a0 Z = true := hw _ (List.mem_of_getElem? (i := 10) rfl)
theorem w11 {Z : State} {a0 : Array Value} (hw : HW Z a0) : ((Jvm.Cond.instanceMethod ({ cls := "java/lang/String", name := "<init>", desc := "([CIILjava/lang/Void;)V" } : Jvm.MethodName))).before a0 Z = true := hw _ (List.mem_of_getElem? (i := 11) rfl)
theorem w13 {Z : State} {a0 : Array Value} (hw : HW Z a0) : ((Jvm.Cond.code ({ cls := "java/lang/String", name := "<init>", desc := "([CIILjava/lang/Void;)V" } : Jvm.MethodName) jdk_42_method_149_code (6 : Nat) (Option.none : Option Jvm.ClassFile.FieldType))).before a0 Z = true := hw _ (List.mem_of_getElem? (i := 13) rfl)
theorem w14 {Z : State} {a0 : Array Value} (hw : HW Z a0) : ((Jvm.Cond.methodLink "java/lang/String" (1 : Nat) ({ cls := "java/lang/Object", name := "<init>", desc := "()V" } : Jvm.MethodName))).before a0 Z = true := hw _ (List.mem_of_getElem? (i := 14) rfl)
theorem w15 {Z : State} {a0 : Array Value} (hw : HW Z a0) : ((Jvm.Cond.instanceMethod ({ cls := "java/lang/Object", name := "<init>", desc := "()V" } : Jvm.MethodName))).before a0 Z = true := hw _ (List.mem_of_getElem? (i := 15) rfl)
theorem w16 {Z : State} {a0 : Array Value} (hw : HW Z a0) : ((Jvm.Cond.code ({ cls := "java/lang/Object", name := "<init>", desc := "()V" } : Jvm.MethodName) object_method_1_code (1 : Nat) (Option.none : Option Jvm.ClassFile.FieldType))).before a0 Z = true := hw _ (List.mem_of_getElem? (i := 16) rfl)
theorem w17 {Z : State} {a0 : Array Value} (hw : HW Z a0) : ((Jvm.Cond.fieldLink "java/lang/String" (38 : Nat) "java/lang/String" "COMPACT_STRINGS" "Z")).before a0 Z = true := hw _ (List.mem_of_getElem? (i := 17) rfl)
theorem w18 {Z : State} {a0 : Array Value} (hw : HW Z a0) : ((Jvm.Cond.methodLink "java/lang/String" (177 : Nat) ({ cls := "java/lang/StringUTF16", name := "compress", desc := "([CII)[B" } : Jvm.MethodName))).before a0 Z = true := hw _ (List.mem_of_getElem? (i := 18) rfl)
theorem w19 {Z : State} {a0 : Array Value} (hw : HW Z a0) : ((Jvm.Cond.static ({ cls := "java/lang/StringUTF16", name := "compress", desc := "([CII)[B" } : Jvm.MethodName))).before a0 Z = true := hw _ (List.mem_of_getElem? (i := 19) rfl)
theorem w20 {Z : State} {a0 : Array Value} (hw : HW Z a0) : ((Jvm.Cond.initialized "java/lang/StringUTF16")).before a0 Z = true := hw _ (List.mem_of_getElem? (i := 20) rfl)
theorem w21 {Z : State} {a0 : Array Value} (hw : HW Z a0) : ((Jvm.Cond.code ({ cls := "java/lang/StringUTF16", name := "compress", desc := "([CII)[B" } : Jvm.MethodName) jdk_52_method_16_code (6 : Nat) (Option.some (Jvm.ClassFile.FieldType.array Jvm.ClassFile.FieldType.byte)))).before a0 Z = true := hw _ (List.mem_of_getElem? (i := 21) rfl)
theorem w22 {Z : State} {a0 : Array Value} (hw : HW Z a0) : ((Jvm.Cond.arrayClass Jvm.ClassFile.FieldType.byte)).before a0 Z = true := hw _ (List.mem_of_getElem? (i := 22) rfl)
theorem w23 {Z : State} {a0 : Array Value} (hw : HW Z a0) : ((Jvm.Cond.methodLink "java/lang/StringUTF16" (115 : Nat) ({ cls := "java/lang/StringUTF16", name := "compress", desc := "([CI[BII)I" } : Jvm.MethodName))).before a0 Z = true := hw _ (List.mem_of_getElem? (i := 23) rfl)
theorem w24 {Z : State} {a0 : Array Value} (hw : HW Z a0) : ((Jvm.Cond.static ({ cls := "java/lang/StringUTF16", name := "compress", desc := "([CI[BII)I" } : Jvm.MethodName))).before a0 Z = true := hw _ (List.mem_of_getElem? (i := 24) rfl)
theorem w25 {Z : State} {a0 : Array Value} (hw : HW Z a0) : ((Jvm.Cond.code ({ cls := "java/lang/StringUTF16", name := "compress", desc := "([CI[BII)I" } : Jvm.MethodName) jdk_52_method_21_code (7 : Nat) (Option.some Jvm.ClassFile.FieldType.int))).before a0 Z = true := hw _ (List.mem_of_getElem? (i := 25) rfl)
theorem w26 {Z : State} {a0 : Array Value} (hw : HW Z a0) : ((Jvm.Cond.methodLink "java/lang/String" (47 : Nat) ({ cls := "java/lang/StringUTF16", name := "coderFromArrayLen", desc := "([BI)B" } : Jvm.MethodName))).before a0 Z = true := hw _ (List.mem_of_getElem? (i := 26) rfl)
theorem w27 {Z : State} {a0 : Array Value} (hw : HW Z a0) : ((Jvm.Cond.static ({ cls := "java/lang/StringUTF16", name := "coderFromArrayLen", desc := "([BI)B" } : Jvm.MethodName))).before a0 Z = true := hw _ (List.mem_of_getElem? (i := 27) rfl)
theorem w28 {Z : State} {a0 : Array Value} (hw : HW Z a0) : ((Jvm.Cond.code ({ cls := "java/lang/StringUTF16", name := "coderFromArrayLen", desc := "([BI)B" } : Jvm.MethodName) jdk_52_method_15_code (2 : Nat) (Option.some Jvm.ClassFile.FieldType.byte))).before a0 Z = true := hw _ (List.mem_of_getElem? (i := 28) rfl)
theorem w29 {Z : State} {a0 : Array Value} (hw : HW Z a0) : ((Jvm.Cond.fieldLink "java/lang/String" (15 : Nat) "java/lang/String" "coder" "B")).before a0 Z = true := hw _ (List.mem_of_getElem? (i := 29) rfl)
theorem w30 {Z : State} {a0 : Array Value} (hw : HW Z a0) : ((Jvm.Cond.laysFinal "java/lang/String" "java/lang/String" "coder" "B")).before a0 Z = true := hw _ (List.mem_of_getElem? (i := 30) rfl)
theorem w31 {Z : State} {a0 : Array Value} (hw : HW Z a0) : ((Jvm.Cond.fieldLink "java/lang/String" (9 : Nat) "java/lang/String" "value" "[B")).before a0 Z = true := hw _ (List.mem_of_getElem? (i := 31) rfl)
theorem w32 {Z : State} {a0 : Array Value} (hw : HW Z a0) : ((Jvm.Cond.laysFinal "java/lang/String" "java/lang/String" "value" "[B")).before a0 Z = true := hw _ (List.mem_of_getElem? (i := 32) rfl)
theorem w33 {Z : State} {a0 : Array Value} (hw : HW Z a0) : ((Jvm.Cond.methodLink "com/example/ajar/ajar/compile/LiteralIndividualPinLaw" (14 : Nat) ({ cls := "com/example/ajar/ajar/compile/Literal", name := "<init>", desc := "(Ljava/lang/String;Z)V" } : Jvm.MethodName))).before a0 Z = true := hw _ (List.mem_of_getElem? (i := 33) rfl)
theorem w34 {Z : State} {a0 : Array Value} (hw : HW Z a0) : ((Jvm.Cond.instanceMethod ({ cls := "com/example/ajar/ajar/compile/Literal", name := "<init>", desc := "(Ljava/lang/String;Z)V" } : Jvm.MethodName))).before a0 Z = true := hw _ (List.mem_of_getElem? (i := 34) rfl)
theorem w35 {Z : State} {a0 : Array Value} (hw : HW Z a0) : ((Jvm.Cond.code ({ cls := "com/example/ajar/ajar/compile/Literal", name := "<init>", desc := "(Ljava/lang/String;Z)V" } : Jvm.MethodName) prog_5_method_1_code (3 : Nat) (Option.none : Option Jvm.ClassFile.FieldType))).before a0 Z = true := hw _ (List.mem_of_getElem? (i := 35) rfl)
theorem w36 {Z : State} {a0 : Array Value} (hw : HW Z a0) : ((Jvm.Cond.methodLink "com/example/ajar/ajar/compile/Literal" (1 : Nat) ({ cls := "java/lang/Record", name := "<init>", desc := "()V" } : Jvm.MethodName))).before a0 Z = true := hw _ (List.mem_of_getElem? (i := 36) rfl)
theorem w37 {Z : State} {a0 : Array Value} (hw : HW Z a0) : ((Jvm.Cond.instanceMethod ({ cls := "java/lang/Record", name := "<init>", desc := "()V" } : Jvm.MethodName))).before a0 Z = true := hw _ (List.mem_of_getElem? (i := 37) rfl)
theorem w39 {Z : State} {a0 : Array Value} (hw : HW Z a0) : ((Jvm.Cond.initialized "java/lang/Record")).before a0 Z = true := hw _ (List.mem_of_getElem? (i := 39) rfl)
theorem w40 {Z : State} {a0 : Array Value} (hw : HW Z a0) : ((Jvm.Cond.code ({ cls := "java/lang/Record", name := "<init>", desc := "()V" } : Jvm.MethodName) jdk_30_method_1_code (1 : Nat) (Option.none : Option Jvm.ClassFile.FieldType))).before a0 Z = true := hw _ (List.mem_of_getElem? (i := 40) rfl)
theorem w41 {Z : State} {a0 : Array Value} (hw : HW Z a0) : ((Jvm.Cond.methodLink "java/lang/Record" (1 : Nat) ({ cls := "java/lang/Object", name := "<init>", desc := "()V" } : Jvm.MethodName))).before a0 Z = true := hw _ (List.mem_of_getElem? (i := 41) rfl)
theorem w42 {Z : State} {a0 : Array Value} (hw : HW Z a0) : ((Jvm.Cond.fieldLink "com/example/ajar/ajar/compile/Literal" (7 : Nat) "com/example/ajar/ajar/compile/Literal" "cls" "Ljava/lang/String;")).before a0 Z = true := hw _ (List.mem_of_getElem? (i := 42) rfl)
theorem w43 {Z : State} {a0 : Array Value} (hw : HW Z a0) : ((Jvm.Cond.laysFinal "com/example/ajar/ajar/compile/Literal" "com/example/ajar/ajar/compile/Literal" "cls" "Ljava/lang/String;")).before a0 Z = true := hw _ (List.mem_of_getElem? (i := 43) rfl)
theorem w44 {Z : State} {a0 : Array Value} (hw : HW Z a0) : ((Jvm.Cond.fieldLink "com/example/ajar/ajar/compile/Literal" (13 : Nat) "com/example/ajar/ajar/compile/Literal" "positive" "Z")).before a0 Z = true := hw _ (List.mem_of_getElem? (i := 44) rfl)
theorem w45 {Z : State} {a0 : Array Value} (hw : HW Z a0) : ((Jvm.Cond.laysFinal "com/example/ajar/ajar/compile/Literal" "com/example/ajar/ajar/compile/Literal" "positive" "Z")).before a0 Z = true := hw _ (List.mem_of_getElem? (i := 45) rfl)
theorem w46 {Z : State} {a0 : Array Value} (hw : HW Z a0) : ((Jvm.Cond.methodLink "com/example/ajar/ajar/compile/LiteralIndividualPinLaw" (17 : Nat) ({ cls := "com/example/ajar/ajar/compile/Literal", name := "individual", desc := "()Ljava/lang/String;" } : Jvm.MethodName))).before a0 Z = true := hw _ (List.mem_of_getElem? (i := 46) rfl)
theorem w47 {Z : State} {a0 : Array Value} (hw : HW Z a0) : ((Jvm.Cond.declares ({ cls := "com/example/ajar/ajar/compile/Literal", name := "individual", desc := "()Ljava/lang/String;" } : Jvm.MethodName))).before a0 Z = true := hw _ (List.mem_of_getElem? (i := 47) rfl)
theorem w48 {Z : State} {a0 : Array Value} (hw : HW Z a0) : ((Jvm.Cond.instanceMethod ({ cls := "com/example/ajar/ajar/compile/Literal", name := "individual", desc := "()Ljava/lang/String;" } : Jvm.MethodName))).before a0 Z = true := hw _ (List.mem_of_getElem? (i := 48) rfl)
theorem w49 {Z : State} {a0 : Array Value} (hw : HW Z a0) : ((Jvm.Cond.selects "com/example/ajar/ajar/compile/Literal" ({ cls := "com/example/ajar/ajar/compile/Literal", name := "individual", desc := "()Ljava/lang/String;" } : Jvm.MethodName) ({ cls := "com/example/ajar/ajar/compile/Literal", name := "individual", desc := "()Ljava/lang/String;" } : Jvm.MethodName))).before a0 Z = true := hw _ (List.mem_of_getElem? (i := 49) rfl)
theorem w50 {Z : State} {a0 : Array Value} (hw : HW Z a0) : ((Jvm.Cond.code ({ cls := "com/example/ajar/ajar/compile/Literal", name := "individual", desc := "()Ljava/lang/String;" } : Jvm.MethodName) prog_5_method_7_code (1 : Nat) (Option.some (Jvm.ClassFile.FieldType.object "java/lang/String")))).before a0 Z = true := hw _ (List.mem_of_getElem? (i := 50) rfl)
theorem w51 {Z : State} {a0 : Array Value} (hw : HW Z a0) : ((Jvm.Cond.stringLink "com/example/ajar/ajar/compile/Literal" (40 : Nat) "nom(")).before a0 Z = true := hw _ (List.mem_of_getElem? (i := 51) rfl)
theorem w52 {Z : State} {a0 : Array Value} (hw : HW Z a0) : ((Jvm.Cond.soleField "java/lang/String" "value")).before a0 Z = true := hw _ (List.mem_of_getElem? (i := 52) rfl)
theorem w53 {Z : State} {a0 : Array Value} (hw : HW Z a0) : ((Jvm.Cond.soleField "java/lang/String" "coder")).before a0 Z = true := hw _ (List.mem_of_getElem? (i := 53) rfl)
theorem w54 {Z : State} {a0 : Array Value} (hw : HW Z a0) : ((Jvm.Cond.methodLink "com/example/ajar/ajar/compile/Literal" (42 : Nat) ({ cls := "java/lang/String", name := "length", desc := "()I" } : Jvm.MethodName))).before a0 Z = true := hw _ (List.mem_of_getElem? (i := 54) rfl)
theorem w55 {Z : State} {a0 : Array Value} (hw : HW Z a0) : ((Jvm.Cond.declares ({ cls := "java/lang/String", name := "length", desc := "()I" } : Jvm.MethodName))).before a0 Z = true := hw _ (List.mem_of_getElem? (i := 55) rfl)
theorem w56 {Z : State} {a0 : Array Value} (hw : HW Z a0) : ((Jvm.Cond.instanceMethod ({ cls := "java/lang/String", name := "length", desc := "()I" } : Jvm.MethodName))).before a0 Z = true := hw _ (List.mem_of_getElem? (i := 56) rfl)
theorem w57 {Z : State} {a0 : Array Value} (hw : HW Z a0) : ((Jvm.Cond.selects "java/lang/String" ({ cls := "java/lang/String", name := "length", desc := "()I" } : Jvm.MethodName) ({ cls := "java/lang/String", name := "length", desc := "()I" } : Jvm.MethodName))).before a0 Z = true := hw _ (List.mem_of_getElem? (i := 57) rfl)
theorem w58 {Z : State} {a0 : Array Value} (hw : HW Z a0) : ((Jvm.Cond.code ({ cls := "java/lang/String", name := "length", desc := "()I" } : Jvm.MethodName) jdk_42_method_54_code (1 : Nat) (Option.some Jvm.ClassFile.FieldType.int))).before a0 Z = true := hw _ (List.mem_of_getElem? (i := 58) rfl)
theorem w59 {Z : State} {a0 : Array Value} (hw : HW Z a0) : ((Jvm.Cond.methodLink "java/lang/String" (335 : Nat) ({ cls := "java/lang/String", name := "coder", desc := "()B" } : Jvm.MethodName))).before a0 Z = true := hw _ (List.mem_of_getElem? (i := 59) rfl)
theorem w60 {Z : State} {a0 : Array Value} (hw : HW Z a0) : ((Jvm.Cond.declares ({ cls := "java/lang/String", name := "coder", desc := "()B" } : Jvm.MethodName))).before a0 Z = true := hw _ (List.mem_of_getElem? (i := 60) rfl)
theorem w61 {Z : State} {a0 : Array Value} (hw : HW Z a0) : ((Jvm.Cond.instanceMethod ({ cls := "java/lang/String", name := "coder", desc := "()B" } : Jvm.MethodName))).before a0 Z = true := hw _ (List.mem_of_getElem? (i := 61) rfl)
theorem w62 {Z : State} {a0 : Array Value} (hw : HW Z a0) : ((Jvm.Cond.selects "java/lang/String" ({ cls := "java/lang/String", name := "coder", desc := "()B" } : Jvm.MethodName) ({ cls := "java/lang/String", name := "coder", desc := "()B" } : Jvm.MethodName))).before a0 Z = true := hw _ (List.mem_of_getElem? (i := 62) rfl)
theorem w63 {Z : State} {a0 : Array Value} (hw : HW Z a0) : ((Jvm.Cond.code ({ cls := "java/lang/String", name := "coder", desc := "()B" } : Jvm.MethodName) jdk_42_method_152_code (1 : Nat) (Option.some Jvm.ClassFile.FieldType.byte))).before a0 Z = true := hw _ (List.mem_of_getElem? (i := 63) rfl)
theorem w64 {Z : State} {a0 : Array Value} (hw : HW Z a0) : ((Jvm.Cond.methodLink "com/example/ajar/ajar/compile/Literal" (46 : Nat) ({ cls := "java/lang/String", name := "substring", desc := "(II)Ljava/lang/String;" } : Jvm.MethodName))).before a0 Z = true := hw _ (List.mem_of_getElem? (i := 64) rfl)
theorem w65 {Z : State} {a0 : Array Value} (hw : HW Z a0) : ((Jvm.Cond.declares ({ cls := "java/lang/String", name := "substring", desc := "(II)Ljava/lang/String;" } : Jvm.MethodName))).before a0 Z = true := hw _ (List.mem_of_getElem? (i := 65) rfl)
theorem w66 {Z : State} {a0 : Array Value} (hw : HW Z a0) : ((Jvm.Cond.instanceMethod ({ cls := "java/lang/String", name := "substring", desc := "(II)Ljava/lang/String;" } : Jvm.MethodName))).before a0 Z = true := hw _ (List.mem_of_getElem? (i := 66) rfl)
theorem w67 {Z : State} {a0 : Array Value} (hw : HW Z a0) : ((Jvm.Cond.selects "java/lang/String" ({ cls := "java/lang/String", name := "substring", desc := "(II)Ljava/lang/String;" } : Jvm.MethodName) ({ cls := "java/lang/String", name := "substring", desc := "(II)Ljava/lang/String;" } : Jvm.MethodName))).before a0 Z = true := hw _ (List.mem_of_getElem? (i := 67) rfl)
theorem w68 {Z : State} {a0 : Array Value} (hw : HW Z a0) : ((Jvm.Cond.code ({ cls := "java/lang/String", name := "substring", desc := "(II)Ljava/lang/String;" } : Jvm.MethodName) jdk_42_method_92_code (5 : Nat) (Option.some (Jvm.ClassFile.FieldType.object "java/lang/String")))).before a0 Z = true := hw _ (List.mem_of_getElem? (i := 68) rfl)
theorem w69 {Z : State} {a0 : Array Value} (hw : HW Z a0) : ((Jvm.Cond.methodLink "java/lang/String" (505 : Nat) ({ cls := "java/lang/String", name := "length", desc := "()I" } : Jvm.MethodName))).before a0 Z = true := hw _ (List.mem_of_getElem? (i := 69) rfl)
theorem w70 {Z : State} {a0 : Array Value} (hw : HW Z a0) : ((Jvm.Cond.methodLink "java/lang/String" (521 : Nat) ({ cls := "java/lang/String", name := "checkBoundsBeginEnd", desc := "(III)V" } : Jvm.MethodName))).before a0 Z = true := hw _ (List.mem_of_getElem? (i := 70) rfl)
theorem w71 {Z : State} {a0 : Array Value} (hw : HW Z a0) : ((Jvm.Cond.static ({ cls := "java/lang/String", name := "checkBoundsBeginEnd", desc := "(III)V" } : Jvm.MethodName))).before a0 Z = true := hw _ (List.mem_of_getElem? (i := 71) rfl)
theorem w72 {Z : State} {a0 : Array Value} (hw : HW Z a0) : ((Jvm.Cond.code ({ cls := "java/lang/String", name := "checkBoundsBeginEnd", desc := "(III)V" } : Jvm.MethodName) jdk_42_method_158_code (3 : Nat) (Option.none : Option Jvm.ClassFile.FieldType))).before a0 Z = true := hw _ (List.mem_of_getElem? (i := 72) rfl)
theorem w73 {Z : State} {a0 : Array Value} (hw : HW Z a0) : ((Jvm.Cond.fieldLink "java/lang/String" (1053 : Nat) "jdk/internal/util/Preconditions" "SIOOBE_FORMATTER" "Ljava/util/function/BiFunction;")).before a0 Z = true := hw _ (List.mem_of_getElem? (i := 73) rfl)
theorem w74 {Z : State} {a0 : Array Value} (hw : HW Z a0) : ((Jvm.Cond.initialized "jdk/internal/util/Preconditions")).before a0 Z = true := hw _ (List.mem_of_getElem? (i := 74) rfl)
theorem w75 {Z : State} {a0 : Array Value} (hw : HW Z a0) : ((Jvm.Cond.methodLink "java/lang/String" (1062 : Nat) ({ cls := "jdk/internal/util/Preconditions", name := "checkFromToIndex", desc := "(IIILjava/util/function/BiFunction;)I" } : Jvm.MethodName))).before a0 Z = true := hw _ (List.mem_of_getElem? (i := 75) rfl)
theorem w76 {Z : State} {a0 : Array Value} (hw : HW Z a0) : ((Jvm.Cond.static ({ cls := "jdk/internal/util/Preconditions", name := "checkFromToIndex", desc := "(IIILjava/util/function/BiFunction;)I" } : Jvm.MethodName))).before a0 Z = true := hw _ (List.mem_of_getElem? (i := 76) rfl)
theorem w77 {Z : State} {a0 : Array Value} (hw : HW Z a0) : ((Jvm.Cond.code ({ cls := "jdk/internal/util/Preconditions", name := "checkFromToIndex", desc := "(IIILjava/util/function/BiFunction;)I" } : Jvm.MethodName) jdk_41_method_12_code (4 : Nat) (Option.some Jvm.ClassFile.FieldType.int))).before a0 Z = true := hw _ (List.mem_of_getElem? (i := 77) rfl)
theorem w78 {Z : State} {a0 : Array Value} (hw : HW Z a0) : ((Jvm.Cond.methodLink "java/lang/String" (492 : Nat) ({ cls := "java/lang/String", name := "isLatin1", desc := "()Z" } : Jvm.MethodName))).before a0 Z = true := hw _ (List.mem_of_getElem? (i := 78) rfl)
theorem w79 {Z : State} {a0 : Array Value} (hw : HW Z a0) : ((Jvm.Cond.declares ({ cls := "java/lang/String", name := "isLatin1", desc := "()Z" } : Jvm.MethodName))).before a0 Z = true := hw _ (List.mem_of_getElem? (i := 79) rfl)
theorem w80 {Z : State} {a0 : Array Value} (hw : HW Z a0) : ((Jvm.Cond.instanceMethod ({ cls := "java/lang/String", name := "isLatin1", desc := "()Z" } : Jvm.MethodName))).before a0 Z = true := hw _ (List.mem_of_getElem? (i := 80) rfl)
theorem w81 {Z : State} {a0 : Array Value} (hw : HW Z a0) : ((Jvm.Cond.selects "java/lang/String" ({ cls := "java/lang/String", name := "isLatin1", desc := "()Z" } : Jvm.MethodName) ({ cls := "java/lang/String", name := "isLatin1", desc := "()Z" } : Jvm.MethodName))).before a0 Z = true := hw _ (List.mem_of_getElem? (i := 81) rfl)
theorem w82 {Z : State} {a0 : Array Value} (hw : HW Z a0) : ((Jvm.Cond.code ({ cls := "java/lang/String", name := "isLatin1", desc := "()Z" } : Jvm.MethodName) jdk_42_method_154_code (1 : Nat) (Option.some Jvm.ClassFile.FieldType.boolean))).before a0 Z = true := hw _ (List.mem_of_getElem? (i := 82) rfl)
theorem w83 {Z : State} {a0 : Array Value} (hw : HW Z a0) : ((Jvm.Cond.methodLink "java/lang/String" (685 : Nat) ({ cls := "java/lang/StringLatin1", name := "newString", desc := "([BII)Ljava/lang/String;" } : Jvm.MethodName))).before a0 Z = true := hw _ (List.mem_of_getElem? (i := 83) rfl)
theorem w84 {Z : State} {a0 : Array Value} (hw : HW Z a0) : ((Jvm.Cond.static ({ cls := "java/lang/StringLatin1", name := "newString", desc := "([BII)Ljava/lang/String;" } : Jvm.MethodName))).before a0 Z = true := hw _ (List.mem_of_getElem? (i := 84) rfl)
theorem w85 {Z : State} {a0 : Array Value} (hw : HW Z a0) : ((Jvm.Cond.initialized "java/lang/StringLatin1")).before a0 Z = true := hw _ (List.mem_of_getElem? (i := 85) rfl)
theorem w86 {Z : State} {a0 : Array Value} (hw : HW Z a0) : ((Jvm.Cond.code ({ cls := "java/lang/StringLatin1", name := "newString", desc := "([BII)Ljava/lang/String;" } : Jvm.MethodName) jdk_43_method_47_code (3 : Nat) (Option.some (Jvm.ClassFile.FieldType.object "java/lang/String")))).before a0 Z = true := hw _ (List.mem_of_getElem? (i := 86) rfl)
theorem w87 {Z : State} {a0 : Array Value} (hw : HW Z a0) : ((Jvm.Cond.stringLink "java/lang/StringLatin1" (151 : Nat) "")).before a0 Z = true := hw _ (List.mem_of_getElem? (i := 87) rfl)
theorem w88 {Z : State} {a0 : Array Value} (hw : HW Z a0) : ((Jvm.Cond.methodLink "com/example/ajar/ajar/compile/LiteralIndividualPinLaw" (21 : Nat) ({ cls := "java/lang/String", name := "length", desc := "()I" } : Jvm.MethodName))).before a0 Z = true := hw _ (List.mem_of_getElem? (i := 88) rfl)
theorem w89 {Z : State} {a0 : Array Value} (hw : HW Z a0) : ((Jvm.Cond.stringLink "java/lang/String" (7 : Nat) "")).before a0 Z = true := hw _ (List.mem_of_getElem? (i := 89) rfl)
theorem w90 {Z : State} {a0 : Array Value} (hw : HW Z a0) : ((Jvm.Cond.methodLink "com/example/ajar/ajar/compile/LiteralIndividualPinLaw" (25 : Nat) ({ cls := "java/lang/String", name := "equals", desc := "(Ljava/lang/Object;)Z" } : Jvm.MethodName))).before a0 Z = true := hw _ (List.mem_of_getElem? (i := 90) rfl)
theorem w91 {Z : State} {a0 : Array Value} (hw : HW Z a0) : ((Jvm.Cond.declares ({ cls := "java/lang/String", name := "equals", desc := "(Ljava/lang/Object;)Z" } : Jvm.MethodName))).before a0 Z = true := hw _ (List.mem_of_getElem? (i := 91) rfl)
theorem w92 {Z : State} {a0 : Array Value} (hw : HW Z a0) : ((Jvm.Cond.instanceMethod ({ cls := "java/lang/String", name := "equals", desc := "(Ljava/lang/Object;)Z" } : Jvm.MethodName))).before a0 Z = true := hw _ (List.mem_of_getElem? (i := 92) rfl)
theorem w93 {Z : State} {a0 : Array Value} (hw : HW Z a0) : ((Jvm.Cond.selects "java/lang/String" ({ cls := "java/lang/String", name := "equals", desc := "(Ljava/lang/Object;)Z" } : Jvm.MethodName) ({ cls := "java/lang/String", name := "equals", desc := "(Ljava/lang/Object;)Z" } : Jvm.MethodName))).before a0 Z = true := hw _ (List.mem_of_getElem? (i := 93) rfl)
theorem w94 {Z : State} {a0 : Array Value} (hw : HW Z a0) : ((Jvm.Cond.code ({ cls := "java/lang/String", name := "equals", desc := "(Ljava/lang/Object;)Z" } : Jvm.MethodName) jdk_42_method_66_code (3 : Nat) (Option.some Jvm.ClassFile.FieldType.boolean))).before a0 Z = true := hw _ (List.mem_of_getElem? (i := 94) rfl)
theorem w95 {Z : State} {a0 : Array Value} (hw : HW Z a0) : ((Jvm.Cond.classLink "java/lang/String" (10 : Nat) "java/lang/String")).before a0 Z = true := hw _ (List.mem_of_getElem? (i := 95) rfl)
theorem w96 {Z : State} {a0 : Array Value} (hw : HW Z a0) : ((Jvm.Cond.methodLink "java/lang/String" (541 : Nat) ({ cls := "java/lang/StringLatin1", name := "equals", desc := "([B[B)Z" } : Jvm.MethodName))).before a0 Z = true := hw _ (List.mem_of_getElem? (i := 96) rfl)
theorem w97 {Z : State} {a0 : Array Value} (hw : HW Z a0) : ((Jvm.Cond.static ({ cls := "java/lang/StringLatin1", name := "equals", desc := "([B[B)Z" } : Jvm.MethodName))).before a0 Z = true := hw _ (List.mem_of_getElem? (i := 97) rfl)
theorem w98 {Z : State} {a0 : Array Value} (hw : HW Z a0) : ((Jvm.Cond.code ({ cls := "java/lang/StringLatin1", name := "equals", desc := "([B[B)Z" } : Jvm.MethodName) jdk_43_method_13_code (3 : Nat) (Option.some Jvm.ClassFile.FieldType.boolean))).before a0 Z = true := hw _ (List.mem_of_getElem? (i := 98) rfl)
theorem w99 {Z : State} {a0 : Array Value} (hw : HW Z a0) : ((Jvm.Cond.classLink "java/lang/StringLatin1" (1 : Nat) "java/lang/String")).before a0 Z = true := hw _ (List.mem_of_getElem? (i := 99) rfl)
theorem w100 {Z : State} {a0 : Array Value} (hw : HW Z a0) : ((Jvm.Cond.methodLink "java/lang/StringLatin1" (232 : Nat) ({ cls := "java/util/Arrays", name := "copyOfRange", desc := "([BII)[B" } : Jvm.MethodName))).before a0 Z = true := hw _ (List.mem_of_getElem? (i := 100) rfl)
theorem w101 {Z : State} {a0 : Array Value} (hw : HW Z a0) : ((Jvm.Cond.static ({ cls := "java/util/Arrays", name := "copyOfRange", desc := "([BII)[B" } : Jvm.MethodName))).before a0 Z = true := hw _ (List.mem_of_getElem? (i := 101) rfl)
theorem w102 {Z : State} {a0 : Array Value} (hw : HW Z a0) : ((Jvm.Cond.initialized "java/util/Arrays")).before a0 Z = true := hw _ (List.mem_of_getElem? (i := 102) rfl)
theorem w103 {Z : State} {a0 : Array Value} (hw : HW Z a0) : ((Jvm.Cond.code ({ cls := "java/util/Arrays", name := "copyOfRange", desc := "([BII)[B" } : Jvm.MethodName) jdk_65_method_132_code (3 : Nat) (Option.some (Jvm.ClassFile.FieldType.array Jvm.ClassFile.FieldType.byte)))).before a0 Z = true := hw _ (List.mem_of_getElem? (i := 103) rfl)
theorem w104 {Z : State} {a0 : Array Value} (hw : HW Z a0) : ((Jvm.Cond.methodLink "java/util/Arrays" (339 : Nat) ({ cls := "java/util/Arrays", name := "copyOfRangeByte", desc := "([BII)[B" } : Jvm.MethodName))).before a0 Z = true := hw _ (List.mem_of_getElem? (i := 104) rfl)
theorem w105 {Z : State} {a0 : Array Value} (hw : HW Z a0) : ((Jvm.Cond.static ({ cls := "java/util/Arrays", name := "copyOfRangeByte", desc := "([BII)[B" } : Jvm.MethodName))).before a0 Z = true := hw _ (List.mem_of_getElem? (i := 105) rfl)
theorem w106 {Z : State} {a0 : Array Value} (hw : HW Z a0) : ((Jvm.Cond.code ({ cls := "java/util/Arrays", name := "copyOfRangeByte", desc := "([BII)[B" } : Jvm.MethodName) jdk_65_method_133_code (5 : Nat) (Option.some (Jvm.ClassFile.FieldType.array Jvm.ClassFile.FieldType.byte)))).before a0 Z = true := hw _ (List.mem_of_getElem? (i := 106) rfl)
theorem w107 {Z : State} {a0 : Array Value} (hw : HW Z a0) : ((Jvm.Cond.methodLink "java/util/Arrays" (343 : Nat) ({ cls := "java/util/Arrays", name := "checkLength", desc := "(II)V" } : Jvm.MethodName))).before a0 Z = true := hw _ (List.mem_of_getElem? (i := 107) rfl)
theorem w108 {Z : State} {a0 : Array Value} (hw : HW Z a0) : ((Jvm.Cond.static ({ cls := "java/util/Arrays", name := "checkLength", desc := "(II)V" } : Jvm.MethodName))).before a0 Z = true := hw _ (List.mem_of_getElem? (i := 108) rfl)
theorem w109 {Z : State} {a0 : Array Value} (hw : HW Z a0) : ((Jvm.Cond.code ({ cls := "java/util/Arrays", name := "checkLength", desc := "(II)V" } : Jvm.MethodName) jdk_65_method_131_code (2 : Nat) (Option.none : Option Jvm.ClassFile.FieldType))).before a0 Z = true := hw _ (List.mem_of_getElem? (i := 109) rfl)
theorem w110 {Z : State} {a0 : Array Value} (hw : HW Z a0) : ((Jvm.Cond.methodLink "java/util/Arrays" (304 : Nat) ({ cls := "java/lang/Math", name := "min", desc := "(II)I" } : Jvm.MethodName))).before a0 Z = true := hw _ (List.mem_of_getElem? (i := 110) rfl)
theorem w111 {Z : State} {a0 : Array Value} (hw : HW Z a0) : ((Jvm.Cond.static ({ cls := "java/lang/Math", name := "min", desc := "(II)I" } : Jvm.MethodName))).before a0 Z = true := hw _ (List.mem_of_getElem? (i := 111) rfl)
theorem w112 {Z : State} {a0 : Array Value} (hw : HW Z a0) : ((Jvm.Cond.initialized "java/lang/Math")).before a0 Z = true := hw _ (List.mem_of_getElem? (i := 112) rfl)
theorem w113 {Z : State} {a0 : Array Value} (hw : HW Z a0) : ((Jvm.Cond.code ({ cls := "java/lang/Math", name := "min", desc := "(II)I" } : Jvm.MethodName) jdk_29_method_69_code (2 : Nat) (Option.some Jvm.ClassFile.FieldType.int))).before a0 Z = true := hw _ (List.mem_of_getElem? (i := 113) rfl)
theorem w114 {Z : State} {a0 : Array Value} (hw : HW Z a0) : ((Jvm.Cond.methodLink "java/util/Arrays" (150 : Nat) ({ cls := "java/lang/System", name := "arraycopy", desc := "(Ljava/lang/Object;ILjava/lang/Object;II)V" } : Jvm.MethodName))).before a0 Z = true := hw _ (List.mem_of_getElem? (i := 114) rfl)
theorem w115 {Z : State} {a0 : Array Value} (hw : HW Z a0) : ((Jvm.Cond.static ({ cls := "java/lang/System", name := "arraycopy", desc := "(Ljava/lang/Object;ILjava/lang/Object;II)V" } : Jvm.MethodName))).before a0 Z = true := hw _ (List.mem_of_getElem? (i := 115) rfl)
theorem w116 {Z : State} {a0 : Array Value} (hw : HW Z a0) : ((Jvm.Cond.initialized "java/lang/System")).before a0 Z = true := hw _ (List.mem_of_getElem? (i := 116) rfl)
theorem w117 {Z : State} {a0 : Array Value} (hw : HW Z a0) : ((Jvm.Cond.native ({ cls := "java/lang/System", name := "arraycopy", desc := "(Ljava/lang/Object;ILjava/lang/Object;II)V" } : Jvm.MethodName))).before a0 Z = true := hw _ (List.mem_of_getElem? (i := 117) rfl)
theorem w118 {Z : State} {a0 : Array Value} (hw : HW Z a0) : ((Jvm.Cond.methodLink "java/lang/StringLatin1" (112 : Nat) ({ cls := "java/lang/String", name := "<init>", desc := "([BB)V" } : Jvm.MethodName))).before a0 Z = true := hw _ (List.mem_of_getElem? (i := 118) rfl)
theorem w119 {Z : State} {a0 : Array Value} (hw : HW Z a0) : ((Jvm.Cond.instanceMethod ({ cls := "java/lang/String", name := "<init>", desc := "([BB)V" } : Jvm.MethodName))).before a0 Z = true := hw _ (List.mem_of_getElem? (i := 119) rfl)
theorem w120 {Z : State} {a0 : Array Value} (hw : HW Z a0) : ((Jvm.Cond.code ({ cls := "java/lang/String", name := "<init>", desc := "([BB)V" } : Jvm.MethodName) jdk_42_method_151_code (3 : Nat) (Option.none : Option Jvm.ClassFile.FieldType))).before a0 Z = true := hw _ (List.mem_of_getElem? (i := 120) rfl)
theorem pd0 : parseMethodDescriptor "([CI[BII)I" = some ⟨[(.array .char), .int, (.array .byte), .int, .int], some .int⟩ := by decide +kernel
theorem pd1 : parseMethodDescriptor "([CII)[B" = some ⟨[(.array .char), .int, .int], some (.array .byte)⟩ := by decide +kernel
theorem pd2 : parseMethodDescriptor "([BI)B" = some ⟨[(.array .byte), .int], some .byte⟩ := by decide +kernel
theorem pd3 : parseMethodDescriptor "([CIILjava/lang/Void;)V" = some ⟨[(.array .char), .int, .int, (.object "java/lang/Void")], none⟩ := by decide +kernel
theorem pd4 : parseMethodDescriptor "([B[B)Z" = some ⟨[(.array .byte), (.array .byte)], some .boolean⟩ := by decide +kernel
theorem pd5 : parseMethodDescriptor "()B" = some ⟨[], some .byte⟩ := by decide +kernel
theorem pd6 : parseMethodDescriptor "(IIILjava/util/function/BiFunction;)I" = some ⟨[.int, .int, .int, (.object "java/util/function/BiFunction")], some .int⟩ := by decide +kernel
theorem pd7 : parseMethodDescriptor "(II)V" = some ⟨[.int, .int], none⟩ := by decide +kernel
theorem pd8 : parseMethodDescriptor "(II)I" = some ⟨[.int, .int], some .int⟩ := by decide +kernel
theorem pd9 : parseMethodDescriptor "([BII)[B" = some ⟨[(.array .byte), .int, .int], some (.array .byte)⟩ := by decide +kernel
theorem pd10 : parseMethodDescriptor "([BB)V" = some ⟨[(.array .byte), .byte], none⟩ := by decide +kernel
theorem pd11 : parseMethodDescriptor "()I" = some ⟨[], some .int⟩ := by decide +kernel
theorem pd12 : parseMethodDescriptor "(III)V" = some ⟨[.int, .int, .int], none⟩ := by decide +kernel
theorem pd13 : parseMethodDescriptor "()Z" = some ⟨[], some .boolean⟩ := by decide +kernel
theorem pd14 : parseMethodDescriptor "([BII)Ljava/lang/String;" = some ⟨[(.array .byte), .int, .int], some (.object "java/lang/String")⟩ := by decide +kernel
theorem pd15 : parseMethodDescriptor "()V" = some ⟨[], none⟩ := by decide +kernel
theorem pd16 : parseMethodDescriptor "(II)Ljava/lang/String;" = some ⟨[.int, .int], some (.object "java/lang/String")⟩ := by decide +kernel
theorem pd17 : parseMethodDescriptor "([C)V" = some ⟨[(.array .char)], none⟩ := by decide +kernel
theorem pd18 : parseMethodDescriptor "(Ljava/lang/String;Z)V" = some ⟨[(.object "java/lang/String"), .boolean], none⟩ := by decide +kernel
theorem pd19 : parseMethodDescriptor "()Ljava/lang/String;" = some ⟨[], some (.object "java/lang/String")⟩ := by decide +kernel
theorem pd20 : parseMethodDescriptor "(Ljava/lang/Object;)Z" = some ⟨[(.object "java/lang/Object")], some .boolean⟩ := by decide +kernel
theorem d0_0 : Dc jdk_42_method_151_code 0 (.aload_n 0) 1 1 := ⟨by decide +kernel, rfl⟩
theorem d0_1 : Dc jdk_42_method_151_code 1 (.invokespecial 1) 3 4 := ⟨by decide +kernel, rfl⟩
theorem d0_4 : Dc jdk_42_method_151_code 4 (.aload_n 0) 1 5 := ⟨by decide +kernel, rfl⟩
theorem d0_5 : Dc jdk_42_method_151_code 5 (.aload_n 1) 1 6 := ⟨by decide +kernel, rfl⟩
theorem d0_6 : Dc jdk_42_method_151_code 6 (.putfield 9) 3 9 := ⟨by decide +kernel, rfl⟩
theorem d0_9 : Dc jdk_42_method_151_code 9 (.aload_n 0) 1 10 := ⟨by decide +kernel, rfl⟩
theorem d0_10 : Dc jdk_42_method_151_code 10 (.iload_n 2) 1 11 := ⟨by decide +kernel, rfl⟩
theorem d0_11 : Dc jdk_42_method_151_code 11 (.putfield 15) 3 14 := ⟨by decide +kernel, rfl⟩
theorem d0_14 : Dc jdk_42_method_151_code 14 (.return_) 1 15 := ⟨by decide +kernel, rfl⟩
theorem d1_0 : Dc jdk_52_method_21_code 0 (.iconst 0) 1 1 := ⟨by decide +kernel, rfl⟩
theorem d1_1 : Dc jdk_52_method_21_code 1 (.istore 5) 2 3 := ⟨by decide +kernel, rfl⟩
theorem d1_3 : Dc jdk_52_method_21_code 3 (.iload 5) 2 5 := ⟨by decide +kernel, rfl⟩
theorem d1_5 : Dc jdk_52_method_21_code 5 (.iload 4) 2 7 := ⟨by decide +kernel, rfl⟩
theorem d1_7 : Db jdk_52_method_21_code 7 (.if_icmp .ge 37) 37 10 44 := ⟨by decide +kernel, rfl, by decide, by decide⟩
theorem d1_44 : Dc jdk_52_method_21_code 44 (.iload 4) 2 46 := ⟨by decide +kernel, rfl⟩
theorem d1_46 : Dc jdk_52_method_21_code 46 (.ireturn) 1 47 := ⟨by decide +kernel, rfl⟩
theorem d1_10 : Dc jdk_52_method_21_code 10 (.aload_n 0) 1 11 := ⟨by decide +kernel, rfl⟩
theorem d1_11 : Dc jdk_52_method_21_code 11 (.iload_n 1) 1 12 := ⟨by decide +kernel, rfl⟩
theorem d1_12 : Dc jdk_52_method_21_code 12 (.caload) 1 13 := ⟨by decide +kernel, rfl⟩
theorem d1_13 : Dc jdk_52_method_21_code 13 (.istore 6) 2 15 := ⟨by decide +kernel, rfl⟩
theorem d1_15 : Dc jdk_52_method_21_code 15 (.iload 6) 2 17 := ⟨by decide +kernel, rfl⟩
theorem d1_17 : Dc jdk_52_method_21_code 17 (.sipush 255) 3 20 := ⟨by decide +kernel, rfl⟩
theorem d1_20 : Db jdk_52_method_21_code 20 (.if_icmp .le 6) 6 23 26 := ⟨by decide +kernel, rfl, by decide, by decide⟩
theorem d1_23 : Dc jdk_52_method_21_code 23 (.iload 5) 2 25 := ⟨by decide +kernel, rfl⟩
theorem d1_25 : Dc jdk_52_method_21_code 25 (.ireturn) 1 26 := ⟨by decide +kernel, rfl⟩
theorem d1_26 : Dc jdk_52_method_21_code 26 (.aload_n 2) 1 27 := ⟨by decide +kernel, rfl⟩
theorem d1_27 : Dc jdk_52_method_21_code 27 (.iload_n 3) 1 28 := ⟨by decide +kernel, rfl⟩
theorem d1_28 : Dc jdk_52_method_21_code 28 (.iload 6) 2 30 := ⟨by decide +kernel, rfl⟩
theorem d1_30 : Dc jdk_52_method_21_code 30 (.i2b) 1 31 := ⟨by decide +kernel, rfl⟩
theorem d1_31 : Dc jdk_52_method_21_code 31 (.bastore) 1 32 := ⟨by decide +kernel, rfl⟩
theorem d1_32 : Dc jdk_52_method_21_code 32 (.iinc 1 1) 3 35 := ⟨by decide +kernel, rfl⟩
theorem d1_35 : Dc jdk_52_method_21_code 35 (.iinc 3 1) 3 38 := ⟨by decide +kernel, rfl⟩
theorem d1_38 : Dc jdk_52_method_21_code 38 (.iinc 5 1) 3 41 := ⟨by decide +kernel, rfl⟩
theorem d1_41 : Db jdk_52_method_21_code 41 (.goto (-38)) (-38) 44 3 := ⟨by decide +kernel, rfl, by decide, by decide⟩
theorem d2_0 : Dc jdk_52_method_16_code 0 (.iload_n 2) 1 1 := ⟨by decide +kernel, rfl⟩
theorem d2_1 : Dc jdk_52_method_16_code 1 (.newarray .byte) 2 3 := ⟨by decide +kernel, rfl⟩
theorem d2_3 : Dc jdk_52_method_16_code 3 (.astore_n 3) 1 4 := ⟨by decide +kernel, rfl⟩
theorem d2_4 : Dc jdk_52_method_16_code 4 (.aload_n 0) 1 5 := ⟨by decide +kernel, rfl⟩
theorem d2_5 : Dc jdk_52_method_16_code 5 (.iload_n 1) 1 6 := ⟨by decide +kernel, rfl⟩
theorem d2_6 : Dc jdk_52_method_16_code 6 (.aload_n 3) 1 7 := ⟨by decide +kernel, rfl⟩
theorem d2_7 : Dc jdk_52_method_16_code 7 (.iconst 0) 1 8 := ⟨by decide +kernel, rfl⟩
theorem d2_8 : Dc jdk_52_method_16_code 8 (.iload_n 2) 1 9 := ⟨by decide +kernel, rfl⟩
theorem d2_9 : Dc jdk_52_method_16_code 9 (.invokestatic 115) 3 12 := ⟨by decide +kernel, rfl⟩
theorem d2_12 : Dc jdk_52_method_16_code 12 (.istore 4) 2 14 := ⟨by decide +kernel, rfl⟩
theorem d2_14 : Dc jdk_52_method_16_code 14 (.iload 4) 2 16 := ⟨by decide +kernel, rfl⟩
theorem d2_16 : Dc jdk_52_method_16_code 16 (.iload_n 2) 1 17 := ⟨by decide +kernel, rfl⟩
theorem d2_17 : Db jdk_52_method_16_code 17 (.if_icmp .eq 40) 40 20 57 := ⟨by decide +kernel, rfl, by decide, by decide⟩
theorem d2_57 : Dc jdk_52_method_16_code 57 (.aload_n 3) 1 58 := ⟨by decide +kernel, rfl⟩
theorem d2_58 : Dc jdk_52_method_16_code 58 (.areturn) 1 59 := ⟨by decide +kernel, rfl⟩
theorem d3_0 : Dc jdk_52_method_15_code 0 (.iload_n 1) 1 1 := ⟨by decide +kernel, rfl⟩
theorem d3_1 : Dc jdk_52_method_15_code 1 (.aload_n 0) 1 2 := ⟨by decide +kernel, rfl⟩
theorem d3_2 : Dc jdk_52_method_15_code 2 (.arraylength) 1 3 := ⟨by decide +kernel, rfl⟩
theorem d3_3 : Dc jdk_52_method_15_code 3 (.isub) 1 4 := ⟨by decide +kernel, rfl⟩
theorem d3_4 : Dc jdk_52_method_15_code 4 (.bipush 31) 2 6 := ⟨by decide +kernel, rfl⟩
theorem d3_6 : Dc jdk_52_method_15_code 6 (.iushr) 1 7 := ⟨by decide +kernel, rfl⟩
theorem d3_7 : Dc jdk_52_method_15_code 7 (.i2b) 1 8 := ⟨by decide +kernel, rfl⟩
theorem d3_8 : Dc jdk_52_method_15_code 8 (.ireturn) 1 9 := ⟨by decide +kernel, rfl⟩
theorem d4_0 : Dc jdk_42_method_149_code 0 (.aload_n 0) 1 1 := ⟨by decide +kernel, rfl⟩
theorem d4_1 : Dc jdk_42_method_149_code 1 (.invokespecial 1) 3 4 := ⟨by decide +kernel, rfl⟩
theorem d4_4 : Dc jdk_42_method_149_code 4 (.iload_n 3) 1 5 := ⟨by decide +kernel, rfl⟩
theorem d4_5 : Db jdk_42_method_149_code 5 (.ifCond .ne 22) 22 8 27 := ⟨by decide +kernel, rfl, by decide, by decide⟩
theorem d4_27 : Dc jdk_42_method_149_code 27 (.getstatic 38) 3 30 := ⟨by decide +kernel, rfl⟩
theorem d4_30 : Db jdk_42_method_149_code 30 (.ifCond .eq 28) 28 33 58 := ⟨by decide +kernel, rfl, by decide, by decide⟩
theorem d4_33 : Dc jdk_42_method_149_code 33 (.aload_n 1) 1 34 := ⟨by decide +kernel, rfl⟩
theorem d4_34 : Dc jdk_42_method_149_code 34 (.iload_n 2) 1 35 := ⟨by decide +kernel, rfl⟩
theorem d4_35 : Dc jdk_42_method_149_code 35 (.iload_n 3) 1 36 := ⟨by decide +kernel, rfl⟩
theorem d4_36 : Dc jdk_42_method_149_code 36 (.invokestatic 177) 3 39 := ⟨by decide +kernel, rfl⟩
theorem d4_39 : Dc jdk_42_method_149_code 39 (.astore 5) 2 41 := ⟨by decide +kernel, rfl⟩
theorem d4_41 : Dc jdk_42_method_149_code 41 (.aload_n 0) 1 42 := ⟨by decide +kernel, rfl⟩
theorem d4_42 : Dc jdk_42_method_149_code 42 (.aload 5) 2 44 := ⟨by decide +kernel, rfl⟩
theorem d4_44 : Dc jdk_42_method_149_code 44 (.iload_n 3) 1 45 := ⟨by decide +kernel, rfl⟩
theorem d4_45 : Dc jdk_42_method_149_code 45 (.invokestatic 47) 3 48 := ⟨by decide +kernel, rfl⟩
theorem d4_48 : Dc jdk_42_method_149_code 48 (.putfield 15) 3 51 := ⟨by decide +kernel, rfl⟩
theorem d4_51 : Dc jdk_42_method_149_code 51 (.aload_n 0) 1 52 := ⟨by decide +kernel, rfl⟩
theorem d4_52 : Dc jdk_42_method_149_code 52 (.aload 5) 2 54 := ⟨by decide +kernel, rfl⟩
theorem d4_54 : Dc jdk_42_method_149_code 54 (.putfield 9) 3 57 := ⟨by decide +kernel, rfl⟩
theorem d4_57 : Dc jdk_42_method_149_code 57 (.return_) 1 58 := ⟨by decide +kernel, rfl⟩
theorem d5_0 : Dc jdk_42_method_3_code 0 (.aload_n 0) 1 1 := ⟨by decide +kernel, rfl⟩
theorem d5_1 : Dc jdk_42_method_3_code 1 (.aload_n 1) 1 2 := ⟨by decide +kernel, rfl⟩
theorem d5_2 : Dc jdk_42_method_3_code 2 (.iconst 0) 1 3 := ⟨by decide +kernel, rfl⟩
theorem d5_3 : Dc jdk_42_method_3_code 3 (.aload_n 1) 1 4 := ⟨by decide +kernel, rfl⟩
theorem d5_4 : Dc jdk_42_method_3_code 4 (.arraylength) 1 5 := ⟨by decide +kernel, rfl⟩
theorem d5_5 : Dc jdk_42_method_3_code 5 (.aconst_null) 1 6 := ⟨by decide +kernel, rfl⟩
theorem d5_6 : Dc jdk_42_method_3_code 6 (.invokespecial 27) 3 9 := ⟨by decide +kernel, rfl⟩
theorem d5_9 : Dc jdk_42_method_3_code 9 (.return_) 1 10 := ⟨by decide +kernel, rfl⟩
theorem d6_0 : Dc jdk_43_method_13_code 0 (.aload_n 0) 1 1 := ⟨by decide +kernel, rfl⟩
theorem d6_1 : Dc jdk_43_method_13_code 1 (.arraylength) 1 2 := ⟨by decide +kernel, rfl⟩
theorem d6_2 : Dc jdk_43_method_13_code 2 (.aload_n 1) 1 3 := ⟨by decide +kernel, rfl⟩
theorem d6_3 : Dc jdk_43_method_13_code 3 (.arraylength) 1 4 := ⟨by decide +kernel, rfl⟩
theorem d6_4 : Db jdk_43_method_13_code 4 (.if_icmp .ne 30) 30 7 34 := ⟨by decide +kernel, rfl, by decide, by decide⟩
theorem d6_7 : Dc jdk_43_method_13_code 7 (.iconst 0) 1 8 := ⟨by decide +kernel, rfl⟩
theorem d6_8 : Dc jdk_43_method_13_code 8 (.istore_n 2) 1 9 := ⟨by decide +kernel, rfl⟩
theorem d6_9 : Dc jdk_43_method_13_code 9 (.iload_n 2) 1 10 := ⟨by decide +kernel, rfl⟩
theorem d6_10 : Dc jdk_43_method_13_code 10 (.aload_n 0) 1 11 := ⟨by decide +kernel, rfl⟩
theorem d6_11 : Dc jdk_43_method_13_code 11 (.arraylength) 1 12 := ⟨by decide +kernel, rfl⟩
theorem d6_12 : Db jdk_43_method_13_code 12 (.if_icmp .ge 20) 20 15 32 := ⟨by decide +kernel, rfl, by decide, by decide⟩
theorem d6_32 : Dc jdk_43_method_13_code 32 (.iconst 1) 1 33 := ⟨by decide +kernel, rfl⟩
theorem d6_33 : Dc jdk_43_method_13_code 33 (.ireturn) 1 34 := ⟨by decide +kernel, rfl⟩
theorem d6_15 : Dc jdk_43_method_13_code 15 (.aload_n 0) 1 16 := ⟨by decide +kernel, rfl⟩
theorem d6_16 : Dc jdk_43_method_13_code 16 (.iload_n 2) 1 17 := ⟨by decide +kernel, rfl⟩
theorem d6_17 : Dc jdk_43_method_13_code 17 (.baload) 1 18 := ⟨by decide +kernel, rfl⟩
theorem d6_18 : Dc jdk_43_method_13_code 18 (.aload_n 1) 1 19 := ⟨by decide +kernel, rfl⟩
theorem d6_19 : Dc jdk_43_method_13_code 19 (.iload_n 2) 1 20 := ⟨by decide +kernel, rfl⟩
theorem d6_20 : Dc jdk_43_method_13_code 20 (.baload) 1 21 := ⟨by decide +kernel, rfl⟩
theorem d6_21 : Db jdk_43_method_13_code 21 (.if_icmp .eq 5) 5 24 26 := ⟨by decide +kernel, rfl, by decide, by decide⟩
theorem d6_26 : Dc jdk_43_method_13_code 26 (.iinc 2 1) 3 29 := ⟨by decide +kernel, rfl⟩
theorem d6_29 : Db jdk_43_method_13_code 29 (.goto (-20)) (-20) 32 9 := ⟨by decide +kernel, rfl, by decide, by decide⟩
theorem d6_24 : Dc jdk_43_method_13_code 24 (.iconst 0) 1 25 := ⟨by decide +kernel, rfl⟩
theorem d6_25 : Dc jdk_43_method_13_code 25 (.ireturn) 1 26 := ⟨by decide +kernel, rfl⟩
theorem d6_34 : Dc jdk_43_method_13_code 34 (.iconst 0) 1 35 := ⟨by decide +kernel, rfl⟩
theorem d6_35 : Dc jdk_43_method_13_code 35 (.ireturn) 1 36 := ⟨by decide +kernel, rfl⟩
theorem d7_0 : Dc jdk_42_method_66_code 0 (.aload_n 0) 1 1 := ⟨by decide +kernel, rfl⟩
theorem d7_1 : Dc jdk_42_method_66_code 1 (.aload_n 1) 1 2 := ⟨by decide +kernel, rfl⟩
theorem d7_2 : Db jdk_42_method_66_code 2 (.if_acmp .ne 5) 5 5 7 := ⟨by decide +kernel, rfl, by decide, by decide⟩
theorem d7_5 : Dc jdk_42_method_66_code 5 (.iconst 1) 1 6 := ⟨by decide +kernel, rfl⟩
theorem d7_6 : Dc jdk_42_method_66_code 6 (.ireturn) 1 7 := ⟨by decide +kernel, rfl⟩
theorem d7_7 : Dc jdk_42_method_66_code 7 (.aload_n 1) 1 8 := ⟨by decide +kernel, rfl⟩
theorem d7_8 : Dc jdk_42_method_66_code 8 (.instanceof 10) 3 11 := ⟨by decide +kernel, rfl⟩
theorem d7_11 : Db jdk_42_method_66_code 11 (.ifCond .eq 43) 43 14 54 := ⟨by decide +kernel, rfl, by decide, by decide⟩
theorem d7_14 : Dc jdk_42_method_66_code 14 (.aload_n 1) 1 15 := ⟨by decide +kernel, rfl⟩
theorem d7_15 : Dc jdk_42_method_66_code 15 (.checkcast 10) 3 18 := ⟨by decide +kernel, rfl⟩
theorem d7_18 : Dc jdk_42_method_66_code 18 (.astore_n 2) 1 19 := ⟨by decide +kernel, rfl⟩
theorem d7_19 : Dc jdk_42_method_66_code 19 (.getstatic 38) 3 22 := ⟨by decide +kernel, rfl⟩
theorem d7_22 : Db jdk_42_method_66_code 22 (.ifCond .eq 14) 14 25 36 := ⟨by decide +kernel, rfl, by decide, by decide⟩
theorem d7_25 : Dc jdk_42_method_66_code 25 (.aload_n 0) 1 26 := ⟨by decide +kernel, rfl⟩
theorem d7_26 : Dc jdk_42_method_66_code 26 (.getfield 15) 3 29 := ⟨by decide +kernel, rfl⟩
theorem d7_29 : Dc jdk_42_method_66_code 29 (.aload_n 2) 1 30 := ⟨by decide +kernel, rfl⟩
theorem d7_30 : Dc jdk_42_method_66_code 30 (.getfield 15) 3 33 := ⟨by decide +kernel, rfl⟩
theorem d7_33 : Db jdk_42_method_66_code 33 (.if_icmp .ne 21) 21 36 54 := ⟨by decide +kernel, rfl, by decide, by decide⟩
theorem d7_36 : Dc jdk_42_method_66_code 36 (.aload_n 0) 1 37 := ⟨by decide +kernel, rfl⟩
theorem d7_37 : Dc jdk_42_method_66_code 37 (.getfield 9) 3 40 := ⟨by decide +kernel, rfl⟩
theorem d7_40 : Dc jdk_42_method_66_code 40 (.aload_n 2) 1 41 := ⟨by decide +kernel, rfl⟩
theorem d7_41 : Dc jdk_42_method_66_code 41 (.getfield 9) 3 44 := ⟨by decide +kernel, rfl⟩
theorem d7_44 : Dc jdk_42_method_66_code 44 (.invokestatic 541) 3 47 := ⟨by decide +kernel, rfl⟩
theorem d7_47 : Db jdk_42_method_66_code 47 (.ifCond .eq 7) 7 50 54 := ⟨by decide +kernel, rfl, by decide, by decide⟩
theorem d7_50 : Dc jdk_42_method_66_code 50 (.iconst 1) 1 51 := ⟨by decide +kernel, rfl⟩
theorem d7_51 : Db jdk_42_method_66_code 51 (.goto 4) 4 54 55 := ⟨by decide +kernel, rfl, by decide, by decide⟩
theorem d7_55 : Dc jdk_42_method_66_code 55 (.ireturn) 1 56 := ⟨by decide +kernel, rfl⟩
theorem d7_54 : Dc jdk_42_method_66_code 54 (.iconst 0) 1 55 := ⟨by decide +kernel, rfl⟩
theorem d4_8 : Dc jdk_42_method_149_code 8 (.aload_n 0) 1 9 := ⟨by decide +kernel, rfl⟩
theorem d4_9 : Dc jdk_42_method_149_code 9 (.ldc 7) 2 11 := ⟨by decide +kernel, rfl⟩
theorem d4_11 : Dc jdk_42_method_149_code 11 (.getfield 9) 3 14 := ⟨by decide +kernel, rfl⟩
theorem d4_14 : Dc jdk_42_method_149_code 14 (.putfield 9) 3 17 := ⟨by decide +kernel, rfl⟩
theorem d4_17 : Dc jdk_42_method_149_code 17 (.aload_n 0) 1 18 := ⟨by decide +kernel, rfl⟩
theorem d4_18 : Dc jdk_42_method_149_code 18 (.ldc 7) 2 20 := ⟨by decide +kernel, rfl⟩
theorem d4_20 : Dc jdk_42_method_149_code 20 (.getfield 15) 3 23 := ⟨by decide +kernel, rfl⟩
theorem d4_23 : Dc jdk_42_method_149_code 23 (.putfield 15) 3 26 := ⟨by decide +kernel, rfl⟩
theorem d4_26 : Dc jdk_42_method_149_code 26 (.return_) 1 27 := ⟨by decide +kernel, rfl⟩
theorem d8_0 : Dc jdk_42_method_152_code 0 (.getstatic 38) 3 3 := ⟨by decide +kernel, rfl⟩
theorem d8_3 : Db jdk_42_method_152_code 3 (.ifCond .eq 10) 10 6 13 := ⟨by decide +kernel, rfl, by decide, by decide⟩
theorem d8_6 : Dc jdk_42_method_152_code 6 (.aload_n 0) 1 7 := ⟨by decide +kernel, rfl⟩
theorem d8_7 : Dc jdk_42_method_152_code 7 (.getfield 15) 3 10 := ⟨by decide +kernel, rfl⟩
theorem d8_10 : Db jdk_42_method_152_code 10 (.goto 4) 4 13 14 := ⟨by decide +kernel, rfl, by decide, by decide⟩
theorem d8_14 : Dc jdk_42_method_152_code 14 (.ireturn) 1 15 := ⟨by decide +kernel, rfl⟩
theorem d9_0 : Dc jdk_42_method_154_code 0 (.getstatic 38) 3 3 := ⟨by decide +kernel, rfl⟩
theorem d9_3 : Db jdk_42_method_154_code 3 (.ifCond .eq 14) 14 6 17 := ⟨by decide +kernel, rfl, by decide, by decide⟩
theorem d9_6 : Dc jdk_42_method_154_code 6 (.aload_n 0) 1 7 := ⟨by decide +kernel, rfl⟩
theorem d9_7 : Dc jdk_42_method_154_code 7 (.getfield 15) 3 10 := ⟨by decide +kernel, rfl⟩
theorem d9_10 : Db jdk_42_method_154_code 10 (.ifCond .ne 7) 7 13 17 := ⟨by decide +kernel, rfl, by decide, by decide⟩
theorem d9_13 : Dc jdk_42_method_154_code 13 (.iconst 1) 1 14 := ⟨by decide +kernel, rfl⟩
theorem d9_14 : Db jdk_42_method_154_code 14 (.goto 4) 4 17 18 := ⟨by decide +kernel, rfl, by decide, by decide⟩
theorem d9_18 : Dc jdk_42_method_154_code 18 (.ireturn) 1 19 := ⟨by decide +kernel, rfl⟩
theorem d10_0 : Dc jdk_42_method_54_code 0 (.aload_n 0) 1 1 := ⟨by decide +kernel, rfl⟩
theorem d10_1 : Dc jdk_42_method_54_code 1 (.getfield 9) 3 4 := ⟨by decide +kernel, rfl⟩
theorem d10_4 : Dc jdk_42_method_54_code 4 (.arraylength) 1 5 := ⟨by decide +kernel, rfl⟩
theorem d10_5 : Dc jdk_42_method_54_code 5 (.aload_n 0) 1 6 := ⟨by decide +kernel, rfl⟩
theorem d10_6 : Dc jdk_42_method_54_code 6 (.invokevirtual 335) 3 9 := ⟨by decide +kernel, rfl⟩
theorem d10_9 : Dc jdk_42_method_54_code 9 (.ishr) 1 10 := ⟨by decide +kernel, rfl⟩
theorem d10_10 : Dc jdk_42_method_54_code 10 (.ireturn) 1 11 := ⟨by decide +kernel, rfl⟩
theorem d11_0 : Dc jdk_41_method_12_code 0 (.iload_n 0) 1 1 := ⟨by decide +kernel, rfl⟩
theorem d11_1 : Db jdk_41_method_12_code 1 (.ifCond .lt 13) 13 4 14 := ⟨by decide +kernel, rfl, by decide, by decide⟩
theorem d11_4 : Dc jdk_41_method_12_code 4 (.iload_n 0) 1 5 := ⟨by decide +kernel, rfl⟩
theorem d11_5 : Dc jdk_41_method_12_code 5 (.iload_n 1) 1 6 := ⟨by decide +kernel, rfl⟩
theorem d11_6 : Db jdk_41_method_12_code 6 (.if_icmp .gt 8) 8 9 14 := ⟨by decide +kernel, rfl, by decide, by decide⟩
theorem d11_9 : Dc jdk_41_method_12_code 9 (.iload_n 1) 1 10 := ⟨by decide +kernel, rfl⟩
theorem d11_10 : Dc jdk_41_method_12_code 10 (.iload_n 2) 1 11 := ⟨by decide +kernel, rfl⟩
theorem d11_11 : Db jdk_41_method_12_code 11 (.if_icmp .le 11) 11 14 22 := ⟨by decide +kernel, rfl, by decide, by decide⟩
theorem d11_22 : Dc jdk_41_method_12_code 22 (.iload_n 0) 1 23 := ⟨by decide +kernel, rfl⟩
theorem d11_23 : Dc jdk_41_method_12_code 23 (.ireturn) 1 24 := ⟨by decide +kernel, rfl⟩
theorem d12_0 : Dc jdk_42_method_158_code 0 (.iload_n 0) 1 1 := ⟨by decide +kernel, rfl⟩
theorem d12_1 : Dc jdk_42_method_158_code 1 (.iload_n 1) 1 2 := ⟨by decide +kernel, rfl⟩
theorem d12_2 : Dc jdk_42_method_158_code 2 (.iload_n 2) 1 3 := ⟨by decide +kernel, rfl⟩
theorem d12_3 : Dc jdk_42_method_158_code 3 (.getstatic 1053) 3 6 := ⟨by decide +kernel, rfl⟩
theorem d12_6 : Dc jdk_42_method_158_code 6 (.invokestatic 1062) 3 9 := ⟨by decide +kernel, rfl⟩
theorem d12_9 : Dc jdk_42_method_158_code 9 (.pop) 1 10 := ⟨by decide +kernel, rfl⟩
theorem d12_10 : Dc jdk_42_method_158_code 10 (.return_) 1 11 := ⟨by decide +kernel, rfl⟩
theorem d13_0 : Dc jdk_65_method_131_code 0 (.iload_n 1) 1 1 := ⟨by decide +kernel, rfl⟩
theorem d13_1 : Dc jdk_65_method_131_code 1 (.iload_n 0) 1 2 := ⟨by decide +kernel, rfl⟩
theorem d13_2 : Db jdk_65_method_131_code 2 (.if_icmp .ge 35) 35 5 37 := ⟨by decide +kernel, rfl, by decide, by decide⟩
theorem d13_37 : Dc jdk_65_method_131_code 37 (.return_) 1 38 := ⟨by decide +kernel, rfl⟩
theorem d14_0 : Dc jdk_29_method_69_code 0 (.iload_n 0) 1 1 := ⟨by decide +kernel, rfl⟩
theorem d14_1 : Dc jdk_29_method_69_code 1 (.iload_n 1) 1 2 := ⟨by decide +kernel, rfl⟩
theorem d14_2 : Db jdk_29_method_69_code 2 (.if_icmp .gt 7) 7 5 9 := ⟨by decide +kernel, rfl, by decide, by decide⟩
theorem d14_9 : Dc jdk_29_method_69_code 9 (.iload_n 1) 1 10 := ⟨by decide +kernel, rfl⟩
theorem d14_10 : Dc jdk_29_method_69_code 10 (.ireturn) 1 11 := ⟨by decide +kernel, rfl⟩
theorem d14_5 : Dc jdk_29_method_69_code 5 (.iload_n 0) 1 6 := ⟨by decide +kernel, rfl⟩
theorem d14_6 : Db jdk_29_method_69_code 6 (.goto 4) 4 9 10 := ⟨by decide +kernel, rfl, by decide, by decide⟩
theorem d15_0 : Dc jdk_65_method_133_code 0 (.iload_n 1) 1 1 := ⟨by decide +kernel, rfl⟩
theorem d15_1 : Dc jdk_65_method_133_code 1 (.iload_n 2) 1 2 := ⟨by decide +kernel, rfl⟩
theorem d15_2 : Dc jdk_65_method_133_code 2 (.invokestatic 343) 3 5 := ⟨by decide +kernel, rfl⟩
theorem d15_5 : Dc jdk_65_method_133_code 5 (.iload_n 2) 1 6 := ⟨by decide +kernel, rfl⟩
theorem d15_6 : Dc jdk_65_method_133_code 6 (.iload_n 1) 1 7 := ⟨by decide +kernel, rfl⟩
theorem d15_7 : Dc jdk_65_method_133_code 7 (.isub) 1 8 := ⟨by decide +kernel, rfl⟩
theorem d15_8 : Dc jdk_65_method_133_code 8 (.istore_n 3) 1 9 := ⟨by decide +kernel, rfl⟩
theorem d15_9 : Dc jdk_65_method_133_code 9 (.iload_n 3) 1 10 := ⟨by decide +kernel, rfl⟩
theorem d15_10 : Dc jdk_65_method_133_code 10 (.newarray .byte) 2 12 := ⟨by decide +kernel, rfl⟩
theorem d15_12 : Dc jdk_65_method_133_code 12 (.astore 4) 2 14 := ⟨by decide +kernel, rfl⟩
theorem d15_14 : Dc jdk_65_method_133_code 14 (.aload_n 0) 1 15 := ⟨by decide +kernel, rfl⟩
theorem d15_15 : Dc jdk_65_method_133_code 15 (.iload_n 1) 1 16 := ⟨by decide +kernel, rfl⟩
theorem d15_16 : Dc jdk_65_method_133_code 16 (.aload 4) 2 18 := ⟨by decide +kernel, rfl⟩
theorem d15_18 : Dc jdk_65_method_133_code 18 (.iconst 0) 1 19 := ⟨by decide +kernel, rfl⟩
theorem d15_19 : Dc jdk_65_method_133_code 19 (.aload_n 0) 1 20 := ⟨by decide +kernel, rfl⟩
theorem d15_20 : Dc jdk_65_method_133_code 20 (.arraylength) 1 21 := ⟨by decide +kernel, rfl⟩
theorem d15_21 : Dc jdk_65_method_133_code 21 (.iload_n 1) 1 22 := ⟨by decide +kernel, rfl⟩
theorem d15_22 : Dc jdk_65_method_133_code 22 (.isub) 1 23 := ⟨by decide +kernel, rfl⟩
theorem d15_23 : Dc jdk_65_method_133_code 23 (.iload_n 3) 1 24 := ⟨by decide +kernel, rfl⟩
theorem d15_24 : Dc jdk_65_method_133_code 24 (.invokestatic 304) 3 27 := ⟨by decide +kernel, rfl⟩
theorem d15_27 : Dc jdk_65_method_133_code 27 (.invokestatic 150) 3 30 := ⟨by decide +kernel, rfl⟩
theorem d15_30 : Dc jdk_65_method_133_code 30 (.aload 4) 2 32 := ⟨by decide +kernel, rfl⟩
theorem d15_32 : Dc jdk_65_method_133_code 32 (.areturn) 1 33 := ⟨by decide +kernel, rfl⟩
theorem d16_0 : Dc jdk_65_method_132_code 0 (.iload_n 1) 1 1 := ⟨by decide +kernel, rfl⟩
theorem d16_1 : Db jdk_65_method_132_code 1 (.ifCond .ne 9) 9 4 10 := ⟨by decide +kernel, rfl, by decide, by decide⟩
theorem d16_10 : Dc jdk_65_method_132_code 10 (.aload_n 0) 1 11 := ⟨by decide +kernel, rfl⟩
theorem d16_11 : Dc jdk_65_method_132_code 11 (.iload_n 1) 1 12 := ⟨by decide +kernel, rfl⟩
theorem d16_12 : Dc jdk_65_method_132_code 12 (.iload_n 2) 1 13 := ⟨by decide +kernel, rfl⟩
theorem d16_13 : Dc jdk_65_method_132_code 13 (.invokestatic 339) 3 16 := ⟨by decide +kernel, rfl⟩
theorem d16_16 : Dc jdk_65_method_132_code 16 (.areturn) 1 17 := ⟨by decide +kernel, rfl⟩
theorem d17_0 : Dc jdk_43_method_47_code 0 (.iload_n 2) 1 1 := ⟨by decide +kernel, rfl⟩
theorem d17_1 : Db jdk_43_method_47_code 1 (.ifCond .ne 6) 6 4 7 := ⟨by decide +kernel, rfl, by decide, by decide⟩
theorem d17_4 : Dc jdk_43_method_47_code 4 (.ldc 151) 2 6 := ⟨by decide +kernel, rfl⟩
theorem d17_6 : Dc jdk_43_method_47_code 6 (.areturn) 1 7 := ⟨by decide +kernel, rfl⟩
theorem d17_7 : Dc jdk_43_method_47_code 7 (.new 1) 3 10 := ⟨by decide +kernel, rfl⟩
theorem d17_10 : Dc jdk_43_method_47_code 10 (.dup) 1 11 := ⟨by decide +kernel, rfl⟩
theorem d17_11 : Dc jdk_43_method_47_code 11 (.aload_n 0) 1 12 := ⟨by decide +kernel, rfl⟩
theorem d17_12 : Dc jdk_43_method_47_code 12 (.iload_n 1) 1 13 := ⟨by decide +kernel, rfl⟩
theorem d17_13 : Dc jdk_43_method_47_code 13 (.iload_n 1) 1 14 := ⟨by decide +kernel, rfl⟩
theorem d17_14 : Dc jdk_43_method_47_code 14 (.iload_n 2) 1 15 := ⟨by decide +kernel, rfl⟩
theorem d17_15 : Dc jdk_43_method_47_code 15 (.iadd) 1 16 := ⟨by decide +kernel, rfl⟩
theorem d17_16 : Dc jdk_43_method_47_code 16 (.invokestatic 232) 3 19 := ⟨by decide +kernel, rfl⟩
theorem d17_19 : Dc jdk_43_method_47_code 19 (.iconst 0) 1 20 := ⟨by decide +kernel, rfl⟩
theorem d17_20 : Dc jdk_43_method_47_code 20 (.invokespecial 112) 3 23 := ⟨by decide +kernel, rfl⟩
theorem d17_23 : Dc jdk_43_method_47_code 23 (.areturn) 1 24 := ⟨by decide +kernel, rfl⟩
theorem d18_0 : Dc jdk_42_method_92_code 0 (.aload_n 0) 1 1 := ⟨by decide +kernel, rfl⟩
theorem d18_1 : Dc jdk_42_method_92_code 1 (.invokevirtual 505) 3 4 := ⟨by decide +kernel, rfl⟩
theorem d18_4 : Dc jdk_42_method_92_code 4 (.istore_n 3) 1 5 := ⟨by decide +kernel, rfl⟩
theorem d18_5 : Dc jdk_42_method_92_code 5 (.iload_n 1) 1 6 := ⟨by decide +kernel, rfl⟩
theorem d18_6 : Dc jdk_42_method_92_code 6 (.iload_n 2) 1 7 := ⟨by decide +kernel, rfl⟩
theorem d18_7 : Dc jdk_42_method_92_code 7 (.iload_n 3) 1 8 := ⟨by decide +kernel, rfl⟩
theorem d18_8 : Dc jdk_42_method_92_code 8 (.invokestatic 521) 3 11 := ⟨by decide +kernel, rfl⟩
theorem d18_11 : Dc jdk_42_method_92_code 11 (.iload_n 1) 1 12 := ⟨by decide +kernel, rfl⟩
theorem d18_12 : Db jdk_42_method_92_code 12 (.ifCond .ne 10) 10 15 22 := ⟨by decide +kernel, rfl, by decide, by decide⟩
theorem d18_22 : Dc jdk_42_method_92_code 22 (.iload_n 2) 1 23 := ⟨by decide +kernel, rfl⟩
theorem d18_23 : Dc jdk_42_method_92_code 23 (.iload_n 1) 1 24 := ⟨by decide +kernel, rfl⟩
theorem d18_24 : Dc jdk_42_method_92_code 24 (.isub) 1 25 := ⟨by decide +kernel, rfl⟩
theorem d18_25 : Dc jdk_42_method_92_code 25 (.istore 4) 2 27 := ⟨by decide +kernel, rfl⟩
theorem d18_27 : Dc jdk_42_method_92_code 27 (.aload_n 0) 1 28 := ⟨by decide +kernel, rfl⟩
theorem d18_28 : Dc jdk_42_method_92_code 28 (.invokevirtual 492) 3 31 := ⟨by decide +kernel, rfl⟩
theorem d18_31 : Db jdk_42_method_92_code 31 (.ifCond .eq 16) 16 34 47 := ⟨by decide +kernel, rfl, by decide, by decide⟩
theorem d18_34 : Dc jdk_42_method_92_code 34 (.aload_n 0) 1 35 := ⟨by decide +kernel, rfl⟩
theorem d18_35 : Dc jdk_42_method_92_code 35 (.getfield 9) 3 38 := ⟨by decide +kernel, rfl⟩
theorem d18_38 : Dc jdk_42_method_92_code 38 (.iload_n 1) 1 39 := ⟨by decide +kernel, rfl⟩
theorem d18_39 : Dc jdk_42_method_92_code 39 (.iload 4) 2 41 := ⟨by decide +kernel, rfl⟩
theorem d18_41 : Dc jdk_42_method_92_code 41 (.invokestatic 685) 3 44 := ⟨by decide +kernel, rfl⟩
theorem d18_44 : Db jdk_42_method_92_code 44 (.goto 13) 13 47 57 := ⟨by decide +kernel, rfl, by decide, by decide⟩
theorem d18_57 : Dc jdk_42_method_92_code 57 (.areturn) 1 58 := ⟨by decide +kernel, rfl⟩
theorem d19_0 : Dc jdk_30_method_1_code 0 (.aload_n 0) 1 1 := ⟨by decide +kernel, rfl⟩
theorem d19_1 : Dc jdk_30_method_1_code 1 (.invokespecial 1) 3 4 := ⟨by decide +kernel, rfl⟩
theorem d19_4 : Dc jdk_30_method_1_code 4 (.return_) 1 5 := ⟨by decide +kernel, rfl⟩
theorem d20_0 : Dc prog_5_method_1_code 0 (.aload_n 0) 1 1 := ⟨by decide +kernel, rfl⟩
theorem d20_1 : Dc prog_5_method_1_code 1 (.invokespecial 1) 3 4 := ⟨by decide +kernel, rfl⟩
theorem d20_4 : Dc prog_5_method_1_code 4 (.aload_n 0) 1 5 := ⟨by decide +kernel, rfl⟩
theorem d20_5 : Dc prog_5_method_1_code 5 (.aload_n 1) 1 6 := ⟨by decide +kernel, rfl⟩
theorem d20_6 : Dc prog_5_method_1_code 6 (.putfield 7) 3 9 := ⟨by decide +kernel, rfl⟩
theorem d20_9 : Dc prog_5_method_1_code 9 (.aload_n 0) 1 10 := ⟨by decide +kernel, rfl⟩
theorem d20_10 : Dc prog_5_method_1_code 10 (.iload_n 2) 1 11 := ⟨by decide +kernel, rfl⟩
theorem d20_11 : Dc prog_5_method_1_code 11 (.putfield 13) 3 14 := ⟨by decide +kernel, rfl⟩
theorem d20_14 : Dc prog_5_method_1_code 14 (.return_) 1 15 := ⟨by decide +kernel, rfl⟩
theorem d21_0 : Dc prog_5_method_7_code 0 (.aload_n 0) 1 1 := ⟨by decide +kernel, rfl⟩
theorem d21_1 : Dc prog_5_method_7_code 1 (.getfield 7) 3 4 := ⟨by decide +kernel, rfl⟩
theorem d21_4 : Dc prog_5_method_7_code 4 (.ldc 40) 2 6 := ⟨by decide +kernel, rfl⟩
theorem d21_6 : Dc prog_5_method_7_code 6 (.invokevirtual 42) 3 9 := ⟨by decide +kernel, rfl⟩
theorem d21_9 : Dc prog_5_method_7_code 9 (.aload_n 0) 1 10 := ⟨by decide +kernel, rfl⟩
theorem d21_10 : Dc prog_5_method_7_code 10 (.getfield 7) 3 13 := ⟨by decide +kernel, rfl⟩
theorem d21_13 : Dc prog_5_method_7_code 13 (.invokevirtual 42) 3 16 := ⟨by decide +kernel, rfl⟩
theorem d21_16 : Dc prog_5_method_7_code 16 (.iconst 1) 1 17 := ⟨by decide +kernel, rfl⟩
theorem d21_17 : Dc prog_5_method_7_code 17 (.isub) 1 18 := ⟨by decide +kernel, rfl⟩
theorem d21_18 : Dc prog_5_method_7_code 18 (.invokevirtual 46) 3 21 := ⟨by decide +kernel, rfl⟩
theorem d21_21 : Dc prog_5_method_7_code 21 (.areturn) 1 22 := ⟨by decide +kernel, rfl⟩
theorem d22_0 : Dc code 0 (.iload_n 0) 1 1 := ⟨by decide +kernel, rfl⟩
theorem d22_1 : Dc code 1 (.iconst 3) 1 2 := ⟨by decide +kernel, rfl⟩
theorem d22_2 : Dc code 2 (.iand) 1 3 := ⟨by decide +kernel, rfl⟩
theorem d22_3 : Dc code 3 (.istore 5) 2 5 := ⟨by decide +kernel, rfl⟩
theorem d22_5 : Dc code 5 (.iload_n 1) 1 6 := ⟨by decide +kernel, rfl⟩
theorem d22_6 : Dc code 6 (.sipush 255) 3 9 := ⟨by decide +kernel, rfl⟩
theorem d22_9 : Dc code 9 (.iand) 1 10 := ⟨by decide +kernel, rfl⟩
theorem d22_10 : Dc code 10 (.i2c) 1 11 := ⟨by decide +kernel, rfl⟩
theorem d22_11 : Dc code 11 (.istore 6) 2 13 := ⟨by decide +kernel, rfl⟩
theorem d22_13 : Dc code 13 (.iload_n 2) 1 14 := ⟨by decide +kernel, rfl⟩
theorem d22_14 : Dc code 14 (.sipush 255) 3 17 := ⟨by decide +kernel, rfl⟩
theorem d22_17 : Dc code 17 (.iand) 1 18 := ⟨by decide +kernel, rfl⟩
theorem d22_18 : Dc code 18 (.i2c) 1 19 := ⟨by decide +kernel, rfl⟩
theorem d22_19 : Dc code 19 (.istore 7) 2 21 := ⟨by decide +kernel, rfl⟩
theorem d22_21 : Dc code 21 (.iload_n 3) 1 22 := ⟨by decide +kernel, rfl⟩
theorem d22_22 : Dc code 22 (.sipush 255) 3 25 := ⟨by decide +kernel, rfl⟩
theorem d22_25 : Dc code 25 (.iand) 1 26 := ⟨by decide +kernel, rfl⟩
theorem d22_26 : Dc code 26 (.i2c) 1 27 := ⟨by decide +kernel, rfl⟩
theorem d22_27 : Dc code 27 (.istore 8) 2 29 := ⟨by decide +kernel, rfl⟩
theorem d22_29 : Dc code 29 (.iload 5) 2 31 := ⟨by decide +kernel, rfl⟩
theorem d22_261 : Dc code 261 (.new 7) 3 264 := ⟨by decide +kernel, rfl⟩
theorem d22_264 : Dc code 264 (.dup) 1 265 := ⟨by decide +kernel, rfl⟩
theorem d22_265 : Dc code 265 (.new 9) 3 268 := ⟨by decide +kernel, rfl⟩
theorem d22_268 : Dc code 268 (.dup) 1 269 := ⟨by decide +kernel, rfl⟩
theorem d22_269 : Dc code 269 (.aload 9) 2 271 := ⟨by decide +kernel, rfl⟩
theorem d22_271 : Dc code 271 (.invokespecial 11) 3 274 := ⟨by decide +kernel, rfl⟩
theorem d22_274 : Dc code 274 (.iload 4) 2 276 := ⟨by decide +kernel, rfl⟩
theorem d22_276 : Dc code 276 (.iconst 1) 1 277 := ⟨by decide +kernel, rfl⟩
theorem d22_277 : Dc code 277 (.iand) 1 278 := ⟨by decide +kernel, rfl⟩
theorem d22_286 : Dc code 286 (.invokespecial 14) 3 289 := ⟨by decide +kernel, rfl⟩
theorem d22_289 : Dc code 289 (.astore 11) 2 291 := ⟨by decide +kernel, rfl⟩
theorem d22_291 : Dc code 291 (.aload 11) 2 293 := ⟨by decide +kernel, rfl⟩
theorem d22_293 : Dc code 293 (.invokevirtual 17) 3 296 := ⟨by decide +kernel, rfl⟩
theorem d22_296 : Dc code 296 (.astore 12) 2 298 := ⟨by decide +kernel, rfl⟩
theorem d22_298 : Dc code 298 (.aload 12) 2 300 := ⟨by decide +kernel, rfl⟩
theorem d22_300 : Dc code 300 (.invokevirtual 21) 3 303 := ⟨by decide +kernel, rfl⟩
theorem d22_303 : Dc code 303 (.iload 5) 2 305 := ⟨by decide +kernel, rfl⟩
theorem d22_305 : Db code 305 (.if_icmp .ne 24) 24 308 329 := ⟨by decide +kernel, rfl, by decide, by decide⟩
theorem d22_308 : Dc code 308 (.aload 12) 2 310 := ⟨by decide +kernel, rfl⟩
theorem d22_310 : Dc code 310 (.new 9) 3 313 := ⟨by decide +kernel, rfl⟩
theorem d22_313 : Dc code 313 (.dup) 1 314 := ⟨by decide +kernel, rfl⟩
theorem d22_314 : Dc code 314 (.aload 10) 2 316 := ⟨by decide +kernel, rfl⟩
theorem d22_319 : Dc code 319 (.invokevirtual 25) 3 322 := ⟨by decide +kernel, rfl⟩
theorem d22_322 : Db code 322 (.ifCond .eq 7) 7 325 329 := ⟨by decide +kernel, rfl, by decide, by decide⟩
theorem d22_325 : Dc code 325 (.iconst 1) 1 326 := ⟨by decide +kernel, rfl⟩
theorem d22_326 : Db code 326 (.goto 4) 4 329 330 := ⟨by decide +kernel, rfl, by decide, by decide⟩
theorem d22_330 : Dc code 330 (.ireturn) 1 331 := ⟨by decide +kernel, rfl⟩
theorem d22_316 : Dc code 316 (.invokespecial 11) 3 319 := ⟨by decide +kernel, rfl⟩
theorem d22_278 : Db code 278 (.ifCond .eq 7) 7 281 285 := ⟨by decide +kernel, rfl, by decide, by decide⟩
theorem d22_285 : Dc code 285 (.iconst 0) 1 286 := ⟨by decide +kernel, rfl⟩
theorem d22_281 : Dc code 281 (.iconst 1) 1 282 := ⟨by decide +kernel, rfl⟩
theorem d22_282 : Db code 282 (.goto 4) 4 285 286 := ⟨by decide +kernel, rfl, by decide, by decide⟩
theorem d22_31 : Db code 31 (.ifCond .ne 41) 41 34 72 := ⟨by decide +kernel, rfl, by decide, by decide⟩
theorem d22_34 : Dc code 34 (.iconst 5) 1 35 := ⟨by decide +kernel, rfl⟩
theorem d22_35 : Dc code 35 (.newarray .char) 2 37 := ⟨by decide +kernel, rfl⟩
theorem d22_37 : Dc code 37 (.dup) 1 38 := ⟨by decide +kernel, rfl⟩
theorem d22_38 : Dc code 38 (.iconst 0) 1 39 := ⟨by decide +kernel, rfl⟩
theorem d22_39 : Dc code 39 (.bipush 110) 2 41 := ⟨by decide +kernel, rfl⟩
theorem d22_41 : Dc code 41 (.castore) 1 42 := ⟨by decide +kernel, rfl⟩
theorem d22_42 : Dc code 42 (.dup) 1 43 := ⟨by decide +kernel, rfl⟩
theorem d22_43 : Dc code 43 (.iconst 1) 1 44 := ⟨by decide +kernel, rfl⟩
theorem d22_44 : Dc code 44 (.bipush 111) 2 46 := ⟨by decide +kernel, rfl⟩
theorem d22_46 : Dc code 46 (.castore) 1 47 := ⟨by decide +kernel, rfl⟩
theorem d22_47 : Dc code 47 (.dup) 1 48 := ⟨by decide +kernel, rfl⟩
theorem d22_48 : Dc code 48 (.iconst 2) 1 49 := ⟨by decide +kernel, rfl⟩
theorem d22_49 : Dc code 49 (.bipush 109) 2 51 := ⟨by decide +kernel, rfl⟩
theorem d22_51 : Dc code 51 (.castore) 1 52 := ⟨by decide +kernel, rfl⟩
theorem d22_52 : Dc code 52 (.dup) 1 53 := ⟨by decide +kernel, rfl⟩
theorem d22_53 : Dc code 53 (.iconst 3) 1 54 := ⟨by decide +kernel, rfl⟩
theorem d22_54 : Dc code 54 (.bipush 40) 2 56 := ⟨by decide +kernel, rfl⟩
theorem d22_56 : Dc code 56 (.castore) 1 57 := ⟨by decide +kernel, rfl⟩
theorem d22_57 : Dc code 57 (.dup) 1 58 := ⟨by decide +kernel, rfl⟩
theorem d22_58 : Dc code 58 (.iconst 4) 1 59 := ⟨by decide +kernel, rfl⟩
theorem d22_59 : Dc code 59 (.bipush 41) 2 61 := ⟨by decide +kernel, rfl⟩
theorem d22_61 : Dc code 61 (.castore) 1 62 := ⟨by decide +kernel, rfl⟩
theorem d22_62 : Dc code 62 (.astore 9) 2 64 := ⟨by decide +kernel, rfl⟩
theorem d22_64 : Dc code 64 (.iconst 0) 1 65 := ⟨by decide +kernel, rfl⟩
theorem d22_65 : Dc code 65 (.newarray .char) 2 67 := ⟨by decide +kernel, rfl⟩
theorem d22_67 : Dc code 67 (.astore 10) 2 69 := ⟨by decide +kernel, rfl⟩
theorem d22_69 : Db code 69 (.goto 192) 192 72 261 := ⟨by decide +kernel, rfl, by decide, by decide⟩
theorem d22_72 : Dc code 72 (.iload 5) 2 74 := ⟨by decide +kernel, rfl⟩
theorem d22_74 : Dc code 74 (.iconst 1) 1 75 := ⟨by decide +kernel, rfl⟩
theorem d22_75 : Db code 75 (.if_icmp .ne 52) 52 78 127 := ⟨by decide +kernel, rfl, by decide, by decide⟩
theorem d22_78 : Dc code 78 (.bipush 6) 2 80 := ⟨by decide +kernel, rfl⟩
theorem d22_80 : Dc code 80 (.newarray .char) 2 82 := ⟨by decide +kernel, rfl⟩
theorem d22_82 : Dc code 82 (.dup) 1 83 := ⟨by decide +kernel, rfl⟩
theorem d22_83 : Dc code 83 (.iconst 0) 1 84 := ⟨by decide +kernel, rfl⟩
theorem d22_84 : Dc code 84 (.bipush 110) 2 86 := ⟨by decide +kernel, rfl⟩
theorem d22_86 : Dc code 86 (.castore) 1 87 := ⟨by decide +kernel, rfl⟩
theorem d22_87 : Dc code 87 (.dup) 1 88 := ⟨by decide +kernel, rfl⟩
theorem d22_88 : Dc code 88 (.iconst 1) 1 89 := ⟨by decide +kernel, rfl⟩
theorem d22_89 : Dc code 89 (.bipush 111) 2 91 := ⟨by decide +kernel, rfl⟩
theorem d22_91 : Dc code 91 (.castore) 1 92 := ⟨by decide +kernel, rfl⟩
theorem d22_92 : Dc code 92 (.dup) 1 93 := ⟨by decide +kernel, rfl⟩
theorem d22_93 : Dc code 93 (.iconst 2) 1 94 := ⟨by decide +kernel, rfl⟩
theorem d22_94 : Dc code 94 (.bipush 109) 2 96 := ⟨by decide +kernel, rfl⟩
theorem d22_96 : Dc code 96 (.castore) 1 97 := ⟨by decide +kernel, rfl⟩
theorem d22_97 : Dc code 97 (.dup) 1 98 := ⟨by decide +kernel, rfl⟩
theorem d22_98 : Dc code 98 (.iconst 3) 1 99 := ⟨by decide +kernel, rfl⟩
theorem d22_99 : Dc code 99 (.bipush 40) 2 101 := ⟨by decide +kernel, rfl⟩
theorem d22_101 : Dc code 101 (.castore) 1 102 := ⟨by decide +kernel, rfl⟩
theorem d22_102 : Dc code 102 (.dup) 1 103 := ⟨by decide +kernel, rfl⟩
theorem d22_103 : Dc code 103 (.iconst 4) 1 104 := ⟨by decide +kernel, rfl⟩
theorem d22_104 : Dc code 104 (.iload 6) 2 106 := ⟨by decide +kernel, rfl⟩
theorem d22_106 : Dc code 106 (.castore) 1 107 := ⟨by decide +kernel, rfl⟩
theorem d22_107 : Dc code 107 (.dup) 1 108 := ⟨by decide +kernel, rfl⟩
theorem d22_108 : Dc code 108 (.iconst 5) 1 109 := ⟨by decide +kernel, rfl⟩
theorem d22_109 : Dc code 109 (.bipush 41) 2 111 := ⟨by decide +kernel, rfl⟩
theorem d22_111 : Dc code 111 (.castore) 1 112 := ⟨by decide +kernel, rfl⟩
theorem d22_112 : Dc code 112 (.astore 9) 2 114 := ⟨by decide +kernel, rfl⟩
theorem d22_114 : Dc code 114 (.iconst 1) 1 115 := ⟨by decide +kernel, rfl⟩
theorem d22_115 : Dc code 115 (.newarray .char) 2 117 := ⟨by decide +kernel, rfl⟩
theorem d22_117 : Dc code 117 (.dup) 1 118 := ⟨by decide +kernel, rfl⟩
theorem d22_118 : Dc code 118 (.iconst 0) 1 119 := ⟨by decide +kernel, rfl⟩
theorem d22_119 : Dc code 119 (.iload 6) 2 121 := ⟨by decide +kernel, rfl⟩
theorem d22_121 : Dc code 121 (.castore) 1 122 := ⟨by decide +kernel, rfl⟩
theorem d22_122 : Dc code 122 (.astore 10) 2 124 := ⟨by decide +kernel, rfl⟩
theorem d22_124 : Db code 124 (.goto 137) 137 127 261 := ⟨by decide +kernel, rfl, by decide, by decide⟩
theorem d22_127 : Dc code 127 (.iload 5) 2 129 := ⟨by decide +kernel, rfl⟩
theorem d22_129 : Dc code 129 (.iconst 2) 1 130 := ⟨by decide +kernel, rfl⟩
theorem d22_130 : Db code 130 (.if_icmp .ne 63) 63 133 193 := ⟨by decide +kernel, rfl, by decide, by decide⟩
theorem d22_133 : Dc code 133 (.bipush 7) 2 135 := ⟨by decide +kernel, rfl⟩
theorem d22_135 : Dc code 135 (.newarray .char) 2 137 := ⟨by decide +kernel, rfl⟩
theorem d22_137 : Dc code 137 (.dup) 1 138 := ⟨by decide +kernel, rfl⟩
theorem d22_138 : Dc code 138 (.iconst 0) 1 139 := ⟨by decide +kernel, rfl⟩
theorem d22_139 : Dc code 139 (.bipush 110) 2 141 := ⟨by decide +kernel, rfl⟩
theorem d22_141 : Dc code 141 (.castore) 1 142 := ⟨by decide +kernel, rfl⟩
theorem d22_142 : Dc code 142 (.dup) 1 143 := ⟨by decide +kernel, rfl⟩
theorem d22_143 : Dc code 143 (.iconst 1) 1 144 := ⟨by decide +kernel, rfl⟩
theorem d22_144 : Dc code 144 (.bipush 111) 2 146 := ⟨by decide +kernel, rfl⟩
theorem d22_146 : Dc code 146 (.castore) 1 147 := ⟨by decide +kernel, rfl⟩
theorem d22_147 : Dc code 147 (.dup) 1 148 := ⟨by decide +kernel, rfl⟩
theorem d22_148 : Dc code 148 (.iconst 2) 1 149 := ⟨by decide +kernel, rfl⟩
theorem d22_149 : Dc code 149 (.bipush 109) 2 151 := ⟨by decide +kernel, rfl⟩
theorem d22_151 : Dc code 151 (.castore) 1 152 := ⟨by decide +kernel, rfl⟩
theorem d22_152 : Dc code 152 (.dup) 1 153 := ⟨by decide +kernel, rfl⟩
theorem d22_153 : Dc code 153 (.iconst 3) 1 154 := ⟨by decide +kernel, rfl⟩
theorem d22_154 : Dc code 154 (.bipush 40) 2 156 := ⟨by decide +kernel, rfl⟩
theorem d22_156 : Dc code 156 (.castore) 1 157 := ⟨by decide +kernel, rfl⟩
theorem d22_157 : Dc code 157 (.dup) 1 158 := ⟨by decide +kernel, rfl⟩
theorem d22_158 : Dc code 158 (.iconst 4) 1 159 := ⟨by decide +kernel, rfl⟩
theorem d22_159 : Dc code 159 (.iload 6) 2 161 := ⟨by decide +kernel, rfl⟩
theorem d22_161 : Dc code 161 (.castore) 1 162 := ⟨by decide +kernel, rfl⟩
theorem d22_162 : Dc code 162 (.dup) 1 163 := ⟨by decide +kernel, rfl⟩
theorem d22_163 : Dc code 163 (.iconst 5) 1 164 := ⟨by decide +kernel, rfl⟩
theorem d22_164 : Dc code 164 (.iload 7) 2 166 := ⟨by decide +kernel, rfl⟩
theorem d22_166 : Dc code 166 (.castore) 1 167 := ⟨by decide +kernel, rfl⟩
theorem d22_167 : Dc code 167 (.dup) 1 168 := ⟨by decide +kernel, rfl⟩
theorem d22_168 : Dc code 168 (.bipush 6) 2 170 := ⟨by decide +kernel, rfl⟩
theorem d22_170 : Dc code 170 (.bipush 41) 2 172 := ⟨by decide +kernel, rfl⟩
theorem d22_172 : Dc code 172 (.castore) 1 173 := ⟨by decide +kernel, rfl⟩
theorem d22_173 : Dc code 173 (.astore 9) 2 175 := ⟨by decide +kernel, rfl⟩
theorem d22_175 : Dc code 175 (.iconst 2) 1 176 := ⟨by decide +kernel, rfl⟩
theorem d22_176 : Dc code 176 (.newarray .char) 2 178 := ⟨by decide +kernel, rfl⟩
theorem d22_178 : Dc code 178 (.dup) 1 179 := ⟨by decide +kernel, rfl⟩
theorem d22_179 : Dc code 179 (.iconst 0) 1 180 := ⟨by decide +kernel, rfl⟩
theorem d22_180 : Dc code 180 (.iload 6) 2 182 := ⟨by decide +kernel, rfl⟩
theorem d22_182 : Dc code 182 (.castore) 1 183 := ⟨by decide +kernel, rfl⟩
theorem d22_183 : Dc code 183 (.dup) 1 184 := ⟨by decide +kernel, rfl⟩
theorem d22_184 : Dc code 184 (.iconst 1) 1 185 := ⟨by decide +kernel, rfl⟩
theorem d22_185 : Dc code 185 (.iload 7) 2 187 := ⟨by decide +kernel, rfl⟩
theorem d22_187 : Dc code 187 (.castore) 1 188 := ⟨by decide +kernel, rfl⟩
theorem d22_188 : Dc code 188 (.astore 10) 2 190 := ⟨by decide +kernel, rfl⟩
theorem d22_190 : Db code 190 (.goto 71) 71 193 261 := ⟨by decide +kernel, rfl, by decide, by decide⟩
theorem d22_193 : Dc code 193 (.bipush 8) 2 195 := ⟨by decide +kernel, rfl⟩
theorem d22_195 : Dc code 195 (.newarray .char) 2 197 := ⟨by decide +kernel, rfl⟩
theorem d22_197 : Dc code 197 (.dup) 1 198 := ⟨by decide +kernel, rfl⟩
theorem d22_198 : Dc code 198 (.iconst 0) 1 199 := ⟨by decide +kernel, rfl⟩
theorem d22_199 : Dc code 199 (.bipush 110) 2 201 := ⟨by decide +kernel, rfl⟩
theorem d22_201 : Dc code 201 (.castore) 1 202 := ⟨by decide +kernel, rfl⟩
theorem d22_202 : Dc code 202 (.dup) 1 203 := ⟨by decide +kernel, rfl⟩
theorem d22_203 : Dc code 203 (.iconst 1) 1 204 := ⟨by decide +kernel, rfl⟩
theorem d22_204 : Dc code 204 (.bipush 111) 2 206 := ⟨by decide +kernel, rfl⟩
theorem d22_206 : Dc code 206 (.castore) 1 207 := ⟨by decide +kernel, rfl⟩
theorem d22_207 : Dc code 207 (.dup) 1 208 := ⟨by decide +kernel, rfl⟩
theorem d22_208 : Dc code 208 (.iconst 2) 1 209 := ⟨by decide +kernel, rfl⟩
theorem d22_209 : Dc code 209 (.bipush 109) 2 211 := ⟨by decide +kernel, rfl⟩
theorem d22_211 : Dc code 211 (.castore) 1 212 := ⟨by decide +kernel, rfl⟩
theorem d22_212 : Dc code 212 (.dup) 1 213 := ⟨by decide +kernel, rfl⟩
theorem d22_213 : Dc code 213 (.iconst 3) 1 214 := ⟨by decide +kernel, rfl⟩
theorem d22_214 : Dc code 214 (.bipush 40) 2 216 := ⟨by decide +kernel, rfl⟩
theorem d22_216 : Dc code 216 (.castore) 1 217 := ⟨by decide +kernel, rfl⟩
theorem d22_217 : Dc code 217 (.dup) 1 218 := ⟨by decide +kernel, rfl⟩
theorem d22_218 : Dc code 218 (.iconst 4) 1 219 := ⟨by decide +kernel, rfl⟩
theorem d22_219 : Dc code 219 (.iload 6) 2 221 := ⟨by decide +kernel, rfl⟩
theorem d22_221 : Dc code 221 (.castore) 1 222 := ⟨by decide +kernel, rfl⟩
theorem d22_222 : Dc code 222 (.dup) 1 223 := ⟨by decide +kernel, rfl⟩
theorem d22_223 : Dc code 223 (.iconst 5) 1 224 := ⟨by decide +kernel, rfl⟩
theorem d22_224 : Dc code 224 (.iload 7) 2 226 := ⟨by decide +kernel, rfl⟩
theorem d22_226 : Dc code 226 (.castore) 1 227 := ⟨by decide +kernel, rfl⟩
theorem d22_227 : Dc code 227 (.dup) 1 228 := ⟨by decide +kernel, rfl⟩
theorem d22_228 : Dc code 228 (.bipush 6) 2 230 := ⟨by decide +kernel, rfl⟩
theorem d22_230 : Dc code 230 (.iload 8) 2 232 := ⟨by decide +kernel, rfl⟩
theorem d22_232 : Dc code 232 (.castore) 1 233 := ⟨by decide +kernel, rfl⟩
theorem d22_233 : Dc code 233 (.dup) 1 234 := ⟨by decide +kernel, rfl⟩
theorem d22_234 : Dc code 234 (.bipush 7) 2 236 := ⟨by decide +kernel, rfl⟩
theorem d22_236 : Dc code 236 (.bipush 41) 2 238 := ⟨by decide +kernel, rfl⟩
theorem d22_238 : Dc code 238 (.castore) 1 239 := ⟨by decide +kernel, rfl⟩
theorem d22_239 : Dc code 239 (.astore 9) 2 241 := ⟨by decide +kernel, rfl⟩
theorem d22_241 : Dc code 241 (.iconst 3) 1 242 := ⟨by decide +kernel, rfl⟩
theorem d22_242 : Dc code 242 (.newarray .char) 2 244 := ⟨by decide +kernel, rfl⟩
theorem d22_244 : Dc code 244 (.dup) 1 245 := ⟨by decide +kernel, rfl⟩
theorem d22_245 : Dc code 245 (.iconst 0) 1 246 := ⟨by decide +kernel, rfl⟩
theorem d22_246 : Dc code 246 (.iload 6) 2 248 := ⟨by decide +kernel, rfl⟩
theorem d22_248 : Dc code 248 (.castore) 1 249 := ⟨by decide +kernel, rfl⟩
theorem d22_249 : Dc code 249 (.dup) 1 250 := ⟨by decide +kernel, rfl⟩
theorem d22_250 : Dc code 250 (.iconst 1) 1 251 := ⟨by decide +kernel, rfl⟩
theorem d22_251 : Dc code 251 (.iload 7) 2 253 := ⟨by decide +kernel, rfl⟩
theorem d22_253 : Dc code 253 (.castore) 1 254 := ⟨by decide +kernel, rfl⟩
theorem d22_254 : Dc code 254 (.dup) 1 255 := ⟨by decide +kernel, rfl⟩
theorem d22_255 : Dc code 255 (.iconst 2) 1 256 := ⟨by decide +kernel, rfl⟩
theorem d22_256 : Dc code 256 (.iload 8) 2 258 := ⟨by decide +kernel, rfl⟩
theorem d22_258 : Dc code 258 (.castore) 1 259 := ⟨by decide +kernel, rfl⟩
theorem d22_259 : Dc code 259 (.astore 10) 2 261 := ⟨by decide +kernel, rfl⟩
theorem strAtoms {Z : State} {a0 : Array Value} (hw : HW Z a0) : ∀ a ∈ Bundle.stringAtoms, a.before a0 Z = true := fun d hd => by
  simp only [Bundle.stringAtoms, List.mem_cons, List.not_mem_nil, or_false] at hd
  rcases hd with rfl | rfl | rfl | rfl | rfl | rfl | rfl
  · first | exact (w6 hw) | exact (w5 hw) | exact (w22 hw) | exact (w32 hw) | exact (w30 hw) | exact (w52 hw) | exact (w53 hw)
  · first | exact (w6 hw) | exact (w5 hw) | exact (w22 hw) | exact (w32 hw) | exact (w30 hw) | exact (w52 hw) | exact (w53 hw)
  · first | exact (w6 hw) | exact (w5 hw) | exact (w22 hw) | exact (w32 hw) | exact (w30 hw) | exact (w52 hw) | exact (w53 hw)
  · first | exact (w6 hw) | exact (w5 hw) | exact (w22 hw) | exact (w32 hw) | exact (w30 hw) | exact (w52 hw) | exact (w53 hw)
  · first | exact (w6 hw) | exact (w5 hw) | exact (w22 hw) | exact (w32 hw) | exact (w30 hw) | exact (w52 hw) | exact (w53 hw)
  · first | exact (w6 hw) | exact (w5 hw) | exact (w22 hw) | exact (w32 hw) | exact (w30 hw) | exact (w52 hw) | exact (w53 hw)
  · first | exact (w6 hw) | exact (w5 hw) | exact (w22 hw) | exact (w32 hw) | exact (w30 hw) | exact (w52 hw) | exact (w53 hw)

def Sts (Z : State) : Prop := (∃ cv : Int32, Sta Z Z.heap "java/lang/String" "COMPACT_STRINGS" "Z" (.int cv) ∧ ¬ cv = 0) ∧ (∃ fv : Value, Sta Z Z.heap "jdk/internal/util/Preconditions" "SIOOBE_FORMATTER" "Ljava/util/function/BiFunction;" fv ∧ fv.isRef = true) ∧ True
/-- a sign from 0 to 255 -/
def C8 (c : Int32) : Prop := ¬ 255 < c ∧ ¬ c < 0
theorem k_and255 (p : Int32) : 0 ≤ (p &&& 255).toInt ∧ (p &&& 255).toInt ≤ 255 := by
  have h2 : (p.toBitVec &&& 255#32).toNat ≤ 255 := by rw [BitVec.toNat_and]; exact Nat.and_le_right
  have e : (p &&& 255).toInt = ((p.toBitVec &&& 255#32).toNat : Int) := by
    have h1 : (p &&& 255).toBitVec = p.toBitVec &&& 255#32 := by simp
    rw [← Int32.toInt_toBitVec, h1, BitVec.toInt_eq_toNat_of_lt (by omega)]
  omega
theorem c8_int {c : Int32} : C8 c ↔ 0 ≤ c.toInt ∧ c.toInt ≤ 255 := by
  rw [C8, Int32.lt_iff_toInt_lt, Int32.lt_iff_toInt_lt, show (255 : Int32).toInt = 255 from by decide, show (0 : Int32).toInt = 0 from by decide]; omega
theorem c8_and (p : Int32) : C8 (p &&& 255) := c8_int.mpr (k_and255 p)
theorem k_le255 (p : Int32) : ¬ (255 : Int32) < p &&& 255 := (c8_and p).1
theorem k_c255' (p : Int32) : (p &&& 255).toUInt32.toUInt16.toUInt32.toInt32 = p &&& 255 := i2c_mask p
theorem k_c255 (p : Int32) : RoadKit.nar .char (p &&& 255).toUInt32.toUInt16.toUInt32.toInt32 = p &&& 255 := by rw [i2c_mask]; exact i2c_mask p
theorem c8_nat {c : Int32} (h : C8 c) : ∃ m : Nat, m < 256 ∧ c = Int32.ofNat m := by
  have h := c8_int.mp h
  exact ⟨c.toInt.toNat, by omega, by rw [← Int32.toInt_inj, k_ofNat (by omega)]; omega⟩
theorem c8_all : ∀ m, m < 256 → Int32.ofNat m &&& 255 = Int32.ofNat m ∧ lo8 (Int32.ofNat m) &&& 255 = Int32.ofNat m := by decide +kernel
theorem c8_and_self {c : Int32} (h : C8 c) : c &&& 255 = c := by
  obtain ⟨m, hm, rfl⟩ := c8_nat h
  exact (c8_all m hm).1
theorem nar_c8 {c : Int32} (h : C8 c) : RoadKit.nar .char c = c := by
  rw [← c8_and_self h]; exact i2c_mask c
theorem b8_inj {c d : Int32} (h : C8 c) (h' : C8 d) : lo8 c = lo8 d ↔ c = d := by
  refine ⟨fun q => ?_, fun q => by rw [q]⟩
  obtain ⟨m, hm, rfl⟩ := c8_nat h
  obtain ⟨m', hm', rfl⟩ := c8_nat h'
  have := congrArg (· &&& 255) q
  rwa [(c8_all m hm).2, (c8_all m' hm').2] at this

theorem k_and3 (x : Int32) : x &&& 3 = 0 ∨ x &&& 3 = 1 ∨ x &&& 3 = 2 ∨ x &&& 3 = 3 := by
  have h2 : (x.toBitVec &&& 3#32).toNat ≤ 3 := by rw [BitVec.toNat_and]; exact Nat.and_le_right
  have e : x &&& 3 = Int32.ofNat (x.toBitVec &&& 3#32).toNat := by
    apply Int32.toBitVec_inj.mp
    simp
  rw [e]
  generalize (x.toBitVec &&& 3#32).toNat = m at h2
  have : m = 0 ∨ m = 1 ∨ m = 2 ∨ m = 3 := by omega
  rcases this with rfl | rfl | rfl | rfl <;> decide
theorem k_lat {cs : List Int32} (hC8 : ∀ c ∈ cs, C8 c) : ∀ c ∈ ([110, 111, 109, 40] ++ cs ++ [41] : List Int32), ¬ 255 < c := by
  intro c hc
  simp only [List.mem_append, List.mem_cons, List.not_mem_nil, or_false] at hc
  rcases hc with ((rfl | rfl | rfl | rfl) | hc) | rfl
  · decide
  · decide
  · decide
  · decide
  · exact (hC8 c hc).1
  · decide
theorem k_b8s {cs : List Int32} (hC8 : ∀ c ∈ cs, C8 c) : ([110, 111, 109, 40] ++ cs ++ [41] : List Int32).map lo8 = [110, 111, 109, 40] ++ cs.map lo8 ++ [41] := by
  have e1 : lo8 110 = 110 := by decide
  have e2 : lo8 111 = 111 := by decide
  have e3 : lo8 109 = 109 := by decide
  have e4 : lo8 40 = 40 := by decide
  have e5 : lo8 41 = 41 := by decide
  simp [e1, e2, e3, e4, e5]
set_option maxRecDepth 65536 in
set_option maxHeartbeats 40000000 in
theorem c_initBB {nw : Bool} {l : Launch} {Z : State} {EL : List (String × Nat)} {a0 : Array Value} (hw : HW Z a0) (hs : Sts Z) {h0 : Heap} {B0 : BP} (a t : Addr) (cd : Int32) (E_a : Exa Z h0 a "java/lang/String") {u_value : Value} (F_value : Fld Z h0 a "java/lang/String" "value" "[B" u_value) {u_coder : Value} (F_coder : Fld Z h0 a "java/lang/String" "coder" "B" u_coder) (nb : ¬ B0 a) (zl : Z.heap.size ≤ a) (hcd : cd = 0 ∨ cd = 1) :
    Con nw l Z EL (⟨"java/lang/String", "<init>", "([BB)V"⟩ : MethodName) jdk_42_method_151_code 3 none [] ({ frames := 1, cells := 0, slots := 0, locals := 12 } : Room) #[(.ref a), (.ref t), (.int cd)] h0 B0 [a] (fun v h B => v = none ∧ B0 = B ∧ Exa Z h a "java/lang/String" ∧ Fld Z h a "java/lang/String" "coder" "B" (.int cd) ∧ Fld Z h a "java/lang/String" "value" "[B" (.ref t)) := by
  refine k_intro (Ls := #[.val (.ref a), .val (.ref t), .val (.int cd)]) (by decide +kernel) rfl fun x T0 X0 => ?_
  have lt_a := k_ltE E_a
  refine g_aloadN X0 d0_0 rfl rfl ?_
  refine g_init X0 d0_1 rfl rfl (w14 hw) (w15 hw) (w16 hw) 0 rfl (by decide) (Nat.le_of_eq rfl) (by decide) fun T1 X1 => ?_
  refine g_aloadN X1 d0_4 rfl rfl ?_
  refine g_aloadN X1 d0_5 rfl rfl ?_
  refine g_putfield X1 d0_6 (w31 hw) Via.refl F_value E_a (Or.inr ⟨(w32 hw), rfl, rfl⟩) (w5 hw) (ty := (.array .byte)) (v' := (.ref t)) (by decide) rfl rfl nb zl (Or.inl (List.mem_of_getElem? (i := 0) rfl)) fun T2 h2 X2 W2 => ?_
  have z2 := W2.size; have Fw2 := F_value.same W2
  refine g_aloadN X2 d0_9 rfl rfl ?_
  refine g_iloadN X2 d0_10 rfl ?_
  have F3 := (F_coder.other W2 (Or.inr (slot_ne (Or.inr (w30 hw)) (Or.inr (w32 hw)) (by decide) (t := .byte) (t' := (.array .byte)) (by decide) (by decide))))
  have E_4 := (E_a.wr W2)
  refine g_putfield X2 d0_11 (w29 hw) Via.refl F3 E_4 (Or.inr ⟨(w30 hw), rfl, rfl⟩) (w5 hw) (ty := .byte) (v' := (.int cd)) (by decide) (by rcases hcd with rfl | rfl <;> rfl) (by rcases hcd with rfl | rfl <;> rfl) nb zl (Or.inl (List.mem_of_getElem? (i := 0) rfl)) fun T5 h5 X5 W5 => ?_
  have z5 := W5.size; have Fw5 := F3.same W5
  have F6 := (Fw2.other W5 (Or.inr (slot_ne (Or.inr (w32 hw)) (Or.inr (w30 hw)) (by decide) (t := (.array .byte)) (t' := .byte) (by decide) (by decide))))
  have E_7 := (E_4.wr W5)
  exact g_return X5 d0_14 (by decide) (by decide) ⟨rfl, rfl, E_7, Fw5, F6⟩
set_option maxRecDepth 65536 in
set_option maxHeartbeats 40000000 in
theorem c_compress5 {nw : Bool} {l : Launch} {Z : State} {EL : List (String × Nat)} {a0 : Array Value} (hw : HW Z a0) (hs : Sts Z) {h0 : Heap} {B0 : BP} (a1 a2 : Addr) (cs : List Int32) (Aa : Ay Z h0 a1 .char (cs.map Value.int)) (Ab : Ay Z h0 a2 .byte (List.replicate cs.length (.int 0))) (ne : @Ne Nat a1 a2) (nb : ¬ B0 a2) (zl : Z.heap.size ≤ a2) :
    Con nw l Z EL (⟨"java/lang/StringUTF16", "compress", "([CI[BII)I"⟩ : MethodName) jdk_52_method_21_code 7 (some .int) [] ({ frames := 0, cells := 0, slots := 0, locals := 0 } : Room) #[(.ref a1), (.int (0 : Int32)), (.ref a2), (.int (0 : Int32)), (.int (Int32.ofNat cs.length))] h0 B0 [a2] (fun v h B => ∃ i, i ≤ cs.length ∧ v = some (.int (Int32.ofNat i)) ∧ B0 = B ∧ (∀ c ∈ cs.take i, ¬ 255 < c) ∧ (∀ hi : i < cs.length, 255 < cs[i]) ∧ Ay Z h a2 .byte ((cs.take i).map (fun c => Value.int (lo8 c)) ++ List.replicate (cs.length - i) (.int 0))) := by
  refine k_intro (Ls := #[.val (.ref a1), .val (.int (0 : Int32)), .val (.ref a2), .val (.int (0 : Int32)), .val (.int (Int32.ofNat cs.length)), .unset, .unset]) (by decide +kernel) rfl fun x T0 X0 => ?_
  have hlen : cs.length < 2 ^ 31 := by simpa using Aa.len
  refine g_iconst X0 (0 : Int32) d1_0 (by decide) ?_
  refine g_istore X0 #[.val (.ref a1), .val (.int (0 : Int32)), .val (.ref a2), .val (.int (0 : Int32)), .val (.int (Int32.ofNat cs.length)), .val (.int (0 : Int32)), .unset] d1_1 rfl ?_
  have loop : ∀ (d i : Nat) (hi : i + d = cs.length) (s6 : Slot) (h6 : LS s6) (T : State) (h : Heap) (X : Wk nw l Z EL "java/lang/StringUTF16" jdk_52_method_21_code 7 (some .int) "compress" ({ frames := 0, cells := 0, slots := 0, locals := 0 } : Room) h0 B0 [a2] (fun v h B => ∃ i, i ≤ cs.length ∧ v = some (.int (Int32.ofNat i)) ∧ B0 = B ∧ (∀ c ∈ cs.take i, ¬ 255 < c) ∧ (∀ hi : i < cs.length, 255 < cs[i]) ∧ Ay Z h a2 .byte ((cs.take i).map (fun c => Value.int (lo8 c)) ++ List.replicate (cs.length - i) (.int 0))) x T h B0 0 0) (hlo : ∀ c ∈ cs.take i, ¬ 255 < c) (A : Ay Z h a2 .byte ((cs.take i).map (fun c => Value.int (lo8 c)) ++ List.replicate (cs.length - i) (.int 0))), Go x (T.setTop (mkF x.m 3 #[.val (.ref a1), .val (.int (Int32.ofNat i)), .val (.ref a2), .val (.int (Int32.ofNat i)), .val (.int (Int32.ofNat cs.length)), .val (.int (Int32.ofNat i)), s6] [])) := by
    intro d
    induction d with
    | zero =>
      intro i hi s6 h6 T h X hlo A
      obtain rfl : i = cs.length := by omega
      refine g_iload X d1_3 rfl ?_
      refine g_iload X d1_5 rfl ?_
      refine g_icmpT X d1_7 (XT.ii_ge_t (k_nlt (Nat.le_refl _) hlen)) ?_
      refine g_iload X d1_44 rfl ?_
      exact g_ireturnI X d1_46 (by decide) (by decide) ⟨cs.length, Nat.le_refl _, rfl, rfl, hlo, fun hi => absurd hi (Nat.lt_irrefl _), A⟩
    | succ d ih =>
      intro i hi s6 h6 T h X hlo A
      have hil : i < cs.length := by omega
      refine g_iload X d1_3 rfl ?_
      refine g_iload X d1_5 rfl ?_
      refine g_icmpF X d1_7 (XT.ii_ge_f (k_lt hil hlen)) ?_
      refine g_aloadN X d1_10 rfl rfl ?_
      refine g_iloadN X d1_11 rfl ?_
      have Aa' := Aa.keep X.kept (ninS ne nin0)
      refine g_caload X d1_12 Aa' i rfl (v := .int cs[i]) (by simp [hil]) ?_
      refine g_istore X #[.val (.ref a1), .val (.int (Int32.ofNat i)), .val (.ref a2), .val (.int (Int32.ofNat i)), .val (.int (Int32.ofNat cs.length)), .val (.int (Int32.ofNat i)), .val (.int (cs[i]))] d1_13 (by rcases h6 with rfl | ⟨u, rfl⟩ <;> rfl) ?_
      refine g_iload X d1_15 rfl ?_
      refine g_sipush X (255 : Int32) d1_17 (by decide) ?_
      by_cases hb : (255 : Int32) < (cs[i])
      ·
        refine g_icmpF X d1_20 (XT.ii_le_f hb) ?_
        refine g_iload X d1_23 rfl ?_
        exact g_ireturnI X d1_25 (by decide) (by decide) ⟨i, Nat.le_of_lt hil, rfl, rfl, hlo, fun _ => hb, A⟩
      ·
        refine g_icmpT X d1_20 (XT.ii_le_t hb) ?_
        refine g_aloadN X d1_26 rfl rfl ?_
        refine g_iloadN X d1_27 rfl ?_
        refine g_iload X d1_28 rfl ?_
        refine g_i2b X (lo8 cs[i]) d1_30 rfl ?_
        refine g_bastore X d1_31 A i rfl (lo8 cs[i]) (nar_b8 _) (by simp; omega) nb zl (Or.inl (List.mem_of_getElem? (i := 0) rfl)) fun T1 h1 X1 K1 A1 => ?_
        have z1 := K1.1
        rw [k_fill cs lo8 i hil] at A1
        refine g_iinc X1 #[.val (.ref a1), .val (.int (Int32.ofNat (i + 1))), .val (.ref a2), .val (.int (Int32.ofNat i)), .val (.int (Int32.ofNat cs.length)), .val (.int (Int32.ofNat i)), .val (.int (cs[i]))] d1_32 rfl (k_inc i) rfl ?_
        refine g_iinc X1 #[.val (.ref a1), .val (.int (Int32.ofNat (i + 1))), .val (.ref a2), .val (.int (Int32.ofNat (i + 1))), .val (.int (Int32.ofNat cs.length)), .val (.int (Int32.ofNat i)), .val (.int (cs[i]))] d1_35 rfl (k_inc i) rfl ?_
        refine g_iinc X1 #[.val (.ref a1), .val (.int (Int32.ofNat (i + 1))), .val (.ref a2), .val (.int (Int32.ofNat (i + 1))), .val (.int (Int32.ofNat cs.length)), .val (.int (Int32.ofNat (i + 1))), .val (.int (cs[i]))] d1_38 rfl (k_inc i) rfl ?_
        refine g_goto X1 d1_41 ?_
        refine ih (i + 1) (by omega) (.val (.int cs[i])) (Or.inr ⟨_, rfl⟩) T1 h1 X1 ?_ A1
        intro c hc
        rw [List.take_succ_eq_append_getElem hil] at hc
        rcases List.mem_append.mp hc with q | q
        · exact hlo c q
        · rw [List.mem_singleton.mp q]; exact hb
  exact loop cs.length 0 (by omega) .unset (Or.inl rfl) T0 h0 X0 (fun c q => by simp at q) (by simpa using Ab)
set_option maxRecDepth 65536 in
set_option maxHeartbeats 40000000 in
theorem c_compress3L {nw : Bool} {l : Launch} {Z : State} {EL : List (String × Nat)} {a0 : Array Value} (hw : HW Z a0) (hs : Sts Z) {h0 : Heap} {B0 : BP} (a1 : Addr) (cs : List Int32) (Aa : Ay Z h0 a1 .char (cs.map Value.int)) (hcap : cs.length ≤ 8) (hlat : ∀ c ∈ cs, ¬ 255 < c) :
    Con nw l Z EL (⟨"java/lang/StringUTF16", "compress", "([CII)[B"⟩ : MethodName) jdk_52_method_16_code 6 (some (.array .byte)) [] ({ frames := 1, cells := 1, slots := 8, locals := 18 } : Room) #[(.ref a1), (.int (0 : Int32)), (.int (Int32.ofNat cs.length))] h0 B0 [] (fun v h B => ∃ t, v = some (.ref t) ∧ B0 = B ∧ h0.size ≤ t ∧ Ay Z h t .byte ((cs.map lo8).map Value.int)) := by
  refine k_intro (Ls := #[.val (.ref a1), .val (.int (0 : Int32)), .val (.int (Int32.ofNat cs.length)), .unset, .unset, .unset]) (by decide +kernel) rfl fun x T0 X0 => ?_
  have hlen : cs.length < 2 ^ 31 := by omega
  have lt_a1 := Aa.lt
  refine g_iloadN X0 d2_0 rfl ?_
  refine g_newarray X0 d2_1 rfl (w22 hw) cs.length 8 rfl hcap (by decide) 1 8 rfl rfl (by decide) (by decide) fun T1 h1 b1 X1 E1 eb1 nb1 A1 => ?_
  have z1 := E1.1; have lt1 : @LT.lt Nat _ b1 h1.size := A1.lt; have zl1 : @LE.le Nat _ Z.heap.size b1 := eb1 ▸ X0.szZ; have fr1 : @LE.le Nat _ h0.size b1 := eb1 ▸ X0.sz
  refine g_astoreN X1 #[.val (.ref a1), .val (.int (0 : Int32)), .val (.int (Int32.ofNat cs.length)), .val (.ref b1), .unset, .unset] d2_3 rfl rfl ?_
  refine g_aloadN X1 d2_4 rfl rfl ?_
  refine g_iloadN X1 d2_5 rfl ?_
  refine g_aloadN X1 d2_6 rfl rfl ?_
  refine g_iconst X1 (0 : Int32) d2_7 (by decide) ?_
  refine g_iloadN X1 d2_8 rfl ?_
  have A2 := (Aa.ext E1)
  refine g_callS X1 d2_9 (w23 hw) (w24 hw) (w20 hw) (w25 hw) (by decide) pd0 [(.ref a1), (.int (0 : Int32)), (.ref b1), (.int (0 : Int32)), (.int (Int32.ofNat cs.length))] [] 0 (c_compress5 hw hs a1 b1 cs A2 A1 (k_neN (by omega)) nb1 zl1) rfl rfl rfl (Nat.le_of_eq rfl) (by decide) (by decide) 1 8 rfl rfl (by decide) (by decide) (k_ws1 ⟨nb1, zl1, (Or.inr fr1)⟩) fun v3 T3 h3 B3 X3 K3 M3 q3 => ?_
  obtain ⟨i, hi, rfl, rfl, hlo, hhi, At⟩ := q3
  have z3 := K3.1
  show Go x (T3.setTop (mkF x.m 12 #[.val (.ref a1), .val (.int (0 : Int32)), .val (.int (Int32.ofNat cs.length)), .val (.ref b1), .unset, .unset] [(.int (Int32.ofNat i))]))
  obtain rfl : i = cs.length := by
    rcases Nat.lt_or_ge i cs.length with q | q
    · exact absurd (hhi q) (hlat _ (List.getElem_mem q))
    · omega
  refine g_istore X3 #[.val (.ref a1), .val (.int (0 : Int32)), .val (.int (Int32.ofNat cs.length)), .val (.ref b1), .val (.int (Int32.ofNat cs.length)), .unset] d2_12 rfl ?_
  refine g_iload X3 d2_14 rfl ?_
  refine g_iloadN X3 d2_16 rfl ?_
  refine g_icmpT X3 d2_17 (XT.ii_eq_t rfl) ?_
  refine g_aloadN X3 d2_57 rfl rfl ?_
  exact g_areturn X3 d2_58 rfl rfl rfl (by decide) (by decide) ⟨_, rfl, rfl, fr1, by simp at At; rw [List.map_map]; exact At⟩
set_option maxRecDepth 65536 in
set_option maxHeartbeats 40000000 in
theorem c_coderL {nw : Bool} {l : Launch} {Z : State} {EL : List (String × Nat)} {a0 : Array Value} (hw : HW Z a0) (hs : Sts Z) {h0 : Heap} {B0 : BP} (t : Addr) (vs : List Value) (A : Ay Z h0 t .byte vs) :
    Con nw l Z EL (⟨"java/lang/StringUTF16", "coderFromArrayLen", "([BI)B"⟩ : MethodName) jdk_52_method_15_code 2 (some .byte) [] ({ frames := 0, cells := 0, slots := 0, locals := 0 } : Room) #[(.ref t), (.int (Int32.ofNat vs.length))] h0 B0 [] (PQ (some (.int (0 : Int32))) h0 B0) := by
  refine k_intro (Ls := #[.val (.ref t), .val (.int (Int32.ofNat vs.length))]) (by decide +kernel) rfl fun x T0 X0 => ?_
  refine g_iloadN X0 d3_0 rfl ?_
  refine g_aloadN X0 d3_1 rfl rfl ?_
  refine g_arraylength X0 d3_2 A _ rfl ?_
  refine g_isub X0 (0 : Int32) d3_3 (by simp) ?_
  refine g_bipush X0 (31 : Int32) d3_4 (by decide) ?_
  refine g_iushr X0 (0 : Int32) d3_6 (by decide) ?_
  refine g_i2b X0 (0 : Int32) d3_7 (by decide) ?_
  exact g_ireturn (w' := (0 : Int32)) X0 d3_8 (Or.inr (Or.inl rfl)) (by decide) (by decide) (by decide) ⟨rfl, rfl, rfl⟩
set_option maxRecDepth 65536 in
set_option maxHeartbeats 40000000 in
theorem c_initCIIL {nw : Bool} {l : Launch} {Z : State} {EL : List (String × Nat)} {a0 : Array Value} (hw : HW Z a0) (hs : Sts Z) {h0 : Heap} {B0 : BP} (a a1 : Addr) (cs : List Int32) (E_a : Exa Z h0 a "java/lang/String") {u_value : Value} (F_value : Fld Z h0 a "java/lang/String" "value" "[B" u_value) {u_coder : Value} (F_coder : Fld Z h0 a "java/lang/String" "coder" "B" u_coder) (nb : ¬ B0 a) (zl : Z.heap.size ≤ a) (Aa : Ay Z h0 a1 .char (cs.map Value.int)) (ne : @Ne Nat a a1) (hne : cs ≠ []) (hcap : cs.length ≤ 8) (hlat : ∀ c ∈ cs, ¬ 255 < c) :
    Con nw l Z EL (⟨"java/lang/String", "<init>", "([CIILjava/lang/Void;)V"⟩ : MethodName) jdk_42_method_149_code 6 none [] ({ frames := 2, cells := 1, slots := 8, locals := 35 } : Room) #[(.ref a), (.ref a1), (.int (0 : Int32)), (.int (Int32.ofNat cs.length)), .null] h0 B0 [a] (fun v h B => v = none ∧ B0 = B ∧ Str Z h h.size a 0 (cs.map lo8)) := by
  refine k_intro (Ls := #[.val (.ref a), .val (.ref a1), .val (.int (0 : Int32)), .val (.int (Int32.ofNat cs.length)), .val .null, .unset]) (by decide +kernel) rfl fun x T0 X0 => ?_
  have hlen : cs.length < 2 ^ 31 := by omega
  have hpos : 0 < cs.length := List.length_pos_iff.mpr hne
  have lt_a1 := Aa.lt
  obtain ⟨cv, sCS, ncv⟩ := hs.1
  have lt_a := k_ltE E_a
  refine g_aloadN X0 d4_0 rfl rfl ?_
  refine g_init X0 d4_1 rfl rfl (w14 hw) (w15 hw) (w16 hw) 0 rfl (by decide) (Nat.le_of_eq rfl) (by decide) fun T1 X1 => ?_
  refine g_iloadN X1 d4_4 rfl ?_
  refine g_ifT X1 d4_5 (XT.i0_ne_t (fun q => absurd ((k_eqn hlen (by decide)).mp (show Int32.ofNat cs.length = Int32.ofNat 0 from q)) (by omega))) ?_
  refine g_getstatic X1 d4_27 (w17 hw) Via.refl sCS fun T2 X2 => ?_
  refine g_ifF X2 d4_30 (XT.i0_eq_f ncv) ?_
  refine g_aloadN X2 d4_33 rfl rfl ?_
  refine g_iloadN X2 d4_34 rfl ?_
  refine g_iloadN X2 d4_35 rfl ?_
  refine g_callS X2 d4_36 (w18 hw) (w19 hw) (w20 hw) (w21 hw) (by decide) pd1 [(.ref a1), (.int (0 : Int32)), (.int (Int32.ofNat cs.length))] [] 0 (c_compress3L hw hs a1 cs Aa hcap hlat) rfl rfl rfl (Nat.le_of_eq rfl) (by decide) (by decide) 1 8 rfl rfl (by decide) (by decide) (fun _ q => nomatch q) fun v3 T3 h3 B3 X3 K3 M3 q3 => ?_
  obtain ⟨t, rfl, rfl, ft, At⟩ := q3
  have z3 := K3.1
  show Go x (T3.setTop (mkF x.m 39 #[.val (.ref a), .val (.ref a1), .val (.int (0 : Int32)), .val (.int (Int32.ofNat cs.length)), .val .null, .unset] [(.ref t)]))
  have lt_t := At.lt
  refine g_astore X3 #[.val (.ref a), .val (.ref a1), .val (.int (0 : Int32)), .val (.int (Int32.ofNat cs.length)), .val .null, .val (.ref t)] d4_39 rfl rfl ?_
  refine g_aloadN X3 d4_41 rfl rfl ?_
  refine g_aload X3 d4_42 rfl rfl ?_
  refine g_iloadN X3 d4_44 rfl ?_
  have hl2 : ((cs.map lo8).map Value.int).length = cs.length := by simp
  refine g_callSp X3 d4_45 (w26 hw) (w27 hw) (w20 hw) (w28 hw) (by decide) pd2 [(.ref t), (.int (Int32.ofNat cs.length))] [(.ref a)] 1 (hl2 ▸ c_coderL hw hs t ((cs.map lo8).map Value.int) At) rfl rfl rfl (Nat.le_of_eq rfl) (by decide) (by decide) 1 8 rfl rfl (by decide) (by decide) fun T4 X4 => ?_
  have F5 := (F_coder.keep K3 nin0)
  have E_6 := (E_a.keep K3)
  refine g_putfield X4 d4_48 (w29 hw) Via.refl F5 E_6 (Or.inr ⟨(w30 hw), rfl, rfl⟩) (w5 hw) (ty := .byte) (v' := (.int (0 : Int32))) (by decide) rfl rfl nb zl (Or.inl (List.mem_of_getElem? (i := 0) rfl)) fun T7 h7 X7 W7 => ?_
  have z7 := W7.size; have Fw7 := F5.same W7
  refine g_aloadN X7 d4_51 rfl rfl ?_
  refine g_aload X7 d4_52 rfl rfl ?_
  have F8 := ((F_value.keep K3 nin0).other W7 (Or.inr (slot_ne (Or.inr (w32 hw)) (Or.inr (w30 hw)) (by decide) (t := (.array .byte)) (t' := .byte) (by decide) (by decide))))
  have E_9 := (E_6.wr W7)
  refine g_putfield X7 d4_54 (w31 hw) Via.refl F8 E_9 (Or.inr ⟨(w32 hw), rfl, rfl⟩) (w5 hw) (ty := (.array .byte)) (v' := (.ref t)) (by decide) rfl rfl nb zl (Or.inl (List.mem_of_getElem? (i := 0) rfl)) fun T10 h10 X10 W10 => ?_
  have z10 := W10.size; have Fw10 := F8.same W10
  have E_11 := (E_9.wr W10)
  have F12 := (Fw7.other W10 (Or.inr (slot_ne (Or.inr (w30 hw)) (Or.inr (w32 hw)) (by decide) (t := .byte) (t' := (.array .byte)) (by decide) (by decide))))
  have A13 := ((At.keep (Keep.of_wr W7) (ninS (k_neN (by omega)) nin0)).keep (Keep.of_wr W10) (ninS (k_neN (by omega)) nin0))
  exact g_return X10 d4_57 (by decide) (by decide) ⟨rfl, rfl, t, E_11.lt, A13.lt, E_11, F12, Fw10, A13⟩
set_option maxRecDepth 65536 in
set_option maxHeartbeats 40000000 in
theorem c_initCL {nw : Bool} {l : Launch} {Z : State} {EL : List (String × Nat)} {a0 : Array Value} (hw : HW Z a0) (hs : Sts Z) {h0 : Heap} {B0 : BP} (a a1 : Addr) (cs : List Int32) (E_a : Exa Z h0 a "java/lang/String") {u_value : Value} (F_value : Fld Z h0 a "java/lang/String" "value" "[B" u_value) {u_coder : Value} (F_coder : Fld Z h0 a "java/lang/String" "coder" "B" u_coder) (nb : ¬ B0 a) (zl : Z.heap.size ≤ a) (Aa : Ay Z h0 a1 .char (cs.map Value.int)) (ne : @Ne Nat a a1) (hne : cs ≠ []) (hcap : cs.length ≤ 8) (hlat : ∀ c ∈ cs, ¬ 255 < c) :
    Con nw l Z EL (⟨"java/lang/String", "<init>", "([C)V"⟩ : MethodName) jdk_42_method_3_code 2 none [] ({ frames := 3, cells := 1, slots := 8, locals := 52 } : Room) #[(.ref a), (.ref a1)] h0 B0 [a] (fun v h B => v = none ∧ B0 = B ∧ Str Z h h.size a 0 (cs.map lo8)) := by
  refine k_intro (Ls := #[.val (.ref a), .val (.ref a1)]) (by decide +kernel) rfl fun x T0 X0 => ?_
  have lt_a := k_ltE E_a
  refine g_aloadN X0 d5_0 rfl rfl ?_
  refine g_aloadN X0 d5_1 rfl rfl ?_
  refine g_iconst X0 (0 : Int32) d5_2 (by decide) ?_
  refine g_aloadN X0 d5_3 rfl rfl ?_
  refine g_arraylength X0 d5_4 Aa (Int32.ofNat cs.length) (by simp) ?_
  refine g_aconst_null X0 d5_5 ?_
  refine g_callI X0 d5_6 (w10 hw) (w11 hw) (w6 hw) (w13 hw) rfl (by decide) pd3 a [(.ref a1), (.int (0 : Int32)), (.int (Int32.ofNat cs.length)), .null] [] 0 (c_initCIIL hw hs a a1 cs E_a F_value F_coder nb zl Aa ne hne hcap hlat) rfl rfl rfl (Nat.le_of_eq rfl) (by decide) (by decide) 1 8 rfl rfl (by decide) (by decide) (k_ws1 ⟨nb, zl, (Or.inl (List.mem_of_getElem? (i := 0) rfl))⟩) fun v1 T1 h1 B1 X1 K1 M1 q1 => ?_
  obtain ⟨rfl, rfl, S⟩ := q1
  have z1 := K1.1
  show Go x (T1.setTop (mkF x.m 9 #[.val (.ref a), .val (.ref a1)] []))
  exact g_return X1 d5_9 (by decide) (by decide) ⟨rfl, rfl, S⟩
set_option maxRecDepth 65536 in
set_option maxHeartbeats 40000000 in
theorem c_equalsL1 {nw : Bool} {l : Launch} {Z : State} {EL : List (String × Nat)} {a0 : Array Value} (hw : HW Z a0) (hs : Sts Z) {h0 : Heap} {B0 : BP} (t1 t2 : Addr) (bs cs : List Int32) (Aa : Ay Z h0 t1 .byte (bs.map Value.int)) (Ab : Ay Z h0 t2 .byte (cs.map Value.int)) :
    Con nw l Z EL (⟨"java/lang/StringLatin1", "equals", "([B[B)Z"⟩ : MethodName) jdk_43_method_13_code 3 (some .boolean) [] ({ frames := 0, cells := 0, slots := 0, locals := 0 } : Room) #[(.ref t1), (.ref t2)] h0 B0 [] (PQ (some (.int (if bs = cs then 1 else 0))) h0 B0) := by
  refine k_intro (Ls := #[.val (.ref t1), .val (.ref t2), .unset]) (by decide +kernel) rfl fun x T0 X0 => ?_
  have l1 : bs.length < 2 ^ 31 := by simpa using Aa.len
  have l2 : cs.length < 2 ^ 31 := by simpa using Ab.len
  refine g_aloadN X0 d6_0 rfl rfl ?_
  refine g_arraylength X0 d6_1 Aa (Int32.ofNat bs.length) (by simp) ?_
  refine g_aloadN X0 d6_2 rfl rfl ?_
  refine g_arraylength X0 d6_3 Ab (Int32.ofNat cs.length) (by simp) ?_
  by_cases hl : (Int32.ofNat bs.length) = (Int32.ofNat cs.length)
  ·
    refine g_icmpF X0 d6_4 (XT.ii_ne_f hl) ?_
    have hl' : bs.length = cs.length := (k_eqn l1 l2).mp hl
    refine g_iconst X0 (0 : Int32) d6_7 (by decide) ?_
    refine g_istoreN X0 #[.val (.ref t1), .val (.ref t2), .val (.int (0 : Int32))] d6_8 rfl ?_
    have loop : ∀ (d i : Nat) (hi : i + d = bs.length) (he : bs.take i = cs.take i), Go x (T0.setTop (mkF x.m 9 #[.val (.ref t1), .val (.ref t2), .val (.int (Int32.ofNat i))] [])) := by
      intro d
      induction d with
      | zero =>
        intro i hi he
        obtain rfl : i = bs.length := by omega
        refine g_iloadN X0 d6_9 rfl ?_
        refine g_aloadN X0 d6_10 rfl rfl ?_
        refine g_arraylength X0 d6_11 Aa (Int32.ofNat bs.length) (by simp) ?_
        refine g_icmpT X0 d6_12 (XT.ii_ge_t (k_nlt (Nat.le_refl _) l1)) ?_
        refine g_iconst X0 (1 : Int32) d6_32 (by decide) ?_
        have hbc : bs = cs := by
          rw [List.take_length] at he
          rw [he, hl', List.take_length]
        exact g_ireturn (w' := (1 : Int32)) X0 d6_33 (Or.inl rfl) (by decide) (by decide) (by decide) ⟨by rw [if_pos hbc], rfl, rfl⟩
      | succ d ih =>
        intro i hi he
        have h1 : i < bs.length := by omega
        have h2 : i < cs.length := by omega
        refine g_iloadN X0 d6_9 rfl ?_
        refine g_aloadN X0 d6_10 rfl rfl ?_
        refine g_arraylength X0 d6_11 Aa (Int32.ofNat bs.length) (by simp) ?_
        refine g_icmpF X0 d6_12 (XT.ii_ge_f (k_lt h1 l1)) ?_
        refine g_aloadN X0 d6_15 rfl rfl ?_
        refine g_iloadN X0 d6_16 rfl ?_
        refine g_baload X0 d6_17 Aa i rfl (v := .int bs[i]) (by simp [h1]) ?_
        refine g_aloadN X0 d6_18 rfl rfl ?_
        refine g_iloadN X0 d6_19 rfl ?_
        refine g_baload X0 d6_20 Ab i rfl (v := .int cs[i]) (by simp [h2]) ?_
        by_cases hb : (bs[i]) = (cs[i])
        ·
          refine g_icmpT X0 d6_21 (XT.ii_eq_t hb) ?_
          refine g_iinc X0 #[.val (.ref t1), .val (.ref t2), .val (.int (Int32.ofNat (i + 1)))] d6_26 rfl (k_inc i) rfl ?_
          refine g_goto X0 d6_29 ?_
          exact ih (i + 1) (by omega) (by rw [List.take_succ_eq_append_getElem h1, List.take_succ_eq_append_getElem h2, he, hb])
        ·
          refine g_icmpF X0 d6_21 (XT.ii_eq_f hb) ?_
          refine g_iconst X0 (0 : Int32) d6_24 (by decide) ?_
          exact g_ireturn (w' := (0 : Int32)) X0 d6_25 (Or.inl rfl) (by decide) (by decide) (by decide) ⟨by rw [if_neg (fun e => hb (by simp [e]))], rfl, rfl⟩
    exact loop bs.length 0 (by omega) (by simp)
  ·
    refine g_icmpT X0 d6_4 (XT.ii_ne_t hl) ?_
    refine g_iconst X0 (0 : Int32) d6_34 (by decide) ?_
    exact g_ireturn (w' := (0 : Int32)) X0 d6_35 (Or.inl rfl) (by decide) (by decide) (by decide) ⟨by rw [if_neg (fun e => hl (by rw [e]))], rfl, rfl⟩
set_option maxRecDepth 65536 in
set_option maxHeartbeats 40000000 in
theorem c_equalsS {nw : Bool} {l : Launch} {Z : State} {EL : List (String × Nat)} {a0 : Array Value} (hw : HW Z a0) (hs : Sts Z) {h0 : Heap} {B0 : BP} (a b : Addr) (bs cs : List Int32) (S : StrV Z h0 a 0 bs) (S' : StrV Z h0 b 0 cs) :
    Con nw l Z EL (⟨"java/lang/String", "equals", "(Ljava/lang/Object;)Z"⟩ : MethodName) jdk_42_method_66_code 3 (some .boolean) [] ({ frames := 1, cells := 0, slots := 0, locals := 14 } : Room) #[(.ref a), (.ref b)] h0 B0 [] (PQ (some (.int (if bs = cs then 1 else 0))) h0 B0) := by
  refine k_intro (Ls := #[.val (.ref a), .val (.ref b), .unset]) (by decide +kernel) rfl fun x T0 X0 => ?_
  obtain ⟨cv, sCS, ncv⟩ := hs.1
  obtain ⟨t_a, E_a, Fc_a, Fv_a, A_a⟩ := S.op
  obtain ⟨t_b, E_b, Fc_b, Fv_b, A_b⟩ := S'.op
  refine g_aloadN X0 d7_0 rfl rfl ?_
  refine g_aloadN X0 d7_1 rfl rfl ?_
  by_cases hab : (.ref a : Value) = .ref b
  ·
    refine g_acmpF X0 d7_2 rfl rfl (XT.aa_ne_f hab) ?_
    refine g_iconst X0 (1 : Int32) d7_5 (by decide) ?_
    cases hab
    exact g_ireturn (w' := (1 : Int32)) X0 d7_6 (Or.inl rfl) (by decide) (by decide) (by decide) ⟨by rw [if_pos (S.uniq S')], rfl, rfl⟩
  ·
    refine g_acmpT X0 d7_2 rfl rfl (XT.aa_ne_t hab) ?_
    refine g_aloadN X0 d7_7 rfl rfl ?_
    refine g_instY X0 d7_8 (w95 hw) (Ins.self E_b) fun T1 X1 => ?_
    refine g_ifF X1 d7_11 (by decide) ?_
    refine g_aloadN X1 d7_14 rfl rfl ?_
    refine g_castY X1 d7_15 (w95 hw) (Ins.self E_b) fun T2 X2 => ?_
    refine g_astoreN X2 #[.val (.ref a), .val (.ref b), .val (.ref b)] d7_18 rfl rfl ?_
    refine g_getstatic X2 d7_19 (w17 hw) Via.refl sCS fun T3 X3 => ?_
    refine g_ifF X3 d7_22 (XT.i0_eq_f ncv) ?_
    refine g_aloadN X3 d7_25 rfl rfl ?_
    refine g_getfield X3 d7_26 (w29 hw) Via.refl Fc_a fun T4 X4 => ?_
    refine g_aloadN X4 d7_29 rfl rfl ?_
    refine g_getfield X4 d7_30 (w29 hw) Via.refl Fc_b fun T5 X5 => ?_
    refine g_icmpF X5 d7_33 (by decide) ?_
    refine g_aloadN X5 d7_36 rfl rfl ?_
    refine g_getfield X5 d7_37 (w31 hw) Via.refl Fv_a fun T6 X6 => ?_
    refine g_aloadN X6 d7_40 rfl rfl ?_
    refine g_getfield X6 d7_41 (w31 hw) Via.refl Fv_b fun T7 X7 => ?_
    refine g_callSp X7 d7_44 (w96 hw) (w97 hw) (w85 hw) (w98 hw) (by decide) pd4 [(.ref t_a), (.ref t_b)] [] 0 (c_equalsL1 hw hs t_a t_b bs cs A_a A_b) rfl rfl rfl (Nat.le_of_eq rfl) (by decide) (by decide) 0 0 rfl rfl (by decide) (by decide) fun T8 X8 => ?_
    by_cases hb : bs = cs
    ·
      refine g_ifF X8 d7_47 (XT.i0_eq_f (by rw [if_pos hb]; decide)) ?_
      refine g_iconst X8 (1 : Int32) d7_50 (by decide) ?_
      refine g_goto X8 d7_51 ?_
      exact g_ireturn (w' := (1 : Int32)) X8 d7_55 (Or.inl rfl) (by decide) (by decide) (by decide) ⟨by rw [if_pos hb], rfl, rfl⟩
    ·
      refine g_ifT X8 d7_47 (XT.i0_eq_t (by rw [if_neg hb])) ?_
      refine g_iconst X8 (0 : Int32) d7_54 (by decide) ?_
      exact g_ireturn (w' := (0 : Int32)) X8 d7_55 (Or.inl rfl) (by decide) (by decide) (by decide) ⟨by rw [if_neg hb], rfl, rfl⟩
set_option maxRecDepth 65536 in
set_option maxHeartbeats 40000000 in
theorem c_initCIIE {l : Launch} {Z : State} {EL : List (String × Nat)} {a0 : Array Value} (hw : HW Z a0) (hs : Sts Z) {h0 : Heap} {B0 : BP} (a a1 : Addr) (E_a : Exa Z h0 a "java/lang/String") {u_value : Value} (F_value : Fld Z h0 a "java/lang/String" "value" "[B" u_value) {u_coder : Value} (F_coder : Fld Z h0 a "java/lang/String" "coder" "B" u_coder) (nb : ¬ B0 a) (zl : Z.heap.size ≤ a) (hE : ("java/lang/String", 7) ∈ EL) :
    Con false l Z EL (⟨"java/lang/String", "<init>", "([CIILjava/lang/Void;)V"⟩ : MethodName) jdk_42_method_149_code 6 none [] ({ frames := 1, cells := 4, slots := 8, locals := 12 } : Room) #[(.ref a), (.ref a1), (.int (0 : Int32)), (.int (0 : Int32)), .null] h0 B0 [a] (fun v h B => v = none ∧ Str Z h h.size a 0 []) := by
  refine k_intro (Ls := #[.val (.ref a), .val (.ref a1), .val (.int (0 : Int32)), .val (.int (0 : Int32)), .val .null, .unset]) (by decide +kernel) rfl fun x T0 X0 => ?_
  have lt_a := k_ltE E_a
  refine g_aloadN X0 d4_0 rfl rfl ?_
  refine g_init X0 d4_1 rfl rfl (w14 hw) (w15 hw) (w16 hw) 0 rfl (by decide) (Nat.le_of_eq rfl) (by decide) fun T1 X1 => ?_
  refine g_iloadN X1 d4_4 rfl ?_
  refine g_ifF X1 d4_5 (by decide) ?_
  refine g_aloadN X1 d4_8 rfl rfl ?_
  refine g_ldcC X1 rfl d4_9 (w89 hw) (strAtoms hw) hE ([] : List Int32) (by decide) (by decide +kernel) 0 (by decide) (by decide) 2 4 rfl rfl (by decide) (by decide) fun T2 h2 B2 s2 t2 X2 E2 M2 Es2 Fc2 Fv2 At2 ls2 lt2 hn2 => ?_
  have z2 := E2.1
  refine g_getfield X2 d4_11 (w31 hw) Via.refl Fv2 fun T3 X3 => ?_
  have nb4 : ¬ B2 a := (M2.no nb (by omega))
  have F5 := (F_value.ext E2)
  have E_6 := (E_a.ext E2)
  refine g_putfield X3 d4_14 (w31 hw) Via.refl F5 E_6 (Or.inr ⟨(w32 hw), rfl, rfl⟩) (w5 hw) (ty := (.array .byte)) (v' := (.ref t2)) (by decide) rfl rfl nb4 zl (Or.inl (List.mem_of_getElem? (i := 0) rfl)) fun T7 h7 X7 W7 => ?_
  have z7 := W7.size; have Fw7 := F5.same W7
  refine g_aloadN X7 d4_17 rfl rfl ?_
  refine g_ldcC X7 rfl d4_18 (w89 hw) (strAtoms hw) hE ([] : List Int32) (by decide) (by decide +kernel) 0 (by decide) (by decide) 4 8 rfl rfl (by decide) (by decide) fun T8 h8 B8 s8 t8 X8 E8 M8 Es8 Fc8 Fv8 At8 ls8 lt8 hn8 => ?_
  have z8 := E8.1
  refine g_getfield X8 d4_20 (w29 hw) Via.refl Fc8 fun T9 X9 => ?_
  have F10 := (((F_coder.ext E2).other W7 (Or.inr (slot_ne (Or.inr (w30 hw)) (Or.inr (w32 hw)) (by decide) (t := .byte) (t' := (.array .byte)) (by decide) (by decide)))).ext E8)
  have E_11 := ((E_6.wr W7).ext E8)
  have nb12 : ¬ B8 a := (M8.no nb4 (by omega))
  refine g_putfield X9 d4_23 (w29 hw) Via.refl F10 E_11 (Or.inr ⟨(w30 hw), rfl, rfl⟩) (w5 hw) (ty := .byte) (v' := (.int (0 : Int32))) (by decide) rfl rfl nb12 zl (Or.inl (List.mem_of_getElem? (i := 0) rfl)) fun T13 h13 X13 W13 => ?_
  have z13 := W13.size; have Fw13 := F10.same W13
  have E_14 := (E_11.wr W13)
  have F15 := ((Fw7.ext E8).other W13 (Or.inr (slot_ne (Or.inr (w32 hw)) (Or.inr (w30 hw)) (by decide) (t := (.array .byte)) (t' := .byte) (by decide) (by decide))))
  have A16 := (((At2.keep (Keep.of_wr W7) (ninS (Ne.symm (hn2 a nb4).2) nin0)).ext E8).keep (Keep.of_wr W13) (ninS (Ne.symm (hn2 a nb4).2) nin0))
  exact g_return X13 d4_26 (by decide) (by decide) ⟨rfl, t2, E_14.lt, A16.lt, E_14, Fw13, F15, A16⟩
set_option maxRecDepth 65536 in
set_option maxHeartbeats 40000000 in
theorem c_initCE {l : Launch} {Z : State} {EL : List (String × Nat)} {a0 : Array Value} (hw : HW Z a0) (hs : Sts Z) {h0 : Heap} {B0 : BP} (a a1 : Addr) (E_a : Exa Z h0 a "java/lang/String") {u_value : Value} (F_value : Fld Z h0 a "java/lang/String" "value" "[B" u_value) {u_coder : Value} (F_coder : Fld Z h0 a "java/lang/String" "coder" "B" u_coder) (nb : ¬ B0 a) (zl : Z.heap.size ≤ a) (Aa : Ay Z h0 a1 .char []) (hE : ("java/lang/String", 7) ∈ EL) :
    Con false l Z EL (⟨"java/lang/String", "<init>", "([C)V"⟩ : MethodName) jdk_42_method_3_code 2 none [] ({ frames := 2, cells := 4, slots := 8, locals := 29 } : Room) #[(.ref a), (.ref a1)] h0 B0 [a] (fun v h B => v = none ∧ Str Z h h.size a 0 []) := by
  refine k_intro (Ls := #[.val (.ref a), .val (.ref a1)]) (by decide +kernel) rfl fun x T0 X0 => ?_
  have lt_a := k_ltE E_a
  refine g_aloadN X0 d5_0 rfl rfl ?_
  refine g_aloadN X0 d5_1 rfl rfl ?_
  refine g_iconst X0 (0 : Int32) d5_2 (by decide) ?_
  refine g_aloadN X0 d5_3 rfl rfl ?_
  refine g_arraylength X0 d5_4 Aa (0 : Int32) (by decide) ?_
  refine g_aconst_null X0 d5_5 ?_
  refine g_callI X0 d5_6 (w10 hw) (w11 hw) (w6 hw) (w13 hw) rfl (by decide) pd3 a [(.ref a1), (.int (0 : Int32)), (.int (0 : Int32)), .null] [] 0 (c_initCIIE hw hs a a1 E_a F_value F_coder nb zl hE) rfl rfl rfl (Nat.le_of_eq rfl) (by decide) (by decide) 4 8 rfl rfl (by decide) (by decide) (k_ws1 ⟨nb, zl, (Or.inl (List.mem_of_getElem? (i := 0) rfl))⟩) fun v1 T1 h1 B1 X1 K1 M1 q1 => ?_
  obtain ⟨rfl, S⟩ := q1
  have z1 := K1.1
  show Go x (T1.setTop (mkF x.m 9 #[.val (.ref a), .val (.ref a1)] []))
  exact g_return X1 d5_9 (by decide) (by decide) ⟨rfl, S⟩
set_option maxRecDepth 65536 in
set_option maxHeartbeats 40000000 in
theorem c_coder {nw : Bool} {l : Launch} {Z : State} {EL : List (String × Nat)} {a0 : Array Value} (hw : HW Z a0) (hs : Sts Z) {h0 : Heap} {B0 : BP} (a : Addr) (cd : Int32) (bs : List Int32) (hcd : cd = 0 ∨ cd = 1) (S : StrV Z h0 a cd bs) :
    Con nw l Z EL (⟨"java/lang/String", "coder", "()B"⟩ : MethodName) jdk_42_method_152_code 1 (some .byte) [] ({ frames := 0, cells := 0, slots := 0, locals := 0 } : Room) #[(.ref a)] h0 B0 [] (PQ (some (.int cd)) h0 B0) := by
  refine k_intro (Ls := #[.val (.ref a)]) (by decide +kernel) rfl fun x T0 X0 => ?_
  obtain ⟨cv, sCS, ncv⟩ := hs.1
  obtain ⟨t_a, E_a, Fc_a, Fv_a, A_a⟩ := S.op
  refine g_getstatic X0 d8_0 (w17 hw) Via.refl sCS fun T1 X1 => ?_
  refine g_ifF X1 d8_3 (XT.i0_eq_f ncv) ?_
  refine g_aloadN X1 d8_6 rfl rfl ?_
  refine g_getfield X1 d8_7 (w29 hw) Via.refl Fc_a fun T2 X2 => ?_
  refine g_goto X2 d8_10 ?_
  exact g_ireturn (w' := cd) X2 d8_14 (Or.inr (Or.inl rfl)) (by rcases hcd with rfl | rfl <;> decide) (by decide) (by decide) ⟨rfl, rfl, rfl⟩
set_option maxRecDepth 65536 in
set_option maxHeartbeats 40000000 in
theorem c_isLatin1 {nw : Bool} {l : Launch} {Z : State} {EL : List (String × Nat)} {a0 : Array Value} (hw : HW Z a0) (hs : Sts Z) {h0 : Heap} {B0 : BP} (a : Addr) (bs : List Int32) (S : StrV Z h0 a 0 bs) :
    Con nw l Z EL (⟨"java/lang/String", "isLatin1", "()Z"⟩ : MethodName) jdk_42_method_154_code 1 (some .boolean) [] ({ frames := 0, cells := 0, slots := 0, locals := 0 } : Room) #[(.ref a)] h0 B0 [] (PQ (some (.int (1 : Int32))) h0 B0) := by
  refine k_intro (Ls := #[.val (.ref a)]) (by decide +kernel) rfl fun x T0 X0 => ?_
  obtain ⟨cv, sCS, ncv⟩ := hs.1
  obtain ⟨t_a, E_a, Fc_a, Fv_a, A_a⟩ := S.op
  refine g_getstatic X0 d9_0 (w17 hw) Via.refl sCS fun T1 X1 => ?_
  refine g_ifF X1 d9_3 (XT.i0_eq_f ncv) ?_
  refine g_aloadN X1 d9_6 rfl rfl ?_
  refine g_getfield X1 d9_7 (w29 hw) Via.refl Fc_a fun T2 X2 => ?_
  refine g_ifF X2 d9_10 (by decide) ?_
  refine g_iconst X2 (1 : Int32) d9_13 (by decide) ?_
  refine g_goto X2 d9_14 ?_
  exact g_ireturn (w' := (1 : Int32)) X2 d9_18 (Or.inl rfl) (by decide) (by decide) (by decide) ⟨rfl, rfl, rfl⟩
set_option maxRecDepth 65536 in
set_option maxHeartbeats 40000000 in
theorem c_lengthL {nw : Bool} {l : Launch} {Z : State} {EL : List (String × Nat)} {a0 : Array Value} (hw : HW Z a0) (hs : Sts Z) {h0 : Heap} {B0 : BP} (a : Addr) (bs : List Int32) (S : StrV Z h0 a 0 bs) :
    Con nw l Z EL (⟨"java/lang/String", "length", "()I"⟩ : MethodName) jdk_42_method_54_code 1 (some .int) [] ({ frames := 1, cells := 0, slots := 0, locals := 13 } : Room) #[(.ref a)] h0 B0 [] (PQ (some (.int (Int32.ofNat bs.length))) h0 B0) := by
  refine k_intro (Ls := #[.val (.ref a)]) (by decide +kernel) rfl fun x T0 X0 => ?_
  obtain ⟨t_a, E_a, Fc_a, Fv_a, A_a⟩ := S.op
  refine g_aloadN X0 d10_0 rfl rfl ?_
  refine g_getfield X0 d10_1 (w31 hw) Via.refl Fv_a fun T1 X1 => ?_
  refine g_arraylength X1 d10_4 A_a (Int32.ofNat bs.length) (by simp) ?_
  refine g_aloadN X1 d10_5 rfl rfl ?_
  refine g_callVp X1 d10_6 (w59 hw) (w60 hw) (w62 hw) (w61 hw) (w6 hw) (w63 hw) (by decide) pd5 a [] [(.int (Int32.ofNat bs.length))] 1 E_a (c_coder hw hs a 0 bs (Or.inl rfl) S) rfl rfl rfl (Nat.le_of_eq rfl) (by decide) (by decide) 0 0 rfl rfl (by decide) (by decide) fun T2 X2 => ?_
  refine g_ishr X2 (Int32.ofNat bs.length) d10_9 (k_shr0 _) ?_
  exact g_ireturnI X2 d10_10 (by decide) (by decide) ⟨rfl, rfl, rfl⟩
set_option maxRecDepth 65536 in
set_option maxHeartbeats 40000000 in
theorem c_checkFromTo {nw : Bool} {l : Launch} {Z : State} {EL : List (String × Nat)} {a0 : Array Value} (hw : HW Z a0) (hs : Sts Z) {h0 : Heap} {B0 : BP} (b e n : Int32) (v : Value) (r : v.isRef = true) (h1 : ¬ b < 0) (h2 : ¬ e < b) (h3 : ¬ n < e) :
    Con nw l Z EL (⟨"jdk/internal/util/Preconditions", "checkFromToIndex", "(IIILjava/util/function/BiFunction;)I"⟩ : MethodName) jdk_41_method_12_code 4 (some .int) [] ({ frames := 0, cells := 0, slots := 0, locals := 0 } : Room) #[(.int b), (.int e), (.int n), v] h0 B0 [] (PQ (some (.int b)) h0 B0) := by
  refine k_intro (Ls := #[.val (.int b), .val (.int e), .val (.int n), .val v]) (by decide +kernel) (by rcases ref_cases r with rfl | ⟨_, rfl⟩ <;> rfl) fun x T0 X0 => ?_
  refine g_iloadN X0 d11_0 rfl ?_
  refine g_ifF X0 d11_1 (XT.i0_lt_f h1) ?_
  refine g_iloadN X0 d11_4 rfl ?_
  refine g_iloadN X0 d11_5 rfl ?_
  refine g_icmpF X0 d11_6 (XT.ii_gt_f h2) ?_
  refine g_iloadN X0 d11_9 rfl ?_
  refine g_iloadN X0 d11_10 rfl ?_
  refine g_icmpT X0 d11_11 (XT.ii_le_t h3) ?_
  refine g_iloadN X0 d11_22 rfl ?_
  exact g_ireturnI X0 d11_23 (by decide) (by decide) ⟨rfl, rfl, rfl⟩
set_option maxRecDepth 65536 in
set_option maxHeartbeats 40000000 in
theorem c_checkBounds {nw : Bool} {l : Launch} {Z : State} {EL : List (String × Nat)} {a0 : Array Value} (hw : HW Z a0) (hs : Sts Z) {h0 : Heap} {B0 : BP} (b e n : Int32) (h1 : ¬ b < 0) (h2 : ¬ e < b) (h3 : ¬ n < e) :
    Con nw l Z EL (⟨"java/lang/String", "checkBoundsBeginEnd", "(III)V"⟩ : MethodName) jdk_42_method_158_code 3 none [] ({ frames := 1, cells := 0, slots := 0, locals := 15 } : Room) #[(.int b), (.int e), (.int n)] h0 B0 [] (PQ none h0 B0) := by
  refine k_intro (Ls := #[.val (.int b), .val (.int e), .val (.int n)]) (by decide +kernel) rfl fun x T0 X0 => ?_
  obtain ⟨fv, sFV, rfv⟩ := hs.2.1
  refine g_iloadN X0 d12_0 rfl ?_
  refine g_iloadN X0 d12_1 rfl ?_
  refine g_iloadN X0 d12_2 rfl ?_
  refine g_getstatic X0 d12_3 (w73 hw) Via.refl sFV fun T1 X1 => ?_
  refine g_callSp X1 d12_6 (w75 hw) (w76 hw) (w74 hw) (w77 hw) (by decide) pd6 [(.int b), (.int e), (.int n), fv] [] 0 (c_checkFromTo hw hs b e n fv rfv h1 h2 h3) rfl rfl rfl (Nat.le_of_eq rfl) (by decide) (by decide) 0 0 rfl rfl (by decide) (by decide) fun T2 X2 => ?_
  refine g_pop X2 d12_9 rfl ?_
  exact g_return X2 d12_10 (by decide) (by decide) ⟨rfl, rfl, rfl⟩
set_option maxRecDepth 65536 in
set_option maxHeartbeats 40000000 in
theorem c_checkLength {nw : Bool} {l : Launch} {Z : State} {EL : List (String × Nat)} {a0 : Array Value} (hw : HW Z a0) (hs : Sts Z) {h0 : Heap} {B0 : BP} (b e : Int32) (h : ¬ e < b) :
    Con nw l Z EL (⟨"java/util/Arrays", "checkLength", "(II)V"⟩ : MethodName) jdk_65_method_131_code 2 none [] ({ frames := 0, cells := 0, slots := 0, locals := 0 } : Room) #[(.int b), (.int e)] h0 B0 [] (PQ none h0 B0) := by
  refine k_intro (Ls := #[.val (.int b), .val (.int e)]) (by decide +kernel) rfl fun x T0 X0 => ?_
  refine g_iloadN X0 d13_0 rfl ?_
  refine g_iloadN X0 d13_1 rfl ?_
  refine g_icmpT X0 d13_2 (XT.ii_ge_t h) ?_
  exact g_return X0 d13_37 (by decide) (by decide) ⟨rfl, rfl, rfl⟩
set_option maxRecDepth 65536 in
set_option maxHeartbeats 40000000 in
theorem c_min {nw : Bool} {l : Launch} {Z : State} {EL : List (String × Nat)} {a0 : Array Value} (hw : HW Z a0) (hs : Sts Z) {h0 : Heap} {B0 : BP} (u v r : Int32) (hr : (if v < u then v else u) = r) :
    Con nw l Z EL (⟨"java/lang/Math", "min", "(II)I"⟩ : MethodName) jdk_29_method_69_code 2 (some .int) [] ({ frames := 0, cells := 0, slots := 0, locals := 0 } : Room) #[(.int u), (.int v)] h0 B0 [] (PQ (some (.int r)) h0 B0) := by
  refine k_intro (Ls := #[.val (.int u), .val (.int v)]) (by decide +kernel) rfl fun x T0 X0 => ?_
  refine g_iloadN X0 d14_0 rfl ?_
  refine g_iloadN X0 d14_1 rfl ?_
  by_cases h : v < u
  ·
    refine g_icmpT X0 d14_2 (XT.ii_gt_t h) ?_
    refine g_iloadN X0 d14_9 rfl ?_
    exact g_ireturnI X0 d14_10 (by decide) (by decide) ⟨by rw [← hr, if_pos h], rfl, rfl⟩
  ·
    refine g_icmpF X0 d14_2 (XT.ii_gt_f h) ?_
    refine g_iloadN X0 d14_5 rfl ?_
    refine g_goto X0 d14_6 ?_
    exact g_ireturnI X0 d14_10 (by decide) (by decide) ⟨by rw [← hr, if_neg h], rfl, rfl⟩
set_option maxRecDepth 65536 in
set_option maxHeartbeats 40000000 in
theorem c_corb {nw : Bool} {l : Launch} {Z : State} {EL : List (String × Nat)} {a0 : Array Value} (hw : HW Z a0) (hs : Sts Z) {h0 : Heap} {B0 : BP} (t : Addr) (f e : Nat) (vs : List Value) (A : Ay Z h0 t .byte vs) (h1 : f ≤ e) (h2 : e ≤ vs.length) (hcap : e - f ≤ 3) :
    Con nw l Z EL (⟨"java/util/Arrays", "copyOfRangeByte", "([BII)[B"⟩ : MethodName) jdk_65_method_133_code 5 (some (.array .byte)) [] ({ frames := 1, cells := 1, slots := 3, locals := 18 } : Room) #[(.ref t), (.int (Int32.ofNat f)), (.int (Int32.ofNat e))] h0 B0 [] (fun v h B => ∃ r, v = some (.ref r) ∧ B0 = B ∧ h0.size ≤ r ∧ ¬ B r ∧ Ay Z h r .byte ((vs.drop f).take (e - f))) := by
  refine k_intro (Ls := #[.val (.ref t), .val (.int (Int32.ofNat f)), .val (.int (Int32.ofNat e)), .unset, .unset]) (by decide +kernel) rfl fun x T0 X0 => ?_
  have hl := A.len
  have lt_t := A.lt
  refine g_iloadN X0 d15_0 rfl ?_
  refine g_iloadN X0 d15_1 rfl ?_
  refine g_callSp0 X0 d15_2 (w107 hw) (w108 hw) (w102 hw) (w109 hw) (by decide) pd7 [(.int (Int32.ofNat f)), (.int (Int32.ofNat e))] [] 0 (c_checkLength hw hs _ _ (k_nlt h1 (by omega))) rfl rfl rfl (Nat.le_of_eq rfl) (by decide) (by decide) 0 0 rfl rfl (by decide) (by decide) fun T1 X1 => ?_
  refine g_iloadN X1 d15_5 rfl ?_
  refine g_iloadN X1 d15_6 rfl ?_
  refine g_isub X1 (Int32.ofNat (e - f)) d15_7 (k_sub h1) ?_
  refine g_istoreN X1 #[.val (.ref t), .val (.int (Int32.ofNat f)), .val (.int (Int32.ofNat e)), .val (.int (Int32.ofNat (e - f))), .unset] d15_8 rfl ?_
  refine g_iloadN X1 d15_9 rfl ?_
  refine g_newarray X1 d15_10 rfl (w22 hw) (e - f) 3 rfl hcap (by decide) 1 3 rfl rfl (by decide) (by decide) fun T2 h2 b2 X2 E2 eb2 nb2 A2 => ?_
  have z2 := E2.1; have lt2 : @LT.lt Nat _ b2 h2.size := A2.lt; have zl2 : @LE.le Nat _ Z.heap.size b2 := eb2 ▸ X1.szZ; have fr2 : @LE.le Nat _ h0.size b2 := eb2 ▸ X1.sz
  refine g_astore X2 #[.val (.ref t), .val (.int (Int32.ofNat f)), .val (.int (Int32.ofNat e)), .val (.int (Int32.ofNat (e - f))), .val (.ref b2)] d15_12 rfl rfl ?_
  refine g_aloadN X2 d15_14 rfl rfl ?_
  refine g_iloadN X2 d15_15 rfl ?_
  refine g_aload X2 d15_16 rfl rfl ?_
  refine g_iconst X2 (0 : Int32) d15_18 (by decide) ?_
  refine g_aloadN X2 d15_19 rfl rfl ?_
  have A3 := (A.ext E2)
  refine g_arraylength X2 d15_20 A3 (Int32.ofNat vs.length) rfl ?_
  refine g_iloadN X2 d15_21 rfl ?_
  refine g_isub X2 (Int32.ofNat (vs.length - f)) d15_22 (k_sub (by omega)) ?_
  refine g_iloadN X2 d15_23 rfl ?_
  refine g_callSp X2 d15_24 (w110 hw) (w111 hw) (w112 hw) (w113 hw) (by decide) pd8 [(.int (Int32.ofNat (vs.length - f))), (.int (Int32.ofNat (e - f)))] [(.int (0 : Int32)), (.ref b2), (.int (Int32.ofNat f)), (.ref t)] 4 (c_min hw hs (Int32.ofNat (vs.length - f)) (Int32.ofNat (e - f)) (Int32.ofNat (e - f)) (k_min (by omega) (by omega))) rfl rfl rfl (Nat.le_of_eq rfl) (by decide) (by decide) 1 3 rfl rfl (by decide) (by decide) fun T4 X4 => ?_
  refine g_arraycopy X4 d15_27 rfl (w114 hw) (w117 hw) (w115 hw) (w116 hw) A3 A2 rfl f 0 (e - f) (by omega) (by simp) rfl (by decide) rfl rfl nb2 zl2 (Or.inr fr2) 0 (Nat.le_of_eq rfl) (by decide) (by decide) fun T5 h5 X5 K5 A5 => ?_
  have z5 := K5.1
  refine g_aload X5 d15_30 rfl rfl ?_
  exact g_areturn X5 d15_32 rfl rfl rfl (by decide) (by decide) ⟨_, rfl, rfl, fr2, nb2, by simpa using A5⟩
set_option maxRecDepth 65536 in
set_option maxHeartbeats 40000000 in
theorem c_cor {nw : Bool} {l : Launch} {Z : State} {EL : List (String × Nat)} {a0 : Array Value} (hw : HW Z a0) (hs : Sts Z) {h0 : Heap} {B0 : BP} (t : Addr) (f e : Nat) (vs : List Value) (A : Ay Z h0 t .byte vs) (h0' : 0 < f) (h1 : f ≤ e) (h2 : e ≤ vs.length) (hcap : e - f ≤ 3) :
    Con nw l Z EL (⟨"java/util/Arrays", "copyOfRange", "([BII)[B"⟩ : MethodName) jdk_65_method_132_code 3 (some (.array .byte)) [] ({ frames := 2, cells := 1, slots := 3, locals := 34 } : Room) #[(.ref t), (.int (Int32.ofNat f)), (.int (Int32.ofNat e))] h0 B0 [] (fun v h B => ∃ r, v = some (.ref r) ∧ B0 = B ∧ h0.size ≤ r ∧ ¬ B r ∧ Ay Z h r .byte ((vs.drop f).take (e - f))) := by
  refine k_intro (Ls := #[.val (.ref t), .val (.int (Int32.ofNat f)), .val (.int (Int32.ofNat e))]) (by decide +kernel) rfl fun x T0 X0 => ?_
  have hl := A.len
  refine g_iloadN X0 d16_0 rfl ?_
  refine g_ifT X0 d16_1 (XT.i0_ne_t (k_ne0 h0' (by omega))) ?_
  refine g_aloadN X0 d16_10 rfl rfl ?_
  refine g_iloadN X0 d16_11 rfl ?_
  refine g_iloadN X0 d16_12 rfl ?_
  refine g_callS X0 d16_13 (w104 hw) (w105 hw) (w102 hw) (w106 hw) (by decide) pd9 [(.ref t), (.int (Int32.ofNat f)), (.int (Int32.ofNat e))] [] 0 (c_corb hw hs t f e vs A h1 h2 hcap) rfl rfl rfl (Nat.le_of_eq rfl) (by decide) (by decide) 1 3 rfl rfl (by decide) (by decide) (fun _ q => nomatch q) fun v1 T1 h1 B1 X1 K1 M1 q1 => ?_
  obtain ⟨r, rfl, rfl, fr, nbr, Ar⟩ := q1
  have z1 := K1.1
  show Go x (T1.setTop (mkF x.m 16 #[.val (.ref t), .val (.int (Int32.ofNat f)), .val (.int (Int32.ofNat e))] [(.ref r)]))
  exact g_areturn X1 d16_16 rfl rfl rfl (by decide) (by decide) ⟨_, rfl, rfl, fr, nbr, Ar⟩
set_option maxRecDepth 65536 in
set_option maxHeartbeats 40000000 in
theorem c_newStrL {l : Launch} {Z : State} {EL : List (String × Nat)} {a0 : Array Value} (hw : HW Z a0) (hs : Sts Z) {h0 : Heap} {B0 : BP} (t : Addr) (f m : Nat) (bs : List Int32) (A : Ay Z h0 t .byte (bs.map Value.int)) (h0' : 0 < f) (hx2 : f + m ≤ bs.length) (hcap : m ≤ 3) (hE' : ("java/lang/StringLatin1", 151) ∈ EL) :
    Con false l Z EL (⟨"java/lang/StringLatin1", "newString", "([BII)Ljava/lang/String;"⟩ : MethodName) jdk_43_method_47_code 3 (some (.object "java/lang/String")) [] ({ frames := 3, cells := 2, slots := 7, locals := 50 } : Room) #[(.ref t), (.int (Int32.ofNat f)), (.int (Int32.ofNat m))] h0 B0 [] (fun v h B => ∃ a, v = some (.ref a) ∧ Str Z h h.size a 0 ((bs.drop f).take m)) := by
  refine k_intro (Ls := #[.val (.ref t), .val (.int (Int32.ofNat f)), .val (.int (Int32.ofNat m))]) (by decide +kernel) rfl fun x T0 X0 => ?_
  have hl : bs.length < 2 ^ 31 := by simpa using A.len
  have lt_t := A.lt
  refine g_iloadN X0 d17_0 rfl ?_
  by_cases hm : m = 0
  ·
    refine g_ifF X0 d17_1 (XT.i0_ne_f (by rw [hm]; rfl)) ?_
    refine g_ldcC X0 rfl d17_4 (w87 hw) (strAtoms hw) hE' ([] : List Int32) (by decide) (by decide +kernel) 0 (by decide) (by decide) 2 4 rfl rfl (by decide) (by decide) fun T1 h1 B1 s1 t1 X1 E1 M1 Es1 Fc1 Fv1 At1 ls1 lt1 hn1 => ?_
    have z1 := E1.1
    exact g_areturn X1 d17_6 rfl rfl rfl (by decide) (by decide) ⟨_, rfl, t1, ls1, lt1, Es1, Fc1, Fv1, by rw [hm]; simpa using At1⟩
  ·
    refine g_ifT X0 d17_1 (XT.i0_ne_t (k_ne0 (by omega) (by omega))) ?_
    refine g_new X0 d17_7 (w99 hw) (w5 hw) (w6 hw) 1 4 rfl rfl (by decide) (by decide) fun T2 h2 b2 X2 E2 eb2 nb2 Ex2 D2 => ?_
    have z2 := E2.1; have lt2 : @LT.lt Nat _ b2 h2.size := Ex2.lt; have zl2 : @LE.le Nat _ Z.heap.size b2 := eb2 ▸ X0.szZ; have fr2 : @LE.le Nat _ h0.size b2 := eb2 ▸ X0.sz
    have F2_coder : Fld Z h2 b2 "java/lang/String" "coder" "B" (.int (0 : Int32)) := D2 (Or.inr (w30 hw)) (ty := .byte) (by decide)
    have F2_value : Fld Z h2 b2 "java/lang/String" "value" "[B" .null := D2 (Or.inr (w32 hw)) (ty := (.array .byte)) (by decide)
    refine g_dup X2 d17_10 rfl ?_
    refine g_aloadN X2 d17_11 rfl rfl ?_
    refine g_iloadN X2 d17_12 rfl ?_
    refine g_iloadN X2 d17_13 rfl ?_
    refine g_iloadN X2 d17_14 rfl ?_
    refine g_iadd X2 (Int32.ofNat (f + m)) d17_15 (k_add f m) ?_
    have A3 := (A.ext E2)
    refine g_callS X2 d17_16 (w100 hw) (w101 hw) (w102 hw) (w103 hw) (by decide) pd9 [(.ref t), (.int (Int32.ofNat f)), (.int (Int32.ofNat (f + m)))] [(.ref b2), (.ref b2)] 2 (c_cor hw hs t f (f + m) (bs.map Value.int) A3 h0' (by omega) (by simpa using hx2) (by omega)) rfl rfl rfl (Nat.le_of_eq rfl) (by decide) (by decide) 2 7 rfl rfl (by decide) (by decide) (fun _ q => nomatch q) fun v4 T4 h4 B4 X4 K4 M4 q4 => ?_
    obtain ⟨r, rfl, rfl, fr, nbr, Ar⟩ := q4
    have z4 := K4.1
    show Go x (T4.setTop (mkF x.m 19 #[.val (.ref t), .val (.int (Int32.ofNat f)), .val (.int (Int32.ofNat m))] [(.ref r), (.ref b2), (.ref b2)]))
    have lt_r := Ar.lt
    refine g_iconst X4 (0 : Int32) d17_19 (by decide) ?_
    have E_5 := (Ex2.keep K4)
    have F6 := (F2_value.keep K4 nin0)
    have F7 := (F2_coder.keep K4 nin0)
    refine g_callI X4 d17_20 (w118 hw) (w119 hw) (w6 hw) (w120 hw) rfl (by decide) pd10 b2 [(.ref r), (.int (0 : Int32))] [(.ref b2)] 1 (c_initBB hw hs b2 r 0 E_5 F6 F7 nb2 zl2 (Or.inl rfl)) rfl rfl rfl (Nat.le_of_eq rfl) (by decide) (by decide) 2 7 rfl rfl (by decide) (by decide) (k_ws1 ⟨nb2, zl2, (Or.inr fr2)⟩) fun v8 T8 h8 B8 X8 K8 M8 q8 => ?_
    obtain ⟨rfl, rfl, Es, Fc, Fv⟩ := q8
    have z8 := K8.1
    show Go x (T8.setTop (mkF x.m 23 #[.val (.ref t), .val (.int (Int32.ofNat f)), .val (.int (Int32.ofNat m))] [(.ref b2)]))
    have A9 := (Ar.keep K8 (ninS (k_neN (by omega)) nin0))
    exact g_areturn X8 d17_23 rfl rfl rfl (by decide) (by decide) ⟨_, rfl, r, Es.lt, A9.lt, Es, Fc, Fv, by simpa [List.map_take, List.map_drop] using A9⟩
set_option maxRecDepth 65536 in
set_option maxHeartbeats 40000000 in
theorem c_substrL {l : Launch} {Z : State} {EL : List (String × Nat)} {a0 : Array Value} (hw : HW Z a0) (hs : Sts Z) {h0 : Heap} {B0 : BP} (a : Addr) (f e : Nat) (bs : List Int32) (S : StrV Z h0 a 0 bs) (h0' : 0 < f) (h1 : f ≤ e) (h2 : e ≤ bs.length) (hcap : e - f ≤ 3) (hE' : ("java/lang/StringLatin1", 151) ∈ EL) :
    Con false l Z EL (⟨"java/lang/String", "substring", "(II)Ljava/lang/String;"⟩ : MethodName) jdk_42_method_92_code 5 (some (.object "java/lang/String")) [] ({ frames := 4, cells := 2, slots := 7, locals := 64 } : Room) #[(.ref a), (.int (Int32.ofNat f)), (.int (Int32.ofNat e))] h0 B0 [] (fun v h B => ∃ r, v = some (.ref r) ∧ Str Z h h.size r 0 ((bs.drop f).take (e - f))) := by
  refine k_intro (Ls := #[.val (.ref a), .val (.int (Int32.ofNat f)), .val (.int (Int32.ofNat e)), .unset, .unset]) (by decide +kernel) rfl fun x T0 X0 => ?_
  have hl := S.len
  obtain ⟨t_a, E_a, Fc_a, Fv_a, A_a⟩ := S.op
  refine g_aloadN X0 d18_0 rfl rfl ?_
  refine g_callVp X0 d18_1 (w69 hw) (w55 hw) (w57 hw) (w56 hw) (w6 hw) (w58 hw) (by decide) pd11 a [] [] 0 E_a (c_lengthL hw hs a bs S) rfl rfl rfl (Nat.le_of_eq rfl) (by decide) (by decide) 0 0 rfl rfl (by decide) (by decide) fun T1 X1 => ?_
  refine g_istoreN X1 #[.val (.ref a), .val (.int (Int32.ofNat f)), .val (.int (Int32.ofNat e)), .val (.int (Int32.ofNat bs.length)), .unset] d18_4 rfl ?_
  refine g_iloadN X1 d18_5 rfl ?_
  refine g_iloadN X1 d18_6 rfl ?_
  refine g_iloadN X1 d18_7 rfl ?_
  refine g_callSp0 X1 d18_8 (w70 hw) (w71 hw) (w6 hw) (w72 hw) (by decide) pd12 [(.int (Int32.ofNat f)), (.int (Int32.ofNat e)), (.int (Int32.ofNat bs.length))] [] 0 (c_checkBounds hw hs _ _ _ (k_nn (by omega)) (k_nlt h1 (by omega)) (k_nlt h2 (by omega))) rfl rfl rfl (Nat.le_of_eq rfl) (by decide) (by decide) 0 0 rfl rfl (by decide) (by decide) fun T2 X2 => ?_
  refine g_iloadN X2 d18_11 rfl ?_
  refine g_ifT X2 d18_12 (XT.i0_ne_t (k_ne0 h0' (by omega))) ?_
  refine g_iloadN X2 d18_22 rfl ?_
  refine g_iloadN X2 d18_23 rfl ?_
  refine g_isub X2 (Int32.ofNat (e - f)) d18_24 (k_sub h1) ?_
  refine g_istore X2 #[.val (.ref a), .val (.int (Int32.ofNat f)), .val (.int (Int32.ofNat e)), .val (.int (Int32.ofNat bs.length)), .val (.int (Int32.ofNat (e - f)))] d18_25 rfl ?_
  refine g_aloadN X2 d18_27 rfl rfl ?_
  refine g_callVp X2 d18_28 (w78 hw) (w79 hw) (w81 hw) (w80 hw) (w6 hw) (w82 hw) (by decide) pd13 a [] [] 0 E_a (c_isLatin1 hw hs a bs S) rfl rfl rfl (Nat.le_of_eq rfl) (by decide) (by decide) 0 0 rfl rfl (by decide) (by decide) fun T3 X3 => ?_
  refine g_ifF X3 d18_31 (by decide) ?_
  refine g_aloadN X3 d18_34 rfl rfl ?_
  refine g_getfield X3 d18_35 (w31 hw) Via.refl Fv_a fun T4 X4 => ?_
  refine g_iloadN X4 d18_38 rfl ?_
  refine g_iload X4 d18_39 rfl ?_
  refine g_callS X4 d18_41 (w83 hw) (w84 hw) (w85 hw) (w86 hw) (by decide) pd14 [(.ref t_a), (.int (Int32.ofNat f)), (.int (Int32.ofNat (e - f)))] [] 0 (c_newStrL hw hs t_a f (e - f) bs A_a h0' (by omega) hcap hE') rfl rfl rfl (Nat.le_of_eq rfl) (by decide) (by decide) 2 7 rfl rfl (by decide) (by decide) (fun _ q => nomatch q) fun v5 T5 h5 B5 X5 K5 M5 q5 => ?_
  obtain ⟨r, rfl, Sr⟩ := q5
  have z5 := K5.1
  show Go x (T5.setTop (mkF x.m 44 #[.val (.ref a), .val (.int (Int32.ofNat f)), .val (.int (Int32.ofNat e)), .val (.int (Int32.ofNat bs.length)), .val (.int (Int32.ofNat (e - f)))] [(.ref r)]))
  refine g_goto X5 d18_44 ?_
  exact g_areturn X5 d18_57 rfl rfl rfl (by decide) (by decide) ⟨_, rfl, Sr⟩
set_option maxRecDepth 65536 in
set_option maxHeartbeats 40000000 in
theorem c_recInit {nw : Bool} {l : Launch} {Z : State} {EL : List (String × Nat)} {a0 : Array Value} (hw : HW Z a0) (hs : Sts Z) {h0 : Heap} {B0 : BP} (a : Addr)  :
    Con nw l Z EL (⟨"java/lang/Record", "<init>", "()V"⟩ : MethodName) jdk_30_method_1_code 1 none [] ({ frames := 1, cells := 0, slots := 0, locals := 12 } : Room) #[(.ref a)] h0 B0 [] (PQ none h0 B0) := by
  refine k_intro (Ls := #[.val (.ref a)]) (by decide +kernel) rfl fun x T0 X0 => ?_
  refine g_aloadN X0 d19_0 rfl rfl ?_
  refine g_init X0 d19_1 rfl rfl (w41 hw) (w15 hw) (w16 hw) 0 rfl (by decide) (Nat.le_of_eq rfl) (by decide) fun T1 X1 => ?_
  exact g_return X1 d19_4 (by decide) (by decide) ⟨rfl, rfl, rfl⟩
set_option maxRecDepth 65536 in
set_option maxHeartbeats 40000000 in
theorem c_litInit {nw : Bool} {l : Launch} {Z : State} {EL : List (String × Nat)} {a0 : Array Value} (hw : HW Z a0) (hs : Sts Z) {h0 : Heap} {B0 : BP} (a s : Addr) (f : Int32) (hf : f = 0 ∨ f = 1) (E_a : Exa Z h0 a "com/example/ajar/ajar/compile/Literal") {u_cls : Value} (F_cls : Fld Z h0 a "com/example/ajar/ajar/compile/Literal" "cls" "Ljava/lang/String;" u_cls) {u_positive : Value} (F_positive : Fld Z h0 a "com/example/ajar/ajar/compile/Literal" "positive" "Z" u_positive) (nb : ¬ B0 a) (zl : Z.heap.size ≤ a) :
    Con nw l Z EL (⟨"com/example/ajar/ajar/compile/Literal", "<init>", "(Ljava/lang/String;Z)V"⟩ : MethodName) prog_5_method_1_code 3 none [] ({ frames := 2, cells := 0, slots := 0, locals := 24 } : Room) #[(.ref a), (.ref s), (.int f)] h0 B0 [a] (fun v h B => v = none ∧ B0 = B ∧ Exa Z h a "com/example/ajar/ajar/compile/Literal" ∧ Fld Z h a "com/example/ajar/ajar/compile/Literal" "cls" "Ljava/lang/String;" (.ref s)) := by
  refine k_intro (Ls := #[.val (.ref a), .val (.ref s), .val (.int f)]) (by decide +kernel) rfl fun x T0 X0 => ?_
  refine g_aloadN X0 d20_0 rfl rfl ?_
  refine g_callIp0 X0 d20_1 (w36 hw) (w37 hw) (w39 hw) (w40 hw) rfl (by decide) pd15 a [] [] 0 (c_recInit hw hs a) rfl rfl rfl (Nat.le_of_eq rfl) (by decide) (by decide) 0 0 rfl rfl (by decide) (by decide) fun T1 X1 => ?_
  refine g_aloadN X1 d20_4 rfl rfl ?_
  refine g_aloadN X1 d20_5 rfl rfl ?_
  refine g_putfield X1 d20_6 (w42 hw) Via.refl F_cls E_a (Or.inr ⟨(w43 hw), rfl, rfl⟩) (w2 hw) (ty := (.object "java/lang/String")) (v' := (.ref s)) (by decide) rfl rfl nb zl (Or.inl (List.mem_of_getElem? (i := 0) rfl)) fun T2 h2 X2 W2 => ?_
  have z2 := W2.size; have Fw2 := F_cls.same W2
  refine g_aloadN X2 d20_9 rfl rfl ?_
  refine g_iloadN X2 d20_10 rfl ?_
  have F3 := (F_positive.other W2 (Or.inr (slot_ne (Or.inr (w45 hw)) (Or.inr (w43 hw)) (by decide) (t := .boolean) (t' := (.object "java/lang/String")) (by decide) (by decide))))
  have E_4 := (E_a.wr W2)
  refine g_putfield X2 d20_11 (w44 hw) Via.refl F3 E_4 (Or.inr ⟨(w45 hw), rfl, rfl⟩) (w2 hw) (ty := .boolean) (v' := (.int f)) (by decide) (by rcases hf with rfl | rfl <;> rfl) (by rcases hf with rfl | rfl <;> rfl) nb zl (Or.inl (List.mem_of_getElem? (i := 0) rfl)) fun T5 h5 X5 W5 => ?_
  have z5 := W5.size; have Fw5 := F3.same W5
  have E_6 := (E_4.wr W5)
  have F7 := (Fw2.other W5 (Or.inr (slot_ne (Or.inr (w43 hw)) (Or.inr (w45 hw)) (by decide) (t := (.object "java/lang/String")) (t' := .boolean) (by decide) (by decide))))
  exact g_return X5 d20_14 (by decide) (by decide) ⟨rfl, rfl, E_6, F7⟩
set_option maxRecDepth 65536 in
set_option maxHeartbeats 40000000 in
theorem c_indiv {l : Launch} {Z : State} {EL : List (String × Nat)} {a0 : Array Value} (hw : HW Z a0) (hs : Sts Z) {h0 : Heap} {B0 : BP} (a s : Addr) (N : Nat) (ms : List Int32) (E_a : Exa Z h0 a "com/example/ajar/ajar/compile/Literal") (F : Fld Z h0 a "com/example/ajar/ajar/compile/Literal" "cls" "Ljava/lang/String;" (.ref s)) (hN : N ≤ h0.size) (S : Str Z h0 N s 0 ([110, 111, 109, 40] ++ ms ++ [41])) (hm : ms.length ≤ 3) (hE1 : ("com/example/ajar/ajar/compile/Literal", 40) ∈ EL) (hE2 : ("java/lang/StringLatin1", 151) ∈ EL) :
    Con false l Z EL (⟨"com/example/ajar/ajar/compile/Literal", "individual", "()Ljava/lang/String;"⟩ : MethodName) prog_5_method_7_code 1 (some (.object "java/lang/String")) [] ({ frames := 5, cells := 4, slots := 27, locals := 80 } : Room) #[(.ref a)] h0 B0 [] (fun v h B => ∃ r, v = some (.ref r) ∧ Str Z h h.size r 0 ms) := by
  refine k_intro (Ls := #[.val (.ref a)]) (by decide +kernel) rfl fun x T0 X0 => ?_
  have lts := S.lt
  refine g_aloadN X0 d21_0 rfl rfl ?_
  refine g_getfield X0 d21_1 (w42 hw) Via.refl F fun T1 X1 => ?_
  refine g_ldcC X1 rfl d21_4 (w51 hw) (strAtoms hw) hE1 [(110 : Int32), (111 : Int32), (109 : Int32), (40 : Int32)] (by decide) (by decide +kernel) 16 (by decide) (by decide) 2 20 rfl rfl (by decide) (by decide) fun T2 h2 B2 s2 t2 X2 E2 M2 Es2 Fc2 Fv2 At2 ls2 lt2 hn2 => ?_
  have z2 := E2.1
  refine g_callVp X2 d21_6 (w54 hw) (w55 hw) (w57 hw) (w56 hw) (w6 hw) (w58 hw) (by decide) pd11 s2 [] [(.ref s)] 1 Es2 (c_lengthL hw hs s2 [110, 111, 109, 40] ⟨t2, Es2, Fc2, Fv2, At2⟩) rfl rfl rfl (Nat.le_of_eq rfl) (by decide) (by decide) 2 20 rfl rfl (by decide) (by decide) fun T3 X3 => ?_
  refine g_aloadN X3 d21_9 rfl rfl ?_
  have F4 := (F.ext E2)
  refine g_getfield X3 d21_10 (w42 hw) Via.refl F4 fun T5 X5 => ?_
  have U6 := (S.ext E2)
  have E_7 := (S.exa.ext E2)
  refine g_callVp X5 d21_13 (w54 hw) (w55 hw) (w57 hw) (w56 hw) (w6 hw) (w58 hw) (by decide) pd11 s [] [(.int (Int32.ofNat 4)), (.ref s)] 2 E_7 (c_lengthL hw hs s _ U6.v) rfl rfl rfl (Nat.le_of_eq rfl) (by decide) (by decide) 2 20 rfl rfl (by decide) (by decide) fun T8 X8 => ?_
  refine g_iconst X8 (1 : Int32) d21_16 (by decide) ?_
  refine g_isub X8 (Int32.ofNat (4 + ms.length)) d21_17 (by simp only [List.length_append, List.length_cons, List.length_nil]; exact k_sub (j := 1) (by omega)) ?_
  refine g_callV X8 d21_18 (w64 hw) (w65 hw) (w67 hw) (w66 hw) (w6 hw) (w68 hw) (by decide) pd16 s [(.int (Int32.ofNat 4)), (.int (Int32.ofNat (4 + ms.length)))] [] 0 E_7 (c_substrL hw hs s 4 (4 + ms.length) ([110, 111, 109, 40] ++ ms ++ [41]) U6.v (by decide) (by omega) (by simp; omega) (by omega) hE2) rfl rfl rfl (Nat.le_of_eq rfl) (by decide) (by decide) 4 27 rfl rfl (by decide) (by decide) (fun _ q => nomatch q) fun v9 T9 h9 B9 X9 K9 M9 q9 => ?_
  obtain ⟨r, rfl, Sr⟩ := q9
  have z9 := K9.1
  show Go x (T9.setTop (mkF x.m 21 #[.val (.ref a)] [(.ref r)]))
  exact g_areturn X9 d21_21 rfl rfl rfl (by decide) (by decide) ⟨_, rfl, by simpa using Sr⟩
set_option maxRecDepth 65536 in
set_option maxHeartbeats 40000000 in
theorem c_law {l : Launch} {Z : State} {a0 : Array Value} (hw : HW Z a0) (hs : Sts Z) {h0 : Heap} {B0 : BP} (p0 p1 p2 p3 p4 : Int32)  :
    Con false l Z consts_1 (⟨"com/example/ajar/ajar/compile/LiteralIndividualPinLaw", "law", "(IIIII)Z"⟩ : MethodName) code 13 (some .boolean) tables_1 room_1 #[(.int p0), (.int p1), (.int p2), (.int p3), (.int p4)] h0 B0 [] (fun v h B => v = some (.int 1)) := by
  refine k_intro (Ls := #[.val (.int p0), .val (.int p1), .val (.int p2), .val (.int p3), .val (.int p4), .unset, .unset, .unset, .unset, .unset, .unset, .unset, .unset]) (by decide +kernel) rfl fun x T0 X0 => ?_
  have hE1 : ("com/example/ajar/ajar/compile/Literal", 40) ∈ consts_1 := List.mem_of_getElem? (i := 0) rfl
  have hE : ("java/lang/String", 7) ∈ consts_1 := List.mem_of_getElem? (i := 1) rfl
  have hE2 : ("java/lang/StringLatin1", 151) ∈ consts_1 := List.mem_of_getElem? (i := 2) rfl
  obtain ⟨c0, ec0⟩ : ∃ z, z = p1 &&& 255 := ⟨_, rfl⟩
  have hc0 : C8 c0 := ec0 ▸ c8_and _
  obtain ⟨c1, ec1⟩ : ∃ z, z = p2 &&& 255 := ⟨_, rfl⟩
  have hc1 : C8 c1 := ec1 ▸ c8_and _
  obtain ⟨c2, ec2⟩ : ∃ z, z = p3 &&& 255 := ⟨_, rfl⟩
  have hc2 : C8 c2 := ec2 ▸ c8_and _
  obtain ⟨nn, en⟩ : ∃ z, z = p0 &&& 3 := ⟨_, rfl⟩
  have hnn : nn = 0 ∨ nn = 1 ∨ nn = 2 ∨ nn = 3 := en ▸ k_and3 p0
  refine g_iloadN X0 d22_0 rfl ?_
  refine g_iconst X0 (3 : Int32) d22_1 (by decide) ?_
  refine g_iand X0 nn d22_2 en.symm ?_
  refine g_istore X0 #[.val (.int p0), .val (.int p1), .val (.int p2), .val (.int p3), .val (.int p4), .val (.int nn), .unset, .unset, .unset, .unset, .unset, .unset, .unset] d22_3 rfl ?_
  refine g_iloadN X0 d22_5 rfl ?_
  refine g_sipush X0 (255 : Int32) d22_6 (by decide) ?_
  refine g_iand X0 c0 d22_9 ec0.symm ?_
  refine g_i2c X0 c0 d22_10 (nar_c8 hc0) ?_
  refine g_istore X0 #[.val (.int p0), .val (.int p1), .val (.int p2), .val (.int p3), .val (.int p4), .val (.int nn), .val (.int c0), .unset, .unset, .unset, .unset, .unset, .unset] d22_11 rfl ?_
  refine g_iloadN X0 d22_13 rfl ?_
  refine g_sipush X0 (255 : Int32) d22_14 (by decide) ?_
  refine g_iand X0 c1 d22_17 ec1.symm ?_
  refine g_i2c X0 c1 d22_18 (nar_c8 hc1) ?_
  refine g_istore X0 #[.val (.int p0), .val (.int p1), .val (.int p2), .val (.int p3), .val (.int p4), .val (.int nn), .val (.int c0), .val (.int c1), .unset, .unset, .unset, .unset, .unset] d22_19 rfl ?_
  refine g_iloadN X0 d22_21 rfl ?_
  refine g_sipush X0 (255 : Int32) d22_22 (by decide) ?_
  refine g_iand X0 c2 d22_25 ec2.symm ?_
  refine g_i2c X0 c2 d22_26 (nar_c8 hc2) ?_
  refine g_istore X0 #[.val (.int p0), .val (.int p1), .val (.int p2), .val (.int p3), .val (.int p4), .val (.int nn), .val (.int c0), .val (.int c1), .val (.int c2), .unset, .unset, .unset, .unset] d22_27 rfl ?_
  refine g_iload X0 d22_29 rfl ?_
  have rest : ∀ (cs : List Int32) (hcs : nn = Int32.ofNat cs.length) (hl3 : cs.length ≤ 3) (hC8 : ∀ c ∈ cs, C8 c) (ac ai : Addr) (T : State) (h : Heap) (B : BP) (X : Wk false l Z consts_1 "com/example/ajar/ajar/compile/LiteralIndividualPinLaw" code 13 (some .boolean) "law" room_1 h0 B0 [] (fun v h B => v = some (.int 1)) x T h B 2 11) (Ac : Ay Z h ac .char (([110, 111, 109, 40] ++ cs ++ [41] : List Int32).map Value.int)) (Ai : Ay Z h ai .char (cs.map Value.int)), Go x (T.setTop (mkF x.m 261 #[.val (.int p0), .val (.int p1), .val (.int p2), .val (.int p3), .val (.int p4), .val (.int nn), .val (.int c0), .val (.int c1), .val (.int c2), .val (.ref ac), .val (.ref ai), .unset, .unset] [])) := by
    intro cs hcs hl3 hC8 ac ai T h B X Ac Ai
    have lac := Ac.lt; have lai := Ai.lt
    refine g_new X d22_261 (w1 hw) (w2 hw) (w3 hw) 3 13 rfl rfl (by decide) (by decide) fun T1 h1 b1 X1 E1 eb1 nb1 Ex1 D1 => ?_
    have z1 := E1.1; have lt1 : @LT.lt Nat _ b1 h1.size := Ex1.lt; have zl1 : @LE.le Nat _ Z.heap.size b1 := eb1 ▸ X.szZ; have fr1 : @LE.le Nat _ h0.size b1 := eb1 ▸ X.sz
    have F1_cls : Fld Z h1 b1 "com/example/ajar/ajar/compile/Literal" "cls" "Ljava/lang/String;" .null := D1 (Or.inr (w43 hw)) (ty := (.object "java/lang/String")) (by decide)
    have F1_positive : Fld Z h1 b1 "com/example/ajar/ajar/compile/Literal" "positive" "Z" (.int (0 : Int32)) := D1 (Or.inr (w45 hw)) (ty := .boolean) (by decide)
    refine g_dup X1 d22_264 rfl ?_
    refine g_new X1 d22_265 (w4 hw) (w5 hw) (w6 hw) 4 17 rfl rfl (by decide) (by decide) fun T2 h2 b2 X2 E2 eb2 nb2 Ex2 D2 => ?_
    have z2 := E2.1; have lt2 : @LT.lt Nat _ b2 h2.size := Ex2.lt; have zl2 : @LE.le Nat _ Z.heap.size b2 := eb2 ▸ X1.szZ; have fr2 : @LE.le Nat _ h0.size b2 := eb2 ▸ X1.sz
    have F2_coder : Fld Z h2 b2 "java/lang/String" "coder" "B" (.int (0 : Int32)) := D2 (Or.inr (w30 hw)) (ty := .byte) (by decide)
    have F2_value : Fld Z h2 b2 "java/lang/String" "value" "[B" .null := D2 (Or.inr (w32 hw)) (ty := (.array .byte)) (by decide)
    refine g_dup X2 d22_268 rfl ?_
    refine g_aload X2 d22_269 rfl rfl ?_
    have A3 := ((Ac.ext E1).ext E2)
    refine g_callI X2 d22_271 (w7 hw) (w8 hw) (w6 hw) (w9 hw) rfl (by decide) pd17 b2 [(.ref ac)] [(.ref b2), (.ref b1), (.ref b1)] 3 (c_initCL hw hs b2 ac ([110, 111, 109, 40] ++ cs ++ [41]) Ex2 F2_value F2_coder nb2 zl2 A3 (by omega) (by simp) (by simp; omega) (k_lat hC8)) rfl rfl rfl (Nat.le_of_eq rfl) (by decide) (by decide) 5 25 rfl rfl (by decide) (by decide) (k_ws1 ⟨nb2, zl2, (Or.inr fr2)⟩) fun v4 T4 h4 B4 X4 K4 M4 q4 => ?_
    obtain ⟨rfl, rfl, Ss⟩ := q4
    have z4 := K4.1
    show Go x (T4.setTop (mkF x.m 274 #[.val (.int p0), .val (.int p1), .val (.int p2), .val (.int p3), .val (.int p4), .val (.int nn), .val (.int c0), .val (.int c1), .val (.int c2), .val (.ref ac), .val (.ref ai), .unset, .unset] [(.ref b2), (.ref b1), (.ref b1)]))
    rw [k_b8s hC8] at Ss
    have lss := Ss.lt
    refine g_iload X4 d22_274 rfl ?_
    refine g_iconst X4 (1 : Int32) d22_276 (by decide) ?_
    refine g_iand X4 (p4 &&& (1 : Int32)) d22_277 rfl ?_
    have flag : ∀ (f : Int32) (hf : f = 0 ∨ f = 1), Go x (T4.setTop (mkF x.m 286 #[.val (.int p0), .val (.int p1), .val (.int p2), .val (.int p3), .val (.int p4), .val (.int nn), .val (.int c0), .val (.int c1), .val (.int c2), .val (.ref ac), .val (.ref ai), .unset, .unset] [(.int f), (.ref b2), (.ref b1), (.ref b1)])) := by
      intro f hf
      have E_5 := ((Ex1.ext E2).keep K4)
      have F6 := ((F1_cls.ext E2).keep K4 (ninS (k_neN (by omega)) nin0))
      have F7 := ((F1_positive.ext E2).keep K4 (ninS (k_neN (by omega)) nin0))
      refine g_callI X4 d22_286 (w33 hw) (w34 hw) (w3 hw) (w35 hw) rfl (by decide) pd18 b1 [(.ref b2), (.int f)] [(.ref b1)] 1 (c_litInit hw hs b1 b2 f hf E_5 F6 F7 nb1 zl1) rfl rfl rfl (Nat.le_of_eq rfl) (by decide) (by decide) 5 25 rfl rfl (by decide) (by decide) (k_ws1 ⟨nb1, zl1, (Or.inr fr1)⟩) fun v8 T8 h8 B8 X8 K8 M8 q8 => ?_
      obtain ⟨rfl, rfl, El, Fl⟩ := q8
      have z8 := K8.1
      show Go x (T8.setTop (mkF x.m 289 #[.val (.int p0), .val (.int p1), .val (.int p2), .val (.int p3), .val (.int p4), .val (.int nn), .val (.int c0), .val (.int c1), .val (.int c2), .val (.ref ac), .val (.ref ai), .unset, .unset] [(.ref b1)]))
      have SsX := Ss.keepX K8 E_5 (w2 hw) (by decide)
      refine g_astore X8 #[.val (.int p0), .val (.int p1), .val (.int p2), .val (.int p3), .val (.int p4), .val (.int nn), .val (.int c0), .val (.int c1), .val (.int c2), .val (.ref ac), .val (.ref ai), .val (.ref b1), .unset] d22_289 rfl rfl ?_
      refine g_aload X8 d22_291 rfl rfl ?_
      refine g_callV X8 d22_293 (w46 hw) (w47 hw) (w49 hw) (w48 hw) (w3 hw) (w50 hw) (by decide) pd19 b1 [] [] 0 El (c_indiv hw hs b1 b2 h4.size (cs.map lo8) El Fl (by omega) SsX (by simpa using hl3) hE1 hE2) rfl rfl rfl (Nat.le_of_eq rfl) (by decide) (by decide) 9 52 rfl rfl (by decide) (by decide) (fun _ q => nomatch q) fun v9 T9 h9 B9 X9 K9 M9 q9 => ?_
      obtain ⟨r, rfl, Sr⟩ := q9
      have z9 := K9.1
      show Go x (T9.setTop (mkF x.m 296 #[.val (.int p0), .val (.int p1), .val (.int p2), .val (.int p3), .val (.int p4), .val (.int nn), .val (.int c0), .val (.int c1), .val (.int c2), .val (.ref ac), .val (.ref ai), .val (.ref b1), .unset] [(.ref r)]))
      have lr := Sr.lt
      refine g_astore X9 #[.val (.int p0), .val (.int p1), .val (.int p2), .val (.int p3), .val (.int p4), .val (.int nn), .val (.int c0), .val (.int c1), .val (.int c2), .val (.ref ac), .val (.ref ai), .val (.ref b1), .val (.ref r)] d22_296 rfl rfl ?_
      refine g_aload X9 d22_298 rfl rfl ?_
      refine g_callVp X9 d22_300 (w88 hw) (w55 hw) (w57 hw) (w56 hw) (w6 hw) (w58 hw) (by decide) pd11 r [] [] 0 Sr.exa (c_lengthL hw hs r (cs.map lo8) Sr.v) rfl rfl rfl (Nat.le_of_eq rfl) (by decide) (by decide) 9 52 rfl rfl (by decide) (by decide) fun T10 X10 => ?_
      refine g_iload X10 d22_303 rfl ?_
      refine g_icmpF X10 d22_305 (XT.ii_ne_f (by rw [hcs]; simp)) ?_
      refine g_aload X10 d22_308 rfl rfl ?_
      refine g_new X10 d22_310 (w4 hw) (w5 hw) (w6 hw) 10 56 rfl rfl (by decide) (by decide) fun T11 h11 b11 X11 E11 eb11 nb11 Ex11 D11 => ?_
      have z11 := E11.1; have lt11 : @LT.lt Nat _ b11 h11.size := Ex11.lt; have zl11 : @LE.le Nat _ Z.heap.size b11 := eb11 ▸ X10.szZ; have fr11 : @LE.le Nat _ h0.size b11 := eb11 ▸ X10.sz
      have F11_coder : Fld Z h11 b11 "java/lang/String" "coder" "B" (.int (0 : Int32)) := D11 (Or.inr (w30 hw)) (ty := .byte) (by decide)
      have F11_value : Fld Z h11 b11 "java/lang/String" "value" "[B" .null := D11 (Or.inr (w32 hw)) (ty := (.array .byte)) (by decide)
      refine g_dup X11 d22_313 rfl ?_
      refine g_aload X11 d22_314 rfl rfl ?_
      have last : ∀ (s2 : Addr) (T : State) (h : Heap) (B : BP) (X : Wk false l Z consts_1 "com/example/ajar/ajar/compile/LiteralIndividualPinLaw" code 13 (some .boolean) "law" room_1 h0 B0 [] (fun v h B => v = some (.int 1)) x T h B 14 64) (R1 : Str Z h h.size r 0 (cs.map lo8)) (R2 : Str Z h h.size s2 0 (cs.map lo8)), Go x (T.setTop (mkF x.m 319 #[.val (.int p0), .val (.int p1), .val (.int p2), .val (.int p3), .val (.int p4), .val (.int nn), .val (.int c0), .val (.int c1), .val (.int c2), .val (.ref ac), .val (.ref ai), .val (.ref b1), .val (.ref r)] [(.ref s2), (.ref r)])) := by
        intro s2 T h B X R1 R2
        refine g_callVp X d22_319 (w90 hw) (w91 hw) (w93 hw) (w92 hw) (w6 hw) (w94 hw) (by decide) pd20 r [(.ref s2)] [] 0 R1.exa (c_equalsS hw hs r s2 _ _ R1.v R2.v) rfl rfl rfl (Nat.le_of_eq rfl) (by decide) (by decide) 14 64 rfl rfl (by decide) (by decide) fun T12 X12 => ?_
        refine g_ifF X12 d22_322 (XT.i0_eq_f (by simp)) ?_
        refine g_iconst X12 (1 : Int32) d22_325 (by decide) ?_
        refine g_goto X12 d22_326 ?_
        exact g_ireturn (w' := (1 : Int32)) X12 d22_330 (Or.inl rfl) (by decide) (by decide) (by decide) rfl
      rcases cs with _ | ⟨c, cs⟩
      ·
        have A13 := ((((((Ai.ext E1).ext E2).keep K4 (ninS (k_neN (by omega)) nin0)).keep K8 (ninS (k_neN (by omega)) nin0)).keep K9 nin0).ext E11)
        refine g_callI X11 d22_316 (w7 hw) (w8 hw) (w6 hw) (w9 hw) rfl (by decide) pd17 b11 [(.ref ai)] [(.ref b11), (.ref r)] 2 (c_initCE hw hs b11 ai Ex11 F11_value F11_coder nb11 zl11 A13 hE) rfl rfl rfl (Nat.le_of_eq rfl) (by decide) (by decide) 14 64 rfl rfl (by decide) (by decide) (k_ws1 ⟨nb11, zl11, (Or.inr fr11)⟩) fun v14 T14 h14 B14 X14 K14 M14 q14 => ?_
        obtain ⟨rfl, S2⟩ := q14
        have z14 := K14.1
        show Go x (T14.setTop (mkF x.m 319 #[.val (.int p0), .val (.int p1), .val (.int p2), .val (.int p3), .val (.int p4), .val (.int nn), .val (.int c0), .val (.int c1), .val (.int c2), .val (.ref ac), .val (.ref ai), .val (.ref b1), .val (.ref r)] [(.ref b11), (.ref r)]))
        have U15 := ((Sr.ext E11).keep K14 (allS (by omega) all0))
        exact last b11 T14 h14 B14 X14 (U15.mono (by omega)) S2
      ·
        have A16 := ((((((Ai.ext E1).ext E2).keep K4 (ninS (k_neN (by omega)) nin0)).keep K8 (ninS (k_neN (by omega)) nin0)).keep K9 nin0).ext E11)
        refine g_callI X11 d22_316 (w7 hw) (w8 hw) (w6 hw) (w9 hw) rfl (by decide) pd17 b11 [(.ref ai)] [(.ref b11), (.ref r)] 2 (c_initCL hw hs b11 ai (c :: cs) Ex11 F11_value F11_coder nb11 zl11 A16 (by omega) (by simp) (by omega) (fun d hd => (hC8 d hd).1)) rfl rfl rfl (Nat.le_of_eq rfl) (by decide) (by decide) 11 64 rfl rfl (by decide) (by decide) (k_ws1 ⟨nb11, zl11, (Or.inr fr11)⟩) fun v17 T17 h17 B17 X17 K17 M17 q17 => ?_
        obtain ⟨rfl, rfl, S2⟩ := q17
        have z17 := K17.1
        show Go x (T17.setTop (mkF x.m 319 #[.val (.int p0), .val (.int p1), .val (.int p2), .val (.int p3), .val (.int p4), .val (.int nn), .val (.int c0), .val (.int c1), .val (.int c2), .val (.ref ac), .val (.ref ai), .val (.ref b1), .val (.ref r)] [(.ref b11), (.ref r)]))
        have U18 := ((Sr.ext E11).keep K17 (allS (by omega) all0))
        exact last b11 T17 h17 B9 (X17.more (by decide) (by decide)) (U18.mono (by omega)) S2
    by_cases hc19 : (p4 &&& (1 : Int32)) = 0
    ·
      refine g_ifT X4 d22_278 (XT.i0_eq_t hc19) ?_
      refine g_iconst X4 (0 : Int32) d22_285 (by decide) ?_
      exact flag 0 (Or.inl rfl)
    ·
      refine g_ifF X4 d22_278 (XT.i0_eq_f hc19) ?_
      refine g_iconst X4 (1 : Int32) d22_281 (by decide) ?_
      refine g_goto X4 d22_282 ?_
      exact flag 1 (Or.inr rfl)
  by_cases hn0 : nn = 0
  ·
    refine g_ifF X0 d22_31 (XT.i0_ne_f hn0) ?_
    refine g_iconst X0 (5 : Int32) d22_34 (by decide) ?_
    refine g_newarray X0 d22_35 rfl (w0 hw) 5 5 (by decide) (Nat.le_refl _) (by decide) 1 5 rfl rfl (by decide) (by decide) fun T20 h20 b20 X20 E20 eb20 nb20 A20 => ?_
    have z20 := E20.1; have lt20 : @LT.lt Nat _ b20 h20.size := A20.lt; have zl20 : @LE.le Nat _ Z.heap.size b20 := eb20 ▸ X0.szZ; have fr20 : @LE.le Nat _ h0.size b20 := eb20 ▸ X0.sz
    have A20a : Ay Z h20 b20 .char [(.int (0 : Int32)), (.int (0 : Int32)), (.int (0 : Int32)), (.int (0 : Int32)), (.int (0 : Int32))] := A20
    refine g_dup X20 d22_37 rfl ?_
    refine g_iconst X20 (0 : Int32) d22_38 (by decide) ?_
    refine g_bipush X20 (110 : Int32) d22_39 (by decide) ?_
    refine g_castore X20 d22_41 A20a 0 (by decide) (110 : Int32) (by decide) (Nat.le_of_ble_eq_true rfl) nb20 zl20 (Or.inr fr20) fun T21 h21 X21 K21 A21 => ?_
    have z21 := K21.1
    have A21a : Ay Z h21 b20 .char [(.int (110 : Int32)), (.int (0 : Int32)), (.int (0 : Int32)), (.int (0 : Int32)), (.int (0 : Int32))] := A21
    refine g_dup X21 d22_42 rfl ?_
    refine g_iconst X21 (1 : Int32) d22_43 (by decide) ?_
    refine g_bipush X21 (111 : Int32) d22_44 (by decide) ?_
    refine g_castore X21 d22_46 A21a 1 (by decide) (111 : Int32) (by decide) (Nat.le_of_ble_eq_true rfl) nb20 zl20 (Or.inr fr20) fun T22 h22 X22 K22 A22 => ?_
    have z22 := K22.1
    have A22a : Ay Z h22 b20 .char [(.int (110 : Int32)), (.int (111 : Int32)), (.int (0 : Int32)), (.int (0 : Int32)), (.int (0 : Int32))] := A22
    refine g_dup X22 d22_47 rfl ?_
    refine g_iconst X22 (2 : Int32) d22_48 (by decide) ?_
    refine g_bipush X22 (109 : Int32) d22_49 (by decide) ?_
    refine g_castore X22 d22_51 A22a 2 (by decide) (109 : Int32) (by decide) (Nat.le_of_ble_eq_true rfl) nb20 zl20 (Or.inr fr20) fun T23 h23 X23 K23 A23 => ?_
    have z23 := K23.1
    have A23a : Ay Z h23 b20 .char [(.int (110 : Int32)), (.int (111 : Int32)), (.int (109 : Int32)), (.int (0 : Int32)), (.int (0 : Int32))] := A23
    refine g_dup X23 d22_52 rfl ?_
    refine g_iconst X23 (3 : Int32) d22_53 (by decide) ?_
    refine g_bipush X23 (40 : Int32) d22_54 (by decide) ?_
    refine g_castore X23 d22_56 A23a 3 (by decide) (40 : Int32) (by decide) (Nat.le_of_ble_eq_true rfl) nb20 zl20 (Or.inr fr20) fun T24 h24 X24 K24 A24 => ?_
    have z24 := K24.1
    have A24a : Ay Z h24 b20 .char [(.int (110 : Int32)), (.int (111 : Int32)), (.int (109 : Int32)), (.int (40 : Int32)), (.int (0 : Int32))] := A24
    refine g_dup X24 d22_57 rfl ?_
    refine g_iconst X24 (4 : Int32) d22_58 (by decide) ?_
    refine g_bipush X24 (41 : Int32) d22_59 (by decide) ?_
    refine g_castore X24 d22_61 A24a 4 (by decide) (41 : Int32) (by decide) (Nat.le_of_ble_eq_true rfl) nb20 zl20 (Or.inr fr20) fun T25 h25 X25 K25 A25 => ?_
    have z25 := K25.1
    have A25a : Ay Z h25 b20 .char [(.int (110 : Int32)), (.int (111 : Int32)), (.int (109 : Int32)), (.int (40 : Int32)), (.int (41 : Int32))] := A25
    refine g_astore X25 #[.val (.int p0), .val (.int p1), .val (.int p2), .val (.int p3), .val (.int p4), .val (.int nn), .val (.int c0), .val (.int c1), .val (.int c2), .val (.ref b20), .unset, .unset, .unset] d22_62 rfl rfl ?_
    refine g_iconst X25 (0 : Int32) d22_64 (by decide) ?_
    refine g_newarray X25 d22_65 rfl (w0 hw) 0 0 (by decide) (Nat.le_refl _) (by decide) 2 5 rfl rfl (by decide) (by decide) fun T26 h26 b26 X26 E26 eb26 nb26 A26 => ?_
    have z26 := E26.1; have lt26 : @LT.lt Nat _ b26 h26.size := A26.lt; have zl26 : @LE.le Nat _ Z.heap.size b26 := eb26 ▸ X25.szZ; have fr26 : @LE.le Nat _ h0.size b26 := eb26 ▸ X25.sz
    have A26a : Ay Z h26 b26 .char [] := A26
    refine g_astore X26 #[.val (.int p0), .val (.int p1), .val (.int p2), .val (.int p3), .val (.int p4), .val (.int nn), .val (.int c0), .val (.int c1), .val (.int c2), .val (.ref b20), .val (.ref b26), .unset, .unset] d22_67 rfl rfl ?_
    refine g_goto X26 d22_69 ?_
    have A27 := (A25a.ext E26)
    exact rest [] hn0 (by simp) (fun c hc => nomatch hc) b20 b26 T26 h26 B0 (X26.more (by decide) (by decide)) A27 A26a
  ·
    refine g_ifT X0 d22_31 (XT.i0_ne_t hn0) ?_
    refine g_iload X0 d22_72 rfl ?_
    refine g_iconst X0 (1 : Int32) d22_74 (by decide) ?_
    by_cases hn1 : nn = (1 : Int32)
    ·
      refine g_icmpF X0 d22_75 (XT.ii_ne_f hn1) ?_
      refine g_bipush X0 (6 : Int32) d22_78 (by decide) ?_
      refine g_newarray X0 d22_80 rfl (w0 hw) 6 6 (by decide) (Nat.le_refl _) (by decide) 1 6 rfl rfl (by decide) (by decide) fun T28 h28 b28 X28 E28 eb28 nb28 A28 => ?_
      have z28 := E28.1; have lt28 : @LT.lt Nat _ b28 h28.size := A28.lt; have zl28 : @LE.le Nat _ Z.heap.size b28 := eb28 ▸ X0.szZ; have fr28 : @LE.le Nat _ h0.size b28 := eb28 ▸ X0.sz
      have A28a : Ay Z h28 b28 .char [(.int (0 : Int32)), (.int (0 : Int32)), (.int (0 : Int32)), (.int (0 : Int32)), (.int (0 : Int32)), (.int (0 : Int32))] := A28
      refine g_dup X28 d22_82 rfl ?_
      refine g_iconst X28 (0 : Int32) d22_83 (by decide) ?_
      refine g_bipush X28 (110 : Int32) d22_84 (by decide) ?_
      refine g_castore X28 d22_86 A28a 0 (by decide) (110 : Int32) (by decide) (Nat.le_of_ble_eq_true rfl) nb28 zl28 (Or.inr fr28) fun T29 h29 X29 K29 A29 => ?_
      have z29 := K29.1
      have A29a : Ay Z h29 b28 .char [(.int (110 : Int32)), (.int (0 : Int32)), (.int (0 : Int32)), (.int (0 : Int32)), (.int (0 : Int32)), (.int (0 : Int32))] := A29
      refine g_dup X29 d22_87 rfl ?_
      refine g_iconst X29 (1 : Int32) d22_88 (by decide) ?_
      refine g_bipush X29 (111 : Int32) d22_89 (by decide) ?_
      refine g_castore X29 d22_91 A29a 1 (by decide) (111 : Int32) (by decide) (Nat.le_of_ble_eq_true rfl) nb28 zl28 (Or.inr fr28) fun T30 h30 X30 K30 A30 => ?_
      have z30 := K30.1
      have A30a : Ay Z h30 b28 .char [(.int (110 : Int32)), (.int (111 : Int32)), (.int (0 : Int32)), (.int (0 : Int32)), (.int (0 : Int32)), (.int (0 : Int32))] := A30
      refine g_dup X30 d22_92 rfl ?_
      refine g_iconst X30 (2 : Int32) d22_93 (by decide) ?_
      refine g_bipush X30 (109 : Int32) d22_94 (by decide) ?_
      refine g_castore X30 d22_96 A30a 2 (by decide) (109 : Int32) (by decide) (Nat.le_of_ble_eq_true rfl) nb28 zl28 (Or.inr fr28) fun T31 h31 X31 K31 A31 => ?_
      have z31 := K31.1
      have A31a : Ay Z h31 b28 .char [(.int (110 : Int32)), (.int (111 : Int32)), (.int (109 : Int32)), (.int (0 : Int32)), (.int (0 : Int32)), (.int (0 : Int32))] := A31
      refine g_dup X31 d22_97 rfl ?_
      refine g_iconst X31 (3 : Int32) d22_98 (by decide) ?_
      refine g_bipush X31 (40 : Int32) d22_99 (by decide) ?_
      refine g_castore X31 d22_101 A31a 3 (by decide) (40 : Int32) (by decide) (Nat.le_of_ble_eq_true rfl) nb28 zl28 (Or.inr fr28) fun T32 h32 X32 K32 A32 => ?_
      have z32 := K32.1
      have A32a : Ay Z h32 b28 .char [(.int (110 : Int32)), (.int (111 : Int32)), (.int (109 : Int32)), (.int (40 : Int32)), (.int (0 : Int32)), (.int (0 : Int32))] := A32
      refine g_dup X32 d22_102 rfl ?_
      refine g_iconst X32 (4 : Int32) d22_103 (by decide) ?_
      refine g_iload X32 d22_104 rfl ?_
      refine g_castore X32 d22_106 A32a 4 (by decide) c0 (nar_c8 hc0) (Nat.le_of_ble_eq_true rfl) nb28 zl28 (Or.inr fr28) fun T33 h33 X33 K33 A33 => ?_
      have z33 := K33.1
      have A33a : Ay Z h33 b28 .char [(.int (110 : Int32)), (.int (111 : Int32)), (.int (109 : Int32)), (.int (40 : Int32)), (.int c0), (.int (0 : Int32))] := A33
      refine g_dup X33 d22_107 rfl ?_
      refine g_iconst X33 (5 : Int32) d22_108 (by decide) ?_
      refine g_bipush X33 (41 : Int32) d22_109 (by decide) ?_
      refine g_castore X33 d22_111 A33a 5 (by decide) (41 : Int32) (by decide) (Nat.le_of_ble_eq_true rfl) nb28 zl28 (Or.inr fr28) fun T34 h34 X34 K34 A34 => ?_
      have z34 := K34.1
      have A34a : Ay Z h34 b28 .char [(.int (110 : Int32)), (.int (111 : Int32)), (.int (109 : Int32)), (.int (40 : Int32)), (.int c0), (.int (41 : Int32))] := A34
      refine g_astore X34 #[.val (.int p0), .val (.int p1), .val (.int p2), .val (.int p3), .val (.int p4), .val (.int nn), .val (.int c0), .val (.int c1), .val (.int c2), .val (.ref b28), .unset, .unset, .unset] d22_112 rfl rfl ?_
      refine g_iconst X34 (1 : Int32) d22_114 (by decide) ?_
      refine g_newarray X34 d22_115 rfl (w0 hw) 1 1 (by decide) (Nat.le_refl _) (by decide) 2 7 rfl rfl (by decide) (by decide) fun T35 h35 b35 X35 E35 eb35 nb35 A35 => ?_
      have z35 := E35.1; have lt35 : @LT.lt Nat _ b35 h35.size := A35.lt; have zl35 : @LE.le Nat _ Z.heap.size b35 := eb35 ▸ X34.szZ; have fr35 : @LE.le Nat _ h0.size b35 := eb35 ▸ X34.sz
      have A35a : Ay Z h35 b35 .char [(.int (0 : Int32))] := A35
      refine g_dup X35 d22_117 rfl ?_
      refine g_iconst X35 (0 : Int32) d22_118 (by decide) ?_
      refine g_iload X35 d22_119 rfl ?_
      refine g_castore X35 d22_121 A35a 0 (by decide) c0 (nar_c8 hc0) (Nat.le_of_ble_eq_true rfl) nb35 zl35 (Or.inr fr35) fun T36 h36 X36 K36 A36 => ?_
      have z36 := K36.1
      have A36a : Ay Z h36 b35 .char [(.int c0)] := A36
      refine g_astore X36 #[.val (.int p0), .val (.int p1), .val (.int p2), .val (.int p3), .val (.int p4), .val (.int nn), .val (.int c0), .val (.int c1), .val (.int c2), .val (.ref b28), .val (.ref b35), .unset, .unset] d22_122 rfl rfl ?_
      refine g_goto X36 d22_124 ?_
      have A37 := ((A34a.ext E35).keep K36 (ninS (k_neN (by omega)) nin0))
      exact rest [c0] hn1 (by simp) (by intro c hc; simp only [List.mem_cons, List.not_mem_nil, or_false] at hc; subst hc; assumption) b28 b35 T36 h36 B0 (X36.more (by decide) (by decide)) A37 A36a
    ·
      refine g_icmpT X0 d22_75 (XT.ii_ne_t hn1) ?_
      refine g_iload X0 d22_127 rfl ?_
      refine g_iconst X0 (2 : Int32) d22_129 (by decide) ?_
      by_cases hn2 : nn = (2 : Int32)
      ·
        refine g_icmpF X0 d22_130 (XT.ii_ne_f hn2) ?_
        refine g_bipush X0 (7 : Int32) d22_133 (by decide) ?_
        refine g_newarray X0 d22_135 rfl (w0 hw) 7 7 (by decide) (Nat.le_refl _) (by decide) 1 7 rfl rfl (by decide) (by decide) fun T38 h38 b38 X38 E38 eb38 nb38 A38 => ?_
        have z38 := E38.1; have lt38 : @LT.lt Nat _ b38 h38.size := A38.lt; have zl38 : @LE.le Nat _ Z.heap.size b38 := eb38 ▸ X0.szZ; have fr38 : @LE.le Nat _ h0.size b38 := eb38 ▸ X0.sz
        have A38a : Ay Z h38 b38 .char [(.int (0 : Int32)), (.int (0 : Int32)), (.int (0 : Int32)), (.int (0 : Int32)), (.int (0 : Int32)), (.int (0 : Int32)), (.int (0 : Int32))] := A38
        refine g_dup X38 d22_137 rfl ?_
        refine g_iconst X38 (0 : Int32) d22_138 (by decide) ?_
        refine g_bipush X38 (110 : Int32) d22_139 (by decide) ?_
        refine g_castore X38 d22_141 A38a 0 (by decide) (110 : Int32) (by decide) (Nat.le_of_ble_eq_true rfl) nb38 zl38 (Or.inr fr38) fun T39 h39 X39 K39 A39 => ?_
        have z39 := K39.1
        have A39a : Ay Z h39 b38 .char [(.int (110 : Int32)), (.int (0 : Int32)), (.int (0 : Int32)), (.int (0 : Int32)), (.int (0 : Int32)), (.int (0 : Int32)), (.int (0 : Int32))] := A39
        refine g_dup X39 d22_142 rfl ?_
        refine g_iconst X39 (1 : Int32) d22_143 (by decide) ?_
        refine g_bipush X39 (111 : Int32) d22_144 (by decide) ?_
        refine g_castore X39 d22_146 A39a 1 (by decide) (111 : Int32) (by decide) (Nat.le_of_ble_eq_true rfl) nb38 zl38 (Or.inr fr38) fun T40 h40 X40 K40 A40 => ?_
        have z40 := K40.1
        have A40a : Ay Z h40 b38 .char [(.int (110 : Int32)), (.int (111 : Int32)), (.int (0 : Int32)), (.int (0 : Int32)), (.int (0 : Int32)), (.int (0 : Int32)), (.int (0 : Int32))] := A40
        refine g_dup X40 d22_147 rfl ?_
        refine g_iconst X40 (2 : Int32) d22_148 (by decide) ?_
        refine g_bipush X40 (109 : Int32) d22_149 (by decide) ?_
        refine g_castore X40 d22_151 A40a 2 (by decide) (109 : Int32) (by decide) (Nat.le_of_ble_eq_true rfl) nb38 zl38 (Or.inr fr38) fun T41 h41 X41 K41 A41 => ?_
        have z41 := K41.1
        have A41a : Ay Z h41 b38 .char [(.int (110 : Int32)), (.int (111 : Int32)), (.int (109 : Int32)), (.int (0 : Int32)), (.int (0 : Int32)), (.int (0 : Int32)), (.int (0 : Int32))] := A41
        refine g_dup X41 d22_152 rfl ?_
        refine g_iconst X41 (3 : Int32) d22_153 (by decide) ?_
        refine g_bipush X41 (40 : Int32) d22_154 (by decide) ?_
        refine g_castore X41 d22_156 A41a 3 (by decide) (40 : Int32) (by decide) (Nat.le_of_ble_eq_true rfl) nb38 zl38 (Or.inr fr38) fun T42 h42 X42 K42 A42 => ?_
        have z42 := K42.1
        have A42a : Ay Z h42 b38 .char [(.int (110 : Int32)), (.int (111 : Int32)), (.int (109 : Int32)), (.int (40 : Int32)), (.int (0 : Int32)), (.int (0 : Int32)), (.int (0 : Int32))] := A42
        refine g_dup X42 d22_157 rfl ?_
        refine g_iconst X42 (4 : Int32) d22_158 (by decide) ?_
        refine g_iload X42 d22_159 rfl ?_
        refine g_castore X42 d22_161 A42a 4 (by decide) c0 (nar_c8 hc0) (Nat.le_of_ble_eq_true rfl) nb38 zl38 (Or.inr fr38) fun T43 h43 X43 K43 A43 => ?_
        have z43 := K43.1
        have A43a : Ay Z h43 b38 .char [(.int (110 : Int32)), (.int (111 : Int32)), (.int (109 : Int32)), (.int (40 : Int32)), (.int c0), (.int (0 : Int32)), (.int (0 : Int32))] := A43
        refine g_dup X43 d22_162 rfl ?_
        refine g_iconst X43 (5 : Int32) d22_163 (by decide) ?_
        refine g_iload X43 d22_164 rfl ?_
        refine g_castore X43 d22_166 A43a 5 (by decide) c1 (nar_c8 hc1) (Nat.le_of_ble_eq_true rfl) nb38 zl38 (Or.inr fr38) fun T44 h44 X44 K44 A44 => ?_
        have z44 := K44.1
        have A44a : Ay Z h44 b38 .char [(.int (110 : Int32)), (.int (111 : Int32)), (.int (109 : Int32)), (.int (40 : Int32)), (.int c0), (.int c1), (.int (0 : Int32))] := A44
        refine g_dup X44 d22_167 rfl ?_
        refine g_bipush X44 (6 : Int32) d22_168 (by decide) ?_
        refine g_bipush X44 (41 : Int32) d22_170 (by decide) ?_
        refine g_castore X44 d22_172 A44a 6 (by decide) (41 : Int32) (by decide) (Nat.le_of_ble_eq_true rfl) nb38 zl38 (Or.inr fr38) fun T45 h45 X45 K45 A45 => ?_
        have z45 := K45.1
        have A45a : Ay Z h45 b38 .char [(.int (110 : Int32)), (.int (111 : Int32)), (.int (109 : Int32)), (.int (40 : Int32)), (.int c0), (.int c1), (.int (41 : Int32))] := A45
        refine g_astore X45 #[.val (.int p0), .val (.int p1), .val (.int p2), .val (.int p3), .val (.int p4), .val (.int nn), .val (.int c0), .val (.int c1), .val (.int c2), .val (.ref b38), .unset, .unset, .unset] d22_173 rfl rfl ?_
        refine g_iconst X45 (2 : Int32) d22_175 (by decide) ?_
        refine g_newarray X45 d22_176 rfl (w0 hw) 2 2 (by decide) (Nat.le_refl _) (by decide) 2 9 rfl rfl (by decide) (by decide) fun T46 h46 b46 X46 E46 eb46 nb46 A46 => ?_
        have z46 := E46.1; have lt46 : @LT.lt Nat _ b46 h46.size := A46.lt; have zl46 : @LE.le Nat _ Z.heap.size b46 := eb46 ▸ X45.szZ; have fr46 : @LE.le Nat _ h0.size b46 := eb46 ▸ X45.sz
        have A46a : Ay Z h46 b46 .char [(.int (0 : Int32)), (.int (0 : Int32))] := A46
        refine g_dup X46 d22_178 rfl ?_
        refine g_iconst X46 (0 : Int32) d22_179 (by decide) ?_
        refine g_iload X46 d22_180 rfl ?_
        refine g_castore X46 d22_182 A46a 0 (by decide) c0 (nar_c8 hc0) (Nat.le_of_ble_eq_true rfl) nb46 zl46 (Or.inr fr46) fun T47 h47 X47 K47 A47 => ?_
        have z47 := K47.1
        have A47a : Ay Z h47 b46 .char [(.int c0), (.int (0 : Int32))] := A47
        refine g_dup X47 d22_183 rfl ?_
        refine g_iconst X47 (1 : Int32) d22_184 (by decide) ?_
        refine g_iload X47 d22_185 rfl ?_
        refine g_castore X47 d22_187 A47a 1 (by decide) c1 (nar_c8 hc1) (Nat.le_of_ble_eq_true rfl) nb46 zl46 (Or.inr fr46) fun T48 h48 X48 K48 A48 => ?_
        have z48 := K48.1
        have A48a : Ay Z h48 b46 .char [(.int c0), (.int c1)] := A48
        refine g_astore X48 #[.val (.int p0), .val (.int p1), .val (.int p2), .val (.int p3), .val (.int p4), .val (.int nn), .val (.int c0), .val (.int c1), .val (.int c2), .val (.ref b38), .val (.ref b46), .unset, .unset] d22_188 rfl rfl ?_
        refine g_goto X48 d22_190 ?_
        have A49 := (((A45a.ext E46).keep K47 (ninS (k_neN (by omega)) nin0)).keep K48 (ninS (k_neN (by omega)) nin0))
        exact rest [c0, c1] hn2 (by simp) (by intro c hc; simp only [List.mem_cons, List.not_mem_nil, or_false] at hc; rcases hc with rfl | rfl <;> assumption) b38 b46 T48 h48 B0 (X48.more (by decide) (by decide)) A49 A48a
      ·
        refine g_icmpT X0 d22_130 (XT.ii_ne_t hn2) ?_
        have hn3 : nn = Int32.ofNat 3 := by rcases hnn with q | q | q | q <;> first | exact absurd q hn0 | exact absurd q hn1 | exact absurd q hn2 | exact q
        refine g_bipush X0 (8 : Int32) d22_193 (by decide) ?_
        refine g_newarray X0 d22_195 rfl (w0 hw) 8 8 (by decide) (Nat.le_refl _) (by decide) 1 8 rfl rfl (by decide) (by decide) fun T50 h50 b50 X50 E50 eb50 nb50 A50 => ?_
        have z50 := E50.1; have lt50 : @LT.lt Nat _ b50 h50.size := A50.lt; have zl50 : @LE.le Nat _ Z.heap.size b50 := eb50 ▸ X0.szZ; have fr50 : @LE.le Nat _ h0.size b50 := eb50 ▸ X0.sz
        have A50a : Ay Z h50 b50 .char [(.int (0 : Int32)), (.int (0 : Int32)), (.int (0 : Int32)), (.int (0 : Int32)), (.int (0 : Int32)), (.int (0 : Int32)), (.int (0 : Int32)), (.int (0 : Int32))] := A50
        refine g_dup X50 d22_197 rfl ?_
        refine g_iconst X50 (0 : Int32) d22_198 (by decide) ?_
        refine g_bipush X50 (110 : Int32) d22_199 (by decide) ?_
        refine g_castore X50 d22_201 A50a 0 (by decide) (110 : Int32) (by decide) (Nat.le_of_ble_eq_true rfl) nb50 zl50 (Or.inr fr50) fun T51 h51 X51 K51 A51 => ?_
        have z51 := K51.1
        have A51a : Ay Z h51 b50 .char [(.int (110 : Int32)), (.int (0 : Int32)), (.int (0 : Int32)), (.int (0 : Int32)), (.int (0 : Int32)), (.int (0 : Int32)), (.int (0 : Int32)), (.int (0 : Int32))] := A51
        refine g_dup X51 d22_202 rfl ?_
        refine g_iconst X51 (1 : Int32) d22_203 (by decide) ?_
        refine g_bipush X51 (111 : Int32) d22_204 (by decide) ?_
        refine g_castore X51 d22_206 A51a 1 (by decide) (111 : Int32) (by decide) (Nat.le_of_ble_eq_true rfl) nb50 zl50 (Or.inr fr50) fun T52 h52 X52 K52 A52 => ?_
        have z52 := K52.1
        have A52a : Ay Z h52 b50 .char [(.int (110 : Int32)), (.int (111 : Int32)), (.int (0 : Int32)), (.int (0 : Int32)), (.int (0 : Int32)), (.int (0 : Int32)), (.int (0 : Int32)), (.int (0 : Int32))] := A52
        refine g_dup X52 d22_207 rfl ?_
        refine g_iconst X52 (2 : Int32) d22_208 (by decide) ?_
        refine g_bipush X52 (109 : Int32) d22_209 (by decide) ?_
        refine g_castore X52 d22_211 A52a 2 (by decide) (109 : Int32) (by decide) (Nat.le_of_ble_eq_true rfl) nb50 zl50 (Or.inr fr50) fun T53 h53 X53 K53 A53 => ?_
        have z53 := K53.1
        have A53a : Ay Z h53 b50 .char [(.int (110 : Int32)), (.int (111 : Int32)), (.int (109 : Int32)), (.int (0 : Int32)), (.int (0 : Int32)), (.int (0 : Int32)), (.int (0 : Int32)), (.int (0 : Int32))] := A53
        refine g_dup X53 d22_212 rfl ?_
        refine g_iconst X53 (3 : Int32) d22_213 (by decide) ?_
        refine g_bipush X53 (40 : Int32) d22_214 (by decide) ?_
        refine g_castore X53 d22_216 A53a 3 (by decide) (40 : Int32) (by decide) (Nat.le_of_ble_eq_true rfl) nb50 zl50 (Or.inr fr50) fun T54 h54 X54 K54 A54 => ?_
        have z54 := K54.1
        have A54a : Ay Z h54 b50 .char [(.int (110 : Int32)), (.int (111 : Int32)), (.int (109 : Int32)), (.int (40 : Int32)), (.int (0 : Int32)), (.int (0 : Int32)), (.int (0 : Int32)), (.int (0 : Int32))] := A54
        refine g_dup X54 d22_217 rfl ?_
        refine g_iconst X54 (4 : Int32) d22_218 (by decide) ?_
        refine g_iload X54 d22_219 rfl ?_
        refine g_castore X54 d22_221 A54a 4 (by decide) c0 (nar_c8 hc0) (Nat.le_of_ble_eq_true rfl) nb50 zl50 (Or.inr fr50) fun T55 h55 X55 K55 A55 => ?_
        have z55 := K55.1
        have A55a : Ay Z h55 b50 .char [(.int (110 : Int32)), (.int (111 : Int32)), (.int (109 : Int32)), (.int (40 : Int32)), (.int c0), (.int (0 : Int32)), (.int (0 : Int32)), (.int (0 : Int32))] := A55
        refine g_dup X55 d22_222 rfl ?_
        refine g_iconst X55 (5 : Int32) d22_223 (by decide) ?_
        refine g_iload X55 d22_224 rfl ?_
        refine g_castore X55 d22_226 A55a 5 (by decide) c1 (nar_c8 hc1) (Nat.le_of_ble_eq_true rfl) nb50 zl50 (Or.inr fr50) fun T56 h56 X56 K56 A56 => ?_
        have z56 := K56.1
        have A56a : Ay Z h56 b50 .char [(.int (110 : Int32)), (.int (111 : Int32)), (.int (109 : Int32)), (.int (40 : Int32)), (.int c0), (.int c1), (.int (0 : Int32)), (.int (0 : Int32))] := A56
        refine g_dup X56 d22_227 rfl ?_
        refine g_bipush X56 (6 : Int32) d22_228 (by decide) ?_
        refine g_iload X56 d22_230 rfl ?_
        refine g_castore X56 d22_232 A56a 6 (by decide) c2 (nar_c8 hc2) (Nat.le_of_ble_eq_true rfl) nb50 zl50 (Or.inr fr50) fun T57 h57 X57 K57 A57 => ?_
        have z57 := K57.1
        have A57a : Ay Z h57 b50 .char [(.int (110 : Int32)), (.int (111 : Int32)), (.int (109 : Int32)), (.int (40 : Int32)), (.int c0), (.int c1), (.int c2), (.int (0 : Int32))] := A57
        refine g_dup X57 d22_233 rfl ?_
        refine g_bipush X57 (7 : Int32) d22_234 (by decide) ?_
        refine g_bipush X57 (41 : Int32) d22_236 (by decide) ?_
        refine g_castore X57 d22_238 A57a 7 (by decide) (41 : Int32) (by decide) (Nat.le_of_ble_eq_true rfl) nb50 zl50 (Or.inr fr50) fun T58 h58 X58 K58 A58 => ?_
        have z58 := K58.1
        have A58a : Ay Z h58 b50 .char [(.int (110 : Int32)), (.int (111 : Int32)), (.int (109 : Int32)), (.int (40 : Int32)), (.int c0), (.int c1), (.int c2), (.int (41 : Int32))] := A58
        refine g_astore X58 #[.val (.int p0), .val (.int p1), .val (.int p2), .val (.int p3), .val (.int p4), .val (.int nn), .val (.int c0), .val (.int c1), .val (.int c2), .val (.ref b50), .unset, .unset, .unset] d22_239 rfl rfl ?_
        refine g_iconst X58 (3 : Int32) d22_241 (by decide) ?_
        refine g_newarray X58 d22_242 rfl (w0 hw) 3 3 (by decide) (Nat.le_refl _) (by decide) 2 11 rfl rfl (by decide) (by decide) fun T59 h59 b59 X59 E59 eb59 nb59 A59 => ?_
        have z59 := E59.1; have lt59 : @LT.lt Nat _ b59 h59.size := A59.lt; have zl59 : @LE.le Nat _ Z.heap.size b59 := eb59 ▸ X58.szZ; have fr59 : @LE.le Nat _ h0.size b59 := eb59 ▸ X58.sz
        have A59a : Ay Z h59 b59 .char [(.int (0 : Int32)), (.int (0 : Int32)), (.int (0 : Int32))] := A59
        refine g_dup X59 d22_244 rfl ?_
        refine g_iconst X59 (0 : Int32) d22_245 (by decide) ?_
        refine g_iload X59 d22_246 rfl ?_
        refine g_castore X59 d22_248 A59a 0 (by decide) c0 (nar_c8 hc0) (Nat.le_of_ble_eq_true rfl) nb59 zl59 (Or.inr fr59) fun T60 h60 X60 K60 A60 => ?_
        have z60 := K60.1
        have A60a : Ay Z h60 b59 .char [(.int c0), (.int (0 : Int32)), (.int (0 : Int32))] := A60
        refine g_dup X60 d22_249 rfl ?_
        refine g_iconst X60 (1 : Int32) d22_250 (by decide) ?_
        refine g_iload X60 d22_251 rfl ?_
        refine g_castore X60 d22_253 A60a 1 (by decide) c1 (nar_c8 hc1) (Nat.le_of_ble_eq_true rfl) nb59 zl59 (Or.inr fr59) fun T61 h61 X61 K61 A61 => ?_
        have z61 := K61.1
        have A61a : Ay Z h61 b59 .char [(.int c0), (.int c1), (.int (0 : Int32))] := A61
        refine g_dup X61 d22_254 rfl ?_
        refine g_iconst X61 (2 : Int32) d22_255 (by decide) ?_
        refine g_iload X61 d22_256 rfl ?_
        refine g_castore X61 d22_258 A61a 2 (by decide) c2 (nar_c8 hc2) (Nat.le_of_ble_eq_true rfl) nb59 zl59 (Or.inr fr59) fun T62 h62 X62 K62 A62 => ?_
        have z62 := K62.1
        have A62a : Ay Z h62 b59 .char [(.int c0), (.int c1), (.int c2)] := A62
        refine g_astore X62 #[.val (.int p0), .val (.int p1), .val (.int p2), .val (.int p3), .val (.int p4), .val (.int nn), .val (.int c0), .val (.int c1), .val (.int c2), .val (.ref b50), .val (.ref b59), .unset, .unset] d22_259 rfl rfl ?_
        have A63 := ((((A58a.ext E59).keep K60 (ninS (k_neN (by omega)) nin0)).keep K61 (ninS (k_neN (by omega)) nin0)).keep K62 (ninS (k_neN (by omega)) nin0))
        exact rest [c0, c1, c2] hn3 (by simp) (by intro c hc; simp only [List.mem_cons, List.not_mem_nil, or_false] at hc; rcases hc with rfl | rfl | rfl <;> assumption) b50 b59 T62 h62 B0 X62 A63 A62a
theorem comes_1 {Post : Tables → Env → Array Value → State → Outcome → State → Prop} (hpost : ∀ tb e args s v u, (limb_1_1.after args s (.returned v) u = true ∧ limb_1_2.after args s (.returned v) u = true ∧ True) → FramedW s (.returned v) u (Jvm.fieldLocs frame_1_writes args s ++ Jvm.arrayLocs frame_1_arrays args s ++ Jvm.staticLocs frame_1_statics s) 32 3264 → Post tb e args s (.returned v) u) :
    ArmFor flags0 classFile x code maxLocals ret World_1 tables_1 room_1 Calls_1 rest_1 Pre_1 Post := by
  intro l hfl _ _ p e ha hc hk s m args below hf hA hF happ hP
  obtain ⟨hcalls, hrest, hpre⟩ := hP
  obtain ⟨-, -, -, hnamed, -, -, -, hat⟩ := (Spec.applies_iff hf).mp happ
  obtain ⟨hg, hn⟩ := and_e (Cond.before_iff.mp (show (Jvm.Cond.and given_1 narrow_1).before args s = true from hpre))
  obtain ⟨h1, hg⟩ := and_e hg
  obtain ⟨g0, hg⟩ := and_e hg
  obtain ⟨g1, hg⟩ := and_e hg
  obtain ⟨g2, hg⟩ := and_e hg
  obtain ⟨g3, hg⟩ := and_e hg
  have g4 := hg
  obtain ⟨w0, w1, w2, w3, w4, rfl⟩ : ∃ w0 w1 w2 w3 w4 : Value, args = #[w0, w1, w2, w3, w4] := by
    have hs : args.size = 5 := by simpa [Cond.value, given_1] using h1
    obtain ⟨L⟩ := args
    match L, hs with
    | [w0, w1, w2, w3, w4], _ => exact ⟨w0, w1, w2, w3, w4, rfl⟩
  have hw := fun d (hd : d ∈ tables_1) => atoms_spec (ws := Jvm.Cond.code x code maxLocals ret :: tables_1) hat d (List.mem_cons_of_mem _ hd)
  obtain ⟨hsets, hown0⟩ := atoms_of _ (rest_1_c_eq ▸ (show rest_1_c.before _ s = true from hrest))
  obtain ⟨p0, e0⟩ := is_v g0
  obtain rfl : w0 = (.int p0) := Option.some.inj e0
  obtain ⟨p1, e1⟩ := is_v g1
  obtain rfl : w1 = (.int p1) := Option.some.inj e1
  obtain ⟨p2, e2⟩ := is_v g2
  obtain rfl : w2 = (.int p2) := Option.some.inj e2
  obtain ⟨p3, e3⟩ := is_v g3
  obtain rfl : w3 = (.int p3) := Option.some.inj e3
  obtain ⟨p4, e4⟩ := is_v g4
  obtain rfl : w4 = (.int p4) := Option.some.inj e4
  have n5 := not_v (Cond.before_iff.mp (hsets _ (List.mem_of_getElem? (i := 2) rfl)))
  obtain ⟨cv, ec⟩ := is_v (Cond.before_iff.mp (hsets _ (List.mem_of_getElem? (i := 1) rfl)))
  have S1 : Sta s s.heap "java/lang/String" "COMPACT_STRINGS" "Z" (.int cv) := Sta.start ec (Or.inl (hsets _ (List.mem_of_getElem? (i := 0) rfl)))
  have ncv : ¬ (cv = (0 : Int32)) := gotF (Cond.eq_ints ec (Term.int_eval (0))) n5
  obtain ⟨fv, ef, rf⟩ := isR_v (Cond.before_iff.mp (hsets _ (List.mem_of_getElem? (i := 8) rfl)))
  have S2 : Sta s s.heap "jdk/internal/util/Preconditions" "SIOOBE_FORMATTER" "Ljava/util/function/BiFunction;" fv := Sta.start ef (Or.inl (hsets _ (List.mem_of_getElem? (i := 7) rfl)))
  have hS : Sts s := ⟨⟨cv, S1, ncv⟩, ⟨fv, S2, rf⟩, trivial⟩
  have hEW : EW s _ consts_1 := EW.cons (w51 hw) (by decide) (EW.cons (w89 hw) (by decide) (EW.cons (w87 hw) (by decide) EW.nil))
  have hH : ∀ p ∈ consts_1, Jvm.Lit.constHeld s p.1 p.2 := hcalls.1
  have hI : k_inv s consts_1 (Bk s consts_1 s.vm s.heap) s.vm s.heap := ⟨CHv.start hEW hH (hsets _ (List.mem_of_getElem? (i := 2) rfl)) (strAtoms hw _ (List.mem_of_getElem? (i := 2) rfl)) (strAtoms hw _ (List.mem_of_getElem? (i := 1) rfl)), fun y b => b, fun y b => by obtain ⟨cell, hc⟩ := Bk.there b; exact (Array.getElem?_eq_some_iff.mp hc).1, ⟨Nat.le_refl _, fun _ _ q => q⟩, _, hEW⟩
  obtain ⟨n, o, h1, h2, h3, v, L, B', rfl, rfl, -, -, N, -, hq⟩ := c_law (l := l) hw hS (B0 := (Bk s consts_1 s.vm s.heap)) p0 p1 p2 p3 p4 p e ha hc hk s m _ below hf ((Spec.applies_iff_loose hf).mp happ).1 ⟨rfl, State.Warmed39.refl s, rfl, hI⟩ trivial
  obtain ⟨⟨q1, q2, q3, q4⟩, -⟩ := hq
  refine ⟨n, _, h1, h2, h3, hpost _ _ _ _ _ _ ⟨Cond.after_iff.mpr rfl, Cond.after_iff.mpr (eq_i res_at (Term.int_eval (1)) rfl), trivial⟩ ⟨q1, q2, q3, (q4.sift fun y hy => Or.inr (N y hy)).mono (by decide) (by decide)⟩⟩
theorem main_1_1 : Claimed_1_1 := comes_1 fun _ _ _ _ _ _ h hF => ⟨h.1, hF⟩
theorem main_1_2 : Claimed_1_2 := comes_1 fun _ _ _ _ _ _ h hF => ⟨h.2.1, hF⟩
end Jvm.Pilot.@@N@@
namespace Jvm.Pilot.@@N@@
open Jvm Jvm.ClassFile Sem Op Lib Jvm.Free Jvm.Stand Jvm.Pilot.@@N@@.Jvm.D
/-! MADE BY PROGRAM (witnessworld.py) out of the Statement's table words and the real class files: 24 classes; the members and pool entries that the words name. The judged class is class 1, her method 1. -/
namespace start1
open Jvm.ClassFile
def u (s : String) : CpInfo := .utf8 (stringToUtf16 s)
/-- a pool by its gaps: so many unusable entries, then the entry; so many at the end -/
def gap : Nat → List CpInfo → List CpInfo
  | 0, r => r
  | n + 1, r => .unusable :: gap n r
def poolList (es : List (Nat × CpInfo)) (last : Nat) : List CpInfo := es.foldr (fun e r => gap e.1 (e.2 :: r)) (gap last [])
def pool (es : List (Nat × CpInfo)) (last : Nat) : Array CpInfo := ⟨poolList es last⟩
def fileOf (pool : Array CpInfo) (this : Nat) (attrs : Array Attribute := #[]) (ms : Array MethodInfo := #[]) (fl : Nat := 33) (sup : Nat := 0) (ifs : Array Nat := #[]) (fds : Array FieldInfo := #[]) : ClassFile where
  minorVersion := 0
  majorVersion := 65
  constantPool := pool
  accessFlags := fl
  thisClass := this
  superClass := sup
  interfaces := ifs
  fields := fds
  methods := ms
  attributes := attrs
def plain (name : String) (sup : Option ClassId) : Class where
  name := name
  kind := .ordinary
  loader := none
  accessFlags := 33
  super := sup
  interfaces := #[]
  cf := none
  fields := #[]
  methods := #[]
  instanceTypes := #[]
  staticTypes := #[]
  resolved := #[]
  callSites := []
  init := .initialized
  statics := none
  mirror := none

def pool0 : Array CpInfo := pool [(5, u "<init>"), (0, u "()V"), (1, .class_ 10), (1, u "java/lang/Object")] 113

def k0c0 : Code := { maxStack := 0, maxLocals := 1, code := object_method_1_code, exceptionTable := #[], attributes := #[] }
def k0m0 : Method := { name := "<init>", desc := "()V", sig := { parameters := [], returnType := none }, accessFlags := 1, code := some k0c0 }
/-- java/lang/Object -/
def k0 : Class := { plain "java/lang/Object" none with
  accessFlags := 33
  interfaces := #[]
  cf := some (fileOf pool0 8 #[] #[{ accessFlags := 1, nameIndex := 5, descriptorIndex := 6, attributes := #[] }] 33 0 #[] #[])
  fields := #[]
  methods := #[k0m0]
  instanceTypes := #[]
  staticTypes := #[]
  resolved := Array.replicate 124 none
  statics := none }

def pool1 : Array CpInfo := pool [(2, .class_ 4), (1, u "java/lang/Object"), (0, u "<init>"), (0, u "()V"), (0, .class_ 8), (0, u "com/example/ajar/ajar/compile/Literal"), (0, .class_ 10), (0, u "java/lang/String"), (0, .methodref 9 12), (0, .nameAndType 5 13), (0, u "([C)V"), (0, .methodref 7 15), (0, .nameAndType 5 16), (0, u "(Ljava/lang/String;Z)V"), (0, .methodref 7 18), (0, .nameAndType 19 20), (0, u "individual"), (0, u "()Ljava/lang/String;"), (0, .methodref 9 22), (0, .nameAndType 23 24), (0, u "length"), (0, u "()I"), (0, .methodref 9 26), (0, .nameAndType 27 28), (0, u "equals"), (0, u "(Ljava/lang/Object;)Z"), (0, .class_ 30), (0, u "com/example/ajar/ajar/compile/LiteralIndividualPinLaw"), (2, u "law"), (0, u "(IIIII)Z")] 5

def k1m0 : Method := { name := "<init>", desc := "()V", sig := { parameters := [], returnType := none }, accessFlags := 1, code := none }
def k1c1 : Code := { maxStack := 5, maxLocals := 13, code := code, exceptionTable := #[], attributes := #[] }
def k1m1 : Method := { name := "law", desc := "(IIIII)Z", sig := { parameters := [.int, .int, .int, .int, .int], returnType := some .boolean }, accessFlags := 9, code := some k1c1 }
/-- com/example/ajar/ajar/compile/LiteralIndividualPinLaw -/
def k1 : Class := { plain "com/example/ajar/ajar/compile/LiteralIndividualPinLaw" (some 0) with
  accessFlags := 49
  interfaces := #[]
  cf := some (fileOf pool1 29 #[] #[{ accessFlags := 1, nameIndex := 5, descriptorIndex := 6, attributes := #[] }, { accessFlags := 9, nameIndex := 33, descriptorIndex := 34, attributes := #[] }] 49 2 #[] #[])
  fields := #[]
  methods := #[k1m0, k1m1]
  instanceTypes := #[]
  staticTypes := #[]
  resolved := Array.replicate 40 none
  statics := none }

def pool2 : Array CpInfo := pool [(1, .methodref 2 3), (0, .class_ 4), (0, .nameAndType 5 6), (0, u "java/lang/Object"), (0, u "<init>"), (0, u "()V"), (0, .class_ 8), (0, u "java/lang/Record")] 13

def k2c0 : Code := { maxStack := 1, maxLocals := 1, code := jdk_30_method_1_code, exceptionTable := #[], attributes := #[] }
def k2m0 : Method := { name := "<init>", desc := "()V", sig := { parameters := [], returnType := none }, accessFlags := 4, code := some k2c0 }
/-- java/lang/Record -/
def k2 : Class := { plain "java/lang/Record" (some 0) with
  accessFlags := 1057
  interfaces := #[]
  cf := some (fileOf pool2 7 #[] #[{ accessFlags := 4, nameIndex := 5, descriptorIndex := 6, attributes := #[] }] 1057 2 #[] #[])
  fields := #[]
  methods := #[k2m0]
  instanceTypes := #[]
  staticTypes := #[]
  resolved := Array.replicate 22 none
  statics := none }

def pool3 : Array CpInfo := pool [(1, .methodref 2 3), (0, .class_ 4), (0, .nameAndType 5 6), (0, u "java/lang/Record"), (0, u "<init>"), (0, u "()V"), (0, .fieldref 8 9), (0, .class_ 10), (0, .nameAndType 11 12), (0, u "com/example/ajar/ajar/compile/Literal"), (0, u "cls"), (0, u "Ljava/lang/String;"), (0, .fieldref 8 14), (0, .nameAndType 15 16), (0, u "positive"), (0, u "Z"), (6, u "(Ljava/lang/String;Z)V"), (11, .class_ 37), (1, u "java/lang/String"), (2, .string 41), (0, u "nom("), (0, .methodref 35 43), (0, .nameAndType 44 45), (0, u "length"), (0, u "()I"), (0, .methodref 35 47), (0, .nameAndType 48 49), (0, u "substring"), (0, u "(II)Ljava/lang/String;"), (15, u "NOMINAL"), (12, u "individual"), (0, u "()Ljava/lang/String;")] 30

def k3c0 : Code := { maxStack := 2, maxLocals := 3, code := prog_5_method_1_code, exceptionTable := #[], attributes := #[] }
def k3m0 : Method := { name := "<init>", desc := "(Ljava/lang/String;Z)V", sig := { parameters := [(.object "java/lang/String"), .boolean], returnType := none }, accessFlags := 0, code := some k3c0 }
def k3c1 : Code := { maxStack := 4, maxLocals := 1, code := prog_5_method_7_code, exceptionTable := #[], attributes := #[] }
def k3m1 : Method := { name := "individual", desc := "()Ljava/lang/String;", sig := { parameters := [], returnType := some (.object "java/lang/String") }, accessFlags := 0, code := some k3c1 }
/-- com/example/ajar/ajar/compile/Literal -/
def k3 : Class := { plain "com/example/ajar/ajar/compile/Literal" (some 2) with
  accessFlags := 48
  interfaces := #[]
  cf := some (fileOf pool3 8 #[] #[{ accessFlags := 0, nameIndex := 5, descriptorIndex := 23, attributes := #[] }, { accessFlags := 0, nameIndex := 78, descriptorIndex := 79, attributes := #[] }] 48 2 #[] #[{ accessFlags := 18, nameIndex := 11, descriptorIndex := 12, attributes := #[] }, { accessFlags := 18, nameIndex := 15, descriptorIndex := 16, attributes := #[] }, { accessFlags := 26, nameIndex := 65, descriptorIndex := 12, attributes := #[] }])
  fields := #[{ name := "cls", type := (.object "java/lang/String"), accessFlags := 18, slot := 0, constantValue := 0 }, { name := "positive", type := .boolean, accessFlags := 18, slot := 1, constantValue := 0 }, { name := "NOMINAL", type := (.object "java/lang/String"), accessFlags := 26, slot := 0, constantValue := 0 }]
  methods := #[k3m0, k3m1]
  instanceTypes := #[(.object "java/lang/String"), .boolean]
  staticTypes := #[(.object "java/lang/String")]
  resolved := Array.replicate 110 none
  statics := none }

def pool4 : Array CpInfo := pool [(1, .class_ 2), (0, u "java/io/Serializable"), (0, .class_ 4), (0, u "java/lang/Object")] 2

/-- java/io/Serializable -/
def k4 : Class := { plain "java/io/Serializable" (some 0) with
  accessFlags := 1537
  interfaces := #[]
  cf := some (fileOf pool4 1 #[] #[] 1537 3 #[] #[])
  fields := #[]
  methods := #[]
  instanceTypes := #[]
  staticTypes := #[]
  resolved := Array.replicate 7 none
  statics := none }

def pool5 : Array CpInfo := pool [(1, .class_ 2), (0, u "java/lang/Comparable"), (0, .class_ 4), (0, u "java/lang/Object")] 7

/-- java/lang/Comparable -/
def k5 : Class := { plain "java/lang/Comparable" (some 0) with
  accessFlags := 1537
  interfaces := #[]
  cf := some (fileOf pool5 1 #[] #[] 1537 3 #[] #[])
  fields := #[]
  methods := #[]
  instanceTypes := #[]
  staticTypes := #[]
  resolved := Array.replicate 12 none
  statics := none }

def pool6 : Array CpInfo := pool [(2, .class_ 4), (1, u "java/lang/CharSequence"), (42, .class_ 48), (0, u "java/lang/CharSequence$1CodePointIterator"), (10, .class_ 60), (0, u "java/lang/CharSequence$1CharIterator"), (5, .class_ 67), (0, u "java/lang/Object")] 63

/-- java/lang/CharSequence -/
def k6 : Class := { plain "java/lang/CharSequence" (some 0) with
  accessFlags := 1537
  interfaces := #[]
  cf := some (fileOf pool6 2 #[.nestMembers #[47, 59]] #[] 1537 66 #[] #[])
  fields := #[]
  methods := #[]
  instanceTypes := #[]
  staticTypes := #[]
  resolved := Array.replicate 131 none
  statics := none }

def pool7 : Array CpInfo := pool [(1, .class_ 2), (0, u "java/lang/constant/Constable"), (0, .class_ 4), (0, u "java/lang/Object")] 6

/-- java/lang/constant/Constable -/
def k7 : Class := { plain "java/lang/constant/Constable" (some 0) with
  accessFlags := 1537
  interfaces := #[]
  cf := some (fileOf pool7 1 #[] #[] 1537 3 #[] #[])
  fields := #[]
  methods := #[]
  instanceTypes := #[]
  staticTypes := #[]
  resolved := Array.replicate 11 none
  statics := none }

def pool8 : Array CpInfo := pool [(1, .class_ 2), (0, u "java/lang/constant/ConstantDesc"), (0, .class_ 4), (0, u "java/lang/Object")] 32

/-- java/lang/constant/ConstantDesc -/
def k8 : Class := { plain "java/lang/constant/ConstantDesc" (some 0) with
  accessFlags := 1537
  interfaces := #[]
  cf := some (fileOf pool8 1 #[] #[] 1537 3 #[] #[])
  fields := #[]
  methods := #[]
  instanceTypes := #[]
  staticTypes := #[]
  resolved := Array.replicate 37 none
  statics := none }

def pool9 : Array CpInfo := pool [(1, .methodref 2 3), (0, .class_ 4), (0, .nameAndType 5 6), (0, u "java/lang/Object"), (0, u "<init>"), (0, u "()V"), (0, .string 8), (0, u ""), (0, .fieldref 10 11), (0, .class_ 12), (0, .nameAndType 13 14), (0, u "java/lang/String"), (0, u "value"), (0, u "[B"), (0, .fieldref 10 16), (0, .nameAndType 17 18), (0, u "coder"), (0, u "B"), (2, u "hash"), (0, u "I"), (2, u "hashIsZero"), (0, u "Z"), (0, .methodref 10 28), (0, .nameAndType 5 29), (0, u "([CIILjava/lang/Void;)V"), (8, .fieldref 10 39), (0, .nameAndType 40 26), (0, u "COMPACT_STRINGS"), (1, .class_ 44), (1, u "java/lang/StringUTF16"), (0, u "compress"), (1, .methodref 42 48), (0, .nameAndType 49 50), (0, u "coderFromArrayLen"), (0, u "([BI)B"), (56, .class_ 109), (1, u "java/lang/StringLatin1"), (32, u "()Z"), (34, .methodref 42 178), (0, .nameAndType 45 179), (0, u "([CII)[B"), (31, u "([BB)V"), (122, u "()I"), (0, .methodref 10 336), (0, .nameAndType 17 337), (0, u "()B"), (154, .methodref 10 493), (0, .nameAndType 494 142), (0, u "isLatin1"), (10, .methodref 10 506), (0, .nameAndType 507 334), (0, u "length"), (5, u "checkFromToIndex"), (7, .methodref 10 522), (0, .nameAndType 523 524), (0, u "checkBoundsBeginEnd"), (0, u "(III)V"), (16, .methodref 107 542), (0, .nameAndType 543 544), (0, u "equals"), (0, u "([B[B)Z"), (28, u "(Ljava/lang/Object;)Z"), (1, .class_ 576), (0, u "java/lang/CharSequence"), (22, u "CASE_INSENSITIVE_ORDER"), (0, u "Ljava/util/Comparator;"), (82, u "substring"), (0, u "(II)Ljava/lang/String;"), (0, .methodref 107 686), (0, .nameAndType 687 688), (0, u "newString"), (0, u "([BII)Ljava/lang/String;"), (321, u "([C)V"), (42, .fieldref 1054 1055), (0, .class_ 1056), (0, .nameAndType 1057 1058), (0, u "jdk/internal/util/Preconditions"), (0, u "SIOOBE_FORMATTER"), (0, u "Ljava/util/function/BiFunction;"), (3, .methodref 1054 1063), (0, .nameAndType 513 1064), (0, u "(IIILjava/util/function/BiFunction;)I"), (36, u "serialPersistentFields"), (0, u "[Ljava/io/ObjectStreamField;"), (0, .class_ 1104), (0, u "java/lang/String$CaseInsensitiveComparator"), (1, .class_ 1107), (0, u "java/io/Serializable"), (0, .class_ 1109), (0, u "java/lang/Comparable"), (0, .class_ 1111), (0, u "java/lang/constant/Constable"), (0, .class_ 1113), (0, u "java/lang/constant/ConstantDesc"), (2, u "serialVersionUID"), (0, u "J"), (3, u "REPL"), (0, u "C"), (2, u "LATIN1"), (1, u "UTF16")] 323

def k9m0 : Method := { name := "<init>", desc := "()V", sig := { parameters := [], returnType := none }, accessFlags := 1, code := none }
def k9c1 : Code := { maxStack := 5, maxLocals := 2, code := jdk_42_method_3_code, exceptionTable := #[], attributes := #[] }
def k9m1 : Method := { name := "<init>", desc := "([C)V", sig := { parameters := [(.array .char)], returnType := none }, accessFlags := 1, code := some k9c1 }
def k9c2 : Code := { maxStack := 2, maxLocals := 1, code := jdk_42_method_54_code, exceptionTable := #[], attributes := #[] }
def k9m2 : Method := { name := "length", desc := "()I", sig := { parameters := [], returnType := some .int }, accessFlags := 1, code := some k9c2 }
def k9c3 : Code := { maxStack := 2, maxLocals := 3, code := jdk_42_method_66_code, exceptionTable := #[], attributes := #[] }
def k9m3 : Method := { name := "equals", desc := "(Ljava/lang/Object;)Z", sig := { parameters := [(.object "java/lang/Object")], returnType := some .boolean }, accessFlags := 1, code := some k9c3 }
def k9c4 : Code := { maxStack := 3, maxLocals := 5, code := jdk_42_method_92_code, exceptionTable := #[], attributes := #[] }
def k9m4 : Method := { name := "substring", desc := "(II)Ljava/lang/String;", sig := { parameters := [.int, .int], returnType := some (.object "java/lang/String") }, accessFlags := 1, code := some k9c4 }
def k9c5 : Code := { maxStack := 4, maxLocals := 6, code := jdk_42_method_149_code, exceptionTable := #[], attributes := #[] }
def k9m5 : Method := { name := "<init>", desc := "([CIILjava/lang/Void;)V", sig := { parameters := [(.array .char), .int, .int, (.object "java/lang/Void")], returnType := none }, accessFlags := 2, code := some k9c5 }
def k9c6 : Code := { maxStack := 2, maxLocals := 3, code := jdk_42_method_151_code, exceptionTable := #[], attributes := #[] }
def k9m6 : Method := { name := "<init>", desc := "([BB)V", sig := { parameters := [(.array .byte), .byte], returnType := none }, accessFlags := 0, code := some k9c6 }
def k9c7 : Code := { maxStack := 1, maxLocals := 1, code := jdk_42_method_152_code, exceptionTable := #[], attributes := #[] }
def k9m7 : Method := { name := "coder", desc := "()B", sig := { parameters := [], returnType := some .byte }, accessFlags := 0, code := some k9c7 }
def k9c8 : Code := { maxStack := 1, maxLocals := 1, code := jdk_42_method_154_code, exceptionTable := #[], attributes := #[] }
def k9m8 : Method := { name := "isLatin1", desc := "()Z", sig := { parameters := [], returnType := some .boolean }, accessFlags := 0, code := some k9c8 }
def k9c9 : Code := { maxStack := 4, maxLocals := 3, code := jdk_42_method_158_code, exceptionTable := #[], attributes := #[] }
def k9m9 : Method := { name := "checkBoundsBeginEnd", desc := "(III)V", sig := { parameters := [.int, .int, .int], returnType := none }, accessFlags := 8, code := some k9c9 }
/-- java/lang/String -/
def k9 : Class := { plain "java/lang/String" (some 0) with
  accessFlags := 49
  interfaces := #[4, 5, 6, 7, 8]
  cf := some (fileOf pool9 10 #[.nestMembers #[1103]] #[{ accessFlags := 1, nameIndex := 5, descriptorIndex := 6, attributes := #[] }, { accessFlags := 1, nameIndex := 5, descriptorIndex := 1010, attributes := #[] }, { accessFlags := 1, nameIndex := 507, descriptorIndex := 334, attributes := #[] }, { accessFlags := 1, nameIndex := 543, descriptorIndex := 573, attributes := #[] }, { accessFlags := 1, nameIndex := 683, descriptorIndex := 684, attributes := #[] }, { accessFlags := 2, nameIndex := 5, descriptorIndex := 29, attributes := #[] }, { accessFlags := 0, nameIndex := 5, descriptorIndex := 211, attributes := #[] }, { accessFlags := 0, nameIndex := 17, descriptorIndex := 337, attributes := #[] }, { accessFlags := 0, nameIndex := 494, descriptorIndex := 142, attributes := #[] }, { accessFlags := 8, nameIndex := 523, descriptorIndex := 524, attributes := #[] }] 49 2 #[1106, 1108, 575, 1110, 1112] #[{ accessFlags := 18, nameIndex := 13, descriptorIndex := 14, attributes := #[] }, { accessFlags := 18, nameIndex := 17, descriptorIndex := 18, attributes := #[] }, { accessFlags := 2, nameIndex := 21, descriptorIndex := 22, attributes := #[] }, { accessFlags := 2, nameIndex := 25, descriptorIndex := 26, attributes := #[] }, { accessFlags := 26, nameIndex := 1116, descriptorIndex := 1117, attributes := #[] }, { accessFlags := 24, nameIndex := 40, descriptorIndex := 26, attributes := #[] }, { accessFlags := 26, nameIndex := 1101, descriptorIndex := 1102, attributes := #[] }, { accessFlags := 26, nameIndex := 1121, descriptorIndex := 1122, attributes := #[] }, { accessFlags := 25, nameIndex := 599, descriptorIndex := 600, attributes := #[] }, { accessFlags := 24, nameIndex := 1125, descriptorIndex := 18, attributes := #[] }, { accessFlags := 24, nameIndex := 1127, descriptorIndex := 18, attributes := #[] }])
  fields := #[{ name := "value", type := (.array .byte), accessFlags := 18, slot := 0, constantValue := 0 }, { name := "coder", type := .byte, accessFlags := 18, slot := 1, constantValue := 0 }, { name := "hash", type := .int, accessFlags := 2, slot := 2, constantValue := 0 }, { name := "hashIsZero", type := .boolean, accessFlags := 2, slot := 3, constantValue := 0 }, { name := "serialVersionUID", type := .long, accessFlags := 26, slot := 0, constantValue := 0 }, { name := "COMPACT_STRINGS", type := .boolean, accessFlags := 24, slot := 1, constantValue := 0 }, { name := "serialPersistentFields", type := (.array (.object "java/io/ObjectStreamField")), accessFlags := 26, slot := 2, constantValue := 0 }, { name := "REPL", type := .char, accessFlags := 26, slot := 3, constantValue := 0 }, { name := "CASE_INSENSITIVE_ORDER", type := (.object "java/util/Comparator"), accessFlags := 25, slot := 4, constantValue := 0 }, { name := "LATIN1", type := .byte, accessFlags := 24, slot := 5, constantValue := 0 }, { name := "UTF16", type := .byte, accessFlags := 24, slot := 6, constantValue := 0 }]
  methods := #[k9m0, k9m1, k9m2, k9m3, k9m4, k9m5, k9m6, k9m7, k9m8, k9m9]
  instanceTypes := #[(.array .byte), .byte, .int, .boolean]
  staticTypes := #[.long, .boolean, (.array (.object "java/io/ObjectStreamField")), .char, (.object "java/util/Comparator"), .byte, .byte]
  resolved := Array.replicate 1451 none
  statics := some 0 }

def pool10 : Array CpInfo := pool [(6, .class_ 8), (1, u "java/lang/Object"), (0, u "<init>"), (0, u "()V"), (1, .class_ 14), (1, u "java/lang/StringUTF16"), (31, u "$assertionsDisabled"), (0, u "Z"), (13, u "HI_BYTE_SHIFT"), (0, u "I"), (2, u "LO_BYTE_SHIFT"), (49, .methodref 12 116), (0, .nameAndType 117 118), (0, u "compress"), (0, u "([CI[BII)I"), (3, u "([CII)[B"), (138, u "coderFromArrayLen"), (0, u "([BI)B"), (106, .class_ 371), (1, u "java/lang/StringUTF16$LinesSpliterator"), (58, u "MAX_LENGTH"), (196, .class_ 628), (0, u "java/lang/StringUTF16$CodePointsSpliterator"), (0, .class_ 630), (0, u "java/lang/StringUTF16$CharsSpliterator")] 4

def k10m0 : Method := { name := "<init>", desc := "()V", sig := { parameters := [], returnType := none }, accessFlags := 0, code := none }
def k10c1 : Code := { maxStack := 2, maxLocals := 2, code := jdk_52_method_15_code, exceptionTable := #[], attributes := #[] }
def k10m1 : Method := { name := "coderFromArrayLen", desc := "([BI)B", sig := { parameters := [(.array .byte), .int], returnType := some .byte }, accessFlags := 8, code := some k10c1 }
def k10c2 : Code := { maxStack := 5, maxLocals := 6, code := jdk_52_method_16_code, exceptionTable := #[], attributes := #[] }
def k10m2 : Method := { name := "compress", desc := "([CII)[B", sig := { parameters := [(.array .char), .int, .int], returnType := some (.array .byte) }, accessFlags := 9, code := some k10c2 }
def k10c3 : Code := { maxStack := 3, maxLocals := 7, code := jdk_52_method_21_code, exceptionTable := #[], attributes := #[] }
def k10m3 : Method := { name := "compress", desc := "([CI[BII)I", sig := { parameters := [(.array .char), .int, (.array .byte), .int, .int], returnType := some .int }, accessFlags := 9, code := some k10c3 }
/-- java/lang/StringUTF16 -/
def k10 : Class := { plain "java/lang/StringUTF16" (some 0) with
  accessFlags := 48
  interfaces := #[]
  cf := some (fileOf pool10 12 #[.nestMembers #[627, 629, 369]] #[{ accessFlags := 0, nameIndex := 9, descriptorIndex := 10, attributes := #[] }, { accessFlags := 8, nameIndex := 261, descriptorIndex := 262, attributes := #[] }, { accessFlags := 9, nameIndex := 117, descriptorIndex := 122, attributes := #[] }, { accessFlags := 9, nameIndex := 117, descriptorIndex := 118, attributes := #[] }] 48 6 #[] #[{ accessFlags := 26, nameIndex := 61, descriptorIndex := 62, attributes := #[] }, { accessFlags := 26, nameIndex := 65, descriptorIndex := 62, attributes := #[] }, { accessFlags := 24, nameIndex := 430, descriptorIndex := 62, attributes := #[] }, { accessFlags := 4120, nameIndex := 46, descriptorIndex := 47, attributes := #[] }])
  fields := #[{ name := "HI_BYTE_SHIFT", type := .int, accessFlags := 26, slot := 0, constantValue := 0 }, { name := "LO_BYTE_SHIFT", type := .int, accessFlags := 26, slot := 1, constantValue := 0 }, { name := "MAX_LENGTH", type := .int, accessFlags := 24, slot := 2, constantValue := 0 }, { name := "$assertionsDisabled", type := .boolean, accessFlags := 4120, slot := 3, constantValue := 0 }]
  methods := #[k10m0, k10m1, k10m2, k10m3]
  instanceTypes := #[]
  staticTypes := #[.int, .int, .int, .boolean]
  resolved := Array.replicate 635 none
  statics := none }

def pool11 : Array CpInfo := pool [(2, .class_ 4), (1, u "java/lang/Object"), (0, u "<init>"), (0, u "()V"), (17, .class_ 26), (1, u "jdk/internal/util/Preconditions"), (20, u "checkFromToIndex"), (7, .class_ 56), (0, u "jdk/internal/util/Preconditions$4"), (57, .class_ 115), (0, u "jdk/internal/util/Preconditions$1"), (7, u "SIOOBE_FORMATTER"), (0, u "Ljava/util/function/BiFunction;"), (0, .class_ 126), (0, u "jdk/internal/util/Preconditions$2"), (3, u "AIOOBE_FORMATTER"), (0, .class_ 132), (0, u "jdk/internal/util/Preconditions$3"), (3, u "IOOBE_FORMATTER"), (46, u "(IIILjava/util/function/BiFunction;)I")] 10

def k11m0 : Method := { name := "<init>", desc := "()V", sig := { parameters := [], returnType := none }, accessFlags := 1, code := none }
def k11c1 : Code := { maxStack := 4, maxLocals := 4, code := jdk_41_method_12_code, exceptionTable := #[], attributes := #[] }
def k11m1 : Method := { name := "checkFromToIndex", desc := "(IIILjava/util/function/BiFunction;)I", sig := { parameters := [.int, .int, .int, (.object "java/util/function/BiFunction")], returnType := some .int }, accessFlags := 9, code := some k11c1 }
/-- jdk/internal/util/Preconditions -/
def k11 : Class := { plain "jdk/internal/util/Preconditions" (some 0) with
  accessFlags := 33
  interfaces := #[]
  cf := some (fileOf pool11 24 #[.nestMembers #[55, 131, 125, 114]] #[{ accessFlags := 1, nameIndex := 5, descriptorIndex := 6, attributes := #[] }, { accessFlags := 9, nameIndex := 47, descriptorIndex := 183, attributes := #[] }] 33 2 #[] #[{ accessFlags := 25, nameIndex := 123, descriptorIndex := 124, attributes := #[] }, { accessFlags := 25, nameIndex := 130, descriptorIndex := 124, attributes := #[] }, { accessFlags := 25, nameIndex := 136, descriptorIndex := 124, attributes := #[] }])
  fields := #[{ name := "SIOOBE_FORMATTER", type := (.object "java/util/function/BiFunction"), accessFlags := 25, slot := 0, constantValue := 0 }, { name := "AIOOBE_FORMATTER", type := (.object "java/util/function/BiFunction"), accessFlags := 25, slot := 1, constantValue := 0 }, { name := "IOOBE_FORMATTER", type := (.object "java/util/function/BiFunction"), accessFlags := 25, slot := 2, constantValue := 0 }]
  methods := #[k11m0, k11m1]
  instanceTypes := #[]
  staticTypes := #[(.object "java/util/function/BiFunction"), (.object "java/util/function/BiFunction"), (.object "java/util/function/BiFunction")]
  resolved := Array.replicate 194 none
  statics := some 1 }

def pool12 : Array CpInfo := pool [(1, .class_ 2), (0, u "java/lang/String"), (1, .class_ 6), (1, u "java/lang/Object"), (0, u "<init>"), (0, u "()V"), (5, .class_ 16), (1, u "java/lang/StringLatin1"), (95, .methodref 1 113), (0, .nameAndType 7 114), (0, u "([BB)V"), (6, u "$assertionsDisabled"), (0, u "Z"), (8, .class_ 133), (1, u "java/util/Arrays"), (17, .string 152), (0, u ""), (43, u "newString"), (0, u "([BII)Ljava/lang/String;"), (23, .class_ 223), (1, u "java/lang/StringLatin1$LinesSpliterator"), (8, .methodref 131 233), (0, .nameAndType 234 235), (0, u "copyOfRange"), (0, u "([BII)[B"), (45, u "equals"), (0, u "([B[B)Z"), (107, .class_ 391), (0, u "java/lang/StringLatin1$CharsSpliterator")] 3

def k12m0 : Method := { name := "<init>", desc := "()V", sig := { parameters := [], returnType := none }, accessFlags := 0, code := none }
def k12c1 : Code := { maxStack := 3, maxLocals := 3, code := jdk_43_method_13_code, exceptionTable := #[], attributes := #[] }
def k12m1 : Method := { name := "equals", desc := "([B[B)Z", sig := { parameters := [(.array .byte), (.array .byte)], returnType := some .boolean }, accessFlags := 9, code := some k12c1 }
def k12c2 : Code := { maxStack := 6, maxLocals := 3, code := jdk_43_method_47_code, exceptionTable := #[], attributes := #[] }
def k12m2 : Method := { name := "newString", desc := "([BII)Ljava/lang/String;", sig := { parameters := [(.array .byte), .int, .int], returnType := some (.object "java/lang/String") }, accessFlags := 9, code := some k12c2 }
/-- java/lang/StringLatin1 -/
def k12 : Class := { plain "java/lang/StringLatin1" (some 0) with
  accessFlags := 48
  interfaces := #[]
  cf := some (fileOf pool12 14 #[.nestMembers #[390, 221]] #[{ accessFlags := 0, nameIndex := 7, descriptorIndex := 8, attributes := #[] }, { accessFlags := 9, nameIndex := 281, descriptorIndex := 282, attributes := #[] }, { accessFlags := 9, nameIndex := 196, descriptorIndex := 197, attributes := #[] }] 48 4 #[] #[{ accessFlags := 4120, nameIndex := 121, descriptorIndex := 122, attributes := #[] }])
  fields := #[{ name := "$assertionsDisabled", type := .boolean, accessFlags := 4120, slot := 0, constantValue := 0 }]
  methods := #[k12m0, k12m1, k12m2]
  instanceTypes := #[]
  staticTypes := #[.boolean]
  resolved := Array.replicate 395 none
  statics := none }

def pool13 : Array CpInfo := pool [(2, .class_ 4), (1, u "java/lang/Object"), (0, u "<init>"), (0, u "()V"), (7, .class_ 16), (1, u "java/util/Arrays"), (57, .class_ 76), (1, u "java/util/Arrays$NaturalOrder"), (36, .class_ 115), (1, u "java/util/Arrays$LegacyMergeSort"), (1, u "Z"), (21, u "copyOfRange"), (10, .methodref 151 152), (0, .class_ 153), (0, .nameAndType 154 155), (0, u "java/lang/System"), (0, u "arraycopy"), (0, u "(Ljava/lang/Object;ILjava/lang/Object;II)V"), (148, .methodref 305 306), (0, .class_ 307), (0, .nameAndType 308 309), (0, u "java/lang/Math"), (0, u "min"), (0, u "(II)I"), (29, .methodref 14 340), (0, .nameAndType 341 342), (0, u "copyOfRangeByte"), (0, u "([BII)[B"), (0, .methodref 14 344), (0, .nameAndType 345 346), (0, u "checkLength"), (0, u "(II)V"), (28, .class_ 376), (0, u "java/util/Arrays$ArrayList"), (68, u "$assertionsDisabled"), (269, u "MIN_ARRAY_SORT_GRAN"), (0, u "I"), (2, u "INSERTIONSORT_THRESHOLD"), (255, .class_ 976), (0, u "java/util/Arrays$ArrayItr")] 52

def k13m0 : Method := { name := "<init>", desc := "()V", sig := { parameters := [], returnType := none }, accessFlags := 2, code := none }
def k13c1 : Code := { maxStack := 4, maxLocals := 2, code := jdk_65_method_131_code, exceptionTable := #[], attributes := #[] }
def k13m1 : Method := { name := "checkLength", desc := "(II)V", sig := { parameters := [.int, .int], returnType := none }, accessFlags := 10, code := some k13c1 }
def k13c2 : Code := { maxStack := 3, maxLocals := 3, code := jdk_65_method_132_code, exceptionTable := #[], attributes := #[] }
def k13m2 : Method := { name := "copyOfRange", desc := "([BII)[B", sig := { parameters := [(.array .byte), .int, .int], returnType := some (.array .byte) }, accessFlags := 9, code := some k13c2 }
def k13c3 : Code := { maxStack := 6, maxLocals := 5, code := jdk_65_method_133_code, exceptionTable := #[], attributes := #[] }
def k13m3 : Method := { name := "copyOfRangeByte", desc := "([BII)[B", sig := { parameters := [(.array .byte), .int, .int], returnType := some (.array .byte) }, accessFlags := 10, code := some k13c3 }
/-- java/util/Arrays -/
def k13 : Class := { plain "java/util/Arrays" (some 0) with
  accessFlags := 49
  interfaces := #[]
  cf := some (fileOf pool13 14 #[.nestMembers #[975, 375, 113, 74]] #[{ accessFlags := 2, nameIndex := 5, descriptorIndex := 6, attributes := #[] }, { accessFlags := 10, nameIndex := 345, descriptorIndex := 346, attributes := #[] }, { accessFlags := 9, nameIndex := 139, descriptorIndex := 342, attributes := #[] }, { accessFlags := 10, nameIndex := 341, descriptorIndex := 342, attributes := #[] }] 49 2 #[] #[{ accessFlags := 26, nameIndex := 715, descriptorIndex := 716, attributes := #[] }, { accessFlags := 26, nameIndex := 719, descriptorIndex := 716, attributes := #[] }, { accessFlags := 4120, nameIndex := 445, descriptorIndex := 117, attributes := #[] }])
  fields := #[{ name := "MIN_ARRAY_SORT_GRAN", type := .int, accessFlags := 26, slot := 0, constantValue := 0 }, { name := "INSERTIONSORT_THRESHOLD", type := .int, accessFlags := 26, slot := 1, constantValue := 0 }, { name := "$assertionsDisabled", type := .boolean, accessFlags := 4120, slot := 2, constantValue := 0 }]
  methods := #[k13m0, k13m1, k13m2, k13m3]
  instanceTypes := #[]
  staticTypes := #[.int, .int, .boolean]
  resolved := Array.replicate 1029 none
  statics := none }

def pool14 : Array CpInfo := pool [(1, .class_ 2), (0, u "java/lang/Math"), (1, .class_ 6), (1, u "java/lang/Object"), (0, u "<init>"), (0, u "()V"), (89, .class_ 100), (1, u "java/lang/Math$RandomNumberGeneratorHolder"), (71, u "negativeZeroFloatBits"), (0, u "J"), (2, u "negativeZeroDoubleBits"), (24, u "min"), (43, u "$assertionsDisabled"), (0, u "Z"), (88, u "(II)I"), (2, u "twoToTheDoubleScaleDown"), (0, u "D"), (4, u "twoToTheDoubleScaleUp"), (9, u "E"), (3, u "PI"), (2, u "TAU"), (2, u "DEGREES_TO_RADIANS"), (0, u "RADIANS_TO_DEGREES")] 94

def k14m0 : Method := { name := "<init>", desc := "()V", sig := { parameters := [], returnType := none }, accessFlags := 2, code := none }
def k14c1 : Code := { maxStack := 2, maxLocals := 2, code := jdk_29_method_69_code, exceptionTable := #[], attributes := #[] }
def k14m1 : Method := { name := "min", desc := "(II)I", sig := { parameters := [.int, .int], returnType := some .int }, accessFlags := 9, code := some k14c1 }
/-- java/lang/Math -/
def k14 : Class := { plain "java/lang/Math" (some 0) with
  accessFlags := 49
  interfaces := #[]
  cf := some (fileOf pool14 1 #[.nestMembers #[98]] #[{ accessFlags := 2, nameIndex := 7, descriptorIndex := 8, attributes := #[] }, { accessFlags := 9, nameIndex := 201, descriptorIndex := 335, attributes := #[] }] 49 4 #[] #[{ accessFlags := 25, nameIndex := 354, descriptorIndex := 339, attributes := #[] }, { accessFlags := 25, nameIndex := 358, descriptorIndex := 339, attributes := #[] }, { accessFlags := 25, nameIndex := 361, descriptorIndex := 339, attributes := #[] }, { accessFlags := 26, nameIndex := 364, descriptorIndex := 339, attributes := #[] }, { accessFlags := 26, nameIndex := 365, descriptorIndex := 339, attributes := #[] }, { accessFlags := 26, nameIndex := 172, descriptorIndex := 173, attributes := #[] }, { accessFlags := 26, nameIndex := 176, descriptorIndex := 173, attributes := #[] }, { accessFlags := 8, nameIndex := 344, descriptorIndex := 339, attributes := #[] }, { accessFlags := 8, nameIndex := 338, descriptorIndex := 339, attributes := #[] }, { accessFlags := 4120, nameIndex := 245, descriptorIndex := 246, attributes := #[] }])
  fields := #[{ name := "E", type := .double, accessFlags := 25, slot := 0, constantValue := 0 }, { name := "PI", type := .double, accessFlags := 25, slot := 1, constantValue := 0 }, { name := "TAU", type := .double, accessFlags := 25, slot := 2, constantValue := 0 }, { name := "DEGREES_TO_RADIANS", type := .double, accessFlags := 26, slot := 3, constantValue := 0 }, { name := "RADIANS_TO_DEGREES", type := .double, accessFlags := 26, slot := 4, constantValue := 0 }, { name := "negativeZeroFloatBits", type := .long, accessFlags := 26, slot := 5, constantValue := 0 }, { name := "negativeZeroDoubleBits", type := .long, accessFlags := 26, slot := 6, constantValue := 0 }, { name := "twoToTheDoubleScaleUp", type := .double, accessFlags := 8, slot := 7, constantValue := 0 }, { name := "twoToTheDoubleScaleDown", type := .double, accessFlags := 8, slot := 8, constantValue := 0 }, { name := "$assertionsDisabled", type := .boolean, accessFlags := 4120, slot := 9, constantValue := 0 }]
  methods := #[k14m0, k14m1]
  instanceTypes := #[]
  staticTypes := #[.double, .double, .double, .double, .double, .long, .long, .double, .double, .boolean]
  resolved := Array.replicate 460 none
  statics := none }

def pool15 : Array CpInfo := pool [(2, .class_ 4), (1, u "java/lang/Object"), (0, u "<init>"), (0, u "()V"), (1, .class_ 10), (1, u "java/lang/System"), (0, u "allowSecurityManager"), (0, u "I"), (16, u "cons"), (0, u "Ljava/io/Console;"), (77, .class_ 110), (1, u "java/lang/System$CallersHolder"), (43, u "initialErrStream"), (0, u "Ljava/io/PrintStream;"), (19, u "security"), (0, u "Ljava/lang/SecurityManager;"), (31, .class_ 209), (0, u "java/lang/System$1"), (7, u "props"), (0, u "Ljava/util/Properties;"), (2, u "lineSeparator"), (0, u "Ljava/lang/String;"), (96, .class_ 321), (1, u "java/lang/System$LoggerFinder"), (5, .class_ 328), (0, u "java/lang/System$Logger"), (67, u "err"), (2, u "out"), (91, u "notSupportedJnuEncoding"), (15, u "in"), (17, u "initialIn"), (0, u "Ljava/io/InputStream;"), (35, u "bootLayer"), (0, u "Ljava/lang/ModuleLayer;"), (99, .class_ 664), (0, u "java/lang/System$2"), (9, u "NEVER"), (2, u "MAYBE"), (49, u "arraycopy"), (0, u "(Ljava/lang/Object;ILjava/lang/Object;II)V"), (72, .class_ 802), (0, u "java/lang/System$Logger$Level")] 31

def k15m0 : Method := { name := "<init>", desc := "()V", sig := { parameters := [], returnType := none }, accessFlags := 2, code := none }
def k15m1 : Method := { name := "arraycopy", desc := "(Ljava/lang/Object;ILjava/lang/Object;II)V", sig := { parameters := [(.object "java/lang/Object"), .int, (.object "java/lang/Object"), .int, .int], returnType := none }, accessFlags := 265, code := none }
/-- java/lang/System -/
def k15 : Class := { plain "java/lang/System" (some 0) with
  accessFlags := 49
  interfaces := #[]
  cf := some (fileOf pool15 8 #[.nestMembers #[319, 327, 801, 108, 663, 208]] #[{ accessFlags := 2, nameIndex := 5, descriptorIndex := 6, attributes := #[] }, { accessFlags := 265, nameIndex := 727, descriptorIndex := 728, attributes := #[] }] 49 2 #[] #[{ accessFlags := 25, nameIndex := 507, descriptorIndex := 526, attributes := #[] }, { accessFlags := 25, nameIndex := 399, descriptorIndex := 155, attributes := #[] }, { accessFlags := 25, nameIndex := 396, descriptorIndex := 155, attributes := #[] }, { accessFlags := 10, nameIndex := 525, descriptorIndex := 526, attributes := #[] }, { accessFlags := 26, nameIndex := 674, descriptorIndex := 12, attributes := #[] }, { accessFlags := 26, nameIndex := 677, descriptorIndex := 12, attributes := #[] }, { accessFlags := 10, nameIndex := 11, descriptorIndex := 12, attributes := #[] }, { accessFlags := 74, nameIndex := 175, descriptorIndex := 176, attributes := #[] }, { accessFlags := 10, nameIndex := 491, descriptorIndex := 222, attributes := #[] }, { accessFlags := 74, nameIndex := 29, descriptorIndex := 30, attributes := #[] }, { accessFlags := 74, nameIndex := 154, descriptorIndex := 155, attributes := #[] }, { accessFlags := 10, nameIndex := 217, descriptorIndex := 218, attributes := #[] }, { accessFlags := 10, nameIndex := 221, descriptorIndex := 222, attributes := #[] }, { accessFlags := 8, nameIndex := 562, descriptorIndex := 563, attributes := #[] }])
  fields := #[{ name := "in", type := (.object "java/io/InputStream"), accessFlags := 25, slot := 0, constantValue := 0 }, { name := "out", type := (.object "java/io/PrintStream"), accessFlags := 25, slot := 1, constantValue := 0 }, { name := "err", type := (.object "java/io/PrintStream"), accessFlags := 25, slot := 2, constantValue := 0 }, { name := "initialIn", type := (.object "java/io/InputStream"), accessFlags := 10, slot := 3, constantValue := 0 }, { name := "NEVER", type := .int, accessFlags := 26, slot := 4, constantValue := 0 }, { name := "MAYBE", type := .int, accessFlags := 26, slot := 5, constantValue := 0 }, { name := "allowSecurityManager", type := .int, accessFlags := 10, slot := 6, constantValue := 0 }, { name := "security", type := (.object "java/lang/SecurityManager"), accessFlags := 74, slot := 7, constantValue := 0 }, { name := "notSupportedJnuEncoding", type := (.object "java/lang/String"), accessFlags := 10, slot := 8, constantValue := 0 }, { name := "cons", type := (.object "java/io/Console"), accessFlags := 74, slot := 9, constantValue := 0 }, { name := "initialErrStream", type := (.object "java/io/PrintStream"), accessFlags := 74, slot := 10, constantValue := 0 }, { name := "props", type := (.object "java/util/Properties"), accessFlags := 10, slot := 11, constantValue := 0 }, { name := "lineSeparator", type := (.object "java/lang/String"), accessFlags := 10, slot := 12, constantValue := 0 }, { name := "bootLayer", type := (.object "java/lang/ModuleLayer"), accessFlags := 8, slot := 13, constantValue := 0 }]
  methods := #[k15m0, k15m1]
  instanceTypes := #[]
  staticTypes := #[(.object "java/io/InputStream"), (.object "java/io/PrintStream"), (.object "java/io/PrintStream"), (.object "java/io/InputStream"), .int, .int, .int, (.object "java/lang/SecurityManager"), (.object "java/lang/String"), (.object "java/io/Console"), (.object "java/io/PrintStream"), (.object "java/util/Properties"), (.object "java/lang/String"), (.object "java/lang/ModuleLayer")]
  resolved := Array.replicate 834 none
  statics := none }

def pool16 : Array CpInfo := pool [(9, u "<init>"), (6, .class_ 18), (1, u "java/lang/Object"), (0, u "()V"), (1, .class_ 23), (1, u "jdk/internal/util/ArraysSupport"), (0, u "LOG2_ARRAY_LONG_INDEX_SCALE"), (0, u "I"), (2, u "U"), (0, u "Ljdk/internal/misc/Unsafe;"), (8, u "BIG_ENDIAN"), (0, u "Z"), (8, u "LOG2_BYTE_BIT_SIZE"), (4, u "LOG2_ARRAY_INT_INDEX_SCALE"), (54, u "JLA"), (0, u "Ljdk/internal/access/JavaLangAccess;"), (11, u "LOG2_ARRAY_BOOLEAN_INDEX_SCALE"), (9, u "LOG2_ARRAY_BYTE_INDEX_SCALE"), (5, u "LOG2_ARRAY_CHAR_INDEX_SCALE"), (5, u "LOG2_ARRAY_SHORT_INDEX_SCALE"), (18, u "LOG2_ARRAY_FLOAT_INDEX_SCALE"), (24, u "LOG2_ARRAY_DOUBLE_INDEX_SCALE"), (89, u "T_BOOLEAN"), (2, u "T_CHAR"), (1, u "T_FLOAT"), (1, u "T_DOUBLE"), (1, u "T_BYTE"), (1, u "T_SHORT"), (1, u "T_INT"), (1, u "T_LONG"), (1, u "SOFT_MAX_ARRAY_LENGTH")] 83

def k16m0 : Method := { name := "<init>", desc := "()V", sig := { parameters := [], returnType := none }, accessFlags := 2, code := none }
/-- jdk/internal/util/ArraysSupport -/
def k16 : Class := { plain "jdk/internal/util/ArraysSupport" (some 0) with
  accessFlags := 33
  interfaces := #[]
  cf := some (fileOf pool16 21 #[] #[{ accessFlags := 2, nameIndex := 9, descriptorIndex := 19, attributes := #[] }] 33 16 #[] #[{ accessFlags := 24, nameIndex := 28, descriptorIndex := 29, attributes := #[] }, { accessFlags := 26, nameIndex := 38, descriptorIndex := 39, attributes := #[] }, { accessFlags := 25, nameIndex := 121, descriptorIndex := 25, attributes := #[] }, { accessFlags := 25, nameIndex := 131, descriptorIndex := 25, attributes := #[] }, { accessFlags := 25, nameIndex := 137, descriptorIndex := 25, attributes := #[] }, { accessFlags := 25, nameIndex := 143, descriptorIndex := 25, attributes := #[] }, { accessFlags := 25, nameIndex := 53, descriptorIndex := 25, attributes := #[] }, { accessFlags := 25, nameIndex := 24, descriptorIndex := 25, attributes := #[] }, { accessFlags := 25, nameIndex := 162, descriptorIndex := 25, attributes := #[] }, { accessFlags := 25, nameIndex := 187, descriptorIndex := 25, attributes := #[] }, { accessFlags := 26, nameIndex := 48, descriptorIndex := 25, attributes := #[] }, { accessFlags := 25, nameIndex := 277, descriptorIndex := 25, attributes := #[] }, { accessFlags := 25, nameIndex := 280, descriptorIndex := 25, attributes := #[] }, { accessFlags := 25, nameIndex := 282, descriptorIndex := 25, attributes := #[] }, { accessFlags := 25, nameIndex := 284, descriptorIndex := 25, attributes := #[] }, { accessFlags := 25, nameIndex := 286, descriptorIndex := 25, attributes := #[] }, { accessFlags := 25, nameIndex := 288, descriptorIndex := 25, attributes := #[] }, { accessFlags := 25, nameIndex := 290, descriptorIndex := 25, attributes := #[] }, { accessFlags := 25, nameIndex := 292, descriptorIndex := 25, attributes := #[] }, { accessFlags := 26, nameIndex := 108, descriptorIndex := 109, attributes := #[] }, { accessFlags := 25, nameIndex := 294, descriptorIndex := 25, attributes := #[] }])
  fields := #[{ name := "U", type := (.object "jdk/internal/misc/Unsafe"), accessFlags := 24, slot := 0, constantValue := 0 }, { name := "BIG_ENDIAN", type := .boolean, accessFlags := 26, slot := 1, constantValue := 0 }, { name := "LOG2_ARRAY_BOOLEAN_INDEX_SCALE", type := .int, accessFlags := 25, slot := 2, constantValue := 0 }, { name := "LOG2_ARRAY_BYTE_INDEX_SCALE", type := .int, accessFlags := 25, slot := 3, constantValue := 0 }, { name := "LOG2_ARRAY_CHAR_INDEX_SCALE", type := .int, accessFlags := 25, slot := 4, constantValue := 0 }, { name := "LOG2_ARRAY_SHORT_INDEX_SCALE", type := .int, accessFlags := 25, slot := 5, constantValue := 0 }, { name := "LOG2_ARRAY_INT_INDEX_SCALE", type := .int, accessFlags := 25, slot := 6, constantValue := 0 }, { name := "LOG2_ARRAY_LONG_INDEX_SCALE", type := .int, accessFlags := 25, slot := 7, constantValue := 0 }, { name := "LOG2_ARRAY_FLOAT_INDEX_SCALE", type := .int, accessFlags := 25, slot := 8, constantValue := 0 }, { name := "LOG2_ARRAY_DOUBLE_INDEX_SCALE", type := .int, accessFlags := 25, slot := 9, constantValue := 0 }, { name := "LOG2_BYTE_BIT_SIZE", type := .int, accessFlags := 26, slot := 10, constantValue := 0 }, { name := "T_BOOLEAN", type := .int, accessFlags := 25, slot := 11, constantValue := 0 }, { name := "T_CHAR", type := .int, accessFlags := 25, slot := 12, constantValue := 0 }, { name := "T_FLOAT", type := .int, accessFlags := 25, slot := 13, constantValue := 0 }, { name := "T_DOUBLE", type := .int, accessFlags := 25, slot := 14, constantValue := 0 }, { name := "T_BYTE", type := .int, accessFlags := 25, slot := 15, constantValue := 0 }, { name := "T_SHORT", type := .int, accessFlags := 25, slot := 16, constantValue := 0 }, { name := "T_INT", type := .int, accessFlags := 25, slot := 17, constantValue := 0 }, { name := "T_LONG", type := .int, accessFlags := 25, slot := 18, constantValue := 0 }, { name := "JLA", type := (.object "jdk/internal/access/JavaLangAccess"), accessFlags := 26, slot := 19, constantValue := 0 }, { name := "SOFT_MAX_ARRAY_LENGTH", type := .int, accessFlags := 25, slot := 20, constantValue := 0 }]
  methods := #[k16m0]
  instanceTypes := #[]
  staticTypes := #[(.object "jdk/internal/misc/Unsafe"), .boolean, .int, .int, .int, .int, .int, .int, .int, .int, .int, .int, .int, .int, .int, .int, .int, .int, .int, (.object "jdk/internal/access/JavaLangAccess"), .int]
  resolved := Array.replicate 378 none
  statics := none }

def pool17 : Array CpInfo := pool [(1, u "java/lang/Cloneable"), (0, .class_ 1), (0, u "java/lang/Object"), (0, .class_ 3)] 3

/-- java/lang/Cloneable -/
def k17 : Class := { plain "java/lang/Cloneable" (some 0) with
  accessFlags := 1537
  interfaces := #[]
  cf := some (fileOf pool17 2 #[] #[] 1537 4 #[] #[])
  fields := #[]
  methods := #[]
  instanceTypes := #[]
  staticTypes := #[]
  resolved := Array.replicate 8 none
  statics := none }

/-- the primitive byte -/
def k18 : Class := { plain "byte" none with kind := .primitive 'B', accessFlags := 0x411 }
/-- [B -/
def k19 : Class := { plain "[B" (some 0) with kind := .array 18 .byte, interfaces := #[17, 4], accessFlags := 1041 }

/-- the primitive char -/
def k20 : Class := { plain "char" none with kind := .primitive 'C', accessFlags := 0x411 }
/-- [C -/
def k21 : Class := { plain "[C" (some 0) with kind := .array 20 .char, interfaces := #[17, 4], accessFlags := 1041 }

/-- the primitive int -/
def k22 : Class := { plain "int" none with kind := .primitive 'I', accessFlags := 0x411 }
/-- [I -/
def k23 : Class := { plain "[I" (some 0) with kind := .array 22 .int, interfaces := #[17, 4], accessFlags := 1041 }

def heap : Heap := #[{ cls := 9, slots := #[.long 0, .int 1, .null, .int 0, .null, .int 0, .int 0], vm := .statics 9 },
  { cls := 11, slots := #[.null, .null, .null], vm := .statics 11 }]
def classes : Array Class := #[k0, k1, k2, k3, k4, k5, k6, k7, k8, k9, k10, k11, k12, k13, k14, k15, k16, k17, k18, k19, k20, k21, k22, k23]
def interned : List (Array UInt16 × Addr) := []
def slotsUsed : Nat := 10
def theMethod : MethodId := ⟨1, 1⟩
def args0 : Array Value := #[.int 0, .int 0, .int 0, .int 0, .int 0]
def aboutOver (below : List Frame) : State where
  vm := { classes := classes, interned := interned.toArray }
  heap := heap
  slotsUsed := slotsUsed
  threads := #[{ frames := .invoking theMethod args0 :: below }]
def below0 : List Frame := [.native { method := ⟨0, 0⟩, args := #[] }]
def about1 : State := aboutOver below0
def p0 : Program := .bare "" "" ""
def e0 : Env := launch0.env 0 0 0
theorem w_frames : about1.frames = Frame.invoking theMethod args0 :: below0 := rfl
set_option maxRecDepth 65536 in
theorem w_args : argsFit about1.vm theMethod args0 = true := by decide +kernel
set_option maxRecDepth 65536 in
theorem w_heap : heapFits about1 = true := by decide +kernel
set_option maxRecDepth 65536 in
theorem w_runnable : about1.curStatus? = some .runnable := by decide +kernel
set_option maxRecDepth 65536 in
theorem w_alone : about1.alone = true := by decide +kernel
set_option maxRecDepth 65536 in
theorem w_named : about1.methodNamed? x = some theMethod := by decide +kernel
set_option maxRecDepth 65536 in
theorem w_hears : about1.hears theMethod below0 = true := by decide +kernel
set_option maxRecDepth 65536 in
theorem w_ripe : about1.ripe theMethod args0 below0 = true := by decide +kernel
theorem w_running : about1.status = .running := rfl
set_option maxRecDepth 65536 in
theorem w_room : about1.hasRoom e0.platform room_1 = true :=
  launch0.hasRoom_least _ room_1 (by decide +kernel) (by decide +kernel) (by decide +kernel) (by decide +kernel) (by decide +kernel) (by decide +kernel)
theorem allAtoms_all (ts : List Jvm.Cond) (a : Array Jvm.Value) (st : Jvm.State) : (allAtoms ts).before a st = ts.all (fun c => c.before a st) := by
  induction ts with
  | nil => rfl
  | cons c t ih =>
    show (Jvm.Cond.and c (allAtoms t)).before a st = _
    rw [Jvm.Cond.before_and, ih, List.all_cons]
def words1 : List Jvm.Cond := Jvm.Cond.code x code maxLocals ret :: tables_1
/-- a 'code' word, met by the world's own term for the bytes: nothing is compared byte by byte -/
theorem code_word {y : MethodName} {bytes : ByteArray} {mx : Nat} {rt : Option FieldType} {a : Array Value} {s : State} {m : MethodId} {meth : Method} {c : Code} (h1 : s.methodNamed? y = some m) (h2 : s.vm.method? m = some meth) (h3 : meth.code = some c) (h4 : c.code = bytes)
    (h5 : (c.maxLocals == mx && c.exceptionTable.isEmpty && decide (c.maxStack ≤ mostOperands) && decide (meth.sig.returnType = rt) && !meth.locks && decide (parseMethodDescriptor y.desc = some meth.sig)) = true) : (Jvm.Cond.code y bytes mx rt).before a s = true := by
  simp only [Bool.and_eq_true, beq_iff_eq, Bool.not_eq_true', decide_eq_true_eq] at h5
  obtain ⟨⟨⟨⟨⟨g1, g2⟩, g3⟩, g4⟩, g5⟩, g6⟩ := h5
  simp [Cond.before, Cond.holds, Cond.value, h1, h2, h3, h4, g1, g2, g3, g4, g5, g6]
def isCode : Jvm.Cond → Bool
  | .code _ _ _ _ => true
  | _ => false
theorem all_split {L : List Jvm.Cond} {P : Jvm.Cond → Bool} (h1 : L.all (fun c => isCode c || P c) = true) (h2 : ∀ c ∈ L.filter isCode, P c = true) : L.all P = true := by
  refine List.all_eq_true.mpr fun c hc => ?_
  have h := List.all_eq_true.mp h1 c hc
  rcases Bool.eq_false_or_eq_true (isCode c) with hi | hi
  · exact h2 c (List.mem_filter.mpr ⟨hc, hi⟩)
  · simpa [hi] using h
set_option maxRecDepth 65536 in
theorem w_c0 : (Jvm.Cond.code x code maxLocals ret).before args0 about1 = true := code_word (m := ⟨1, 1⟩) (meth := k1m1) (c := k1c1) (by decide +kernel) rfl rfl rfl (by decide +kernel)
set_option maxRecDepth 65536 in
theorem w_c1 : (Jvm.Cond.code ({ cls := "java/lang/String", name := "<init>", desc := "([C)V" } : Jvm.MethodName) jdk_42_method_3_code (2 : Nat) (Option.none : Option Jvm.ClassFile.FieldType)).before args0 about1 = true := code_word (m := ⟨9, 1⟩) (meth := k9m1) (c := k9c1) (by decide +kernel) rfl rfl rfl (by decide +kernel)
set_option maxRecDepth 65536 in
theorem w_c2 : (Jvm.Cond.code ({ cls := "java/lang/String", name := "<init>", desc := "([CIILjava/lang/Void;)V" } : Jvm.MethodName) jdk_42_method_149_code (6 : Nat) (Option.none : Option Jvm.ClassFile.FieldType)).before args0 about1 = true := code_word (m := ⟨9, 5⟩) (meth := k9m5) (c := k9c5) (by decide +kernel) rfl rfl rfl (by decide +kernel)
set_option maxRecDepth 65536 in
theorem w_c3 : (Jvm.Cond.code ({ cls := "java/lang/Object", name := "<init>", desc := "()V" } : Jvm.MethodName) object_method_1_code (1 : Nat) (Option.none : Option Jvm.ClassFile.FieldType)).before args0 about1 = true := code_word (m := ⟨0, 0⟩) (meth := k0m0) (c := k0c0) (by decide +kernel) rfl rfl rfl (by decide +kernel)
set_option maxRecDepth 65536 in
theorem w_c4 : (Jvm.Cond.code ({ cls := "java/lang/StringUTF16", name := "compress", desc := "([CII)[B" } : Jvm.MethodName) jdk_52_method_16_code (6 : Nat) (Option.some (Jvm.ClassFile.FieldType.array Jvm.ClassFile.FieldType.byte))).before args0 about1 = true := code_word (m := ⟨10, 2⟩) (meth := k10m2) (c := k10c2) (by decide +kernel) rfl rfl rfl (by decide +kernel)
set_option maxRecDepth 65536 in
theorem w_c5 : (Jvm.Cond.code ({ cls := "java/lang/StringUTF16", name := "compress", desc := "([CI[BII)I" } : Jvm.MethodName) jdk_52_method_21_code (7 : Nat) (Option.some Jvm.ClassFile.FieldType.int)).before args0 about1 = true := code_word (m := ⟨10, 3⟩) (meth := k10m3) (c := k10c3) (by decide +kernel) rfl rfl rfl (by decide +kernel)
set_option maxRecDepth 65536 in
theorem w_c6 : (Jvm.Cond.code ({ cls := "java/lang/StringUTF16", name := "coderFromArrayLen", desc := "([BI)B" } : Jvm.MethodName) jdk_52_method_15_code (2 : Nat) (Option.some Jvm.ClassFile.FieldType.byte)).before args0 about1 = true := code_word (m := ⟨10, 1⟩) (meth := k10m1) (c := k10c1) (by decide +kernel) rfl rfl rfl (by decide +kernel)
set_option maxRecDepth 65536 in
theorem w_c7 : (Jvm.Cond.code ({ cls := "com/example/ajar/ajar/compile/Literal", name := "<init>", desc := "(Ljava/lang/String;Z)V" } : Jvm.MethodName) prog_5_method_1_code (3 : Nat) (Option.none : Option Jvm.ClassFile.FieldType)).before args0 about1 = true := code_word (m := ⟨3, 0⟩) (meth := k3m0) (c := k3c0) (by decide +kernel) rfl rfl rfl (by decide +kernel)
set_option maxRecDepth 65536 in
theorem w_c8 : (Jvm.Cond.code ({ cls := "java/lang/Record", name := "<init>", desc := "()V" } : Jvm.MethodName) jdk_30_method_1_code (1 : Nat) (Option.none : Option Jvm.ClassFile.FieldType)).before args0 about1 = true := code_word (m := ⟨2, 0⟩) (meth := k2m0) (c := k2c0) (by decide +kernel) rfl rfl rfl (by decide +kernel)
set_option maxRecDepth 65536 in
theorem w_c9 : (Jvm.Cond.code ({ cls := "com/example/ajar/ajar/compile/Literal", name := "individual", desc := "()Ljava/lang/String;" } : Jvm.MethodName) prog_5_method_7_code (1 : Nat) (Option.some (Jvm.ClassFile.FieldType.object "java/lang/String"))).before args0 about1 = true := code_word (m := ⟨3, 1⟩) (meth := k3m1) (c := k3c1) (by decide +kernel) rfl rfl rfl (by decide +kernel)
set_option maxRecDepth 65536 in
theorem w_c10 : (Jvm.Cond.code ({ cls := "java/lang/String", name := "length", desc := "()I" } : Jvm.MethodName) jdk_42_method_54_code (1 : Nat) (Option.some Jvm.ClassFile.FieldType.int)).before args0 about1 = true := code_word (m := ⟨9, 2⟩) (meth := k9m2) (c := k9c2) (by decide +kernel) rfl rfl rfl (by decide +kernel)
set_option maxRecDepth 65536 in
theorem w_c11 : (Jvm.Cond.code ({ cls := "java/lang/String", name := "coder", desc := "()B" } : Jvm.MethodName) jdk_42_method_152_code (1 : Nat) (Option.some Jvm.ClassFile.FieldType.byte)).before args0 about1 = true := code_word (m := ⟨9, 7⟩) (meth := k9m7) (c := k9c7) (by decide +kernel) rfl rfl rfl (by decide +kernel)
set_option maxRecDepth 65536 in
theorem w_c12 : (Jvm.Cond.code ({ cls := "java/lang/String", name := "substring", desc := "(II)Ljava/lang/String;" } : Jvm.MethodName) jdk_42_method_92_code (5 : Nat) (Option.some (Jvm.ClassFile.FieldType.object "java/lang/String"))).before args0 about1 = true := code_word (m := ⟨9, 4⟩) (meth := k9m4) (c := k9c4) (by decide +kernel) rfl rfl rfl (by decide +kernel)
set_option maxRecDepth 65536 in
theorem w_c13 : (Jvm.Cond.code ({ cls := "java/lang/String", name := "checkBoundsBeginEnd", desc := "(III)V" } : Jvm.MethodName) jdk_42_method_158_code (3 : Nat) (Option.none : Option Jvm.ClassFile.FieldType)).before args0 about1 = true := code_word (m := ⟨9, 9⟩) (meth := k9m9) (c := k9c9) (by decide +kernel) rfl rfl rfl (by decide +kernel)
set_option maxRecDepth 65536 in
theorem w_c14 : (Jvm.Cond.code ({ cls := "jdk/internal/util/Preconditions", name := "checkFromToIndex", desc := "(IIILjava/util/function/BiFunction;)I" } : Jvm.MethodName) jdk_41_method_12_code (4 : Nat) (Option.some Jvm.ClassFile.FieldType.int)).before args0 about1 = true := code_word (m := ⟨11, 1⟩) (meth := k11m1) (c := k11c1) (by decide +kernel) rfl rfl rfl (by decide +kernel)
set_option maxRecDepth 65536 in
theorem w_c15 : (Jvm.Cond.code ({ cls := "java/lang/String", name := "isLatin1", desc := "()Z" } : Jvm.MethodName) jdk_42_method_154_code (1 : Nat) (Option.some Jvm.ClassFile.FieldType.boolean)).before args0 about1 = true := code_word (m := ⟨9, 8⟩) (meth := k9m8) (c := k9c8) (by decide +kernel) rfl rfl rfl (by decide +kernel)
set_option maxRecDepth 65536 in
theorem w_c16 : (Jvm.Cond.code ({ cls := "java/lang/StringLatin1", name := "newString", desc := "([BII)Ljava/lang/String;" } : Jvm.MethodName) jdk_43_method_47_code (3 : Nat) (Option.some (Jvm.ClassFile.FieldType.object "java/lang/String"))).before args0 about1 = true := code_word (m := ⟨12, 2⟩) (meth := k12m2) (c := k12c2) (by decide +kernel) rfl rfl rfl (by decide +kernel)
set_option maxRecDepth 65536 in
theorem w_c17 : (Jvm.Cond.code ({ cls := "java/lang/String", name := "equals", desc := "(Ljava/lang/Object;)Z" } : Jvm.MethodName) jdk_42_method_66_code (3 : Nat) (Option.some Jvm.ClassFile.FieldType.boolean)).before args0 about1 = true := code_word (m := ⟨9, 3⟩) (meth := k9m3) (c := k9c3) (by decide +kernel) rfl rfl rfl (by decide +kernel)
set_option maxRecDepth 65536 in
theorem w_c18 : (Jvm.Cond.code ({ cls := "java/lang/StringLatin1", name := "equals", desc := "([B[B)Z" } : Jvm.MethodName) jdk_43_method_13_code (3 : Nat) (Option.some Jvm.ClassFile.FieldType.boolean)).before args0 about1 = true := code_word (m := ⟨12, 1⟩) (meth := k12m1) (c := k12c1) (by decide +kernel) rfl rfl rfl (by decide +kernel)
set_option maxRecDepth 65536 in
theorem w_c19 : (Jvm.Cond.code ({ cls := "java/util/Arrays", name := "copyOfRange", desc := "([BII)[B" } : Jvm.MethodName) jdk_65_method_132_code (3 : Nat) (Option.some (Jvm.ClassFile.FieldType.array Jvm.ClassFile.FieldType.byte))).before args0 about1 = true := code_word (m := ⟨13, 2⟩) (meth := k13m2) (c := k13c2) (by decide +kernel) rfl rfl rfl (by decide +kernel)
set_option maxRecDepth 65536 in
theorem w_c20 : (Jvm.Cond.code ({ cls := "java/util/Arrays", name := "copyOfRangeByte", desc := "([BII)[B" } : Jvm.MethodName) jdk_65_method_133_code (5 : Nat) (Option.some (Jvm.ClassFile.FieldType.array Jvm.ClassFile.FieldType.byte))).before args0 about1 = true := code_word (m := ⟨13, 3⟩) (meth := k13m3) (c := k13c3) (by decide +kernel) rfl rfl rfl (by decide +kernel)
set_option maxRecDepth 65536 in
theorem w_c21 : (Jvm.Cond.code ({ cls := "java/util/Arrays", name := "checkLength", desc := "(II)V" } : Jvm.MethodName) jdk_65_method_131_code (2 : Nat) (Option.none : Option Jvm.ClassFile.FieldType)).before args0 about1 = true := code_word (m := ⟨13, 1⟩) (meth := k13m1) (c := k13c1) (by decide +kernel) rfl rfl rfl (by decide +kernel)
set_option maxRecDepth 65536 in
theorem w_c22 : (Jvm.Cond.code ({ cls := "java/lang/Math", name := "min", desc := "(II)I" } : Jvm.MethodName) jdk_29_method_69_code (2 : Nat) (Option.some Jvm.ClassFile.FieldType.int)).before args0 about1 = true := code_word (m := ⟨14, 1⟩) (meth := k14m1) (c := k14c1) (by decide +kernel) rfl rfl rfl (by decide +kernel)
set_option maxRecDepth 65536 in
theorem w_c23 : (Jvm.Cond.code ({ cls := "java/lang/String", name := "<init>", desc := "([BB)V" } : Jvm.MethodName) jdk_42_method_151_code (3 : Nat) (Option.none : Option Jvm.ClassFile.FieldType)).before args0 about1 = true := code_word (m := ⟨9, 6⟩) (meth := k9m6) (c := k9c6) (by decide +kernel) rfl rfl rfl (by decide +kernel)
def codes1 : List Jvm.Cond := [Jvm.Cond.code x code maxLocals ret, Jvm.Cond.code ({ cls := "java/lang/String", name := "<init>", desc := "([C)V" } : Jvm.MethodName) jdk_42_method_3_code (2 : Nat) (Option.none : Option Jvm.ClassFile.FieldType), Jvm.Cond.code ({ cls := "java/lang/String", name := "<init>", desc := "([CIILjava/lang/Void;)V" } : Jvm.MethodName) jdk_42_method_149_code (6 : Nat) (Option.none : Option Jvm.ClassFile.FieldType), Jvm.Cond.code ({ cls := "java/lang/Object", name := "<init>", desc := "()V" } : Jvm.MethodName) object_method_1_code (1 : Nat) (Option.none : Option Jvm.ClassFile.FieldType), Jvm.Cond.code ({ cls := "java/lang/StringUTF16", name := "compress", desc := "([CII)[B" } : Jvm.MethodName) jdk_52_method_16_code (6 : Nat) (Option.some (Jvm.ClassFile.FieldType.array Jvm.ClassFile.FieldType.byte)), Jvm.Cond.code ({ cls := "java/lang/StringUTF16", name := "compress", desc := "([CI[BII)I" } : Jvm.MethodName) jdk_52_method_21_code (7 : Nat) (Option.some Jvm.ClassFile.FieldType.int), Jvm.Cond.code ({ cls := "java/lang/StringUTF16", name := "coderFromArrayLen", desc := "([BI)B" } : Jvm.MethodName) jdk_52_method_15_code (2 : Nat) (Option.some Jvm.ClassFile.FieldType.byte), Jvm.Cond.code ({ cls := "com/example/ajar/ajar/compile/Literal", name := "<init>", desc := "(Ljava/lang/String;Z)V" } : Jvm.MethodName) prog_5_method_1_code (3 : Nat) (Option.none : Option Jvm.ClassFile.FieldType), Jvm.Cond.code ({ cls := "java/lang/Record", name := "<init>", desc := "()V" } : Jvm.MethodName) jdk_30_method_1_code (1 : Nat) (Option.none : Option Jvm.ClassFile.FieldType), Jvm.Cond.code ({ cls := "com/example/ajar/ajar/compile/Literal", name := "individual", desc := "()Ljava/lang/String;" } : Jvm.MethodName) prog_5_method_7_code (1 : Nat) (Option.some (Jvm.ClassFile.FieldType.object "java/lang/String")), Jvm.Cond.code ({ cls := "java/lang/String", name := "length", desc := "()I" } : Jvm.MethodName) jdk_42_method_54_code (1 : Nat) (Option.some Jvm.ClassFile.FieldType.int), Jvm.Cond.code ({ cls := "java/lang/String", name := "coder", desc := "()B" } : Jvm.MethodName) jdk_42_method_152_code (1 : Nat) (Option.some Jvm.ClassFile.FieldType.byte), Jvm.Cond.code ({ cls := "java/lang/String", name := "substring", desc := "(II)Ljava/lang/String;" } : Jvm.MethodName) jdk_42_method_92_code (5 : Nat) (Option.some (Jvm.ClassFile.FieldType.object "java/lang/String")), Jvm.Cond.code ({ cls := "java/lang/String", name := "checkBoundsBeginEnd", desc := "(III)V" } : Jvm.MethodName) jdk_42_method_158_code (3 : Nat) (Option.none : Option Jvm.ClassFile.FieldType), Jvm.Cond.code ({ cls := "jdk/internal/util/Preconditions", name := "checkFromToIndex", desc := "(IIILjava/util/function/BiFunction;)I" } : Jvm.MethodName) jdk_41_method_12_code (4 : Nat) (Option.some Jvm.ClassFile.FieldType.int), Jvm.Cond.code ({ cls := "java/lang/String", name := "isLatin1", desc := "()Z" } : Jvm.MethodName) jdk_42_method_154_code (1 : Nat) (Option.some Jvm.ClassFile.FieldType.boolean), Jvm.Cond.code ({ cls := "java/lang/StringLatin1", name := "newString", desc := "([BII)Ljava/lang/String;" } : Jvm.MethodName) jdk_43_method_47_code (3 : Nat) (Option.some (Jvm.ClassFile.FieldType.object "java/lang/String")), Jvm.Cond.code ({ cls := "java/lang/String", name := "equals", desc := "(Ljava/lang/Object;)Z" } : Jvm.MethodName) jdk_42_method_66_code (3 : Nat) (Option.some Jvm.ClassFile.FieldType.boolean), Jvm.Cond.code ({ cls := "java/lang/StringLatin1", name := "equals", desc := "([B[B)Z" } : Jvm.MethodName) jdk_43_method_13_code (3 : Nat) (Option.some Jvm.ClassFile.FieldType.boolean), Jvm.Cond.code ({ cls := "java/util/Arrays", name := "copyOfRange", desc := "([BII)[B" } : Jvm.MethodName) jdk_65_method_132_code (3 : Nat) (Option.some (Jvm.ClassFile.FieldType.array Jvm.ClassFile.FieldType.byte)), Jvm.Cond.code ({ cls := "java/util/Arrays", name := "copyOfRangeByte", desc := "([BII)[B" } : Jvm.MethodName) jdk_65_method_133_code (5 : Nat) (Option.some (Jvm.ClassFile.FieldType.array Jvm.ClassFile.FieldType.byte)), Jvm.Cond.code ({ cls := "java/util/Arrays", name := "checkLength", desc := "(II)V" } : Jvm.MethodName) jdk_65_method_131_code (2 : Nat) (Option.none : Option Jvm.ClassFile.FieldType), Jvm.Cond.code ({ cls := "java/lang/Math", name := "min", desc := "(II)I" } : Jvm.MethodName) jdk_29_method_69_code (2 : Nat) (Option.some Jvm.ClassFile.FieldType.int), Jvm.Cond.code ({ cls := "java/lang/String", name := "<init>", desc := "([BB)V" } : Jvm.MethodName) jdk_42_method_151_code (3 : Nat) (Option.none : Option Jvm.ClassFile.FieldType)]
set_option maxRecDepth 65536 in
theorem codes_eq : words1.filter isCode = codes1 := rfl
theorem w_codes : ∀ c ∈ words1.filter isCode, c.before args0 about1 = true := by
  rw [codes_eq]
  intro c hc
  simp only [codes1, List.mem_cons, List.not_mem_nil, or_false] at hc
  rcases hc with rfl | rfl | rfl | rfl | rfl | rfl | rfl | rfl | rfl | rfl | rfl | rfl | rfl | rfl | rfl | rfl | rfl | rfl | rfl | rfl | rfl | rfl | rfl | rfl
  · exact w_c0
  · exact w_c1
  · exact w_c2
  · exact w_c3
  · exact w_c4
  · exact w_c5
  · exact w_c6
  · exact w_c7
  · exact w_c8
  · exact w_c9
  · exact w_c10
  · exact w_c11
  · exact w_c12
  · exact w_c13
  · exact w_c14
  · exact w_c15
  · exact w_c16
  · exact w_c17
  · exact w_c18
  · exact w_c19
  · exact w_c20
  · exact w_c21
  · exact w_c22
  · exact w_c23
set_option maxRecDepth 65536 in
theorem w_t1 : (words1.take 24).all (fun c => isCode c || c.before args0 about1) = true := by decide +kernel
set_option maxRecDepth 65536 in
theorem w_t2 : ((words1.drop 24).take 24).all (fun c => isCode c || c.before args0 about1) = true := by decide +kernel
set_option maxRecDepth 65536 in
theorem w_t3 : (((words1.drop 24).drop 24).take 24).all (fun c => isCode c || c.before args0 about1) = true := by decide +kernel
set_option maxRecDepth 65536 in
theorem w_t4 : ((((words1.drop 24).drop 24).drop 24).take 24).all (fun c => isCode c || c.before args0 about1) = true := by decide +kernel
set_option maxRecDepth 65536 in
theorem w_t5 : (((((words1.drop 24).drop 24).drop 24).drop 24).take 24).all (fun c => isCode c || c.before args0 about1) = true := by decide +kernel
set_option maxRecDepth 65536 in
theorem w_t6 : (((((words1.drop 24).drop 24).drop 24).drop 24).drop 24).all (fun c => isCode c || c.before args0 about1) = true := by decide +kernel
theorem w_tables : (allAtoms (Jvm.Cond.code x code maxLocals ret :: tables_1)).before args0 about1 = true := by
  rw [allAtoms_all]
  show words1.all (fun c => c.before args0 about1) = true
  refine all_split ?_ w_codes
  rw [← List.take_append_drop 24 words1, List.all_append, w_t1, ← List.take_append_drop 24 (words1.drop 24), List.all_append, w_t2, ← List.take_append_drop 24 ((words1.drop 24).drop 24), List.all_append, w_t3, ← List.take_append_drop 24 (((words1.drop 24).drop 24).drop 24), List.all_append, w_t4, ← List.take_append_drop 24 ((((words1.drop 24).drop 24).drop 24).drop 24), List.all_append, w_t5, w_t6]
  rfl
set_option maxRecDepth 65536 in
theorem w_rest : rest_1_c.before args0 about1 = true := by decide +kernel
set_option maxRecDepth 65536 in
theorem w_case : (Jvm.Cond.and given_1 narrow_1).before args0 about1 = true := by decide +kernel
set_option maxRecDepth 65536 in
theorem w_consts : constsHeld consts_1 about1 := Jvm.Lit.constsHeldB_iff.mp (by decide +kernel)
theorem w_applies : (headSpec (Jvm.Cond.code x code maxLocals ret :: tables_1) room_1).applies x e0.platform about1 = true :=
  (Spec.applies_iff w_frames).mpr ⟨w_running, w_runnable, w_alone, w_named, w_hears, w_ripe, w_room, w_tables⟩
theorem atStart : AtStart classFile x code maxLocals ret World_1 tables_1 room_1 Calls_1 rest_1 Pre_1 launch0 p0 e0 about1 theMethod args0 below0 :=
  ⟨lists_1, trivial, launch0.admits_env _ _ _, launch0.least_env, fairChoices_fair.cas, fairChoices_fair.clock, w_frames, w_args, w_heap, w_applies, ⟨w_consts, trivial⟩, w_rest, w_case⟩
end start1
theorem witness_1 : WitnessClaimed_1 := ⟨start1.p0, start1.e0, start1.about1, start1.theMethod, start1.args0, start1.below0, start1.atStart⟩
end Jvm.Pilot.@@N@@
