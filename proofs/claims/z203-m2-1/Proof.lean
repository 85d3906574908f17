import JvmDerived
import JvmDerived.Pilot.@@N@@Statement
import JvmDerived.Pilot.@@N@@Code
set_option linter.unusedVariables false
set_option linter.unusedSimpArgs false
namespace Jvm.Pilot.@@N@@
open Jvm Jvm.ClassFile Sem Op Lib Jvm.Free Jvm.Stand Jvm.LawKit Jvm.RoadKit Bundle Jvm.Pilot.@@N@@.Jvm.D
/-! own kit, part 1: the walk by continuations -/
abbrev Cx : Type := Program × Env × State × MethodId × Array Value × List Frame × Method × Code × (Outcome → State → Prop)
abbrev Cx.p (x : Cx) : Program := x.1
abbrev Cx.e (x : Cx) : Env := x.2.1
abbrev Cx.s (x : Cx) : State := x.2.2.1
abbrev Cx.m (x : Cx) : MethodId := x.2.2.2.1
abbrev Cx.args (x : Cx) : Array Value := x.2.2.2.2.1
abbrev Cx.below (x : Cx) : List Frame := x.2.2.2.2.2.1
abbrev Cx.meth (x : Cx) : Method := x.2.2.2.2.2.2.1
abbrev Cx.c (x : Cx) : Code := x.2.2.2.2.2.2.2.1
abbrev Cx.F (x : Cx) : Outcome → State → Prop := x.2.2.2.2.2.2.2.2
abbrev BP : Type := Addr → Prop
abbrev QT : Type := Option Value → Heap → BP → Prop
/-- the end is reached from A -/
def Go (x : Cx) (A : State) : Prop := ∃ s₂ o, Steps x.p.tables x.e x.below A s₂ ∧ s₂.status = .running ∧ Ended s₂ x.below o ∧ x.F o s₂
theorem Go.from {x : Cx} {A A' : State} (G : Go x A') (st : ∀ t, Steps x.p.tables x.e x.below A' t → Steps x.p.tables x.e x.below A t) : Go x A := by
  obtain ⟨t, o, h1, r⟩ := G
  exact ⟨t, o, st _ h1, r⟩
/-- an instruction of the bytes: where it stands, its length, the place behind it -/
def Dc (bytes : ByteArray) (pc : Nat) (i : Instr) (len pc' : Nat) : Prop := decode bytes pc = .ok (i, len) ∧ pc' = pc + len
/-- a branch: where it stands, where it goes -/
def Db (bytes : ByteArray) (pc : Nat) (i : Instr) (o : Int) (pc' pc'' : Nat) : Prop := decode bytes pc = .ok (i, 3) ∧ pc' = pc + 3 ∧ 0 ≤ (pc : Int) + o ∧ ((pc : Int) + o).toNat = pc''
def k_inv (Z : State) (EL : List (String × Nat)) (B : BP) (vm : Vm) (h : Heap) : Prop :=
  CHv Z EL vm h ∧ (∀ y, Bk Z EL vm h y → B y) ∧ (∀ y, B y → y < h.size) ∧ Ext Z.heap h ∧ ∃ a0, EW Z a0 EL
def k_end (nw : Bool) (U : State) (o : Outcome) (U' : State) (L : List Loc) (k n : Nat) : Prop :=
  ReturnedEndW U o U' L k n ∧ (nw = true → U.WarmedH U'.vm)
/-- the booked places: none is lost, and what has come lies at n or above -/
def k_more (B B' : BP) (n : Nat) : Prop := (∀ y, B' y → B y ∨ n ≤ y) ∧ ∀ y, B y → B' y
theorem k_more.refl (B : BP) (n : Nat) : k_more B B n := ⟨fun _ q => Or.inl q, fun _ q => q⟩
theorem k_more.trans {B B' B'' : BP} {n n' : Nat} (a : k_more B B' n) (b : k_more B' B'' n') (q : n ≤ n') : k_more B B'' n := ⟨fun y hy => by
  rcases b.1 y hy with r | r
  · exact a.1 y r
  · exact Or.inr (Nat.le_trans q r), fun y hy => b.2 y (a.2 y hy)⟩
theorem k_more.no {B B' : BP} {n : Nat} (a : k_more B B' n) {y : Addr} (h1 : ¬ B y) (h2 : @LT.lt Nat _ y n) : ¬ B' y := fun q => by
  rcases a.1 y q with r | r
  · exact h1 r
  · exact absurd h2 (Nat.not_lt.mpr r)
/-- what a body promises -/
def ConQ (nw : Bool) (Z : State) (EL : List (String × Nat)) (rm : Room) (h : Heap) (B : BP) (ws : List Addr) (Q : QT) (U : State) (o : Outcome) (U' : State) : Prop :=
  ∃ v L B', o = .returned v ∧ Q v U'.heap B' ∧ Keep h U'.heap ws ∧ k_more B B' h.size ∧ Fr Z.heap.size L ∧ k_inv Z EL B' U'.vm U'.heap ∧ k_end nw U o U' L rm.cells rm.slots
def Con (nw : Bool) (l : Launch) (Z : State) (EL : List (String × Nat)) (y : MethodName) (bytes : ByteArray) (maxL : Nat) (ret : Option FieldType) (wl : List Jvm.Cond) (rm : Room) (as : Array Value) (h : Heap) (B : BP) (ws : List Addr) (Q : QT) : Prop :=
  MetFree l y (head1 (Cond.code y bytes maxL ret :: wl) rm) (fun a U => a = as ∧ Z.Warmed39 U.vm ∧ U.heap = h ∧ k_inv Z EL B U.vm h) (fun _ _ _ _ _ => True) (fun _ U o U' => ConQ nw Z EL rm h B ws Q U o U')
/-- the walk stands at T, heap h -/
def Wk (nw : Bool) (l : Launch) (Z : State) (EL : List (String × Nat)) (own : String) (bytes : ByteArray) (maxL : Nat) (ret : Option FieldType) (mnm : String) (R : Room) (h0 : Heap) (B0 : BP) (ws : List Addr) (Q : QT) (x : Cx) (T : State) (h : Heap) (B : BP) (k n : Nat) : Prop :=
  (x.p.tables.exec = Jvm.exec ∧ x.c.code = bytes ∧ x.c.maxLocals = maxL ∧ x.meth.sig.returnType = ret ∧ x.meth.locks = false ∧ x.meth.name = mnm ∧ x.F = ConQ nw Z EL R h0 B0 ws Q x.s) ∧
  ∃ vm0 k0 locs, Stand x.p l x.e R (x.s.setVm vm0) x.m x.args x.below x.meth x.c T locs k n ∧ T.heap = h ∧ x.s.Since vm0 k0 ∧ k0 ≤ h.size ∧ Z.Warmed39 vm0 ∧ vm0.findClass own = some x.m.cls ∧ k_inv Z EL B vm0 h ∧ Fr Z.heap.size locs ∧ Keep h0 h ws ∧ k_more B0 B h0.size ∧ (nw = true → x.s.WarmedH vm0)
theorem k_neN {x y : Nat} (q : x ≠ y) : x ≠ y := q
theorem k_ltE {Z : State} {h : Heap} {a : Addr} {C : String} (E : Exa Z h a C) : @LT.lt Nat _ a h.size := E.lt
section Inv
variable {Z : State} {EL : List (String × Nat)} {B : BP} {vm vm0 : Vm} {h h' : Heap}
theorem k_inv.lt (I : k_inv Z EL B vm h) : ¬ B h.size := fun q => Nat.lt_irrefl _ (I.2.2.1 _ q)
theorem k_inv.keep (I : k_inv Z EL B vm h) {ws : List Addr} (K : Keep h h' ws) (hw : ∀ x ∈ ws, ¬ B x ∧ Z.heap.size ≤ x) : k_inv Z EL B vm h' := by
  obtain ⟨i1, i2, i3, i4, i5⟩ := I
  have q := CHv.keepStep K (fun x hx b => (hw x hx).1 (i2 _ b)) i1
  refine ⟨q.1, fun y b => i2 y (q.2 y b), fun y b => Nat.lt_of_lt_of_le (i3 y b) K.1, ⟨Nat.le_trans i4.1 K.1, fun a c e => K.2.1 a c (i4.2 a c e) fun z => ?_⟩, i5⟩
  exact absurd (Array.getElem?_eq_some_iff.mp e).1 (Nat.not_lt.mpr (hw a z).2)
theorem k_inv.ext (I : k_inv Z EL B vm h) (E : Ext h h') : k_inv Z EL B vm h' := I.keep ((Keep.refl h []).ext E) (fun _ q => nomatch q)
theorem k_inv.wr (I : k_inv Z EL B vm h) {a : Addr} {sl : Nat} {v : Value} (W : Wr h h' a sl v) (hb : ¬ B a) (hz : Z.heap.size ≤ a) : k_inv Z EL B vm h' :=
  I.keep (Keep.of_wr W) (fun y q => by cases List.mem_singleton.mp q; exact ⟨hb, hz⟩)
theorem k_inv.vmT {p : Program} {l : Launch} {e : Env} {R : Room} {s : State} {m : MethodId} {args : Array Value} {below : List Frame} {meth : Method} {c : Code} {T : State} {locs : List Loc} {cells slots : Nat}
    (I : k_inv Z EL B vm0 h) (X : Stand p l e R (s.setVm vm0) m args below meth c T locs cells slots) (hZ : Z.Warmed39 vm0) : k_inv Z EL B T.vm h := by
  obtain ⟨i1, i2, i3, i4, a0, i5⟩ := I
  have q := CHv.at X hZ i5 i1
  refine ⟨q.1, fun y b => ?_, i3, i4, a0, i5⟩
  rcases q.2.2 y b with r | r
  · exact i2 y r
  · exact absurd (by obtain ⟨cell, hc⟩ := Bk.there b; exact (Array.getElem?_eq_some_iff.mp hc).1) (Nat.not_lt.mpr r)
end Inv
section Kit
variable {nw : Bool} {l : Launch} {Z : State} {EL : List (String × Nat)} {own : String} {bytes : ByteArray} {maxL : Nat} {ret : Option FieldType} {mnm : String} {R : Room} {h0 : Heap} {B0 : BP} {ws : List Addr} {Q : QT} {x : Cx} {T : State} {h : Heap} {B : BP} {k n : Nat} {a0 : Array Value} {pc pc' : Nat} {Ls : Array Slot} {st : List Value}
/-- a body is walked from its entry -/
theorem k_intro {y : MethodName} {wl : List Jvm.Cond} {as : Array Value} (hy : plainFor y = true) (hef' : Jvm.Sym.laidSlots as.toList ++ List.replicate (maxL - (Jvm.Sym.laidSlots as.toList).length) .unset = Ls.toList)
    (body : ∀ (x : Cx) (T : State), Wk nw l Z EL y.cls bytes maxL ret y.name R h0 B0 ws Q x T h0 B0 0 0 → Go x (T.setTop (mkF x.m 0 Ls []))) :
    Con nw l Z EL y bytes maxL ret wl R as h0 B0 ws Q := by
  have hef : ∀ m, entryFrame m as maxL = mkF m 0 Ls [] := fun m => by
    have : argsToLocals as maxL = Ls := Array.toList_inj.mp (by rw [Jvm.Sym.argsToLocals_toList]; exact hef')
    unfold entryFrame
    rw [this]
  refine MetFree.of_bodySF hy hisR ?_
  intro p e s m args below meth c s₁ Bd hml0 hP hK
  obtain ⟨rfl, hZ, hh, hI⟩ := hP
  have hown : s.vm.findClass y.cls = some m.cls := findClass_of_methodNamed Bd.named
  have hnm := (name_of_methodNamed Bd.named Bd.method).1
  have X0 : Stand p l e R s m args below meth c s₁ [] 0 0 := Stand.of_body Bd
  have e0 : s₁.heap = h0 := by rw [← hh, Bd.state]; rfl
  have W : Wk nw l Z EL y.cls bytes maxL ret y.name R h0 B0 ws Q (p, e, s, m, args, below, meth, c, fun o t => ConQ nw Z EL R h0 B0 ws Q s o t) s₁ h0 B0 0 0 :=
    ⟨⟨Bd.exec, Bd.bytes, hml0, Bd.returns, Bd.notSynchronized, hnm, rfl⟩, s.vm, h0.size, [], X0, e0, (State.WarmedH.refl s).since _, Nat.le_refl _, hZ, hown, hI, Fr.nil _, Keep.refl _ _, k_more.refl _ _, fun _ => State.WarmedH.refl s⟩
  obtain ⟨t, o, g1, g2, g3, g4⟩ := body _ _ W
  exact ⟨t, o, castTop (hef m) g1, g2, g3, g4⟩
theorem Wk.at (X : Wk nw l Z EL own bytes maxL ret mnm R h0 B0 ws Q x T h B k n) : At T x.m x.c x.below := by obtain ⟨-, _, _, _, X, -⟩ := X; exact X.here
theorem Wk.ex (X : Wk nw l Z EL own bytes maxL ret mnm R h0 B0 ws Q x T h B k n) : x.p.tables.exec = Jvm.exec := X.1.1
theorem Wk.dec (X : Wk nw l Z EL own bytes maxL ret mnm R h0 B0 ws Q x T h B k n) {r : Except ClassFile.DecodeError (Instr × Nat)} (hd : decode bytes pc = r) : decode x.c.code pc = r := by rw [X.1.2.1]; exact hd
theorem Wk.inv (X : Wk nw l Z EL own bytes maxL ret mnm R h0 B0 ws Q x T h B k n) : ∃ vm, k_inv Z EL B vm h := by obtain ⟨-, vm, _, _, -, -, -, -, -, -, hI, -⟩ := X; exact ⟨vm, hI⟩
theorem Wk.old (X : Wk nw l Z EL own bytes maxL ret mnm R h0 B0 ws Q x T h B k n) : Ext Z.heap h := by obtain ⟨vm, I⟩ := X.inv; exact I.2.2.2.1
theorem Wk.fresh (X : Wk nw l Z EL own bytes maxL ret mnm R h0 B0 ws Q x T h B k n) : ¬ B h.size := by obtain ⟨vm, I⟩ := X.inv; exact I.lt
theorem Wk.free (X : Wk nw l Z EL own bytes maxL ret mnm R h0 B0 ws Q x T h B k n) {y : Addr} (q : h.size ≤ y) : ¬ B y := fun b => by obtain ⟨vm, I⟩ := X.inv; exact absurd (I.2.2.1 y b) (Nat.not_lt.mpr q)
theorem Wk.kept (X : Wk nw l Z EL own bytes maxL ret mnm R h0 B0 ws Q x T h B k n) : Keep h0 h ws := by obtain ⟨-, _, _, _, -, -, -, -, -, -, -, -, K, -⟩ := X; exact K
theorem Wk.more (X : Wk nw l Z EL own bytes maxL ret mnm R h0 B0 ws Q x T h B k n) {k' n' : Nat} (h1 : k ≤ k') (h2 : n ≤ n') : Wk nw l Z EL own bytes maxL ret mnm R h0 B0 ws Q x T h B k' n' := by
  obtain ⟨a, vm0, k0, locs, X, r⟩ := X
  exact ⟨a, vm0, k0, locs, X.more h1 h2, r⟩
theorem Wk.sz (X : Wk nw l Z EL own bytes maxL ret mnm R h0 B0 ws Q x T h B k n) : h0.size ≤ h.size := X.kept.1
theorem Wk.szZ (X : Wk nw l Z EL own bytes maxL ret mnm R h0 B0 ws Q x T h B k n) : Z.heap.size ≤ h.size := X.old.1
/-! the ends -/
theorem k_leave (X : Wk nw l Z EL own bytes maxL ret mnm R h0 B0 ws Q x T h B k n) (hk : k ≤ R.cells) (hn : n ≤ R.slots) {v : Option Value} (hv : ret = none → v = none) (hQ : Q v h B)
    {A : State} (st : ∀ fs, (∀ (f : JFrame) (acts : List Action), f.method = x.m → f.locked = none → f.entered = [] → (doReturn x.e (T.setTop f) acts v).1 = T.setFrames fs) → Steps x.p.tables x.e x.below A (T.setFrames fs)) : Go x A := by
  obtain ⟨⟨-, -, -, hr, hlk, -, hF⟩, vm0, k0, locs, X, rfl, hS, hk0, hZ, hown, hI, hFr, hK, hM, hN⟩ := X
  obtain ⟨fs, g1, g2, g3, g4⟩ := X.leaveW hS hk0 (v := v) (fun q => hv (hr ▸ q)) hlk
  refine ⟨T.setFrames fs, .returned v, st fs g1, g2, g3, ?_⟩
  rw [hF]
  refine ⟨v, locs, B, rfl, hQ, hK, hM, hFr, (have q := hI.vmT X hZ; q), ⟨?_, fun q => State.WarmedH.trans (hN q) X.warmed⟩⟩
  obtain ⟨q1, q2, q3, q4⟩ := g4
  exact ⟨q1, q2, q3, q4.mono hk hn⟩
theorem g_return (X : Wk nw l Z EL own bytes maxL none mnm R h0 B0 ws Q x T h B k n) (hd : Dc bytes pc .return_ 1 pc') (hk : k ≤ R.cells) (hn : n ≤ R.slots) (hQ : Q none h B) : Go x (T.setTop (mkF x.m pc Ls [])) := by
  refine k_leave X hk hn (fun _ => rfl) hQ fun fs hl => ?_
  obtain ⟨⟨hx, hb, -, hr, -, -, -⟩, vm0, k0, locs, X, -⟩ := X
  exact X.returnOut hx hr (hb ▸ hd.1) hl
theorem g_areturn {t : FieldType} {w : Value} (X : Wk nw l Z EL own bytes maxL (some t) mnm R h0 B0 ws Q x T h B k n) (hd : Dc bytes pc .areturn 1 pc') (ht : t.isReference = true) (hnw : narrow t w = w) (hw : w.isRef = true) (hk : k ≤ R.cells) (hn : n ≤ R.slots) (hQ : Q (some w) h B) : Go x (T.setTop (mkF x.m pc Ls (w :: st))) := by
  refine k_leave X hk hn (fun q => by cases q) hQ fun fs hl => ?_
  obtain ⟨⟨hx, hb, -, hr, -, -, -⟩, vm0, k0, locs, X, -⟩ := X
  exact retOut X hx hr hnw (Or.inr (Or.inr (Or.inr (Or.inr ⟨rfl, ht, hw⟩)))) (hb ▸ hd.1) hl
theorem g_ireturn {t : FieldType} {w w' : Int32} (X : Wk nw l Z EL own bytes maxL (some t) mnm R h0 B0 ws Q x T h B k n) (hd : Dc bytes pc .ireturn 1 pc') (ht : t = .boolean ∨ t = .byte ∨ t = .char ∨ t = .short) (hw : RoadKit.nar t w = w') (hk : k ≤ R.cells) (hn : n ≤ R.slots) (hQ : Q (some (.int w')) h B) : Go x (T.setTop (mkF x.m pc Ls (.int w :: st))) := by
  subst hw
  refine k_leave X hk hn (fun q => by cases q) hQ fun fs hl => ?_
  obtain ⟨⟨hx, hb, -, hr, -, -, -⟩, vm0, k0, locs, X, -⟩ := X
  exact retN X hx hr ht (hb ▸ hd.1) hl
theorem g_ireturnI {w : Int32} (X : Wk nw l Z EL own bytes maxL (some .int) mnm R h0 B0 ws Q x T h B k n) (hd : Dc bytes pc .ireturn 1 pc') (hk : k ≤ R.cells) (hn : n ≤ R.slots) (hQ : Q (some (.int w)) h B) : Go x (T.setTop (mkF x.m pc Ls (.int w :: st))) := by
  refine k_leave X hk hn (fun q => by cases q) hQ fun fs hl => ?_
  obtain ⟨⟨hx, hb, -, hr, -, -, -⟩, vm0, k0, locs, X, -⟩ := X
  exact retOut X hx hr rfl (Or.inl ⟨rfl, Or.inl rfl, _, rfl⟩) (hb ▸ hd.1) hl
theorem g_lreturn {w : Int64} (X : Wk nw l Z EL own bytes maxL (some .long) mnm R h0 B0 ws Q x T h B k n) (hd : Dc bytes pc .lreturn 1 pc') (hk : k ≤ R.cells) (hn : n ≤ R.slots) (hQ : Q (some (.long w)) h B) : Go x (T.setTop (mkF x.m pc Ls (.long w :: st))) := by
  refine k_leave X hk hn (fun q => by cases q) hQ fun fs hl => ?_
  obtain ⟨⟨hx, hb, -, hr, -, -, -⟩, vm0, k0, locs, X, -⟩ := X
  exact retOut X hx hr rfl (Or.inr (Or.inl ⟨rfl, rfl, _, rfl⟩)) (hb ▸ hd.1) hl
theorem g_iloadN (X : Wk nw l Z EL own bytes maxL ret mnm R h0 B0 ws Q x T h B k n) {j : Fin 4} {v : Int32} (hd : Dc bytes pc (.iload_n j) 1 pc') (hl : Ls[j.val]? = some (.val (.int v))) (G : Go x (T.setTop (mkF x.m pc' Ls (.int v :: st)))) : Go x (T.setTop (mkF x.m pc Ls st)) := by
  obtain ⟨hd, rfl⟩ := hd
  exact G.from fun t q => XS.iloadN X.at X.ex rfl (X.dec hd) hl q
theorem g_iload (X : Wk nw l Z EL own bytes maxL ret mnm R h0 B0 ws Q x T h B k n) {j : Nat} {v : Int32} (hd : Dc bytes pc (.iload j) 2 pc') (hl : Ls[j]? = some (.val (.int v))) (G : Go x (T.setTop (mkF x.m pc' Ls (.int v :: st)))) : Go x (T.setTop (mkF x.m pc Ls st)) := by
  obtain ⟨hd, rfl⟩ := hd
  exact G.from fun t q => XS.iload X.at X.ex rfl (X.dec hd) hl q
theorem g_lloadN (X : Wk nw l Z EL own bytes maxL ret mnm R h0 B0 ws Q x T h B k n) {j : Fin 4} {v : Int64} (hd : Dc bytes pc (.lload_n j) 1 pc') (hl : Ls[j.val]? = some (.val (.long v))) (G : Go x (T.setTop (mkF x.m pc' Ls (.long v :: st)))) : Go x (T.setTop (mkF x.m pc Ls st)) := by
  obtain ⟨hd, rfl⟩ := hd
  exact G.from fun t q => XT.lloadN X.at X.ex rfl (X.dec hd) hl q
theorem g_lload (X : Wk nw l Z EL own bytes maxL ret mnm R h0 B0 ws Q x T h B k n) {j : Nat} {v : Int64} (hd : Dc bytes pc (.lload j) 2 pc') (hl : Ls[j]? = some (.val (.long v))) (G : Go x (T.setTop (mkF x.m pc' Ls (.long v :: st)))) : Go x (T.setTop (mkF x.m pc Ls st)) := by
  obtain ⟨hd, rfl⟩ := hd
  exact G.from fun t q => XT.lload X.at X.ex rfl (X.dec hd) hl q
theorem g_aloadN (X : Wk nw l Z EL own bytes maxL ret mnm R h0 B0 ws Q x T h B k n) {j : Fin 4} {v : Value} (hd : Dc bytes pc (.aload_n j) 1 pc') (hl : Ls[j.val]? = some (.val v)) (hv : v.isRef = true) (G : Go x (T.setTop (mkF x.m pc' Ls (v :: st)))) : Go x (T.setTop (mkF x.m pc Ls st)) := by
  obtain ⟨hd, rfl⟩ := hd
  exact G.from fun t q => XS.aloadN X.at X.ex rfl (X.dec hd) hl hv q
theorem g_aload (X : Wk nw l Z EL own bytes maxL ret mnm R h0 B0 ws Q x T h B k n) {j : Nat} {v : Value} (hd : Dc bytes pc (.aload j) 2 pc') (hl : Ls[j]? = some (.val v)) (hv : v.isRef = true) (G : Go x (T.setTop (mkF x.m pc' Ls (v :: st)))) : Go x (T.setTop (mkF x.m pc Ls st)) := by
  obtain ⟨hd, rfl⟩ := hd
  exact G.from fun t q => XS.aload X.at X.ex rfl (X.dec hd) hl hv q
theorem g_istoreN (X : Wk nw l Z EL own bytes maxL ret mnm R h0 B0 ws Q x T h B k n) {j : Fin 4} {v : Int32} (Ls' : Array Slot) (hd : Dc bytes pc (.istore_n j) 1 pc') (hl : storeLocals Ls j.val (.int v) = some Ls') (G : Go x (T.setTop (mkF x.m pc' Ls' st))) : Go x (T.setTop (mkF x.m pc Ls (.int v :: st))) := by
  obtain ⟨hd, rfl⟩ := hd
  exact G.from fun t q => XS.istoreN X.at X.ex rfl (X.dec hd) rfl hl q
theorem g_istore (X : Wk nw l Z EL own bytes maxL ret mnm R h0 B0 ws Q x T h B k n) {j : Nat} {v : Int32} (Ls' : Array Slot) (hd : Dc bytes pc (.istore j) 2 pc') (hl : storeLocals Ls j (.int v) = some Ls') (G : Go x (T.setTop (mkF x.m pc' Ls' st))) : Go x (T.setTop (mkF x.m pc Ls (.int v :: st))) := by
  obtain ⟨hd, rfl⟩ := hd
  exact G.from fun t q => XS.istore X.at X.ex rfl (X.dec hd) rfl hl q
theorem g_lstoreN (X : Wk nw l Z EL own bytes maxL ret mnm R h0 B0 ws Q x T h B k n) {j : Fin 4} {v : Int64} (Ls' : Array Slot) (hd : Dc bytes pc (.lstore_n j) 1 pc') (hl : storeLocals Ls j.val (.long v) = some Ls') (G : Go x (T.setTop (mkF x.m pc' Ls' st))) : Go x (T.setTop (mkF x.m pc Ls (.long v :: st))) := by
  obtain ⟨hd, rfl⟩ := hd
  exact G.from fun t q => XT.lstoreN X.at X.ex rfl (X.dec hd) rfl hl q
theorem g_lstore (X : Wk nw l Z EL own bytes maxL ret mnm R h0 B0 ws Q x T h B k n) {j : Nat} {v : Int64} (Ls' : Array Slot) (hd : Dc bytes pc (.lstore j) 2 pc') (hl : storeLocals Ls j (.long v) = some Ls') (G : Go x (T.setTop (mkF x.m pc' Ls' st))) : Go x (T.setTop (mkF x.m pc Ls (.long v :: st))) := by
  obtain ⟨hd, rfl⟩ := hd
  exact G.from fun t q => XT.lstore X.at X.ex rfl (X.dec hd) rfl hl q
theorem g_astoreN (X : Wk nw l Z EL own bytes maxL ret mnm R h0 B0 ws Q x T h B k n) {j : Fin 4} {v : Value} (Ls' : Array Slot) (hd : Dc bytes pc (.astore_n j) 1 pc') (hv : v.isRef = true) (hl : storeLocals Ls j.val v = some Ls') (G : Go x (T.setTop (mkF x.m pc' Ls' st))) : Go x (T.setTop (mkF x.m pc Ls (v :: st))) := by
  obtain ⟨hd, rfl⟩ := hd
  exact G.from fun t q => XS.astoreN X.at X.ex rfl (X.dec hd) rfl hv hl q
theorem g_astore (X : Wk nw l Z EL own bytes maxL ret mnm R h0 B0 ws Q x T h B k n) {j : Nat} {v : Value} (Ls' : Array Slot) (hd : Dc bytes pc (.astore j) 2 pc') (hv : v.isRef = true) (hl : storeLocals Ls j v = some Ls') (G : Go x (T.setTop (mkF x.m pc' Ls' st))) : Go x (T.setTop (mkF x.m pc Ls (v :: st))) := by
  obtain ⟨hd, rfl⟩ := hd
  exact G.from fun t q => XS.astore X.at X.ex rfl (X.dec hd) rfl hv hl q
theorem g_iconst (X : Wk nw l Z EL own bytes maxL ret mnm R h0 B0 ws Q x T h B k n) {i : Int} (v : Int32) (hd : Dc bytes pc (.iconst i) 1 pc') (hv : Int32.ofInt i = v) (G : Go x (T.setTop (mkF x.m pc' Ls (.int v :: st)))) : Go x (T.setTop (mkF x.m pc Ls st)) := by
  obtain ⟨hd, rfl⟩ := hd
  exact G.from fun t q => XT.iconstV X.at X.ex rfl v (X.dec hd) hv q
theorem g_bipush (X : Wk nw l Z EL own bytes maxL ret mnm R h0 B0 ws Q x T h B k n) {i : Int} (v : Int32) (hd : Dc bytes pc (.bipush i) 2 pc') (hv : (Int8.ofInt i).toInt32 = v) (G : Go x (T.setTop (mkF x.m pc' Ls (.int v :: st)))) : Go x (T.setTop (mkF x.m pc Ls st)) := by
  obtain ⟨hd, rfl⟩ := hd
  exact G.from fun t q => XT.bipushV X.at X.ex rfl v (X.dec hd) hv q
theorem g_sipush (X : Wk nw l Z EL own bytes maxL ret mnm R h0 B0 ws Q x T h B k n) {i : Int} (v : Int32) (hd : Dc bytes pc (.sipush i) 3 pc') (hv : (Int16.ofInt i).toInt32 = v) (G : Go x (T.setTop (mkF x.m pc' Ls (.int v :: st)))) : Go x (T.setTop (mkF x.m pc Ls st)) := by
  obtain ⟨hd, rfl⟩ := hd
  exact G.from fun t q => XT.sipushV X.at X.ex rfl v (X.dec hd) hv q
theorem g_lconst (X : Wk nw l Z EL own bytes maxL ret mnm R h0 B0 ws Q x T h B k n) {i : Fin 2} (v : Int64) (hd : Dc bytes pc (.lconst i) 1 pc') (hv : Int64.ofNat i = v) (G : Go x (T.setTop (mkF x.m pc' Ls (.long v :: st)))) : Go x (T.setTop (mkF x.m pc Ls st)) := by
  obtain ⟨hd, rfl⟩ := hd
  exact G.from fun t q => XT.lconstV X.at X.ex rfl v (X.dec hd) hv q
theorem g_aconst_null (X : Wk nw l Z EL own bytes maxL ret mnm R h0 B0 ws Q x T h B k n)  (hd : Dc bytes pc (.aconst_null) 1 pc')  (G : Go x (T.setTop (mkF x.m pc' Ls (.null :: st)))) : Go x (T.setTop (mkF x.m pc Ls st)) := by
  obtain ⟨hd, rfl⟩ := hd
  exact G.from fun t q => XS.aconstNull X.at X.ex rfl (X.dec hd) q
theorem g_iinc (X : Wk nw l Z EL own bytes maxL ret mnm R h0 B0 ws Q x T h B k n) {j : Nat} {cst : Int} {v r : Int32} (Ls' : Array Slot) (hd : Dc bytes pc (.iinc j cst) 3 pc') (hl : Ls[j]? = some (.val (.int v))) (hr : v + Int32.ofInt cst = r) (hl' : storeLocals Ls j (.int r) = some Ls') (G : Go x (T.setTop (mkF x.m pc' Ls' st))) : Go x (T.setTop (mkF x.m pc Ls st)) := by
  obtain ⟨hd, rfl⟩ := hd
  exact G.from fun t q => XS.iinc X.at X.ex rfl (X.dec hd) hl (hr ▸ hl') q
theorem g_iadd (X : Wk nw l Z EL own bytes maxL ret mnm R h0 B0 ws Q x T h B k n) {u v : Int32} (r : Int32) (hd : Dc bytes pc (.iadd) 1 pc') (hr : u + v = r) (G : Go x (T.setTop (mkF x.m pc' Ls (.int r :: st)))) : Go x (T.setTop (mkF x.m pc Ls (.int v :: .int u :: st))) := by
  obtain ⟨hd, rfl⟩ := hd
  exact G.from fun t q => XS.iadd X.at X.ex rfl (X.dec hd) rfl (hr ▸ q)
theorem g_isub (X : Wk nw l Z EL own bytes maxL ret mnm R h0 B0 ws Q x T h B k n) {u v : Int32} (r : Int32) (hd : Dc bytes pc (.isub) 1 pc') (hr : u - v = r) (G : Go x (T.setTop (mkF x.m pc' Ls (.int r :: st)))) : Go x (T.setTop (mkF x.m pc Ls (.int v :: .int u :: st))) := by
  obtain ⟨hd, rfl⟩ := hd
  exact G.from fun t q => XS.isub X.at X.ex rfl (X.dec hd) rfl (hr ▸ q)
theorem g_imul (X : Wk nw l Z EL own bytes maxL ret mnm R h0 B0 ws Q x T h B k n) {u v : Int32} (r : Int32) (hd : Dc bytes pc (.imul) 1 pc') (hr : u * v = r) (G : Go x (T.setTop (mkF x.m pc' Ls (.int r :: st)))) : Go x (T.setTop (mkF x.m pc Ls (.int v :: .int u :: st))) := by
  obtain ⟨hd, rfl⟩ := hd
  exact G.from fun t q => XS.imul X.at X.ex rfl (X.dec hd) rfl (hr ▸ q)
theorem g_iand (X : Wk nw l Z EL own bytes maxL ret mnm R h0 B0 ws Q x T h B k n) {u v : Int32} (r : Int32) (hd : Dc bytes pc (.iand) 1 pc') (hr : u &&& v = r) (G : Go x (T.setTop (mkF x.m pc' Ls (.int r :: st)))) : Go x (T.setTop (mkF x.m pc Ls (.int v :: .int u :: st))) := by
  obtain ⟨hd, rfl⟩ := hd
  exact G.from fun t q => XS.iand X.at X.ex rfl (X.dec hd) rfl (hr ▸ q)
theorem g_ior (X : Wk nw l Z EL own bytes maxL ret mnm R h0 B0 ws Q x T h B k n) {u v : Int32} (r : Int32) (hd : Dc bytes pc (.ior) 1 pc') (hr : u ||| v = r) (G : Go x (T.setTop (mkF x.m pc' Ls (.int r :: st)))) : Go x (T.setTop (mkF x.m pc Ls (.int v :: .int u :: st))) := by
  obtain ⟨hd, rfl⟩ := hd
  exact G.from fun t q => XT.ior X.at X.ex rfl (X.dec hd) rfl (hr ▸ q)
theorem g_ixor (X : Wk nw l Z EL own bytes maxL ret mnm R h0 B0 ws Q x T h B k n) {u v : Int32} (r : Int32) (hd : Dc bytes pc (.ixor) 1 pc') (hr : u ^^^ v = r) (G : Go x (T.setTop (mkF x.m pc' Ls (.int r :: st)))) : Go x (T.setTop (mkF x.m pc Ls (.int v :: .int u :: st))) := by
  obtain ⟨hd, rfl⟩ := hd
  exact G.from fun t q => XT.ixor X.at X.ex rfl (X.dec hd) rfl (hr ▸ q)
theorem g_ishl (X : Wk nw l Z EL own bytes maxL ret mnm R h0 B0 ws Q x T h B k n) {u v : Int32} (r : Int32) (hd : Dc bytes pc (.ishl) 1 pc') (hr : u <<< (v &&& 31) = r) (G : Go x (T.setTop (mkF x.m pc' Ls (.int r :: st)))) : Go x (T.setTop (mkF x.m pc Ls (.int v :: .int u :: st))) := by
  obtain ⟨hd, rfl⟩ := hd
  exact G.from fun t q => XT.ishl X.at X.ex rfl (X.dec hd) rfl (hr ▸ q)
theorem g_ishr (X : Wk nw l Z EL own bytes maxL ret mnm R h0 B0 ws Q x T h B k n) {u v : Int32} (r : Int32) (hd : Dc bytes pc (.ishr) 1 pc') (hr : u >>> (v &&& 31) = r) (G : Go x (T.setTop (mkF x.m pc' Ls (.int r :: st)))) : Go x (T.setTop (mkF x.m pc Ls (.int v :: .int u :: st))) := by
  obtain ⟨hd, rfl⟩ := hd
  exact G.from fun t q => XT.ishr X.at X.ex rfl (X.dec hd) rfl (hr ▸ q)
theorem g_iushr (X : Wk nw l Z EL own bytes maxL ret mnm R h0 B0 ws Q x T h B k n) {u v : Int32} (r : Int32) (hd : Dc bytes pc (.iushr) 1 pc') (hr : XT.ushr u v = r) (G : Go x (T.setTop (mkF x.m pc' Ls (.int r :: st)))) : Go x (T.setTop (mkF x.m pc Ls (.int v :: .int u :: st))) := by
  obtain ⟨hd, rfl⟩ := hd
  exact G.from fun t q => XT.iushr X.at X.ex rfl (X.dec hd) rfl (hr ▸ q)
theorem g_idiv (X : Wk nw l Z EL own bytes maxL ret mnm R h0 B0 ws Q x T h B k n) {u v : Int32} (r : Int32) (hd : Dc bytes pc (.idiv) 1 pc') (h0 : v ≠ 0) (hr : u / v = r) (G : Go x (T.setTop (mkF x.m pc' Ls (.int r :: st)))) : Go x (T.setTop (mkF x.m pc Ls (.int v :: .int u :: st))) := by
  obtain ⟨hd, rfl⟩ := hd
  exact G.from fun t q => XS.idiv X.at X.ex rfl (X.dec hd) rfl h0 (hr ▸ q)
theorem g_irem (X : Wk nw l Z EL own bytes maxL ret mnm R h0 B0 ws Q x T h B k n) {u v : Int32} (r : Int32) (hd : Dc bytes pc (.irem) 1 pc') (h0 : v ≠ 0) (hr : u % v = r) (G : Go x (T.setTop (mkF x.m pc' Ls (.int r :: st)))) : Go x (T.setTop (mkF x.m pc Ls (.int v :: .int u :: st))) := by
  obtain ⟨hd, rfl⟩ := hd
  exact G.from fun t q => XS.irem X.at X.ex rfl (X.dec hd) rfl h0 (by rw [irem_eq_mod u v, hr]; exact q)
theorem g_ladd (X : Wk nw l Z EL own bytes maxL ret mnm R h0 B0 ws Q x T h B k n) {u v : Int64} (r : Int64) (hd : Dc bytes pc (.ladd) 1 pc') (hr : u + v = r) (G : Go x (T.setTop (mkF x.m pc' Ls (.long r :: st)))) : Go x (T.setTop (mkF x.m pc Ls (.long v :: .long u :: st))) := by
  obtain ⟨hd, rfl⟩ := hd
  exact G.from fun t q => XT.ladd X.at X.ex rfl (X.dec hd) rfl (hr ▸ q)
theorem g_lsub (X : Wk nw l Z EL own bytes maxL ret mnm R h0 B0 ws Q x T h B k n) {u v : Int64} (r : Int64) (hd : Dc bytes pc (.lsub) 1 pc') (hr : u - v = r) (G : Go x (T.setTop (mkF x.m pc' Ls (.long r :: st)))) : Go x (T.setTop (mkF x.m pc Ls (.long v :: .long u :: st))) := by
  obtain ⟨hd, rfl⟩ := hd
  exact G.from fun t q => XT.lsub X.at X.ex rfl (X.dec hd) rfl (hr ▸ q)
theorem g_lmul (X : Wk nw l Z EL own bytes maxL ret mnm R h0 B0 ws Q x T h B k n) {u v : Int64} (r : Int64) (hd : Dc bytes pc (.lmul) 1 pc') (hr : u * v = r) (G : Go x (T.setTop (mkF x.m pc' Ls (.long r :: st)))) : Go x (T.setTop (mkF x.m pc Ls (.long v :: .long u :: st))) := by
  obtain ⟨hd, rfl⟩ := hd
  exact G.from fun t q => XT.lmul X.at X.ex rfl (X.dec hd) rfl (hr ▸ q)
theorem g_land (X : Wk nw l Z EL own bytes maxL ret mnm R h0 B0 ws Q x T h B k n) {u v : Int64} (r : Int64) (hd : Dc bytes pc (.land) 1 pc') (hr : u &&& v = r) (G : Go x (T.setTop (mkF x.m pc' Ls (.long r :: st)))) : Go x (T.setTop (mkF x.m pc Ls (.long v :: .long u :: st))) := by
  obtain ⟨hd, rfl⟩ := hd
  exact G.from fun t q => XT.land X.at X.ex rfl (X.dec hd) rfl (hr ▸ q)
theorem g_lor (X : Wk nw l Z EL own bytes maxL ret mnm R h0 B0 ws Q x T h B k n) {u v : Int64} (r : Int64) (hd : Dc bytes pc (.lor) 1 pc') (hr : u ||| v = r) (G : Go x (T.setTop (mkF x.m pc' Ls (.long r :: st)))) : Go x (T.setTop (mkF x.m pc Ls (.long v :: .long u :: st))) := by
  obtain ⟨hd, rfl⟩ := hd
  exact G.from fun t q => XT.lor X.at X.ex rfl (X.dec hd) rfl (hr ▸ q)
theorem g_lxor (X : Wk nw l Z EL own bytes maxL ret mnm R h0 B0 ws Q x T h B k n) {u v : Int64} (r : Int64) (hd : Dc bytes pc (.lxor) 1 pc') (hr : u ^^^ v = r) (G : Go x (T.setTop (mkF x.m pc' Ls (.long r :: st)))) : Go x (T.setTop (mkF x.m pc Ls (.long v :: .long u :: st))) := by
  obtain ⟨hd, rfl⟩ := hd
  exact G.from fun t q => XT.lxor X.at X.ex rfl (X.dec hd) rfl (hr ▸ q)
theorem g_lshl (X : Wk nw l Z EL own bytes maxL ret mnm R h0 B0 ws Q x T h B k n) {u : Int64} {v : Int32} (r : Int64) (hd : Dc bytes pc (.lshl) 1 pc') (hr : u <<< (v.toInt64 &&& 63) = r) (G : Go x (T.setTop (mkF x.m pc' Ls (.long r :: st)))) : Go x (T.setTop (mkF x.m pc Ls (.int v :: .long u :: st))) := by
  obtain ⟨hd, rfl⟩ := hd
  exact G.from fun t q => XT.lshl X.at X.ex rfl (X.dec hd) rfl (hr ▸ q)
theorem g_lshr (X : Wk nw l Z EL own bytes maxL ret mnm R h0 B0 ws Q x T h B k n) {u : Int64} {v : Int32} (r : Int64) (hd : Dc bytes pc (.lshr) 1 pc') (hr : u >>> (v.toInt64 &&& 63) = r) (G : Go x (T.setTop (mkF x.m pc' Ls (.long r :: st)))) : Go x (T.setTop (mkF x.m pc Ls (.int v :: .long u :: st))) := by
  obtain ⟨hd, rfl⟩ := hd
  exact G.from fun t q => XT.lshr X.at X.ex rfl (X.dec hd) rfl (hr ▸ q)
theorem g_lushr (X : Wk nw l Z EL own bytes maxL ret mnm R h0 B0 ws Q x T h B k n) {u : Int64} {v : Int32} (r : Int64) (hd : Dc bytes pc (.lushr) 1 pc') (hr : XT.ushrL u v = r) (G : Go x (T.setTop (mkF x.m pc' Ls (.long r :: st)))) : Go x (T.setTop (mkF x.m pc Ls (.int v :: .long u :: st))) := by
  obtain ⟨hd, rfl⟩ := hd
  exact G.from fun t q => XT.lushr X.at X.ex rfl (X.dec hd) rfl (hr ▸ q)
theorem g_ineg (X : Wk nw l Z EL own bytes maxL ret mnm R h0 B0 ws Q x T h B k n) {u : Int32} (r : Int32) (hd : Dc bytes pc (.ineg) 1 pc') (hr : -u = r) (G : Go x (T.setTop (mkF x.m pc' Ls (.int r :: st)))) : Go x (T.setTop (mkF x.m pc Ls (.int u :: st))) := by
  obtain ⟨hd, rfl⟩ := hd
  exact G.from fun t q => XS.ineg X.at X.ex rfl (X.dec hd) rfl (hr ▸ q)
theorem g_i2l (X : Wk nw l Z EL own bytes maxL ret mnm R h0 B0 ws Q x T h B k n) {u : Int32} (r : Int64) (hd : Dc bytes pc (.i2l) 1 pc') (hr : u.toInt64 = r) (G : Go x (T.setTop (mkF x.m pc' Ls (.long r :: st)))) : Go x (T.setTop (mkF x.m pc Ls (.int u :: st))) := by
  obtain ⟨hd, rfl⟩ := hd
  exact G.from fun t q => XT.i2l X.at X.ex rfl (X.dec hd) rfl (hr ▸ q)
theorem g_l2i (X : Wk nw l Z EL own bytes maxL ret mnm R h0 B0 ws Q x T h B k n) {u : Int64} (r : Int32) (hd : Dc bytes pc (.l2i) 1 pc') (hr : u.toInt32 = r) (G : Go x (T.setTop (mkF x.m pc' Ls (.int r :: st)))) : Go x (T.setTop (mkF x.m pc Ls (.long u :: st))) := by
  obtain ⟨hd, rfl⟩ := hd
  exact G.from fun t q => XT.l2i X.at X.ex rfl (X.dec hd) rfl (hr ▸ q)
theorem g_i2b (X : Wk nw l Z EL own bytes maxL ret mnm R h0 B0 ws Q x T h B k n) {u : Int32} (r : Int32) (hd : Dc bytes pc (.i2b) 1 pc') (hr : u.toInt8.toInt32 = r) (G : Go x (T.setTop (mkF x.m pc' Ls (.int r :: st)))) : Go x (T.setTop (mkF x.m pc Ls (.int u :: st))) := by
  obtain ⟨hd, rfl⟩ := hd
  exact G.from fun t q => XT.i2b X.at X.ex rfl (X.dec hd) rfl (hr ▸ q)
theorem g_i2c (X : Wk nw l Z EL own bytes maxL ret mnm R h0 B0 ws Q x T h B k n) {u : Int32} (r : Int32) (hd : Dc bytes pc (.i2c) 1 pc') (hr : u.toUInt32.toUInt16.toUInt32.toInt32 = r) (G : Go x (T.setTop (mkF x.m pc' Ls (.int r :: st)))) : Go x (T.setTop (mkF x.m pc Ls (.int u :: st))) := by
  obtain ⟨hd, rfl⟩ := hd
  exact G.from fun t q => XT.i2c X.at X.ex rfl (X.dec hd) rfl (hr ▸ q)
theorem g_i2s (X : Wk nw l Z EL own bytes maxL ret mnm R h0 B0 ws Q x T h B k n) {u : Int32} (r : Int32) (hd : Dc bytes pc (.i2s) 1 pc') (hr : u.toInt16.toInt32 = r) (G : Go x (T.setTop (mkF x.m pc' Ls (.int r :: st)))) : Go x (T.setTop (mkF x.m pc Ls (.int u :: st))) := by
  obtain ⟨hd, rfl⟩ := hd
  exact G.from fun t q => XT.i2s X.at X.ex rfl (X.dec hd) rfl (hr ▸ q)
theorem g_lcmp (X : Wk nw l Z EL own bytes maxL ret mnm R h0 B0 ws Q x T h B k n) {u v : Int64} (r : Int32) (hd : Dc bytes pc (.lcmp) 1 pc') (hr : XT.cmpL u v = r) (G : Go x (T.setTop (mkF x.m pc' Ls (.int r :: st)))) : Go x (T.setTop (mkF x.m pc Ls (.long v :: .long u :: st))) := by
  obtain ⟨hd, rfl⟩ := hd
  exact G.from fun t q => XT.lcmp X.at X.ex rfl (X.dec hd) rfl (hr ▸ q)
theorem g_dup (X : Wk nw l Z EL own bytes maxL ret mnm R h0 B0 ws Q x T h B k n) {v : Value} (hd : Dc bytes pc (.dup) 1 pc') (hc : v.category = 1) (G : Go x (T.setTop (mkF x.m pc' Ls (v :: v :: st)))) : Go x (T.setTop (mkF x.m pc Ls (v :: st))) := by
  obtain ⟨hd, rfl⟩ := hd
  exact G.from fun t q => XS.dup X.at X.ex rfl (X.dec hd) rfl hc q
theorem g_pop (X : Wk nw l Z EL own bytes maxL ret mnm R h0 B0 ws Q x T h B k n) {v : Value} (hd : Dc bytes pc (.pop) 1 pc') (hc : v.category = 1) (G : Go x (T.setTop (mkF x.m pc' Ls st))) : Go x (T.setTop (mkF x.m pc Ls (v :: st))) := by
  obtain ⟨hd, rfl⟩ := hd
  exact G.from fun t q => XT.pop X.at X.ex rfl (X.dec hd) rfl hc q
theorem g_dup_x1 (X : Wk nw l Z EL own bytes maxL ret mnm R h0 B0 ws Q x T h B k n) {u v : Value} (hd : Dc bytes pc (.dup_x1) 1 pc') (hc : u.category = 1) (hc' : v.category = 1) (G : Go x (T.setTop (mkF x.m pc' Ls (u :: v :: u :: st)))) : Go x (T.setTop (mkF x.m pc Ls (u :: v :: st))) := by
  obtain ⟨hd, rfl⟩ := hd
  exact G.from fun t q => XT.dupX1 X.at X.ex rfl (X.dec hd) rfl hc hc' q
theorem g_dup2 (X : Wk nw l Z EL own bytes maxL ret mnm R h0 B0 ws Q x T h B k n) {u v : Value} (hd : Dc bytes pc (.dup2) 1 pc') (hc : u.category = 1) (hc' : v.category = 1) (G : Go x (T.setTop (mkF x.m pc' Ls (u :: v :: u :: v :: st)))) : Go x (T.setTop (mkF x.m pc Ls (u :: v :: st))) := by
  obtain ⟨hd, rfl⟩ := hd
  exact G.from fun t q => XT.dup2 X.at X.ex rfl (X.dec hd) rfl hc hc' q
theorem g_dup2L (X : Wk nw l Z EL own bytes maxL ret mnm R h0 B0 ws Q x T h B k n) {u : Int64} (hd : Dc bytes pc (.dup2) 1 pc')  (G : Go x (T.setTop (mkF x.m pc' Ls (.long u :: .long u :: st)))) : Go x (T.setTop (mkF x.m pc Ls (.long u :: st))) := by
  obtain ⟨hd, rfl⟩ := hd
  exact G.from fun t q => XT.dup2L X.at X.ex rfl (X.dec hd) rfl q
theorem g_goto (X : Wk nw l Z EL own bytes maxL ret mnm R h0 B0 ws Q x T h B k n) {o : Int} {pc'' : Nat}  (hd : Db bytes pc (.goto o) o pc' pc'')  (G : Go x (T.setTop (mkF x.m pc'' Ls st))) : Go x (T.setTop (mkF x.m pc Ls st)) := by
  obtain ⟨hd, rfl, ho, rfl⟩ := hd
  exact G.from fun t q => XS.goto X.at X.ex rfl rfl (X.dec hd) ho rfl q
theorem g_ifT (X : Wk nw l Z EL own bytes maxL ret mnm R h0 B0 ws Q x T h B k n) {o : Int} {pc'' : Nat} {cd : ClassFile.Cond} {v : Int32} (hd : Db bytes pc (.ifCond cd o) o pc' pc'') (hc : ifCond.holds cd v = true) (G : Go x (T.setTop (mkF x.m pc'' Ls st))) : Go x (T.setTop (mkF x.m pc Ls (.int v :: st))) := by
  obtain ⟨hd, rfl, ho, rfl⟩ := hd
  exact G.from fun t q => XS.ifYes X.at X.ex rfl rfl (X.dec hd) rfl hc ho rfl q
theorem g_ifF (X : Wk nw l Z EL own bytes maxL ret mnm R h0 B0 ws Q x T h B k n) {o : Int} {pc'' : Nat} {cd : ClassFile.Cond} {v : Int32} (hd : Db bytes pc (.ifCond cd o) o pc' pc'') (hc : ifCond.holds cd v = false) (G : Go x (T.setTop (mkF x.m pc' Ls st))) : Go x (T.setTop (mkF x.m pc Ls (.int v :: st))) := by
  obtain ⟨hd, rfl, ho, rfl⟩ := hd
  exact G.from fun t q => XS.ifNo X.at X.ex rfl (X.dec hd) rfl hc q
theorem g_icmpT (X : Wk nw l Z EL own bytes maxL ret mnm R h0 B0 ws Q x T h B k n) {o : Int} {pc'' : Nat} {cd : ClassFile.Cond} {u v : Int32} (hd : Db bytes pc (.if_icmp cd o) o pc' pc'') (hc : if_icmp.holds cd u v = true) (G : Go x (T.setTop (mkF x.m pc'' Ls st))) : Go x (T.setTop (mkF x.m pc Ls (.int v :: .int u :: st))) := by
  obtain ⟨hd, rfl, ho, rfl⟩ := hd
  exact G.from fun t q => XS.icmpYes X.at X.ex rfl rfl (X.dec hd) rfl hc ho rfl q
theorem g_icmpF (X : Wk nw l Z EL own bytes maxL ret mnm R h0 B0 ws Q x T h B k n) {o : Int} {pc'' : Nat} {cd : ClassFile.Cond} {u v : Int32} (hd : Db bytes pc (.if_icmp cd o) o pc' pc'') (hc : if_icmp.holds cd u v = false) (G : Go x (T.setTop (mkF x.m pc' Ls st))) : Go x (T.setTop (mkF x.m pc Ls (.int v :: .int u :: st))) := by
  obtain ⟨hd, rfl, ho, rfl⟩ := hd
  exact G.from fun t q => XS.icmpNo X.at X.ex rfl (X.dec hd) rfl hc q
theorem g_acmpT (X : Wk nw l Z EL own bytes maxL ret mnm R h0 B0 ws Q x T h B k n) {o : Int} {pc'' : Nat} {cd : ClassFile.ACond} {u v : Value} (hd : Db bytes pc (.if_acmp cd o) o pc' pc'') (h1 : u.isRef = true) (h2 : v.isRef = true) (hc : XT.acmp cd u v = true) (G : Go x (T.setTop (mkF x.m pc'' Ls st))) : Go x (T.setTop (mkF x.m pc Ls (v :: u :: st))) := by
  obtain ⟨hd, rfl, ho, rfl⟩ := hd
  exact G.from fun t q => XT.acmpYes X.at X.ex rfl rfl (X.dec hd) rfl h1 h2 hc ho rfl q
theorem g_acmpF (X : Wk nw l Z EL own bytes maxL ret mnm R h0 B0 ws Q x T h B k n) {o : Int} {pc'' : Nat} {cd : ClassFile.ACond} {u v : Value} (hd : Db bytes pc (.if_acmp cd o) o pc' pc'') (h1 : u.isRef = true) (h2 : v.isRef = true) (hc : XT.acmp cd u v = false) (G : Go x (T.setTop (mkF x.m pc' Ls st))) : Go x (T.setTop (mkF x.m pc Ls (v :: u :: st))) := by
  obtain ⟨hd, rfl, ho, rfl⟩ := hd
  exact G.from fun t q => XT.acmpNo X.at X.ex rfl (X.dec hd) rfl h1 h2 hc q
theorem g_ifnullT (X : Wk nw l Z EL own bytes maxL ret mnm R h0 B0 ws Q x T h B k n) {o : Int} {pc'' : Nat}  (hd : Db bytes pc (.ifnull o) o pc' pc'')  (G : Go x (T.setTop (mkF x.m pc'' Ls st))) : Go x (T.setTop (mkF x.m pc Ls (.null :: st))) := by
  obtain ⟨hd, rfl, ho, rfl⟩ := hd
  exact G.from fun t q => XS.ifnullYes X.at X.ex rfl rfl (X.dec hd) rfl ho rfl q
theorem g_ifnullF (X : Wk nw l Z EL own bytes maxL ret mnm R h0 B0 ws Q x T h B k n) {o : Int} {pc'' : Nat} {a : Addr} (hd : Db bytes pc (.ifnull o) o pc' pc'')  (G : Go x (T.setTop (mkF x.m pc' Ls st))) : Go x (T.setTop (mkF x.m pc Ls (.ref a :: st))) := by
  obtain ⟨hd, rfl, ho, rfl⟩ := hd
  exact G.from fun t q => XS.ifnullNo X.at X.ex rfl (X.dec hd) rfl q
theorem g_ifnonnullT (X : Wk nw l Z EL own bytes maxL ret mnm R h0 B0 ws Q x T h B k n) {o : Int} {pc'' : Nat} {a : Addr} (hd : Db bytes pc (.ifnonnull o) o pc' pc'')  (G : Go x (T.setTop (mkF x.m pc'' Ls st))) : Go x (T.setTop (mkF x.m pc Ls (.ref a :: st))) := by
  obtain ⟨hd, rfl, ho, rfl⟩ := hd
  exact G.from fun t q => XT.ifnonnullYes X.at X.ex rfl rfl (X.dec hd) rfl ho rfl q
theorem g_ifnonnullF (X : Wk nw l Z EL own bytes maxL ret mnm R h0 B0 ws Q x T h B k n) {o : Int} {pc'' : Nat}  (hd : Db bytes pc (.ifnonnull o) o pc' pc'')  (G : Go x (T.setTop (mkF x.m pc' Ls st))) : Go x (T.setTop (mkF x.m pc Ls (.null :: st))) := by
  obtain ⟨hd, rfl, ho, rfl⟩ := hd
  exact G.from fun t q => XT.ifnonnullNo X.at X.ex rfl (X.dec hd) rfl q
end Kit
/-! own kit, part 3: fields, statics, objects, arrays -/
/-- the array at a holds just these values -/
def Ay (Z : State) (h : Heap) (a : Addr) (ty : FieldType) (vs : List Value) : Prop :=
  ∃ c : Cell, Arr Z h a c ty ∧ c.slots.toList = vs ∧ vs.length < 2 ^ 31 ∧ ∀ v ∈ vs, fits ty v = true
section Ay
variable {Z : State} {h h' : Heap} {a b : Addr} {ty : FieldType} {vs : List Value} {ws : List Addr}
theorem Ay.lt (A : Ay Z h a ty vs) : @LT.lt Nat _ a h.size := by obtain ⟨c, A, -⟩ := A; exact A.lt
theorem Ay.len (A : Ay Z h a ty vs) : vs.length < 2 ^ 31 := by obtain ⟨c, A, -, l, -⟩ := A; exact l
theorem Ay.fit (A : Ay Z h a ty vs) : ∀ v ∈ vs, fits ty v = true := by obtain ⟨c, A, -, -, f⟩ := A; exact f
theorem Ay.keep (A : Ay Z h a ty vs) (K : Keep h h' ws) (q : a ∉ ws) : Ay Z h' a ty vs := by obtain ⟨c, A, r⟩ := A; exact ⟨c, ⟨K.2.1 a c A.1 q, A.2⟩, r⟩
theorem Ay.ext (A : Ay Z h a ty vs) (E : Ext h h') : Ay Z h' a ty vs := by obtain ⟨c, A, r⟩ := A; exact ⟨c, A.ext E, r⟩
theorem Ay.arv (A : Ay Z h a ty vs) (d : Value) : ∃ k, Arv Z h a k ty vs.length.toInt32 vs d := by
  obtain ⟨c, A, e, l, f⟩ := A
  have hsz : c.slots.size = vs.length := by rw [← e]; simp
  have hn : (vs.length.toInt32).toNatClampNeg = vs.length := by
    have := len_toInt l
    rw [Int32.toNatClampNeg, this]; rfl
  refine ⟨c.cls, c, A, rfl, by rw [hn, hsz], ?_, fun i hi => ?_, fun i hi => ?_⟩
  · have := len_toInt l
    rw [Int32.lt_iff_toInt_lt, this, Int32.toInt_zero]; omega
  · have hi' : i < vs.length := by omega
    subst e
    simp only [Array.length_toList] at hi'
    simp [List.getD, hi]
  · have hi' : i < vs.length := by omega
    rw [List.getD_eq_getElem?_getD, List.getElem?_eq_getElem hi', Option.getD_some]
    exact f _ (List.getElem_mem _)
theorem Ay.of_arv {k : ClassId} {z : Int32} {d : Value} (A : Arv Z h a k ty z vs d) (hl : z.toNatClampNeg = vs.length) : Ay Z h a ty vs := by
  obtain ⟨c, A, -, s, nn, H, G⟩ := A
  have hsz : c.slots.size = vs.length := by rw [s, hl]
  refine ⟨c, A, ?_, ?_, ?_⟩
  · refine List.ext_getElem (by simpa using hsz) fun i h1 h2 => ?_
    have hi : i < c.slots.size := by omega
    have q := H i hi
    rw [Array.getElem?_eq_getElem hi, List.getD_eq_getElem?_getD, List.getElem?_eq_getElem h2, Option.getD_some] at q
    simpa using q
  · rw [← hl]
    have := z.toInt_lt
    rw [Int32.toNatClampNeg]
    omega
  · intro v hv
    obtain ⟨i, hi, rfl⟩ := List.mem_iff_getElem.mp hv
    have q := G i (by omega)
    rw [List.getD_eq_getElem?_getD, List.getElem?_eq_getElem hi, Option.getD_some] at q
    exact q
theorem i32_nat {i : Nat} (h : i < 2 ^ 31) : (Int32.ofNat i).toNatClampNeg = i ∧ ¬ Int32.ofNat i < 0 := by
  have e : (Int32.ofNat i).toInt = i := Int32.toInt_ofNat_small h
  refine ⟨by rw [Int32.toNatClampNeg, e]; rfl, ?_⟩
  rw [Int32.lt_iff_toInt_lt, e, Int32.toInt_zero]; omega
theorem Ay.at (A : Ay Z h a ty vs) {i : Nat} {v : Value} (hi : vs[i]? = some v) : ∃ c : Cell, Arr Z h a c ty ∧ ¬ (Int32.ofNat i < 0 ∨ c.slots.size ≤ (Int32.ofNat i).toNatClampNeg) ∧ c.slots[(Int32.ofNat i).toNatClampNeg]? = some v := by
  obtain ⟨c, A, e, l, -⟩ := A
  have hlt : i < vs.length := (List.getElem?_eq_some_iff.mp hi).1
  obtain ⟨q1, q2⟩ := i32_nat (Nat.lt_trans hlt l)
  refine ⟨c, A, ?_, ?_⟩
  · rw [q1]; rintro (r | r)
    · exact q2 r
    · rw [← e] at hlt; simp at hlt; omega
  · rw [q1, ← Array.getElem?_toList, e]; exact hi
theorem Ay.set (A : Ay Z h a ty vs) {i : Nat} (hi : i < vs.length) {v : Value} (hv : fits ty v = true) : ∃ c : Cell, Arr Z h a c ty ∧ ¬ (Int32.ofNat i < 0 ∨ c.slots.size ≤ (Int32.ofNat i).toNatClampNeg) ∧ ∀ h', Wr h h' a (Int32.ofNat i).toNatClampNeg v → Ay Z h' a ty (vs.set i v) := by
  obtain ⟨c, A, e, l, f⟩ := A
  obtain ⟨q1, q2⟩ := i32_nat (Nat.lt_trans hi l)
  refine ⟨c, A, ?_, fun h' W => ⟨_, A.same W, ?_, by simpa using l, ?_⟩⟩
  · rw [q1]; rintro (r | r)
    · exact q2 r
    · rw [← e] at hi; simp at hi; omega
  · rw [q1]; simp [Cell.setSlot, e]
  · intro w hw
    rcases List.mem_or_eq_of_mem_set hw with r | r
    · exact f w r
    · rw [r]; exact hv
end Ay
section Heap
variable {nw : Bool} {l : Launch} {Z : State} {EL : List (String × Nat)} {own : String} {bytes : ByteArray} {maxL : Nat} {ret : Option FieldType} {mnm : String} {R : Room} {h0 : Heap} {B0 : BP} {ws : List Addr} {Q : QT} {x : Cx} {T : State} {h : Heap} {B : BP} {k n : Nat} {a0 : Array Value} {pc pc' : Nat} {Ls : Array Slot} {st : List Value}
theorem g_getfield (X : Wk nw l Z EL own bytes maxL ret mnm R h0 B0 ws Q x T h B k n) {R0 O nm d : String} {idx : Nat} (hd : Dc bytes pc (.getfield idx) 3 pc') (w : (Cond.fieldLink own idx R0 nm d).before a0 Z = true) (via : Via Z R0 O nm d) {a : Addr} {v : Value} (F : Fld Z h a O nm d v)
    (K : ∀ T', Wk nw l Z EL own bytes maxL ret mnm R h0 B0 ws Q x T' h B k n → Go x (T'.setTop (mkF x.m pc' Ls (v :: st)))) : Go x (T.setTop (mkF x.m pc Ls (.ref a :: st))) := by
  obtain ⟨S, vm0, k0, locs, X, eT, hS, hk, hZ, hown, r⟩ := X
  obtain ⟨hd, rfl⟩ := hd
  obtain ⟨T', X', e', stp⟩ := getF X S.1 hZ hown (host := "") (Or.inl w) via eT F (g := mkF x.m pc Ls (.ref a :: st)) rfl rfl (S.2.1 ▸ hd)
  exact (K T' ⟨S, vm0, k0, locs, X', e', hS, hk, hZ, hown, r⟩).from stp
theorem g_getstatic (X : Wk nw l Z EL own bytes maxL ret mnm R h0 B0 ws Q x T h B k n) {R0 O nm d : String} {idx : Nat} (hd : Dc bytes pc (.getstatic idx) 3 pc') (w : (Cond.fieldLink own idx R0 nm d).before a0 Z = true) (via : Via Z R0 O nm d) {v : Value} (F : Sta Z Z.heap O nm d v)
    (K : ∀ T', Wk nw l Z EL own bytes maxL ret mnm R h0 B0 ws Q x T' h B k n → Go x (T'.setTop (mkF x.m pc' Ls (v :: st)))) : Go x (T.setTop (mkF x.m pc Ls st)) := by
  have F' := F.ext X.old
  obtain ⟨S, vm0, k0, locs, X, eT, hS, hk, hZ, hown, r⟩ := X
  obtain ⟨hd, rfl⟩ := hd
  obtain ⟨T', X', e', stp⟩ := getS (host := "") X S.1 hZ hown w via eT F' (g := mkF x.m pc Ls st) rfl (S.2.1 ▸ hd)
  exact (K T' ⟨S, vm0, k0, locs, X', e', hS, hk, hZ, hown, r⟩).from stp
/-- a step that writes one place -/
theorem Wk.wrote {T' : State} {h' : Heap} {vm0 : Vm} {k0 : Nat} {locs : List Loc} {a : Addr} {sl : Nat} {v : Value} (W : Wr h h' a sl v) (hB : ¬ B a) (hz : Z.heap.size ≤ a) (hw : a ∈ ws ∨ h0.size ≤ a)
    (S : x.p.tables.exec = Jvm.exec ∧ x.c.code = bytes ∧ x.c.maxLocals = maxL ∧ x.meth.sig.returnType = ret ∧ x.meth.locks = false ∧ x.meth.name = mnm ∧ x.F = ConQ nw Z EL R h0 B0 ws Q x.s)
    (X' : Stand x.p l x.e R (x.s.setVm vm0) x.m x.args x.below x.meth x.c T' (locs ++ [⟨a, sl⟩]) k n) (e' : T'.heap = h') (hS : x.s.Since vm0 k0) (hk : k0 ≤ h.size) (hZ : Z.Warmed39 vm0) (hown : vm0.findClass own = some x.m.cls)
    (hI : k_inv Z EL B vm0 h) (hFr : Fr Z.heap.size locs) (hK : Keep h0 h ws) (hM : k_more B0 B h0.size) (hN : nw = true → x.s.WarmedH vm0) : Wk nw l Z EL own bytes maxL ret mnm R h0 B0 ws Q x T' h' B k n :=
  ⟨S, vm0, k0, _, X', e', hS, by rw [W.size]; exact hk, hZ, hown, hI.wr W hB hz, Fr.snoc X' hFr hz, hK.wr W hw, hM, hN⟩
theorem g_putfield (X : Wk nw l Z EL own bytes maxL ret mnm R h0 B0 ws Q x T h B k n) {R0 O nm d C : String} {idx kk : Nat} {ty : FieldType} (hd : Dc bytes pc (.putfield idx) 3 pc') (w : (Cond.fieldLink own idx R0 nm d).before a0 Z = true) (via : Via Z R0 O nm d) {a : Addr} {v v' old : Value} (F : Fld Z h a O nm d old) (E : Exa Z h a C)
    (L : (Cond.lays C O nm d).before a0 Z = true ∨ ((Cond.laysFinal C O nm d).before a0 Z = true ∧ own = O ∧ mnm = "<init>")) (wi : (Cond.instantiable C kk).before a0 Z = true) (hty : parseFieldDescriptor d = some ty) (hn : narrow ty v = v') (hf : fits ty v' = true)
    (hB : ¬ B a) (hz : Z.heap.size ≤ a) (hw : a ∈ ws ∨ h0.size ≤ a)
    (K : ∀ T' h', Wk nw l Z EL own bytes maxL ret mnm R h0 B0 ws Q x T' h' B k n → Wr h h' a (RoadKit.slotOf Z O nm d) v' → Go x (T'.setTop (mkF x.m pc' Ls st))) : Go x (T.setTop (mkF x.m pc Ls (v :: .ref a :: st))) := by
  obtain ⟨S, vm0, k0, locs, X, eT, hS, hk, hZ, hown, hI, hFr, hK, hM, hN⟩ := X
  obtain ⟨hd, rfl⟩ := hd
  obtain ⟨T', h', X', e', W, stp⟩ := putFN X S.1 hZ hown w via eT F E (L.imp id fun q => ⟨q.1, q.2.1, S.2.2.2.2.2.1.trans q.2.2⟩) wi hty hn hf (g := mkF x.m pc Ls (v :: .ref a :: st)) rfl rfl (S.2.1 ▸ hd)
  exact (K T' h' (Wk.wrote W hB hz hw S X' e' hS hk hZ hown hI hFr hK hM hN) W).from stp
theorem g_new (X : Wk nw l Z EL own bytes maxL ret mnm R h0 B0 ws Q x T h B k n) {C : String} {idx nf : Nat} (hd : Dc bytes pc (.new idx) 3 pc') (w : (Cond.classLink own idx C).before a0 Z = true) (wi : (Cond.instantiable C nf).before a0 Z = true) (wz : (Cond.initialized C).before a0 Z = true) (k' n' : Nat) (ek : k + 1 = k') (en : n + nf = n') (hc : k' ≤ R.cells) (hs : n' ≤ R.slots)
    (K : ∀ T' h' a, Wk nw l Z EL own bytes maxL ret mnm R h0 B0 ws Q x T' h' B k' n' → Ext h h' → a = h.size → ¬ B a → Exa Z h' a C → (∀ {O nm d : String} {ty : FieldType}, Laid Z a0 C O nm d → parseFieldDescriptor d = some ty → Fld Z h' a O nm d (defaultValue ty)) → Go x (T'.setTop (mkF x.m pc' Ls (.ref a :: st)))) : Go x (T.setTop (mkF x.m pc Ls st)) := by
  have hB := X.fresh
  subst ek en
  obtain ⟨S, vm0, k0, locs, X, eT, hS, hk, hZ, hown, hI, hFr, hK, hM, hN⟩ := X
  obtain ⟨hd, rfl⟩ := hd
  obtain ⟨T', h', X', e', E, A, D, -, stp⟩ := newO X S.1 hZ hown w wi wz eT (g := mkF x.m pc Ls st) rfl (S.2.1 ▸ hd) hc hs
  exact (K T' h' _ ⟨S, vm0, k0, locs, X', e', hS, Nat.le_trans hk E.1, hZ, hown, hI.ext E, hFr, hK.ext E, hM, hN⟩ E rfl hB A D).from stp
theorem g_newarray (X : Wk nw l Z EL own bytes maxL ret mnm R h0 B0 ws Q x T h B k n) {aty : ArrayType} {ty : FieldType} (hd : Dc bytes pc (.newarray aty) 2 pc') (hty : newarray.typeOf aty = ty) (w : (Cond.arrayClass ty).before a0 Z = true) {j : Int32} (len cap : Nat) (hj : j = Int32.ofNat len) (hcap : len ≤ cap) (hbig : cap * 8 ≤ 536870912) (k' n' : Nat) (ek : k + 1 = k') (en : n + cap = n') (hc : k' ≤ R.cells) (hs : n' ≤ R.slots)
    (K : ∀ T' h' a, Wk nw l Z EL own bytes maxL ret mnm R h0 B0 ws Q x T' h' B k' n' → Ext h h' → a = h.size → ¬ B a → Ay Z h' a ty (List.replicate len (defaultValue ty)) → Go x (T'.setTop (mkF x.m pc' Ls (.ref a :: st)))) : Go x (T.setTop (mkF x.m pc Ls (.int j :: st))) := by
  have hB := X.fresh
  subst hty hj ek en
  obtain ⟨S, vm0, k0, locs, X, eT, hS, hk, hZ, hown, hI, hFr, hK, hM, hN⟩ := X
  obtain ⟨hd, rfl⟩ := hd
  have hlt : len < 2 ^ 31 := by omega
  obtain ⟨q1, q2⟩ := i32_nat hlt
  obtain ⟨T', h', cA, X', e', E, A, stp⟩ := newP X S.1 hZ w eT (g := mkF x.m pc Ls (.int (Int32.ofNat len) :: st)) rfl (S.2.1 ▸ hd) rfl q2 (cap := cap) (by rw [q1]; exact hcap) hbig hc hs
  refine (K T' h' _ ⟨S, vm0, k0, locs, X', e', hS, Nat.le_trans hk E.1, hZ, hown, hI.ext E, hFr, hK.ext E, hM, hN⟩ E rfl hB ⟨_, A, ?_, by simpa using hlt, ?_⟩).from stp
  · simp [newA, q1]
  · intro v hv
    rw [(List.mem_replicate.mp hv).2]
    cases aty <;> rfl
theorem g_arraylength (X : Wk nw l Z EL own bytes maxL ret mnm R h0 B0 ws Q x T h B k n) (hd : Dc bytes pc .arraylength 1 pc') {a : Addr} {ty : FieldType} {vs : List Value} (A : Ay Z h a ty vs) (r : Int32) (hr : Int32.ofNat vs.length = r)
    (G : Go x (T.setTop (mkF x.m pc' Ls (.int r :: st)))) : Go x (T.setTop (mkF x.m pc Ls (.ref a :: st))) := by
  subst hr
  obtain ⟨S, vm0, k0, locs, X, eT, hS, hk, hZ, hown, hI, hFr, hK, hM, hN⟩ := X
  obtain ⟨hd, rfl⟩ := hd
  obtain ⟨c, A, e, -, -⟩ := A
  refine G.from fun t q => X.arraylength S.1 (cell := c) (by rw [eT]; exact A.1) (State.isArrayOf_alike hZ.alike A.2.1) (g := mkF x.m pc Ls (.ref a :: st)) rfl rfl (S.2.1 ▸ hd) t ?_
  have hsz : c.slots.size = vs.length := by rw [← e]; simp
  rw [hsz]; exact q
theorem g_caload (X : Wk nw l Z EL own bytes maxL ret mnm R h0 B0 ws Q x T h B k n) (hd : Dc bytes pc .caload 1 pc') {a : Addr} {vs : List Value} (A : Ay Z h a .char vs) {j : Int32} (i : Nat) (hj : j = Int32.ofNat i) {v : Value} (hi : vs[i]? = some v)
    (G : Go x (T.setTop (mkF x.m pc' Ls (v :: st)))) : Go x (T.setTop (mkF x.m pc Ls (.int j :: .ref a :: st))) := by
  subst hj
  obtain ⟨S, vm0, k0, locs, X, eT, hS, hk, hZ, hown, hI, hFr, hK, hM, hN⟩ := X
  obtain ⟨hd, rfl⟩ := hd
  obtain ⟨c, A, h1, h2⟩ := A.at hi
  exact G.from fun t q => X.caload S.1 (by rw [eT]; exact A.1) (State.isArrayOf_alike hZ.alike A.2.1) A.2.2 h1 h2 (g := mkF x.m pc Ls (.int (Int32.ofNat i) :: .ref a :: st)) rfl rfl (S.2.1 ▸ hd) t q
theorem g_iaload (X : Wk nw l Z EL own bytes maxL ret mnm R h0 B0 ws Q x T h B k n) (hd : Dc bytes pc .iaload 1 pc') {a : Addr} {vs : List Value} (A : Ay Z h a .int vs) {j : Int32} (i : Nat) (hj : j = Int32.ofNat i) {v : Value} (hi : vs[i]? = some v)
    (G : Go x (T.setTop (mkF x.m pc' Ls (v :: st)))) : Go x (T.setTop (mkF x.m pc Ls (.int j :: .ref a :: st))) := by
  subst hj
  obtain ⟨S, vm0, k0, locs, X, eT, hS, hk, hZ, hown, hI, hFr, hK, hM, hN⟩ := X
  obtain ⟨hd, rfl⟩ := hd
  obtain ⟨c, A, h1, h2⟩ := A.at hi
  exact G.from fun t q => X.iaload S.1 (by rw [eT]; exact A.1) (State.isArrayOf_alike hZ.alike A.2.1) A.2.2 h1 h2 (g := mkF x.m pc Ls (.int (Int32.ofNat i) :: .ref a :: st)) rfl rfl (S.2.1 ▸ hd) t q
theorem g_laload (X : Wk nw l Z EL own bytes maxL ret mnm R h0 B0 ws Q x T h B k n) (hd : Dc bytes pc .laload 1 pc') {a : Addr} {vs : List Value} (A : Ay Z h a .long vs) {j : Int32} (i : Nat) (hj : j = Int32.ofNat i) {v : Value} (hi : vs[i]? = some v)
    (G : Go x (T.setTop (mkF x.m pc' Ls (v :: st)))) : Go x (T.setTop (mkF x.m pc Ls (.int j :: .ref a :: st))) := by
  subst hj
  obtain ⟨S, vm0, k0, locs, X, eT, hS, hk, hZ, hown, hI, hFr, hK, hM, hN⟩ := X
  obtain ⟨hd, rfl⟩ := hd
  obtain ⟨c, A, h1, h2⟩ := A.at hi
  exact G.from fun t q => X.laload S.1 (by rw [eT]; exact A.1) (State.isArrayOf_alike hZ.alike A.2.1) A.2.2 h1 h2 (g := mkF x.m pc Ls (.int (Int32.ofNat i) :: .ref a :: st)) rfl rfl (S.2.1 ▸ hd) t q
theorem g_baload (X : Wk nw l Z EL own bytes maxL ret mnm R h0 B0 ws Q x T h B k n) (hd : Dc bytes pc .baload 1 pc') {a : Addr} {vs : List Value} (A : Ay Z h a .byte vs) {j : Int32} (i : Nat) (hj : j = Int32.ofNat i) {v : Value} (hi : vs[i]? = some v)
    (G : Go x (T.setTop (mkF x.m pc' Ls (v :: st)))) : Go x (T.setTop (mkF x.m pc Ls (.int j :: .ref a :: st))) := by
  subst hj
  obtain ⟨S, vm0, k0, locs, X, eT, hS, hk, hZ, hown, hI, hFr, hK, hM, hN⟩ := X
  obtain ⟨hd, rfl⟩ := hd
  obtain ⟨c, A, h1, h2⟩ := A.at hi
  exact G.from fun t q => X.baloadBytes S.1 (by rw [eT]; exact A.1) (State.isArrayOf_alike hZ.alike A.2.1) A.2.2 h1 h2 (g := mkF x.m pc Ls (.int (Int32.ofNat i) :: .ref a :: st)) rfl rfl (S.2.1 ▸ hd) t q
theorem g_aaload (X : Wk nw l Z EL own bytes maxL ret mnm R h0 B0 ws Q x T h B k n) (hd : Dc bytes pc .aaload 1 pc') {a : Addr} {ty : FieldType} (hty : ty.isReference = true) {vs : List Value} (A : Ay Z h a ty vs) {j : Int32} (i : Nat) (hj : j = Int32.ofNat i) {v : Value} (hi : vs[i]? = some v)
    (G : Go x (T.setTop (mkF x.m pc' Ls (v :: st)))) : Go x (T.setTop (mkF x.m pc Ls (.int j :: .ref a :: st))) := by
  subst hj
  obtain ⟨S, vm0, k0, locs, X, eT, hS, hk, hZ, hown, hI, hFr, hK, hM, hN⟩ := X
  obtain ⟨hd, rfl⟩ := hd
  obtain ⟨c, A, h1, h2⟩ := A.at hi
  exact G.from fun t q => X.aaload S.1 (by rw [eT]; exact A.1) (State.isArrayOf_alike hZ.alike A.2.1) hty A.2.2 h1 h2 (g := mkF x.m pc Ls (.int (Int32.ofNat i) :: .ref a :: st)) rfl rfl (S.2.1 ▸ hd) t q
theorem g_iastore (X : Wk nw l Z EL own bytes maxL ret mnm R h0 B0 ws Q x T h B k n) (hd : Dc bytes pc .iastore 1 pc') {a : Addr} {vs : List Value} (A : Ay Z h a .int vs) {j : Int32} (i : Nat) (hj : j = Int32.ofNat i) {v : Int32} (v' : Int32) (hv : v = v') (hi : i < vs.length) (hB : ¬ B a) (hz : Z.heap.size ≤ a) (hw : a ∈ ws ∨ h0.size ≤ a)
    (K : ∀ T' h', Wk nw l Z EL own bytes maxL ret mnm R h0 B0 ws Q x T' h' B k n → Keep h h' [a] → Ay Z h' a .int (vs.set i (.int v')) → Go x (T'.setTop (mkF x.m pc' Ls st))) : Go x (T.setTop (mkF x.m pc Ls (.int v :: .int j :: .ref a :: st))) := by
  subst hj hv
  obtain ⟨S, vm0, k0, locs, X, eT, hS, hk, hZ, hown, hI, hFr, hK, hM, hN⟩ := X
  obtain ⟨hd, rfl⟩ := hd
  obtain ⟨c, A, h1, h2⟩ := A.set hi (v := .int v) rfl
  obtain ⟨T', h', X', e', Wr', stp⟩ := stI X S.1 hZ eT A h1 (g := mkF x.m pc Ls (.int v :: .int (Int32.ofNat i) :: .ref a :: st)) rfl rfl (S.2.1 ▸ hd)
  exact (K T' h' (Wk.wrote Wr' hB hz hw S X' e' hS hk hZ hown hI hFr hK hM hN) (Keep.of_wr Wr') (h2 h' Wr')).from stp
theorem g_castore (X : Wk nw l Z EL own bytes maxL ret mnm R h0 B0 ws Q x T h B k n) (hd : Dc bytes pc .castore 1 pc') {a : Addr} {vs : List Value} (A : Ay Z h a .char vs) {j : Int32} (i : Nat) (hj : j = Int32.ofNat i) {v : Int32} (v' : Int32) (hv : (RoadKit.nar .char v) = v') (hi : i < vs.length) (hB : ¬ B a) (hz : Z.heap.size ≤ a) (hw : a ∈ ws ∨ h0.size ≤ a)
    (K : ∀ T' h', Wk nw l Z EL own bytes maxL ret mnm R h0 B0 ws Q x T' h' B k n → Keep h h' [a] → Ay Z h' a .char (vs.set i (.int v')) → Go x (T'.setTop (mkF x.m pc' Ls st))) : Go x (T.setTop (mkF x.m pc Ls (.int v :: .int j :: .ref a :: st))) := by
  subst hj hv
  obtain ⟨S, vm0, k0, locs, X, eT, hS, hk, hZ, hown, hI, hFr, hK, hM, hN⟩ := X
  obtain ⟨hd, rfl⟩ := hd
  obtain ⟨c, A, h1, h2⟩ := A.set hi (v := .int (RoadKit.nar .char v)) (fits_nar_char v)
  obtain ⟨T', h', X', e', Wr', stp⟩ := stC X S.1 hZ eT A h1 (g := mkF x.m pc Ls (.int v :: .int (Int32.ofNat i) :: .ref a :: st)) rfl rfl (S.2.1 ▸ hd)
  exact (K T' h' (Wk.wrote Wr' hB hz hw S X' e' hS hk hZ hown hI hFr hK hM hN) (Keep.of_wr Wr') (h2 h' Wr')).from stp
theorem g_bastore (X : Wk nw l Z EL own bytes maxL ret mnm R h0 B0 ws Q x T h B k n) (hd : Dc bytes pc .bastore 1 pc') {a : Addr} {vs : List Value} (A : Ay Z h a .byte vs) {j : Int32} (i : Nat) (hj : j = Int32.ofNat i) {v : Int32} (v' : Int32) (hv : (RoadKit.nar .byte v) = v') (hi : i < vs.length) (hB : ¬ B a) (hz : Z.heap.size ≤ a) (hw : a ∈ ws ∨ h0.size ≤ a)
    (K : ∀ T' h', Wk nw l Z EL own bytes maxL ret mnm R h0 B0 ws Q x T' h' B k n → Keep h h' [a] → Ay Z h' a .byte (vs.set i (.int v')) → Go x (T'.setTop (mkF x.m pc' Ls st))) : Go x (T.setTop (mkF x.m pc Ls (.int v :: .int j :: .ref a :: st))) := by
  subst hj hv
  obtain ⟨S, vm0, k0, locs, X, eT, hS, hk, hZ, hown, hI, hFr, hK, hM, hN⟩ := X
  obtain ⟨hd, rfl⟩ := hd
  obtain ⟨c, A, h1, h2⟩ := A.set hi (v := .int (RoadKit.nar .byte v)) (fits_nar_byte v)
  obtain ⟨T', h', X', e', Wr', stp⟩ := stB X S.1 hZ eT A h1 (g := mkF x.m pc Ls (.int v :: .int (Int32.ofNat i) :: .ref a :: st)) rfl rfl (S.2.1 ▸ hd)
  exact (K T' h' (Wk.wrote Wr' hB hz hw S X' e' hS hk hZ hown hI hFr hK hM hN) (Keep.of_wr Wr') (h2 h' Wr')).from stp
theorem g_lastore (X : Wk nw l Z EL own bytes maxL ret mnm R h0 B0 ws Q x T h B k n) (hd : Dc bytes pc .lastore 1 pc') {a : Addr} {vs : List Value} (A : Ay Z h a .long vs) {j : Int32} (i : Nat) (hj : j = Int32.ofNat i) {v : Int64} (v' : Int64) (hv : v = v') (hi : i < vs.length) (hB : ¬ B a) (hz : Z.heap.size ≤ a) (hw : a ∈ ws ∨ h0.size ≤ a)
    (K : ∀ T' h', Wk nw l Z EL own bytes maxL ret mnm R h0 B0 ws Q x T' h' B k n → Keep h h' [a] → Ay Z h' a .long (vs.set i (.long v')) → Go x (T'.setTop (mkF x.m pc' Ls st))) : Go x (T.setTop (mkF x.m pc Ls (.long v :: .int j :: .ref a :: st))) := by
  subst hj hv
  obtain ⟨S, vm0, k0, locs, X, eT, hS, hk, hZ, hown, hI, hFr, hK, hM, hN⟩ := X
  obtain ⟨hd, rfl⟩ := hd
  obtain ⟨c, A, h1, h2⟩ := A.set hi (v := .long v) rfl
  obtain ⟨T', h', X', e', Wr', stp⟩ := stJ X S.1 hZ eT A h1 (g := mkF x.m pc Ls (.long v :: .int (Int32.ofNat i) :: .ref a :: st)) rfl rfl (S.2.1 ▸ hd)
  exact (K T' h' (Wk.wrote Wr' hB hz hw S X' e' hS hk hZ hown hI hFr hK hM hN) (Keep.of_wr Wr') (h2 h' Wr')).from stp
end Heap
/-! own kit, part 4: calls, constants, casts -/
/-- pure: the value r, the heap as it was -/
def PQ (r : Option Value) (h0 : Heap) (B0 : BP) : QT := fun v h B => v = r ∧ h = h0 ∧ B = B0
theorem k_ws1 {B : BP} {Z : State} {ws : List Addr} {h0 : Heap} {a : Addr} (q : ¬ B a ∧ Z.heap.size ≤ a ∧ (a ∈ ws ∨ h0.size ≤ a)) : ∀ z ∈ [a], ¬ B z ∧ Z.heap.size ≤ z ∧ (z ∈ ws ∨ h0.size ≤ z) := fun z hz => by cases List.mem_singleton.mp hz; exact q
theorem k_narref (t : FieldType) {v : Value} (h : v.isRef = true) : narrow t v = v := by
  rcases ref_cases h with rfl | ⟨a, rfl⟩ <;> cases t <;> rfl
theorem k_fitref {t : FieldType} {v : Value} (ht : refKind t = true) (h : v.isRef = true) : fits t v = true := by
  rcases ref_cases h with rfl | ⟨a, rfl⟩ <;> cases t <;> first | rfl | cases ht
theorem k_top {x : Cx} {T : State} {pc : Nat} {Ls : Array Slot} {st : List Value} {v v' : Value} (e : v = v') (G : Go x (T.setTop (mkF x.m pc Ls (v' :: st)))) : Go x (T.setTop (mkF x.m pc Ls (v :: st))) := by subst e; exact G
section Calls
variable {nw : Bool} {l : Launch} {Z : State} {EL : List (String × Nat)} {own : String} {bytes : ByteArray} {maxL : Nat} {ret : Option FieldType} {mnm : String} {R : Room} {h0 : Heap} {B0 : BP} {ws : List Addr} {Q : QT} {x : Cx} {T : State} {h : Heap} {B : BP} {k n : Nat} {a0 : Array Value} {pc pc' : Nat} {Ls : Array Slot} {st : List Value}
/-- a callee's promise, as the library's calls take it -/
theorem conBack {p : Program} {e : Env} {below : List Frame} {s : State} {args : Array Value} {vm0 : Vm} {len W : Nat} {y : MethodName} {bytes' : ByteArray} {maxL' : Nat} {ret' : Option FieldType} {rm : Room} {as : Array Value} {ws' : List Addr} {Q' : QT}
    (C : Con nw l Z EL y bytes' maxL' ret' [] rm as h B ws' Q') (hZ : Z.Warmed39 vm0) (wc : (Cond.code y bytes' maxL' ret').before a0 Z = true) (wz : (Cond.initialized y.cls).before a0 Z = true) (hf : rm.frames + 1 ≤ R.frames) (hl : W + (maxL' + 11) + rm.locals ≤ R.locals) (hI : k_inv Z EL B vm0 h) :
    BackS l R p e below (s.setVm vm0) args y len W (fun A a => a = as ∧ A.U.heap = h ∧ A.cells + rm.cells ≤ R.cells ∧ A.slots + rm.slots ≤ R.slots)
      (fun A _ v D => ∃ L B', Q' v D.U.heap B' ∧ Keep h D.U.heap ws' ∧ k_more B B' h.size ∧ Fr Z.heap.size L ∧ D.locs = A.locs ++ L ∧ D.cells = A.cells + rm.cells ∧ D.slots = A.slots + rm.slots ∧ k_inv Z EL B' D.U.vm D.U.heap ∧ (nw = true → (s.setVm vm0).WarmedH D.U.vm)) :=
  BackS.of_freeW (bytes := bytes') (maxL := maxL') (ret := ret')
    (E := fun _ first o t L k n => k = rm.cells ∧ n = rm.slots ∧ ∃ v B', o = .returned v ∧ Q' v t.heap B' ∧ Keep h t.heap ws' ∧ k_more B B' h.size ∧ Fr Z.heap.size L ∧ k_inv Z EL B' t.vm t.heap ∧ (nw = true → first.WarmedH t.vm)) C hf hl
    (fun m meth c A a Y hp => have hU : Z.Warmed39 A.U.vm := wtrans (s := s.setVm vm0) hZ Y.warmed
      ⟨by show (Cond.and _ .tt).before a A.U = true; rw [Cond.before_and, mv hU wc]; rfl, mv hU wc, mv hU wz, hp.2.2.1, hp.2.2.2⟩)
    (fun m meth c A a g mk Y hp => ⟨hp.1, wtrans (s := s.setVm vm0) hZ Y.warmed, hp.2.1, (have q := hI.vmT Y hZ; q)⟩) (fun _ _ _ _ _ _ _ _ _ => trivial)
    (fun _ _ _ _ ⟨v, L, B', q1, q2, q3, q4, q5, q6, q7⟩ => ⟨L, _, _, q7.1, rfl, rfl, v, B', q1, q2, q3, q4, q5, q6, q7.2⟩)
    (fun m meth c A a g mk v t L k n Y hp _ _ ⟨e1, e2, v', B', q1, q2, q3, q4, q5, q6, q7⟩ => by
      cases q1; subst e1 e2
      exact ⟨L, B', q2, q3, q4, q5, rfl, rfl, rfl, q6, fun r => State.WarmedH.trans Y.warmed (q7 r)⟩)
theorem Wk.called {T' : State} {h' : Heap} {B' : BP} {vm0 vm1 : Vm} {k0 k' n' : Nat} {locs L : List Loc} {ws' : List Addr} (hK' : Keep h h' ws') (hws : ∀ z ∈ ws', ¬ B z ∧ Z.heap.size ≤ z ∧ (z ∈ ws ∨ h0.size ≤ z)) (hM' : k_more B B' h.size) (hFr' : Fr Z.heap.size L) (hI' : k_inv Z EL B' vm1 h')
    (S : x.p.tables.exec = Jvm.exec ∧ x.c.code = bytes ∧ x.c.maxLocals = maxL ∧ x.meth.sig.returnType = ret ∧ x.meth.locks = false ∧ x.meth.name = mnm ∧ x.F = ConQ nw Z EL R h0 B0 ws Q x.s)
    (X' : Stand x.p l x.e R ((x.s.setVm vm0).setVm vm1) x.m x.args x.below x.meth x.c T' (locs ++ L) k' n') (e' : T'.heap = h') (hS : x.s.Since vm0 k0) (hk : k0 ≤ h.size) (hS' : (x.s.setVm vm0).Since vm1 h'.size) (hZ : Z.Warmed39 vm0) (hown : vm0.findClass own = some x.m.cls)
    (hFr : Fr Z.heap.size locs) (hK : Keep h0 h ws) (hM : k_more B0 B h0.size) (hN : nw = true → x.s.WarmedH vm0) (hN' : nw = true → (x.s.setVm vm0).WarmedH vm1) : Wk nw l Z EL own bytes maxL ret mnm R h0 B0 ws Q x T' h' B' k' n' := by
  obtain ⟨q1, q2, q3, q4⟩ := rebS (Z := Z) (own := own) hS hk X' hS' hK'.1 hZ hown
  exact ⟨S, vm1, h'.size, _, q1, e', q2, Nat.le_refl _, q3, q4, hI', hFr.app hFr', hK.trans hK' fun z hz => (hws z hz).2.2, hM.trans hM' hK.1, fun r => State.WarmedH.trans (t := x.s.setVm vm0) (hN r) (hN' r)⟩
abbrev noHandle (y : MethodName) : Prop := y.cls ≠ "java/lang/invoke/MethodHandle" ∧ y.cls ≠ "java/lang/invoke/VarHandle"
theorem g_callS (X : Wk nw l Z EL own bytes maxL ret mnm R h0 B0 ws Q x T h B k n) {y : MethodName} {idx : Nat} {bytes' : ByteArray} {maxL' : Nat} {ret' : Option FieldType} {rm : Room} {ws' : List Addr} {Q' : QT} {ps : List FieldType} {rt : Option FieldType} (hd : Dc bytes pc (.invokestatic idx) 3 pc')
    (w1 : (Cond.methodLink own idx y).before a0 Z = true) (w2 : (Cond.static y).before a0 Z = true) (w3 : (Cond.initialized y.cls).before a0 Z = true) (w4 : (Cond.code y bytes' maxL' ret').before a0 Z = true) (hy : noHandle y) (hpd : parseMethodDescriptor y.desc = some ⟨ps, rt⟩)
    (argsL rest : List Value) (W : Nat) (C : Con nw l Z EL y bytes' maxL' ret' [] rm argsL.toArray h B ws' Q') (hlen : argsL.length = ps.length) (hst : st = argsL.reverse ++ rest) (hsz : Ls.size = maxL) (hW : (rest.map fun v => v.category).sum ≤ W) (hf : rm.frames + 1 ≤ R.frames) (hl : W + (maxL' + 11) + rm.locals ≤ R.locals) (k' n' : Nat) (ek : k + rm.cells = k') (en : n + rm.slots = n') (hc : k' ≤ R.cells) (hs : n' ≤ R.slots)
    (hws : ∀ z ∈ ws', ¬ B z ∧ Z.heap.size ≤ z ∧ (z ∈ ws ∨ h0.size ≤ z))
    (K : ∀ v T' h' B', Wk nw l Z EL own bytes maxL ret mnm R h0 B0 ws Q x T' h' B' k' n' → Keep h h' ws' → k_more B B' h.size → Q' v h' B' → Go x (T'.setTop (mkF x.m pc' Ls (v.toList ++ rest)))) : Go x (T.setTop (mkF x.m pc Ls st)) := by
  subst ek en
  obtain ⟨S, vm0, k0, locs, X, eT, hS, hk, hZ, hown, hI, hFr, hK, hM, hN⟩ := X
  obtain ⟨hd, rfl⟩ := hd
  obtain ⟨v, vm₁, ⟨T', L', k'', n''⟩, -, X', hS', hgr, ⟨L, B', q1, q2, q3, q4, e1, e2, e3, q5, q6⟩, stp⟩ := callSS X S.1 hown (mvT (s := x.s.setVm vm0) hZ w1) (mvT (s := x.s.setVm vm0) hZ w2) (mvT (s := x.s.setVm vm0) hZ w3) (mvT (s := x.s.setVm vm0) hZ w4) hy (conBack (W := W) C hZ w4 w3 hf hl hI) (g := mkF x.m pc Ls st) rfl (by rw [S.2.2.1]; exact hsz) (lenOf hpd hlen) hst (by show 2 * 0 + _ ≤ _; omega) (S.2.1 ▸ hd) (fun _ _ => ⟨rfl, eT, hc, hs⟩)
  dsimp only [Pt.U, Pt.locs, Pt.cells, Pt.slots] at X' hS' hgr q1 q2 q5 q6 e1 e2 e3 stp
  subst e1 e2 e3
  exact (K v T' _ B' (Wk.called q2 hws q3 q4 q5 S X' rfl hS hk hS' hZ hown hFr hK hM hN q6) q2 q3 q1).from fun t q => stp.trans q
theorem g_callI (X : Wk nw l Z EL own bytes maxL ret mnm R h0 B0 ws Q x T h B k n) {y : MethodName} {idx : Nat} {bytes' : ByteArray} {maxL' : Nat} {rm : Room} {ws' : List Addr} {Q' : QT} {ps : List FieldType} {rt : Option FieldType} (hd : Dc bytes pc (.invokespecial idx) 3 pc')
    (w1 : (Cond.methodLink own idx y).before a0 Z = true) (w2 : (Cond.instanceMethod y).before a0 Z = true) (w3 : (Cond.initialized y.cls).before a0 Z = true) (w4 : (Cond.code y bytes' maxL' none).before a0 Z = true) (hn : y.name = "<init>") (hy : noHandle y) (hpd : parseMethodDescriptor y.desc = some ⟨ps, rt⟩)
    (a : Addr) (argsL rest : List Value) (W : Nat) (C : Con nw l Z EL y bytes' maxL' none [] rm (.ref a :: argsL).toArray h B ws' Q') (hlen : argsL.length = ps.length) (hst : st = argsL.reverse ++ .ref a :: rest) (hsz : Ls.size = maxL) (hW : (rest.map fun v => v.category).sum ≤ W) (hf : rm.frames + 1 ≤ R.frames) (hl : W + (maxL' + 11) + rm.locals ≤ R.locals) (k' n' : Nat) (ek : k + rm.cells = k') (en : n + rm.slots = n') (hc : k' ≤ R.cells) (hs : n' ≤ R.slots)
    (hws : ∀ z ∈ ws', ¬ B z ∧ Z.heap.size ≤ z ∧ (z ∈ ws ∨ h0.size ≤ z))
    (K : ∀ v T' h' B', Wk nw l Z EL own bytes maxL ret mnm R h0 B0 ws Q x T' h' B' k' n' → Keep h h' ws' → k_more B B' h.size → Q' v h' B' → Go x (T'.setTop (mkF x.m pc' Ls (v.toList ++ rest)))) : Go x (T.setTop (mkF x.m pc Ls st)) := by
  subst ek en
  obtain ⟨S, vm0, k0, locs, X, eT, hS, hk, hZ, hown, hI, hFr, hK, hM, hN⟩ := X
  obtain ⟨hd, rfl⟩ := hd
  obtain ⟨v, vm₁, ⟨T', L', k'', n''⟩, -, X', hS', hgr, ⟨L, B', q1, q2, q3, q4, e1, e2, e3, q5, q6⟩, stp⟩ := X.specialBackS S.1 hn hown (mvT (s := x.s.setVm vm0) hZ w1) (mvT (s := x.s.setVm vm0) hZ w2) (mvT (s := x.s.setVm vm0) hZ w4) hy (conBack (W := W) C hZ w4 w3 hf hl hI) (g := mkF x.m pc Ls st) rfl (by rw [S.2.2.1]; exact hsz) (Steps.refl _) (lenOf hpd hlen) hst (by show 2 * 0 + _ ≤ _; omega) (S.2.1 ▸ hd) (fun _ _ => ⟨rfl, eT, hc, hs⟩)
  dsimp only [Pt.U, Pt.locs, Pt.cells, Pt.slots] at X' hS' hgr q1 q2 q5 q6 e1 e2 e3 stp
  subst e1 e2 e3
  exact (K v T' _ B' (Wk.called q2 hws q3 q4 q5 S X' rfl hS hk hS' hZ hown hFr hK hM hN q6) q2 q3 q1).from fun t q => stp.trans q
theorem g_callN (X : Wk nw l Z EL own bytes maxL ret mnm R h0 B0 ws Q x T h B k n) {host : String} {y : MethodName} {idx : Nat} {bytes' : ByteArray} {maxL' : Nat} {rm : Room} {ws' : List Addr} {Q' : QT} {ps : List FieldType} {rt : Option FieldType} (hd : Dc bytes pc (.invokespecial idx) 3 pc')
    (w1 : (Cond.methodLinkNest own idx y host).before a0 Z = true) (w2 : (Cond.instanceMethod y).before a0 Z = true) (w3 : (Cond.initialized y.cls).before a0 Z = true) (w4 : (Cond.code y bytes' maxL' none).before a0 Z = true) (hn : y.name = "<init>") (hy : noHandle y) (hpd : parseMethodDescriptor y.desc = some ⟨ps, rt⟩)
    (a : Addr) (argsL rest : List Value) (W : Nat) (C : Con nw l Z EL y bytes' maxL' none [] rm (.ref a :: argsL).toArray h B ws' Q') (hlen : argsL.length = ps.length) (hst : st = argsL.reverse ++ .ref a :: rest) (hsz : Ls.size = maxL) (hW : (rest.map fun v => v.category).sum ≤ W) (hf : rm.frames + 1 ≤ R.frames) (hl : W + (maxL' + 11) + rm.locals ≤ R.locals) (k' n' : Nat) (ek : k + rm.cells = k') (en : n + rm.slots = n') (hc : k' ≤ R.cells) (hs : n' ≤ R.slots)
    (hws : ∀ z ∈ ws', ¬ B z ∧ Z.heap.size ≤ z ∧ (z ∈ ws ∨ h0.size ≤ z))
    (K : ∀ v T' h' B', Wk nw l Z EL own bytes maxL ret mnm R h0 B0 ws Q x T' h' B' k' n' → Keep h h' ws' → k_more B B' h.size → Q' v h' B' → Go x (T'.setTop (mkF x.m pc' Ls (v.toList ++ rest)))) : Go x (T.setTop (mkF x.m pc Ls st)) := by
  subst ek en
  obtain ⟨S, vm0, k0, locs, X, eT, hS, hk, hZ, hown, hI, hFr, hK, hM, hN⟩ := X
  obtain ⟨hd, rfl⟩ := hd
  obtain ⟨v, vm₁, ⟨T', L', k'', n''⟩, -, X', hS', hgr, ⟨L, B', q1, q2, q3, q4, e1, e2, e3, q5, q6⟩, stp⟩ := X.specialBackNestS S.1 hn hown (Cond.methodLinkNest_wide hZ w1 :) (mvT (s := x.s.setVm vm0) hZ w2) (mvT (s := x.s.setVm vm0) hZ w4) hy (conBack (W := W) C hZ w4 w3 hf hl hI) (g := mkF x.m pc Ls st) rfl (by rw [S.2.2.1]; exact hsz) (Steps.refl _) (lenOf hpd hlen) hst (by show 2 * 0 + _ ≤ _; omega) (S.2.1 ▸ hd) (fun _ _ => ⟨rfl, eT, hc, hs⟩)
  dsimp only [Pt.U, Pt.locs, Pt.cells, Pt.slots] at X' hS' hgr q1 q2 q5 q6 e1 e2 e3 stp
  subst e1 e2 e3
  exact (K v T' _ B' (Wk.called q2 hws q3 q4 q5 S X' rfl hS hk hS' hZ hown hFr hK hM hN q6) q2 q3 q1).from fun t q => stp.trans q
theorem g_callV (X : Wk nw l Z EL own bytes maxL ret mnm R h0 B0 ws Q x T h B k n) {D : String} {y : MethodName} {idx : Nat} {bytes' : ByteArray} {maxL' : Nat} {ret' : Option FieldType} {rm : Room} {ws' : List Addr} {Q' : QT} {ps : List FieldType} {rt : Option FieldType} (hd : Dc bytes pc (.invokevirtual idx) 3 pc')
    (w1 : (Cond.methodLink own idx y).before a0 Z = true) (w2 : (Cond.declares y).before a0 Z = true) (w3 : (Cond.selects D y y).before a0 Z = true) (w4 : (Cond.instanceMethod y).before a0 Z = true) (w5 : (Cond.initialized y.cls).before a0 Z = true) (w6 : (Cond.code y bytes' maxL' ret').before a0 Z = true) (hy : noHandle y) (hpd : parseMethodDescriptor y.desc = some ⟨ps, rt⟩)
    (a : Addr) (argsL rest : List Value) (W : Nat) (E : Exa Z h a D) (C : Con nw l Z EL y bytes' maxL' ret' [] rm (.ref a :: argsL).toArray h B ws' Q') (hlen : argsL.length = ps.length) (hst : st = argsL.reverse ++ .ref a :: rest) (hsz : Ls.size = maxL) (hW : (rest.map fun v => v.category).sum ≤ W) (hf : rm.frames + 1 ≤ R.frames) (hl : W + (maxL' + 11) + rm.locals ≤ R.locals) (k' n' : Nat) (ek : k + rm.cells = k') (en : n + rm.slots = n') (hc : k' ≤ R.cells) (hs : n' ≤ R.slots)
    (hws : ∀ z ∈ ws', ¬ B z ∧ Z.heap.size ≤ z ∧ (z ∈ ws ∨ h0.size ≤ z))
    (K : ∀ v T' h' B', Wk nw l Z EL own bytes maxL ret mnm R h0 B0 ws Q x T' h' B' k' n' → Keep h h' ws' → k_more B B' h.size → Q' v h' B' → Go x (T'.setTop (mkF x.m pc' Ls (v.toList ++ rest)))) : Go x (T.setTop (mkF x.m pc Ls st)) := by
  subst ek en
  obtain ⟨S, vm0, k0, locs, X, eT, hS, hk, hZ, hown, hI, hFr, hK, hM, hN⟩ := X
  obtain ⟨hd, rfl⟩ := hd
  obtain ⟨cq, kq, qa, qb, qc⟩ := isOf (s := x.s.setVm vm0) hZ eT E
  obtain ⟨v, vm₁, ⟨T', L', k'', n''⟩, -, X', hS', hgr, ⟨L, B', q1, q2, q3, q4, e1, e2, e3, q5, q6⟩, stp⟩ := X.virtualBackS S.1 (y := y) (z := y) hown (mvT (s := x.s.setVm vm0) hZ w1) (mvT (s := x.s.setVm vm0) hZ w2) (notFace_of_selects (args := #[]) (mvT (s := x.s.setVm vm0) hZ w3)) (mvT (s := x.s.setVm vm0) hZ w3) (mvT (s := x.s.setVm vm0) hZ w4) hy (conBack (W := W) C hZ w6 w5 hf hl hI) qa qc (g := mkF x.m pc Ls st) rfl (by rw [S.2.2.1]; exact hsz) (Steps.refl _) (lenOf hpd hlen) hst (by show 2 * 0 + _ ≤ _; omega) (S.2.1 ▸ hd) (fun _ _ => ⟨rfl, eT, hc, hs⟩)
  dsimp only [Pt.U, Pt.locs, Pt.cells, Pt.slots] at X' hS' hgr q1 q2 q5 q6 e1 e2 e3 stp
  subst e1 e2 e3
  exact (K v T' _ B' (Wk.called q2 hws q3 q4 q5 S X' rfl hS hk hS' hZ hown hFr hK hM hN q6) q2 q3 q1).from fun t q => stp.trans q
theorem g_callSp (X : Wk nw l Z EL own bytes maxL ret mnm R h0 B0 ws Q x T h B k n) {y : MethodName} {idx : Nat} {bytes' : ByteArray} {maxL' : Nat} {ret' : Option FieldType} {rm : Room} {v : Value} {ps : List FieldType} {rt : Option FieldType} (hd : Dc bytes pc (.invokestatic idx) 3 pc')
    (w1 : (Cond.methodLink own idx y).before a0 Z = true) (w2 : (Cond.static y).before a0 Z = true) (w3 : (Cond.initialized y.cls).before a0 Z = true) (w4 : (Cond.code y bytes' maxL' ret').before a0 Z = true) (hy : noHandle y) (hpd : parseMethodDescriptor y.desc = some ⟨ps, rt⟩)
    (argsL rest : List Value) (W : Nat) (C : Con nw l Z EL y bytes' maxL' ret' [] rm argsL.toArray h B [] (PQ (some v) h B)) (hlen : argsL.length = ps.length) (hst : st = argsL.reverse ++ rest) (hsz : Ls.size = maxL) (hW : (rest.map fun v => v.category).sum ≤ W) (hf : rm.frames + 1 ≤ R.frames) (hl : W + (maxL' + 11) + rm.locals ≤ R.locals) (k' n' : Nat) (ek : k + rm.cells = k') (en : n + rm.slots = n') (hc : k' ≤ R.cells) (hs : n' ≤ R.slots)
    (K : ∀ T', Wk nw l Z EL own bytes maxL ret mnm R h0 B0 ws Q x T' h B k' n' → Go x (T'.setTop (mkF x.m pc' Ls (v :: rest)))) : Go x (T.setTop (mkF x.m pc Ls st)) :=
  g_callS X hd w1 w2 w3 w4 hy hpd argsL rest W C hlen hst hsz hW hf hl k' n' ek en hc hs (fun _ q => nomatch q) fun _ T' _ _ X' _ _ ⟨e1, e2, e3⟩ => by subst e1 e2 e3; exact K T' X'
theorem g_callSp0 (X : Wk nw l Z EL own bytes maxL ret mnm R h0 B0 ws Q x T h B k n) {y : MethodName} {idx : Nat} {bytes' : ByteArray} {maxL' : Nat} {ret' : Option FieldType} {rm : Room} {ps : List FieldType} {rt : Option FieldType} (hd : Dc bytes pc (.invokestatic idx) 3 pc')
    (w1 : (Cond.methodLink own idx y).before a0 Z = true) (w2 : (Cond.static y).before a0 Z = true) (w3 : (Cond.initialized y.cls).before a0 Z = true) (w4 : (Cond.code y bytes' maxL' ret').before a0 Z = true) (hy : noHandle y) (hpd : parseMethodDescriptor y.desc = some ⟨ps, rt⟩)
    (argsL rest : List Value) (W : Nat) (C : Con nw l Z EL y bytes' maxL' ret' [] rm argsL.toArray h B [] (PQ none h B)) (hlen : argsL.length = ps.length) (hst : st = argsL.reverse ++ rest) (hsz : Ls.size = maxL) (hW : (rest.map fun v => v.category).sum ≤ W) (hf : rm.frames + 1 ≤ R.frames) (hl : W + (maxL' + 11) + rm.locals ≤ R.locals) (k' n' : Nat) (ek : k + rm.cells = k') (en : n + rm.slots = n') (hc : k' ≤ R.cells) (hs : n' ≤ R.slots)
    (K : ∀ T', Wk nw l Z EL own bytes maxL ret mnm R h0 B0 ws Q x T' h B k' n' → Go x (T'.setTop (mkF x.m pc' Ls rest))) : Go x (T.setTop (mkF x.m pc Ls st)) :=
  g_callS X hd w1 w2 w3 w4 hy hpd argsL rest W C hlen hst hsz hW hf hl k' n' ek en hc hs (fun _ q => nomatch q) fun _ T' _ _ X' _ _ ⟨e1, e2, e3⟩ => by subst e1 e2 e3; exact K T' X'
theorem g_callVp (X : Wk nw l Z EL own bytes maxL ret mnm R h0 B0 ws Q x T h B k n) {D : String} {y : MethodName} {idx : Nat} {bytes' : ByteArray} {maxL' : Nat} {ret' : Option FieldType} {rm : Room} {v : Value} {ps : List FieldType} {rt : Option FieldType} (hd : Dc bytes pc (.invokevirtual idx) 3 pc')
    (w1 : (Cond.methodLink own idx y).before a0 Z = true) (w2 : (Cond.declares y).before a0 Z = true) (w3 : (Cond.selects D y y).before a0 Z = true) (w4 : (Cond.instanceMethod y).before a0 Z = true) (w5 : (Cond.initialized y.cls).before a0 Z = true) (w6 : (Cond.code y bytes' maxL' ret').before a0 Z = true) (hy : noHandle y) (hpd : parseMethodDescriptor y.desc = some ⟨ps, rt⟩)
    (a : Addr) (argsL rest : List Value) (W : Nat) (E : Exa Z h a D) (C : Con nw l Z EL y bytes' maxL' ret' [] rm (.ref a :: argsL).toArray h B [] (PQ (some v) h B)) (hlen : argsL.length = ps.length) (hst : st = argsL.reverse ++ .ref a :: rest) (hsz : Ls.size = maxL) (hW : (rest.map fun v => v.category).sum ≤ W) (hf : rm.frames + 1 ≤ R.frames) (hl : W + (maxL' + 11) + rm.locals ≤ R.locals) (k' n' : Nat) (ek : k + rm.cells = k') (en : n + rm.slots = n') (hc : k' ≤ R.cells) (hs : n' ≤ R.slots)
    (K : ∀ T', Wk nw l Z EL own bytes maxL ret mnm R h0 B0 ws Q x T' h B k' n' → Go x (T'.setTop (mkF x.m pc' Ls (v :: rest)))) : Go x (T.setTop (mkF x.m pc Ls st)) :=
  g_callV X hd w1 w2 w3 w4 w5 w6 hy hpd a argsL rest W E C hlen hst hsz hW hf hl k' n' ek en hc hs (fun _ q => nomatch q) fun _ T' _ _ X' _ _ ⟨e1, e2, e3⟩ => by subst e1 e2 e3; exact K T' X'
theorem g_callVp0 (X : Wk nw l Z EL own bytes maxL ret mnm R h0 B0 ws Q x T h B k n) {D : String} {y : MethodName} {idx : Nat} {bytes' : ByteArray} {maxL' : Nat} {ret' : Option FieldType} {rm : Room} {ps : List FieldType} {rt : Option FieldType} (hd : Dc bytes pc (.invokevirtual idx) 3 pc')
    (w1 : (Cond.methodLink own idx y).before a0 Z = true) (w2 : (Cond.declares y).before a0 Z = true) (w3 : (Cond.selects D y y).before a0 Z = true) (w4 : (Cond.instanceMethod y).before a0 Z = true) (w5 : (Cond.initialized y.cls).before a0 Z = true) (w6 : (Cond.code y bytes' maxL' ret').before a0 Z = true) (hy : noHandle y) (hpd : parseMethodDescriptor y.desc = some ⟨ps, rt⟩)
    (a : Addr) (argsL rest : List Value) (W : Nat) (E : Exa Z h a D) (C : Con nw l Z EL y bytes' maxL' ret' [] rm (.ref a :: argsL).toArray h B [] (PQ none h B)) (hlen : argsL.length = ps.length) (hst : st = argsL.reverse ++ .ref a :: rest) (hsz : Ls.size = maxL) (hW : (rest.map fun v => v.category).sum ≤ W) (hf : rm.frames + 1 ≤ R.frames) (hl : W + (maxL' + 11) + rm.locals ≤ R.locals) (k' n' : Nat) (ek : k + rm.cells = k') (en : n + rm.slots = n') (hc : k' ≤ R.cells) (hs : n' ≤ R.slots)
    (K : ∀ T', Wk nw l Z EL own bytes maxL ret mnm R h0 B0 ws Q x T' h B k' n' → Go x (T'.setTop (mkF x.m pc' Ls rest))) : Go x (T.setTop (mkF x.m pc Ls st)) :=
  g_callV X hd w1 w2 w3 w4 w5 w6 hy hpd a argsL rest W E C hlen hst hsz hW hf hl k' n' ek en hc hs (fun _ q => nomatch q) fun _ T' _ _ X' _ _ ⟨e1, e2, e3⟩ => by subst e1 e2 e3; exact K T' X'
theorem g_callIp0 (X : Wk nw l Z EL own bytes maxL ret mnm R h0 B0 ws Q x T h B k n) {y : MethodName} {idx : Nat} {bytes' : ByteArray} {maxL' : Nat} {rm : Room} {ps : List FieldType} {rt : Option FieldType} (hd : Dc bytes pc (.invokespecial idx) 3 pc')
    (w1 : (Cond.methodLink own idx y).before a0 Z = true) (w2 : (Cond.instanceMethod y).before a0 Z = true) (w3 : (Cond.initialized y.cls).before a0 Z = true) (w4 : (Cond.code y bytes' maxL' none).before a0 Z = true) (hn : y.name = "<init>") (hy : noHandle y) (hpd : parseMethodDescriptor y.desc = some ⟨ps, rt⟩)
    (a : Addr) (argsL rest : List Value) (W : Nat) (C : Con nw l Z EL y bytes' maxL' none [] rm (.ref a :: argsL).toArray h B [] (PQ none h B)) (hlen : argsL.length = ps.length) (hst : st = argsL.reverse ++ .ref a :: rest) (hsz : Ls.size = maxL) (hW : (rest.map fun v => v.category).sum ≤ W) (hf : rm.frames + 1 ≤ R.frames) (hl : W + (maxL' + 11) + rm.locals ≤ R.locals) (k' n' : Nat) (ek : k + rm.cells = k') (en : n + rm.slots = n') (hc : k' ≤ R.cells) (hs : n' ≤ R.slots)
    (K : ∀ T', Wk nw l Z EL own bytes maxL ret mnm R h0 B0 ws Q x T' h B k' n' → Go x (T'.setTop (mkF x.m pc' Ls rest))) : Go x (T.setTop (mkF x.m pc Ls st)) :=
  g_callI X hd w1 w2 w3 w4 hn hy hpd a argsL rest W C hlen hst hsz hW hf hl k' n' ek en hc hs (fun _ q => nomatch q) fun _ T' _ _ X' _ _ ⟨e1, e2, e3⟩ => by subst e1 e2 e3; exact K T' X'
theorem g_callF (X : Wk nw l Z EL own bytes maxL ret mnm R h0 B0 ws Q x T h B k n) {D : String} {y z : MethodName} {idx cnt : Nat} {bytes' : ByteArray} {maxL' : Nat} {ret' : Option FieldType} {rm : Room} {ws' : List Addr} {Q' : QT} {ps : List FieldType} {rt : Option FieldType} (hd : Dc bytes pc (.invokeinterface idx cnt) 5 pc')
    (w1 : (Cond.methodLink own idx y).before a0 Z = true) (w2 : (Cond.declares y).before a0 Z = true) (wa : (Cond.interfaceMethod y.cls y.cls y.name y.desc).before a0 Z = true) (wb : (Cond.publicMethod z).before a0 Z = true) (wc : (Cond.unhidden D y.name y.desc).before a0 Z = true) (wd : (Cond.castable D y.cls).before a0 Z = true) (w3 : (Cond.selects D y z).before a0 Z = true) (w4 : (Cond.instanceMethod z).before a0 Z = true) (w5 : (Cond.initialized z.cls).before a0 Z = true) (w6 : (Cond.code z bytes' maxL' ret').before a0 Z = true) (hy : noHandle y) (hpd : parseMethodDescriptor y.desc = some ⟨ps, rt⟩)
    (a : Addr) (argsL rest : List Value) (W : Nat) (E : Exa Z h a D) (C : Con nw l Z EL z bytes' maxL' ret' [] rm (.ref a :: argsL).toArray h B ws' Q') (hlen : argsL.length = ps.length) (hst : st = argsL.reverse ++ .ref a :: rest) (hsz : Ls.size = maxL) (hW : (rest.map fun v => v.category).sum ≤ W) (hf : rm.frames + 1 ≤ R.frames) (hl : W + (maxL' + 11) + rm.locals ≤ R.locals) (k' n' : Nat) (ek : k + rm.cells = k') (en : n + rm.slots = n') (hc : k' ≤ R.cells) (hs : n' ≤ R.slots)
    (hws : ∀ z ∈ ws', ¬ B z ∧ Z.heap.size ≤ z ∧ (z ∈ ws ∨ h0.size ≤ z))
    (K : ∀ v T' h' B', Wk nw l Z EL own bytes maxL ret mnm R h0 B0 ws Q x T' h' B' k' n' → Keep h h' ws' → k_more B B' h.size → Q' v h' B' → Go x (T'.setTop (mkF x.m pc' Ls (v.toList ++ rest)))) : Go x (T.setTop (mkF x.m pc Ls st)) := by
  subst ek en
  obtain ⟨S, vm0, k0, locs, X, eT, hS, hk, hZ, hown, hI, hFr, hK, hM, hN⟩ := X
  obtain ⟨hd, rfl⟩ := hd
  obtain ⟨cq, kq, qa, qb, qc⟩ := isOf (s := x.s.setVm vm0) hZ eT E
  obtain ⟨v, vm₁, ⟨T', L', k'', n''⟩, -, X', hS', hgr, ⟨L, B', q1, q2, q3, q4, e1, e2, e3, q5, q6⟩, stp⟩ := X.interfaceBackS S.1 (xi := y) (y := z) hown (mvT (s := x.s.setVm vm0) hZ w1) (mvT (s := x.s.setVm vm0) hZ w2) (mvT (s := x.s.setVm vm0) hZ wa (by simp [Cond.onTables, Cond.keepsFace, Cond.keeps, Cond.faceAtom, hy.1, hy.2])) (mvT (s := x.s.setVm vm0) hZ w3) (mvT (s := x.s.setVm vm0) hZ w4) (mvT (s := x.s.setVm vm0) hZ wb) (mvT (s := x.s.setVm vm0) hZ wc) (mvT (s := x.s.setVm vm0) hZ wd) hy (conBack (W := W) C hZ w6 w5 hf hl hI) qa qb qc (g := mkF x.m pc Ls st) rfl (by rw [S.2.2.1]; exact hsz) (Steps.refl _) (lenOf hpd hlen) hst (by show 2 * 0 + _ ≤ _; omega) (S.2.1 ▸ hd) (fun _ _ => ⟨rfl, eT, hc, hs⟩)
  dsimp only [Pt.U, Pt.locs, Pt.cells, Pt.slots] at X' hS' hgr q1 q2 q5 q6 e1 e2 e3 stp
  subst e1 e2 e3
  exact (K v T' _ B' (Wk.called q2 hws q3 q4 q5 S X' rfl hS hk hS' hZ hown hFr hK hM hN q6) q2 q3 q1).from fun t q => stp.trans q
theorem g_callFp (X : Wk nw l Z EL own bytes maxL ret mnm R h0 B0 ws Q x T h B k n) {D : String} {y z : MethodName} {idx cnt : Nat} {bytes' : ByteArray} {maxL' : Nat} {ret' : Option FieldType} {rm : Room} {v : Value} {ps : List FieldType} {rt : Option FieldType} (hd : Dc bytes pc (.invokeinterface idx cnt) 5 pc')
    (w1 : (Cond.methodLink own idx y).before a0 Z = true) (w2 : (Cond.declares y).before a0 Z = true) (wa : (Cond.interfaceMethod y.cls y.cls y.name y.desc).before a0 Z = true) (wb : (Cond.publicMethod z).before a0 Z = true) (wc : (Cond.unhidden D y.name y.desc).before a0 Z = true) (wd : (Cond.castable D y.cls).before a0 Z = true) (w3 : (Cond.selects D y z).before a0 Z = true) (w4 : (Cond.instanceMethod z).before a0 Z = true) (w5 : (Cond.initialized z.cls).before a0 Z = true) (w6 : (Cond.code z bytes' maxL' ret').before a0 Z = true) (hy : noHandle y) (hpd : parseMethodDescriptor y.desc = some ⟨ps, rt⟩)
    (a : Addr) (argsL rest : List Value) (W : Nat) (E : Exa Z h a D) (C : Con nw l Z EL z bytes' maxL' ret' [] rm (.ref a :: argsL).toArray h B [] (PQ (some v) h B)) (hlen : argsL.length = ps.length) (hst : st = argsL.reverse ++ .ref a :: rest) (hsz : Ls.size = maxL) (hW : (rest.map fun v => v.category).sum ≤ W) (hf : rm.frames + 1 ≤ R.frames) (hl : W + (maxL' + 11) + rm.locals ≤ R.locals) (k' n' : Nat) (ek : k + rm.cells = k') (en : n + rm.slots = n') (hc : k' ≤ R.cells) (hs : n' ≤ R.slots)
    (K : ∀ T', Wk nw l Z EL own bytes maxL ret mnm R h0 B0 ws Q x T' h B k' n' → Go x (T'.setTop (mkF x.m pc' Ls (v :: rest)))) : Go x (T.setTop (mkF x.m pc Ls st)) :=
  g_callF X hd w1 w2 wa wb wc wd w3 w4 w5 w6 hy hpd a argsL rest W E C hlen hst hsz hW hf hl k' n' ek en hc hs (fun _ q => nomatch q) fun _ T' _ _ X' _ _ ⟨e1, e2, e3⟩ => by subst e1 e2 e3; exact K T' X'
/-- Object.<init> -/
theorem g_init (X : Wk nw l Z EL own bytes maxL ret mnm R h0 B0 ws Q x T h B k n) {idx : Nat} {y : MethodName} {ob : ByteArray} (hd : Dc bytes pc (.invokespecial idx) 3 pc') (hy : y = Lib.objectInit) (hob : ob = ⟨#[0xb1]⟩) (w1 : (Cond.methodLink own idx y).before a0 Z = true) (w2 : (Cond.instanceMethod y).before a0 Z = true) (w3 : (Cond.code y ob 1 none).before a0 Z = true)
    (W : Nat) (hsz : Ls.size = maxL) (hf : 1 ≤ R.frames) {a : Addr} (hW : (st.map fun v => v.category).sum ≤ W) (hl : W + 12 ≤ R.locals)
    (K : ∀ T', Wk nw l Z EL own bytes maxL ret mnm R h0 B0 ws Q x T' h B k n → Go x (T'.setTop (mkF x.m pc' Ls st))) : Go x (T.setTop (mkF x.m pc Ls (.ref a :: st))) := by
  subst hy hob
  obtain ⟨S, vm0, k0, locs, X, eT, hS, hk, hZ, hown, r⟩ := X
  obtain ⟨hd, rfl⟩ := hd
  obtain ⟨T', X', e', stp⟩ := initO X S.1 hZ hown w1 w2 w3 eT (g := mkF x.m pc Ls (.ref a :: st)) rfl (by rw [S.2.2.1]; exact hsz) rfl (S.2.1 ▸ hd) hf (W := W) (by show 2 * 0 + _ ≤ _; omega) hl
  exact (K T' ⟨S, vm0, k0, locs, X', e', hS, hk, hZ, hown, r⟩).from stp
/-- a String constant, unread -/
theorem g_ldcO (X : Wk nw l Z EL own bytes maxL ret mnm R h0 B0 ws Q x T h B k n) {idx : Nat} {text : String} (hnw : nw = false) (hd : Dc bytes pc (.ldc idx) 2 pc') (w : (Cond.stringLink own idx text).before a0 Z = true) (wS : ∀ a ∈ Bundle.stringAtoms, a.before a0 Z = true) (cap : Nat) (hn : 4 * text.toList.length ≤ cap) (hbig : cap ≤ 536870912) (k' n' : Nat) (ek : k + 2 = k') (en : n + (cap + 4) = n') (hc : k' ≤ R.cells) (hs : n' ≤ R.slots)
    (K : ∀ T' h' B' a, Wk nw l Z EL own bytes maxL ret mnm R h0 B0 ws Q x T' h' B' k' n' → Ext h h' → k_more B B' h.size → Go x (T'.setTop (mkF x.m pc' Ls (.ref a :: st)))) : Go x (T.setTop (mkF x.m pc Ls st)) := by
  subst hnw ek en
  obtain ⟨S, vm0, k0, locs, X, eT, hS, hk, hZ, hown, ⟨i1, i2, i3, i4, b0, i5⟩, hFr, hK, hM, hN⟩ := X
  obtain ⟨hd, rfl⟩ := hd
  have w' : (Cond.stringLink own idx text).before b0 Z = true := w
  have wS' : ∀ a ∈ Bundle.stringAtoms, a.before b0 Z = true := fun d hd => by
    have q := wS d hd
    simp only [Bundle.stringAtoms, List.mem_cons, List.not_mem_nil, or_false] at hd
    rcases hd with rfl | rfl | rfl | rfl | rfl | rfl | rfl <;> exact q
  obtain ⟨a, T', h', k1, X', e', E, hS', hk', hZ', hown', hC, -, stp⟩ := ldcOH X S.1 hZ hown w' wS' eT hS hk i5 i1 (g := mkF x.m pc Ls st) rfl (S.2.1 ▸ hd) hn hbig hc hs
  have hM' : k_more B (fun y => B y ∨ Bk Z EL T'.vm h' y) h.size := by
    refine ⟨?_, fun y q => Or.inl q⟩
    rintro y (q | q)
    · exact Or.inl q
    · rcases hC.2.2 y q with r | r
      · exact Or.inl (i2 y r)
      · exact Or.inr r
  refine (K T' h' (fun y => B y ∨ Bk Z EL T'.vm h' y) a ⟨S, T'.vm, k1, locs, X', e', hS', hk', hZ', hown', ⟨hC.1, fun y q => Or.inr q, ?_, ⟨Nat.le_trans i4.1 E.1, fun b c q => E.2 _ _ (i4.2 b c q)⟩, b0, i5⟩, hFr, hK.ext E, hM.trans hM' hK.1, fun q => nomatch q⟩ E hM').from stp
  rintro y (q | q)
  · exact Nat.lt_of_lt_of_le (i3 y q) E.1
  · obtain ⟨cell, hc⟩ := Bk.there q; exact (Array.getElem?_eq_some_iff.mp hc).1
/-- a String constant of EL, read -/
theorem g_ldcC (X : Wk nw l Z EL own bytes maxL ret mnm R h0 B0 ws Q x T h B k n) {idx : Nat} {text : String} (hnw : nw = false) (hd : Dc bytes pc (.ldc idx) 2 pc') (w : (Cond.stringLink own idx text).before a0 Z = true) (wS : ∀ a ∈ Bundle.stringAtoms, a.before a0 Z = true) (hmem : (own, idx) ∈ EL) (bs : List Int32) (hlt : bs.length < 2 ^ 31) (ht : (∀ c ∈ text.toList, c.toNat < 256) ∧ text.toList.map (fun c => Value.int (Jvm.Lit.byteI c.toNat.toUInt16)) = bs.map Value.int) (cap : Nat) (hn : 4 * text.toList.length ≤ cap) (hbig : cap ≤ 536870912) (k' n' : Nat) (ek : k + 2 = k') (en : n + (cap + 4) = n') (hc : k' ≤ R.cells) (hs : n' ≤ R.slots)
    (K : ∀ T' h' B' a t, Wk nw l Z EL own bytes maxL ret mnm R h0 B0 ws Q x T' h' B' k' n' → Ext h h' → k_more B B' h.size → Exa Z h' a "java/lang/String" → Fld Z h' a "java/lang/String" "coder" "B" (.int 0) → Fld Z h' a "java/lang/String" "value" "[B" (.ref t) → Ay Z h' t .byte (bs.map Value.int) → a < h'.size → t < h'.size → (∀ z, ¬ B' z → z ≠ a ∧ z ≠ t) → Go x (T'.setTop (mkF x.m pc' Ls (.ref a :: st)))) : Go x (T.setTop (mkF x.m pc Ls st)) := by
  subst hnw ek en
  obtain ⟨S, vm0, k0, locs, X, eT, hS, hk, hZ, hown, ⟨i1, i2, i3, i4, b0, i5⟩, hFr, hK, hM, hN⟩ := X
  obtain ⟨hd, rfl⟩ := hd
  have w' : (Cond.stringLink own idx text).before b0 Z = true := w
  have wS' : ∀ a ∈ Bundle.stringAtoms, a.before b0 Z = true := fun d hd => by
    have q := wS d hd
    simp only [Bundle.stringAtoms, List.mem_cons, List.not_mem_nil, or_false] at hd
    rcases hd with rfl | rfl | rfl | rfl | rfl | rfl | rfl <;> exact q
  obtain ⟨z1, z2⟩ := i32_nat hlt
  obtain ⟨a, T', h', k1, t, kk, X', e', E, hS', hk', hZ', hown', p1, p2, p3, p4, p5, p6, hC, -, p7, stp⟩ := ldcCH X S.1 hZ hown w' wS' eT hS hk i5 hmem i1 (vs := bs.map Value.int) (z := Int32.ofNat bs.length) ht z2 (by rw [z1]; simp) (g := mkF x.m pc Ls st) rfl (S.2.1 ▸ hd) hn hbig hc hs
  have hM' : k_more B (fun y => B y ∨ Bk Z EL T'.vm h' y) h.size := by
    refine ⟨?_, fun y q => Or.inl q⟩
    rintro y (q | q)
    · exact Or.inl q
    · rcases hC.2.2 y q with r | r
      · exact Or.inl (i2 y r)
      · exact Or.inr r
  refine (K T' h' (fun y => B y ∨ Bk Z EL T'.vm h' y) a t ⟨S, T'.vm, k1, locs, X', e', hS', hk', hZ', hown', ⟨hC.1, fun y q => Or.inr q, ?_, ⟨Nat.le_trans i4.1 E.1, fun b c q => E.2 _ _ (i4.2 b c q)⟩, b0, i5⟩, hFr, hK.ext E, hM.trans hM' hK.1, fun q => nomatch q⟩ E hM' p1 p2 p3 (Ay.of_arv p4 (by rw [z1]; simp)) p5 p6 (fun z hz => p7 z fun q => hz (Or.inr q))).from stp
  rintro y (q | q)
  · exact Nat.lt_of_lt_of_le (i3 y q) E.1
  · obtain ⟨cell, hc⟩ := Bk.there q; exact (Array.getElem?_eq_some_iff.mp hc).1
theorem g_ldc2 (X : Wk nw l Z EL own bytes maxL ret mnm R h0 B0 ws Q x T h B k n) {idx : Nat} {v : Int64} (hd : Dc bytes pc (.ldc2_w idx) 3 pc') (w : (Cond.constantLong own idx v).before a0 Z = true) (G : Go x (T.setTop (mkF x.m pc' Ls (.long v :: st)))) : Go x (T.setTop (mkF x.m pc Ls st)) := by
  obtain ⟨S, vm0, k0, locs, X, eT, hS, hk, hZ, hown, r⟩ := X
  obtain ⟨hd, rfl⟩ := hd
  exact G.from fun t q => X.ldc2J S.1 hown (mvT (s := x.s.setVm vm0) hZ w) (g := mkF x.m pc Ls st) rfl (S.2.1 ▸ hd) q
theorem g_ldcI (X : Wk nw l Z EL own bytes maxL ret mnm R h0 B0 ws Q x T h B k n) {idx : Nat} {v : Int32} (hd : Dc bytes pc (.ldc idx) 2 pc') (w : (Cond.constant own idx v).before a0 Z = true) (G : Go x (T.setTop (mkF x.m pc' Ls (.int v :: st)))) : Go x (T.setTop (mkF x.m pc Ls st)) := by
  obtain ⟨S, vm0, k0, locs, X, eT, hS, hk, hZ, hown, r⟩ := X
  obtain ⟨hd, rfl⟩ := hd
  exact G.from fun t q => X.ldcI S.1 hown (mvT (s := x.s.setVm vm0) hZ w) (g := mkF x.m pc Ls st) rfl (S.2.1 ▸ hd) q
theorem g_ldcWI (X : Wk nw l Z EL own bytes maxL ret mnm R h0 B0 ws Q x T h B k n) {idx : Nat} {v : Int32} (hd : Dc bytes pc (.ldc_w idx) 3 pc') (w : (Cond.constant own idx v).before a0 Z = true) (G : Go x (T.setTop (mkF x.m pc' Ls (.int v :: st)))) : Go x (T.setTop (mkF x.m pc Ls st)) := by
  obtain ⟨S, vm0, k0, locs, X, eT, hS, hk, hZ, hown, r⟩ := X
  obtain ⟨hd, rfl⟩ := hd
  exact G.from fun t q => X.ldcWI S.1 hown (mvT (s := x.s.setVm vm0) hZ w) (g := mkF x.m pc Ls st) rfl (S.2.1 ▸ hd) q
theorem g_castY (X : Wk nw l Z EL own bytes maxL ret mnm R h0 B0 ws Q x T h B k n) {K : String} {idx : Nat} (hd : Dc bytes pc (.checkcast idx) 3 pc') (w : (Cond.classLink own idx K).before a0 Z = true) {a : Addr} (F : Ins Z h a K true)
    (K' : ∀ T', Wk nw l Z EL own bytes maxL ret mnm R h0 B0 ws Q x T' h B k n → Go x (T'.setTop (mkF x.m pc' Ls (.ref a :: st)))) : Go x (T.setTop (mkF x.m pc Ls (.ref a :: st))) := by
  obtain ⟨S, vm0, k0, locs, X, eT, hS, hk, hZ, hown, r⟩ := X
  obtain ⟨hd, rfl⟩ := hd
  obtain ⟨T', X', e', stp⟩ := castY X S.1 hZ hown w eT F (g := mkF x.m pc Ls (.ref a :: st)) rfl rfl (S.2.1 ▸ hd)
  exact (K' T' ⟨S, vm0, k0, locs, X', e', hS, hk, hZ, hown, r⟩).from stp
theorem g_instY (X : Wk nw l Z EL own bytes maxL ret mnm R h0 B0 ws Q x T h B k n) {K : String} {idx : Nat} (hd : Dc bytes pc (.instanceof idx) 3 pc') (w : (Cond.classLink own idx K).before a0 Z = true) {a : Addr} (F : Ins Z h a K true)
    (K' : ∀ T', Wk nw l Z EL own bytes maxL ret mnm R h0 B0 ws Q x T' h B k n → Go x (T'.setTop (mkF x.m pc' Ls (.int 1 :: st)))) : Go x (T.setTop (mkF x.m pc Ls (.ref a :: st))) := by
  obtain ⟨S, vm0, k0, locs, X, eT, hS, hk, hZ, hown, r⟩ := X
  obtain ⟨hd, rfl⟩ := hd
  obtain ⟨T', X', e', stp⟩ := instY X S.1 hZ hown w eT F (g := mkF x.m pc Ls (.ref a :: st)) rfl rfl (S.2.1 ▸ hd)
  exact (K' T' ⟨S, vm0, k0, locs, X', e', hS, hk, hZ, hown, r⟩).from stp
theorem g_instNo (X : Wk nw l Z EL own bytes maxL ret mnm R h0 B0 ws Q x T h B k n) {K C : String} {idx : Nat} (hd : Dc bytes pc (.instanceof idx) 3 pc') (w : (Cond.classLink own idx K).before a0 Z = true) {a : Addr} (E : Exa Z h a C) (F : ∃ c t, Z.vm.findClass C = some c ∧ Z.vm.findClass K = some t ∧ Z.vm.assignable c t = false)
    (K' : ∀ T', Wk nw l Z EL own bytes maxL ret mnm R h0 B0 ws Q x T' h B k n → Go x (T'.setTop (mkF x.m pc' Ls (.int 0 :: st)))) : Go x (T.setTop (mkF x.m pc Ls (.ref a :: st))) := by
  obtain ⟨S, vm0, k0, locs, X, eT, hS, hk, hZ, hown, r⟩ := X
  obtain ⟨hd, rfl⟩ := hd
  obtain ⟨T', X', e', stp⟩ := instNo X S.1 hZ hown w eT E F (g := mkF x.m pc Ls (.ref a :: st)) rfl rfl (S.2.1 ▸ hd)
  exact (K' T' ⟨S, vm0, k0, locs, X', e', hS, hk, hZ, hown, r⟩).from stp
theorem g_instNull (X : Wk nw l Z EL own bytes maxL ret mnm R h0 B0 ws Q x T h B k n) {idx : Nat} (hd : Dc bytes pc (.instanceof idx) 3 pc') (G : Go x (T.setTop (mkF x.m pc' Ls (.int 0 :: st)))) : Go x (T.setTop (mkF x.m pc Ls (.null :: st))) := by
  obtain ⟨S, vm0, k0, locs, X, eT, hS, hk, hZ, hown, r⟩ := X
  obtain ⟨hd, rfl⟩ := hd
  exact G.from fun t q => X.instanceofNull S.1 (g := mkF x.m pc Ls (.null :: st)) rfl rfl (S.2.1 ▸ hd) t q
theorem k_slice (vs : List Value) (d : Value) (sp nn : Nat) (h : sp + nn ≤ vs.length) : ((List.range nn).map fun i => vs.getD (sp + i) d) = (vs.drop sp).take nn := by
  refine List.ext_getElem (by simp; omega) fun i h1 h2 => ?_
  simp at h1
  simp [List.getD, List.getElem?_eq_getElem (show sp + i < vs.length by omega)]
theorem g_arraycopy (X : Wk nw l Z EL own bytes maxL ret mnm R h0 B0 ws Q x T h B k n) {idx : Nat} {y : MethodName} {ty : FieldType} {a b : Addr} {vs vd : List Value} (hd : Dc bytes pc (.invokestatic idx) 3 pc') (hy : y = Jvm.Stand.acN) (w1 : (Cond.methodLink own idx y).before a0 Z = true) (w2 : (Cond.native y).before a0 Z = true) (w3 : (Cond.static y).before a0 Z = true) (w4 : (Cond.initialized "java/lang/System").before a0 Z = true)
    (A : Ay Z h a ty vs) (D : Ay Z h b ty vd) (hp : refKind ty = false) (sp dp nn : Nat) (h4 : sp + nn ≤ vs.length) (h5 : dp + nn ≤ vd.length) {j1 j2 j3 : Int32} (e1 : j1 = Int32.ofNat sp) (e2 : j2 = Int32.ofNat dp) (e3 : j3 = Int32.ofNat nn) (hsz : Ls.size = maxL) (hB : ¬ B b) (hz : Z.heap.size ≤ b) (hw : b ∈ ws ∨ h0.size ≤ b)
    (W : Nat) (hW : (st.map fun v => v.category).sum ≤ W) (hf : 1 ≤ R.frames) (hl : W + (nativeFrameWords "java/lang/System" "arraycopy" 5 + 11) ≤ R.locals)
    (K : ∀ T' h', Wk nw l Z EL own bytes maxL ret mnm R h0 B0 ws Q x T' h' B k n → Keep h h' [b] → Ay Z h' b ty (vd.take dp ++ (vs.drop sp).take nn ++ vd.drop (dp + nn)) → Go x (T'.setTop (mkF x.m pc' Ls st))) : Go x (T.setTop (mkF x.m pc Ls (.int j3 :: .int j2 :: .ref b :: .int j1 :: .ref a :: st))) := by
  subst hy e1 e2 e3
  obtain ⟨S, vm0, k0, locs, X, eT, hS, hk, hZ, hown, hI, hFr, hK, hM, hN⟩ := X
  obtain ⟨hd, rfl⟩ := hd
  have la := A.len
  have lb := D.len
  obtain ⟨ka, A⟩ := A.arv (.int 0)
  obtain ⟨kb, D⟩ := D.arv (.int 0)
  obtain ⟨s1, s2⟩ := i32_nat (show sp < 2 ^ 31 by omega)
  obtain ⟨d1, d2⟩ := i32_nat (show dp < 2 ^ 31 by omega)
  obtain ⟨n1, n2⟩ := i32_nat (show nn < 2 ^ 31 by omega)
  have va : (vs.length.toInt32).toNatClampNeg = vs.length := (i32_nat la).1
  have vb : (vd.length.toInt32).toNatClampNeg = vd.length := (i32_nat lb).1
  obtain ⟨T', h', L, X', e', hL, K', D', stp⟩ := cpA X S.1 hZ hown w1 w2 w3 w4 eT A D (us := (List.range nn).map fun i => vs.getD (sp + i) (.int 0)) (Or.inl ⟨rfl, hp⟩) s2 d2 n2 (by rw [s1, n1, va]; exact h4) (by rw [d1, n1, vb]; exact h5) (by rw [s1, n1]) (by rw [d1, n1]; exact h5) hFr hz (g := mkF x.m pc Ls (.int (Int32.ofNat nn) :: .int (Int32.ofNat dp) :: .ref b :: .int (Int32.ofNat sp) :: .ref a :: st)) rfl (by rw [S.2.2.1]; exact hsz) rfl (S.2.1 ▸ hd) hf (W := W) (by show 2 * 0 + _ ≤ _; omega) hl
  rw [d1, n1, k_slice vs _ sp nn h4] at D'
  refine (K T' h' ⟨S, vm0, k0, L, X', e', hS, Nat.le_trans hk K'.1, hZ, hown, hI.keep K' (fun y q => by cases List.mem_singleton.mp q; exact ⟨hB, hz⟩), hL, hK.trans K' (fun y q => by cases List.mem_singleton.mp q; exact hw), hM, hN⟩ K' (Ay.of_arv D' ?_)).from stp
  rw [vb]; simp; omega
end Calls
/-! own kit, part 5: numbers and Strings -/
theorem k_inc (i : Nat) : Int32.ofNat i + Int32.ofInt 1 = Int32.ofNat (i + 1) := (inc_ofNat i).symm
theorem k_ofNat {i : Nat} (h : i < 2 ^ 31) : (Int32.ofNat i).toInt = i := Int32.toInt_ofNat_small h
theorem k_lt {i j : Nat} (h : i < j) (hj : j < 2 ^ 31) : Int32.ofNat i < Int32.ofNat j := by
  rw [Int32.lt_iff_toInt_lt, k_ofNat (by omega), k_ofNat hj]; omega
theorem k_nlt {i j : Nat} (h : j ≤ i) (hi : i < 2 ^ 31) : ¬ Int32.ofNat i < Int32.ofNat j := by
  rw [Int32.lt_iff_toInt_lt, k_ofNat hi, k_ofNat (by omega)]; omega
theorem k_eqn {i j : Nat} (hi : i < 2 ^ 31) (hj : j < 2 ^ 31) : Int32.ofNat i = Int32.ofNat j ↔ i = j := by
  rw [← Int32.toInt_inj, k_ofNat hi, k_ofNat hj]; omega
theorem k_sub {i j : Nat} (h : j ≤ i) : Int32.ofNat i - Int32.ofNat j = Int32.ofNat (i - j) := by
  have e : i = (i - j) + j := by omega
  rw [e, Int32.ofNat_add]
  simp
/-- the low byte, signed -/
def lo8 (c : Int32) : Int32 := c.toInt8.toInt32
theorem nar_b8 (c : Int32) : RoadKit.nar .byte (lo8 c) = lo8 c := by simp [RoadKit.nar, lo8]
theorem fit_b8 (c : Int32) : fits .byte (.int (lo8 c)) = true := fits_nar_byte c
/-- a String: its coder, its bytes; all of it lies under N -/
def Str (Z : State) (h : Heap) (N : Nat) (a : Addr) (cd : Int32) (bs : List Int32) : Prop :=
  ∃ t : Addr, @LT.lt Nat _ a N ∧ @LT.lt Nat _ t N ∧ Exa Z h a "java/lang/String" ∧ Fld Z h a "java/lang/String" "coder" "B" (.int cd) ∧ Fld Z h a "java/lang/String" "value" "[B" (.ref t) ∧ Ay Z h t .byte (bs.map Value.int)
theorem Str.keep {Z : State} {h h' : Heap} {N : Nat} {a : Addr} {cd : Int32} {bs : List Int32} {ws : List Addr} (S : Str Z h N a cd bs) (K : Keep h h' ws) (q : ∀ z ∈ ws, N ≤ z) : Str Z h' N a cd bs := by
  obtain ⟨t, l1, l2, e, f, g, r⟩ := S
  have n1 : a ∉ ws := fun z => absurd l1 (Nat.not_lt.mpr (q a z))
  have n2 : t ∉ ws := fun z => absurd l2 (Nat.not_lt.mpr (q t z))
  exact ⟨t, l1, l2, e.keep K, f.keep K n1, g.keep K n1, r.keep K n2⟩
theorem Ay.ne {Z : State} {a0 : Array Value} {h : Heap} {a t : Addr} {C : String} {n : Nat} {ty : FieldType} {vs : List Value} (E : Exa Z h a C) (w : (Cond.instantiable C n).before a0 Z = true) (A : Ay Z h t ty vs) : a ≠ t := by
  obtain ⟨c, A, -⟩ := A
  exact ne_arr E w A
theorem Str.keepX {Z : State} {h h' : Heap} {N : Nat} {a z : Addr} {cd : Int32} {bs : List Int32} {C : String} {n : Nat} {a0 : Array Value} (S : Str Z h N a cd bs) (K : Keep h h' [z]) (E : Exa Z h z C) (w : (Cond.instantiable C n).before a0 Z = true) (hn : "java/lang/String" ≠ C) : Str Z h' N a cd bs := by
  obtain ⟨t, l1, l2, e, f, g, r⟩ := S
  have n1 : a ∉ [z] := ninS (ne_exa e E hn) nin0
  have n2 : t ∉ [z] := ninS (Ne.symm (Ay.ne E w r)) nin0
  exact ⟨t, l1, l2, e.keep K, f.keep K n1, g.keep K n1, r.keep K n2⟩
theorem Str.ext {Z : State} {h h' : Heap} {N : Nat} {a : Addr} {cd : Int32} {bs : List Int32} (S : Str Z h N a cd bs) (E : Ext h h') : Str Z h' N a cd bs := S.keep ((Keep.refl h []).ext E) (fun _ q => nomatch q)
theorem Str.mono {Z : State} {h : Heap} {N N' : Nat} {a : Addr} {cd : Int32} {bs : List Int32} (S : Str Z h N a cd bs) (q : N ≤ N') : Str Z h N' a cd bs := by
  obtain ⟨t, l1, l2, r⟩ := S; exact ⟨t, Nat.lt_of_lt_of_le l1 q, Nat.lt_of_lt_of_le l2 q, r⟩
theorem Str.exa {Z : State} {h : Heap} {N : Nat} {a : Addr} {cd : Int32} {bs : List Int32} (S : Str Z h N a cd bs) : Exa Z h a "java/lang/String" := by obtain ⟨t, l1, l2, e, r⟩ := S; exact e
theorem Str.lt {Z : State} {h : Heap} {N : Nat} {a : Addr} {cd : Int32} {bs : List Int32} (S : Str Z h N a cd bs) : @LT.lt Nat _ a N := by obtain ⟨t, l1, r⟩ := S; exact l1
theorem Str.len {Z : State} {h : Heap} {N : Nat} {a : Addr} {cd : Int32} {bs : List Int32} (S : Str Z h N a cd bs) : bs.length < 2 ^ 31 := by obtain ⟨t, l1, l2, e, f, g, A⟩ := S; simpa using A.len
theorem k_fill (cs : List Int32) (f : Int32 → Int32) (i : Nat) (hi : i < cs.length) :
    (((cs.take i).map (fun c => Value.int (f c)) ++ List.replicate (cs.length - i) (Value.int 0)).set i (.int (f cs[i]))) = (cs.take (i + 1)).map (fun c => Value.int (f c)) ++ List.replicate (cs.length - (i + 1)) (Value.int 0) := by
  have e1 : ((cs.take i).map (fun c => Value.int (f c))).length = i := by simp; omega
  have e2 : cs.length - i = (cs.length - (i + 1)) + 1 := by omega
  rw [e2, List.replicate_succ, List.take_succ_eq_append_getElem hi, List.map_append]
  generalize (cs.take i).map (fun c => Value.int (f c)) = P at e1
  rw [List.set_append_right _ _ (by omega)]
  simp [e1]
/-- a String that is read -/
def StrV (Z : State) (h : Heap) (a : Addr) (cd : Int32) (bs : List Int32) : Prop :=
  ∃ t, Exa Z h a "java/lang/String" ∧ Fld Z h a "java/lang/String" "coder" "B" (.int cd) ∧ Fld Z h a "java/lang/String" "value" "[B" (.ref t) ∧ Ay Z h t .byte (bs.map Value.int)
theorem StrV.op {Z : State} {h : Heap} {a : Addr} {cd : Int32} {bs : List Int32} (S : StrV Z h a cd bs) : ∃ t, Exa Z h a "java/lang/String" ∧ Fld Z h a "java/lang/String" "coder" "B" (.int cd) ∧ Fld Z h a "java/lang/String" "value" "[B" (.ref t) ∧ Ay Z h t .byte (bs.map Value.int) := S
theorem Str.v {Z : State} {h : Heap} {N : Nat} {a : Addr} {cd : Int32} {bs : List Int32} (S : Str Z h N a cd bs) : StrV Z h a cd bs := by obtain ⟨t, -, -, r⟩ := S; exact ⟨t, r⟩
theorem Fld.uniq {Z : State} {h : Heap} {a : Addr} {C n d : String} {v w : Value} (F : Fld Z h a C n d v) (G : Fld Z h a C n d w) : v = w := by
  rcases Classical.em (v = w) with q | q
  · exact q
  · exact absurd rfl (F.ne G q)
theorem Ay.uniq {Z : State} {h : Heap} {a : Addr} {ty ty' : FieldType} {vs us : List Value} (F : Ay Z h a ty vs) (G : Ay Z h a ty' us) : vs = us := by
  obtain ⟨c, A, e, -⟩ := F
  obtain ⟨c', A', e', -⟩ := G
  cases A.1.symm.trans A'.1
  exact e.symm.trans e'
theorem StrV.uniq {Z : State} {h : Heap} {a : Addr} {cd cd' : Int32} {bs bs' : List Int32} (S : StrV Z h a cd bs) (S' : StrV Z h a cd' bs') : bs = bs' := by
  obtain ⟨t, -, -, f, A⟩ := S
  obtain ⟨t', -, -, f', A'⟩ := S'
  cases Value.ref.inj (Fld.uniq f f')
  have := A.uniq A'
  exact (List.map_inj_right (fun a b q => Value.int.inj q)).mp this
theorem StrV.len {Z : State} {h : Heap} {a : Addr} {cd : Int32} {bs : List Int32} (S : StrV Z h a cd bs) : bs.length < 2 ^ 31 := by obtain ⟨t, -, -, -, A⟩ := S; simpa using A.len
theorem k_shr0 (x : Int32) : x >>> ((0 : Int32) &&& 31) = x := by
  have : ((0 : Int32) &&& 31) = 0 := by decide
  rw [this]
  apply Int32.toBitVec_inj.mp
  simp
/-- an object of the class C (below Object alone) is none of K -/
theorem k_not {Z : State} {a0 : Array Value} {C K O : String} {n : Nat} (w : (Cond.superclass C O).before a0 Z = true) (wo : (Cond.noSuperclass O).before a0 Z = true) (wk : (Cond.instantiable K n).before a0 Z = true) (h1 : C ≠ K) (h2 : O ≠ K) : ∃ c t, Z.vm.findClass C = some c ∧ Z.vm.findClass K = some t ∧ Z.vm.assignable c t = false := by
  obtain ⟨t, k', g0, g2, g5, hi⟩ : ∃ t k', Z.vm.findClass K = some t ∧ Z.vm.classes[t]? = some k' ∧ k'.kind = .ordinary ∧ k'.isInterface = false := by
    obtain ⟨t, k', g1, g2, g3, g4, -⟩ := Cond.instantiable_spec wk
    exact ⟨t, k', g1, g2, g3, by simpa using (Bool.or_eq_false_iff.mp g4).1⟩
  obtain ⟨co, ko, o1, o2, o3, -, -⟩ := Cond.noSuperclass_spec wo
  obtain ⟨c, h0⟩ := found_sup w
  obtain ⟨p, k, kp, q1, q2, q3, q4, q5, -, q7⟩ := Cond.superclass_spec h0 w
  cases o1.symm.trans q1
  have ne := ids_ne h0 g0 h1
  have neo := ids_ne o1 g0 h2
  have no : ∀ fuel, Z.vm.isSubclassAux fuel co t = false := fun fuel => by
    cases fuel with
    | zero => rfl
    | succ f => simp [Vm.isSubclassAux, neo, o2, o3]
  have nc : ∀ fuel, Z.vm.isSubclassAux fuel c t = false := fun fuel => by
    cases fuel with
    | zero => rfl
    | succ f => simp [Vm.isSubclassAux, ne, q2, q4, no]
  refine ⟨c, t, h0, g0, ?_⟩
  show Z.vm.assignableAux (255 + 1) c t = false
  simp [Vm.assignableAux, ne, q2, g2, q5, g5, hi, Vm.isSubclass, nc]
theorem k_nn {i : Nat} (h : i < 2 ^ 31) : ¬ Int32.ofNat i < 0 := (i32_nat h).2
theorem k_ne0 {i : Nat} (h : 0 < i) (hi : i < 2 ^ 31) : ¬ Int32.ofNat i = 0 := fun q => by
  have := (k_eqn hi (by decide)).mp (show Int32.ofNat i = Int32.ofNat 0 from q)
  omega
theorem k_add (i j : Nat) : Int32.ofNat i + Int32.ofNat j = Int32.ofNat (i + j) := (Int32.ofNat_add i j).symm
theorem k_min {i j : Nat} (h : j ≤ i) (hi : i < 2 ^ 31) : (if Int32.ofNat j < Int32.ofNat i then Int32.ofNat j else Int32.ofNat i) = Int32.ofNat j := by
  rcases Nat.lt_or_ge j i with q | q
  · rw [if_pos (k_lt q hi)]
  · have : i = j := by omega
    subst this
    split <;> rfl
abbrev HW (Z : State) (a0 : Array Value) : Prop := ∀ d ∈ tables_1, d.before a0 Z = true
theorem w0 {Z : State} {a0 : Array Value} (hw : HW Z a0) : ((Jvm.Cond.constant "com/example/glyphwire/glyphwire/Utf8LengthPinLaw" (13 : Nat) (65535 : Int32))).before a0 Z = true := hw _ (List.mem_of_getElem? (i := 0) rfl)
theorem w1 {Z : State} {a0 : Array Value} (hw : HW Z a0) : ((Jvm.Cond.arrayClass Jvm.ClassFile.FieldType.char)).before a0 Z = true := hw _ (List.mem_of_getElem? (i := 1) rfl)
theorem w2 {Z : State} {a0 : Array Value} (hw : HW Z a0) : ((Jvm.Cond.methodLink "com/example/glyphwire/glyphwire/Utf8LengthPinLaw" (14 : Nat) ({ cls := "com/example/glyphwire/glyphwire/Utf8LengthPinLaw", name := "w", desc := "(C)J" } : Jvm.MethodName))).before a0 Z = true := hw _ (List.mem_of_getElem? (i := 2) rfl)
theorem w3 {Z : State} {a0 : Array Value} (hw : HW Z a0) : ((Jvm.Cond.static ({ cls := "com/example/glyphwire/glyphwire/Utf8LengthPinLaw", name := "w", desc := "(C)J" } : Jvm.MethodName))).before a0 Z = true := hw _ (List.mem_of_getElem? (i := 3) rfl)
theorem w4 {Z : State} {a0 : Array Value} (hw : HW Z a0) : ((Jvm.Cond.initialized "com/example/glyphwire/glyphwire/Utf8LengthPinLaw")).before a0 Z = true := hw _ (List.mem_of_getElem? (i := 4) rfl)
theorem w5 {Z : State} {a0 : Array Value} (hw : HW Z a0) : ((Jvm.Cond.code ({ cls := "com/example/glyphwire/glyphwire/Utf8LengthPinLaw", name := "w", desc := "(C)J" } : Jvm.MethodName) method_2_code (1 : Nat) (Option.some Jvm.ClassFile.FieldType.long))).before a0 Z = true := hw _ (List.mem_of_getElem? (i := 5) rfl)
theorem w6 {Z : State} {a0 : Array Value} (hw : HW Z a0) : ((Jvm.Cond.classLink "com/example/glyphwire/glyphwire/Utf8LengthPinLaw" (20 : Nat) "java/lang/String")).before a0 Z = true := hw _ (List.mem_of_getElem? (i := 6) rfl)
theorem w7 {Z : State} {a0 : Array Value} (hw : HW Z a0) : ((Jvm.Cond.instantiable "java/lang/String" (4 : Nat))).before a0 Z = true := hw _ (List.mem_of_getElem? (i := 7) rfl)
theorem w8 {Z : State} {a0 : Array Value} (hw : HW Z a0) : ((Jvm.Cond.initialized "java/lang/String")).before a0 Z = true := hw _ (List.mem_of_getElem? (i := 8) rfl)
theorem w9 {Z : State} {a0 : Array Value} (hw : HW Z a0) : ((Jvm.Cond.methodLink "com/example/glyphwire/glyphwire/Utf8LengthPinLaw" (22 : Nat) ({ cls := "java/lang/String", name := "<init>", desc := "([C)V" } : Jvm.MethodName))).before a0 Z = true := hw _ (List.mem_of_getElem? (i := 9) rfl)
theorem w10 {Z : State} {a0 : Array Value} (hw : HW Z a0) : ((Jvm.Cond.instanceMethod ({ cls := "java/lang/String", name := "<init>", desc := "([C)V" } : Jvm.MethodName))).before a0 Z = true := hw _ (List.mem_of_getElem? (i := 10) rfl)
theorem w11 {Z : State} {a0 : Array Value} (hw : HW Z a0) : ((Jvm.Cond.code ({ cls := "java/lang/String", name := "<init>", desc := "([C)V" } : Jvm.MethodName) jdk_42_method_3_code (2 : Nat) (Option.none : Option Jvm.ClassFile.FieldType))).before a0 Z = true := hw _ (List.mem_of_getElem? (i := 11) rfl)
theorem w12 {Z : State} {a0 : Array Value} (hw : HW Z a0) : ((Jvm.Cond.methodLink "java/lang/String" (27 : Nat) ({ cls := "java/lang/String", name := "<init>", desc := "([CIILjava/lang/Void;)V" } : Jvm.MethodName))).before a0 Z = true := hw _ (List.mem_of_getElem? (i := 12) rfl)
theorem w13 {Z : State} {a0 : Array Value} (hw : HW Z a0) : ((Jvm.Cond.instanceMethod ({ cls := "java/lang/String", name := "<init>", desc := "([CIILjava/lang/Void;)V" } : Jvm.MethodName))).before a0 Z = true := hw _ (List.mem_of_getElem? (i := 13) rfl)
theorem w15 {Z : State} {a0 : Array Value} (hw : HW Z a0) : ((Jvm.Cond.code ({ cls := "java/lang/String", name := "<init>", desc := "([CIILjava/lang/Void;)V" } : Jvm.MethodName) jdk_42_method_149_code (6 : Nat) (Option.none : Option Jvm.ClassFile.FieldType))).before a0 Z = true := hw _ (List.mem_of_getElem? (i := 15) rfl)
theorem w16 {Z : State} {a0 : Array Value} (hw : HW Z a0) : ((Jvm.Cond.methodLink "java/lang/String" (1 : Nat) ({ cls := "java/lang/Object", name := "<init>", desc := "()V" } : Jvm.MethodName))).before a0 Z = true := hw _ (List.mem_of_getElem? (i := 16) rfl)
theorem w17 {Z : State} {a0 : Array Value} (hw : HW Z a0) : ((Jvm.Cond.instanceMethod ({ cls := "java/lang/Object", name := "<init>", desc := "()V" } : Jvm.MethodName))).before a0 Z = true := hw _ (List.mem_of_getElem? (i := 17) rfl)
theorem w18 {Z : State} {a0 : Array Value} (hw : HW Z a0) : ((Jvm.Cond.code ({ cls := "java/lang/Object", name := "<init>", desc := "()V" } : Jvm.MethodName) object_method_1_code (1 : Nat) (Option.none : Option Jvm.ClassFile.FieldType))).before a0 Z = true := hw _ (List.mem_of_getElem? (i := 18) rfl)
theorem w19 {Z : State} {a0 : Array Value} (hw : HW Z a0) : ((Jvm.Cond.fieldLink "java/lang/String" (38 : Nat) "java/lang/String" "COMPACT_STRINGS" "Z")).before a0 Z = true := hw _ (List.mem_of_getElem? (i := 19) rfl)
theorem w20 {Z : State} {a0 : Array Value} (hw : HW Z a0) : ((Jvm.Cond.methodLink "java/lang/String" (177 : Nat) ({ cls := "java/lang/StringUTF16", name := "compress", desc := "([CII)[B" } : Jvm.MethodName))).before a0 Z = true := hw _ (List.mem_of_getElem? (i := 20) rfl)
theorem w21 {Z : State} {a0 : Array Value} (hw : HW Z a0) : ((Jvm.Cond.static ({ cls := "java/lang/StringUTF16", name := "compress", desc := "([CII)[B" } : Jvm.MethodName))).before a0 Z = true := hw _ (List.mem_of_getElem? (i := 21) rfl)
theorem w22 {Z : State} {a0 : Array Value} (hw : HW Z a0) : ((Jvm.Cond.initialized "java/lang/StringUTF16")).before a0 Z = true := hw _ (List.mem_of_getElem? (i := 22) rfl)
theorem w23 {Z : State} {a0 : Array Value} (hw : HW Z a0) : ((Jvm.Cond.code ({ cls := "java/lang/StringUTF16", name := "compress", desc := "([CII)[B" } : Jvm.MethodName) jdk_52_method_16_code (6 : Nat) (Option.some (Jvm.ClassFile.FieldType.array Jvm.ClassFile.FieldType.byte)))).before a0 Z = true := hw _ (List.mem_of_getElem? (i := 23) rfl)
theorem w24 {Z : State} {a0 : Array Value} (hw : HW Z a0) : ((Jvm.Cond.arrayClass Jvm.ClassFile.FieldType.byte)).before a0 Z = true := hw _ (List.mem_of_getElem? (i := 24) rfl)
theorem w25 {Z : State} {a0 : Array Value} (hw : HW Z a0) : ((Jvm.Cond.methodLink "java/lang/StringUTF16" (115 : Nat) ({ cls := "java/lang/StringUTF16", name := "compress", desc := "([CI[BII)I" } : Jvm.MethodName))).before a0 Z = true := hw _ (List.mem_of_getElem? (i := 25) rfl)
theorem w26 {Z : State} {a0 : Array Value} (hw : HW Z a0) : ((Jvm.Cond.static ({ cls := "java/lang/StringUTF16", name := "compress", desc := "([CI[BII)I" } : Jvm.MethodName))).before a0 Z = true := hw _ (List.mem_of_getElem? (i := 26) rfl)
theorem w27 {Z : State} {a0 : Array Value} (hw : HW Z a0) : ((Jvm.Cond.code ({ cls := "java/lang/StringUTF16", name := "compress", desc := "([CI[BII)I" } : Jvm.MethodName) jdk_52_method_21_code (7 : Nat) (Option.some Jvm.ClassFile.FieldType.int))).before a0 Z = true := hw _ (List.mem_of_getElem? (i := 27) rfl)
theorem w28 {Z : State} {a0 : Array Value} (hw : HW Z a0) : ((Jvm.Cond.methodLink "java/lang/String" (47 : Nat) ({ cls := "java/lang/StringUTF16", name := "coderFromArrayLen", desc := "([BI)B" } : Jvm.MethodName))).before a0 Z = true := hw _ (List.mem_of_getElem? (i := 28) rfl)
theorem w29 {Z : State} {a0 : Array Value} (hw : HW Z a0) : ((Jvm.Cond.static ({ cls := "java/lang/StringUTF16", name := "coderFromArrayLen", desc := "([BI)B" } : Jvm.MethodName))).before a0 Z = true := hw _ (List.mem_of_getElem? (i := 29) rfl)
theorem w30 {Z : State} {a0 : Array Value} (hw : HW Z a0) : ((Jvm.Cond.code ({ cls := "java/lang/StringUTF16", name := "coderFromArrayLen", desc := "([BI)B" } : Jvm.MethodName) jdk_52_method_15_code (2 : Nat) (Option.some Jvm.ClassFile.FieldType.byte))).before a0 Z = true := hw _ (List.mem_of_getElem? (i := 30) rfl)
theorem w31 {Z : State} {a0 : Array Value} (hw : HW Z a0) : ((Jvm.Cond.fieldLink "java/lang/String" (15 : Nat) "java/lang/String" "coder" "B")).before a0 Z = true := hw _ (List.mem_of_getElem? (i := 31) rfl)
theorem w32 {Z : State} {a0 : Array Value} (hw : HW Z a0) : ((Jvm.Cond.laysFinal "java/lang/String" "java/lang/String" "coder" "B")).before a0 Z = true := hw _ (List.mem_of_getElem? (i := 32) rfl)
theorem w33 {Z : State} {a0 : Array Value} (hw : HW Z a0) : ((Jvm.Cond.fieldLink "java/lang/String" (9 : Nat) "java/lang/String" "value" "[B")).before a0 Z = true := hw _ (List.mem_of_getElem? (i := 33) rfl)
theorem w34 {Z : State} {a0 : Array Value} (hw : HW Z a0) : ((Jvm.Cond.laysFinal "java/lang/String" "java/lang/String" "value" "[B")).before a0 Z = true := hw _ (List.mem_of_getElem? (i := 34) rfl)
theorem w35 {Z : State} {a0 : Array Value} (hw : HW Z a0) : ((Jvm.Cond.methodLink "com/example/glyphwire/glyphwire/Utf8LengthPinLaw" (25 : Nat) ({ cls := "com/example/glyphwire/glyphwire/Utf8", name := "length", desc := "(Ljava/lang/CharSequence;)J" } : Jvm.MethodName))).before a0 Z = true := hw _ (List.mem_of_getElem? (i := 35) rfl)
theorem w36 {Z : State} {a0 : Array Value} (hw : HW Z a0) : ((Jvm.Cond.static ({ cls := "com/example/glyphwire/glyphwire/Utf8", name := "length", desc := "(Ljava/lang/CharSequence;)J" } : Jvm.MethodName))).before a0 Z = true := hw _ (List.mem_of_getElem? (i := 36) rfl)
theorem w37 {Z : State} {a0 : Array Value} (hw : HW Z a0) : ((Jvm.Cond.initialized "com/example/glyphwire/glyphwire/Utf8")).before a0 Z = true := hw _ (List.mem_of_getElem? (i := 37) rfl)
theorem w38 {Z : State} {a0 : Array Value} (hw : HW Z a0) : ((Jvm.Cond.code ({ cls := "com/example/glyphwire/glyphwire/Utf8", name := "length", desc := "(Ljava/lang/CharSequence;)J" } : Jvm.MethodName) prog_10_method_2_code (5 : Nat) (Option.some Jvm.ClassFile.FieldType.long))).before a0 Z = true := hw _ (List.mem_of_getElem? (i := 38) rfl)
theorem w39 {Z : State} {a0 : Array Value} (hw : HW Z a0) : ((Jvm.Cond.methodLink "com/example/glyphwire/glyphwire/Utf8" (7 : Nat) ({ cls := "java/lang/CharSequence", name := "length", desc := "()I" } : Jvm.MethodName))).before a0 Z = true := hw _ (List.mem_of_getElem? (i := 39) rfl)
theorem w40 {Z : State} {a0 : Array Value} (hw : HW Z a0) : ((Jvm.Cond.declares ({ cls := "java/lang/CharSequence", name := "length", desc := "()I" } : Jvm.MethodName))).before a0 Z = true := hw _ (List.mem_of_getElem? (i := 40) rfl)
theorem w41 {Z : State} {a0 : Array Value} (hw : HW Z a0) : ((Jvm.Cond.interfaceMethod "java/lang/CharSequence" "java/lang/CharSequence" "length" "()I")).before a0 Z = true := hw _ (List.mem_of_getElem? (i := 41) rfl)
theorem w42 {Z : State} {a0 : Array Value} (hw : HW Z a0) : ((Jvm.Cond.selects "java/lang/String" ({ cls := "java/lang/CharSequence", name := "length", desc := "()I" } : Jvm.MethodName) ({ cls := "java/lang/String", name := "length", desc := "()I" } : Jvm.MethodName))).before a0 Z = true := hw _ (List.mem_of_getElem? (i := 42) rfl)
theorem w43 {Z : State} {a0 : Array Value} (hw : HW Z a0) : ((Jvm.Cond.instanceMethod ({ cls := "java/lang/String", name := "length", desc := "()I" } : Jvm.MethodName))).before a0 Z = true := hw _ (List.mem_of_getElem? (i := 43) rfl)
theorem w44 {Z : State} {a0 : Array Value} (hw : HW Z a0) : ((Jvm.Cond.publicMethod ({ cls := "java/lang/String", name := "length", desc := "()I" } : Jvm.MethodName))).before a0 Z = true := hw _ (List.mem_of_getElem? (i := 44) rfl)
theorem w45 {Z : State} {a0 : Array Value} (hw : HW Z a0) : ((Jvm.Cond.unhidden "java/lang/String" "length" "()I")).before a0 Z = true := hw _ (List.mem_of_getElem? (i := 45) rfl)
theorem w46 {Z : State} {a0 : Array Value} (hw : HW Z a0) : ((Jvm.Cond.castable "java/lang/String" "java/lang/CharSequence")).before a0 Z = true := hw _ (List.mem_of_getElem? (i := 46) rfl)
theorem w47 {Z : State} {a0 : Array Value} (hw : HW Z a0) : ((Jvm.Cond.code ({ cls := "java/lang/String", name := "length", desc := "()I" } : Jvm.MethodName) jdk_42_method_54_code (1 : Nat) (Option.some Jvm.ClassFile.FieldType.int))).before a0 Z = true := hw _ (List.mem_of_getElem? (i := 47) rfl)
theorem w48 {Z : State} {a0 : Array Value} (hw : HW Z a0) : ((Jvm.Cond.methodLink "java/lang/String" (335 : Nat) ({ cls := "java/lang/String", name := "coder", desc := "()B" } : Jvm.MethodName))).before a0 Z = true := hw _ (List.mem_of_getElem? (i := 48) rfl)
theorem w49 {Z : State} {a0 : Array Value} (hw : HW Z a0) : ((Jvm.Cond.declares ({ cls := "java/lang/String", name := "coder", desc := "()B" } : Jvm.MethodName))).before a0 Z = true := hw _ (List.mem_of_getElem? (i := 49) rfl)
theorem w50 {Z : State} {a0 : Array Value} (hw : HW Z a0) : ((Jvm.Cond.instanceMethod ({ cls := "java/lang/String", name := "coder", desc := "()B" } : Jvm.MethodName))).before a0 Z = true := hw _ (List.mem_of_getElem? (i := 50) rfl)
theorem w51 {Z : State} {a0 : Array Value} (hw : HW Z a0) : ((Jvm.Cond.selects "java/lang/String" ({ cls := "java/lang/String", name := "coder", desc := "()B" } : Jvm.MethodName) ({ cls := "java/lang/String", name := "coder", desc := "()B" } : Jvm.MethodName))).before a0 Z = true := hw _ (List.mem_of_getElem? (i := 51) rfl)
theorem w52 {Z : State} {a0 : Array Value} (hw : HW Z a0) : ((Jvm.Cond.code ({ cls := "java/lang/String", name := "coder", desc := "()B" } : Jvm.MethodName) jdk_42_method_152_code (1 : Nat) (Option.some Jvm.ClassFile.FieldType.byte))).before a0 Z = true := hw _ (List.mem_of_getElem? (i := 52) rfl)
theorem w53 {Z : State} {a0 : Array Value} (hw : HW Z a0) : ((Jvm.Cond.methodLink "com/example/glyphwire/glyphwire/Utf8" (13 : Nat) ({ cls := "java/lang/CharSequence", name := "charAt", desc := "(I)C" } : Jvm.MethodName))).before a0 Z = true := hw _ (List.mem_of_getElem? (i := 53) rfl)
theorem w54 {Z : State} {a0 : Array Value} (hw : HW Z a0) : ((Jvm.Cond.declares ({ cls := "java/lang/CharSequence", name := "charAt", desc := "(I)C" } : Jvm.MethodName))).before a0 Z = true := hw _ (List.mem_of_getElem? (i := 54) rfl)
theorem w55 {Z : State} {a0 : Array Value} (hw : HW Z a0) : ((Jvm.Cond.interfaceMethod "java/lang/CharSequence" "java/lang/CharSequence" "charAt" "(I)C")).before a0 Z = true := hw _ (List.mem_of_getElem? (i := 55) rfl)
theorem w56 {Z : State} {a0 : Array Value} (hw : HW Z a0) : ((Jvm.Cond.selects "java/lang/String" ({ cls := "java/lang/CharSequence", name := "charAt", desc := "(I)C" } : Jvm.MethodName) ({ cls := "java/lang/String", name := "charAt", desc := "(I)C" } : Jvm.MethodName))).before a0 Z = true := hw _ (List.mem_of_getElem? (i := 56) rfl)
theorem w57 {Z : State} {a0 : Array Value} (hw : HW Z a0) : ((Jvm.Cond.instanceMethod ({ cls := "java/lang/String", name := "charAt", desc := "(I)C" } : Jvm.MethodName))).before a0 Z = true := hw _ (List.mem_of_getElem? (i := 57) rfl)
theorem w58 {Z : State} {a0 : Array Value} (hw : HW Z a0) : ((Jvm.Cond.publicMethod ({ cls := "java/lang/String", name := "charAt", desc := "(I)C" } : Jvm.MethodName))).before a0 Z = true := hw _ (List.mem_of_getElem? (i := 58) rfl)
theorem w59 {Z : State} {a0 : Array Value} (hw : HW Z a0) : ((Jvm.Cond.unhidden "java/lang/String" "charAt" "(I)C")).before a0 Z = true := hw _ (List.mem_of_getElem? (i := 59) rfl)
theorem w60 {Z : State} {a0 : Array Value} (hw : HW Z a0) : ((Jvm.Cond.code ({ cls := "java/lang/String", name := "charAt", desc := "(I)C" } : Jvm.MethodName) jdk_42_method_56_code (2 : Nat) (Option.some Jvm.ClassFile.FieldType.char))).before a0 Z = true := hw _ (List.mem_of_getElem? (i := 60) rfl)
theorem w61 {Z : State} {a0 : Array Value} (hw : HW Z a0) : ((Jvm.Cond.methodLink "java/lang/String" (492 : Nat) ({ cls := "java/lang/String", name := "isLatin1", desc := "()Z" } : Jvm.MethodName))).before a0 Z = true := hw _ (List.mem_of_getElem? (i := 61) rfl)
theorem w62 {Z : State} {a0 : Array Value} (hw : HW Z a0) : ((Jvm.Cond.declares ({ cls := "java/lang/String", name := "isLatin1", desc := "()Z" } : Jvm.MethodName))).before a0 Z = true := hw _ (List.mem_of_getElem? (i := 62) rfl)
theorem w63 {Z : State} {a0 : Array Value} (hw : HW Z a0) : ((Jvm.Cond.instanceMethod ({ cls := "java/lang/String", name := "isLatin1", desc := "()Z" } : Jvm.MethodName))).before a0 Z = true := hw _ (List.mem_of_getElem? (i := 63) rfl)
theorem w64 {Z : State} {a0 : Array Value} (hw : HW Z a0) : ((Jvm.Cond.selects "java/lang/String" ({ cls := "java/lang/String", name := "isLatin1", desc := "()Z" } : Jvm.MethodName) ({ cls := "java/lang/String", name := "isLatin1", desc := "()Z" } : Jvm.MethodName))).before a0 Z = true := hw _ (List.mem_of_getElem? (i := 64) rfl)
theorem w65 {Z : State} {a0 : Array Value} (hw : HW Z a0) : ((Jvm.Cond.code ({ cls := "java/lang/String", name := "isLatin1", desc := "()Z" } : Jvm.MethodName) jdk_42_method_154_code (1 : Nat) (Option.some Jvm.ClassFile.FieldType.boolean))).before a0 Z = true := hw _ (List.mem_of_getElem? (i := 65) rfl)
theorem w66 {Z : State} {a0 : Array Value} (hw : HW Z a0) : ((Jvm.Cond.methodLink "java/lang/String" (495 : Nat) ({ cls := "java/lang/StringLatin1", name := "charAt", desc := "([BI)C" } : Jvm.MethodName))).before a0 Z = true := hw _ (List.mem_of_getElem? (i := 66) rfl)
theorem w67 {Z : State} {a0 : Array Value} (hw : HW Z a0) : ((Jvm.Cond.static ({ cls := "java/lang/StringLatin1", name := "charAt", desc := "([BI)C" } : Jvm.MethodName))).before a0 Z = true := hw _ (List.mem_of_getElem? (i := 67) rfl)
theorem w68 {Z : State} {a0 : Array Value} (hw : HW Z a0) : ((Jvm.Cond.initialized "java/lang/StringLatin1")).before a0 Z = true := hw _ (List.mem_of_getElem? (i := 68) rfl)
theorem w69 {Z : State} {a0 : Array Value} (hw : HW Z a0) : ((Jvm.Cond.code ({ cls := "java/lang/StringLatin1", name := "charAt", desc := "([BI)C" } : Jvm.MethodName) jdk_43_method_2_code (2 : Nat) (Option.some Jvm.ClassFile.FieldType.char))).before a0 Z = true := hw _ (List.mem_of_getElem? (i := 69) rfl)
theorem w70 {Z : State} {a0 : Array Value} (hw : HW Z a0) : ((Jvm.Cond.methodLink "java/lang/StringLatin1" (9 : Nat) ({ cls := "java/lang/String", name := "checkIndex", desc := "(II)V" } : Jvm.MethodName))).before a0 Z = true := hw _ (List.mem_of_getElem? (i := 70) rfl)
theorem w71 {Z : State} {a0 : Array Value} (hw : HW Z a0) : ((Jvm.Cond.static ({ cls := "java/lang/String", name := "checkIndex", desc := "(II)V" } : Jvm.MethodName))).before a0 Z = true := hw _ (List.mem_of_getElem? (i := 71) rfl)
theorem w72 {Z : State} {a0 : Array Value} (hw : HW Z a0) : ((Jvm.Cond.code ({ cls := "java/lang/String", name := "checkIndex", desc := "(II)V" } : Jvm.MethodName) jdk_42_method_155_code (2 : Nat) (Option.none : Option Jvm.ClassFile.FieldType))).before a0 Z = true := hw _ (List.mem_of_getElem? (i := 72) rfl)
theorem w73 {Z : State} {a0 : Array Value} (hw : HW Z a0) : ((Jvm.Cond.fieldLink "java/lang/String" (1053 : Nat) "jdk/internal/util/Preconditions" "SIOOBE_FORMATTER" "Ljava/util/function/BiFunction;")).before a0 Z = true := hw _ (List.mem_of_getElem? (i := 73) rfl)
theorem w74 {Z : State} {a0 : Array Value} (hw : HW Z a0) : ((Jvm.Cond.initialized "jdk/internal/util/Preconditions")).before a0 Z = true := hw _ (List.mem_of_getElem? (i := 74) rfl)
theorem w75 {Z : State} {a0 : Array Value} (hw : HW Z a0) : ((Jvm.Cond.methodLink "java/lang/String" (1059 : Nat) ({ cls := "jdk/internal/util/Preconditions", name := "checkIndex", desc := "(IILjava/util/function/BiFunction;)I" } : Jvm.MethodName))).before a0 Z = true := hw _ (List.mem_of_getElem? (i := 75) rfl)
theorem w76 {Z : State} {a0 : Array Value} (hw : HW Z a0) : ((Jvm.Cond.static ({ cls := "jdk/internal/util/Preconditions", name := "checkIndex", desc := "(IILjava/util/function/BiFunction;)I" } : Jvm.MethodName))).before a0 Z = true := hw _ (List.mem_of_getElem? (i := 76) rfl)
theorem w77 {Z : State} {a0 : Array Value} (hw : HW Z a0) : ((Jvm.Cond.code ({ cls := "jdk/internal/util/Preconditions", name := "checkIndex", desc := "(IILjava/util/function/BiFunction;)I" } : Jvm.MethodName) jdk_41_method_11_code (3 : Nat) (Option.some Jvm.ClassFile.FieldType.int))).before a0 Z = true := hw _ (List.mem_of_getElem? (i := 77) rfl)
theorem w78 {Z : State} {a0 : Array Value} (hw : HW Z a0) : ((Jvm.Cond.constantLong "com/example/glyphwire/glyphwire/Utf8LengthPinLaw" (7 : Nat) (2 : Int64))).before a0 Z = true := hw _ (List.mem_of_getElem? (i := 78) rfl)
theorem w79 {Z : State} {a0 : Array Value} (hw : HW Z a0) : ((Jvm.Cond.stringLink "java/lang/String" (7 : Nat) "")).before a0 Z = true := hw _ (List.mem_of_getElem? (i := 79) rfl)
theorem w80 {Z : State} {a0 : Array Value} (hw : HW Z a0) : ((Jvm.Cond.soleField "java/lang/String" "value")).before a0 Z = true := hw _ (List.mem_of_getElem? (i := 80) rfl)
theorem w81 {Z : State} {a0 : Array Value} (hw : HW Z a0) : ((Jvm.Cond.soleField "java/lang/String" "coder")).before a0 Z = true := hw _ (List.mem_of_getElem? (i := 81) rfl)
theorem w82 {Z : State} {a0 : Array Value} (hw : HW Z a0) : ((Jvm.Cond.constant "com/example/glyphwire/glyphwire/Utf8LengthPinLaw" (9 : Nat) (55296 : Int32))).before a0 Z = true := hw _ (List.mem_of_getElem? (i := 82) rfl)
theorem w83 {Z : State} {a0 : Array Value} (hw : HW Z a0) : ((Jvm.Cond.constant "com/example/glyphwire/glyphwire/Utf8LengthPinLaw" (10 : Nat) (57343 : Int32))).before a0 Z = true := hw _ (List.mem_of_getElem? (i := 83) rfl)
theorem w84 {Z : State} {a0 : Array Value} (hw : HW Z a0) : ((Jvm.Cond.constantLong "com/example/glyphwire/glyphwire/Utf8LengthPinLaw" (11 : Nat) (3 : Int64))).before a0 Z = true := hw _ (List.mem_of_getElem? (i := 84) rfl)
theorem w85 {Z : State} {a0 : Array Value} (hw : HW Z a0) : ((Jvm.Cond.methodLink "java/lang/StringUTF16" (119 : Nat) ({ cls := "java/lang/StringUTF16", name := "toBytes", desc := "([CII)[B" } : Jvm.MethodName))).before a0 Z = true := hw _ (List.mem_of_getElem? (i := 85) rfl)
theorem w86 {Z : State} {a0 : Array Value} (hw : HW Z a0) : ((Jvm.Cond.static ({ cls := "java/lang/StringUTF16", name := "toBytes", desc := "([CII)[B" } : Jvm.MethodName))).before a0 Z = true := hw _ (List.mem_of_getElem? (i := 86) rfl)
theorem w87 {Z : State} {a0 : Array Value} (hw : HW Z a0) : ((Jvm.Cond.code ({ cls := "java/lang/StringUTF16", name := "toBytes", desc := "([CII)[B" } : Jvm.MethodName) jdk_52_method_14_code (5 : Nat) (Option.some (Jvm.ClassFile.FieldType.array Jvm.ClassFile.FieldType.byte)))).before a0 Z = true := hw _ (List.mem_of_getElem? (i := 87) rfl)
theorem w88 {Z : State} {a0 : Array Value} (hw : HW Z a0) : ((Jvm.Cond.methodLink "java/lang/StringUTF16" (107 : Nat) ({ cls := "java/lang/StringUTF16", name := "newBytesFor", desc := "(I)[B" } : Jvm.MethodName))).before a0 Z = true := hw _ (List.mem_of_getElem? (i := 88) rfl)
theorem w89 {Z : State} {a0 : Array Value} (hw : HW Z a0) : ((Jvm.Cond.static ({ cls := "java/lang/StringUTF16", name := "newBytesFor", desc := "(I)[B" } : Jvm.MethodName))).before a0 Z = true := hw _ (List.mem_of_getElem? (i := 89) rfl)
theorem w90 {Z : State} {a0 : Array Value} (hw : HW Z a0) : ((Jvm.Cond.code ({ cls := "java/lang/StringUTF16", name := "newBytesFor", desc := "(I)[B" } : Jvm.MethodName) jdk_52_method_2_code (1 : Nat) (Option.some (Jvm.ClassFile.FieldType.array Jvm.ClassFile.FieldType.byte)))).before a0 Z = true := hw _ (List.mem_of_getElem? (i := 90) rfl)
theorem w91 {Z : State} {a0 : Array Value} (hw : HW Z a0) : ((Jvm.Cond.methodLink "java/lang/StringUTF16" (11 : Nat) ({ cls := "java/lang/StringUTF16", name := "newBytesLength", desc := "(I)I" } : Jvm.MethodName))).before a0 Z = true := hw _ (List.mem_of_getElem? (i := 91) rfl)
theorem w92 {Z : State} {a0 : Array Value} (hw : HW Z a0) : ((Jvm.Cond.static ({ cls := "java/lang/StringUTF16", name := "newBytesLength", desc := "(I)I" } : Jvm.MethodName))).before a0 Z = true := hw _ (List.mem_of_getElem? (i := 92) rfl)
theorem w93 {Z : State} {a0 : Array Value} (hw : HW Z a0) : ((Jvm.Cond.code ({ cls := "java/lang/StringUTF16", name := "newBytesLength", desc := "(I)I" } : Jvm.MethodName) jdk_52_method_3_code (1 : Nat) (Option.some Jvm.ClassFile.FieldType.int))).before a0 Z = true := hw _ (List.mem_of_getElem? (i := 93) rfl)
theorem w94 {Z : State} {a0 : Array Value} (hw : HW Z a0) : ((Jvm.Cond.constant "java/lang/StringUTF16" (20 : Nat) (1073741823 : Int32))).before a0 Z = true := hw _ (List.mem_of_getElem? (i := 94) rfl)
theorem w95 {Z : State} {a0 : Array Value} (hw : HW Z a0) : ((Jvm.Cond.methodLink "java/lang/StringUTF16" (111 : Nat) ({ cls := "java/lang/StringUTF16", name := "putChar", desc := "([BII)V" } : Jvm.MethodName))).before a0 Z = true := hw _ (List.mem_of_getElem? (i := 95) rfl)
theorem w96 {Z : State} {a0 : Array Value} (hw : HW Z a0) : ((Jvm.Cond.static ({ cls := "java/lang/StringUTF16", name := "putChar", desc := "([BII)V" } : Jvm.MethodName))).before a0 Z = true := hw _ (List.mem_of_getElem? (i := 96) rfl)
theorem w97 {Z : State} {a0 : Array Value} (hw : HW Z a0) : ((Jvm.Cond.code ({ cls := "java/lang/StringUTF16", name := "putChar", desc := "([BII)V" } : Jvm.MethodName) jdk_52_method_4_code (3 : Nat) (Option.none : Option Jvm.ClassFile.FieldType))).before a0 Z = true := hw _ (List.mem_of_getElem? (i := 97) rfl)
theorem w98 {Z : State} {a0 : Array Value} (hw : HW Z a0) : ((Jvm.Cond.fieldLink "java/lang/StringUTF16" (44 : Nat) "java/lang/StringUTF16" "$assertionsDisabled" "Z")).before a0 Z = true := hw _ (List.mem_of_getElem? (i := 98) rfl)
theorem w99 {Z : State} {a0 : Array Value} (hw : HW Z a0) : ((Jvm.Cond.fieldLink "java/lang/StringUTF16" (59 : Nat) "java/lang/StringUTF16" "HI_BYTE_SHIFT" "I")).before a0 Z = true := hw _ (List.mem_of_getElem? (i := 99) rfl)
theorem w100 {Z : State} {a0 : Array Value} (hw : HW Z a0) : ((Jvm.Cond.fieldLink "java/lang/StringUTF16" (63 : Nat) "java/lang/StringUTF16" "LO_BYTE_SHIFT" "I")).before a0 Z = true := hw _ (List.mem_of_getElem? (i := 100) rfl)
theorem w101 {Z : State} {a0 : Array Value} (hw : HW Z a0) : ((Jvm.Cond.methodLink "java/lang/StringUTF16" (71 : Nat) ({ cls := "java/lang/StringUTF16", name := "getChar", desc := "([BI)C" } : Jvm.MethodName))).before a0 Z = true := hw _ (List.mem_of_getElem? (i := 101) rfl)
theorem w102 {Z : State} {a0 : Array Value} (hw : HW Z a0) : ((Jvm.Cond.static ({ cls := "java/lang/StringUTF16", name := "getChar", desc := "([BI)C" } : Jvm.MethodName))).before a0 Z = true := hw _ (List.mem_of_getElem? (i := 102) rfl)
theorem w103 {Z : State} {a0 : Array Value} (hw : HW Z a0) : ((Jvm.Cond.code ({ cls := "java/lang/StringUTF16", name := "getChar", desc := "([BI)C" } : Jvm.MethodName) jdk_52_method_5_code (2 : Nat) (Option.some Jvm.ClassFile.FieldType.char))).before a0 Z = true := hw _ (List.mem_of_getElem? (i := 103) rfl)
theorem w104 {Z : State} {a0 : Array Value} (hw : HW Z a0) : ((Jvm.Cond.methodLink "java/lang/String" (498 : Nat) ({ cls := "java/lang/StringUTF16", name := "charAt", desc := "([BI)C" } : Jvm.MethodName))).before a0 Z = true := hw _ (List.mem_of_getElem? (i := 104) rfl)
theorem w105 {Z : State} {a0 : Array Value} (hw : HW Z a0) : ((Jvm.Cond.static ({ cls := "java/lang/StringUTF16", name := "charAt", desc := "([BI)C" } : Jvm.MethodName))).before a0 Z = true := hw _ (List.mem_of_getElem? (i := 105) rfl)
theorem w106 {Z : State} {a0 : Array Value} (hw : HW Z a0) : ((Jvm.Cond.code ({ cls := "java/lang/StringUTF16", name := "charAt", desc := "([BI)C" } : Jvm.MethodName) jdk_52_method_83_code (2 : Nat) (Option.some Jvm.ClassFile.FieldType.char))).before a0 Z = true := hw _ (List.mem_of_getElem? (i := 106) rfl)
theorem w107 {Z : State} {a0 : Array Value} (hw : HW Z a0) : ((Jvm.Cond.methodLink "java/lang/StringUTF16" (67 : Nat) ({ cls := "java/lang/StringUTF16", name := "checkIndex", desc := "(I[B)V" } : Jvm.MethodName))).before a0 Z = true := hw _ (List.mem_of_getElem? (i := 107) rfl)
theorem w108 {Z : State} {a0 : Array Value} (hw : HW Z a0) : ((Jvm.Cond.static ({ cls := "java/lang/StringUTF16", name := "checkIndex", desc := "(I[B)V" } : Jvm.MethodName))).before a0 Z = true := hw _ (List.mem_of_getElem? (i := 108) rfl)
theorem w109 {Z : State} {a0 : Array Value} (hw : HW Z a0) : ((Jvm.Cond.code ({ cls := "java/lang/StringUTF16", name := "checkIndex", desc := "(I[B)V" } : Jvm.MethodName) jdk_52_method_91_code (2 : Nat) (Option.none : Option Jvm.ClassFile.FieldType))).before a0 Z = true := hw _ (List.mem_of_getElem? (i := 109) rfl)
theorem w110 {Z : State} {a0 : Array Value} (hw : HW Z a0) : ((Jvm.Cond.methodLink "java/lang/StringUTF16" (48 : Nat) ({ cls := "java/lang/StringUTF16", name := "length", desc := "([B)I" } : Jvm.MethodName))).before a0 Z = true := hw _ (List.mem_of_getElem? (i := 110) rfl)
theorem w111 {Z : State} {a0 : Array Value} (hw : HW Z a0) : ((Jvm.Cond.static ({ cls := "java/lang/StringUTF16", name := "length", desc := "([B)I" } : Jvm.MethodName))).before a0 Z = true := hw _ (List.mem_of_getElem? (i := 111) rfl)
theorem w112 {Z : State} {a0 : Array Value} (hw : HW Z a0) : ((Jvm.Cond.code ({ cls := "java/lang/StringUTF16", name := "length", desc := "([B)I" } : Jvm.MethodName) jdk_52_method_6_code (1 : Nat) (Option.some Jvm.ClassFile.FieldType.int))).before a0 Z = true := hw _ (List.mem_of_getElem? (i := 112) rfl)
theorem w113 {Z : State} {a0 : Array Value} (hw : HW Z a0) : ((Jvm.Cond.methodLink "java/lang/StringUTF16" (414 : Nat) ({ cls := "java/lang/String", name := "checkIndex", desc := "(II)V" } : Jvm.MethodName))).before a0 Z = true := hw _ (List.mem_of_getElem? (i := 113) rfl)
theorem w114 {Z : State} {a0 : Array Value} (hw : HW Z a0) : ((Jvm.Cond.methodLink "com/example/glyphwire/glyphwire/Utf8" (17 : Nat) ({ cls := "java/lang/Character", name := "isSurrogate", desc := "(C)Z" } : Jvm.MethodName))).before a0 Z = true := hw _ (List.mem_of_getElem? (i := 114) rfl)
theorem w115 {Z : State} {a0 : Array Value} (hw : HW Z a0) : ((Jvm.Cond.static ({ cls := "java/lang/Character", name := "isSurrogate", desc := "(C)Z" } : Jvm.MethodName))).before a0 Z = true := hw _ (List.mem_of_getElem? (i := 115) rfl)
theorem w116 {Z : State} {a0 : Array Value} (hw : HW Z a0) : ((Jvm.Cond.initialized "java/lang/Character")).before a0 Z = true := hw _ (List.mem_of_getElem? (i := 116) rfl)
theorem w117 {Z : State} {a0 : Array Value} (hw : HW Z a0) : ((Jvm.Cond.code ({ cls := "java/lang/Character", name := "isSurrogate", desc := "(C)Z" } : Jvm.MethodName) jdk_89_method_16_code (1 : Nat) (Option.some Jvm.ClassFile.FieldType.boolean))).before a0 Z = true := hw _ (List.mem_of_getElem? (i := 117) rfl)
theorem w118 {Z : State} {a0 : Array Value} (hw : HW Z a0) : ((Jvm.Cond.constant "java/lang/Character" (75 : Nat) (55296 : Int32))).before a0 Z = true := hw _ (List.mem_of_getElem? (i := 118) rfl)
theorem w119 {Z : State} {a0 : Array Value} (hw : HW Z a0) : ((Jvm.Cond.constant "java/lang/Character" (77 : Nat) (57344 : Int32))).before a0 Z = true := hw _ (List.mem_of_getElem? (i := 119) rfl)
theorem w120 {Z : State} {a0 : Array Value} (hw : HW Z a0) : ((Jvm.Cond.constantLong "com/example/glyphwire/glyphwire/Utf8" (23 : Nat) (2 : Int64))).before a0 Z = true := hw _ (List.mem_of_getElem? (i := 120) rfl)
theorem pd0 : parseMethodDescriptor "(I)I" = some ⟨[.int], some .int⟩ := by decide +kernel
theorem pd1 : parseMethodDescriptor "(I)[B" = some ⟨[.int], some (.array .byte)⟩ := by decide +kernel
theorem pd2 : parseMethodDescriptor "([BII)V" = some ⟨[(.array .byte), .int, .int], none⟩ := by decide +kernel
theorem pd3 : parseMethodDescriptor "([CI[BII)I" = some ⟨[(.array .char), .int, (.array .byte), .int, .int], some .int⟩ := by decide +kernel
theorem pd4 : parseMethodDescriptor "([CII)[B" = some ⟨[(.array .char), .int, .int], some (.array .byte)⟩ := by decide +kernel
theorem pd5 : parseMethodDescriptor "([BI)C" = some ⟨[(.array .byte), .int], some .char⟩ := by decide +kernel
theorem pd6 : parseMethodDescriptor "([BI)B" = some ⟨[(.array .byte), .int], some .byte⟩ := by decide +kernel
theorem pd7 : parseMethodDescriptor "([CIILjava/lang/Void;)V" = some ⟨[(.array .char), .int, .int, (.object "java/lang/Void")], none⟩ := by decide +kernel
theorem pd8 : parseMethodDescriptor "()B" = some ⟨[], some .byte⟩ := by decide +kernel
theorem pd9 : parseMethodDescriptor "(IILjava/util/function/BiFunction;)I" = some ⟨[.int, .int, (.object "java/util/function/BiFunction")], some .int⟩ := by decide +kernel
theorem pd10 : parseMethodDescriptor "(II)V" = some ⟨[.int, .int], none⟩ := by decide +kernel
theorem pd11 : parseMethodDescriptor "([B)I" = some ⟨[(.array .byte)], some .int⟩ := by decide +kernel
theorem pd12 : parseMethodDescriptor "(I[B)V" = some ⟨[.int, (.array .byte)], none⟩ := by decide +kernel
theorem pd13 : parseMethodDescriptor "()Z" = some ⟨[], some .boolean⟩ := by decide +kernel
theorem pd14 : parseMethodDescriptor "()I" = some ⟨[], some .int⟩ := by decide +kernel
theorem pd15 : parseMethodDescriptor "(I)C" = some ⟨[.int], some .char⟩ := by decide +kernel
theorem pd16 : parseMethodDescriptor "(C)Z" = some ⟨[.char], some .boolean⟩ := by decide +kernel
theorem pd17 : parseMethodDescriptor "(Ljava/lang/CharSequence;)J" = some ⟨[(.object "java/lang/CharSequence")], some .long⟩ := by decide +kernel
theorem pd18 : parseMethodDescriptor "([C)V" = some ⟨[(.array .char)], none⟩ := by decide +kernel
theorem pd19 : parseMethodDescriptor "(C)J" = some ⟨[.char], some .long⟩ := by decide +kernel
theorem d0_0 : Dc jdk_52_method_21_code 0 (.iconst 0) 1 1 := ⟨by decide +kernel, rfl⟩
theorem d0_1 : Dc jdk_52_method_21_code 1 (.istore 5) 2 3 := ⟨by decide +kernel, rfl⟩
theorem d0_3 : Dc jdk_52_method_21_code 3 (.iload 5) 2 5 := ⟨by decide +kernel, rfl⟩
theorem d0_5 : Dc jdk_52_method_21_code 5 (.iload 4) 2 7 := ⟨by decide +kernel, rfl⟩
theorem d0_7 : Db jdk_52_method_21_code 7 (.if_icmp .ge 37) 37 10 44 := ⟨by decide +kernel, rfl, by decide, by decide⟩
theorem d0_44 : Dc jdk_52_method_21_code 44 (.iload 4) 2 46 := ⟨by decide +kernel, rfl⟩
theorem d0_46 : Dc jdk_52_method_21_code 46 (.ireturn) 1 47 := ⟨by decide +kernel, rfl⟩
theorem d0_10 : Dc jdk_52_method_21_code 10 (.aload_n 0) 1 11 := ⟨by decide +kernel, rfl⟩
theorem d0_11 : Dc jdk_52_method_21_code 11 (.iload_n 1) 1 12 := ⟨by decide +kernel, rfl⟩
theorem d0_12 : Dc jdk_52_method_21_code 12 (.caload) 1 13 := ⟨by decide +kernel, rfl⟩
theorem d0_13 : Dc jdk_52_method_21_code 13 (.istore 6) 2 15 := ⟨by decide +kernel, rfl⟩
theorem d0_15 : Dc jdk_52_method_21_code 15 (.iload 6) 2 17 := ⟨by decide +kernel, rfl⟩
theorem d0_17 : Dc jdk_52_method_21_code 17 (.sipush 255) 3 20 := ⟨by decide +kernel, rfl⟩
theorem d0_20 : Db jdk_52_method_21_code 20 (.if_icmp .le 6) 6 23 26 := ⟨by decide +kernel, rfl, by decide, by decide⟩
theorem d0_23 : Dc jdk_52_method_21_code 23 (.iload 5) 2 25 := ⟨by decide +kernel, rfl⟩
theorem d0_25 : Dc jdk_52_method_21_code 25 (.ireturn) 1 26 := ⟨by decide +kernel, rfl⟩
theorem d0_26 : Dc jdk_52_method_21_code 26 (.aload_n 2) 1 27 := ⟨by decide +kernel, rfl⟩
theorem d0_27 : Dc jdk_52_method_21_code 27 (.iload_n 3) 1 28 := ⟨by decide +kernel, rfl⟩
theorem d0_28 : Dc jdk_52_method_21_code 28 (.iload 6) 2 30 := ⟨by decide +kernel, rfl⟩
theorem d0_30 : Dc jdk_52_method_21_code 30 (.i2b) 1 31 := ⟨by decide +kernel, rfl⟩
theorem d0_31 : Dc jdk_52_method_21_code 31 (.bastore) 1 32 := ⟨by decide +kernel, rfl⟩
theorem d0_32 : Dc jdk_52_method_21_code 32 (.iinc 1 1) 3 35 := ⟨by decide +kernel, rfl⟩
theorem d0_35 : Dc jdk_52_method_21_code 35 (.iinc 3 1) 3 38 := ⟨by decide +kernel, rfl⟩
theorem d0_38 : Dc jdk_52_method_21_code 38 (.iinc 5 1) 3 41 := ⟨by decide +kernel, rfl⟩
theorem d0_41 : Db jdk_52_method_21_code 41 (.goto (-38)) (-38) 44 3 := ⟨by decide +kernel, rfl, by decide, by decide⟩
theorem d1_0 : Dc jdk_52_method_3_code 0 (.iload_n 0) 1 1 := ⟨by decide +kernel, rfl⟩
theorem d1_1 : Db jdk_52_method_3_code 1 (.ifCond .ge 11) 11 4 12 := ⟨by decide +kernel, rfl, by decide, by decide⟩
theorem d1_12 : Dc jdk_52_method_3_code 12 (.iload_n 0) 1 13 := ⟨by decide +kernel, rfl⟩
theorem d1_13 : Dc jdk_52_method_3_code 13 (.ldc 20) 2 15 := ⟨by decide +kernel, rfl⟩
theorem d1_15 : Db jdk_52_method_3_code 15 (.if_icmp .lt 40) 40 18 55 := ⟨by decide +kernel, rfl, by decide, by decide⟩
theorem d1_55 : Dc jdk_52_method_3_code 55 (.iload_n 0) 1 56 := ⟨by decide +kernel, rfl⟩
theorem d1_56 : Dc jdk_52_method_3_code 56 (.iconst 1) 1 57 := ⟨by decide +kernel, rfl⟩
theorem d1_57 : Dc jdk_52_method_3_code 57 (.ishl) 1 58 := ⟨by decide +kernel, rfl⟩
theorem d1_58 : Dc jdk_52_method_3_code 58 (.ireturn) 1 59 := ⟨by decide +kernel, rfl⟩
theorem d2_0 : Dc jdk_52_method_2_code 0 (.iload_n 0) 1 1 := ⟨by decide +kernel, rfl⟩
theorem d2_1 : Dc jdk_52_method_2_code 1 (.invokestatic 11) 3 4 := ⟨by decide +kernel, rfl⟩
theorem d2_4 : Dc jdk_52_method_2_code 4 (.newarray .byte) 2 6 := ⟨by decide +kernel, rfl⟩
theorem d2_6 : Dc jdk_52_method_2_code 6 (.areturn) 1 7 := ⟨by decide +kernel, rfl⟩
theorem d3_0 : Dc jdk_52_method_6_code 0 (.aload_n 0) 1 1 := ⟨by decide +kernel, rfl⟩
theorem d3_1 : Dc jdk_52_method_6_code 1 (.arraylength) 1 2 := ⟨by decide +kernel, rfl⟩
theorem d3_2 : Dc jdk_52_method_6_code 2 (.iconst 1) 1 3 := ⟨by decide +kernel, rfl⟩
theorem d3_3 : Dc jdk_52_method_6_code 3 (.ishr) 1 4 := ⟨by decide +kernel, rfl⟩
theorem d3_4 : Dc jdk_52_method_6_code 4 (.ireturn) 1 5 := ⟨by decide +kernel, rfl⟩
theorem d4_0 : Dc jdk_52_method_4_code 0 (.getstatic 44) 3 3 := ⟨by decide +kernel, rfl⟩
theorem d4_3 : Db jdk_52_method_4_code 3 (.ifCond .ne 25) 25 6 28 := ⟨by decide +kernel, rfl, by decide, by decide⟩
theorem d4_28 : Dc jdk_52_method_4_code 28 (.iload_n 1) 1 29 := ⟨by decide +kernel, rfl⟩
theorem d4_29 : Dc jdk_52_method_4_code 29 (.iconst 1) 1 30 := ⟨by decide +kernel, rfl⟩
theorem d4_30 : Dc jdk_52_method_4_code 30 (.ishl) 1 31 := ⟨by decide +kernel, rfl⟩
theorem d4_31 : Dc jdk_52_method_4_code 31 (.istore_n 1) 1 32 := ⟨by decide +kernel, rfl⟩
theorem d4_32 : Dc jdk_52_method_4_code 32 (.aload_n 0) 1 33 := ⟨by decide +kernel, rfl⟩
theorem d4_33 : Dc jdk_52_method_4_code 33 (.iload_n 1) 1 34 := ⟨by decide +kernel, rfl⟩
theorem d4_34 : Dc jdk_52_method_4_code 34 (.iinc 1 1) 3 37 := ⟨by decide +kernel, rfl⟩
theorem d4_37 : Dc jdk_52_method_4_code 37 (.iload_n 2) 1 38 := ⟨by decide +kernel, rfl⟩
theorem d4_38 : Dc jdk_52_method_4_code 38 (.getstatic 59) 3 41 := ⟨by decide +kernel, rfl⟩
theorem d4_41 : Dc jdk_52_method_4_code 41 (.ishr) 1 42 := ⟨by decide +kernel, rfl⟩
theorem d4_42 : Dc jdk_52_method_4_code 42 (.i2b) 1 43 := ⟨by decide +kernel, rfl⟩
theorem d4_43 : Dc jdk_52_method_4_code 43 (.bastore) 1 44 := ⟨by decide +kernel, rfl⟩
theorem d4_44 : Dc jdk_52_method_4_code 44 (.aload_n 0) 1 45 := ⟨by decide +kernel, rfl⟩
theorem d4_45 : Dc jdk_52_method_4_code 45 (.iload_n 1) 1 46 := ⟨by decide +kernel, rfl⟩
theorem d4_46 : Dc jdk_52_method_4_code 46 (.iload_n 2) 1 47 := ⟨by decide +kernel, rfl⟩
theorem d4_47 : Dc jdk_52_method_4_code 47 (.getstatic 63) 3 50 := ⟨by decide +kernel, rfl⟩
theorem d4_50 : Dc jdk_52_method_4_code 50 (.ishr) 1 51 := ⟨by decide +kernel, rfl⟩
theorem d4_51 : Dc jdk_52_method_4_code 51 (.i2b) 1 52 := ⟨by decide +kernel, rfl⟩
theorem d4_52 : Dc jdk_52_method_4_code 52 (.bastore) 1 53 := ⟨by decide +kernel, rfl⟩
theorem d4_53 : Dc jdk_52_method_4_code 53 (.return_) 1 54 := ⟨by decide +kernel, rfl⟩
theorem d5_0 : Dc jdk_52_method_5_code 0 (.getstatic 44) 3 3 := ⟨by decide +kernel, rfl⟩
theorem d5_3 : Db jdk_52_method_5_code 3 (.ifCond .ne 25) 25 6 28 := ⟨by decide +kernel, rfl, by decide, by decide⟩
theorem d5_28 : Dc jdk_52_method_5_code 28 (.iload_n 1) 1 29 := ⟨by decide +kernel, rfl⟩
theorem d5_29 : Dc jdk_52_method_5_code 29 (.iconst 1) 1 30 := ⟨by decide +kernel, rfl⟩
theorem d5_30 : Dc jdk_52_method_5_code 30 (.ishl) 1 31 := ⟨by decide +kernel, rfl⟩
theorem d5_31 : Dc jdk_52_method_5_code 31 (.istore_n 1) 1 32 := ⟨by decide +kernel, rfl⟩
theorem d5_32 : Dc jdk_52_method_5_code 32 (.aload_n 0) 1 33 := ⟨by decide +kernel, rfl⟩
theorem d5_33 : Dc jdk_52_method_5_code 33 (.iload_n 1) 1 34 := ⟨by decide +kernel, rfl⟩
theorem d5_34 : Dc jdk_52_method_5_code 34 (.iinc 1 1) 3 37 := ⟨by decide +kernel, rfl⟩
theorem d5_37 : Dc jdk_52_method_5_code 37 (.baload) 1 38 := ⟨by decide +kernel, rfl⟩
theorem d5_38 : Dc jdk_52_method_5_code 38 (.sipush 255) 3 41 := ⟨by decide +kernel, rfl⟩
theorem d5_41 : Dc jdk_52_method_5_code 41 (.iand) 1 42 := ⟨by decide +kernel, rfl⟩
theorem d5_42 : Dc jdk_52_method_5_code 42 (.getstatic 59) 3 45 := ⟨by decide +kernel, rfl⟩
theorem d5_45 : Dc jdk_52_method_5_code 45 (.ishl) 1 46 := ⟨by decide +kernel, rfl⟩
theorem d5_46 : Dc jdk_52_method_5_code 46 (.aload_n 0) 1 47 := ⟨by decide +kernel, rfl⟩
theorem d5_47 : Dc jdk_52_method_5_code 47 (.iload_n 1) 1 48 := ⟨by decide +kernel, rfl⟩
theorem d5_48 : Dc jdk_52_method_5_code 48 (.baload) 1 49 := ⟨by decide +kernel, rfl⟩
theorem d5_49 : Dc jdk_52_method_5_code 49 (.sipush 255) 3 52 := ⟨by decide +kernel, rfl⟩
theorem d5_52 : Dc jdk_52_method_5_code 52 (.iand) 1 53 := ⟨by decide +kernel, rfl⟩
theorem d5_53 : Dc jdk_52_method_5_code 53 (.getstatic 63) 3 56 := ⟨by decide +kernel, rfl⟩
theorem d5_56 : Dc jdk_52_method_5_code 56 (.ishl) 1 57 := ⟨by decide +kernel, rfl⟩
theorem d5_57 : Dc jdk_52_method_5_code 57 (.ior) 1 58 := ⟨by decide +kernel, rfl⟩
theorem d5_58 : Dc jdk_52_method_5_code 58 (.i2c) 1 59 := ⟨by decide +kernel, rfl⟩
theorem d5_59 : Dc jdk_52_method_5_code 59 (.ireturn) 1 60 := ⟨by decide +kernel, rfl⟩
theorem d6_0 : Dc jdk_52_method_14_code 0 (.iload_n 2) 1 1 := ⟨by decide +kernel, rfl⟩
theorem d6_1 : Dc jdk_52_method_14_code 1 (.invokestatic 107) 3 4 := ⟨by decide +kernel, rfl⟩
theorem d6_4 : Dc jdk_52_method_14_code 4 (.astore_n 3) 1 5 := ⟨by decide +kernel, rfl⟩
theorem d6_5 : Dc jdk_52_method_14_code 5 (.iconst 0) 1 6 := ⟨by decide +kernel, rfl⟩
theorem d6_6 : Dc jdk_52_method_14_code 6 (.istore 4) 2 8 := ⟨by decide +kernel, rfl⟩
theorem d6_8 : Dc jdk_52_method_14_code 8 (.iload 4) 2 10 := ⟨by decide +kernel, rfl⟩
theorem d6_10 : Dc jdk_52_method_14_code 10 (.iload_n 2) 1 11 := ⟨by decide +kernel, rfl⟩
theorem d6_11 : Db jdk_52_method_14_code 11 (.if_icmp .ge 21) 21 14 32 := ⟨by decide +kernel, rfl, by decide, by decide⟩
theorem d6_32 : Dc jdk_52_method_14_code 32 (.aload_n 3) 1 33 := ⟨by decide +kernel, rfl⟩
theorem d6_33 : Dc jdk_52_method_14_code 33 (.areturn) 1 34 := ⟨by decide +kernel, rfl⟩
theorem d6_14 : Dc jdk_52_method_14_code 14 (.aload_n 3) 1 15 := ⟨by decide +kernel, rfl⟩
theorem d6_15 : Dc jdk_52_method_14_code 15 (.iload 4) 2 17 := ⟨by decide +kernel, rfl⟩
theorem d6_17 : Dc jdk_52_method_14_code 17 (.aload_n 0) 1 18 := ⟨by decide +kernel, rfl⟩
theorem d6_18 : Dc jdk_52_method_14_code 18 (.iload_n 1) 1 19 := ⟨by decide +kernel, rfl⟩
theorem d6_19 : Dc jdk_52_method_14_code 19 (.caload) 1 20 := ⟨by decide +kernel, rfl⟩
theorem d6_20 : Dc jdk_52_method_14_code 20 (.invokestatic 111) 3 23 := ⟨by decide +kernel, rfl⟩
theorem d6_23 : Dc jdk_52_method_14_code 23 (.iinc 1 1) 3 26 := ⟨by decide +kernel, rfl⟩
theorem d6_26 : Dc jdk_52_method_14_code 26 (.iinc 4 1) 3 29 := ⟨by decide +kernel, rfl⟩
theorem d6_29 : Db jdk_52_method_14_code 29 (.goto (-21)) (-21) 32 8 := ⟨by decide +kernel, rfl, by decide, by decide⟩
theorem d7_0 : Dc jdk_52_method_16_code 0 (.iload_n 2) 1 1 := ⟨by decide +kernel, rfl⟩
theorem d7_1 : Dc jdk_52_method_16_code 1 (.newarray .byte) 2 3 := ⟨by decide +kernel, rfl⟩
theorem d7_3 : Dc jdk_52_method_16_code 3 (.astore_n 3) 1 4 := ⟨by decide +kernel, rfl⟩
theorem d7_4 : Dc jdk_52_method_16_code 4 (.aload_n 0) 1 5 := ⟨by decide +kernel, rfl⟩
theorem d7_5 : Dc jdk_52_method_16_code 5 (.iload_n 1) 1 6 := ⟨by decide +kernel, rfl⟩
theorem d7_6 : Dc jdk_52_method_16_code 6 (.aload_n 3) 1 7 := ⟨by decide +kernel, rfl⟩
theorem d7_7 : Dc jdk_52_method_16_code 7 (.iconst 0) 1 8 := ⟨by decide +kernel, rfl⟩
theorem d7_8 : Dc jdk_52_method_16_code 8 (.iload_n 2) 1 9 := ⟨by decide +kernel, rfl⟩
theorem d7_9 : Dc jdk_52_method_16_code 9 (.invokestatic 115) 3 12 := ⟨by decide +kernel, rfl⟩
theorem d7_12 : Dc jdk_52_method_16_code 12 (.istore 4) 2 14 := ⟨by decide +kernel, rfl⟩
theorem d7_14 : Dc jdk_52_method_16_code 14 (.iload 4) 2 16 := ⟨by decide +kernel, rfl⟩
theorem d7_16 : Dc jdk_52_method_16_code 16 (.iload_n 2) 1 17 := ⟨by decide +kernel, rfl⟩
theorem d7_17 : Db jdk_52_method_16_code 17 (.if_icmp .eq 40) 40 20 57 := ⟨by decide +kernel, rfl, by decide, by decide⟩
theorem d7_57 : Dc jdk_52_method_16_code 57 (.aload_n 3) 1 58 := ⟨by decide +kernel, rfl⟩
theorem d7_58 : Dc jdk_52_method_16_code 58 (.areturn) 1 59 := ⟨by decide +kernel, rfl⟩
theorem d7_20 : Dc jdk_52_method_16_code 20 (.aload_n 0) 1 21 := ⟨by decide +kernel, rfl⟩
theorem d7_21 : Dc jdk_52_method_16_code 21 (.iload_n 1) 1 22 := ⟨by decide +kernel, rfl⟩
theorem d7_22 : Dc jdk_52_method_16_code 22 (.iload_n 2) 1 23 := ⟨by decide +kernel, rfl⟩
theorem d7_23 : Dc jdk_52_method_16_code 23 (.invokestatic 119) 3 26 := ⟨by decide +kernel, rfl⟩
theorem d7_26 : Dc jdk_52_method_16_code 26 (.astore 5) 2 28 := ⟨by decide +kernel, rfl⟩
theorem d7_28 : Dc jdk_52_method_16_code 28 (.aload 5) 2 30 := ⟨by decide +kernel, rfl⟩
theorem d7_30 : Dc jdk_52_method_16_code 30 (.iload 4) 2 32 := ⟨by decide +kernel, rfl⟩
theorem d7_32 : Dc jdk_52_method_16_code 32 (.invokestatic 71) 3 35 := ⟨by decide +kernel, rfl⟩
theorem d7_35 : Dc jdk_52_method_16_code 35 (.sipush 255) 3 38 := ⟨by decide +kernel, rfl⟩
theorem d7_38 : Db jdk_52_method_16_code 38 (.if_icmp .gt 16) 16 41 54 := ⟨by decide +kernel, rfl, by decide, by decide⟩
theorem d7_54 : Dc jdk_52_method_16_code 54 (.aload 5) 2 56 := ⟨by decide +kernel, rfl⟩
theorem d7_56 : Dc jdk_52_method_16_code 56 (.areturn) 1 57 := ⟨by decide +kernel, rfl⟩
theorem d8_0 : Dc jdk_52_method_15_code 0 (.iload_n 1) 1 1 := ⟨by decide +kernel, rfl⟩
theorem d8_1 : Dc jdk_52_method_15_code 1 (.aload_n 0) 1 2 := ⟨by decide +kernel, rfl⟩
theorem d8_2 : Dc jdk_52_method_15_code 2 (.arraylength) 1 3 := ⟨by decide +kernel, rfl⟩
theorem d8_3 : Dc jdk_52_method_15_code 3 (.isub) 1 4 := ⟨by decide +kernel, rfl⟩
theorem d8_4 : Dc jdk_52_method_15_code 4 (.bipush 31) 2 6 := ⟨by decide +kernel, rfl⟩
theorem d8_6 : Dc jdk_52_method_15_code 6 (.iushr) 1 7 := ⟨by decide +kernel, rfl⟩
theorem d8_7 : Dc jdk_52_method_15_code 7 (.i2b) 1 8 := ⟨by decide +kernel, rfl⟩
theorem d8_8 : Dc jdk_52_method_15_code 8 (.ireturn) 1 9 := ⟨by decide +kernel, rfl⟩
theorem d9_0 : Dc jdk_42_method_149_code 0 (.aload_n 0) 1 1 := ⟨by decide +kernel, rfl⟩
theorem d9_1 : Dc jdk_42_method_149_code 1 (.invokespecial 1) 3 4 := ⟨by decide +kernel, rfl⟩
theorem d9_4 : Dc jdk_42_method_149_code 4 (.iload_n 3) 1 5 := ⟨by decide +kernel, rfl⟩
theorem d9_5 : Db jdk_42_method_149_code 5 (.ifCond .ne 22) 22 8 27 := ⟨by decide +kernel, rfl, by decide, by decide⟩
theorem d9_27 : Dc jdk_42_method_149_code 27 (.getstatic 38) 3 30 := ⟨by decide +kernel, rfl⟩
theorem d9_30 : Db jdk_42_method_149_code 30 (.ifCond .eq 28) 28 33 58 := ⟨by decide +kernel, rfl, by decide, by decide⟩
theorem d9_33 : Dc jdk_42_method_149_code 33 (.aload_n 1) 1 34 := ⟨by decide +kernel, rfl⟩
theorem d9_34 : Dc jdk_42_method_149_code 34 (.iload_n 2) 1 35 := ⟨by decide +kernel, rfl⟩
theorem d9_35 : Dc jdk_42_method_149_code 35 (.iload_n 3) 1 36 := ⟨by decide +kernel, rfl⟩
theorem d9_36 : Dc jdk_42_method_149_code 36 (.invokestatic 177) 3 39 := ⟨by decide +kernel, rfl⟩
theorem d9_39 : Dc jdk_42_method_149_code 39 (.astore 5) 2 41 := ⟨by decide +kernel, rfl⟩
theorem d9_41 : Dc jdk_42_method_149_code 41 (.aload_n 0) 1 42 := ⟨by decide +kernel, rfl⟩
theorem d9_42 : Dc jdk_42_method_149_code 42 (.aload 5) 2 44 := ⟨by decide +kernel, rfl⟩
theorem d9_44 : Dc jdk_42_method_149_code 44 (.iload_n 3) 1 45 := ⟨by decide +kernel, rfl⟩
theorem d9_45 : Dc jdk_42_method_149_code 45 (.invokestatic 47) 3 48 := ⟨by decide +kernel, rfl⟩
theorem d9_48 : Dc jdk_42_method_149_code 48 (.putfield 15) 3 51 := ⟨by decide +kernel, rfl⟩
theorem d9_51 : Dc jdk_42_method_149_code 51 (.aload_n 0) 1 52 := ⟨by decide +kernel, rfl⟩
theorem d9_52 : Dc jdk_42_method_149_code 52 (.aload 5) 2 54 := ⟨by decide +kernel, rfl⟩
theorem d9_54 : Dc jdk_42_method_149_code 54 (.putfield 9) 3 57 := ⟨by decide +kernel, rfl⟩
theorem d9_57 : Dc jdk_42_method_149_code 57 (.return_) 1 58 := ⟨by decide +kernel, rfl⟩
theorem d10_0 : Dc jdk_42_method_3_code 0 (.aload_n 0) 1 1 := ⟨by decide +kernel, rfl⟩
theorem d10_1 : Dc jdk_42_method_3_code 1 (.aload_n 1) 1 2 := ⟨by decide +kernel, rfl⟩
theorem d10_2 : Dc jdk_42_method_3_code 2 (.iconst 0) 1 3 := ⟨by decide +kernel, rfl⟩
theorem d10_3 : Dc jdk_42_method_3_code 3 (.aload_n 1) 1 4 := ⟨by decide +kernel, rfl⟩
theorem d10_4 : Dc jdk_42_method_3_code 4 (.arraylength) 1 5 := ⟨by decide +kernel, rfl⟩
theorem d10_5 : Dc jdk_42_method_3_code 5 (.aconst_null) 1 6 := ⟨by decide +kernel, rfl⟩
theorem d10_6 : Dc jdk_42_method_3_code 6 (.invokespecial 27) 3 9 := ⟨by decide +kernel, rfl⟩
theorem d10_9 : Dc jdk_42_method_3_code 9 (.return_) 1 10 := ⟨by decide +kernel, rfl⟩
theorem d11_0 : Dc jdk_42_method_152_code 0 (.getstatic 38) 3 3 := ⟨by decide +kernel, rfl⟩
theorem d11_3 : Db jdk_42_method_152_code 3 (.ifCond .eq 10) 10 6 13 := ⟨by decide +kernel, rfl, by decide, by decide⟩
theorem d11_6 : Dc jdk_42_method_152_code 6 (.aload_n 0) 1 7 := ⟨by decide +kernel, rfl⟩
theorem d11_7 : Dc jdk_42_method_152_code 7 (.getfield 15) 3 10 := ⟨by decide +kernel, rfl⟩
theorem d11_10 : Db jdk_42_method_152_code 10 (.goto 4) 4 13 14 := ⟨by decide +kernel, rfl, by decide, by decide⟩
theorem d11_14 : Dc jdk_42_method_152_code 14 (.ireturn) 1 15 := ⟨by decide +kernel, rfl⟩
theorem d12_0 : Dc jdk_42_method_154_code 0 (.getstatic 38) 3 3 := ⟨by decide +kernel, rfl⟩
theorem d12_3 : Db jdk_42_method_154_code 3 (.ifCond .eq 14) 14 6 17 := ⟨by decide +kernel, rfl, by decide, by decide⟩
theorem d12_6 : Dc jdk_42_method_154_code 6 (.aload_n 0) 1 7 := ⟨by decide +kernel, rfl⟩
theorem d12_7 : Dc jdk_42_method_154_code 7 (.getfield 15) 3 10 := ⟨by decide +kernel, rfl⟩
theorem d12_10 : Db jdk_42_method_154_code 10 (.ifCond .ne 7) 7 13 17 := ⟨by decide +kernel, rfl, by decide, by decide⟩
theorem d12_13 : Dc jdk_42_method_154_code 13 (.iconst 1) 1 14 := ⟨by decide +kernel, rfl⟩
theorem d12_14 : Db jdk_42_method_154_code 14 (.goto 4) 4 17 18 := ⟨by decide +kernel, rfl, by decide, by decide⟩
theorem d12_18 : Dc jdk_42_method_154_code 18 (.ireturn) 1 19 := ⟨by decide +kernel, rfl⟩
theorem d12_17 : Dc jdk_42_method_154_code 17 (.iconst 0) 1 18 := ⟨by decide +kernel, rfl⟩
theorem d13_0 : Dc jdk_42_method_54_code 0 (.aload_n 0) 1 1 := ⟨by decide +kernel, rfl⟩
theorem d13_1 : Dc jdk_42_method_54_code 1 (.getfield 9) 3 4 := ⟨by decide +kernel, rfl⟩
theorem d13_4 : Dc jdk_42_method_54_code 4 (.arraylength) 1 5 := ⟨by decide +kernel, rfl⟩
theorem d13_5 : Dc jdk_42_method_54_code 5 (.aload_n 0) 1 6 := ⟨by decide +kernel, rfl⟩
theorem d13_6 : Dc jdk_42_method_54_code 6 (.invokevirtual 335) 3 9 := ⟨by decide +kernel, rfl⟩
theorem d13_9 : Dc jdk_42_method_54_code 9 (.ishr) 1 10 := ⟨by decide +kernel, rfl⟩
theorem d13_10 : Dc jdk_42_method_54_code 10 (.ireturn) 1 11 := ⟨by decide +kernel, rfl⟩
theorem d14_0 : Dc jdk_41_method_11_code 0 (.iload_n 0) 1 1 := ⟨by decide +kernel, rfl⟩
theorem d14_1 : Db jdk_41_method_11_code 1 (.ifCond .lt 8) 8 4 9 := ⟨by decide +kernel, rfl, by decide, by decide⟩
theorem d14_4 : Dc jdk_41_method_11_code 4 (.iload_n 0) 1 5 := ⟨by decide +kernel, rfl⟩
theorem d14_5 : Dc jdk_41_method_11_code 5 (.iload_n 1) 1 6 := ⟨by decide +kernel, rfl⟩
theorem d14_6 : Db jdk_41_method_11_code 6 (.if_icmp .lt 10) 10 9 16 := ⟨by decide +kernel, rfl, by decide, by decide⟩
theorem d14_16 : Dc jdk_41_method_11_code 16 (.iload_n 0) 1 17 := ⟨by decide +kernel, rfl⟩
theorem d14_17 : Dc jdk_41_method_11_code 17 (.ireturn) 1 18 := ⟨by decide +kernel, rfl⟩
theorem d15_0 : Dc jdk_42_method_155_code 0 (.iload_n 0) 1 1 := ⟨by decide +kernel, rfl⟩
theorem d15_1 : Dc jdk_42_method_155_code 1 (.iload_n 1) 1 2 := ⟨by decide +kernel, rfl⟩
theorem d15_2 : Dc jdk_42_method_155_code 2 (.getstatic 1053) 3 5 := ⟨by decide +kernel, rfl⟩
theorem d15_5 : Dc jdk_42_method_155_code 5 (.invokestatic 1059) 3 8 := ⟨by decide +kernel, rfl⟩
theorem d15_8 : Dc jdk_42_method_155_code 8 (.pop) 1 9 := ⟨by decide +kernel, rfl⟩
theorem d15_9 : Dc jdk_42_method_155_code 9 (.return_) 1 10 := ⟨by decide +kernel, rfl⟩
theorem d16_0 : Dc jdk_43_method_2_code 0 (.iload_n 1) 1 1 := ⟨by decide +kernel, rfl⟩
theorem d16_1 : Dc jdk_43_method_2_code 1 (.aload_n 0) 1 2 := ⟨by decide +kernel, rfl⟩
theorem d16_2 : Dc jdk_43_method_2_code 2 (.arraylength) 1 3 := ⟨by decide +kernel, rfl⟩
theorem d16_3 : Dc jdk_43_method_2_code 3 (.invokestatic 9) 3 6 := ⟨by decide +kernel, rfl⟩
theorem d16_6 : Dc jdk_43_method_2_code 6 (.aload_n 0) 1 7 := ⟨by decide +kernel, rfl⟩
theorem d16_7 : Dc jdk_43_method_2_code 7 (.iload_n 1) 1 8 := ⟨by decide +kernel, rfl⟩
theorem d16_8 : Dc jdk_43_method_2_code 8 (.baload) 1 9 := ⟨by decide +kernel, rfl⟩
theorem d16_9 : Dc jdk_43_method_2_code 9 (.sipush 255) 3 12 := ⟨by decide +kernel, rfl⟩
theorem d16_12 : Dc jdk_43_method_2_code 12 (.iand) 1 13 := ⟨by decide +kernel, rfl⟩
theorem d16_13 : Dc jdk_43_method_2_code 13 (.i2c) 1 14 := ⟨by decide +kernel, rfl⟩
theorem d16_14 : Dc jdk_43_method_2_code 14 (.ireturn) 1 15 := ⟨by decide +kernel, rfl⟩
theorem d17_0 : Dc jdk_52_method_91_code 0 (.iload_n 0) 1 1 := ⟨by decide +kernel, rfl⟩
theorem d17_1 : Dc jdk_52_method_91_code 1 (.aload_n 1) 1 2 := ⟨by decide +kernel, rfl⟩
theorem d17_2 : Dc jdk_52_method_91_code 2 (.invokestatic 48) 3 5 := ⟨by decide +kernel, rfl⟩
theorem d17_5 : Dc jdk_52_method_91_code 5 (.invokestatic 414) 3 8 := ⟨by decide +kernel, rfl⟩
theorem d17_8 : Dc jdk_52_method_91_code 8 (.return_) 1 9 := ⟨by decide +kernel, rfl⟩
theorem d18_0 : Dc jdk_52_method_83_code 0 (.iload_n 1) 1 1 := ⟨by decide +kernel, rfl⟩
theorem d18_1 : Dc jdk_52_method_83_code 1 (.aload_n 0) 1 2 := ⟨by decide +kernel, rfl⟩
theorem d18_2 : Dc jdk_52_method_83_code 2 (.invokestatic 67) 3 5 := ⟨by decide +kernel, rfl⟩
theorem d18_5 : Dc jdk_52_method_83_code 5 (.aload_n 0) 1 6 := ⟨by decide +kernel, rfl⟩
theorem d18_6 : Dc jdk_52_method_83_code 6 (.iload_n 1) 1 7 := ⟨by decide +kernel, rfl⟩
theorem d18_7 : Dc jdk_52_method_83_code 7 (.invokestatic 71) 3 10 := ⟨by decide +kernel, rfl⟩
theorem d18_10 : Dc jdk_52_method_83_code 10 (.ireturn) 1 11 := ⟨by decide +kernel, rfl⟩
theorem d19_0 : Dc jdk_42_method_56_code 0 (.aload_n 0) 1 1 := ⟨by decide +kernel, rfl⟩
theorem d19_1 : Dc jdk_42_method_56_code 1 (.invokevirtual 492) 3 4 := ⟨by decide +kernel, rfl⟩
theorem d19_4 : Db jdk_42_method_56_code 4 (.ifCond .eq 12) 12 7 16 := ⟨by decide +kernel, rfl, by decide, by decide⟩
theorem d19_7 : Dc jdk_42_method_56_code 7 (.aload_n 0) 1 8 := ⟨by decide +kernel, rfl⟩
theorem d19_8 : Dc jdk_42_method_56_code 8 (.getfield 9) 3 11 := ⟨by decide +kernel, rfl⟩
theorem d19_11 : Dc jdk_42_method_56_code 11 (.iload_n 1) 1 12 := ⟨by decide +kernel, rfl⟩
theorem d19_12 : Dc jdk_42_method_56_code 12 (.invokestatic 495) 3 15 := ⟨by decide +kernel, rfl⟩
theorem d19_15 : Dc jdk_42_method_56_code 15 (.ireturn) 1 16 := ⟨by decide +kernel, rfl⟩
theorem d19_16 : Dc jdk_42_method_56_code 16 (.aload_n 0) 1 17 := ⟨by decide +kernel, rfl⟩
theorem d19_17 : Dc jdk_42_method_56_code 17 (.getfield 9) 3 20 := ⟨by decide +kernel, rfl⟩
theorem d19_20 : Dc jdk_42_method_56_code 20 (.iload_n 1) 1 21 := ⟨by decide +kernel, rfl⟩
theorem d19_21 : Dc jdk_42_method_56_code 21 (.invokestatic 498) 3 24 := ⟨by decide +kernel, rfl⟩
theorem d19_24 : Dc jdk_42_method_56_code 24 (.ireturn) 1 25 := ⟨by decide +kernel, rfl⟩
theorem d9_8 : Dc jdk_42_method_149_code 8 (.aload_n 0) 1 9 := ⟨by decide +kernel, rfl⟩
theorem d9_9 : Dc jdk_42_method_149_code 9 (.ldc 7) 2 11 := ⟨by decide +kernel, rfl⟩
theorem d9_11 : Dc jdk_42_method_149_code 11 (.getfield 9) 3 14 := ⟨by decide +kernel, rfl⟩
theorem d9_14 : Dc jdk_42_method_149_code 14 (.putfield 9) 3 17 := ⟨by decide +kernel, rfl⟩
theorem d9_17 : Dc jdk_42_method_149_code 17 (.aload_n 0) 1 18 := ⟨by decide +kernel, rfl⟩
theorem d9_18 : Dc jdk_42_method_149_code 18 (.ldc 7) 2 20 := ⟨by decide +kernel, rfl⟩
theorem d9_20 : Dc jdk_42_method_149_code 20 (.getfield 15) 3 23 := ⟨by decide +kernel, rfl⟩
theorem d9_23 : Dc jdk_42_method_149_code 23 (.putfield 15) 3 26 := ⟨by decide +kernel, rfl⟩
theorem d9_26 : Dc jdk_42_method_149_code 26 (.return_) 1 27 := ⟨by decide +kernel, rfl⟩
theorem d20_0 : Dc jdk_89_method_16_code 0 (.iload_n 0) 1 1 := ⟨by decide +kernel, rfl⟩
theorem d20_1 : Dc jdk_89_method_16_code 1 (.ldc 75) 2 3 := ⟨by decide +kernel, rfl⟩
theorem d20_3 : Db jdk_89_method_16_code 3 (.if_icmp .lt 13) 13 6 16 := ⟨by decide +kernel, rfl, by decide, by decide⟩
theorem d20_16 : Dc jdk_89_method_16_code 16 (.iconst 0) 1 17 := ⟨by decide +kernel, rfl⟩
theorem d20_17 : Dc jdk_89_method_16_code 17 (.ireturn) 1 18 := ⟨by decide +kernel, rfl⟩
theorem d20_6 : Dc jdk_89_method_16_code 6 (.iload_n 0) 1 7 := ⟨by decide +kernel, rfl⟩
theorem d20_7 : Dc jdk_89_method_16_code 7 (.ldc 77) 2 9 := ⟨by decide +kernel, rfl⟩
theorem d20_9 : Db jdk_89_method_16_code 9 (.if_icmp .ge 7) 7 12 16 := ⟨by decide +kernel, rfl, by decide, by decide⟩
theorem d20_12 : Dc jdk_89_method_16_code 12 (.iconst 1) 1 13 := ⟨by decide +kernel, rfl⟩
theorem d20_13 : Db jdk_89_method_16_code 13 (.goto 4) 4 16 17 := ⟨by decide +kernel, rfl, by decide, by decide⟩
theorem d21_0 : Dc method_2_code 0 (.iload_n 0) 1 1 := ⟨by decide +kernel, rfl⟩
theorem d21_1 : Dc method_2_code 1 (.sipush 128) 3 4 := ⟨by decide +kernel, rfl⟩
theorem d21_4 : Db method_2_code 4 (.if_icmp .ge 5) 5 7 9 := ⟨by decide +kernel, rfl, by decide, by decide⟩
theorem d21_7 : Dc method_2_code 7 (.lconst 1) 1 8 := ⟨by decide +kernel, rfl⟩
theorem d21_8 : Dc method_2_code 8 (.lreturn) 1 9 := ⟨by decide +kernel, rfl⟩
theorem d21_9 : Dc method_2_code 9 (.iload_n 0) 1 10 := ⟨by decide +kernel, rfl⟩
theorem d21_10 : Dc method_2_code 10 (.sipush 2048) 3 13 := ⟨by decide +kernel, rfl⟩
theorem d21_13 : Db method_2_code 13 (.if_icmp .ge 7) 7 16 20 := ⟨by decide +kernel, rfl, by decide, by decide⟩
theorem d21_16 : Dc method_2_code 16 (.ldc2_w 7) 3 19 := ⟨by decide +kernel, rfl⟩
theorem d21_19 : Dc method_2_code 19 (.lreturn) 1 20 := ⟨by decide +kernel, rfl⟩
theorem d21_20 : Dc method_2_code 20 (.iload_n 0) 1 21 := ⟨by decide +kernel, rfl⟩
theorem d21_21 : Dc method_2_code 21 (.ldc 9) 2 23 := ⟨by decide +kernel, rfl⟩
theorem d21_23 : Db method_2_code 23 (.if_icmp .lt 13) 13 26 36 := ⟨by decide +kernel, rfl, by decide, by decide⟩
theorem d21_36 : Dc method_2_code 36 (.ldc2_w 11) 3 39 := ⟨by decide +kernel, rfl⟩
theorem d21_39 : Dc method_2_code 39 (.lreturn) 1 40 := ⟨by decide +kernel, rfl⟩
theorem d21_26 : Dc method_2_code 26 (.iload_n 0) 1 27 := ⟨by decide +kernel, rfl⟩
theorem d21_27 : Dc method_2_code 27 (.ldc 10) 2 29 := ⟨by decide +kernel, rfl⟩
theorem d21_29 : Db method_2_code 29 (.if_icmp .gt 7) 7 32 36 := ⟨by decide +kernel, rfl, by decide, by decide⟩
theorem d21_32 : Dc method_2_code 32 (.ldc2_w 7) 3 35 := ⟨by decide +kernel, rfl⟩
theorem d21_35 : Dc method_2_code 35 (.lreturn) 1 36 := ⟨by decide +kernel, rfl⟩
theorem d22_0 : Dc prog_10_method_2_code 0 (.aload_n 0) 1 1 := ⟨by decide +kernel, rfl⟩
theorem d22_1 : Dc prog_10_method_2_code 1 (.invokeinterface 7 1) 5 6 := ⟨by decide +kernel, rfl⟩
theorem d22_6 : Dc prog_10_method_2_code 6 (.i2l) 1 7 := ⟨by decide +kernel, rfl⟩
theorem d22_7 : Dc prog_10_method_2_code 7 (.lstore_n 1) 1 8 := ⟨by decide +kernel, rfl⟩
theorem d22_8 : Dc prog_10_method_2_code 8 (.iconst 0) 1 9 := ⟨by decide +kernel, rfl⟩
theorem d22_9 : Dc prog_10_method_2_code 9 (.istore_n 3) 1 10 := ⟨by decide +kernel, rfl⟩
theorem d22_10 : Dc prog_10_method_2_code 10 (.iload_n 3) 1 11 := ⟨by decide +kernel, rfl⟩
theorem d22_11 : Dc prog_10_method_2_code 11 (.aload_n 0) 1 12 := ⟨by decide +kernel, rfl⟩
theorem d22_12 : Dc prog_10_method_2_code 12 (.invokeinterface 7 1) 5 17 := ⟨by decide +kernel, rfl⟩
theorem d22_17 : Db prog_10_method_2_code 17 (.if_icmp .ge 55) 55 20 72 := ⟨by decide +kernel, rfl, by decide, by decide⟩
theorem d22_72 : Dc prog_10_method_2_code 72 (.lload_n 1) 1 73 := ⟨by decide +kernel, rfl⟩
theorem d22_73 : Dc prog_10_method_2_code 73 (.lreturn) 1 74 := ⟨by decide +kernel, rfl⟩
theorem d22_20 : Dc prog_10_method_2_code 20 (.aload_n 0) 1 21 := ⟨by decide +kernel, rfl⟩
theorem d22_21 : Dc prog_10_method_2_code 21 (.iload_n 3) 1 22 := ⟨by decide +kernel, rfl⟩
theorem d22_22 : Dc prog_10_method_2_code 22 (.invokeinterface 13 2) 5 27 := ⟨by decide +kernel, rfl⟩
theorem d22_27 : Dc prog_10_method_2_code 27 (.istore 4) 2 29 := ⟨by decide +kernel, rfl⟩
theorem d22_66 : Dc prog_10_method_2_code 66 (.iinc 3 1) 3 69 := ⟨by decide +kernel, rfl⟩
theorem d22_69 : Db prog_10_method_2_code 69 (.goto (-59)) (-59) 72 10 := ⟨by decide +kernel, rfl, by decide, by decide⟩
theorem d22_29 : Dc prog_10_method_2_code 29 (.iload 4) 2 31 := ⟨by decide +kernel, rfl⟩
theorem d22_31 : Dc prog_10_method_2_code 31 (.sipush 2048) 3 34 := ⟨by decide +kernel, rfl⟩
theorem d22_34 : Db prog_10_method_2_code 34 (.if_icmp .lt 20) 20 37 54 := ⟨by decide +kernel, rfl, by decide, by decide⟩
theorem d22_54 : Dc prog_10_method_2_code 54 (.iload 4) 2 56 := ⟨by decide +kernel, rfl⟩
theorem d22_56 : Dc prog_10_method_2_code 56 (.sipush 128) 3 59 := ⟨by decide +kernel, rfl⟩
theorem d22_59 : Db prog_10_method_2_code 59 (.if_icmp .lt 7) 7 62 66 := ⟨by decide +kernel, rfl, by decide, by decide⟩
theorem d22_62 : Dc prog_10_method_2_code 62 (.lload_n 1) 1 63 := ⟨by decide +kernel, rfl⟩
theorem d22_63 : Dc prog_10_method_2_code 63 (.lconst 1) 1 64 := ⟨by decide +kernel, rfl⟩
theorem d22_64 : Dc prog_10_method_2_code 64 (.ladd) 1 65 := ⟨by decide +kernel, rfl⟩
theorem d22_65 : Dc prog_10_method_2_code 65 (.lstore_n 1) 1 66 := ⟨by decide +kernel, rfl⟩
theorem d22_37 : Dc prog_10_method_2_code 37 (.iload 4) 2 39 := ⟨by decide +kernel, rfl⟩
theorem d22_39 : Dc prog_10_method_2_code 39 (.invokestatic 17) 3 42 := ⟨by decide +kernel, rfl⟩
theorem d22_42 : Db prog_10_method_2_code 42 (.ifCond .ne 12) 12 45 54 := ⟨by decide +kernel, rfl, by decide, by decide⟩
theorem d22_45 : Dc prog_10_method_2_code 45 (.lload_n 1) 1 46 := ⟨by decide +kernel, rfl⟩
theorem d22_46 : Dc prog_10_method_2_code 46 (.ldc2_w 23) 3 49 := ⟨by decide +kernel, rfl⟩
theorem d22_49 : Dc prog_10_method_2_code 49 (.ladd) 1 50 := ⟨by decide +kernel, rfl⟩
theorem d22_50 : Dc prog_10_method_2_code 50 (.lstore_n 1) 1 51 := ⟨by decide +kernel, rfl⟩
theorem d22_51 : Db prog_10_method_2_code 51 (.goto 15) 15 54 66 := ⟨by decide +kernel, rfl, by decide, by decide⟩
theorem d23_0 : Dc code 0 (.iload_n 0) 1 1 := ⟨by decide +kernel, rfl⟩
theorem d23_1 : Dc code 1 (.ldc 13) 2 3 := ⟨by decide +kernel, rfl⟩
theorem d23_3 : Dc code 3 (.iand) 1 4 := ⟨by decide +kernel, rfl⟩
theorem d23_4 : Dc code 4 (.i2c) 1 5 := ⟨by decide +kernel, rfl⟩
theorem d23_5 : Dc code 5 (.istore 4) 2 7 := ⟨by decide +kernel, rfl⟩
theorem d23_7 : Dc code 7 (.iload_n 1) 1 8 := ⟨by decide +kernel, rfl⟩
theorem d23_8 : Dc code 8 (.ldc 13) 2 10 := ⟨by decide +kernel, rfl⟩
theorem d23_10 : Dc code 10 (.iand) 1 11 := ⟨by decide +kernel, rfl⟩
theorem d23_11 : Dc code 11 (.i2c) 1 12 := ⟨by decide +kernel, rfl⟩
theorem d23_12 : Dc code 12 (.istore 5) 2 14 := ⟨by decide +kernel, rfl⟩
theorem d23_14 : Dc code 14 (.iload_n 2) 1 15 := ⟨by decide +kernel, rfl⟩
theorem d23_15 : Dc code 15 (.ldc 13) 2 17 := ⟨by decide +kernel, rfl⟩
theorem d23_17 : Dc code 17 (.iand) 1 18 := ⟨by decide +kernel, rfl⟩
theorem d23_18 : Dc code 18 (.i2c) 1 19 := ⟨by decide +kernel, rfl⟩
theorem d23_19 : Dc code 19 (.istore 6) 2 21 := ⟨by decide +kernel, rfl⟩
theorem d23_21 : Dc code 21 (.iload_n 3) 1 22 := ⟨by decide +kernel, rfl⟩
theorem d23_22 : Dc code 22 (.iconst 3) 1 23 := ⟨by decide +kernel, rfl⟩
theorem d23_23 : Dc code 23 (.iand) 1 24 := ⟨by decide +kernel, rfl⟩
theorem d23_24 : Dc code 24 (.istore 7) 2 26 := ⟨by decide +kernel, rfl⟩
theorem d23_26 : Dc code 26 (.iconst 0) 1 27 := ⟨by decide +kernel, rfl⟩
theorem d23_27 : Dc code 27 (.newarray .char) 2 29 := ⟨by decide +kernel, rfl⟩
theorem d23_29 : Dc code 29 (.astore 8) 2 31 := ⟨by decide +kernel, rfl⟩
theorem d23_31 : Dc code 31 (.iconst 1) 1 32 := ⟨by decide +kernel, rfl⟩
theorem d23_32 : Dc code 32 (.newarray .char) 2 34 := ⟨by decide +kernel, rfl⟩
theorem d23_34 : Dc code 34 (.dup) 1 35 := ⟨by decide +kernel, rfl⟩
theorem d23_35 : Dc code 35 (.iconst 0) 1 36 := ⟨by decide +kernel, rfl⟩
theorem d23_36 : Dc code 36 (.iload 4) 2 38 := ⟨by decide +kernel, rfl⟩
theorem d23_38 : Dc code 38 (.castore) 1 39 := ⟨by decide +kernel, rfl⟩
theorem d23_39 : Dc code 39 (.astore 9) 2 41 := ⟨by decide +kernel, rfl⟩
theorem d23_41 : Dc code 41 (.iconst 2) 1 42 := ⟨by decide +kernel, rfl⟩
theorem d23_42 : Dc code 42 (.newarray .char) 2 44 := ⟨by decide +kernel, rfl⟩
theorem d23_44 : Dc code 44 (.dup) 1 45 := ⟨by decide +kernel, rfl⟩
theorem d23_45 : Dc code 45 (.iconst 0) 1 46 := ⟨by decide +kernel, rfl⟩
theorem d23_46 : Dc code 46 (.iload 4) 2 48 := ⟨by decide +kernel, rfl⟩
theorem d23_48 : Dc code 48 (.castore) 1 49 := ⟨by decide +kernel, rfl⟩
theorem d23_49 : Dc code 49 (.dup) 1 50 := ⟨by decide +kernel, rfl⟩
theorem d23_50 : Dc code 50 (.iconst 1) 1 51 := ⟨by decide +kernel, rfl⟩
theorem d23_51 : Dc code 51 (.iload 5) 2 53 := ⟨by decide +kernel, rfl⟩
theorem d23_53 : Dc code 53 (.castore) 1 54 := ⟨by decide +kernel, rfl⟩
theorem d23_54 : Dc code 54 (.astore 10) 2 56 := ⟨by decide +kernel, rfl⟩
theorem d23_56 : Dc code 56 (.iconst 3) 1 57 := ⟨by decide +kernel, rfl⟩
theorem d23_57 : Dc code 57 (.newarray .char) 2 59 := ⟨by decide +kernel, rfl⟩
theorem d23_59 : Dc code 59 (.dup) 1 60 := ⟨by decide +kernel, rfl⟩
theorem d23_60 : Dc code 60 (.iconst 0) 1 61 := ⟨by decide +kernel, rfl⟩
theorem d23_61 : Dc code 61 (.iload 4) 2 63 := ⟨by decide +kernel, rfl⟩
theorem d23_63 : Dc code 63 (.castore) 1 64 := ⟨by decide +kernel, rfl⟩
theorem d23_64 : Dc code 64 (.dup) 1 65 := ⟨by decide +kernel, rfl⟩
theorem d23_65 : Dc code 65 (.iconst 1) 1 66 := ⟨by decide +kernel, rfl⟩
theorem d23_66 : Dc code 66 (.iload 5) 2 68 := ⟨by decide +kernel, rfl⟩
theorem d23_68 : Dc code 68 (.castore) 1 69 := ⟨by decide +kernel, rfl⟩
theorem d23_69 : Dc code 69 (.dup) 1 70 := ⟨by decide +kernel, rfl⟩
theorem d23_70 : Dc code 70 (.iconst 2) 1 71 := ⟨by decide +kernel, rfl⟩
theorem d23_71 : Dc code 71 (.iload 6) 2 73 := ⟨by decide +kernel, rfl⟩
theorem d23_73 : Dc code 73 (.castore) 1 74 := ⟨by decide +kernel, rfl⟩
theorem d23_74 : Dc code 74 (.astore 11) 2 76 := ⟨by decide +kernel, rfl⟩
theorem d23_76 : Dc code 76 (.iload 7) 2 78 := ⟨by decide +kernel, rfl⟩
theorem d23_160 : Dc code 160 (.new 20) 3 163 := ⟨by decide +kernel, rfl⟩
theorem d23_163 : Dc code 163 (.dup) 1 164 := ⟨by decide +kernel, rfl⟩
theorem d23_164 : Dc code 164 (.aload 12) 2 166 := ⟨by decide +kernel, rfl⟩
theorem d23_169 : Dc code 169 (.astore 15) 2 171 := ⟨by decide +kernel, rfl⟩
theorem d23_171 : Dc code 171 (.aload 15) 2 173 := ⟨by decide +kernel, rfl⟩
theorem d23_173 : Dc code 173 (.invokestatic 25) 3 176 := ⟨by decide +kernel, rfl⟩
theorem d23_176 : Dc code 176 (.lload 13) 2 178 := ⟨by decide +kernel, rfl⟩
theorem d23_178 : Dc code 178 (.lcmp) 1 179 := ⟨by decide +kernel, rfl⟩
theorem d23_179 : Db code 179 (.ifCond .ne 7) 7 182 186 := ⟨by decide +kernel, rfl, by decide, by decide⟩
theorem d23_182 : Dc code 182 (.iconst 1) 1 183 := ⟨by decide +kernel, rfl⟩
theorem d23_183 : Db code 183 (.goto 4) 4 186 187 := ⟨by decide +kernel, rfl, by decide, by decide⟩
theorem d23_187 : Dc code 187 (.ireturn) 1 188 := ⟨by decide +kernel, rfl⟩
theorem d23_166 : Dc code 166 (.invokespecial 22) 3 169 := ⟨by decide +kernel, rfl⟩
theorem d23_78 : Db code 78 (.ifCond .ne 13) 13 81 91 := ⟨by decide +kernel, rfl, by decide, by decide⟩
theorem d23_81 : Dc code 81 (.aload 8) 2 83 := ⟨by decide +kernel, rfl⟩
theorem d23_83 : Dc code 83 (.astore 12) 2 85 := ⟨by decide +kernel, rfl⟩
theorem d23_85 : Dc code 85 (.lconst 0) 1 86 := ⟨by decide +kernel, rfl⟩
theorem d23_86 : Dc code 86 (.lstore 13) 2 88 := ⟨by decide +kernel, rfl⟩
theorem d23_88 : Db code 88 (.goto 72) 72 91 160 := ⟨by decide +kernel, rfl, by decide, by decide⟩
theorem d23_91 : Dc code 91 (.iload 7) 2 93 := ⟨by decide +kernel, rfl⟩
theorem d23_93 : Dc code 93 (.iconst 1) 1 94 := ⟨by decide +kernel, rfl⟩
theorem d23_94 : Db code 94 (.if_icmp .ne 17) 17 97 111 := ⟨by decide +kernel, rfl, by decide, by decide⟩
theorem d23_97 : Dc code 97 (.aload 9) 2 99 := ⟨by decide +kernel, rfl⟩
theorem d23_99 : Dc code 99 (.astore 12) 2 101 := ⟨by decide +kernel, rfl⟩
theorem d23_101 : Dc code 101 (.iload 4) 2 103 := ⟨by decide +kernel, rfl⟩
theorem d23_103 : Dc code 103 (.invokestatic 14) 3 106 := ⟨by decide +kernel, rfl⟩
theorem d23_106 : Dc code 106 (.lstore 13) 2 108 := ⟨by decide +kernel, rfl⟩
theorem d23_108 : Db code 108 (.goto 52) 52 111 160 := ⟨by decide +kernel, rfl, by decide, by decide⟩
theorem d23_111 : Dc code 111 (.iload 7) 2 113 := ⟨by decide +kernel, rfl⟩
theorem d23_113 : Dc code 113 (.iconst 2) 1 114 := ⟨by decide +kernel, rfl⟩
theorem d23_114 : Db code 114 (.if_icmp .ne 23) 23 117 137 := ⟨by decide +kernel, rfl, by decide, by decide⟩
theorem d23_117 : Dc code 117 (.aload 10) 2 119 := ⟨by decide +kernel, rfl⟩
theorem d23_119 : Dc code 119 (.astore 12) 2 121 := ⟨by decide +kernel, rfl⟩
theorem d23_121 : Dc code 121 (.iload 4) 2 123 := ⟨by decide +kernel, rfl⟩
theorem d23_123 : Dc code 123 (.invokestatic 14) 3 126 := ⟨by decide +kernel, rfl⟩
theorem d23_126 : Dc code 126 (.iload 5) 2 128 := ⟨by decide +kernel, rfl⟩
theorem d23_128 : Dc code 128 (.invokestatic 14) 3 131 := ⟨by decide +kernel, rfl⟩
theorem d23_131 : Dc code 131 (.ladd) 1 132 := ⟨by decide +kernel, rfl⟩
theorem d23_132 : Dc code 132 (.lstore 13) 2 134 := ⟨by decide +kernel, rfl⟩
theorem d23_134 : Db code 134 (.goto 26) 26 137 160 := ⟨by decide +kernel, rfl, by decide, by decide⟩
theorem d23_137 : Dc code 137 (.aload 11) 2 139 := ⟨by decide +kernel, rfl⟩
theorem d23_139 : Dc code 139 (.astore 12) 2 141 := ⟨by decide +kernel, rfl⟩
theorem d23_141 : Dc code 141 (.iload 4) 2 143 := ⟨by decide +kernel, rfl⟩
theorem d23_143 : Dc code 143 (.invokestatic 14) 3 146 := ⟨by decide +kernel, rfl⟩
theorem d23_146 : Dc code 146 (.iload 5) 2 148 := ⟨by decide +kernel, rfl⟩
theorem d23_148 : Dc code 148 (.invokestatic 14) 3 151 := ⟨by decide +kernel, rfl⟩
theorem d23_151 : Dc code 151 (.ladd) 1 152 := ⟨by decide +kernel, rfl⟩
theorem d23_152 : Dc code 152 (.iload 6) 2 154 := ⟨by decide +kernel, rfl⟩
theorem d23_154 : Dc code 154 (.invokestatic 14) 3 157 := ⟨by decide +kernel, rfl⟩
theorem d23_157 : Dc code 157 (.ladd) 1 158 := ⟨by decide +kernel, rfl⟩
theorem d23_158 : Dc code 158 (.lstore 13) 2 160 := ⟨by decide +kernel, rfl⟩
theorem strAtoms {Z : State} {a0 : Array Value} (hw : HW Z a0) : ∀ a ∈ Bundle.stringAtoms, a.before a0 Z = true := fun d hd => by
  simp only [Bundle.stringAtoms, List.mem_cons, List.not_mem_nil, or_false] at hd
  rcases hd with rfl | rfl | rfl | rfl | rfl | rfl | rfl
  · first | exact (w8 hw) | exact (w7 hw) | exact (w24 hw) | exact (w34 hw) | exact (w32 hw) | exact (w80 hw) | exact (w81 hw)
  · first | exact (w8 hw) | exact (w7 hw) | exact (w24 hw) | exact (w34 hw) | exact (w32 hw) | exact (w80 hw) | exact (w81 hw)
  · first | exact (w8 hw) | exact (w7 hw) | exact (w24 hw) | exact (w34 hw) | exact (w32 hw) | exact (w80 hw) | exact (w81 hw)
  · first | exact (w8 hw) | exact (w7 hw) | exact (w24 hw) | exact (w34 hw) | exact (w32 hw) | exact (w80 hw) | exact (w81 hw)
  · first | exact (w8 hw) | exact (w7 hw) | exact (w24 hw) | exact (w34 hw) | exact (w32 hw) | exact (w80 hw) | exact (w81 hw)
  · first | exact (w8 hw) | exact (w7 hw) | exact (w24 hw) | exact (w34 hw) | exact (w32 hw) | exact (w80 hw) | exact (w81 hw)
  · first | exact (w8 hw) | exact (w7 hw) | exact (w24 hw) | exact (w34 hw) | exact (w32 hw) | exact (w80 hw) | exact (w81 hw)

def Sts (Z : State) : Prop := (∃ cv : Int32, Sta Z Z.heap "java/lang/String" "COMPACT_STRINGS" "Z" (.int cv) ∧ ¬ cv = 0) ∧ (∃ fv : Value, Sta Z Z.heap "jdk/internal/util/Preconditions" "SIOOBE_FORMATTER" "Ljava/util/function/BiFunction;" fv ∧ fv.isRef = true) ∧
  (Sta Z Z.heap "java/lang/StringUTF16" "$assertionsDisabled" "Z" (.int 1) ∧ Sta Z Z.heap "java/lang/StringUTF16" "HI_BYTE_SHIFT" "I" (.int 0) ∧ Sta Z Z.heap "java/lang/StringUTF16" "LO_BYTE_SHIFT" "I" (.int 8)) ∧ True
/-- a sign from 0 to 255 -/
def C8 (c : Int32) : Prop := ¬ 255 < c ∧ ¬ c < 0
theorem k_and255 (p : Int32) : 0 ≤ (p &&& 255).toInt ∧ (p &&& 255).toInt ≤ 255 := by
  have h2 : (p.toBitVec &&& 255#32).toNat ≤ 255 := by rw [BitVec.toNat_and]; exact Nat.and_le_right
  have e : (p &&& 255).toInt = ((p.toBitVec &&& 255#32).toNat : Int) := by
    have h1 : (p &&& 255).toBitVec = p.toBitVec &&& 255#32 := by simp
    rw [← Int32.toInt_toBitVec, h1, BitVec.toInt_eq_toNat_of_lt (by omega)]
  omega
theorem c8_int {c : Int32} : C8 c ↔ 0 ≤ c.toInt ∧ c.toInt ≤ 255 := by
  rw [C8, Int32.lt_iff_toInt_lt, Int32.lt_iff_toInt_lt, show (255 : Int32).toInt = 255 from by decide, show (0 : Int32).toInt = 0 from by decide]; omega
theorem c8_and (p : Int32) : C8 (p &&& 255) := c8_int.mpr (k_and255 p)
theorem k_le255 (p : Int32) : ¬ (255 : Int32) < p &&& 255 := (c8_and p).1
theorem k_c255' (p : Int32) : (p &&& 255).toUInt32.toUInt16.toUInt32.toInt32 = p &&& 255 := i2c_mask p
theorem k_c255 (p : Int32) : RoadKit.nar .char (p &&& 255).toUInt32.toUInt16.toUInt32.toInt32 = p &&& 255 := by rw [i2c_mask]; exact i2c_mask p
theorem c8_nat {c : Int32} (h : C8 c) : ∃ m : Nat, m < 256 ∧ c = Int32.ofNat m := by
  have h := c8_int.mp h
  exact ⟨c.toInt.toNat, by omega, by rw [← Int32.toInt_inj, k_ofNat (by omega)]; omega⟩
theorem c8_all : ∀ m, m < 256 → Int32.ofNat m &&& 255 = Int32.ofNat m ∧ lo8 (Int32.ofNat m) &&& 255 = Int32.ofNat m := by decide +kernel
theorem c8_and_self {c : Int32} (h : C8 c) : c &&& 255 = c := by
  obtain ⟨m, hm, rfl⟩ := c8_nat h
  exact (c8_all m hm).1
theorem nar_c8 {c : Int32} (h : C8 c) : RoadKit.nar .char c = c := by
  rw [← c8_and_self h]; exact i2c_mask c
theorem b8_inj {c d : Int32} (h : C8 c) (h' : C8 d) : lo8 c = lo8 d ↔ c = d := by
  refine ⟨fun q => ?_, fun q => by rw [q]⟩
  obtain ⟨m, hm, rfl⟩ := c8_nat h
  obtain ⟨m', hm', rfl⟩ := c8_nat h'
  have := congrArg (· &&& 255) q
  rwa [(c8_all m hm).2, (c8_all m' hm').2] at this
/-! own kit, part 6: Strings of two bytes a sign -/
def C16 (c : Int32) : Prop := ¬ 65535 < c ∧ ¬ c < 0
def hi8 (c : Int32) : Int32 := lo8 (c >>> ((8 : Int32) &&& 31))
def u16 (cs : List Int32) : List Int32 := cs.flatMap fun c => [lo8 c, hi8 c]
theorem u16_nil : u16 [] = [] := rfl
theorem u16_cons (c : Int32) (cs : List Int32) : u16 (c :: cs) = lo8 c :: hi8 c :: u16 cs := rfl
theorem u16_append (cs ds : List Int32) : u16 (cs ++ ds) = u16 cs ++ u16 ds := by simp [u16]
theorem u16_len (cs : List Int32) : (u16 cs).length = 2 * cs.length := by
  induction cs with
  | nil => rfl
  | cons c cs ih => rw [u16_cons]; simp [ih]; omega
theorem u16_lo : ∀ (cs : List Int32) (i : Nat) (hi : i < cs.length), (u16 cs)[2 * i]? = some (lo8 cs[i])
  | [], i, hi => absurd hi (Nat.not_lt_zero _)
  | c :: cs, 0, hi => rfl
  | c :: cs, i + 1, hi => by
    rw [u16_cons, show 2 * (i + 1) = 2 * i + 1 + 1 by omega, List.getElem?_cons_succ, List.getElem?_cons_succ]
    exact u16_lo cs i (by simpa using hi)
theorem u16_hi : ∀ (cs : List Int32) (i : Nat) (hi : i < cs.length), (u16 cs)[2 * i + 1]? = some (hi8 cs[i])
  | [], i, hi => absurd hi (Nat.not_lt_zero _)
  | c :: cs, 0, hi => rfl
  | c :: cs, i + 1, hi => by
    rw [u16_cons, show 2 * (i + 1) + 1 = 2 * i + 1 + 1 + 1 by omega, List.getElem?_cons_succ, List.getElem?_cons_succ]
    exact u16_hi cs i (by simpa using hi)
theorem k_fill16 (cs : List Int32) (i : Nat) (hi : i < cs.length) :
    ((((u16 (cs.take i)).map Value.int ++ List.replicate (2 * (cs.length - i)) (Value.int 0)).set (2 * i) (.int (lo8 cs[i]))).set (2 * i + 1) (.int (hi8 cs[i]))) = (u16 (cs.take (i + 1))).map Value.int ++ List.replicate (2 * (cs.length - (i + 1))) (Value.int 0) := by
  have e1 : ((u16 (cs.take i)).map Value.int).length = 2 * i := by simp [u16_len]; omega
  have e2 : 2 * (cs.length - i) = 2 * (cs.length - (i + 1)) + 1 + 1 := by omega
  rw [e2, List.replicate_succ, List.replicate_succ, List.take_succ_eq_append_getElem hi, u16_append, List.map_append]
  generalize (u16 (cs.take i)).map Value.int = P at e1
  rw [List.set_append_right _ _ (by omega), List.set_append_right _ _ (by omega)]
  simp [e1, u16]
theorem k_shl1 {i : Nat} (h : 2 * i < 2 ^ 31) : Int32.ofNat i <<< ((1 : Int32) &&& 31) = Int32.ofNat (2 * i) := by
  have e : ((1 : Int32) &&& 31) = 1 := by decide
  rw [e]
  apply Int32.toBitVec_inj.mp
  apply BitVec.eq_of_toNat_eq
  rw [Int32.toBitVec_shiftLeft, show ((1 : Int32).toBitVec.smod 32) = 1#32 from by decide]
  simp only [Int32.toBitVec_ofNat', BitVec.shiftLeft_eq', BitVec.toNat_shiftLeft, BitVec.toNat_ofNat]
  rw [Nat.shiftLeft_eq, show (2 ^ (1 % 2 ^ 32)) = 2 from rfl]
  omega
theorem k_shr1 {i : Nat} (h : 2 * i < 2 ^ 31) : Int32.ofNat (2 * i) >>> ((1 : Int32) &&& 31) = Int32.ofNat i := by
  have e : ((1 : Int32) &&& 31) = 1 := by decide
  rw [e]
  apply Int32.toBitVec_inj.mp
  apply BitVec.eq_of_toNat_eq
  rw [Int32.toBitVec_shiftRight, show ((1 : Int32).toBitVec.smod 32) = 1#32 from by decide]
  have hm : (BitVec.ofNat 32 (2 * i)).msb = false := by rw [BitVec.msb_eq_false_iff_two_mul_lt, BitVec.toNat_ofNat]; omega
  simp only [Int32.toBitVec_ofNat', BitVec.sshiftRight_eq', BitVec.sshiftRight_eq_of_msb_false hm, BitVec.toNat_ushiftRight, BitVec.toNat_ofNat, Nat.shiftRight_eq_div_pow]
  rw [show (2 ^ (1 % 2 ^ 32)) = 2 from rfl]
  omega
theorem c16_int {c : Int32} : C16 c ↔ 0 ≤ c.toInt ∧ c.toInt ≤ 65535 := by
  rw [C16, Int32.lt_iff_toInt_lt, Int32.lt_iff_toInt_lt, show (65535 : Int32).toInt = 65535 from by decide, show (0 : Int32).toInt = 0 from by decide]; omega
theorem c16_nat {c : Int32} (h : C16 c) : ∃ m : Nat, m < 65536 ∧ c = Int32.ofNat m := by
  have h := c16_int.mp h
  exact ⟨c.toInt.toNat, by omega, by rw [← Int32.toInt_inj, k_ofNat (by omega)]; omega⟩
theorem nar_c16 {c : Int32} (h : C16 c) : RoadKit.nar .char c = c := by
  obtain ⟨m, hm, rfl⟩ := c16_nat h
  apply Int32.toBitVec_inj.mp
  apply BitVec.eq_of_toNat_eq
  show (Int32.ofNat m).toUInt32.toUInt16.toUInt32.toNat = _
  rw [UInt16.toNat_toUInt32, UInt32.toNat_toUInt16]
  show (BitVec.ofNat 32 m).toNat % 2 ^ 16 = (BitVec.ofNat 32 m).toNat
  rw [BitVec.toNat_ofNat]
  omega
theorem lo8_and (c : Int32) : lo8 c &&& 255 = c &&& 255 := by
  apply Int32.toBitVec_inj.mp
  simp only [lo8, Int32.toBitVec_and, Int8.toBitVec_toInt32, Int32.toBitVec_toInt8]
  apply BitVec.eq_of_getLsbD_eq
  intro i hi
  have : i < 8 ∨ 8 ≤ i := by omega
  rcases this with q | q
  · rw [BitVec.getLsbD_and, BitVec.getLsbD_and, BitVec.getLsbD_signExtend, BitVec.getLsbD_signExtend]
    simp [q, hi, show i < 32 by omega]
  · have e : ((255 : Int32).toBitVec).getLsbD i = false := by
      have : ∀ j, j < 32 → 8 ≤ j → ((255 : Int32).toBitVec).getLsbD j = false := by decide
      exact this i hi q
    rw [BitVec.getLsbD_and, BitVec.getLsbD_and, e]; simp
theorem and255_nat (m : Nat) (h : m < 65536) : Int32.ofNat m &&& 255 = Int32.ofNat (m % 256) := by
  apply Int32.toBitVec_inj.mp
  apply BitVec.eq_of_toNat_eq
  simp only [Int32.toBitVec_and, BitVec.toNat_and, Int32.toBitVec_ofNat', BitVec.toNat_ofNat]
  rw [show ((255 : Int32).toBitVec).toNat = 2 ^ 8 - 1 from by decide, Nat.and_two_pow_sub_one_eq_mod]
  omega
theorem shr8_nat {m : Nat} (h : m < 65536) : Int32.ofNat m >>> ((8 : Int32) &&& 31) = Int32.ofNat (m / 256) := by
  have e : ((8 : Int32) &&& 31) = 8 := by decide
  rw [e]
  apply Int32.toBitVec_inj.mp
  apply BitVec.eq_of_toNat_eq
  rw [Int32.toBitVec_shiftRight, show ((8 : Int32).toBitVec.smod 32) = 8#32 from by decide]
  have hm : (BitVec.ofNat 32 m).msb = false := by rw [BitVec.msb_eq_false_iff_two_mul_lt, BitVec.toNat_ofNat]; omega
  simp only [Int32.toBitVec_ofNat', BitVec.sshiftRight_eq', BitVec.sshiftRight_eq_of_msb_false hm, BitVec.toNat_ushiftRight, BitVec.toNat_ofNat, Nat.shiftRight_eq_div_pow]
  rw [show (2 ^ (8 % 2 ^ 32)) = 256 from rfl]
  omega
theorem k_get16 {c : Int32} (h : C16 c) : (((lo8 c &&& 255) <<< ((0 : Int32) &&& 31)) ||| ((hi8 c &&& 255) <<< ((8 : Int32) &&& 31))).toUInt32.toUInt16.toUInt32.toInt32 = c := by
  have e : (((lo8 c &&& 255) <<< ((0 : Int32) &&& 31)) ||| ((hi8 c &&& 255) <<< ((8 : Int32) &&& 31))) = c := by
    obtain ⟨m, hm, rfl⟩ := c16_nat h
    rw [hi8, lo8_and, lo8_and, shr8_nat hm, and255_nat m hm, and255_nat _ (by omega)]
    apply Int32.toBitVec_inj.mp
    apply BitVec.eq_of_toNat_eq
    rw [show ((0 : Int32) &&& 31) = 0 from by decide, show ((8 : Int32) &&& 31) = 8 from by decide]
    simp only [Int32.toBitVec_or, Int32.toBitVec_shiftLeft, show ((8 : Int32).toBitVec.smod 32) = 8#32 from by decide, show ((0 : Int32).toBitVec.smod 32) = 0#32 from by decide, Int32.toBitVec_ofNat', BitVec.shiftLeft_eq', BitVec.toNat_or, BitVec.toNat_shiftLeft, BitVec.toNat_ofNat]
    rw [show (8 % 2 ^ 32) = 8 from rfl, show (0 % 2 ^ 32) = 0 from rfl, Nat.shiftLeft_zero, Nat.shiftLeft_eq]
    rw [show m % 256 % 2 ^ 32 % 2 ^ 32 = m % 256 by omega, show (m / 256 % 256 % 2 ^ 32 * 2 ^ 8) % 2 ^ 32 = 2 ^ 8 * (m / 256) by omega, Nat.or_comm, ← Nat.two_pow_add_eq_or_of_lt (by omega)]
    omega
  rw [e]
  exact nar_c16 h
theorem k_b8_255 {c : Int32} (h1 : C16 c) (h2 : ¬ 255 < c) : lo8 c &&& 255 = c := by
  rw [lo8_and]; exact c8_and_self ⟨h2, h1.2⟩
/-- a String of these signs, in the one form or the other -/
def StrC (Z : State) (h : Heap) (N : Nat) (a : Addr) (cs : List Int32) : Prop :=
  (∀ c ∈ cs, C16 c) ∧ (((∀ c ∈ cs, ¬ 255 < c) ∧ Str Z h N a 0 (cs.map lo8)) ∨ Str Z h N a 1 (u16 cs))
theorem StrC.keep {Z : State} {h h' : Heap} {N : Nat} {a : Addr} {cs : List Int32} {ws : List Addr} (S : StrC Z h N a cs) (K : Keep h h' ws) (q : ∀ z ∈ ws, N ≤ z) : StrC Z h' N a cs := ⟨S.1, S.2.imp (fun r => ⟨r.1, r.2.keep K q⟩) (fun r => r.keep K q)⟩
theorem StrC.ext {Z : State} {h h' : Heap} {N : Nat} {a : Addr} {cs : List Int32} (S : StrC Z h N a cs) (E : Ext h h') : StrC Z h' N a cs := ⟨S.1, S.2.imp (fun r => ⟨r.1, r.2.ext E⟩) (fun r => r.ext E)⟩
theorem StrC.mono {Z : State} {h : Heap} {N N' : Nat} {a : Addr} {cs : List Int32} (S : StrC Z h N a cs) (q : N ≤ N') : StrC Z h N' a cs := ⟨S.1, S.2.imp (fun r => ⟨r.1, r.2.mono q⟩) (fun r => r.mono q)⟩
theorem StrC.exa {Z : State} {h : Heap} {N : Nat} {a : Addr} {cs : List Int32} (S : StrC Z h N a cs) : Exa Z h a "java/lang/String" := by rcases S.2 with r | r <;> first | exact r.2.exa | exact r.exa
theorem StrC.lt {Z : State} {h : Heap} {N : Nat} {a : Addr} {cs : List Int32} (S : StrC Z h N a cs) : @LT.lt Nat _ a N := by rcases S.2 with r | r <;> first | exact r.2.lt | exact r.lt
theorem StrC.len {Z : State} {h : Heap} {N : Nat} {a : Addr} {cs : List Int32} (S : StrC Z h N a cs) : cs.length < 2 ^ 31 := by
  rcases S.2 with r | r
  · simpa using r.2.len
  · have := r.len; rw [u16_len] at this; omega
theorem c16_and (p : Int32) : C16 (p &&& 65535) := by
  have h2 : (p.toBitVec &&& 65535#32).toNat ≤ 65535 := by rw [BitVec.toNat_and]; exact Nat.and_le_right
  have e : (p &&& 65535).toInt = ((p.toBitVec &&& 65535#32).toNat : Int) := by
    have h1 : (p &&& 65535).toBitVec = p.toBitVec &&& 65535#32 := by simp
    rw [← Int32.toInt_toBitVec, h1, BitVec.toInt_eq_toNat_of_lt (by omega)]
  exact c16_int.mpr (by omega)
theorem k_and3 (x : Int32) : x &&& 3 = 0 ∨ x &&& 3 = 1 ∨ x &&& 3 = 2 ∨ x &&& 3 = 3 := by
  have h2 : (x.toBitVec &&& 3#32).toNat ≤ 3 := by rw [BitVec.toNat_and]; exact Nat.and_le_right
  have e : x &&& 3 = Int32.ofNat (x.toBitVec &&& 3#32).toNat := by
    apply Int32.toBitVec_inj.mp
    simp
  rw [e]
  generalize (x.toBitVec &&& 3#32).toNat = m at h2
  have : m = 0 ∨ m = 1 ∨ m = 2 ∨ m = 3 := by omega
  rcases this with rfl | rfl | rfl | rfl <;> decide
theorem k_sign_all : ∀ m, m < 1000 → 0 < m → Jvm.Free.XT.ushr (Int32.ofNat m - Int32.ofNat (2 * m)) 31 = 1 := by decide +kernel
theorem k_sign {m : Nat} (hp : 0 < m) (hm : m < 1000) : Jvm.Free.XT.ushr (Int32.ofNat m - Int32.ofNat (2 * m)) 31 = 1 := k_sign_all m hm hp
theorem u16_drop : ∀ (cs : List Int32) (f : Nat), (u16 cs).drop (2 * f) = u16 (cs.drop f)
  | [], f => by simp [u16]
  | c :: cs, 0 => rfl
  | c :: cs, f + 1 => by
    rw [u16_cons, show 2 * (f + 1) = 2 * f + 1 + 1 by omega]
    simpa using u16_drop cs f
theorem u16_take : ∀ (cs : List Int32) (m : Nat), (u16 cs).take (2 * m) = u16 (cs.take m)
  | [], m => by simp [u16]
  | c :: cs, 0 => rfl
  | c :: cs, m + 1 => by
    rw [u16_cons, show 2 * (m + 1) = 2 * m + 1 + 1 by omega, List.take_succ_cons, List.take_succ_cons, u16_take cs m]
    rfl
theorem k_or3 {f m n : Nat} (hf : f < 2 ^ 31) (hm : m < 2 ^ 31) (hn : n < 2 ^ 31) : ¬ (Int32.ofNat n ||| Int32.ofNat f ||| Int32.ofNat m) < 0 := by
  have e : (Int32.ofNat n ||| Int32.ofNat f ||| Int32.ofNat m) = Int32.ofNat (n ||| f ||| m) := by
    apply Int32.toBitVec_inj.mp
    simp [Int32.toBitVec_ofNat', BitVec.ofNat_or]
  have : n ||| f ||| m < 2 ^ 31 := Nat.or_lt_two_pow (Nat.or_lt_two_pow hn hf) hm
  rw [e, Int32.lt_iff_toInt_lt, k_ofNat this, show (0 : Int32).toInt = 0 from by decide]
  omega
theorem c8_lt {c : Int32} (h : C8 c) : c < 65536 := by
  have h := c8_int.mp h
  rw [Int32.lt_iff_toInt_lt, show (65536 : Int32).toInt = 65536 from by decide]; omega

def wid (c : Int32) : Int64 := if c < 128 then 1 else if c < 2048 then 2 else if c < 55296 then 3 else if 57343 < c then 3 else 2
def wids (cs : List Int32) : Int64 := (cs.map wid).sum
theorem k_i2l {n : Nat} (h : n < 2 ^ 31) : (Int32.ofNat n).toInt64 = n.toInt64 := by
  apply Int64.toInt_inj.mp
  rw [Int32.toInt_toInt64, k_ofNat h]
  exact (Int64.toInt_ofNat_of_lt (by omega)).symm
theorem k_surr {c : Int32} (h : ¬ (¬ c < 55296 ∧ c < 57344)) : (if c < 55296 then (0 : Int32) else if c < 57344 then 1 else 0) = 0 := by
  by_cases g : c < 55296
  · rw [if_pos g]
  · rw [if_neg g, if_neg (fun q => h ⟨g, q⟩)]
theorem sum_snoc (l : List Int64) (x : Int64) : (l ++ [x]).sum = l.sum + x := by
  induction l with
  | nil => simp
  | cons a l ih => rw [List.cons_append, List.sum_cons, List.sum_cons, ih, Int64.add_assoc]
theorem wids_take {cs : List Int32} {i : Nat} (hil : i < cs.length) : wids (cs.take (i + 1)) = wids (cs.take i) + wid cs[i] := by
  unfold wids
  rw [List.take_succ_eq_append_getElem hil, List.map_append]
  exact sum_snoc _ _
theorem drop_len {cs : List Int32} {i : Nat} (hil : i < cs.length) : ((cs.drop i).length.toInt64 : Int64) = (cs.drop (i + 1)).length.toInt64 + 1 := by
  have : (cs.drop i).length = (cs.drop (i + 1)).length + 1 := by simp; omega
  rw [this]; exact Int64.ofNat_add _ _
theorem wids_step {cs : List Int32} {i : Nat} (hil : i < cs.length) {k : Int64} (hk : wid cs[i] = 1 + k) : wids (cs.take i) + (cs.drop i).length.toInt64 + k = wids (cs.take (i + 1)) + (cs.drop (i + 1)).length.toInt64 := by
  rw [wids_take hil, drop_len hil, hk]; ac_rfl
theorem wids_step0 {cs : List Int32} {i : Nat} (hil : i < cs.length) (h : cs[i] < 128) : wids (cs.take i) + (cs.drop i).length.toInt64 = wids (cs.take (i + 1)) + (cs.drop (i + 1)).length.toInt64 := by
  have := wids_step hil (k := 0) (by rw [wid, if_pos h]; rfl)
  simpa using this
theorem i32lt {a b : Int32} : a < b ↔ a.toInt < b.toInt := Int32.lt_iff_toInt_lt
theorem wids_step1 {cs : List Int32} {i : Nat} (hil : i < cs.length) (h : ¬ cs[i] < 128) (hl : cs[i] < 2048 ∨ ¬ cs[i] < 55296 ∧ cs[i] < 57344) : wids (cs.take i) + (cs.drop i).length.toInt64 + 1 = wids (cs.take (i + 1)) + (cs.drop (i + 1)).length.toInt64 := by
  refine wids_step hil ?_
  rw [wid, if_neg h]
  rcases hl with q | ⟨q1, q2⟩
  · rw [if_pos q]; rfl
  · by_cases q : cs[i] < 2048
    · rw [if_pos q]; rfl
    · rw [if_neg q, if_neg q1, if_neg (by rw [i32lt] at q2 ⊢; rw [show (57344 : Int32).toInt = 57344 from by decide] at q2; rw [show (57343 : Int32).toInt = 57343 from by decide]; omega)]; rfl
theorem wids_step2 {cs : List Int32} {i : Nat} (hil : i < cs.length) (h : ¬ cs[i] < 2048) (hs : ¬ (¬ cs[i] < 55296 ∧ cs[i] < 57344)) : wids (cs.take i) + (cs.drop i).length.toInt64 + 2 = wids (cs.take (i + 1)) + (cs.drop (i + 1)).length.toInt64 := by
  refine wids_step hil ?_
  have h1 : ¬ cs[i] < 128 := by
    rw [i32lt] at h ⊢; rw [show (2048 : Int32).toInt = 2048 from by decide] at h; rw [show (128 : Int32).toInt = 128 from by decide]; omega
  rw [wid, if_neg h1, if_neg h]
  by_cases q : cs[i] < 55296
  · rw [if_pos q]; rfl
  · have q2 : ¬ cs[i] < 57344 := fun g => hs ⟨q, g⟩
    rw [if_neg q, if_pos (by rw [i32lt] at q2 ⊢; rw [show (57344 : Int32).toInt = 57344 from by decide] at q2; rw [show (57343 : Int32).toInt = 57343 from by decide]; omega)]; rfl
set_option maxRecDepth 65536 in
set_option maxHeartbeats 40000000 in
theorem c_compress5 {nw : Bool} {l : Launch} {Z : State} {EL : List (String × Nat)} {a0 : Array Value} (hw : HW Z a0) (hs : Sts Z) {h0 : Heap} {B0 : BP} (a1 a2 : Addr) (cs : List Int32) (Aa : Ay Z h0 a1 .char (cs.map Value.int)) (Ab : Ay Z h0 a2 .byte (List.replicate cs.length (.int 0))) (ne : @Ne Nat a1 a2) (nb : ¬ B0 a2) (zl : Z.heap.size ≤ a2) :
    Con nw l Z EL (⟨"java/lang/StringUTF16", "compress", "([CI[BII)I"⟩ : MethodName) jdk_52_method_21_code 7 (some .int) [] ({ frames := 0, cells := 0, slots := 0, locals := 0 } : Room) #[(.ref a1), (.int (0 : Int32)), (.ref a2), (.int (0 : Int32)), (.int (Int32.ofNat cs.length))] h0 B0 [a2] (fun v h B => ∃ i, i ≤ cs.length ∧ v = some (.int (Int32.ofNat i)) ∧ B0 = B ∧ (∀ c ∈ cs.take i, ¬ 255 < c) ∧ (∀ hi : i < cs.length, 255 < cs[i]) ∧ Ay Z h a2 .byte ((cs.take i).map (fun c => Value.int (lo8 c)) ++ List.replicate (cs.length - i) (.int 0))) := by
  refine k_intro (Ls := #[.val (.ref a1), .val (.int (0 : Int32)), .val (.ref a2), .val (.int (0 : Int32)), .val (.int (Int32.ofNat cs.length)), .unset, .unset]) (by decide +kernel) rfl fun x T0 X0 => ?_
  have hlen : cs.length < 2 ^ 31 := by simpa using Aa.len
  refine g_iconst X0 (0 : Int32) d0_0 (by decide) ?_
  refine g_istore X0 #[.val (.ref a1), .val (.int (0 : Int32)), .val (.ref a2), .val (.int (0 : Int32)), .val (.int (Int32.ofNat cs.length)), .val (.int (0 : Int32)), .unset] d0_1 rfl ?_
  have loop : ∀ (d i : Nat) (hi : i + d = cs.length) (s6 : Slot) (h6 : LS s6) (T : State) (h : Heap) (X : Wk nw l Z EL "java/lang/StringUTF16" jdk_52_method_21_code 7 (some .int) "compress" ({ frames := 0, cells := 0, slots := 0, locals := 0 } : Room) h0 B0 [a2] (fun v h B => ∃ i, i ≤ cs.length ∧ v = some (.int (Int32.ofNat i)) ∧ B0 = B ∧ (∀ c ∈ cs.take i, ¬ 255 < c) ∧ (∀ hi : i < cs.length, 255 < cs[i]) ∧ Ay Z h a2 .byte ((cs.take i).map (fun c => Value.int (lo8 c)) ++ List.replicate (cs.length - i) (.int 0))) x T h B0 0 0) (hlo : ∀ c ∈ cs.take i, ¬ 255 < c) (A : Ay Z h a2 .byte ((cs.take i).map (fun c => Value.int (lo8 c)) ++ List.replicate (cs.length - i) (.int 0))), Go x (T.setTop (mkF x.m 3 #[.val (.ref a1), .val (.int (Int32.ofNat i)), .val (.ref a2), .val (.int (Int32.ofNat i)), .val (.int (Int32.ofNat cs.length)), .val (.int (Int32.ofNat i)), s6] [])) := by
    intro d
    induction d with
    | zero =>
      intro i hi s6 h6 T h X hlo A
      obtain rfl : i = cs.length := by omega
      refine g_iload X d0_3 rfl ?_
      refine g_iload X d0_5 rfl ?_
      refine g_icmpT X d0_7 (XT.ii_ge_t (k_nlt (Nat.le_refl _) hlen)) ?_
      refine g_iload X d0_44 rfl ?_
      exact g_ireturnI X d0_46 (by decide) (by decide) ⟨cs.length, Nat.le_refl _, rfl, rfl, hlo, fun hi => absurd hi (Nat.lt_irrefl _), A⟩
    | succ d ih =>
      intro i hi s6 h6 T h X hlo A
      have hil : i < cs.length := by omega
      refine g_iload X d0_3 rfl ?_
      refine g_iload X d0_5 rfl ?_
      refine g_icmpF X d0_7 (XT.ii_ge_f (k_lt hil hlen)) ?_
      refine g_aloadN X d0_10 rfl rfl ?_
      refine g_iloadN X d0_11 rfl ?_
      have Aa' := Aa.keep X.kept (ninS ne nin0)
      refine g_caload X d0_12 Aa' i rfl (v := .int cs[i]) (by simp [hil]) ?_
      refine g_istore X #[.val (.ref a1), .val (.int (Int32.ofNat i)), .val (.ref a2), .val (.int (Int32.ofNat i)), .val (.int (Int32.ofNat cs.length)), .val (.int (Int32.ofNat i)), .val (.int (cs[i]))] d0_13 (by rcases h6 with rfl | ⟨u, rfl⟩ <;> rfl) ?_
      refine g_iload X d0_15 rfl ?_
      refine g_sipush X (255 : Int32) d0_17 (by decide) ?_
      by_cases hb : (255 : Int32) < (cs[i])
      ·
        refine g_icmpF X d0_20 (XT.ii_le_f hb) ?_
        refine g_iload X d0_23 rfl ?_
        exact g_ireturnI X d0_25 (by decide) (by decide) ⟨i, Nat.le_of_lt hil, rfl, rfl, hlo, fun _ => hb, A⟩
      ·
        refine g_icmpT X d0_20 (XT.ii_le_t hb) ?_
        refine g_aloadN X d0_26 rfl rfl ?_
        refine g_iloadN X d0_27 rfl ?_
        refine g_iload X d0_28 rfl ?_
        refine g_i2b X (lo8 cs[i]) d0_30 rfl ?_
        refine g_bastore X d0_31 A i rfl (lo8 cs[i]) (nar_b8 _) (by simp; omega) nb zl (Or.inl (List.mem_of_getElem? (i := 0) rfl)) fun T1 h1 X1 K1 A1 => ?_
        have z1 := K1.1
        rw [k_fill cs lo8 i hil] at A1
        refine g_iinc X1 #[.val (.ref a1), .val (.int (Int32.ofNat (i + 1))), .val (.ref a2), .val (.int (Int32.ofNat i)), .val (.int (Int32.ofNat cs.length)), .val (.int (Int32.ofNat i)), .val (.int (cs[i]))] d0_32 rfl (k_inc i) rfl ?_
        refine g_iinc X1 #[.val (.ref a1), .val (.int (Int32.ofNat (i + 1))), .val (.ref a2), .val (.int (Int32.ofNat (i + 1))), .val (.int (Int32.ofNat cs.length)), .val (.int (Int32.ofNat i)), .val (.int (cs[i]))] d0_35 rfl (k_inc i) rfl ?_
        refine g_iinc X1 #[.val (.ref a1), .val (.int (Int32.ofNat (i + 1))), .val (.ref a2), .val (.int (Int32.ofNat (i + 1))), .val (.int (Int32.ofNat cs.length)), .val (.int (Int32.ofNat (i + 1))), .val (.int (cs[i]))] d0_38 rfl (k_inc i) rfl ?_
        refine g_goto X1 d0_41 ?_
        refine ih (i + 1) (by omega) (.val (.int cs[i])) (Or.inr ⟨_, rfl⟩) T1 h1 X1 ?_ A1
        intro c hc
        rw [List.take_succ_eq_append_getElem hil] at hc
        rcases List.mem_append.mp hc with q | q
        · exact hlo c q
        · rw [List.mem_singleton.mp q]; exact hb
  exact loop cs.length 0 (by omega) .unset (Or.inl rfl) T0 h0 X0 (fun c q => by simp at q) (by simpa using Ab)
set_option maxRecDepth 65536 in
set_option maxHeartbeats 40000000 in
theorem c_nbl {nw : Bool} {l : Launch} {Z : State} {EL : List (String × Nat)} {a0 : Array Value} (hw : HW Z a0) (hs : Sts Z) {h0 : Heap} {B0 : BP} (m : Nat) (hm : m < 1000) :
    Con nw l Z EL (⟨"java/lang/StringUTF16", "newBytesLength", "(I)I"⟩ : MethodName) jdk_52_method_3_code 1 (some .int) [] ({ frames := 0, cells := 0, slots := 0, locals := 0 } : Room) #[(.int (Int32.ofNat m))] h0 B0 [] (PQ (some (.int (Int32.ofNat (2 * m)))) h0 B0) := by
  refine k_intro (Ls := #[.val (.int (Int32.ofNat m))]) (by decide +kernel) rfl fun x T0 X0 => ?_
  refine g_iloadN X0 d1_0 rfl ?_
  refine g_ifT X0 d1_1 (XT.i0_ge_t (k_nn (by omega))) ?_
  refine g_iloadN X0 d1_12 rfl ?_
  refine g_ldcI X0 d1_13 (w94 hw) ?_
  refine g_icmpT X0 d1_15 (XT.ii_lt_t (k_lt (j := 1073741823) (by omega) (by decide))) ?_
  refine g_iloadN X0 d1_55 rfl ?_
  refine g_iconst X0 (1 : Int32) d1_56 (by decide) ?_
  refine g_ishl X0 (Int32.ofNat (2 * m)) d1_57 (k_shl1 (by omega)) ?_
  exact g_ireturnI X0 d1_58 (by decide) (by decide) ⟨rfl, rfl, rfl⟩
set_option maxRecDepth 65536 in
set_option maxHeartbeats 40000000 in
theorem c_nbf {nw : Bool} {l : Launch} {Z : State} {EL : List (String × Nat)} {a0 : Array Value} (hw : HW Z a0) (hs : Sts Z) {h0 : Heap} {B0 : BP} (m : Nat) (hm : m ≤ 3) :
    Con nw l Z EL (⟨"java/lang/StringUTF16", "newBytesFor", "(I)[B"⟩ : MethodName) jdk_52_method_2_code 1 (some (.array .byte)) [] ({ frames := 1, cells := 1, slots := 6, locals := 12 } : Room) #[(.int (Int32.ofNat m))] h0 B0 [] (fun v h B => ∃ t, v = some (.ref t) ∧ B0 = B ∧ h0.size ≤ t ∧ ¬ B t ∧ Ay Z h t .byte (List.replicate (2 * m) (.int 0))) := by
  refine k_intro (Ls := #[.val (.int (Int32.ofNat m))]) (by decide +kernel) rfl fun x T0 X0 => ?_
  refine g_iloadN X0 d2_0 rfl ?_
  refine g_callSp X0 d2_1 (w91 hw) (w92 hw) (w22 hw) (w93 hw) (by decide) pd0 [(.int (Int32.ofNat m))] [] 0 (c_nbl hw hs m (by omega)) rfl rfl rfl (Nat.le_of_eq rfl) (by decide) (by decide) 0 0 rfl rfl (by decide) (by decide) fun T1 X1 => ?_
  refine g_newarray X1 d2_4 rfl (w24 hw) (2 * m) 6 rfl (by omega) (by decide) 1 6 rfl rfl (by decide) (by decide) fun T2 h2 b2 X2 E2 eb2 nb2 A2 => ?_
  have z2 := E2.1; have lt2 : @LT.lt Nat _ b2 h2.size := A2.lt; have zl2 : @LE.le Nat _ Z.heap.size b2 := eb2 ▸ X1.szZ; have fr2 : @LE.le Nat _ h0.size b2 := eb2 ▸ X1.sz
  exact g_areturn X2 d2_6 rfl rfl rfl (by decide) (by decide) ⟨_, rfl, rfl, fr2, nb2, A2⟩
set_option maxRecDepth 65536 in
set_option maxHeartbeats 40000000 in
theorem c_len16 {nw : Bool} {l : Launch} {Z : State} {EL : List (String × Nat)} {a0 : Array Value} (hw : HW Z a0) (hs : Sts Z) {h0 : Heap} {B0 : BP} (t : Addr) (m : Nat) (vs : List Value) (A : Ay Z h0 t .byte vs) (hm : vs.length = 2 * m) :
    Con nw l Z EL (⟨"java/lang/StringUTF16", "length", "([B)I"⟩ : MethodName) jdk_52_method_6_code 1 (some .int) [] ({ frames := 0, cells := 0, slots := 0, locals := 0 } : Room) #[(.ref t)] h0 B0 [] (PQ (some (.int (Int32.ofNat m))) h0 B0) := by
  refine k_intro (Ls := #[.val (.ref t)]) (by decide +kernel) rfl fun x T0 X0 => ?_
  have hl := A.len
  refine g_aloadN X0 d3_0 rfl rfl ?_
  refine g_arraylength X0 d3_1 A (Int32.ofNat (2 * m)) (by rw [hm]) ?_
  refine g_iconst X0 (1 : Int32) d3_2 (by decide) ?_
  refine g_ishr X0 (Int32.ofNat m) d3_3 (k_shr1 (by omega)) ?_
  exact g_ireturnI X0 d3_4 (by decide) (by decide) ⟨rfl, rfl, rfl⟩
set_option maxRecDepth 65536 in
set_option maxHeartbeats 40000000 in
theorem c_putChar {nw : Bool} {l : Launch} {Z : State} {EL : List (String × Nat)} {a0 : Array Value} (hw : HW Z a0) (hs : Sts Z) {h0 : Heap} {B0 : BP} (t : Addr) (i : Nat) (c : Int32) (vs : List Value) (A : Ay Z h0 t .byte vs) (hi : 2 * i + 1 < vs.length) (nb : ¬ B0 t) (zl : Z.heap.size ≤ t) :
    Con nw l Z EL (⟨"java/lang/StringUTF16", "putChar", "([BII)V"⟩ : MethodName) jdk_52_method_4_code 3 none [] ({ frames := 0, cells := 0, slots := 0, locals := 0 } : Room) #[(.ref t), (.int (Int32.ofNat i)), (.int c)] h0 B0 [t] (fun v h B => v = none ∧ B0 = B ∧ Ay Z h t .byte ((vs.set (2 * i) (.int (lo8 c))).set (2 * i + 1) (.int (hi8 c)))) := by
  refine k_intro (Ls := #[.val (.ref t), .val (.int (Int32.ofNat i)), .val (.int c)]) (by decide +kernel) rfl fun x T0 X0 => ?_
  obtain ⟨sAD, sHI, sLO⟩ := hs.2.2.1
  have hl := A.len
  refine g_getstatic X0 d4_0 (w98 hw) Via.refl sAD fun T1 X1 => ?_
  refine g_ifT X1 d4_3 (by decide) ?_
  refine g_iloadN X1 d4_28 rfl ?_
  refine g_iconst X1 (1 : Int32) d4_29 (by decide) ?_
  refine g_ishl X1 (Int32.ofNat (2 * i)) d4_30 (k_shl1 (by omega)) ?_
  refine g_istoreN X1 #[.val (.ref t), .val (.int (Int32.ofNat (2 * i))), .val (.int c)] d4_31 rfl ?_
  refine g_aloadN X1 d4_32 rfl rfl ?_
  refine g_iloadN X1 d4_33 rfl ?_
  refine g_iinc X1 #[.val (.ref t), .val (.int (Int32.ofNat (2 * i + 1))), .val (.int c)] d4_34 rfl (k_inc _) rfl ?_
  refine g_iloadN X1 d4_37 rfl ?_
  refine g_getstatic X1 d4_38 (w99 hw) Via.refl sHI fun T2 X2 => ?_
  refine g_ishr X2 c d4_41 (k_shr0 c) ?_
  refine g_i2b X2 (lo8 c) d4_42 rfl ?_
  refine g_bastore X2 d4_43 A (2 * i) rfl (lo8 c) (nar_b8 c) (by omega) nb zl (Or.inl (List.mem_of_getElem? (i := 0) rfl)) fun T3 h3 X3 K3 A3 => ?_
  have z3 := K3.1
  refine g_aloadN X3 d4_44 rfl rfl ?_
  refine g_iloadN X3 d4_45 rfl ?_
  refine g_iloadN X3 d4_46 rfl ?_
  refine g_getstatic X3 d4_47 (w100 hw) Via.refl sLO fun T4 X4 => ?_
  refine g_ishr X4 (c >>> ((8 : Int32) &&& 31)) d4_50 rfl ?_
  refine g_i2b X4 (hi8 c) d4_51 rfl ?_
  refine g_bastore X4 d4_52 A3 (2 * i + 1) rfl (hi8 c) (nar_b8 _) (by simpa using hi) nb zl (Or.inl (List.mem_of_getElem? (i := 0) rfl)) fun T5 h5 X5 K5 A5 => ?_
  have z5 := K5.1
  exact g_return X5 d4_53 (by decide) (by decide) ⟨rfl, rfl, A5⟩
set_option maxRecDepth 65536 in
set_option maxHeartbeats 40000000 in
theorem c_getChar {nw : Bool} {l : Launch} {Z : State} {EL : List (String × Nat)} {a0 : Array Value} (hw : HW Z a0) (hs : Sts Z) {h0 : Heap} {B0 : BP} (t : Addr) (i : Nat) (cs : List Int32) (A : Ay Z h0 t .byte ((u16 cs).map Value.int)) (hi : i < cs.length) (h16 : C16 cs[i]) :
    Con nw l Z EL (⟨"java/lang/StringUTF16", "getChar", "([BI)C"⟩ : MethodName) jdk_52_method_5_code 2 (some .char) [] ({ frames := 0, cells := 0, slots := 0, locals := 0 } : Room) #[(.ref t), (.int (Int32.ofNat i))] h0 B0 [] (PQ (some (.int (cs[i]))) h0 B0) := by
  refine k_intro (Ls := #[.val (.ref t), .val (.int (Int32.ofNat i))]) (by decide +kernel) rfl fun x T0 X0 => ?_
  obtain ⟨sAD, sHI, sLO⟩ := hs.2.2.1
  have hl : 2 * cs.length < 2 ^ 31 := by simpa [u16_len] using A.len
  refine g_getstatic X0 d5_0 (w98 hw) Via.refl sAD fun T1 X1 => ?_
  refine g_ifT X1 d5_3 (by decide) ?_
  refine g_iloadN X1 d5_28 rfl ?_
  refine g_iconst X1 (1 : Int32) d5_29 (by decide) ?_
  refine g_ishl X1 (Int32.ofNat (2 * i)) d5_30 (k_shl1 (by omega)) ?_
  refine g_istoreN X1 #[.val (.ref t), .val (.int (Int32.ofNat (2 * i)))] d5_31 rfl ?_
  refine g_aloadN X1 d5_32 rfl rfl ?_
  refine g_iloadN X1 d5_33 rfl ?_
  refine g_iinc X1 #[.val (.ref t), .val (.int (Int32.ofNat (2 * i + 1)))] d5_34 rfl (k_inc _) rfl ?_
  refine g_baload X1 d5_37 A (2 * i) rfl (v := .int (lo8 cs[i])) (by rw [List.getElem?_map, u16_lo cs i hi]; rfl) ?_
  refine g_sipush X1 (255 : Int32) d5_38 (by decide) ?_
  refine g_iand X1 ((lo8 cs[i]) &&& (255 : Int32)) d5_41 rfl ?_
  refine g_getstatic X1 d5_42 (w99 hw) Via.refl sHI fun T2 X2 => ?_
  refine g_ishl X2 (((lo8 cs[i]) &&& (255 : Int32)) <<< ((0 : Int32) &&& 31)) d5_45 rfl ?_
  refine g_aloadN X2 d5_46 rfl rfl ?_
  refine g_iloadN X2 d5_47 rfl ?_
  refine g_baload X2 d5_48 A (2 * i + 1) rfl (v := .int (hi8 cs[i])) (by rw [List.getElem?_map, u16_hi cs i hi]; rfl) ?_
  refine g_sipush X2 (255 : Int32) d5_49 (by decide) ?_
  refine g_iand X2 ((hi8 cs[i]) &&& (255 : Int32)) d5_52 rfl ?_
  refine g_getstatic X2 d5_53 (w100 hw) Via.refl sLO fun T3 X3 => ?_
  refine g_ishl X3 (((hi8 cs[i]) &&& (255 : Int32)) <<< ((8 : Int32) &&& 31)) d5_56 rfl ?_
  refine g_ior X3 ((((lo8 cs[i]) &&& (255 : Int32)) <<< ((0 : Int32) &&& 31)) ||| (((hi8 cs[i]) &&& (255 : Int32)) <<< ((8 : Int32) &&& 31))) d5_57 rfl ?_
  refine g_i2c X3 (cs[i]) d5_58 (k_get16 h16) ?_
  exact g_ireturn (w' := (cs[i])) X3 d5_59 (Or.inr (Or.inr (Or.inl rfl))) (nar_c16 h16) (by decide) (by decide) ⟨rfl, rfl, rfl⟩
set_option maxRecDepth 65536 in
set_option maxHeartbeats 40000000 in
theorem c_toBytes16 {nw : Bool} {l : Launch} {Z : State} {EL : List (String × Nat)} {a0 : Array Value} (hw : HW Z a0) (hs : Sts Z) {h0 : Heap} {B0 : BP} (a1 : Addr) (cs : List Int32) (Aa : Ay Z h0 a1 .char (cs.map Value.int)) (hcap : cs.length ≤ 3) :
    Con nw l Z EL (⟨"java/lang/StringUTF16", "toBytes", "([CII)[B"⟩ : MethodName) jdk_52_method_14_code 5 (some (.array .byte)) [] ({ frames := 2, cells := 1, slots := 6, locals := 24 } : Room) #[(.ref a1), (.int (0 : Int32)), (.int (Int32.ofNat cs.length))] h0 B0 [] (fun v h B => ∃ t, v = some (.ref t) ∧ B0 = B ∧ h0.size ≤ t ∧ ¬ B t ∧ Ay Z h t .byte ((u16 cs).map Value.int)) := by
  refine k_intro (Ls := #[.val (.ref a1), .val (.int (0 : Int32)), .val (.int (Int32.ofNat cs.length)), .unset, .unset]) (by decide +kernel) rfl fun x T0 X0 => ?_
  have hlen : cs.length < 2 ^ 31 := by omega
  have lt_a1 := Aa.lt
  refine g_iloadN X0 d6_0 rfl ?_
  refine g_callS X0 d6_1 (w88 hw) (w89 hw) (w22 hw) (w90 hw) (by decide) pd1 [(.int (Int32.ofNat cs.length))] [] 0 (c_nbf hw hs cs.length hcap) rfl rfl rfl (Nat.le_of_eq rfl) (by decide) (by decide) 1 6 rfl rfl (by decide) (by decide) (fun _ q => nomatch q) fun v1 T1 h1 B1 X1 K1 M1 q1 => ?_
  obtain ⟨t, rfl, rfl, ft, nbt, At⟩ := q1
  have z1 := K1.1
  show Go x (T1.setTop (mkF x.m 4 #[.val (.ref a1), .val (.int (0 : Int32)), .val (.int (Int32.ofNat cs.length)), .unset, .unset] [(.ref t)]))
  have ltt := At.lt
  have zlt : Z.heap.size ≤ t := Nat.le_trans X0.szZ ft
  refine g_astoreN X1 #[.val (.ref a1), .val (.int (0 : Int32)), .val (.int (Int32.ofNat cs.length)), .val (.ref t), .unset] d6_4 rfl rfl ?_
  refine g_iconst X1 (0 : Int32) d6_5 (by decide) ?_
  refine g_istore X1 #[.val (.ref a1), .val (.int (0 : Int32)), .val (.int (Int32.ofNat cs.length)), .val (.ref t), .val (.int (0 : Int32))] d6_6 rfl ?_
  have loop : ∀ (d i : Nat) (hi : i + d = cs.length) (T : State) (h : Heap) (X : Wk nw l Z EL "java/lang/StringUTF16" jdk_52_method_14_code 5 (some (.array .byte)) "toBytes" ({ frames := 2, cells := 1, slots := 6, locals := 24 } : Room) h0 B0 [] (fun v h B => ∃ t, v = some (.ref t) ∧ B0 = B ∧ h0.size ≤ t ∧ ¬ B t ∧ Ay Z h t .byte ((u16 cs).map Value.int)) x T h B0 1 6) (A : Ay Z h t .byte ((u16 (cs.take i)).map Value.int ++ List.replicate (2 * (cs.length - i)) (.int 0))), Go x (T.setTop (mkF x.m 8 #[.val (.ref a1), .val (.int (Int32.ofNat i)), .val (.int (Int32.ofNat cs.length)), .val (.ref t), .val (.int (Int32.ofNat i))] [])) := by
    intro d
    induction d with
    | zero =>
      intro i hi T h X A
      obtain rfl : i = cs.length := by omega
      refine g_iload X d6_8 rfl ?_
      refine g_iloadN X d6_10 rfl ?_
      refine g_icmpT X d6_11 (XT.ii_ge_t (k_nlt (Nat.le_refl _) hlen)) ?_
      refine g_aloadN X d6_32 rfl rfl ?_
      exact g_areturn X d6_33 rfl rfl rfl (by decide) (by decide) ⟨_, rfl, rfl, ft, nbt, by simpa using A⟩
    | succ d ih =>
      intro i hi T h X A
      have hil : i < cs.length := by omega
      have hAl : ((u16 (cs.take i)).map Value.int ++ List.replicate (2 * (cs.length - i)) (Value.int 0)).length = 2 * cs.length := by simp [u16_len]; omega
      refine g_iload X d6_8 rfl ?_
      refine g_iloadN X d6_10 rfl ?_
      refine g_icmpF X d6_11 (XT.ii_ge_f (k_lt hil hlen)) ?_
      refine g_aloadN X d6_14 rfl rfl ?_
      refine g_iload X d6_15 rfl ?_
      refine g_aloadN X d6_17 rfl rfl ?_
      refine g_iloadN X d6_18 rfl ?_
      have Aa' := Aa.keep X.kept nin0
      refine g_caload X d6_19 Aa' i rfl (v := .int cs[i]) (by simp [hil]) ?_
      refine g_callS X d6_20 (w95 hw) (w96 hw) (w22 hw) (w97 hw) (by decide) pd2 [(.ref t), (.int (Int32.ofNat i)), (.int (cs[i]))] [] 0 (c_putChar hw hs t i cs[i] _ A (by omega) nbt zlt) rfl rfl rfl (Nat.le_of_eq rfl) (by decide) (by decide) 1 6 rfl rfl (by decide) (by decide) (k_ws1 ⟨nbt, zlt, (Or.inr ft)⟩) fun v2 T2 h2 B2 X2 K2 M2 q2 => ?_
      obtain ⟨rfl, rfl, A2⟩ := q2
      have z2 := K2.1
      show Go x (T2.setTop (mkF x.m 23 #[.val (.ref a1), .val (.int (Int32.ofNat i)), .val (.int (Int32.ofNat cs.length)), .val (.ref t), .val (.int (Int32.ofNat i))] []))
      rw [k_fill16 cs i hil] at A2
      refine g_iinc X2 #[.val (.ref a1), .val (.int (Int32.ofNat (i + 1))), .val (.int (Int32.ofNat cs.length)), .val (.ref t), .val (.int (Int32.ofNat i))] d6_23 rfl (k_inc i) rfl ?_
      refine g_iinc X2 #[.val (.ref a1), .val (.int (Int32.ofNat (i + 1))), .val (.int (Int32.ofNat cs.length)), .val (.ref t), .val (.int (Int32.ofNat (i + 1)))] d6_26 rfl (k_inc i) rfl ?_
      refine g_goto X2 d6_29 ?_
      exact ih (i + 1) (by omega) T2 h2 X2 A2
  exact loop cs.length 0 (by omega) T1 h1 X1 (by simpa [u16_nil] using At)
set_option maxRecDepth 65536 in
set_option maxHeartbeats 40000000 in
theorem c_compress3 {nw : Bool} {l : Launch} {Z : State} {EL : List (String × Nat)} {a0 : Array Value} (hw : HW Z a0) (hs : Sts Z) {h0 : Heap} {B0 : BP} (a1 : Addr) (cs : List Int32) (Aa : Ay Z h0 a1 .char (cs.map Value.int)) (h16 : ∀ c ∈ cs, C16 c) (hcap : cs.length ≤ 3) :
    Con nw l Z EL (⟨"java/lang/StringUTF16", "compress", "([CII)[B"⟩ : MethodName) jdk_52_method_16_code 6 (some (.array .byte)) [] ({ frames := 3, cells := 2, slots := 9, locals := 40 } : Room) #[(.ref a1), (.int (0 : Int32)), (.int (Int32.ofNat cs.length))] h0 B0 [] (fun v h B => ∃ t, v = some (.ref t) ∧ B0 = B ∧ h0.size ≤ t ∧ (((∀ c ∈ cs, ¬ 255 < c) ∧ Ay Z h t .byte ((cs.map lo8).map Value.int)) ∨ Ay Z h t .byte ((u16 cs).map Value.int))) := by
  refine k_intro (Ls := #[.val (.ref a1), .val (.int (0 : Int32)), .val (.int (Int32.ofNat cs.length)), .unset, .unset, .unset]) (by decide +kernel) rfl fun x T0 X0 => ?_
  have hlen : cs.length < 2 ^ 31 := by omega
  have lt_a1 := Aa.lt
  refine g_iloadN X0 d7_0 rfl ?_
  refine g_newarray X0 d7_1 rfl (w24 hw) cs.length 3 rfl hcap (by decide) 1 3 rfl rfl (by decide) (by decide) fun T1 h1 b1 X1 E1 eb1 nb1 A1 => ?_
  have z1 := E1.1; have lt1 : @LT.lt Nat _ b1 h1.size := A1.lt; have zl1 : @LE.le Nat _ Z.heap.size b1 := eb1 ▸ X0.szZ; have fr1 : @LE.le Nat _ h0.size b1 := eb1 ▸ X0.sz
  refine g_astoreN X1 #[.val (.ref a1), .val (.int (0 : Int32)), .val (.int (Int32.ofNat cs.length)), .val (.ref b1), .unset, .unset] d7_3 rfl rfl ?_
  refine g_aloadN X1 d7_4 rfl rfl ?_
  refine g_iloadN X1 d7_5 rfl ?_
  refine g_aloadN X1 d7_6 rfl rfl ?_
  refine g_iconst X1 (0 : Int32) d7_7 (by decide) ?_
  refine g_iloadN X1 d7_8 rfl ?_
  have A2 := (Aa.ext E1)
  refine g_callS X1 d7_9 (w25 hw) (w26 hw) (w22 hw) (w27 hw) (by decide) pd3 [(.ref a1), (.int (0 : Int32)), (.ref b1), (.int (0 : Int32)), (.int (Int32.ofNat cs.length))] [] 0 (c_compress5 hw hs a1 b1 cs A2 A1 (k_neN (by omega)) nb1 zl1) rfl rfl rfl (Nat.le_of_eq rfl) (by decide) (by decide) 1 3 rfl rfl (by decide) (by decide) (k_ws1 ⟨nb1, zl1, (Or.inr fr1)⟩) fun v3 T3 h3 B3 X3 K3 M3 q3 => ?_
  obtain ⟨i, hi, rfl, rfl, hlo, hhi, At⟩ := q3
  have z3 := K3.1
  show Go x (T3.setTop (mkF x.m 12 #[.val (.ref a1), .val (.int (0 : Int32)), .val (.int (Int32.ofNat cs.length)), .val (.ref b1), .unset, .unset] [(.int (Int32.ofNat i))]))
  refine g_istore X3 #[.val (.ref a1), .val (.int (0 : Int32)), .val (.int (Int32.ofNat cs.length)), .val (.ref b1), .val (.int (Int32.ofNat i)), .unset] d7_12 rfl ?_
  refine g_iload X3 d7_14 rfl ?_
  refine g_iloadN X3 d7_16 rfl ?_
  by_cases hii : (Int32.ofNat i) = (Int32.ofNat cs.length)
  ·
    refine g_icmpT X3 d7_17 (XT.ii_eq_t hii) ?_
    obtain rfl : i = cs.length := (k_eqn (by omega) hlen).mp hii
    refine g_aloadN X3 d7_57 rfl rfl ?_
    exact g_areturn X3 d7_58 rfl rfl rfl (by decide) (by decide) ⟨_, rfl, rfl, fr1, Or.inl ⟨by simpa using hlo, by simp at At; rw [List.map_map]; exact At⟩⟩
  ·
    refine g_icmpF X3 d7_17 (XT.ii_eq_f hii) ?_
    have hil : i < cs.length := by
      rcases Nat.lt_or_ge i cs.length with r | r
      · exact r
      · exact absurd (by rw [show i = cs.length by omega]) hii
    refine g_aloadN X3 d7_20 rfl rfl ?_
    refine g_iloadN X3 d7_21 rfl ?_
    refine g_iloadN X3 d7_22 rfl ?_
    have A4 := (A2.keep K3 (ninS (k_neN (by omega)) nin0))
    refine g_callS X3 d7_23 (w85 hw) (w86 hw) (w22 hw) (w87 hw) (by decide) pd4 [(.ref a1), (.int (0 : Int32)), (.int (Int32.ofNat cs.length))] [] 0 (c_toBytes16 hw hs a1 cs A4 hcap) rfl rfl rfl (Nat.le_of_eq rfl) (by decide) (by decide) 2 9 rfl rfl (by decide) (by decide) (fun _ q => nomatch q) fun v5 T5 h5 B5 X5 K5 M5 q5 => ?_
    obtain ⟨t, rfl, rfl, ft, nbt, Bt⟩ := q5
    have z5 := K5.1
    show Go x (T5.setTop (mkF x.m 26 #[.val (.ref a1), .val (.int (0 : Int32)), .val (.int (Int32.ofNat cs.length)), .val (.ref b1), .val (.int (Int32.ofNat i)), .unset] [(.ref t)]))
    refine g_astore X5 #[.val (.ref a1), .val (.int (0 : Int32)), .val (.int (Int32.ofNat cs.length)), .val (.ref b1), .val (.int (Int32.ofNat i)), .val (.ref t)] d7_26 rfl rfl ?_
    refine g_aload X5 d7_28 rfl rfl ?_
    refine g_iload X5 d7_30 rfl ?_
    refine g_callSp X5 d7_32 (w101 hw) (w102 hw) (w22 hw) (w103 hw) (by decide) pd5 [(.ref t), (.int (Int32.ofNat i))] [] 0 (c_getChar hw hs t i cs Bt hil (h16 _ (List.getElem_mem hil))) rfl rfl rfl (Nat.le_of_eq rfl) (by decide) (by decide) 2 9 rfl rfl (by decide) (by decide) fun T6 X6 => ?_
    refine g_sipush X6 (255 : Int32) d7_35 (by decide) ?_
    refine g_icmpT X6 d7_38 (XT.ii_gt_t (hhi hil)) ?_
    refine g_aload X6 d7_54 rfl rfl ?_
    exact g_areturn X6 d7_56 rfl rfl rfl (by decide) (by decide) ⟨_, rfl, rfl, by omega, Or.inr Bt⟩
set_option maxRecDepth 65536 in
set_option maxHeartbeats 40000000 in
theorem c_coderL {nw : Bool} {l : Launch} {Z : State} {EL : List (String × Nat)} {a0 : Array Value} (hw : HW Z a0) (hs : Sts Z) {h0 : Heap} {B0 : BP} (t : Addr) (vs : List Value) (A : Ay Z h0 t .byte vs) :
    Con nw l Z EL (⟨"java/lang/StringUTF16", "coderFromArrayLen", "([BI)B"⟩ : MethodName) jdk_52_method_15_code 2 (some .byte) [] ({ frames := 0, cells := 0, slots := 0, locals := 0 } : Room) #[(.ref t), (.int (Int32.ofNat vs.length))] h0 B0 [] (PQ (some (.int (0 : Int32))) h0 B0) := by
  refine k_intro (Ls := #[.val (.ref t), .val (.int (Int32.ofNat vs.length))]) (by decide +kernel) rfl fun x T0 X0 => ?_
  refine g_iloadN X0 d8_0 rfl ?_
  refine g_aloadN X0 d8_1 rfl rfl ?_
  refine g_arraylength X0 d8_2 A _ rfl ?_
  refine g_isub X0 (0 : Int32) d8_3 (by simp) ?_
  refine g_bipush X0 (31 : Int32) d8_4 (by decide) ?_
  refine g_iushr X0 (0 : Int32) d8_6 (by decide) ?_
  refine g_i2b X0 (0 : Int32) d8_7 (by decide) ?_
  exact g_ireturn (w' := (0 : Int32)) X0 d8_8 (Or.inr (Or.inl rfl)) (by decide) (by decide) (by decide) ⟨rfl, rfl, rfl⟩
set_option maxRecDepth 65536 in
set_option maxHeartbeats 40000000 in
theorem c_coderU {nw : Bool} {l : Launch} {Z : State} {EL : List (String × Nat)} {a0 : Array Value} (hw : HW Z a0) (hs : Sts Z) {h0 : Heap} {B0 : BP} (t : Addr) (m : Nat) (vs : List Value) (A : Ay Z h0 t .byte vs) (hm : vs.length = 2 * m) (hp : 0 < m) (hm' : m < 1000) :
    Con nw l Z EL (⟨"java/lang/StringUTF16", "coderFromArrayLen", "([BI)B"⟩ : MethodName) jdk_52_method_15_code 2 (some .byte) [] ({ frames := 0, cells := 0, slots := 0, locals := 0 } : Room) #[(.ref t), (.int (Int32.ofNat m))] h0 B0 [] (PQ (some (.int (1 : Int32))) h0 B0) := by
  refine k_intro (Ls := #[.val (.ref t), .val (.int (Int32.ofNat m))]) (by decide +kernel) rfl fun x T0 X0 => ?_
  refine g_iloadN X0 d8_0 rfl ?_
  refine g_aloadN X0 d8_1 rfl rfl ?_
  refine g_arraylength X0 d8_2 A (Int32.ofNat (2 * m)) (by rw [hm]) ?_
  refine g_isub X0 ((Int32.ofNat m) - (Int32.ofNat (2 * m))) d8_3 rfl ?_
  refine g_bipush X0 (31 : Int32) d8_4 (by decide) ?_
  refine g_iushr X0 (1 : Int32) d8_6 (k_sign hp hm') ?_
  refine g_i2b X0 (1 : Int32) d8_7 (by decide) ?_
  exact g_ireturn (w' := (1 : Int32)) X0 d8_8 (Or.inr (Or.inl rfl)) (by decide) (by decide) (by decide) ⟨rfl, rfl, rfl⟩
set_option maxRecDepth 65536 in
set_option maxHeartbeats 40000000 in
theorem c_initCII {nw : Bool} {l : Launch} {Z : State} {EL : List (String × Nat)} {a0 : Array Value} (hw : HW Z a0) (hs : Sts Z) {h0 : Heap} {B0 : BP} (a a1 : Addr) (cs : List Int32) (E_a : Exa Z h0 a "java/lang/String") {u_value : Value} (F_value : Fld Z h0 a "java/lang/String" "value" "[B" u_value) {u_coder : Value} (F_coder : Fld Z h0 a "java/lang/String" "coder" "B" u_coder) (nb : ¬ B0 a) (zl : Z.heap.size ≤ a) (Aa : Ay Z h0 a1 .char (cs.map Value.int)) (ne : @Ne Nat a a1) (hne : cs ≠ []) (hcap : cs.length ≤ 3) (h16 : ∀ c ∈ cs, C16 c) :
    Con nw l Z EL (⟨"java/lang/String", "<init>", "([CIILjava/lang/Void;)V"⟩ : MethodName) jdk_42_method_149_code 6 none [] ({ frames := 4, cells := 2, slots := 9, locals := 57 } : Room) #[(.ref a), (.ref a1), (.int (0 : Int32)), (.int (Int32.ofNat cs.length)), .null] h0 B0 [a] (fun v h B => v = none ∧ B0 = B ∧ StrC Z h h.size a cs) := by
  refine k_intro (Ls := #[.val (.ref a), .val (.ref a1), .val (.int (0 : Int32)), .val (.int (Int32.ofNat cs.length)), .val .null, .unset]) (by decide +kernel) rfl fun x T0 X0 => ?_
  have hlen : cs.length < 2 ^ 31 := by omega
  have hpos : 0 < cs.length := List.length_pos_iff.mpr hne
  have lt_a1 := Aa.lt
  obtain ⟨cv, sCS, ncv⟩ := hs.1
  have lt_a := k_ltE E_a
  refine g_aloadN X0 d9_0 rfl rfl ?_
  refine g_init X0 d9_1 rfl rfl (w16 hw) (w17 hw) (w18 hw) 0 rfl (by decide) (Nat.le_of_eq rfl) (by decide) fun T1 X1 => ?_
  refine g_iloadN X1 d9_4 rfl ?_
  refine g_ifT X1 d9_5 (XT.i0_ne_t (k_ne0 hpos hlen)) ?_
  refine g_getstatic X1 d9_27 (w19 hw) Via.refl sCS fun T2 X2 => ?_
  refine g_ifF X2 d9_30 (XT.i0_eq_f ncv) ?_
  refine g_aloadN X2 d9_33 rfl rfl ?_
  refine g_iloadN X2 d9_34 rfl ?_
  refine g_iloadN X2 d9_35 rfl ?_
  refine g_callS X2 d9_36 (w20 hw) (w21 hw) (w22 hw) (w23 hw) (by decide) pd4 [(.ref a1), (.int (0 : Int32)), (.int (Int32.ofNat cs.length))] [] 0 (c_compress3 hw hs a1 cs Aa h16 hcap) rfl rfl rfl (Nat.le_of_eq rfl) (by decide) (by decide) 2 9 rfl rfl (by decide) (by decide) (fun _ q => nomatch q) fun v3 T3 h3 B3 X3 K3 M3 q3 => ?_
  obtain ⟨t, rfl, rfl, ft, ht⟩ := q3
  have z3 := K3.1
  show Go x (T3.setTop (mkF x.m 39 #[.val (.ref a), .val (.ref a1), .val (.int (0 : Int32)), .val (.int (Int32.ofNat cs.length)), .val .null, .unset] [(.ref t)]))
  refine g_astore X3 #[.val (.ref a), .val (.ref a1), .val (.int (0 : Int32)), .val (.int (Int32.ofNat cs.length)), .val .null, .val (.ref t)] d9_39 rfl rfl ?_
  refine g_aloadN X3 d9_41 rfl rfl ?_
  refine g_aload X3 d9_42 rfl rfl ?_
  refine g_iloadN X3 d9_44 rfl ?_
  rcases ht with ⟨hlo, At⟩ | At
  ·
    have lt_t := At.lt
    have hl2 : ((cs.map lo8).map Value.int).length = cs.length := by simp
    refine g_callSp X3 d9_45 (w28 hw) (w29 hw) (w22 hw) (w30 hw) (by decide) pd6 [(.ref t), (.int (Int32.ofNat cs.length))] [(.ref a)] 1 (hl2 ▸ c_coderL hw hs t ((cs.map lo8).map Value.int) At) rfl rfl rfl (Nat.le_of_eq rfl) (by decide) (by decide) 2 9 rfl rfl (by decide) (by decide) fun T4 X4 => ?_
    have F5 := (F_coder.keep K3 nin0)
    have E_6 := (E_a.keep K3)
    refine g_putfield X4 d9_48 (w31 hw) Via.refl F5 E_6 (Or.inr ⟨(w32 hw), rfl, rfl⟩) (w7 hw) (ty := .byte) (v' := (.int (0 : Int32))) (by decide) rfl rfl nb zl (Or.inl (List.mem_of_getElem? (i := 0) rfl)) fun T7 h7 X7 W7 => ?_
    have z7 := W7.size; have Fw7 := F5.same W7
    refine g_aloadN X7 d9_51 rfl rfl ?_
    refine g_aload X7 d9_52 rfl rfl ?_
    have F8 := ((F_value.keep K3 nin0).other W7 (Or.inr (slot_ne (Or.inr (w34 hw)) (Or.inr (w32 hw)) (by decide) (t := (.array .byte)) (t' := .byte) (by decide) (by decide))))
    have E_9 := (E_6.wr W7)
    refine g_putfield X7 d9_54 (w33 hw) Via.refl F8 E_9 (Or.inr ⟨(w34 hw), rfl, rfl⟩) (w7 hw) (ty := (.array .byte)) (v' := (.ref t)) (by decide) rfl rfl nb zl (Or.inl (List.mem_of_getElem? (i := 0) rfl)) fun T10 h10 X10 W10 => ?_
    have z10 := W10.size; have Fw10 := F8.same W10
    have E_11 := (E_9.wr W10)
    have F12 := (Fw7.other W10 (Or.inr (slot_ne (Or.inr (w32 hw)) (Or.inr (w34 hw)) (by decide) (t := .byte) (t' := (.array .byte)) (by decide) (by decide))))
    have A13 := ((At.keep (Keep.of_wr W7) (ninS (k_neN (by omega)) nin0)).keep (Keep.of_wr W10) (ninS (k_neN (by omega)) nin0))
    exact g_return X10 d9_57 (by decide) (by decide) ⟨rfl, rfl, h16, Or.inl ⟨hlo, ⟨t, E_11.lt, A13.lt, E_11, F12, Fw10, A13⟩⟩⟩
  ·
    have lt_t := At.lt
    refine g_callSp X3 d9_45 (w28 hw) (w29 hw) (w22 hw) (w30 hw) (by decide) pd6 [(.ref t), (.int (Int32.ofNat cs.length))] [(.ref a)] 1 (c_coderU hw hs t cs.length _ At (by simp [u16_len]) hpos (by omega)) rfl rfl rfl (Nat.le_of_eq rfl) (by decide) (by decide) 2 9 rfl rfl (by decide) (by decide) fun T14 X14 => ?_
    have F15 := (F_coder.keep K3 nin0)
    have E_16 := (E_a.keep K3)
    refine g_putfield X14 d9_48 (w31 hw) Via.refl F15 E_16 (Or.inr ⟨(w32 hw), rfl, rfl⟩) (w7 hw) (ty := .byte) (v' := (.int (1 : Int32))) (by decide) rfl rfl nb zl (Or.inl (List.mem_of_getElem? (i := 0) rfl)) fun T17 h17 X17 W17 => ?_
    have z17 := W17.size; have Fw17 := F15.same W17
    refine g_aloadN X17 d9_51 rfl rfl ?_
    refine g_aload X17 d9_52 rfl rfl ?_
    have F18 := ((F_value.keep K3 nin0).other W17 (Or.inr (slot_ne (Or.inr (w34 hw)) (Or.inr (w32 hw)) (by decide) (t := (.array .byte)) (t' := .byte) (by decide) (by decide))))
    have E_19 := (E_16.wr W17)
    refine g_putfield X17 d9_54 (w33 hw) Via.refl F18 E_19 (Or.inr ⟨(w34 hw), rfl, rfl⟩) (w7 hw) (ty := (.array .byte)) (v' := (.ref t)) (by decide) rfl rfl nb zl (Or.inl (List.mem_of_getElem? (i := 0) rfl)) fun T20 h20 X20 W20 => ?_
    have z20 := W20.size; have Fw20 := F18.same W20
    have E_21 := (E_19.wr W20)
    have F22 := (Fw17.other W20 (Or.inr (slot_ne (Or.inr (w32 hw)) (Or.inr (w34 hw)) (by decide) (t := .byte) (t' := (.array .byte)) (by decide) (by decide))))
    have A23 := ((At.keep (Keep.of_wr W17) (ninS (k_neN (by omega)) nin0)).keep (Keep.of_wr W20) (ninS (k_neN (by omega)) nin0))
    exact g_return X20 d9_57 (by decide) (by decide) ⟨rfl, rfl, h16, Or.inr ⟨t, E_21.lt, A23.lt, E_21, F22, Fw20, A23⟩⟩
set_option maxRecDepth 65536 in
set_option maxHeartbeats 40000000 in
theorem c_initC {nw : Bool} {l : Launch} {Z : State} {EL : List (String × Nat)} {a0 : Array Value} (hw : HW Z a0) (hs : Sts Z) {h0 : Heap} {B0 : BP} (a a1 : Addr) (cs : List Int32) (E_a : Exa Z h0 a "java/lang/String") {u_value : Value} (F_value : Fld Z h0 a "java/lang/String" "value" "[B" u_value) {u_coder : Value} (F_coder : Fld Z h0 a "java/lang/String" "coder" "B" u_coder) (nb : ¬ B0 a) (zl : Z.heap.size ≤ a) (Aa : Ay Z h0 a1 .char (cs.map Value.int)) (ne : @Ne Nat a a1) (hne : cs ≠ []) (hcap : cs.length ≤ 3) (h16 : ∀ c ∈ cs, C16 c) :
    Con nw l Z EL (⟨"java/lang/String", "<init>", "([C)V"⟩ : MethodName) jdk_42_method_3_code 2 none [] ({ frames := 5, cells := 2, slots := 9, locals := 74 } : Room) #[(.ref a), (.ref a1)] h0 B0 [a] (fun v h B => v = none ∧ B0 = B ∧ StrC Z h h.size a cs) := by
  refine k_intro (Ls := #[.val (.ref a), .val (.ref a1)]) (by decide +kernel) rfl fun x T0 X0 => ?_
  have lt_a := k_ltE E_a
  refine g_aloadN X0 d10_0 rfl rfl ?_
  refine g_aloadN X0 d10_1 rfl rfl ?_
  refine g_iconst X0 (0 : Int32) d10_2 (by decide) ?_
  refine g_aloadN X0 d10_3 rfl rfl ?_
  refine g_arraylength X0 d10_4 Aa (Int32.ofNat cs.length) (by simp) ?_
  refine g_aconst_null X0 d10_5 ?_
  refine g_callI X0 d10_6 (w12 hw) (w13 hw) (w8 hw) (w15 hw) rfl (by decide) pd7 a [(.ref a1), (.int (0 : Int32)), (.int (Int32.ofNat cs.length)), .null] [] 0 (c_initCII hw hs a a1 cs E_a F_value F_coder nb zl Aa ne hne hcap h16) rfl rfl rfl (Nat.le_of_eq rfl) (by decide) (by decide) 2 9 rfl rfl (by decide) (by decide) (k_ws1 ⟨nb, zl, (Or.inl (List.mem_of_getElem? (i := 0) rfl))⟩) fun v1 T1 h1 B1 X1 K1 M1 q1 => ?_
  obtain ⟨rfl, rfl, S⟩ := q1
  have z1 := K1.1
  show Go x (T1.setTop (mkF x.m 9 #[.val (.ref a), .val (.ref a1)] []))
  exact g_return X1 d10_9 (by decide) (by decide) ⟨rfl, rfl, S⟩
set_option maxRecDepth 65536 in
set_option maxHeartbeats 40000000 in
theorem c_coder {nw : Bool} {l : Launch} {Z : State} {EL : List (String × Nat)} {a0 : Array Value} (hw : HW Z a0) (hs : Sts Z) {h0 : Heap} {B0 : BP} (a : Addr) (cd : Int32) (bs : List Int32) (hcd : cd = 0 ∨ cd = 1) (S : StrV Z h0 a cd bs) :
    Con nw l Z EL (⟨"java/lang/String", "coder", "()B"⟩ : MethodName) jdk_42_method_152_code 1 (some .byte) [] ({ frames := 0, cells := 0, slots := 0, locals := 0 } : Room) #[(.ref a)] h0 B0 [] (PQ (some (.int cd)) h0 B0) := by
  refine k_intro (Ls := #[.val (.ref a)]) (by decide +kernel) rfl fun x T0 X0 => ?_
  obtain ⟨cv, sCS, ncv⟩ := hs.1
  obtain ⟨t_a, E_a, Fc_a, Fv_a, A_a⟩ := S.op
  refine g_getstatic X0 d11_0 (w19 hw) Via.refl sCS fun T1 X1 => ?_
  refine g_ifF X1 d11_3 (XT.i0_eq_f ncv) ?_
  refine g_aloadN X1 d11_6 rfl rfl ?_
  refine g_getfield X1 d11_7 (w31 hw) Via.refl Fc_a fun T2 X2 => ?_
  refine g_goto X2 d11_10 ?_
  exact g_ireturn (w' := cd) X2 d11_14 (Or.inr (Or.inl rfl)) (by rcases hcd with rfl | rfl <;> decide) (by decide) (by decide) ⟨rfl, rfl, rfl⟩
set_option maxRecDepth 65536 in
set_option maxHeartbeats 40000000 in
theorem c_isLatin1 {nw : Bool} {l : Launch} {Z : State} {EL : List (String × Nat)} {a0 : Array Value} (hw : HW Z a0) (hs : Sts Z) {h0 : Heap} {B0 : BP} (a : Addr) (bs : List Int32) (S : StrV Z h0 a 0 bs) :
    Con nw l Z EL (⟨"java/lang/String", "isLatin1", "()Z"⟩ : MethodName) jdk_42_method_154_code 1 (some .boolean) [] ({ frames := 0, cells := 0, slots := 0, locals := 0 } : Room) #[(.ref a)] h0 B0 [] (PQ (some (.int (1 : Int32))) h0 B0) := by
  refine k_intro (Ls := #[.val (.ref a)]) (by decide +kernel) rfl fun x T0 X0 => ?_
  obtain ⟨cv, sCS, ncv⟩ := hs.1
  obtain ⟨t_a, E_a, Fc_a, Fv_a, A_a⟩ := S.op
  refine g_getstatic X0 d12_0 (w19 hw) Via.refl sCS fun T1 X1 => ?_
  refine g_ifF X1 d12_3 (XT.i0_eq_f ncv) ?_
  refine g_aloadN X1 d12_6 rfl rfl ?_
  refine g_getfield X1 d12_7 (w31 hw) Via.refl Fc_a fun T2 X2 => ?_
  refine g_ifF X2 d12_10 (by decide) ?_
  refine g_iconst X2 (1 : Int32) d12_13 (by decide) ?_
  refine g_goto X2 d12_14 ?_
  exact g_ireturn (w' := (1 : Int32)) X2 d12_18 (Or.inl rfl) (by decide) (by decide) (by decide) ⟨rfl, rfl, rfl⟩
set_option maxRecDepth 65536 in
set_option maxHeartbeats 40000000 in
theorem c_isLatin1U {nw : Bool} {l : Launch} {Z : State} {EL : List (String × Nat)} {a0 : Array Value} (hw : HW Z a0) (hs : Sts Z) {h0 : Heap} {B0 : BP} (a : Addr) (bs : List Int32) (S : StrV Z h0 a 1 bs) :
    Con nw l Z EL (⟨"java/lang/String", "isLatin1", "()Z"⟩ : MethodName) jdk_42_method_154_code 1 (some .boolean) [] ({ frames := 0, cells := 0, slots := 0, locals := 0 } : Room) #[(.ref a)] h0 B0 [] (PQ (some (.int (0 : Int32))) h0 B0) := by
  refine k_intro (Ls := #[.val (.ref a)]) (by decide +kernel) rfl fun x T0 X0 => ?_
  obtain ⟨cv, sCS, ncv⟩ := hs.1
  obtain ⟨t_a, E_a, Fc_a, Fv_a, A_a⟩ := S.op
  refine g_getstatic X0 d12_0 (w19 hw) Via.refl sCS fun T1 X1 => ?_
  refine g_ifF X1 d12_3 (XT.i0_eq_f ncv) ?_
  refine g_aloadN X1 d12_6 rfl rfl ?_
  refine g_getfield X1 d12_7 (w31 hw) Via.refl Fc_a fun T2 X2 => ?_
  refine g_ifT X2 d12_10 (by decide) ?_
  refine g_iconst X2 (0 : Int32) d12_17 (by decide) ?_
  exact g_ireturn (w' := (0 : Int32)) X2 d12_18 (Or.inl rfl) (by decide) (by decide) (by decide) ⟨rfl, rfl, rfl⟩
set_option maxRecDepth 65536 in
set_option maxHeartbeats 40000000 in
theorem c_lengthC {nw : Bool} {l : Launch} {Z : State} {EL : List (String × Nat)} {a0 : Array Value} (hw : HW Z a0) (hs : Sts Z) {h0 : Heap} {B0 : BP} (a : Addr) (N : Nat) (cs : List Int32) (S : StrC Z h0 N a cs) :
    Con nw l Z EL (⟨"java/lang/String", "length", "()I"⟩ : MethodName) jdk_42_method_54_code 1 (some .int) [] ({ frames := 1, cells := 0, slots := 0, locals := 13 } : Room) #[(.ref a)] h0 B0 [] (PQ (some (.int (Int32.ofNat cs.length))) h0 B0) := by
  refine k_intro (Ls := #[.val (.ref a)]) (by decide +kernel) rfl fun x T0 X0 => ?_
  have hl := S.len
  rcases S.2 with ⟨hlo, S'⟩ | S'
  ·
    have S := S'.v
    obtain ⟨t_a, E_a, Fc_a, Fv_a, A_a⟩ := S.op
    refine g_aloadN X0 d13_0 rfl rfl ?_
    refine g_getfield X0 d13_1 (w33 hw) Via.refl Fv_a fun T1 X1 => ?_
    refine g_arraylength X1 d13_4 A_a (Int32.ofNat cs.length) (by simp) ?_
    refine g_aloadN X1 d13_5 rfl rfl ?_
    refine g_callVp X1 d13_6 (w48 hw) (w49 hw) (w51 hw) (w50 hw) (w8 hw) (w52 hw) (by decide) pd8 a [] [(.int (Int32.ofNat cs.length))] 1 E_a (c_coder hw hs a 0 _ (Or.inl rfl) S) rfl rfl rfl (Nat.le_of_eq rfl) (by decide) (by decide) 0 0 rfl rfl (by decide) (by decide) fun T2 X2 => ?_
    refine g_ishr X2 (Int32.ofNat cs.length) d13_9 (k_shr0 _) ?_
    exact g_ireturnI X2 d13_10 (by decide) (by decide) ⟨rfl, rfl, rfl⟩
  ·
    have S := S'.v
    have hl2 := S'.len
    rw [u16_len] at hl2
    obtain ⟨t_a, E_a, Fc_a, Fv_a, A_a⟩ := S.op
    refine g_aloadN X0 d13_0 rfl rfl ?_
    refine g_getfield X0 d13_1 (w33 hw) Via.refl Fv_a fun T3 X3 => ?_
    refine g_arraylength X3 d13_4 A_a (Int32.ofNat (2 * cs.length)) (by simp [u16_len]) ?_
    refine g_aloadN X3 d13_5 rfl rfl ?_
    refine g_callVp X3 d13_6 (w48 hw) (w49 hw) (w51 hw) (w50 hw) (w8 hw) (w52 hw) (by decide) pd8 a [] [(.int (Int32.ofNat (2 * cs.length)))] 1 E_a (c_coder hw hs a 1 _ (Or.inr rfl) S) rfl rfl rfl (Nat.le_of_eq rfl) (by decide) (by decide) 0 0 rfl rfl (by decide) (by decide) fun T4 X4 => ?_
    refine g_ishr X4 (Int32.ofNat cs.length) d13_9 (k_shr1 hl2) ?_
    exact g_ireturnI X4 d13_10 (by decide) (by decide) ⟨rfl, rfl, rfl⟩
set_option maxRecDepth 65536 in
set_option maxHeartbeats 40000000 in
theorem c_checkIndexP {nw : Bool} {l : Launch} {Z : State} {EL : List (String × Nat)} {a0 : Array Value} (hw : HW Z a0) (hs : Sts Z) {h0 : Heap} {B0 : BP} (i n : Int32) (v : Value) (r : v.isRef = true) (h1 : ¬ i < 0) (h2 : i < n) :
    Con nw l Z EL (⟨"jdk/internal/util/Preconditions", "checkIndex", "(IILjava/util/function/BiFunction;)I"⟩ : MethodName) jdk_41_method_11_code 3 (some .int) [] ({ frames := 0, cells := 0, slots := 0, locals := 0 } : Room) #[(.int i), (.int n), v] h0 B0 [] (PQ (some (.int i)) h0 B0) := by
  refine k_intro (Ls := #[.val (.int i), .val (.int n), .val v]) (by decide +kernel) (by rcases ref_cases r with rfl | ⟨_, rfl⟩ <;> rfl) fun x T0 X0 => ?_
  refine g_iloadN X0 d14_0 rfl ?_
  refine g_ifF X0 d14_1 (XT.i0_lt_f h1) ?_
  refine g_iloadN X0 d14_4 rfl ?_
  refine g_iloadN X0 d14_5 rfl ?_
  refine g_icmpT X0 d14_6 (XT.ii_lt_t h2) ?_
  refine g_iloadN X0 d14_16 rfl ?_
  exact g_ireturnI X0 d14_17 (by decide) (by decide) ⟨rfl, rfl, rfl⟩
set_option maxRecDepth 65536 in
set_option maxHeartbeats 40000000 in
theorem c_checkIndexS {nw : Bool} {l : Launch} {Z : State} {EL : List (String × Nat)} {a0 : Array Value} (hw : HW Z a0) (hs : Sts Z) {h0 : Heap} {B0 : BP} (i n : Int32) (h1 : ¬ i < 0) (h2 : i < n) :
    Con nw l Z EL (⟨"java/lang/String", "checkIndex", "(II)V"⟩ : MethodName) jdk_42_method_155_code 2 none [] ({ frames := 1, cells := 0, slots := 0, locals := 14 } : Room) #[(.int i), (.int n)] h0 B0 [] (PQ none h0 B0) := by
  refine k_intro (Ls := #[.val (.int i), .val (.int n)]) (by decide +kernel) rfl fun x T0 X0 => ?_
  obtain ⟨fv, sFV, rfv⟩ := hs.2.1
  refine g_iloadN X0 d15_0 rfl ?_
  refine g_iloadN X0 d15_1 rfl ?_
  refine g_getstatic X0 d15_2 (w73 hw) Via.refl sFV fun T1 X1 => ?_
  refine g_callSp X1 d15_5 (w75 hw) (w76 hw) (w74 hw) (w77 hw) (by decide) pd9 [(.int i), (.int n), fv] [] 0 (c_checkIndexP hw hs i n fv rfv h1 h2) rfl rfl rfl (Nat.le_of_eq rfl) (by decide) (by decide) 0 0 rfl rfl (by decide) (by decide) fun T2 X2 => ?_
  refine g_pop X2 d15_8 rfl ?_
  exact g_return X2 d15_9 (by decide) (by decide) ⟨rfl, rfl, rfl⟩
set_option maxRecDepth 65536 in
set_option maxHeartbeats 40000000 in
theorem c_charAtL1 {nw : Bool} {l : Launch} {Z : State} {EL : List (String × Nat)} {a0 : Array Value} (hw : HW Z a0) (hs : Sts Z) {h0 : Heap} {B0 : BP} (t : Addr) (i : Nat) (cs : List Int32) (A : Ay Z h0 t .byte ((cs.map lo8).map Value.int)) (hi : i < cs.length) (h16 : C16 cs[i]) (h8 : ¬ 255 < cs[i]) :
    Con nw l Z EL (⟨"java/lang/StringLatin1", "charAt", "([BI)C"⟩ : MethodName) jdk_43_method_2_code 2 (some .char) [] ({ frames := 2, cells := 0, slots := 0, locals := 27 } : Room) #[(.ref t), (.int (Int32.ofNat i))] h0 B0 [] (PQ (some (.int (cs[i]))) h0 B0) := by
  refine k_intro (Ls := #[.val (.ref t), .val (.int (Int32.ofNat i))]) (by decide +kernel) rfl fun x T0 X0 => ?_
  have hl : cs.length < 2 ^ 31 := by simpa using A.len
  refine g_iloadN X0 d16_0 rfl ?_
  refine g_aloadN X0 d16_1 rfl rfl ?_
  refine g_arraylength X0 d16_2 A (Int32.ofNat cs.length) (by simp) ?_
  refine g_callSp0 X0 d16_3 (w70 hw) (w71 hw) (w8 hw) (w72 hw) (by decide) pd10 [(.int (Int32.ofNat i)), (.int (Int32.ofNat cs.length))] [] 0 (c_checkIndexS hw hs _ _ (k_nn (by omega)) (k_lt hi hl)) rfl rfl rfl (Nat.le_of_eq rfl) (by decide) (by decide) 0 0 rfl rfl (by decide) (by decide) fun T1 X1 => ?_
  refine g_aloadN X1 d16_6 rfl rfl ?_
  refine g_iloadN X1 d16_7 rfl ?_
  refine g_baload X1 d16_8 A i rfl (v := .int (lo8 cs[i])) (by simp [hi]) ?_
  refine g_sipush X1 (255 : Int32) d16_9 (by decide) ?_
  refine g_iand X1 (cs[i]) d16_12 (k_b8_255 h16 h8) ?_
  refine g_i2c X1 (cs[i]) d16_13 (nar_c16 h16) ?_
  exact g_ireturn (w' := (cs[i])) X1 d16_14 (Or.inr (Or.inr (Or.inl rfl))) (nar_c16 h16) (by decide) (by decide) ⟨rfl, rfl, rfl⟩
set_option maxRecDepth 65536 in
set_option maxHeartbeats 40000000 in
theorem c_checkIndex16 {nw : Bool} {l : Launch} {Z : State} {EL : List (String × Nat)} {a0 : Array Value} (hw : HW Z a0) (hs : Sts Z) {h0 : Heap} {B0 : BP} (t : Addr) (i m : Nat) (vs : List Value) (A : Ay Z h0 t .byte vs) (hm : vs.length = 2 * m) (hi : i < m) :
    Con nw l Z EL (⟨"java/lang/StringUTF16", "checkIndex", "(I[B)V"⟩ : MethodName) jdk_52_method_91_code 2 none [] ({ frames := 2, cells := 0, slots := 0, locals := 27 } : Room) #[(.int (Int32.ofNat i)), (.ref t)] h0 B0 [] (PQ none h0 B0) := by
  refine k_intro (Ls := #[.val (.int (Int32.ofNat i)), .val (.ref t)]) (by decide +kernel) rfl fun x T0 X0 => ?_
  have hl := A.len
  refine g_iloadN X0 d17_0 rfl ?_
  refine g_aloadN X0 d17_1 rfl rfl ?_
  refine g_callSp X0 d17_2 (w110 hw) (w111 hw) (w22 hw) (w112 hw) (by decide) pd11 [(.ref t)] [(.int (Int32.ofNat i))] 1 (c_len16 hw hs t m vs A hm) rfl rfl rfl (Nat.le_of_eq rfl) (by decide) (by decide) 0 0 rfl rfl (by decide) (by decide) fun T1 X1 => ?_
  refine g_callSp0 X1 d17_5 (w113 hw) (w71 hw) (w8 hw) (w72 hw) (by decide) pd10 [(.int (Int32.ofNat i)), (.int (Int32.ofNat m))] [] 0 (c_checkIndexS hw hs _ _ (k_nn (by omega)) (k_lt hi (by omega))) rfl rfl rfl (Nat.le_of_eq rfl) (by decide) (by decide) 0 0 rfl rfl (by decide) (by decide) fun T2 X2 => ?_
  exact g_return X2 d17_8 (by decide) (by decide) ⟨rfl, rfl, rfl⟩
set_option maxRecDepth 65536 in
set_option maxHeartbeats 40000000 in
theorem c_charAt16 {nw : Bool} {l : Launch} {Z : State} {EL : List (String × Nat)} {a0 : Array Value} (hw : HW Z a0) (hs : Sts Z) {h0 : Heap} {B0 : BP} (t : Addr) (i : Nat) (cs : List Int32) (A : Ay Z h0 t .byte ((u16 cs).map Value.int)) (hi : i < cs.length) (h16 : C16 cs[i]) :
    Con nw l Z EL (⟨"java/lang/StringUTF16", "charAt", "([BI)C"⟩ : MethodName) jdk_52_method_83_code 2 (some .char) [] ({ frames := 3, cells := 0, slots := 0, locals := 40 } : Room) #[(.ref t), (.int (Int32.ofNat i))] h0 B0 [] (PQ (some (.int (cs[i]))) h0 B0) := by
  refine k_intro (Ls := #[.val (.ref t), .val (.int (Int32.ofNat i))]) (by decide +kernel) rfl fun x T0 X0 => ?_
  refine g_iloadN X0 d18_0 rfl ?_
  refine g_aloadN X0 d18_1 rfl rfl ?_
  refine g_callSp0 X0 d18_2 (w107 hw) (w108 hw) (w22 hw) (w109 hw) (by decide) pd12 [(.int (Int32.ofNat i)), (.ref t)] [] 0 (c_checkIndex16 hw hs t i cs.length _ A (by simp [u16_len]) hi) rfl rfl rfl (Nat.le_of_eq rfl) (by decide) (by decide) 0 0 rfl rfl (by decide) (by decide) fun T1 X1 => ?_
  refine g_aloadN X1 d18_5 rfl rfl ?_
  refine g_iloadN X1 d18_6 rfl ?_
  refine g_callSp X1 d18_7 (w101 hw) (w102 hw) (w22 hw) (w103 hw) (by decide) pd5 [(.ref t), (.int (Int32.ofNat i))] [] 0 (c_getChar hw hs t i cs A hi h16) rfl rfl rfl (Nat.le_of_eq rfl) (by decide) (by decide) 0 0 rfl rfl (by decide) (by decide) fun T2 X2 => ?_
  exact g_ireturn (w' := (cs[i])) X2 d18_10 (Or.inr (Or.inr (Or.inl rfl))) (nar_c16 h16) (by decide) (by decide) ⟨rfl, rfl, rfl⟩
set_option maxRecDepth 65536 in
set_option maxHeartbeats 40000000 in
theorem c_charAtC {nw : Bool} {l : Launch} {Z : State} {EL : List (String × Nat)} {a0 : Array Value} (hw : HW Z a0) (hs : Sts Z) {h0 : Heap} {B0 : BP} (a : Addr) (N i : Nat) (cs : List Int32) (S : StrC Z h0 N a cs) (hi : i < cs.length) :
    Con nw l Z EL (⟨"java/lang/String", "charAt", "(I)C"⟩ : MethodName) jdk_42_method_56_code 2 (some .char) [] ({ frames := 4, cells := 0, slots := 0, locals := 53 } : Room) #[(.ref a), (.int (Int32.ofNat i))] h0 B0 [] (PQ (some (.int (cs[i]))) h0 B0) := by
  refine k_intro (Ls := #[.val (.ref a), .val (.int (Int32.ofNat i))]) (by decide +kernel) rfl fun x T0 X0 => ?_
  have h16 : C16 cs[i] := S.1 _ (List.getElem_mem hi)
  rcases S.2 with ⟨hlo, S'⟩ | S'
  ·
    have S := S'.v
    obtain ⟨t_a, E_a, Fc_a, Fv_a, A_a⟩ := S.op
    refine g_aloadN X0 d19_0 rfl rfl ?_
    refine g_callVp X0 d19_1 (w61 hw) (w62 hw) (w64 hw) (w63 hw) (w8 hw) (w65 hw) (by decide) pd13 a [] [] 0 E_a (c_isLatin1 hw hs a _ S) rfl rfl rfl (Nat.le_of_eq rfl) (by decide) (by decide) 0 0 rfl rfl (by decide) (by decide) fun T1 X1 => ?_
    refine g_ifF X1 d19_4 (by decide) ?_
    refine g_aloadN X1 d19_7 rfl rfl ?_
    refine g_getfield X1 d19_8 (w33 hw) Via.refl Fv_a fun T2 X2 => ?_
    refine g_iloadN X2 d19_11 rfl ?_
    refine g_callSp X2 d19_12 (w66 hw) (w67 hw) (w68 hw) (w69 hw) (by decide) pd5 [(.ref t_a), (.int (Int32.ofNat i))] [] 0 (c_charAtL1 hw hs t_a i cs A_a hi h16 (hlo _ (List.getElem_mem hi))) rfl rfl rfl (Nat.le_of_eq rfl) (by decide) (by decide) 0 0 rfl rfl (by decide) (by decide) fun T3 X3 => ?_
    exact g_ireturn (w' := (cs[i])) X3 d19_15 (Or.inr (Or.inr (Or.inl rfl))) (nar_c16 h16) (by decide) (by decide) ⟨rfl, rfl, rfl⟩
  ·
    have S := S'.v
    obtain ⟨t_a, E_a, Fc_a, Fv_a, A_a⟩ := S.op
    refine g_aloadN X0 d19_0 rfl rfl ?_
    refine g_callVp X0 d19_1 (w61 hw) (w62 hw) (w64 hw) (w63 hw) (w8 hw) (w65 hw) (by decide) pd13 a [] [] 0 E_a (c_isLatin1U hw hs a _ S) rfl rfl rfl (Nat.le_of_eq rfl) (by decide) (by decide) 0 0 rfl rfl (by decide) (by decide) fun T4 X4 => ?_
    refine g_ifT X4 d19_4 (by decide) ?_
    refine g_aloadN X4 d19_16 rfl rfl ?_
    refine g_getfield X4 d19_17 (w33 hw) Via.refl Fv_a fun T5 X5 => ?_
    refine g_iloadN X5 d19_20 rfl ?_
    refine g_callSp X5 d19_21 (w104 hw) (w105 hw) (w22 hw) (w106 hw) (by decide) pd5 [(.ref t_a), (.int (Int32.ofNat i))] [] 0 (c_charAt16 hw hs t_a i cs A_a hi h16) rfl rfl rfl (Nat.le_of_eq rfl) (by decide) (by decide) 0 0 rfl rfl (by decide) (by decide) fun T6 X6 => ?_
    exact g_ireturn (w' := (cs[i])) X6 d19_24 (Or.inr (Or.inr (Or.inl rfl))) (nar_c16 h16) (by decide) (by decide) ⟨rfl, rfl, rfl⟩
set_option maxRecDepth 65536 in
set_option maxHeartbeats 40000000 in
theorem c_initCIIE {l : Launch} {Z : State} {EL : List (String × Nat)} {a0 : Array Value} (hw : HW Z a0) (hs : Sts Z) {h0 : Heap} {B0 : BP} (a a1 : Addr) (E_a : Exa Z h0 a "java/lang/String") {u_value : Value} (F_value : Fld Z h0 a "java/lang/String" "value" "[B" u_value) {u_coder : Value} (F_coder : Fld Z h0 a "java/lang/String" "coder" "B" u_coder) (nb : ¬ B0 a) (zl : Z.heap.size ≤ a) (hE : ("java/lang/String", 7) ∈ EL) :
    Con false l Z EL (⟨"java/lang/String", "<init>", "([CIILjava/lang/Void;)V"⟩ : MethodName) jdk_42_method_149_code 6 none [] ({ frames := 1, cells := 4, slots := 8, locals := 12 } : Room) #[(.ref a), (.ref a1), (.int (0 : Int32)), (.int (0 : Int32)), .null] h0 B0 [a] (fun v h B => v = none ∧ Str Z h h.size a 0 []) := by
  refine k_intro (Ls := #[.val (.ref a), .val (.ref a1), .val (.int (0 : Int32)), .val (.int (0 : Int32)), .val .null, .unset]) (by decide +kernel) rfl fun x T0 X0 => ?_
  have lt_a := k_ltE E_a
  refine g_aloadN X0 d9_0 rfl rfl ?_
  refine g_init X0 d9_1 rfl rfl (w16 hw) (w17 hw) (w18 hw) 0 rfl (by decide) (Nat.le_of_eq rfl) (by decide) fun T1 X1 => ?_
  refine g_iloadN X1 d9_4 rfl ?_
  refine g_ifF X1 d9_5 (by decide) ?_
  refine g_aloadN X1 d9_8 rfl rfl ?_
  refine g_ldcC X1 rfl d9_9 (w79 hw) (strAtoms hw) hE ([] : List Int32) (by decide) (by decide +kernel) 0 (by decide) (by decide) 2 4 rfl rfl (by decide) (by decide) fun T2 h2 B2 s2 t2 X2 E2 M2 Es2 Fc2 Fv2 At2 ls2 lt2 hn2 => ?_
  have z2 := E2.1
  refine g_getfield X2 d9_11 (w33 hw) Via.refl Fv2 fun T3 X3 => ?_
  have nb4 : ¬ B2 a := (M2.no nb (by omega))
  have F5 := (F_value.ext E2)
  have E_6 := (E_a.ext E2)
  refine g_putfield X3 d9_14 (w33 hw) Via.refl F5 E_6 (Or.inr ⟨(w34 hw), rfl, rfl⟩) (w7 hw) (ty := (.array .byte)) (v' := (.ref t2)) (by decide) rfl rfl nb4 zl (Or.inl (List.mem_of_getElem? (i := 0) rfl)) fun T7 h7 X7 W7 => ?_
  have z7 := W7.size; have Fw7 := F5.same W7
  refine g_aloadN X7 d9_17 rfl rfl ?_
  refine g_ldcC X7 rfl d9_18 (w79 hw) (strAtoms hw) hE ([] : List Int32) (by decide) (by decide +kernel) 0 (by decide) (by decide) 4 8 rfl rfl (by decide) (by decide) fun T8 h8 B8 s8 t8 X8 E8 M8 Es8 Fc8 Fv8 At8 ls8 lt8 hn8 => ?_
  have z8 := E8.1
  refine g_getfield X8 d9_20 (w31 hw) Via.refl Fc8 fun T9 X9 => ?_
  have F10 := (((F_coder.ext E2).other W7 (Or.inr (slot_ne (Or.inr (w32 hw)) (Or.inr (w34 hw)) (by decide) (t := .byte) (t' := (.array .byte)) (by decide) (by decide)))).ext E8)
  have E_11 := ((E_6.wr W7).ext E8)
  have nb12 : ¬ B8 a := (M8.no nb4 (by omega))
  refine g_putfield X9 d9_23 (w31 hw) Via.refl F10 E_11 (Or.inr ⟨(w32 hw), rfl, rfl⟩) (w7 hw) (ty := .byte) (v' := (.int (0 : Int32))) (by decide) rfl rfl nb12 zl (Or.inl (List.mem_of_getElem? (i := 0) rfl)) fun T13 h13 X13 W13 => ?_
  have z13 := W13.size; have Fw13 := F10.same W13
  have E_14 := (E_11.wr W13)
  have F15 := ((Fw7.ext E8).other W13 (Or.inr (slot_ne (Or.inr (w34 hw)) (Or.inr (w32 hw)) (by decide) (t := (.array .byte)) (t' := .byte) (by decide) (by decide))))
  have A16 := (((At2.keep (Keep.of_wr W7) (ninS (Ne.symm (hn2 a nb4).2) nin0)).ext E8).keep (Keep.of_wr W13) (ninS (Ne.symm (hn2 a nb4).2) nin0))
  exact g_return X13 d9_26 (by decide) (by decide) ⟨rfl, t2, E_14.lt, A16.lt, E_14, Fw13, F15, A16⟩
set_option maxRecDepth 65536 in
set_option maxHeartbeats 40000000 in
theorem c_initCE {l : Launch} {Z : State} {EL : List (String × Nat)} {a0 : Array Value} (hw : HW Z a0) (hs : Sts Z) {h0 : Heap} {B0 : BP} (a a1 : Addr) (E_a : Exa Z h0 a "java/lang/String") {u_value : Value} (F_value : Fld Z h0 a "java/lang/String" "value" "[B" u_value) {u_coder : Value} (F_coder : Fld Z h0 a "java/lang/String" "coder" "B" u_coder) (nb : ¬ B0 a) (zl : Z.heap.size ≤ a) (Aa : Ay Z h0 a1 .char []) (hE : ("java/lang/String", 7) ∈ EL) :
    Con false l Z EL (⟨"java/lang/String", "<init>", "([C)V"⟩ : MethodName) jdk_42_method_3_code 2 none [] ({ frames := 2, cells := 4, slots := 8, locals := 29 } : Room) #[(.ref a), (.ref a1)] h0 B0 [a] (fun v h B => v = none ∧ Str Z h h.size a 0 []) := by
  refine k_intro (Ls := #[.val (.ref a), .val (.ref a1)]) (by decide +kernel) rfl fun x T0 X0 => ?_
  have lt_a := k_ltE E_a
  refine g_aloadN X0 d10_0 rfl rfl ?_
  refine g_aloadN X0 d10_1 rfl rfl ?_
  refine g_iconst X0 (0 : Int32) d10_2 (by decide) ?_
  refine g_aloadN X0 d10_3 rfl rfl ?_
  refine g_arraylength X0 d10_4 Aa (0 : Int32) (by decide) ?_
  refine g_aconst_null X0 d10_5 ?_
  refine g_callI X0 d10_6 (w12 hw) (w13 hw) (w8 hw) (w15 hw) rfl (by decide) pd7 a [(.ref a1), (.int (0 : Int32)), (.int (0 : Int32)), .null] [] 0 (c_initCIIE hw hs a a1 E_a F_value F_coder nb zl hE) rfl rfl rfl (Nat.le_of_eq rfl) (by decide) (by decide) 4 8 rfl rfl (by decide) (by decide) (k_ws1 ⟨nb, zl, (Or.inl (List.mem_of_getElem? (i := 0) rfl))⟩) fun v1 T1 h1 B1 X1 K1 M1 q1 => ?_
  obtain ⟨rfl, S⟩ := q1
  have z1 := K1.1
  show Go x (T1.setTop (mkF x.m 9 #[.val (.ref a), .val (.ref a1)] []))
  exact g_return X1 d10_9 (by decide) (by decide) ⟨rfl, S⟩
set_option maxRecDepth 65536 in
set_option maxHeartbeats 40000000 in
theorem c_isSurr {nw : Bool} {l : Launch} {Z : State} {EL : List (String × Nat)} {a0 : Array Value} (hw : HW Z a0) (hs : Sts Z) {h0 : Heap} {B0 : BP} (c : Int32)  :
    Con nw l Z EL (⟨"java/lang/Character", "isSurrogate", "(C)Z"⟩ : MethodName) jdk_89_method_16_code 1 (some .boolean) [] ({ frames := 0, cells := 0, slots := 0, locals := 0 } : Room) #[(.int c)] h0 B0 [] (PQ (some (.int (if c < 55296 then 0 else if c < 57344 then 1 else 0))) h0 B0) := by
  refine k_intro (Ls := #[.val (.int c)]) (by decide +kernel) rfl fun x T0 X0 => ?_
  refine g_iloadN X0 d20_0 rfl ?_
  refine g_ldcI X0 d20_1 (w118 hw) ?_
  by_cases h1 : c < (55296 : Int32)
  ·
    refine g_icmpT X0 d20_3 (XT.ii_lt_t h1) ?_
    refine g_iconst X0 (0 : Int32) d20_16 (by decide) ?_
    exact g_ireturn (w' := (0 : Int32)) X0 d20_17 (Or.inl rfl) (by decide) (by decide) (by decide) ⟨by rw [if_pos h1], rfl, rfl⟩
  ·
    refine g_icmpF X0 d20_3 (XT.ii_lt_f h1) ?_
    refine g_iloadN X0 d20_6 rfl ?_
    refine g_ldcI X0 d20_7 (w119 hw) ?_
    by_cases h2 : c < (57344 : Int32)
    ·
      refine g_icmpF X0 d20_9 (XT.ii_ge_f h2) ?_
      refine g_iconst X0 (1 : Int32) d20_12 (by decide) ?_
      refine g_goto X0 d20_13 ?_
      exact g_ireturn (w' := (1 : Int32)) X0 d20_17 (Or.inl rfl) (by decide) (by decide) (by decide) ⟨by rw [if_neg h1, if_pos h2], rfl, rfl⟩
    ·
      refine g_icmpT X0 d20_9 (XT.ii_ge_t h2) ?_
      refine g_iconst X0 (0 : Int32) d20_16 (by decide) ?_
      exact g_ireturn (w' := (0 : Int32)) X0 d20_17 (Or.inl rfl) (by decide) (by decide) (by decide) ⟨by rw [if_neg h1, if_neg h2], rfl, rfl⟩
set_option maxRecDepth 65536 in
set_option maxHeartbeats 40000000 in
theorem c_w {nw : Bool} {l : Launch} {Z : State} {EL : List (String × Nat)} {a0 : Array Value} (hw : HW Z a0) (hs : Sts Z) {h0 : Heap} {B0 : BP} (c : Int32)  :
    Con nw l Z EL (⟨"com/example/glyphwire/glyphwire/Utf8LengthPinLaw", "w", "(C)J"⟩ : MethodName) method_2_code 1 (some .long) [] ({ frames := 0, cells := 0, slots := 0, locals := 0 } : Room) #[(.int c)] h0 B0 [] (PQ (some (.long (wid c))) h0 B0) := by
  refine k_intro (Ls := #[.val (.int c)]) (by decide +kernel) rfl fun x T0 X0 => ?_
  refine g_iloadN X0 d21_0 rfl ?_
  refine g_sipush X0 (128 : Int32) d21_1 (by decide) ?_
  by_cases h1 : c < (128 : Int32)
  ·
    refine g_icmpF X0 d21_4 (XT.ii_ge_f h1) ?_
    refine g_lconst X0 (1 : Int64) d21_7 (by decide) ?_
    exact g_lreturn X0 d21_8 (by decide) (by decide) ⟨by rw [wid, if_pos h1], rfl, rfl⟩
  ·
    refine g_icmpT X0 d21_4 (XT.ii_ge_t h1) ?_
    refine g_iloadN X0 d21_9 rfl ?_
    refine g_sipush X0 (2048 : Int32) d21_10 (by decide) ?_
    by_cases h2 : c < (2048 : Int32)
    ·
      refine g_icmpF X0 d21_13 (XT.ii_ge_f h2) ?_
      refine g_ldc2 X0 d21_16 (w78 hw) ?_
      exact g_lreturn X0 d21_19 (by decide) (by decide) ⟨by rw [wid, if_neg h1, if_pos h2], rfl, rfl⟩
    ·
      refine g_icmpT X0 d21_13 (XT.ii_ge_t h2) ?_
      refine g_iloadN X0 d21_20 rfl ?_
      refine g_ldcI X0 d21_21 (w82 hw) ?_
      by_cases h3 : c < (55296 : Int32)
      ·
        refine g_icmpT X0 d21_23 (XT.ii_lt_t h3) ?_
        refine g_ldc2 X0 d21_36 (w84 hw) ?_
        exact g_lreturn X0 d21_39 (by decide) (by decide) ⟨by rw [wid, if_neg h1, if_neg h2, if_pos h3], rfl, rfl⟩
      ·
        refine g_icmpF X0 d21_23 (XT.ii_lt_f h3) ?_
        refine g_iloadN X0 d21_26 rfl ?_
        refine g_ldcI X0 d21_27 (w83 hw) ?_
        by_cases h4 : (57343 : Int32) < c
        ·
          refine g_icmpT X0 d21_29 (XT.ii_gt_t h4) ?_
          refine g_ldc2 X0 d21_36 (w84 hw) ?_
          exact g_lreturn X0 d21_39 (by decide) (by decide) ⟨by rw [wid, if_neg h1, if_neg h2, if_neg h3, if_pos h4], rfl, rfl⟩
        ·
          refine g_icmpF X0 d21_29 (XT.ii_gt_f h4) ?_
          refine g_ldc2 X0 d21_32 (w78 hw) ?_
          exact g_lreturn X0 d21_35 (by decide) (by decide) ⟨by rw [wid, if_neg h1, if_neg h2, if_neg h3, if_neg h4], rfl, rfl⟩
set_option maxRecDepth 65536 in
set_option maxHeartbeats 40000000 in
theorem c_utf8len {nw : Bool} {l : Launch} {Z : State} {EL : List (String × Nat)} {a0 : Array Value} (hw : HW Z a0) (hs : Sts Z) {h0 : Heap} {B0 : BP} (a : Addr) (N : Nat) (cs : List Int32) (S : StrC Z h0 N a cs) (hcap : cs.length ≤ 3) :
    Con nw l Z EL (⟨"com/example/glyphwire/glyphwire/Utf8", "length", "(Ljava/lang/CharSequence;)J"⟩ : MethodName) prog_10_method_2_code 5 (some .long) [] ({ frames := 5, cells := 0, slots := 0, locals := 66 } : Room) #[(.ref a)] h0 B0 [] (PQ (some (.long (wids cs))) h0 B0) := by
  refine k_intro (Ls := #[.val (.ref a), .unset, .unset, .unset, .unset]) (by decide +kernel) rfl fun x T0 X0 => ?_
  have hl := S.len
  refine g_aloadN X0 d22_0 rfl rfl ?_
  refine g_callFp X0 d22_1 (w39 hw) (w40 hw) (w41 hw) (w44 hw) (w45 hw) (w46 hw) (w42 hw) (w43 hw) (w8 hw) (w47 hw) (by decide) pd14 a [] [] 0 S.exa (c_lengthC hw hs a N cs S) rfl rfl rfl (Nat.le_of_eq rfl) (by decide) (by decide) 0 0 rfl rfl (by decide) (by decide) fun T1 X1 => ?_
  refine g_i2l X1 (wids (cs.take 0) + (cs.drop 0).length.toInt64) d22_6 (by simp [wids, k_i2l hl]) ?_
  refine g_lstoreN X1 #[.val (.ref a), .val (.long (wids (cs.take 0) + (cs.drop 0).length.toInt64)), .second, .unset, .unset] d22_7 rfl ?_
  refine g_iconst X1 (0 : Int32) d22_8 (by decide) ?_
  refine g_istoreN X1 #[.val (.ref a), .val (.long (wids (cs.take 0) + (cs.drop 0).length.toInt64)), .second, .val (.int (0 : Int32)), .unset] d22_9 rfl ?_
  have loop : ∀ (d i : Nat) (hi : i + d = cs.length) (s4 : Slot) (h4 : LS s4) (T : State) (X : Wk nw l Z EL "com/example/glyphwire/glyphwire/Utf8" prog_10_method_2_code 5 (some .long) "length" ({ frames := 5, cells := 0, slots := 0, locals := 66 } : Room) h0 B0 [] (PQ (some (.long (wids cs))) h0 B0) x T h0 B0 0 0), Go x (T.setTop (mkF x.m 10 #[.val (.ref a), .val (.long (wids (cs.take i) + (cs.drop i).length.toInt64)), .second, .val (.int (Int32.ofNat i)), s4] [])) := by
    intro d
    induction d with
    | zero =>
      intro i hi s4 h4 T X
      obtain rfl : i = cs.length := by omega
      refine g_iloadN X d22_10 rfl ?_
      refine g_aloadN X d22_11 rfl rfl ?_
      refine g_callFp X d22_12 (w39 hw) (w40 hw) (w41 hw) (w44 hw) (w45 hw) (w46 hw) (w42 hw) (w43 hw) (w8 hw) (w47 hw) (by decide) pd14 a [] [(.int (Int32.ofNat cs.length))] 1 S.exa (c_lengthC hw hs a N cs S) rfl rfl rfl (Nat.le_of_eq rfl) (by decide) (by decide) 0 0 rfl rfl (by decide) (by decide) fun T2 X2 => ?_
      refine g_icmpT X2 d22_17 (XT.ii_ge_t (k_nlt (Nat.le_refl _) hl)) ?_
      refine g_lloadN X2 d22_72 rfl ?_
      exact g_lreturn X2 d22_73 (by decide) (by decide) ⟨by simp; rfl, rfl, rfl⟩
    | succ d ih =>
      intro i hi s4 h4 T X
      have hil : i < cs.length := by omega
      refine g_iloadN X d22_10 rfl ?_
      refine g_aloadN X d22_11 rfl rfl ?_
      refine g_callFp X d22_12 (w39 hw) (w40 hw) (w41 hw) (w44 hw) (w45 hw) (w46 hw) (w42 hw) (w43 hw) (w8 hw) (w47 hw) (by decide) pd14 a [] [(.int (Int32.ofNat i))] 1 S.exa (c_lengthC hw hs a N cs S) rfl rfl rfl (Nat.le_of_eq rfl) (by decide) (by decide) 0 0 rfl rfl (by decide) (by decide) fun T3 X3 => ?_
      refine g_icmpF X3 d22_17 (XT.ii_ge_f (k_lt hil hl)) ?_
      refine g_aloadN X3 d22_20 rfl rfl ?_
      refine g_iloadN X3 d22_21 rfl ?_
      refine g_callFp X3 d22_22 (w53 hw) (w54 hw) (w55 hw) (w58 hw) (w59 hw) (w46 hw) (w56 hw) (w57 hw) (w8 hw) (w60 hw) (by decide) pd15 a [(.int (Int32.ofNat i))] [] 0 S.exa (c_charAtC hw hs a N i cs S hil) rfl rfl rfl (Nat.le_of_eq rfl) (by decide) (by decide) 0 0 rfl rfl (by decide) (by decide) fun T4 X4 => ?_
      refine g_istore X4 #[.val (.ref a), .val (.long (wids (cs.take i) + (cs.drop i).length.toInt64)), .second, .val (.int (Int32.ofNat i)), .val (.int (cs[i]))] d22_27 (by rcases h4 with rfl | ⟨u, rfl⟩ <;> rfl) ?_
      have next : ∀  (T : State) (X : Wk nw l Z EL "com/example/glyphwire/glyphwire/Utf8" prog_10_method_2_code 5 (some .long) "length" ({ frames := 5, cells := 0, slots := 0, locals := 66 } : Room) h0 B0 [] (PQ (some (.long (wids cs))) h0 B0) x T h0 B0 0 0), Go x (T.setTop (mkF x.m 66 #[.val (.ref a), .val (.long (wids (cs.take (i + 1)) + (cs.drop (i + 1)).length.toInt64)), .second, .val (.int (Int32.ofNat i)), .val (.int (cs[i]))] [])) := by
        intro T X
        refine g_iinc X #[.val (.ref a), .val (.long (wids (cs.take (i + 1)) + (cs.drop (i + 1)).length.toInt64)), .second, .val (.int (Int32.ofNat (i + 1))), .val (.int (cs[i]))] d22_66 rfl (k_inc i) rfl ?_
        refine g_goto X d22_69 ?_
        exact ih (i + 1) (by omega) (.val (.int cs[i])) (Or.inr ⟨_, rfl⟩) T X
      refine g_iload X4 d22_29 rfl ?_
      refine g_sipush X4 (2048 : Int32) d22_31 (by decide) ?_
      by_cases h800 : (cs[i]) < (2048 : Int32)
      ·
        refine g_icmpT X4 d22_34 (XT.ii_lt_t h800) ?_
        have hlow : cs[i] < 2048 ∨ ¬ cs[i] < 55296 ∧ cs[i] < 57344 := Or.inl h800
        refine g_iload X4 d22_54 rfl ?_
        refine g_sipush X4 (128 : Int32) d22_56 (by decide) ?_
        by_cases h80 : (cs[i]) < (128 : Int32)
        ·
          refine g_icmpT X4 d22_59 (XT.ii_lt_t h80) ?_
          rw [wids_step0 hil h80]
          exact next T4 X4
        ·
          refine g_icmpF X4 d22_59 (XT.ii_lt_f h80) ?_
          refine g_lloadN X4 d22_62 rfl ?_
          refine g_lconst X4 (1 : Int64) d22_63 (by decide) ?_
          refine g_ladd X4 (wids (cs.take (i + 1)) + (cs.drop (i + 1)).length.toInt64) d22_64 (wids_step1 hil h80 hlow) ?_
          refine g_lstoreN X4 #[.val (.ref a), .val (.long (wids (cs.take (i + 1)) + (cs.drop (i + 1)).length.toInt64)), .second, .val (.int (Int32.ofNat i)), .val (.int (cs[i]))] d22_65 rfl ?_
          exact next T4 X4
      ·
        refine g_icmpF X4 d22_34 (XT.ii_lt_f h800) ?_
        refine g_iload X4 d22_37 rfl ?_
        refine g_callSp X4 d22_39 (w114 hw) (w115 hw) (w116 hw) (w117 hw) (by decide) pd16 [(.int (cs[i]))] [] 0 (c_isSurr hw hs cs[i]) rfl rfl rfl (Nat.le_of_eq rfl) (by decide) (by decide) 0 0 rfl rfl (by decide) (by decide) fun T5 X5 => ?_
        by_cases hsu : ¬ cs[i] < 55296 ∧ cs[i] < 57344
        ·
          refine g_ifT X5 d22_42 (XT.i0_ne_t (by rw [if_neg hsu.1, if_pos hsu.2]; decide)) ?_
          have hlow : cs[i] < 2048 ∨ ¬ cs[i] < 55296 ∧ cs[i] < 57344 := Or.inr hsu
          refine g_iload X5 d22_54 rfl ?_
          refine g_sipush X5 (128 : Int32) d22_56 (by decide) ?_
          by_cases h80 : (cs[i]) < (128 : Int32)
          ·
            refine g_icmpT X5 d22_59 (XT.ii_lt_t h80) ?_
            rw [wids_step0 hil h80]
            exact next T5 X5
          ·
            refine g_icmpF X5 d22_59 (XT.ii_lt_f h80) ?_
            refine g_lloadN X5 d22_62 rfl ?_
            refine g_lconst X5 (1 : Int64) d22_63 (by decide) ?_
            refine g_ladd X5 (wids (cs.take (i + 1)) + (cs.drop (i + 1)).length.toInt64) d22_64 (wids_step1 hil h80 hlow) ?_
            refine g_lstoreN X5 #[.val (.ref a), .val (.long (wids (cs.take (i + 1)) + (cs.drop (i + 1)).length.toInt64)), .second, .val (.int (Int32.ofNat i)), .val (.int (cs[i]))] d22_65 rfl ?_
            exact next T5 X5
        ·
          refine g_ifF X5 d22_42 (XT.i0_ne_f (k_surr hsu)) ?_
          refine g_lloadN X5 d22_45 rfl ?_
          refine g_ldc2 X5 d22_46 (w120 hw) ?_
          refine g_ladd X5 (wids (cs.take (i + 1)) + (cs.drop (i + 1)).length.toInt64) d22_49 (wids_step2 hil h800 hsu) ?_
          refine g_lstoreN X5 #[.val (.ref a), .val (.long (wids (cs.take (i + 1)) + (cs.drop (i + 1)).length.toInt64)), .second, .val (.int (Int32.ofNat i)), .val (.int (cs[i]))] d22_50 rfl ?_
          refine g_goto X5 d22_51 ?_
          exact next T5 X5
  exact loop cs.length 0 (by omega) .unset (Or.inl rfl) T1 X1
set_option maxRecDepth 65536 in
set_option maxHeartbeats 40000000 in
theorem c_law {l : Launch} {Z : State} {a0 : Array Value} (hw : HW Z a0) (hs : Sts Z) {h0 : Heap} {B0 : BP} (p0 p1 p2 p3 : Int32)  :
    Con false l Z consts_1 (⟨"com/example/glyphwire/glyphwire/Utf8LengthPinLaw", "law", "(IIII)Z"⟩ : MethodName) code 16 (some .boolean) tables_1 room_1 #[(.int p0), (.int p1), (.int p2), (.int p3)] h0 B0 [] (fun v h B => v = some (.int 1)) := by
  refine k_intro (Ls := #[.val (.int p0), .val (.int p1), .val (.int p2), .val (.int p3), .unset, .unset, .unset, .unset, .unset, .unset, .unset, .unset, .unset, .unset, .unset, .unset]) (by decide +kernel) rfl fun x T0 X0 => ?_
  have hE : ("java/lang/String", 7) ∈ consts_1 := List.mem_of_getElem? (i := 0) rfl
  obtain ⟨c0, ec0⟩ : ∃ z, z = p0 &&& 65535 := ⟨_, rfl⟩
  have hc0 : C16 c0 := ec0 ▸ c16_and _
  obtain ⟨c1, ec1⟩ : ∃ z, z = p1 &&& 65535 := ⟨_, rfl⟩
  have hc1 : C16 c1 := ec1 ▸ c16_and _
  obtain ⟨c2, ec2⟩ : ∃ z, z = p2 &&& 65535 := ⟨_, rfl⟩
  have hc2 : C16 c2 := ec2 ▸ c16_and _
  obtain ⟨nn, en⟩ : ∃ z, z = p3 &&& 3 := ⟨_, rfl⟩
  have hnn : nn = 0 ∨ nn = 1 ∨ nn = 2 ∨ nn = 3 := en ▸ k_and3 p3
  refine g_iloadN X0 d23_0 rfl ?_
  refine g_ldcI X0 d23_1 (w0 hw) ?_
  refine g_iand X0 c0 d23_3 ec0.symm ?_
  refine g_i2c X0 c0 d23_4 (nar_c16 hc0) ?_
  refine g_istore X0 #[.val (.int p0), .val (.int p1), .val (.int p2), .val (.int p3), .val (.int c0), .unset, .unset, .unset, .unset, .unset, .unset, .unset, .unset, .unset, .unset, .unset] d23_5 rfl ?_
  refine g_iloadN X0 d23_7 rfl ?_
  refine g_ldcI X0 d23_8 (w0 hw) ?_
  refine g_iand X0 c1 d23_10 ec1.symm ?_
  refine g_i2c X0 c1 d23_11 (nar_c16 hc1) ?_
  refine g_istore X0 #[.val (.int p0), .val (.int p1), .val (.int p2), .val (.int p3), .val (.int c0), .val (.int c1), .unset, .unset, .unset, .unset, .unset, .unset, .unset, .unset, .unset, .unset] d23_12 rfl ?_
  refine g_iloadN X0 d23_14 rfl ?_
  refine g_ldcI X0 d23_15 (w0 hw) ?_
  refine g_iand X0 c2 d23_17 ec2.symm ?_
  refine g_i2c X0 c2 d23_18 (nar_c16 hc2) ?_
  refine g_istore X0 #[.val (.int p0), .val (.int p1), .val (.int p2), .val (.int p3), .val (.int c0), .val (.int c1), .val (.int c2), .unset, .unset, .unset, .unset, .unset, .unset, .unset, .unset, .unset] d23_19 rfl ?_
  refine g_iloadN X0 d23_21 rfl ?_
  refine g_iconst X0 (3 : Int32) d23_22 (by decide) ?_
  refine g_iand X0 nn d23_23 en.symm ?_
  refine g_istore X0 #[.val (.int p0), .val (.int p1), .val (.int p2), .val (.int p3), .val (.int c0), .val (.int c1), .val (.int c2), .val (.int nn), .unset, .unset, .unset, .unset, .unset, .unset, .unset, .unset] d23_24 rfl ?_
  refine g_iconst X0 (0 : Int32) d23_26 (by decide) ?_
  refine g_newarray X0 d23_27 rfl (w1 hw) 0 0 (by decide) (Nat.le_refl _) (by decide) 1 0 rfl rfl (by decide) (by decide) fun T1 h1 b1 X1 E1 eb1 nb1 A1 => ?_
  have z1 := E1.1; have lt1 : @LT.lt Nat _ b1 h1.size := A1.lt; have zl1 : @LE.le Nat _ Z.heap.size b1 := eb1 ▸ X0.szZ; have fr1 : @LE.le Nat _ h0.size b1 := eb1 ▸ X0.sz
  have A1a : Ay Z h1 b1 .char [] := A1
  refine g_astore X1 #[.val (.int p0), .val (.int p1), .val (.int p2), .val (.int p3), .val (.int c0), .val (.int c1), .val (.int c2), .val (.int nn), .val (.ref b1), .unset, .unset, .unset, .unset, .unset, .unset, .unset] d23_29 rfl rfl ?_
  refine g_iconst X1 (1 : Int32) d23_31 (by decide) ?_
  refine g_newarray X1 d23_32 rfl (w1 hw) 1 1 (by decide) (Nat.le_refl _) (by decide) 2 1 rfl rfl (by decide) (by decide) fun T2 h2 b2 X2 E2 eb2 nb2 A2 => ?_
  have z2 := E2.1; have lt2 : @LT.lt Nat _ b2 h2.size := A2.lt; have zl2 : @LE.le Nat _ Z.heap.size b2 := eb2 ▸ X1.szZ; have fr2 : @LE.le Nat _ h0.size b2 := eb2 ▸ X1.sz
  have A2a : Ay Z h2 b2 .char [(.int (0 : Int32))] := A2
  refine g_dup X2 d23_34 rfl ?_
  refine g_iconst X2 (0 : Int32) d23_35 (by decide) ?_
  refine g_iload X2 d23_36 rfl ?_
  refine g_castore X2 d23_38 A2a 0 (by decide) c0 (nar_c16 hc0) (Nat.le_of_ble_eq_true rfl) nb2 zl2 (Or.inr fr2) fun T3 h3 X3 K3 A3 => ?_
  have z3 := K3.1
  have A3a : Ay Z h3 b2 .char [(.int c0)] := A3
  refine g_astore X3 #[.val (.int p0), .val (.int p1), .val (.int p2), .val (.int p3), .val (.int c0), .val (.int c1), .val (.int c2), .val (.int nn), .val (.ref b1), .val (.ref b2), .unset, .unset, .unset, .unset, .unset, .unset] d23_39 rfl rfl ?_
  refine g_iconst X3 (2 : Int32) d23_41 (by decide) ?_
  refine g_newarray X3 d23_42 rfl (w1 hw) 2 2 (by decide) (Nat.le_refl _) (by decide) 3 3 rfl rfl (by decide) (by decide) fun T4 h4 b4 X4 E4 eb4 nb4 A4 => ?_
  have z4 := E4.1; have lt4 : @LT.lt Nat _ b4 h4.size := A4.lt; have zl4 : @LE.le Nat _ Z.heap.size b4 := eb4 ▸ X3.szZ; have fr4 : @LE.le Nat _ h0.size b4 := eb4 ▸ X3.sz
  have A4a : Ay Z h4 b4 .char [(.int (0 : Int32)), (.int (0 : Int32))] := A4
  refine g_dup X4 d23_44 rfl ?_
  refine g_iconst X4 (0 : Int32) d23_45 (by decide) ?_
  refine g_iload X4 d23_46 rfl ?_
  refine g_castore X4 d23_48 A4a 0 (by decide) c0 (nar_c16 hc0) (Nat.le_of_ble_eq_true rfl) nb4 zl4 (Or.inr fr4) fun T5 h5 X5 K5 A5 => ?_
  have z5 := K5.1
  have A5a : Ay Z h5 b4 .char [(.int c0), (.int (0 : Int32))] := A5
  refine g_dup X5 d23_49 rfl ?_
  refine g_iconst X5 (1 : Int32) d23_50 (by decide) ?_
  refine g_iload X5 d23_51 rfl ?_
  refine g_castore X5 d23_53 A5a 1 (by decide) c1 (nar_c16 hc1) (Nat.le_of_ble_eq_true rfl) nb4 zl4 (Or.inr fr4) fun T6 h6 X6 K6 A6 => ?_
  have z6 := K6.1
  have A6a : Ay Z h6 b4 .char [(.int c0), (.int c1)] := A6
  refine g_astore X6 #[.val (.int p0), .val (.int p1), .val (.int p2), .val (.int p3), .val (.int c0), .val (.int c1), .val (.int c2), .val (.int nn), .val (.ref b1), .val (.ref b2), .val (.ref b4), .unset, .unset, .unset, .unset, .unset] d23_54 rfl rfl ?_
  refine g_iconst X6 (3 : Int32) d23_56 (by decide) ?_
  refine g_newarray X6 d23_57 rfl (w1 hw) 3 3 (by decide) (Nat.le_refl _) (by decide) 4 6 rfl rfl (by decide) (by decide) fun T7 h7 b7 X7 E7 eb7 nb7 A7 => ?_
  have z7 := E7.1; have lt7 : @LT.lt Nat _ b7 h7.size := A7.lt; have zl7 : @LE.le Nat _ Z.heap.size b7 := eb7 ▸ X6.szZ; have fr7 : @LE.le Nat _ h0.size b7 := eb7 ▸ X6.sz
  have A7a : Ay Z h7 b7 .char [(.int (0 : Int32)), (.int (0 : Int32)), (.int (0 : Int32))] := A7
  refine g_dup X7 d23_59 rfl ?_
  refine g_iconst X7 (0 : Int32) d23_60 (by decide) ?_
  refine g_iload X7 d23_61 rfl ?_
  refine g_castore X7 d23_63 A7a 0 (by decide) c0 (nar_c16 hc0) (Nat.le_of_ble_eq_true rfl) nb7 zl7 (Or.inr fr7) fun T8 h8 X8 K8 A8 => ?_
  have z8 := K8.1
  have A8a : Ay Z h8 b7 .char [(.int c0), (.int (0 : Int32)), (.int (0 : Int32))] := A8
  refine g_dup X8 d23_64 rfl ?_
  refine g_iconst X8 (1 : Int32) d23_65 (by decide) ?_
  refine g_iload X8 d23_66 rfl ?_
  refine g_castore X8 d23_68 A8a 1 (by decide) c1 (nar_c16 hc1) (Nat.le_of_ble_eq_true rfl) nb7 zl7 (Or.inr fr7) fun T9 h9 X9 K9 A9 => ?_
  have z9 := K9.1
  have A9a : Ay Z h9 b7 .char [(.int c0), (.int c1), (.int (0 : Int32))] := A9
  refine g_dup X9 d23_69 rfl ?_
  refine g_iconst X9 (2 : Int32) d23_70 (by decide) ?_
  refine g_iload X9 d23_71 rfl ?_
  refine g_castore X9 d23_73 A9a 2 (by decide) c2 (nar_c16 hc2) (Nat.le_of_ble_eq_true rfl) nb7 zl7 (Or.inr fr7) fun T10 h10 X10 K10 A10 => ?_
  have z10 := K10.1
  have A10a : Ay Z h10 b7 .char [(.int c0), (.int c1), (.int c2)] := A10
  refine g_astore X10 #[.val (.int p0), .val (.int p1), .val (.int p2), .val (.int p3), .val (.int c0), .val (.int c1), .val (.int c2), .val (.int nn), .val (.ref b1), .val (.ref b2), .val (.ref b4), .val (.ref b7), .unset, .unset, .unset, .unset] d23_74 rfl rfl ?_
  refine g_iload X10 d23_76 rfl ?_
  have A11 := (((((((((A1a.ext E2).keep K3 (ninS (k_neN (by omega)) nin0)).ext E4).keep K5 (ninS (k_neN (by omega)) nin0)).keep K6 (ninS (k_neN (by omega)) nin0)).ext E7).keep K8 (ninS (k_neN (by omega)) nin0)).keep K9 (ninS (k_neN (by omega)) nin0)).keep K10 (ninS (k_neN (by omega)) nin0))
  have A12 := (((((((A3a.ext E4).keep K5 (ninS (k_neN (by omega)) nin0)).keep K6 (ninS (k_neN (by omega)) nin0)).ext E7).keep K8 (ninS (k_neN (by omega)) nin0)).keep K9 (ninS (k_neN (by omega)) nin0)).keep K10 (ninS (k_neN (by omega)) nin0))
  have A13 := ((((A6a.ext E7).keep K8 (ninS (k_neN (by omega)) nin0)).keep K9 (ninS (k_neN (by omega)) nin0)).keep K10 (ninS (k_neN (by omega)) nin0))
  have rest : ∀ (cs : List Int32) (hl3 : cs.length ≤ 3) (h16 : ∀ c ∈ cs, C16 c) (ar : Addr) (Aa : Ay Z h10 ar .char (cs.map Value.int)) (T14 : State) (X14 : Wk false l Z consts_1 "com/example/glyphwire/glyphwire/Utf8LengthPinLaw" code 16 (some .boolean) "law" room_1 h0 B0 [] (fun v h B => v = some (.int 1)) x T14 h10 B0 4 6), Go x (T14.setTop (mkF x.m 160 #[.val (.int p0), .val (.int p1), .val (.int p2), .val (.int p3), .val (.int c0), .val (.int c1), .val (.int c2), .val (.int nn), .val (.ref b1), .val (.ref b2), .val (.ref b4), .val (.ref b7), .val (.ref ar), .val (.long (wids cs)), .second, .unset] [])) := by
    intro cs hl3 h16 ar Aa T14 X14
    have lar := Aa.lt
    refine g_new X14 d23_160 (w6 hw) (w7 hw) (w8 hw) 5 10 rfl rfl (by decide) (by decide) fun T15 h15 b15 X15 E15 eb15 nb15 Ex15 D15 => ?_
    have z15 := E15.1; have lt15 : @LT.lt Nat _ b15 h15.size := Ex15.lt; have zl15 : @LE.le Nat _ Z.heap.size b15 := eb15 ▸ X14.szZ; have fr15 : @LE.le Nat _ h0.size b15 := eb15 ▸ X14.sz
    have F15_coder : Fld Z h15 b15 "java/lang/String" "coder" "B" (.int (0 : Int32)) := D15 (Or.inr (w32 hw)) (ty := .byte) (by decide)
    have F15_value : Fld Z h15 b15 "java/lang/String" "value" "[B" .null := D15 (Or.inr (w34 hw)) (ty := (.array .byte)) (by decide)
    refine g_dup X15 d23_163 rfl ?_
    refine g_aload X15 d23_164 rfl rfl ?_
    have fin : ∀ (N : Nat) (T : State) (h : Heap) (B : BP) (X : Wk false l Z consts_1 "com/example/glyphwire/glyphwire/Utf8LengthPinLaw" code 16 (some .boolean) "law" room_1 h0 B0 [] (fun v h B => v = some (.int 1)) x T h B 9 19) (S : StrC Z h N b15 cs), Go x (T.setTop (mkF x.m 169 #[.val (.int p0), .val (.int p1), .val (.int p2), .val (.int p3), .val (.int c0), .val (.int c1), .val (.int c2), .val (.int nn), .val (.ref b1), .val (.ref b2), .val (.ref b4), .val (.ref b7), .val (.ref ar), .val (.long (wids cs)), .second, .unset] [(.ref b15)])) := by
      intro N T h B X S
      refine g_astore X #[.val (.int p0), .val (.int p1), .val (.int p2), .val (.int p3), .val (.int c0), .val (.int c1), .val (.int c2), .val (.int nn), .val (.ref b1), .val (.ref b2), .val (.ref b4), .val (.ref b7), .val (.ref ar), .val (.long (wids cs)), .second, .val (.ref b15)] d23_169 rfl rfl ?_
      refine g_aload X d23_171 rfl rfl ?_
      refine g_callSp X d23_173 (w35 hw) (w36 hw) (w37 hw) (w38 hw) (by decide) pd17 [(.ref b15)] [] 0 (c_utf8len hw hs b15 N cs S hl3) rfl rfl rfl (Nat.le_of_eq rfl) (by decide) (by decide) 9 19 rfl rfl (by decide) (by decide) fun T16 X16 => ?_
      refine g_lload X16 d23_176 rfl ?_
      refine g_lcmp X16 (XT.cmpL (wids cs) (wids cs)) d23_178 rfl ?_
      refine g_ifF X16 d23_179 (XT.ll_ne_f rfl) ?_
      refine g_iconst X16 (1 : Int32) d23_182 (by decide) ?_
      refine g_goto X16 d23_183 ?_
      exact g_ireturn (w' := (1 : Int32)) X16 d23_187 (Or.inl rfl) (by decide) (by decide) (by decide) rfl
    rcases cs with _ | ⟨c, cs⟩
    ·
      have A17 := (Aa.ext E15)
      refine g_callI X15 d23_166 (w9 hw) (w10 hw) (w8 hw) (w11 hw) rfl (by decide) pd18 b15 [(.ref ar)] [(.ref b15)] 1 (c_initCE hw hs b15 ar Ex15 F15_value F15_coder nb15 zl15 A17 hE) rfl rfl rfl (Nat.le_of_eq rfl) (by decide) (by decide) 9 18 rfl rfl (by decide) (by decide) (k_ws1 ⟨nb15, zl15, (Or.inr fr15)⟩) fun v18 T18 h18 B18 X18 K18 M18 q18 => ?_
      obtain ⟨rfl, S2⟩ := q18
      have z18 := K18.1
      show Go x (T18.setTop (mkF x.m 169 #[.val (.int p0), .val (.int p1), .val (.int p2), .val (.int p3), .val (.int c0), .val (.int c1), .val (.int c2), .val (.int nn), .val (.ref b1), .val (.ref b2), .val (.ref b4), .val (.ref b7), .val (.ref ar), .val (.long (wids [])), .second, .unset] [(.ref b15)]))
      exact fin _ T18 h18 B18 (X18.more (by decide) (by decide)) ⟨(fun c hc => nomatch hc), Or.inl ⟨(fun c hc => nomatch hc), S2⟩⟩
    ·
      have A19 := (Aa.ext E15)
      refine g_callI X15 d23_166 (w9 hw) (w10 hw) (w8 hw) (w11 hw) rfl (by decide) pd18 b15 [(.ref ar)] [(.ref b15)] 1 (c_initC hw hs b15 ar (c :: cs) Ex15 F15_value F15_coder nb15 zl15 A19 (by omega) (by simp) (by omega) h16) rfl rfl rfl (Nat.le_of_eq rfl) (by decide) (by decide) 7 19 rfl rfl (by decide) (by decide) (k_ws1 ⟨nb15, zl15, (Or.inr fr15)⟩) fun v20 T20 h20 B20 X20 K20 M20 q20 => ?_
      obtain ⟨rfl, rfl, S2⟩ := q20
      have z20 := K20.1
      show Go x (T20.setTop (mkF x.m 169 #[.val (.int p0), .val (.int p1), .val (.int p2), .val (.int p3), .val (.int c0), .val (.int c1), .val (.int c2), .val (.int nn), .val (.ref b1), .val (.ref b2), .val (.ref b4), .val (.ref b7), .val (.ref ar), .val (.long (wids (c :: cs))), .second, .unset] [(.ref b15)]))
      exact fin _ T20 h20 B0 (X20.more (by decide) (by decide)) S2
  by_cases hn0 : nn = 0
  ·
    refine g_ifF X10 d23_78 (XT.i0_ne_f hn0) ?_
    refine g_aload X10 d23_81 rfl rfl ?_
    refine g_astore X10 #[.val (.int p0), .val (.int p1), .val (.int p2), .val (.int p3), .val (.int c0), .val (.int c1), .val (.int c2), .val (.int nn), .val (.ref b1), .val (.ref b2), .val (.ref b4), .val (.ref b7), .val (.ref b1), .unset, .unset, .unset] d23_83 rfl rfl ?_
    refine g_lconst X10 (0 : Int64) d23_85 (by decide) ?_
    refine g_lstore X10 #[.val (.int p0), .val (.int p1), .val (.int p2), .val (.int p3), .val (.int c0), .val (.int c1), .val (.int c2), .val (.int nn), .val (.ref b1), .val (.ref b2), .val (.ref b4), .val (.ref b7), .val (.ref b1), .val (.long (0 : Int64)), .second, .unset] d23_86 rfl ?_
    refine g_goto X10 d23_88 ?_
    have e : (0 : Int64) = wids [] := by simp [wids, Int64.add_assoc]
    rw [e]
    exact rest [] (by simp) (fun c hc => nomatch hc) b1 A11 T10 X10
  ·
    refine g_ifT X10 d23_78 (XT.i0_ne_t hn0) ?_
    refine g_iload X10 d23_91 rfl ?_
    refine g_iconst X10 (1 : Int32) d23_93 (by decide) ?_
    by_cases hn1 : nn = (1 : Int32)
    ·
      refine g_icmpF X10 d23_94 (XT.ii_ne_f hn1) ?_
      refine g_aload X10 d23_97 rfl rfl ?_
      refine g_astore X10 #[.val (.int p0), .val (.int p1), .val (.int p2), .val (.int p3), .val (.int c0), .val (.int c1), .val (.int c2), .val (.int nn), .val (.ref b1), .val (.ref b2), .val (.ref b4), .val (.ref b7), .val (.ref b2), .unset, .unset, .unset] d23_99 rfl rfl ?_
      refine g_iload X10 d23_101 rfl ?_
      refine g_callSp X10 d23_103 (w2 hw) (w3 hw) (w4 hw) (w5 hw) (by decide) pd19 [(.int c0)] [] 0 (c_w hw hs c0) rfl rfl rfl (Nat.le_of_eq rfl) (by decide) (by decide) 4 6 rfl rfl (by decide) (by decide) fun T21 X21 => ?_
      refine g_lstore X21 #[.val (.int p0), .val (.int p1), .val (.int p2), .val (.int p3), .val (.int c0), .val (.int c1), .val (.int c2), .val (.int nn), .val (.ref b1), .val (.ref b2), .val (.ref b4), .val (.ref b7), .val (.ref b2), .val (.long (wid c0)), .second, .unset] d23_106 rfl ?_
      refine g_goto X21 d23_108 ?_
      have e : (wid c0) = wids [c0] := by simp [wids, Int64.add_assoc]
      rw [e]
      exact rest [c0] (by simp) (by intro c hc; simp only [List.mem_cons, List.not_mem_nil, or_false] at hc; subst hc; assumption) b2 A12 T21 X21
    ·
      refine g_icmpT X10 d23_94 (XT.ii_ne_t hn1) ?_
      refine g_iload X10 d23_111 rfl ?_
      refine g_iconst X10 (2 : Int32) d23_113 (by decide) ?_
      by_cases hn2 : nn = (2 : Int32)
      ·
        refine g_icmpF X10 d23_114 (XT.ii_ne_f hn2) ?_
        refine g_aload X10 d23_117 rfl rfl ?_
        refine g_astore X10 #[.val (.int p0), .val (.int p1), .val (.int p2), .val (.int p3), .val (.int c0), .val (.int c1), .val (.int c2), .val (.int nn), .val (.ref b1), .val (.ref b2), .val (.ref b4), .val (.ref b7), .val (.ref b4), .unset, .unset, .unset] d23_119 rfl rfl ?_
        refine g_iload X10 d23_121 rfl ?_
        refine g_callSp X10 d23_123 (w2 hw) (w3 hw) (w4 hw) (w5 hw) (by decide) pd19 [(.int c0)] [] 0 (c_w hw hs c0) rfl rfl rfl (Nat.le_of_eq rfl) (by decide) (by decide) 4 6 rfl rfl (by decide) (by decide) fun T22 X22 => ?_
        refine g_iload X22 d23_126 rfl ?_
        refine g_callSp X22 d23_128 (w2 hw) (w3 hw) (w4 hw) (w5 hw) (by decide) pd19 [(.int c1)] [(.long (wid c0))] 2 (c_w hw hs c1) rfl rfl rfl (Nat.le_of_eq rfl) (by decide) (by decide) 4 6 rfl rfl (by decide) (by decide) fun T23 X23 => ?_
        refine g_ladd X23 ((wid c0) + (wid c1)) d23_131 rfl ?_
        refine g_lstore X23 #[.val (.int p0), .val (.int p1), .val (.int p2), .val (.int p3), .val (.int c0), .val (.int c1), .val (.int c2), .val (.int nn), .val (.ref b1), .val (.ref b2), .val (.ref b4), .val (.ref b7), .val (.ref b4), .val (.long ((wid c0) + (wid c1))), .second, .unset] d23_132 rfl ?_
        refine g_goto X23 d23_134 ?_
        have e : ((wid c0) + (wid c1)) = wids [c0, c1] := by simp [wids, Int64.add_assoc]
        rw [e]
        exact rest [c0, c1] (by simp) (by intro c hc; simp only [List.mem_cons, List.not_mem_nil, or_false] at hc; rcases hc with rfl | rfl <;> assumption) b4 A13 T23 X23
      ·
        refine g_icmpT X10 d23_114 (XT.ii_ne_t hn2) ?_
        refine g_aload X10 d23_137 rfl rfl ?_
        refine g_astore X10 #[.val (.int p0), .val (.int p1), .val (.int p2), .val (.int p3), .val (.int c0), .val (.int c1), .val (.int c2), .val (.int nn), .val (.ref b1), .val (.ref b2), .val (.ref b4), .val (.ref b7), .val (.ref b7), .unset, .unset, .unset] d23_139 rfl rfl ?_
        refine g_iload X10 d23_141 rfl ?_
        refine g_callSp X10 d23_143 (w2 hw) (w3 hw) (w4 hw) (w5 hw) (by decide) pd19 [(.int c0)] [] 0 (c_w hw hs c0) rfl rfl rfl (Nat.le_of_eq rfl) (by decide) (by decide) 4 6 rfl rfl (by decide) (by decide) fun T24 X24 => ?_
        refine g_iload X24 d23_146 rfl ?_
        refine g_callSp X24 d23_148 (w2 hw) (w3 hw) (w4 hw) (w5 hw) (by decide) pd19 [(.int c1)] [(.long (wid c0))] 2 (c_w hw hs c1) rfl rfl rfl (Nat.le_of_eq rfl) (by decide) (by decide) 4 6 rfl rfl (by decide) (by decide) fun T25 X25 => ?_
        refine g_ladd X25 ((wid c0) + (wid c1)) d23_151 rfl ?_
        refine g_iload X25 d23_152 rfl ?_
        refine g_callSp X25 d23_154 (w2 hw) (w3 hw) (w4 hw) (w5 hw) (by decide) pd19 [(.int c2)] [(.long ((wid c0) + (wid c1)))] 2 (c_w hw hs c2) rfl rfl rfl (Nat.le_of_eq rfl) (by decide) (by decide) 4 6 rfl rfl (by decide) (by decide) fun T26 X26 => ?_
        refine g_ladd X26 (((wid c0) + (wid c1)) + (wid c2)) d23_157 rfl ?_
        refine g_lstore X26 #[.val (.int p0), .val (.int p1), .val (.int p2), .val (.int p3), .val (.int c0), .val (.int c1), .val (.int c2), .val (.int nn), .val (.ref b1), .val (.ref b2), .val (.ref b4), .val (.ref b7), .val (.ref b7), .val (.long (((wid c0) + (wid c1)) + (wid c2))), .second, .unset] d23_158 rfl ?_
        have e : (((wid c0) + (wid c1)) + (wid c2)) = wids [c0, c1, c2] := by simp [wids, Int64.add_assoc]
        rw [e]
        exact rest [c0, c1, c2] (by simp) (by intro c hc; simp only [List.mem_cons, List.not_mem_nil, or_false] at hc; rcases hc with rfl | rfl | rfl <;> assumption) b7 A10a T26 X26
theorem comes_1 {Post : Tables → Env → Array Value → State → Outcome → State → Prop} (hpost : ∀ tb e args s v u, (limb_1_1.after args s (.returned v) u = true ∧ limb_1_2.after args s (.returned v) u = true ∧ True) → FramedW s (.returned v) u (Jvm.fieldLocs frame_1_writes args s ++ Jvm.arrayLocs frame_1_arrays args s ++ Jvm.staticLocs frame_1_statics s) 24 1152 → Post tb e args s (.returned v) u) :
    ArmFor flags0 classFile x code maxLocals ret World_1 tables_1 room_1 Calls_1 rest_1 Pre_1 Post := by
  intro l hfl _ _ p e ha hc hk s m args below hf hA hF happ hP
  obtain ⟨hcalls, hrest, hpre⟩ := hP
  obtain ⟨-, -, -, hnamed, -, -, -, hat⟩ := (Spec.applies_iff hf).mp happ
  obtain ⟨hg, hn⟩ := and_e (Cond.before_iff.mp (show (Jvm.Cond.and given_1 narrow_1).before args s = true from hpre))
  obtain ⟨h1, hg⟩ := and_e hg
  obtain ⟨g0, hg⟩ := and_e hg
  obtain ⟨g1, hg⟩ := and_e hg
  obtain ⟨g2, hg⟩ := and_e hg
  have g3 := hg
  obtain ⟨w0, w1, w2, w3, rfl⟩ : ∃ w0 w1 w2 w3 : Value, args = #[w0, w1, w2, w3] := by
    have hs : args.size = 4 := by simpa [Cond.value, given_1] using h1
    obtain ⟨L⟩ := args
    match L, hs with
    | [w0, w1, w2, w3], _ => exact ⟨w0, w1, w2, w3, rfl⟩
  have hw := fun d (hd : d ∈ tables_1) => atoms_spec (ws := Jvm.Cond.code x code maxLocals ret :: tables_1) hat d (List.mem_cons_of_mem _ hd)
  obtain ⟨hsets, hown0⟩ := atoms_of _ (rest_1_c_eq ▸ (show rest_1_c.before _ s = true from hrest))
  obtain ⟨p0, e0⟩ := is_v g0
  obtain rfl : w0 = (.int p0) := Option.some.inj e0
  obtain ⟨p1, e1⟩ := is_v g1
  obtain rfl : w1 = (.int p1) := Option.some.inj e1
  obtain ⟨p2, e2⟩ := is_v g2
  obtain rfl : w2 = (.int p2) := Option.some.inj e2
  obtain ⟨p3, e3⟩ := is_v g3
  obtain rfl : w3 = (.int p3) := Option.some.inj e3
  have n5 := not_v (Cond.before_iff.mp (hsets _ (List.mem_of_getElem? (i := 2) rfl)))
  obtain ⟨cv, ec⟩ := is_v (Cond.before_iff.mp (hsets _ (List.mem_of_getElem? (i := 1) rfl)))
  have S1 : Sta s s.heap "java/lang/String" "COMPACT_STRINGS" "Z" (.int cv) := Sta.start ec (Or.inl (hsets _ (List.mem_of_getElem? (i := 0) rfl)))
  have ncv : ¬ (cv = (0 : Int32)) := gotF (Cond.eq_ints ec (Term.int_eval (0))) n5
  obtain ⟨fv, ef, rf⟩ := isR_v (Cond.before_iff.mp (hsets _ (List.mem_of_getElem? (i := 8) rfl)))
  have S2 : Sta s s.heap "jdk/internal/util/Preconditions" "SIOOBE_FORMATTER" "Ljava/util/function/BiFunction;" fv := Sta.start ef (Or.inl (hsets _ (List.mem_of_getElem? (i := 7) rfl)))
  have S3 : Sta s s.heap "java/lang/StringUTF16" "$assertionsDisabled" "Z" (.int 1) := Sta.start (eqv_i (Term.int_eval _) (Cond.before_iff.mp (hsets _ (List.mem_of_getElem? (i := 12) rfl)))) (Or.inl (hsets _ (List.mem_of_getElem? (i := 11) rfl)))
  have S4 : Sta s s.heap "java/lang/StringUTF16" "HI_BYTE_SHIFT" "I" (.int 0) := Sta.start (eqv_i (Term.int_eval _) (Cond.before_iff.mp (hsets _ (List.mem_of_getElem? (i := 15) rfl)))) (Or.inl (hsets _ (List.mem_of_getElem? (i := 14) rfl)))
  have S5 : Sta s s.heap "java/lang/StringUTF16" "LO_BYTE_SHIFT" "I" (.int 8) := Sta.start (eqv_i (Term.int_eval _) (Cond.before_iff.mp (hsets _ (List.mem_of_getElem? (i := 18) rfl)))) (Or.inl (hsets _ (List.mem_of_getElem? (i := 17) rfl)))
  have hS : Sts s := ⟨⟨cv, S1, ncv⟩, ⟨fv, S2, rf⟩, ⟨S3, S4, S5⟩, trivial⟩
  have hEW : EW s _ consts_1 := EW.cons (w79 hw) (by decide) EW.nil
  have hH : ∀ p ∈ consts_1, Jvm.Lit.constHeld s p.1 p.2 := hcalls.1
  have hI : k_inv s consts_1 (Bk s consts_1 s.vm s.heap) s.vm s.heap := ⟨CHv.start hEW hH (hsets _ (List.mem_of_getElem? (i := 2) rfl)) (strAtoms hw _ (List.mem_of_getElem? (i := 2) rfl)) (strAtoms hw _ (List.mem_of_getElem? (i := 1) rfl)), fun y b => b, fun y b => by obtain ⟨cell, hc⟩ := Bk.there b; exact (Array.getElem?_eq_some_iff.mp hc).1, ⟨Nat.le_refl _, fun _ _ q => q⟩, _, hEW⟩
  obtain ⟨n, o, h1, h2, h3, v, L, B', rfl, rfl, -, -, N, -, hq⟩ := c_law (l := l) hw hS (B0 := (Bk s consts_1 s.vm s.heap)) p0 p1 p2 p3 p e ha hc hk s m _ below hf ((Spec.applies_iff_loose hf).mp happ).1 ⟨rfl, State.Warmed39.refl s, rfl, hI⟩ trivial
  obtain ⟨⟨q1, q2, q3, q4⟩, -⟩ := hq
  refine ⟨n, _, h1, h2, h3, hpost _ _ _ _ _ _ ⟨Cond.after_iff.mpr rfl, Cond.after_iff.mpr (eq_i res_at (Term.int_eval (1)) rfl), trivial⟩ ⟨q1, q2, q3, (q4.sift fun y hy => Or.inr (N y hy)).mono (by decide) (by decide)⟩⟩
theorem main_1_1 : Claimed_1_1 := comes_1 fun _ _ _ _ _ _ h hF => ⟨h.1, hF⟩
theorem main_1_2 : Claimed_1_2 := comes_1 fun _ _ _ _ _ _ h hF => ⟨h.2.1, hF⟩
end Jvm.Pilot.@@N@@
namespace Jvm.Pilot.@@N@@
open Jvm Jvm.ClassFile Sem Op Lib Jvm.Free Jvm.Stand Jvm.Pilot.@@N@@.Jvm.D
/-! MADE BY PROGRAM (witnessworld.py) out of the Statement's table words and the real class files: 21 classes; the members and pool entries that the words name. The judged class is class 1, her method 2. -/
namespace start1
open Jvm.ClassFile
def u (s : String) : CpInfo := .utf8 (stringToUtf16 s)
/-- a pool by its gaps: so many unusable entries, then the entry; so many at the end -/
def gap : Nat → List CpInfo → List CpInfo
  | 0, r => r
  | n + 1, r => .unusable :: gap n r
def poolList (es : List (Nat × CpInfo)) (last : Nat) : List CpInfo := es.foldr (fun e r => gap e.1 (e.2 :: r)) (gap last [])
def pool (es : List (Nat × CpInfo)) (last : Nat) : Array CpInfo := ⟨poolList es last⟩
def fileOf (pool : Array CpInfo) (this : Nat) (attrs : Array Attribute := #[]) (ms : Array MethodInfo := #[]) (fl : Nat := 33) (sup : Nat := 0) (ifs : Array Nat := #[]) (fds : Array FieldInfo := #[]) : ClassFile where
  minorVersion := 0
  majorVersion := 65
  constantPool := pool
  accessFlags := fl
  thisClass := this
  superClass := sup
  interfaces := ifs
  fields := fds
  methods := ms
  attributes := attrs
def plain (name : String) (sup : Option ClassId) : Class where
  name := name
  kind := .ordinary
  loader := none
  accessFlags := 33
  super := sup
  interfaces := #[]
  cf := none
  fields := #[]
  methods := #[]
  instanceTypes := #[]
  staticTypes := #[]
  resolved := #[]
  callSites := []
  init := .initialized
  statics := none
  mirror := none

def pool0 : Array CpInfo := pool [(5, u "<init>"), (0, u "()V"), (1, .class_ 10), (1, u "java/lang/Object")] 113

def k0c0 : Code := { maxStack := 0, maxLocals := 1, code := object_method_1_code, exceptionTable := #[], attributes := #[] }
def k0m0 : Method := { name := "<init>", desc := "()V", sig := { parameters := [], returnType := none }, accessFlags := 1, code := some k0c0 }
/-- java/lang/Object -/
def k0 : Class := { plain "java/lang/Object" none with
  accessFlags := 33
  interfaces := #[]
  cf := some (fileOf pool0 8 #[] #[{ accessFlags := 1, nameIndex := 5, descriptorIndex := 6, attributes := #[] }] 33 0 #[] #[])
  fields := #[]
  methods := #[k0m0]
  instanceTypes := #[]
  staticTypes := #[]
  resolved := Array.replicate 124 none
  statics := none }

def pool1 : Array CpInfo := pool [(2, .class_ 4), (1, u "java/lang/Object"), (0, u "<init>"), (0, u "()V"), (0, .long 2), (1, .integer 55296), (0, .integer 57343), (0, .long 3), (1, .integer 65535), (0, .methodref 15 16), (0, .class_ 17), (0, .nameAndType 18 19), (0, u "com/example/glyphwire/glyphwire/Utf8LengthPinLaw"), (0, u "w"), (0, u "(C)J"), (0, .class_ 21), (0, u "java/lang/String"), (0, .methodref 20 23), (0, .nameAndType 5 24), (0, u "([C)V"), (0, .methodref 26 27), (0, .class_ 28), (0, .nameAndType 29 30), (0, u "com/example/glyphwire/glyphwire/Utf8"), (0, u "length"), (0, u "(Ljava/lang/CharSequence;)J"), (3, u "law"), (0, u "(IIII)Z")] 4

def k1m0 : Method := { name := "<init>", desc := "()V", sig := { parameters := [], returnType := none }, accessFlags := 2, code := none }
def k1c1 : Code := { maxStack := 2, maxLocals := 1, code := method_2_code, exceptionTable := #[], attributes := #[] }
def k1m1 : Method := { name := "w", desc := "(C)J", sig := { parameters := [.char], returnType := some .long }, accessFlags := 10, code := some k1c1 }
def k1c2 : Code := { maxStack := 4, maxLocals := 16, code := code, exceptionTable := #[], attributes := #[] }
def k1m2 : Method := { name := "law", desc := "(IIII)Z", sig := { parameters := [.int, .int, .int, .int], returnType := some .boolean }, accessFlags := 9, code := some k1c2 }
/-- com/example/glyphwire/glyphwire/Utf8LengthPinLaw -/
def k1 : Class := { plain "com/example/glyphwire/glyphwire/Utf8LengthPinLaw" (some 0) with
  accessFlags := 49
  interfaces := #[]
  cf := some (fileOf pool1 15 #[] #[{ accessFlags := 2, nameIndex := 5, descriptorIndex := 6, attributes := #[] }, { accessFlags := 10, nameIndex := 18, descriptorIndex := 19, attributes := #[] }, { accessFlags := 9, nameIndex := 34, descriptorIndex := 35, attributes := #[] }] 49 2 #[] #[])
  fields := #[]
  methods := #[k1m0, k1m1, k1m2]
  instanceTypes := #[]
  staticTypes := #[]
  resolved := Array.replicate 40 none
  statics := none }

def pool2 : Array CpInfo := pool [(1, .class_ 2), (0, u "java/io/Serializable"), (0, .class_ 4), (0, u "java/lang/Object")] 2

/-- java/io/Serializable -/
def k2 : Class := { plain "java/io/Serializable" (some 0) with
  accessFlags := 1537
  interfaces := #[]
  cf := some (fileOf pool2 1 #[] #[] 1537 3 #[] #[])
  fields := #[]
  methods := #[]
  instanceTypes := #[]
  staticTypes := #[]
  resolved := Array.replicate 7 none
  statics := none }

def pool3 : Array CpInfo := pool [(1, .class_ 2), (0, u "java/lang/Comparable"), (0, .class_ 4), (0, u "java/lang/Object")] 7

/-- java/lang/Comparable -/
def k3 : Class := { plain "java/lang/Comparable" (some 0) with
  accessFlags := 1537
  interfaces := #[]
  cf := some (fileOf pool3 1 #[] #[] 1537 3 #[] #[])
  fields := #[]
  methods := #[]
  instanceTypes := #[]
  staticTypes := #[]
  resolved := Array.replicate 12 none
  statics := none }

def pool4 : Array CpInfo := pool [(2, .class_ 4), (1, u "java/lang/CharSequence"), (0, u "length"), (0, u "()I"), (38, u "charAt"), (0, u "(I)C"), (0, .class_ 48), (0, u "java/lang/CharSequence$1CodePointIterator"), (10, .class_ 60), (0, u "java/lang/CharSequence$1CharIterator"), (5, .class_ 67), (0, u "java/lang/Object")] 63

def k4m0 : Method := { name := "length", desc := "()I", sig := { parameters := [], returnType := some .int }, accessFlags := 1025, code := none }
def k4m1 : Method := { name := "charAt", desc := "(I)C", sig := { parameters := [.int], returnType := some .char }, accessFlags := 1025, code := none }
/-- java/lang/CharSequence -/
def k4 : Class := { plain "java/lang/CharSequence" (some 0) with
  accessFlags := 1537
  interfaces := #[]
  cf := some (fileOf pool4 2 #[.nestMembers #[47, 59]] #[{ accessFlags := 1025, nameIndex := 5, descriptorIndex := 6, attributes := #[] }, { accessFlags := 1025, nameIndex := 45, descriptorIndex := 46, attributes := #[] }] 1537 66 #[] #[])
  fields := #[]
  methods := #[k4m0, k4m1]
  instanceTypes := #[]
  staticTypes := #[]
  resolved := Array.replicate 131 none
  statics := none }

def pool5 : Array CpInfo := pool [(1, .class_ 2), (0, u "java/lang/constant/Constable"), (0, .class_ 4), (0, u "java/lang/Object")] 6

/-- java/lang/constant/Constable -/
def k5 : Class := { plain "java/lang/constant/Constable" (some 0) with
  accessFlags := 1537
  interfaces := #[]
  cf := some (fileOf pool5 1 #[] #[] 1537 3 #[] #[])
  fields := #[]
  methods := #[]
  instanceTypes := #[]
  staticTypes := #[]
  resolved := Array.replicate 11 none
  statics := none }

def pool6 : Array CpInfo := pool [(1, .class_ 2), (0, u "java/lang/constant/ConstantDesc"), (0, .class_ 4), (0, u "java/lang/Object")] 32

/-- java/lang/constant/ConstantDesc -/
def k6 : Class := { plain "java/lang/constant/ConstantDesc" (some 0) with
  accessFlags := 1537
  interfaces := #[]
  cf := some (fileOf pool6 1 #[] #[] 1537 3 #[] #[])
  fields := #[]
  methods := #[]
  instanceTypes := #[]
  staticTypes := #[]
  resolved := Array.replicate 37 none
  statics := none }

def pool7 : Array CpInfo := pool [(1, .methodref 2 3), (0, .class_ 4), (0, .nameAndType 5 6), (0, u "java/lang/Object"), (0, u "<init>"), (0, u "()V"), (0, .string 8), (0, u ""), (0, .fieldref 10 11), (0, .class_ 12), (0, .nameAndType 13 14), (0, u "java/lang/String"), (0, u "value"), (0, u "[B"), (0, .fieldref 10 16), (0, .nameAndType 17 18), (0, u "coder"), (0, u "B"), (2, u "hash"), (0, u "I"), (2, u "hashIsZero"), (0, u "Z"), (0, .methodref 10 28), (0, .nameAndType 5 29), (0, u "([CIILjava/lang/Void;)V"), (8, .fieldref 10 39), (0, .nameAndType 40 26), (0, u "COMPACT_STRINGS"), (1, .class_ 44), (1, u "java/lang/StringUTF16"), (0, u "compress"), (1, .methodref 42 48), (0, .nameAndType 49 50), (0, u "coderFromArrayLen"), (0, u "([BI)B"), (56, .class_ 109), (1, u "java/lang/StringLatin1"), (32, u "()Z"), (34, .methodref 42 178), (0, .nameAndType 45 179), (0, u "([CII)[B"), (154, u "()I"), (0, .methodref 10 336), (0, .nameAndType 17 337), (0, u "()B"), (25, u "([BI)C"), (27, u "(II)V"), (35, u "(I)C"), (64, .methodref 10 493), (0, .nameAndType 494 142), (0, u "isLatin1"), (0, .methodref 107 496), (0, .nameAndType 497 363), (0, u "charAt"), (0, .methodref 42 496), (2, u "checkIndex"), (5, u "length"), (67, .class_ 576), (0, u "java/lang/CharSequence"), (22, u "CASE_INSENSITIVE_ORDER"), (0, u "Ljava/util/Comparator;"), (409, u "([C)V"), (42, .fieldref 1054 1055), (0, .class_ 1056), (0, .nameAndType 1057 1058), (0, u "jdk/internal/util/Preconditions"), (0, u "SIOOBE_FORMATTER"), (0, u "Ljava/util/function/BiFunction;"), (0, .methodref 1054 1060), (0, .nameAndType 501 1061), (0, u "(IILjava/util/function/BiFunction;)I"), (39, u "serialPersistentFields"), (0, u "[Ljava/io/ObjectStreamField;"), (0, .class_ 1104), (0, u "java/lang/String$CaseInsensitiveComparator"), (1, .class_ 1107), (0, u "java/io/Serializable"), (0, .class_ 1109), (0, u "java/lang/Comparable"), (0, .class_ 1111), (0, u "java/lang/constant/Constable"), (0, .class_ 1113), (0, u "java/lang/constant/ConstantDesc"), (2, u "serialVersionUID"), (0, u "J"), (3, u "REPL"), (0, u "C"), (2, u "LATIN1"), (1, u "UTF16")] 323

def k7m0 : Method := { name := "<init>", desc := "()V", sig := { parameters := [], returnType := none }, accessFlags := 1, code := none }
def k7c1 : Code := { maxStack := 5, maxLocals := 2, code := jdk_42_method_3_code, exceptionTable := #[], attributes := #[] }
def k7m1 : Method := { name := "<init>", desc := "([C)V", sig := { parameters := [(.array .char)], returnType := none }, accessFlags := 1, code := some k7c1 }
def k7c2 : Code := { maxStack := 2, maxLocals := 1, code := jdk_42_method_54_code, exceptionTable := #[], attributes := #[] }
def k7m2 : Method := { name := "length", desc := "()I", sig := { parameters := [], returnType := some .int }, accessFlags := 1, code := some k7c2 }
def k7c3 : Code := { maxStack := 2, maxLocals := 2, code := jdk_42_method_56_code, exceptionTable := #[], attributes := #[] }
def k7m3 : Method := { name := "charAt", desc := "(I)C", sig := { parameters := [.int], returnType := some .char }, accessFlags := 1, code := some k7c3 }
def k7c4 : Code := { maxStack := 4, maxLocals := 6, code := jdk_42_method_149_code, exceptionTable := #[], attributes := #[] }
def k7m4 : Method := { name := "<init>", desc := "([CIILjava/lang/Void;)V", sig := { parameters := [(.array .char), .int, .int, (.object "java/lang/Void")], returnType := none }, accessFlags := 2, code := some k7c4 }
def k7c5 : Code := { maxStack := 1, maxLocals := 1, code := jdk_42_method_152_code, exceptionTable := #[], attributes := #[] }
def k7m5 : Method := { name := "coder", desc := "()B", sig := { parameters := [], returnType := some .byte }, accessFlags := 0, code := some k7c5 }
def k7c6 : Code := { maxStack := 1, maxLocals := 1, code := jdk_42_method_154_code, exceptionTable := #[], attributes := #[] }
def k7m6 : Method := { name := "isLatin1", desc := "()Z", sig := { parameters := [], returnType := some .boolean }, accessFlags := 0, code := some k7c6 }
def k7c7 : Code := { maxStack := 3, maxLocals := 2, code := jdk_42_method_155_code, exceptionTable := #[], attributes := #[] }
def k7m7 : Method := { name := "checkIndex", desc := "(II)V", sig := { parameters := [.int, .int], returnType := none }, accessFlags := 8, code := some k7c7 }
/-- java/lang/String -/
def k7 : Class := { plain "java/lang/String" (some 0) with
  accessFlags := 49
  interfaces := #[2, 3, 4, 5, 6]
  cf := some (fileOf pool7 10 #[.nestMembers #[1103]] #[{ accessFlags := 1, nameIndex := 5, descriptorIndex := 6, attributes := #[] }, { accessFlags := 1, nameIndex := 5, descriptorIndex := 1010, attributes := #[] }, { accessFlags := 1, nameIndex := 507, descriptorIndex := 334, attributes := #[] }, { accessFlags := 1, nameIndex := 497, descriptorIndex := 427, attributes := #[] }, { accessFlags := 2, nameIndex := 5, descriptorIndex := 29, attributes := #[] }, { accessFlags := 0, nameIndex := 17, descriptorIndex := 337, attributes := #[] }, { accessFlags := 0, nameIndex := 494, descriptorIndex := 142, attributes := #[] }, { accessFlags := 8, nameIndex := 501, descriptorIndex := 391, attributes := #[] }] 49 2 #[1106, 1108, 575, 1110, 1112] #[{ accessFlags := 18, nameIndex := 13, descriptorIndex := 14, attributes := #[] }, { accessFlags := 18, nameIndex := 17, descriptorIndex := 18, attributes := #[] }, { accessFlags := 2, nameIndex := 21, descriptorIndex := 22, attributes := #[] }, { accessFlags := 2, nameIndex := 25, descriptorIndex := 26, attributes := #[] }, { accessFlags := 26, nameIndex := 1116, descriptorIndex := 1117, attributes := #[] }, { accessFlags := 24, nameIndex := 40, descriptorIndex := 26, attributes := #[] }, { accessFlags := 26, nameIndex := 1101, descriptorIndex := 1102, attributes := #[] }, { accessFlags := 26, nameIndex := 1121, descriptorIndex := 1122, attributes := #[] }, { accessFlags := 25, nameIndex := 599, descriptorIndex := 600, attributes := #[] }, { accessFlags := 24, nameIndex := 1125, descriptorIndex := 18, attributes := #[] }, { accessFlags := 24, nameIndex := 1127, descriptorIndex := 18, attributes := #[] }])
  fields := #[{ name := "value", type := (.array .byte), accessFlags := 18, slot := 0, constantValue := 0 }, { name := "coder", type := .byte, accessFlags := 18, slot := 1, constantValue := 0 }, { name := "hash", type := .int, accessFlags := 2, slot := 2, constantValue := 0 }, { name := "hashIsZero", type := .boolean, accessFlags := 2, slot := 3, constantValue := 0 }, { name := "serialVersionUID", type := .long, accessFlags := 26, slot := 0, constantValue := 0 }, { name := "COMPACT_STRINGS", type := .boolean, accessFlags := 24, slot := 1, constantValue := 0 }, { name := "serialPersistentFields", type := (.array (.object "java/io/ObjectStreamField")), accessFlags := 26, slot := 2, constantValue := 0 }, { name := "REPL", type := .char, accessFlags := 26, slot := 3, constantValue := 0 }, { name := "CASE_INSENSITIVE_ORDER", type := (.object "java/util/Comparator"), accessFlags := 25, slot := 4, constantValue := 0 }, { name := "LATIN1", type := .byte, accessFlags := 24, slot := 5, constantValue := 0 }, { name := "UTF16", type := .byte, accessFlags := 24, slot := 6, constantValue := 0 }]
  methods := #[k7m0, k7m1, k7m2, k7m3, k7m4, k7m5, k7m6, k7m7]
  instanceTypes := #[(.array .byte), .byte, .int, .boolean]
  staticTypes := #[.long, .boolean, (.array (.object "java/io/ObjectStreamField")), .char, (.object "java/util/Comparator"), .byte, .byte]
  resolved := Array.replicate 1451 none
  statics := some 0 }

def pool8 : Array CpInfo := pool [(3, .class_ 4), (0, u "java/lang/String"), (1, .class_ 8), (1, u "java/lang/Object"), (0, u "<init>"), (0, u "()V"), (0, .methodref 12 13), (0, .class_ 14), (0, .nameAndType 15 16), (0, u "java/lang/StringUTF16"), (0, u "newBytesLength"), (0, u "(I)I"), (3, .integer 1073741823), (23, .fieldref 12 45), (0, .nameAndType 46 47), (0, u "$assertionsDisabled"), (0, u "Z"), (0, .methodref 12 49), (0, .nameAndType 50 51), (0, u "length"), (0, u "([B)I"), (7, .fieldref 12 60), (0, .nameAndType 61 62), (0, u "HI_BYTE_SHIFT"), (0, u "I"), (0, .fieldref 12 64), (0, .nameAndType 65 62), (0, u "LO_BYTE_SHIFT"), (1, .methodref 12 68), (0, .nameAndType 69 70), (0, u "checkIndex"), (0, u "(I[B)V"), (0, .methodref 12 72), (0, .nameAndType 73 74), (0, u "getChar"), (0, u "([BI)C"), (32, .methodref 12 108), (0, .nameAndType 109 110), (0, u "newBytesFor"), (0, u "(I)[B"), (0, .methodref 12 112), (0, .nameAndType 113 114), (0, u "putChar"), (0, u "([BII)V"), (0, .methodref 12 116), (0, .nameAndType 117 118), (0, u "compress"), (0, u "([CI[BII)I"), (0, .methodref 12 120), (0, .nameAndType 121 122), (0, u "toBytes"), (0, u "([CII)[B"), (138, u "coderFromArrayLen"), (0, u "([BI)B"), (106, .class_ 371), (1, u "java/lang/StringUTF16$LinesSpliterator"), (20, u "charAt"), (21, .methodref 3 415), (0, .nameAndType 69 416), (0, u "(II)V"), (13, u "MAX_LENGTH"), (196, .class_ 628), (0, u "java/lang/StringUTF16$CodePointsSpliterator"), (0, .class_ 630), (0, u "java/lang/StringUTF16$CharsSpliterator")] 4

def k8m0 : Method := { name := "<init>", desc := "()V", sig := { parameters := [], returnType := none }, accessFlags := 0, code := none }
def k8c1 : Code := { maxStack := 1, maxLocals := 1, code := jdk_52_method_2_code, exceptionTable := #[], attributes := #[] }
def k8m1 : Method := { name := "newBytesFor", desc := "(I)[B", sig := { parameters := [.int], returnType := some (.array .byte) }, accessFlags := 9, code := some k8c1 }
def k8c2 : Code := { maxStack := 4, maxLocals := 1, code := jdk_52_method_3_code, exceptionTable := #[], attributes := #[] }
def k8m2 : Method := { name := "newBytesLength", desc := "(I)I", sig := { parameters := [.int], returnType := some .int }, accessFlags := 9, code := some k8c2 }
def k8c3 : Code := { maxStack := 4, maxLocals := 3, code := jdk_52_method_4_code, exceptionTable := #[], attributes := #[] }
def k8m3 : Method := { name := "putChar", desc := "([BII)V", sig := { parameters := [(.array .byte), .int, .int], returnType := none }, accessFlags := 8, code := some k8c3 }
def k8c4 : Code := { maxStack := 3, maxLocals := 2, code := jdk_52_method_5_code, exceptionTable := #[], attributes := #[] }
def k8m4 : Method := { name := "getChar", desc := "([BI)C", sig := { parameters := [(.array .byte), .int], returnType := some .char }, accessFlags := 8, code := some k8c4 }
def k8c5 : Code := { maxStack := 2, maxLocals := 1, code := jdk_52_method_6_code, exceptionTable := #[], attributes := #[] }
def k8m5 : Method := { name := "length", desc := "([B)I", sig := { parameters := [(.array .byte)], returnType := some .int }, accessFlags := 9, code := some k8c5 }
def k8c6 : Code := { maxStack := 4, maxLocals := 5, code := jdk_52_method_14_code, exceptionTable := #[], attributes := #[] }
def k8m6 : Method := { name := "toBytes", desc := "([CII)[B", sig := { parameters := [(.array .char), .int, .int], returnType := some (.array .byte) }, accessFlags := 9, code := some k8c6 }
def k8c7 : Code := { maxStack := 2, maxLocals := 2, code := jdk_52_method_15_code, exceptionTable := #[], attributes := #[] }
def k8m7 : Method := { name := "coderFromArrayLen", desc := "([BI)B", sig := { parameters := [(.array .byte), .int], returnType := some .byte }, accessFlags := 8, code := some k8c7 }
def k8c8 : Code := { maxStack := 5, maxLocals := 6, code := jdk_52_method_16_code, exceptionTable := #[], attributes := #[] }
def k8m8 : Method := { name := "compress", desc := "([CII)[B", sig := { parameters := [(.array .char), .int, .int], returnType := some (.array .byte) }, accessFlags := 9, code := some k8c8 }
def k8c9 : Code := { maxStack := 3, maxLocals := 7, code := jdk_52_method_21_code, exceptionTable := #[], attributes := #[] }
def k8m9 : Method := { name := "compress", desc := "([CI[BII)I", sig := { parameters := [(.array .char), .int, (.array .byte), .int, .int], returnType := some .int }, accessFlags := 9, code := some k8c9 }
def k8c10 : Code := { maxStack := 2, maxLocals := 2, code := jdk_52_method_83_code, exceptionTable := #[], attributes := #[] }
def k8m10 : Method := { name := "charAt", desc := "([BI)C", sig := { parameters := [(.array .byte), .int], returnType := some .char }, accessFlags := 9, code := some k8c10 }
def k8c11 : Code := { maxStack := 2, maxLocals := 2, code := jdk_52_method_91_code, exceptionTable := #[], attributes := #[] }
def k8m11 : Method := { name := "checkIndex", desc := "(I[B)V", sig := { parameters := [.int, (.array .byte)], returnType := none }, accessFlags := 9, code := some k8c11 }
/-- java/lang/StringUTF16 -/
def k8 : Class := { plain "java/lang/StringUTF16" (some 0) with
  accessFlags := 48
  interfaces := #[]
  cf := some (fileOf pool8 12 #[.nestMembers #[627, 629, 369]] #[{ accessFlags := 0, nameIndex := 9, descriptorIndex := 10, attributes := #[] }, { accessFlags := 9, nameIndex := 109, descriptorIndex := 110, attributes := #[] }, { accessFlags := 9, nameIndex := 15, descriptorIndex := 16, attributes := #[] }, { accessFlags := 8, nameIndex := 113, descriptorIndex := 114, attributes := #[] }, { accessFlags := 8, nameIndex := 73, descriptorIndex := 74, attributes := #[] }, { accessFlags := 9, nameIndex := 50, descriptorIndex := 51, attributes := #[] }, { accessFlags := 9, nameIndex := 121, descriptorIndex := 122, attributes := #[] }, { accessFlags := 8, nameIndex := 261, descriptorIndex := 262, attributes := #[] }, { accessFlags := 9, nameIndex := 117, descriptorIndex := 122, attributes := #[] }, { accessFlags := 9, nameIndex := 117, descriptorIndex := 118, attributes := #[] }, { accessFlags := 9, nameIndex := 392, descriptorIndex := 74, attributes := #[] }, { accessFlags := 9, nameIndex := 69, descriptorIndex := 70, attributes := #[] }] 48 6 #[] #[{ accessFlags := 26, nameIndex := 61, descriptorIndex := 62, attributes := #[] }, { accessFlags := 26, nameIndex := 65, descriptorIndex := 62, attributes := #[] }, { accessFlags := 24, nameIndex := 430, descriptorIndex := 62, attributes := #[] }, { accessFlags := 4120, nameIndex := 46, descriptorIndex := 47, attributes := #[] }])
  fields := #[{ name := "HI_BYTE_SHIFT", type := .int, accessFlags := 26, slot := 0, constantValue := 0 }, { name := "LO_BYTE_SHIFT", type := .int, accessFlags := 26, slot := 1, constantValue := 0 }, { name := "MAX_LENGTH", type := .int, accessFlags := 24, slot := 2, constantValue := 0 }, { name := "$assertionsDisabled", type := .boolean, accessFlags := 4120, slot := 3, constantValue := 0 }]
  methods := #[k8m0, k8m1, k8m2, k8m3, k8m4, k8m5, k8m6, k8m7, k8m8, k8m9, k8m10, k8m11]
  instanceTypes := #[]
  staticTypes := #[.int, .int, .int, .boolean]
  resolved := Array.replicate 635 none
  statics := some 1 }

def pool9 : Array CpInfo := pool [(2, .class_ 4), (1, u "java/lang/Object"), (0, u "<init>"), (0, u "()V"), (0, .interfaceMethodref 8 9), (0, .class_ 10), (0, .nameAndType 11 12), (0, u "java/lang/CharSequence"), (0, u "length"), (0, u "()I"), (0, .interfaceMethodref 8 14), (0, .nameAndType 15 16), (0, u "charAt"), (0, u "(I)C"), (0, .methodref 18 19), (0, .class_ 20), (0, .nameAndType 21 22), (0, u "java/lang/Character"), (0, u "isSurrogate"), (0, u "(C)Z"), (0, .long 2), (1, .class_ 26), (0, u "com/example/glyphwire/glyphwire/Utf8"), (2, u "(Ljava/lang/CharSequence;)J")] 3

def k9m0 : Method := { name := "<init>", desc := "()V", sig := { parameters := [], returnType := none }, accessFlags := 2, code := none }
def k9c1 : Code := { maxStack := 4, maxLocals := 5, code := prog_10_method_2_code, exceptionTable := #[], attributes := #[] }
def k9m1 : Method := { name := "length", desc := "(Ljava/lang/CharSequence;)J", sig := { parameters := [(.object "java/lang/CharSequence")], returnType := some .long }, accessFlags := 9, code := some k9c1 }
/-- com/example/glyphwire/glyphwire/Utf8 -/
def k9 : Class := { plain "com/example/glyphwire/glyphwire/Utf8" (some 0) with
  accessFlags := 49
  interfaces := #[]
  cf := some (fileOf pool9 25 #[] #[{ accessFlags := 2, nameIndex := 5, descriptorIndex := 6, attributes := #[] }, { accessFlags := 9, nameIndex := 11, descriptorIndex := 29, attributes := #[] }] 49 2 #[] #[])
  fields := #[]
  methods := #[k9m0, k9m1]
  instanceTypes := #[]
  staticTypes := #[]
  resolved := Array.replicate 33 none
  statics := none }

def pool10 : Array CpInfo := pool [(1, .class_ 2), (0, u "java/lang/String"), (1, .class_ 6), (1, u "java/lang/Object"), (0, u "<init>"), (0, u "()V"), (0, .methodref 1 10), (0, .nameAndType 11 12), (0, u "checkIndex"), (0, u "(II)V"), (1, .class_ 16), (1, u "java/lang/StringLatin1"), (36, u "([BI)C"), (67, u "$assertionsDisabled"), (0, u "Z"), (98, .class_ 223), (1, u "java/lang/StringLatin1$LinesSpliterator"), (28, u "charAt"), (137, .class_ 391), (0, u "java/lang/StringLatin1$CharsSpliterator")] 3

def k10m0 : Method := { name := "<init>", desc := "()V", sig := { parameters := [], returnType := none }, accessFlags := 0, code := none }
def k10c1 : Code := { maxStack := 2, maxLocals := 2, code := jdk_43_method_2_code, exceptionTable := #[], attributes := #[] }
def k10m1 : Method := { name := "charAt", desc := "([BI)C", sig := { parameters := [(.array .byte), .int], returnType := some .char }, accessFlags := 9, code := some k10c1 }
/-- java/lang/StringLatin1 -/
def k10 : Class := { plain "java/lang/StringLatin1" (some 0) with
  accessFlags := 48
  interfaces := #[]
  cf := some (fileOf pool10 14 #[.nestMembers #[390, 221]] #[{ accessFlags := 0, nameIndex := 7, descriptorIndex := 8, attributes := #[] }, { accessFlags := 9, nameIndex := 252, descriptorIndex := 53, attributes := #[] }] 48 4 #[] #[{ accessFlags := 4120, nameIndex := 121, descriptorIndex := 122, attributes := #[] }])
  fields := #[{ name := "$assertionsDisabled", type := .boolean, accessFlags := 4120, slot := 0, constantValue := 0 }]
  methods := #[k10m0, k10m1]
  instanceTypes := #[]
  staticTypes := #[.boolean]
  resolved := Array.replicate 395 none
  statics := none }

def pool11 : Array CpInfo := pool [(2, .class_ 4), (1, u "java/lang/Object"), (0, u "<init>"), (0, u "()V"), (17, .class_ 26), (1, u "jdk/internal/util/Preconditions"), (6, u "checkIndex"), (21, .class_ 56), (0, u "jdk/internal/util/Preconditions$4"), (57, .class_ 115), (0, u "jdk/internal/util/Preconditions$1"), (7, u "SIOOBE_FORMATTER"), (0, u "Ljava/util/function/BiFunction;"), (0, .class_ 126), (0, u "jdk/internal/util/Preconditions$2"), (3, u "AIOOBE_FORMATTER"), (0, .class_ 132), (0, u "jdk/internal/util/Preconditions$3"), (3, u "IOOBE_FORMATTER"), (41, u "(IILjava/util/function/BiFunction;)I")] 15

def k11m0 : Method := { name := "<init>", desc := "()V", sig := { parameters := [], returnType := none }, accessFlags := 1, code := none }
def k11c1 : Code := { maxStack := 3, maxLocals := 3, code := jdk_41_method_11_code, exceptionTable := #[], attributes := #[] }
def k11m1 : Method := { name := "checkIndex", desc := "(IILjava/util/function/BiFunction;)I", sig := { parameters := [.int, .int, (.object "java/util/function/BiFunction")], returnType := some .int }, accessFlags := 9, code := some k11c1 }
/-- jdk/internal/util/Preconditions -/
def k11 : Class := { plain "jdk/internal/util/Preconditions" (some 0) with
  accessFlags := 33
  interfaces := #[]
  cf := some (fileOf pool11 24 #[.nestMembers #[55, 131, 125, 114]] #[{ accessFlags := 1, nameIndex := 5, descriptorIndex := 6, attributes := #[] }, { accessFlags := 9, nameIndex := 33, descriptorIndex := 178, attributes := #[] }] 33 2 #[] #[{ accessFlags := 25, nameIndex := 123, descriptorIndex := 124, attributes := #[] }, { accessFlags := 25, nameIndex := 130, descriptorIndex := 124, attributes := #[] }, { accessFlags := 25, nameIndex := 136, descriptorIndex := 124, attributes := #[] }])
  fields := #[{ name := "SIOOBE_FORMATTER", type := (.object "java/util/function/BiFunction"), accessFlags := 25, slot := 0, constantValue := 0 }, { name := "AIOOBE_FORMATTER", type := (.object "java/util/function/BiFunction"), accessFlags := 25, slot := 1, constantValue := 0 }, { name := "IOOBE_FORMATTER", type := (.object "java/util/function/BiFunction"), accessFlags := 25, slot := 2, constantValue := 0 }]
  methods := #[k11m0, k11m1]
  instanceTypes := #[]
  staticTypes := #[(.object "java/util/function/BiFunction"), (.object "java/util/function/BiFunction"), (.object "java/util/function/BiFunction")]
  resolved := Array.replicate 194 none
  statics := some 2 }

def pool12 : Array CpInfo := pool [(1, .class_ 2), (0, u "java/lang/Character"), (18, u "value"), (0, u "C"), (19, .class_ 44), (1, u "java/lang/Object"), (3, .class_ 50), (1, u "java/lang/Character$CharacterCache"), (24, .integer 55296), (1, .integer 57344), (3, u "(C)Z"), (202, u "$assertionsDisabled"), (0, u "Z"), (21, .class_ 309), (1, u "java/lang/Character$UnicodeBlock"), (73, u "TYPE"), (0, u "Ljava/lang/Class;"), (0, .class_ 386), (0, u "java/io/Serializable"), (0, .class_ 388), (0, u "java/lang/Comparable"), (0, .class_ 390), (0, u "java/lang/constant/Constable"), (0, u "MIN_RADIX"), (0, u "I"), (2, u "MAX_RADIX"), (1, u "MIN_VALUE"), (1, u "MAX_VALUE"), (3, u "UNASSIGNED"), (0, u "B"), (0, u "UPPERCASE_LETTER"), (1, u "LOWERCASE_LETTER"), (0, u "TITLECASE_LETTER"), (1, u "MODIFIER_LETTER"), (1, u "OTHER_LETTER"), (1, u "NON_SPACING_MARK"), (1, u "ENCLOSING_MARK"), (1, u "COMBINING_SPACING_MARK"), (1, u "DECIMAL_DIGIT_NUMBER"), (1, u "LETTER_NUMBER"), (1, u "OTHER_NUMBER"), (1, u "SPACE_SEPARATOR"), (1, u "LINE_SEPARATOR"), (1, u "PARAGRAPH_SEPARATOR"), (1, u "CONTROL"), (1, u "FORMAT"), (1, u "PRIVATE_USE"), (1, u "SURROGATE"), (1, u "DASH_PUNCTUATION"), (1, u "START_PUNCTUATION"), (1, u "END_PUNCTUATION"), (1, u "CONNECTOR_PUNCTUATION"), (1, u "OTHER_PUNCTUATION"), (1, u "MATH_SYMBOL"), (1, u "CURRENCY_SYMBOL"), (1, u "MODIFIER_SYMBOL"), (1, u "OTHER_SYMBOL"), (1, u "INITIAL_QUOTE_PUNCTUATION"), (1, u "FINAL_QUOTE_PUNCTUATION"), (1, u "ERROR"), (1, u "DIRECTIONALITY_UNDEFINED"), (0, u "DIRECTIONALITY_LEFT_TO_RIGHT"), (0, u "DIRECTIONALITY_RIGHT_TO_LEFT"), (0, u "DIRECTIONALITY_RIGHT_TO_LEFT_ARABIC"), (0, u "DIRECTIONALITY_EUROPEAN_NUMBER"), (0, u "DIRECTIONALITY_EUROPEAN_NUMBER_SEPARATOR"), (0, u "DIRECTIONALITY_EUROPEAN_NUMBER_TERMINATOR"), (0, u "DIRECTIONALITY_ARABIC_NUMBER"), (0, u "DIRECTIONALITY_COMMON_NUMBER_SEPARATOR"), (0, u "DIRECTIONALITY_NONSPACING_MARK"), (0, u "DIRECTIONALITY_BOUNDARY_NEUTRAL"), (0, u "DIRECTIONALITY_PARAGRAPH_SEPARATOR"), (0, u "DIRECTIONALITY_SEGMENT_SEPARATOR"), (0, u "DIRECTIONALITY_WHITESPACE"), (0, u "DIRECTIONALITY_OTHER_NEUTRALS"), (0, u "DIRECTIONALITY_LEFT_TO_RIGHT_EMBEDDING"), (0, u "DIRECTIONALITY_LEFT_TO_RIGHT_OVERRIDE"), (0, u "DIRECTIONALITY_RIGHT_TO_LEFT_EMBEDDING"), (0, u "DIRECTIONALITY_RIGHT_TO_LEFT_OVERRIDE"), (1, u "DIRECTIONALITY_POP_DIRECTIONAL_FORMAT"), (0, u "DIRECTIONALITY_LEFT_TO_RIGHT_ISOLATE"), (0, u "DIRECTIONALITY_RIGHT_TO_LEFT_ISOLATE"), (0, u "DIRECTIONALITY_FIRST_STRONG_ISOLATE"), (0, u "DIRECTIONALITY_POP_DIRECTIONAL_ISOLATE"), (0, u "MIN_HIGH_SURROGATE"), (0, u "MAX_HIGH_SURROGATE"), (1, u "MIN_LOW_SURROGATE"), (0, u "MAX_LOW_SURROGATE"), (1, u "MIN_SURROGATE"), (0, u "MAX_SURROGATE"), (0, u "MIN_SUPPLEMENTARY_CODE_POINT"), (0, u "MIN_CODE_POINT"), (0, u "MAX_CODE_POINT"), (1, u "serialVersionUID"), (0, u "J"), (2, u "SIZE"), (0, u "BYTES"), (24, u "isSurrogate"), (63, .class_ 596), (0, u "java/lang/Character$UnicodeScript"), (0, .class_ 598), (0, u "java/lang/Character$Subset")] 5

def k12c0 : Code := { maxStack := 2, maxLocals := 1, code := jdk_89_method_16_code, exceptionTable := #[], attributes := #[] }
def k12m0 : Method := { name := "isSurrogate", desc := "(C)Z", sig := { parameters := [.char], returnType := some .boolean }, accessFlags := 9, code := some k12c0 }
/-- java/lang/Character -/
def k12 : Class := { plain "java/lang/Character" (some 0) with
  accessFlags := 49
  interfaces := #[2, 3, 5]
  cf := some (fileOf pool12 1 #[.nestMembers #[48, 595, 307, 597]] #[{ accessFlags := 9, nameIndex := 531, descriptorIndex := 81, attributes := #[] }] 49 42 #[385, 387, 389] #[{ accessFlags := 25, nameIndex := 391, descriptorIndex := 392, attributes := #[] }, { accessFlags := 25, nameIndex := 395, descriptorIndex := 392, attributes := #[] }, { accessFlags := 25, nameIndex := 397, descriptorIndex := 22, attributes := #[] }, { accessFlags := 25, nameIndex := 399, descriptorIndex := 22, attributes := #[] }, { accessFlags := 25, nameIndex := 383, descriptorIndex := 384, attributes := #[] }, { accessFlags := 25, nameIndex := 403, descriptorIndex := 404, attributes := #[] }, { accessFlags := 25, nameIndex := 405, descriptorIndex := 404, attributes := #[] }, { accessFlags := 25, nameIndex := 407, descriptorIndex := 404, attributes := #[] }, { accessFlags := 25, nameIndex := 408, descriptorIndex := 404, attributes := #[] }, { accessFlags := 25, nameIndex := 410, descriptorIndex := 404, attributes := #[] }, { accessFlags := 25, nameIndex := 412, descriptorIndex := 404, attributes := #[] }, { accessFlags := 25, nameIndex := 414, descriptorIndex := 404, attributes := #[] }, { accessFlags := 25, nameIndex := 416, descriptorIndex := 404, attributes := #[] }, { accessFlags := 25, nameIndex := 418, descriptorIndex := 404, attributes := #[] }, { accessFlags := 25, nameIndex := 420, descriptorIndex := 404, attributes := #[] }, { accessFlags := 25, nameIndex := 422, descriptorIndex := 404, attributes := #[] }, { accessFlags := 25, nameIndex := 424, descriptorIndex := 404, attributes := #[] }, { accessFlags := 25, nameIndex := 426, descriptorIndex := 404, attributes := #[] }, { accessFlags := 25, nameIndex := 428, descriptorIndex := 404, attributes := #[] }, { accessFlags := 25, nameIndex := 430, descriptorIndex := 404, attributes := #[] }, { accessFlags := 25, nameIndex := 432, descriptorIndex := 404, attributes := #[] }, { accessFlags := 25, nameIndex := 434, descriptorIndex := 404, attributes := #[] }, { accessFlags := 25, nameIndex := 436, descriptorIndex := 404, attributes := #[] }, { accessFlags := 25, nameIndex := 438, descriptorIndex := 404, attributes := #[] }, { accessFlags := 25, nameIndex := 440, descriptorIndex := 404, attributes := #[] }, { accessFlags := 25, nameIndex := 442, descriptorIndex := 404, attributes := #[] }, { accessFlags := 25, nameIndex := 444, descriptorIndex := 404, attributes := #[] }, { accessFlags := 25, nameIndex := 446, descriptorIndex := 404, attributes := #[] }, { accessFlags := 25, nameIndex := 448, descriptorIndex := 404, attributes := #[] }, { accessFlags := 25, nameIndex := 450, descriptorIndex := 404, attributes := #[] }, { accessFlags := 25, nameIndex := 452, descriptorIndex := 404, attributes := #[] }, { accessFlags := 25, nameIndex := 454, descriptorIndex := 404, attributes := #[] }, { accessFlags := 25, nameIndex := 456, descriptorIndex := 404, attributes := #[] }, { accessFlags := 25, nameIndex := 458, descriptorIndex := 404, attributes := #[] }, { accessFlags := 25, nameIndex := 460, descriptorIndex := 404, attributes := #[] }, { accessFlags := 24, nameIndex := 462, descriptorIndex := 392, attributes := #[] }, { accessFlags := 25, nameIndex := 464, descriptorIndex := 404, attributes := #[] }, { accessFlags := 25, nameIndex := 465, descriptorIndex := 404, attributes := #[] }, { accessFlags := 25, nameIndex := 466, descriptorIndex := 404, attributes := #[] }, { accessFlags := 25, nameIndex := 467, descriptorIndex := 404, attributes := #[] }, { accessFlags := 25, nameIndex := 468, descriptorIndex := 404, attributes := #[] }, { accessFlags := 25, nameIndex := 469, descriptorIndex := 404, attributes := #[] }, { accessFlags := 25, nameIndex := 470, descriptorIndex := 404, attributes := #[] }, { accessFlags := 25, nameIndex := 471, descriptorIndex := 404, attributes := #[] }, { accessFlags := 25, nameIndex := 472, descriptorIndex := 404, attributes := #[] }, { accessFlags := 25, nameIndex := 473, descriptorIndex := 404, attributes := #[] }, { accessFlags := 25, nameIndex := 474, descriptorIndex := 404, attributes := #[] }, { accessFlags := 25, nameIndex := 475, descriptorIndex := 404, attributes := #[] }, { accessFlags := 25, nameIndex := 476, descriptorIndex := 404, attributes := #[] }, { accessFlags := 25, nameIndex := 477, descriptorIndex := 404, attributes := #[] }, { accessFlags := 25, nameIndex := 478, descriptorIndex := 404, attributes := #[] }, { accessFlags := 25, nameIndex := 479, descriptorIndex := 404, attributes := #[] }, { accessFlags := 25, nameIndex := 480, descriptorIndex := 404, attributes := #[] }, { accessFlags := 25, nameIndex := 481, descriptorIndex := 404, attributes := #[] }, { accessFlags := 25, nameIndex := 482, descriptorIndex := 404, attributes := #[] }, { accessFlags := 25, nameIndex := 484, descriptorIndex := 404, attributes := #[] }, { accessFlags := 25, nameIndex := 485, descriptorIndex := 404, attributes := #[] }, { accessFlags := 25, nameIndex := 486, descriptorIndex := 404, attributes := #[] }, { accessFlags := 25, nameIndex := 487, descriptorIndex := 404, attributes := #[] }, { accessFlags := 25, nameIndex := 488, descriptorIndex := 404, attributes := #[] }, { accessFlags := 25, nameIndex := 489, descriptorIndex := 22, attributes := #[] }, { accessFlags := 25, nameIndex := 490, descriptorIndex := 22, attributes := #[] }, { accessFlags := 25, nameIndex := 492, descriptorIndex := 22, attributes := #[] }, { accessFlags := 25, nameIndex := 493, descriptorIndex := 22, attributes := #[] }, { accessFlags := 25, nameIndex := 495, descriptorIndex := 22, attributes := #[] }, { accessFlags := 25, nameIndex := 496, descriptorIndex := 22, attributes := #[] }, { accessFlags := 25, nameIndex := 497, descriptorIndex := 392, attributes := #[] }, { accessFlags := 25, nameIndex := 498, descriptorIndex := 392, attributes := #[] }, { accessFlags := 25, nameIndex := 499, descriptorIndex := 392, attributes := #[] }, { accessFlags := 18, nameIndex := 21, descriptorIndex := 22, attributes := #[] }, { accessFlags := 26, nameIndex := 501, descriptorIndex := 502, attributes := #[] }, { accessFlags := 25, nameIndex := 505, descriptorIndex := 392, attributes := #[] }, { accessFlags := 25, nameIndex := 506, descriptorIndex := 392, attributes := #[] }, { accessFlags := 4120, nameIndex := 284, descriptorIndex := 285, attributes := #[] }])
  fields := #[{ name := "MIN_RADIX", type := .int, accessFlags := 25, slot := 0, constantValue := 0 }, { name := "MAX_RADIX", type := .int, accessFlags := 25, slot := 1, constantValue := 0 }, { name := "MIN_VALUE", type := .char, accessFlags := 25, slot := 2, constantValue := 0 }, { name := "MAX_VALUE", type := .char, accessFlags := 25, slot := 3, constantValue := 0 }, { name := "TYPE", type := (.object "java/lang/Class"), accessFlags := 25, slot := 4, constantValue := 0 }, { name := "UNASSIGNED", type := .byte, accessFlags := 25, slot := 5, constantValue := 0 }, { name := "UPPERCASE_LETTER", type := .byte, accessFlags := 25, slot := 6, constantValue := 0 }, { name := "LOWERCASE_LETTER", type := .byte, accessFlags := 25, slot := 7, constantValue := 0 }, { name := "TITLECASE_LETTER", type := .byte, accessFlags := 25, slot := 8, constantValue := 0 }, { name := "MODIFIER_LETTER", type := .byte, accessFlags := 25, slot := 9, constantValue := 0 }, { name := "OTHER_LETTER", type := .byte, accessFlags := 25, slot := 10, constantValue := 0 }, { name := "NON_SPACING_MARK", type := .byte, accessFlags := 25, slot := 11, constantValue := 0 }, { name := "ENCLOSING_MARK", type := .byte, accessFlags := 25, slot := 12, constantValue := 0 }, { name := "COMBINING_SPACING_MARK", type := .byte, accessFlags := 25, slot := 13, constantValue := 0 }, { name := "DECIMAL_DIGIT_NUMBER", type := .byte, accessFlags := 25, slot := 14, constantValue := 0 }, { name := "LETTER_NUMBER", type := .byte, accessFlags := 25, slot := 15, constantValue := 0 }, { name := "OTHER_NUMBER", type := .byte, accessFlags := 25, slot := 16, constantValue := 0 }, { name := "SPACE_SEPARATOR", type := .byte, accessFlags := 25, slot := 17, constantValue := 0 }, { name := "LINE_SEPARATOR", type := .byte, accessFlags := 25, slot := 18, constantValue := 0 }, { name := "PARAGRAPH_SEPARATOR", type := .byte, accessFlags := 25, slot := 19, constantValue := 0 }, { name := "CONTROL", type := .byte, accessFlags := 25, slot := 20, constantValue := 0 }, { name := "FORMAT", type := .byte, accessFlags := 25, slot := 21, constantValue := 0 }, { name := "PRIVATE_USE", type := .byte, accessFlags := 25, slot := 22, constantValue := 0 }, { name := "SURROGATE", type := .byte, accessFlags := 25, slot := 23, constantValue := 0 }, { name := "DASH_PUNCTUATION", type := .byte, accessFlags := 25, slot := 24, constantValue := 0 }, { name := "START_PUNCTUATION", type := .byte, accessFlags := 25, slot := 25, constantValue := 0 }, { name := "END_PUNCTUATION", type := .byte, accessFlags := 25, slot := 26, constantValue := 0 }, { name := "CONNECTOR_PUNCTUATION", type := .byte, accessFlags := 25, slot := 27, constantValue := 0 }, { name := "OTHER_PUNCTUATION", type := .byte, accessFlags := 25, slot := 28, constantValue := 0 }, { name := "MATH_SYMBOL", type := .byte, accessFlags := 25, slot := 29, constantValue := 0 }, { name := "CURRENCY_SYMBOL", type := .byte, accessFlags := 25, slot := 30, constantValue := 0 }, { name := "MODIFIER_SYMBOL", type := .byte, accessFlags := 25, slot := 31, constantValue := 0 }, { name := "OTHER_SYMBOL", type := .byte, accessFlags := 25, slot := 32, constantValue := 0 }, { name := "INITIAL_QUOTE_PUNCTUATION", type := .byte, accessFlags := 25, slot := 33, constantValue := 0 }, { name := "FINAL_QUOTE_PUNCTUATION", type := .byte, accessFlags := 25, slot := 34, constantValue := 0 }, { name := "ERROR", type := .int, accessFlags := 24, slot := 35, constantValue := 0 }, { name := "DIRECTIONALITY_UNDEFINED", type := .byte, accessFlags := 25, slot := 36, constantValue := 0 }, { name := "DIRECTIONALITY_LEFT_TO_RIGHT", type := .byte, accessFlags := 25, slot := 37, constantValue := 0 }, { name := "DIRECTIONALITY_RIGHT_TO_LEFT", type := .byte, accessFlags := 25, slot := 38, constantValue := 0 }, { name := "DIRECTIONALITY_RIGHT_TO_LEFT_ARABIC", type := .byte, accessFlags := 25, slot := 39, constantValue := 0 }, { name := "DIRECTIONALITY_EUROPEAN_NUMBER", type := .byte, accessFlags := 25, slot := 40, constantValue := 0 }, { name := "DIRECTIONALITY_EUROPEAN_NUMBER_SEPARATOR", type := .byte, accessFlags := 25, slot := 41, constantValue := 0 }, { name := "DIRECTIONALITY_EUROPEAN_NUMBER_TERMINATOR", type := .byte, accessFlags := 25, slot := 42, constantValue := 0 }, { name := "DIRECTIONALITY_ARABIC_NUMBER", type := .byte, accessFlags := 25, slot := 43, constantValue := 0 }, { name := "DIRECTIONALITY_COMMON_NUMBER_SEPARATOR", type := .byte, accessFlags := 25, slot := 44, constantValue := 0 }, { name := "DIRECTIONALITY_NONSPACING_MARK", type := .byte, accessFlags := 25, slot := 45, constantValue := 0 }, { name := "DIRECTIONALITY_BOUNDARY_NEUTRAL", type := .byte, accessFlags := 25, slot := 46, constantValue := 0 }, { name := "DIRECTIONALITY_PARAGRAPH_SEPARATOR", type := .byte, accessFlags := 25, slot := 47, constantValue := 0 }, { name := "DIRECTIONALITY_SEGMENT_SEPARATOR", type := .byte, accessFlags := 25, slot := 48, constantValue := 0 }, { name := "DIRECTIONALITY_WHITESPACE", type := .byte, accessFlags := 25, slot := 49, constantValue := 0 }, { name := "DIRECTIONALITY_OTHER_NEUTRALS", type := .byte, accessFlags := 25, slot := 50, constantValue := 0 }, { name := "DIRECTIONALITY_LEFT_TO_RIGHT_EMBEDDING", type := .byte, accessFlags := 25, slot := 51, constantValue := 0 }, { name := "DIRECTIONALITY_LEFT_TO_RIGHT_OVERRIDE", type := .byte, accessFlags := 25, slot := 52, constantValue := 0 }, { name := "DIRECTIONALITY_RIGHT_TO_LEFT_EMBEDDING", type := .byte, accessFlags := 25, slot := 53, constantValue := 0 }, { name := "DIRECTIONALITY_RIGHT_TO_LEFT_OVERRIDE", type := .byte, accessFlags := 25, slot := 54, constantValue := 0 }, { name := "DIRECTIONALITY_POP_DIRECTIONAL_FORMAT", type := .byte, accessFlags := 25, slot := 55, constantValue := 0 }, { name := "DIRECTIONALITY_LEFT_TO_RIGHT_ISOLATE", type := .byte, accessFlags := 25, slot := 56, constantValue := 0 }, { name := "DIRECTIONALITY_RIGHT_TO_LEFT_ISOLATE", type := .byte, accessFlags := 25, slot := 57, constantValue := 0 }, { name := "DIRECTIONALITY_FIRST_STRONG_ISOLATE", type := .byte, accessFlags := 25, slot := 58, constantValue := 0 }, { name := "DIRECTIONALITY_POP_DIRECTIONAL_ISOLATE", type := .byte, accessFlags := 25, slot := 59, constantValue := 0 }, { name := "MIN_HIGH_SURROGATE", type := .char, accessFlags := 25, slot := 60, constantValue := 0 }, { name := "MAX_HIGH_SURROGATE", type := .char, accessFlags := 25, slot := 61, constantValue := 0 }, { name := "MIN_LOW_SURROGATE", type := .char, accessFlags := 25, slot := 62, constantValue := 0 }, { name := "MAX_LOW_SURROGATE", type := .char, accessFlags := 25, slot := 63, constantValue := 0 }, { name := "MIN_SURROGATE", type := .char, accessFlags := 25, slot := 64, constantValue := 0 }, { name := "MAX_SURROGATE", type := .char, accessFlags := 25, slot := 65, constantValue := 0 }, { name := "MIN_SUPPLEMENTARY_CODE_POINT", type := .int, accessFlags := 25, slot := 66, constantValue := 0 }, { name := "MIN_CODE_POINT", type := .int, accessFlags := 25, slot := 67, constantValue := 0 }, { name := "MAX_CODE_POINT", type := .int, accessFlags := 25, slot := 68, constantValue := 0 }, { name := "value", type := .char, accessFlags := 18, slot := 0, constantValue := 0 }, { name := "serialVersionUID", type := .long, accessFlags := 26, slot := 69, constantValue := 0 }, { name := "SIZE", type := .int, accessFlags := 25, slot := 70, constantValue := 0 }, { name := "BYTES", type := .int, accessFlags := 25, slot := 71, constantValue := 0 }, { name := "$assertionsDisabled", type := .boolean, accessFlags := 4120, slot := 72, constantValue := 0 }]
  methods := #[k12m0]
  instanceTypes := #[.char]
  staticTypes := #[.int, .int, .char, .char, (.object "java/lang/Class"), .byte, .byte, .byte, .byte, .byte, .byte, .byte, .byte, .byte, .byte, .byte, .byte, .byte, .byte, .byte, .byte, .byte, .byte, .byte, .byte, .byte, .byte, .byte, .byte, .byte, .byte, .byte, .byte, .byte, .byte, .int, .byte, .byte, .byte, .byte, .byte, .byte, .byte, .byte, .byte, .byte, .byte, .byte, .byte, .byte, .byte, .byte, .byte, .byte, .byte, .byte, .byte, .byte, .byte, .byte, .char, .char, .char, .char, .char, .char, .int, .int, .int, .long, .int, .int, .boolean]
  resolved := Array.replicate 604 none
  statics := none }

def pool13 : Array CpInfo := pool [(9, u "<init>"), (6, .class_ 18), (1, u "java/lang/Object"), (0, u "()V"), (1, .class_ 23), (1, u "jdk/internal/util/ArraysSupport"), (0, u "LOG2_ARRAY_LONG_INDEX_SCALE"), (0, u "I"), (2, u "U"), (0, u "Ljdk/internal/misc/Unsafe;"), (8, u "BIG_ENDIAN"), (0, u "Z"), (8, u "LOG2_BYTE_BIT_SIZE"), (4, u "LOG2_ARRAY_INT_INDEX_SCALE"), (54, u "JLA"), (0, u "Ljdk/internal/access/JavaLangAccess;"), (11, u "LOG2_ARRAY_BOOLEAN_INDEX_SCALE"), (9, u "LOG2_ARRAY_BYTE_INDEX_SCALE"), (5, u "LOG2_ARRAY_CHAR_INDEX_SCALE"), (5, u "LOG2_ARRAY_SHORT_INDEX_SCALE"), (18, u "LOG2_ARRAY_FLOAT_INDEX_SCALE"), (24, u "LOG2_ARRAY_DOUBLE_INDEX_SCALE"), (89, u "T_BOOLEAN"), (2, u "T_CHAR"), (1, u "T_FLOAT"), (1, u "T_DOUBLE"), (1, u "T_BYTE"), (1, u "T_SHORT"), (1, u "T_INT"), (1, u "T_LONG"), (1, u "SOFT_MAX_ARRAY_LENGTH")] 83

def k13m0 : Method := { name := "<init>", desc := "()V", sig := { parameters := [], returnType := none }, accessFlags := 2, code := none }
/-- jdk/internal/util/ArraysSupport -/
def k13 : Class := { plain "jdk/internal/util/ArraysSupport" (some 0) with
  accessFlags := 33
  interfaces := #[]
  cf := some (fileOf pool13 21 #[] #[{ accessFlags := 2, nameIndex := 9, descriptorIndex := 19, attributes := #[] }] 33 16 #[] #[{ accessFlags := 24, nameIndex := 28, descriptorIndex := 29, attributes := #[] }, { accessFlags := 26, nameIndex := 38, descriptorIndex := 39, attributes := #[] }, { accessFlags := 25, nameIndex := 121, descriptorIndex := 25, attributes := #[] }, { accessFlags := 25, nameIndex := 131, descriptorIndex := 25, attributes := #[] }, { accessFlags := 25, nameIndex := 137, descriptorIndex := 25, attributes := #[] }, { accessFlags := 25, nameIndex := 143, descriptorIndex := 25, attributes := #[] }, { accessFlags := 25, nameIndex := 53, descriptorIndex := 25, attributes := #[] }, { accessFlags := 25, nameIndex := 24, descriptorIndex := 25, attributes := #[] }, { accessFlags := 25, nameIndex := 162, descriptorIndex := 25, attributes := #[] }, { accessFlags := 25, nameIndex := 187, descriptorIndex := 25, attributes := #[] }, { accessFlags := 26, nameIndex := 48, descriptorIndex := 25, attributes := #[] }, { accessFlags := 25, nameIndex := 277, descriptorIndex := 25, attributes := #[] }, { accessFlags := 25, nameIndex := 280, descriptorIndex := 25, attributes := #[] }, { accessFlags := 25, nameIndex := 282, descriptorIndex := 25, attributes := #[] }, { accessFlags := 25, nameIndex := 284, descriptorIndex := 25, attributes := #[] }, { accessFlags := 25, nameIndex := 286, descriptorIndex := 25, attributes := #[] }, { accessFlags := 25, nameIndex := 288, descriptorIndex := 25, attributes := #[] }, { accessFlags := 25, nameIndex := 290, descriptorIndex := 25, attributes := #[] }, { accessFlags := 25, nameIndex := 292, descriptorIndex := 25, attributes := #[] }, { accessFlags := 26, nameIndex := 108, descriptorIndex := 109, attributes := #[] }, { accessFlags := 25, nameIndex := 294, descriptorIndex := 25, attributes := #[] }])
  fields := #[{ name := "U", type := (.object "jdk/internal/misc/Unsafe"), accessFlags := 24, slot := 0, constantValue := 0 }, { name := "BIG_ENDIAN", type := .boolean, accessFlags := 26, slot := 1, constantValue := 0 }, { name := "LOG2_ARRAY_BOOLEAN_INDEX_SCALE", type := .int, accessFlags := 25, slot := 2, constantValue := 0 }, { name := "LOG2_ARRAY_BYTE_INDEX_SCALE", type := .int, accessFlags := 25, slot := 3, constantValue := 0 }, { name := "LOG2_ARRAY_CHAR_INDEX_SCALE", type := .int, accessFlags := 25, slot := 4, constantValue := 0 }, { name := "LOG2_ARRAY_SHORT_INDEX_SCALE", type := .int, accessFlags := 25, slot := 5, constantValue := 0 }, { name := "LOG2_ARRAY_INT_INDEX_SCALE", type := .int, accessFlags := 25, slot := 6, constantValue := 0 }, { name := "LOG2_ARRAY_LONG_INDEX_SCALE", type := .int, accessFlags := 25, slot := 7, constantValue := 0 }, { name := "LOG2_ARRAY_FLOAT_INDEX_SCALE", type := .int, accessFlags := 25, slot := 8, constantValue := 0 }, { name := "LOG2_ARRAY_DOUBLE_INDEX_SCALE", type := .int, accessFlags := 25, slot := 9, constantValue := 0 }, { name := "LOG2_BYTE_BIT_SIZE", type := .int, accessFlags := 26, slot := 10, constantValue := 0 }, { name := "T_BOOLEAN", type := .int, accessFlags := 25, slot := 11, constantValue := 0 }, { name := "T_CHAR", type := .int, accessFlags := 25, slot := 12, constantValue := 0 }, { name := "T_FLOAT", type := .int, accessFlags := 25, slot := 13, constantValue := 0 }, { name := "T_DOUBLE", type := .int, accessFlags := 25, slot := 14, constantValue := 0 }, { name := "T_BYTE", type := .int, accessFlags := 25, slot := 15, constantValue := 0 }, { name := "T_SHORT", type := .int, accessFlags := 25, slot := 16, constantValue := 0 }, { name := "T_INT", type := .int, accessFlags := 25, slot := 17, constantValue := 0 }, { name := "T_LONG", type := .int, accessFlags := 25, slot := 18, constantValue := 0 }, { name := "JLA", type := (.object "jdk/internal/access/JavaLangAccess"), accessFlags := 26, slot := 19, constantValue := 0 }, { name := "SOFT_MAX_ARRAY_LENGTH", type := .int, accessFlags := 25, slot := 20, constantValue := 0 }]
  methods := #[k13m0]
  instanceTypes := #[]
  staticTypes := #[(.object "jdk/internal/misc/Unsafe"), .boolean, .int, .int, .int, .int, .int, .int, .int, .int, .int, .int, .int, .int, .int, .int, .int, .int, .int, (.object "jdk/internal/access/JavaLangAccess"), .int]
  resolved := Array.replicate 378 none
  statics := none }

def pool14 : Array CpInfo := pool [(1, u "java/lang/Cloneable"), (0, .class_ 1), (0, u "java/lang/Object"), (0, .class_ 3)] 3

/-- java/lang/Cloneable -/
def k14 : Class := { plain "java/lang/Cloneable" (some 0) with
  accessFlags := 1537
  interfaces := #[]
  cf := some (fileOf pool14 2 #[] #[] 1537 4 #[] #[])
  fields := #[]
  methods := #[]
  instanceTypes := #[]
  staticTypes := #[]
  resolved := Array.replicate 8 none
  statics := none }

/-- the primitive byte -/
def k15 : Class := { plain "byte" none with kind := .primitive 'B', accessFlags := 0x411 }
/-- [B -/
def k16 : Class := { plain "[B" (some 0) with kind := .array 15 .byte, interfaces := #[14, 2], accessFlags := 1041 }

/-- the primitive char -/
def k17 : Class := { plain "char" none with kind := .primitive 'C', accessFlags := 0x411 }
/-- [C -/
def k18 : Class := { plain "[C" (some 0) with kind := .array 17 .char, interfaces := #[14, 2], accessFlags := 1041 }

/-- the primitive int -/
def k19 : Class := { plain "int" none with kind := .primitive 'I', accessFlags := 0x411 }
/-- [I -/
def k20 : Class := { plain "[I" (some 0) with kind := .array 19 .int, interfaces := #[14, 2], accessFlags := 1041 }

def heap : Heap := #[{ cls := 7, slots := #[.long 0, .int 1, .null, .int 0, .null, .int 0, .int 0], vm := .statics 7 },
  { cls := 8, slots := #[.int 0, .int 8, .int 0, .int 1], vm := .statics 8 },
  { cls := 11, slots := #[.null, .null, .null], vm := .statics 11 }]
def classes : Array Class := #[k0, k1, k2, k3, k4, k5, k6, k7, k8, k9, k10, k11, k12, k13, k14, k15, k16, k17, k18, k19, k20]
def interned : List (Array UInt16 × Addr) := []
def slotsUsed : Nat := 14
def theMethod : MethodId := ⟨1, 2⟩
def args0 : Array Value := #[.int 0, .int 0, .int 0, .int 0]
def aboutOver (below : List Frame) : State where
  vm := { classes := classes, interned := interned.toArray }
  heap := heap
  slotsUsed := slotsUsed
  threads := #[{ frames := .invoking theMethod args0 :: below }]
def below0 : List Frame := [.native { method := ⟨0, 0⟩, args := #[] }]
def about1 : State := aboutOver below0
def p0 : Program := .bare "" "" ""
def e0 : Env := launch0.env 0 0 0
theorem w_frames : about1.frames = Frame.invoking theMethod args0 :: below0 := rfl
set_option maxRecDepth 65536 in
theorem w_args : argsFit about1.vm theMethod args0 = true := by decide +kernel
set_option maxRecDepth 65536 in
theorem w_heap : heapFits about1 = true := by decide +kernel
set_option maxRecDepth 65536 in
theorem w_runnable : about1.curStatus? = some .runnable := by decide +kernel
set_option maxRecDepth 65536 in
theorem w_alone : about1.alone = true := by decide +kernel
set_option maxRecDepth 65536 in
theorem w_named : about1.methodNamed? x = some theMethod := by decide +kernel
set_option maxRecDepth 65536 in
theorem w_hears : about1.hears theMethod below0 = true := by decide +kernel
set_option maxRecDepth 65536 in
theorem w_ripe : about1.ripe theMethod args0 below0 = true := by decide +kernel
theorem w_running : about1.status = .running := rfl
set_option maxRecDepth 65536 in
theorem w_room : about1.hasRoom e0.platform room_1 = true :=
  launch0.hasRoom_least _ room_1 (by decide +kernel) (by decide +kernel) (by decide +kernel) (by decide +kernel) (by decide +kernel) (by decide +kernel)
theorem allAtoms_all (ts : List Jvm.Cond) (a : Array Jvm.Value) (st : Jvm.State) : (allAtoms ts).before a st = ts.all (fun c => c.before a st) := by
  induction ts with
  | nil => rfl
  | cons c t ih =>
    show (Jvm.Cond.and c (allAtoms t)).before a st = _
    rw [Jvm.Cond.before_and, ih, List.all_cons]
def words1 : List Jvm.Cond := Jvm.Cond.code x code maxLocals ret :: tables_1
/-- a 'code' word, met by the world's own term for the bytes: nothing is compared byte by byte -/
theorem code_word {y : MethodName} {bytes : ByteArray} {mx : Nat} {rt : Option FieldType} {a : Array Value} {s : State} {m : MethodId} {meth : Method} {c : Code} (h1 : s.methodNamed? y = some m) (h2 : s.vm.method? m = some meth) (h3 : meth.code = some c) (h4 : c.code = bytes)
    (h5 : (c.maxLocals == mx && c.exceptionTable.isEmpty && decide (c.maxStack ≤ mostOperands) && decide (meth.sig.returnType = rt) && !meth.locks && decide (parseMethodDescriptor y.desc = some meth.sig)) = true) : (Jvm.Cond.code y bytes mx rt).before a s = true := by
  simp only [Bool.and_eq_true, beq_iff_eq, Bool.not_eq_true', decide_eq_true_eq] at h5
  obtain ⟨⟨⟨⟨⟨g1, g2⟩, g3⟩, g4⟩, g5⟩, g6⟩ := h5
  simp [Cond.before, Cond.holds, Cond.value, h1, h2, h3, h4, g1, g2, g3, g4, g5, g6]
def isCode : Jvm.Cond → Bool
  | .code _ _ _ _ => true
  | _ => false
theorem all_split {L : List Jvm.Cond} {P : Jvm.Cond → Bool} (h1 : L.all (fun c => isCode c || P c) = true) (h2 : ∀ c ∈ L.filter isCode, P c = true) : L.all P = true := by
  refine List.all_eq_true.mpr fun c hc => ?_
  have h := List.all_eq_true.mp h1 c hc
  rcases Bool.eq_false_or_eq_true (isCode c) with hi | hi
  · exact h2 c (List.mem_filter.mpr ⟨hc, hi⟩)
  · simpa [hi] using h
set_option maxRecDepth 65536 in
theorem w_c0 : (Jvm.Cond.code x code maxLocals ret).before args0 about1 = true := code_word (m := ⟨1, 2⟩) (meth := k1m2) (c := k1c2) (by decide +kernel) rfl rfl rfl (by decide +kernel)
set_option maxRecDepth 65536 in
theorem w_c1 : (Jvm.Cond.code ({ cls := "com/example/glyphwire/glyphwire/Utf8LengthPinLaw", name := "w", desc := "(C)J" } : Jvm.MethodName) method_2_code (1 : Nat) (Option.some Jvm.ClassFile.FieldType.long)).before args0 about1 = true := code_word (m := ⟨1, 1⟩) (meth := k1m1) (c := k1c1) (by decide +kernel) rfl rfl rfl (by decide +kernel)
set_option maxRecDepth 65536 in
theorem w_c2 : (Jvm.Cond.code ({ cls := "java/lang/String", name := "<init>", desc := "([C)V" } : Jvm.MethodName) jdk_42_method_3_code (2 : Nat) (Option.none : Option Jvm.ClassFile.FieldType)).before args0 about1 = true := code_word (m := ⟨7, 1⟩) (meth := k7m1) (c := k7c1) (by decide +kernel) rfl rfl rfl (by decide +kernel)
set_option maxRecDepth 65536 in
theorem w_c3 : (Jvm.Cond.code ({ cls := "java/lang/String", name := "<init>", desc := "([CIILjava/lang/Void;)V" } : Jvm.MethodName) jdk_42_method_149_code (6 : Nat) (Option.none : Option Jvm.ClassFile.FieldType)).before args0 about1 = true := code_word (m := ⟨7, 4⟩) (meth := k7m4) (c := k7c4) (by decide +kernel) rfl rfl rfl (by decide +kernel)
set_option maxRecDepth 65536 in
theorem w_c4 : (Jvm.Cond.code ({ cls := "java/lang/Object", name := "<init>", desc := "()V" } : Jvm.MethodName) object_method_1_code (1 : Nat) (Option.none : Option Jvm.ClassFile.FieldType)).before args0 about1 = true := code_word (m := ⟨0, 0⟩) (meth := k0m0) (c := k0c0) (by decide +kernel) rfl rfl rfl (by decide +kernel)
set_option maxRecDepth 65536 in
theorem w_c5 : (Jvm.Cond.code ({ cls := "java/lang/StringUTF16", name := "compress", desc := "([CII)[B" } : Jvm.MethodName) jdk_52_method_16_code (6 : Nat) (Option.some (Jvm.ClassFile.FieldType.array Jvm.ClassFile.FieldType.byte))).before args0 about1 = true := code_word (m := ⟨8, 8⟩) (meth := k8m8) (c := k8c8) (by decide +kernel) rfl rfl rfl (by decide +kernel)
set_option maxRecDepth 65536 in
theorem w_c6 : (Jvm.Cond.code ({ cls := "java/lang/StringUTF16", name := "compress", desc := "([CI[BII)I" } : Jvm.MethodName) jdk_52_method_21_code (7 : Nat) (Option.some Jvm.ClassFile.FieldType.int)).before args0 about1 = true := code_word (m := ⟨8, 9⟩) (meth := k8m9) (c := k8c9) (by decide +kernel) rfl rfl rfl (by decide +kernel)
set_option maxRecDepth 65536 in
theorem w_c7 : (Jvm.Cond.code ({ cls := "java/lang/StringUTF16", name := "coderFromArrayLen", desc := "([BI)B" } : Jvm.MethodName) jdk_52_method_15_code (2 : Nat) (Option.some Jvm.ClassFile.FieldType.byte)).before args0 about1 = true := code_word (m := ⟨8, 7⟩) (meth := k8m7) (c := k8c7) (by decide +kernel) rfl rfl rfl (by decide +kernel)
set_option maxRecDepth 65536 in
theorem w_c8 : (Jvm.Cond.code ({ cls := "com/example/glyphwire/glyphwire/Utf8", name := "length", desc := "(Ljava/lang/CharSequence;)J" } : Jvm.MethodName) prog_10_method_2_code (5 : Nat) (Option.some Jvm.ClassFile.FieldType.long)).before args0 about1 = true := code_word (m := ⟨9, 1⟩) (meth := k9m1) (c := k9c1) (by decide +kernel) rfl rfl rfl (by decide +kernel)
set_option maxRecDepth 65536 in
theorem w_c9 : (Jvm.Cond.code ({ cls := "java/lang/String", name := "length", desc := "()I" } : Jvm.MethodName) jdk_42_method_54_code (1 : Nat) (Option.some Jvm.ClassFile.FieldType.int)).before args0 about1 = true := code_word (m := ⟨7, 2⟩) (meth := k7m2) (c := k7c2) (by decide +kernel) rfl rfl rfl (by decide +kernel)
set_option maxRecDepth 65536 in
theorem w_c10 : (Jvm.Cond.code ({ cls := "java/lang/String", name := "coder", desc := "()B" } : Jvm.MethodName) jdk_42_method_152_code (1 : Nat) (Option.some Jvm.ClassFile.FieldType.byte)).before args0 about1 = true := code_word (m := ⟨7, 5⟩) (meth := k7m5) (c := k7c5) (by decide +kernel) rfl rfl rfl (by decide +kernel)
set_option maxRecDepth 65536 in
theorem w_c11 : (Jvm.Cond.code ({ cls := "java/lang/String", name := "charAt", desc := "(I)C" } : Jvm.MethodName) jdk_42_method_56_code (2 : Nat) (Option.some Jvm.ClassFile.FieldType.char)).before args0 about1 = true := code_word (m := ⟨7, 3⟩) (meth := k7m3) (c := k7c3) (by decide +kernel) rfl rfl rfl (by decide +kernel)
set_option maxRecDepth 65536 in
theorem w_c12 : (Jvm.Cond.code ({ cls := "java/lang/String", name := "isLatin1", desc := "()Z" } : Jvm.MethodName) jdk_42_method_154_code (1 : Nat) (Option.some Jvm.ClassFile.FieldType.boolean)).before args0 about1 = true := code_word (m := ⟨7, 6⟩) (meth := k7m6) (c := k7c6) (by decide +kernel) rfl rfl rfl (by decide +kernel)
set_option maxRecDepth 65536 in
theorem w_c13 : (Jvm.Cond.code ({ cls := "java/lang/StringLatin1", name := "charAt", desc := "([BI)C" } : Jvm.MethodName) jdk_43_method_2_code (2 : Nat) (Option.some Jvm.ClassFile.FieldType.char)).before args0 about1 = true := code_word (m := ⟨10, 1⟩) (meth := k10m1) (c := k10c1) (by decide +kernel) rfl rfl rfl (by decide +kernel)
set_option maxRecDepth 65536 in
theorem w_c14 : (Jvm.Cond.code ({ cls := "java/lang/String", name := "checkIndex", desc := "(II)V" } : Jvm.MethodName) jdk_42_method_155_code (2 : Nat) (Option.none : Option Jvm.ClassFile.FieldType)).before args0 about1 = true := code_word (m := ⟨7, 7⟩) (meth := k7m7) (c := k7c7) (by decide +kernel) rfl rfl rfl (by decide +kernel)
set_option maxRecDepth 65536 in
theorem w_c15 : (Jvm.Cond.code ({ cls := "jdk/internal/util/Preconditions", name := "checkIndex", desc := "(IILjava/util/function/BiFunction;)I" } : Jvm.MethodName) jdk_41_method_11_code (3 : Nat) (Option.some Jvm.ClassFile.FieldType.int)).before args0 about1 = true := code_word (m := ⟨11, 1⟩) (meth := k11m1) (c := k11c1) (by decide +kernel) rfl rfl rfl (by decide +kernel)
set_option maxRecDepth 65536 in
theorem w_c16 : (Jvm.Cond.code ({ cls := "java/lang/StringUTF16", name := "toBytes", desc := "([CII)[B" } : Jvm.MethodName) jdk_52_method_14_code (5 : Nat) (Option.some (Jvm.ClassFile.FieldType.array Jvm.ClassFile.FieldType.byte))).before args0 about1 = true := code_word (m := ⟨8, 6⟩) (meth := k8m6) (c := k8c6) (by decide +kernel) rfl rfl rfl (by decide +kernel)
set_option maxRecDepth 65536 in
theorem w_c17 : (Jvm.Cond.code ({ cls := "java/lang/StringUTF16", name := "newBytesFor", desc := "(I)[B" } : Jvm.MethodName) jdk_52_method_2_code (1 : Nat) (Option.some (Jvm.ClassFile.FieldType.array Jvm.ClassFile.FieldType.byte))).before args0 about1 = true := code_word (m := ⟨8, 1⟩) (meth := k8m1) (c := k8c1) (by decide +kernel) rfl rfl rfl (by decide +kernel)
set_option maxRecDepth 65536 in
theorem w_c18 : (Jvm.Cond.code ({ cls := "java/lang/StringUTF16", name := "newBytesLength", desc := "(I)I" } : Jvm.MethodName) jdk_52_method_3_code (1 : Nat) (Option.some Jvm.ClassFile.FieldType.int)).before args0 about1 = true := code_word (m := ⟨8, 2⟩) (meth := k8m2) (c := k8c2) (by decide +kernel) rfl rfl rfl (by decide +kernel)
set_option maxRecDepth 65536 in
theorem w_c19 : (Jvm.Cond.code ({ cls := "java/lang/StringUTF16", name := "putChar", desc := "([BII)V" } : Jvm.MethodName) jdk_52_method_4_code (3 : Nat) (Option.none : Option Jvm.ClassFile.FieldType)).before args0 about1 = true := code_word (m := ⟨8, 3⟩) (meth := k8m3) (c := k8c3) (by decide +kernel) rfl rfl rfl (by decide +kernel)
set_option maxRecDepth 65536 in
theorem w_c20 : (Jvm.Cond.code ({ cls := "java/lang/StringUTF16", name := "getChar", desc := "([BI)C" } : Jvm.MethodName) jdk_52_method_5_code (2 : Nat) (Option.some Jvm.ClassFile.FieldType.char)).before args0 about1 = true := code_word (m := ⟨8, 4⟩) (meth := k8m4) (c := k8c4) (by decide +kernel) rfl rfl rfl (by decide +kernel)
set_option maxRecDepth 65536 in
theorem w_c21 : (Jvm.Cond.code ({ cls := "java/lang/StringUTF16", name := "charAt", desc := "([BI)C" } : Jvm.MethodName) jdk_52_method_83_code (2 : Nat) (Option.some Jvm.ClassFile.FieldType.char)).before args0 about1 = true := code_word (m := ⟨8, 10⟩) (meth := k8m10) (c := k8c10) (by decide +kernel) rfl rfl rfl (by decide +kernel)
set_option maxRecDepth 65536 in
theorem w_c22 : (Jvm.Cond.code ({ cls := "java/lang/StringUTF16", name := "checkIndex", desc := "(I[B)V" } : Jvm.MethodName) jdk_52_method_91_code (2 : Nat) (Option.none : Option Jvm.ClassFile.FieldType)).before args0 about1 = true := code_word (m := ⟨8, 11⟩) (meth := k8m11) (c := k8c11) (by decide +kernel) rfl rfl rfl (by decide +kernel)
set_option maxRecDepth 65536 in
theorem w_c23 : (Jvm.Cond.code ({ cls := "java/lang/StringUTF16", name := "length", desc := "([B)I" } : Jvm.MethodName) jdk_52_method_6_code (1 : Nat) (Option.some Jvm.ClassFile.FieldType.int)).before args0 about1 = true := code_word (m := ⟨8, 5⟩) (meth := k8m5) (c := k8c5) (by decide +kernel) rfl rfl rfl (by decide +kernel)
set_option maxRecDepth 65536 in
theorem w_c24 : (Jvm.Cond.code ({ cls := "java/lang/Character", name := "isSurrogate", desc := "(C)Z" } : Jvm.MethodName) jdk_89_method_16_code (1 : Nat) (Option.some Jvm.ClassFile.FieldType.boolean)).before args0 about1 = true := code_word (m := ⟨12, 0⟩) (meth := k12m0) (c := k12c0) (by decide +kernel) rfl rfl rfl (by decide +kernel)
def codes1 : List Jvm.Cond := [Jvm.Cond.code x code maxLocals ret, Jvm.Cond.code ({ cls := "com/example/glyphwire/glyphwire/Utf8LengthPinLaw", name := "w", desc := "(C)J" } : Jvm.MethodName) method_2_code (1 : Nat) (Option.some Jvm.ClassFile.FieldType.long), Jvm.Cond.code ({ cls := "java/lang/String", name := "<init>", desc := "([C)V" } : Jvm.MethodName) jdk_42_method_3_code (2 : Nat) (Option.none : Option Jvm.ClassFile.FieldType), Jvm.Cond.code ({ cls := "java/lang/String", name := "<init>", desc := "([CIILjava/lang/Void;)V" } : Jvm.MethodName) jdk_42_method_149_code (6 : Nat) (Option.none : Option Jvm.ClassFile.FieldType), Jvm.Cond.code ({ cls := "java/lang/Object", name := "<init>", desc := "()V" } : Jvm.MethodName) object_method_1_code (1 : Nat) (Option.none : Option Jvm.ClassFile.FieldType), Jvm.Cond.code ({ cls := "java/lang/StringUTF16", name := "compress", desc := "([CII)[B" } : Jvm.MethodName) jdk_52_method_16_code (6 : Nat) (Option.some (Jvm.ClassFile.FieldType.array Jvm.ClassFile.FieldType.byte)), Jvm.Cond.code ({ cls := "java/lang/StringUTF16", name := "compress", desc := "([CI[BII)I" } : Jvm.MethodName) jdk_52_method_21_code (7 : Nat) (Option.some Jvm.ClassFile.FieldType.int), Jvm.Cond.code ({ cls := "java/lang/StringUTF16", name := "coderFromArrayLen", desc := "([BI)B" } : Jvm.MethodName) jdk_52_method_15_code (2 : Nat) (Option.some Jvm.ClassFile.FieldType.byte), Jvm.Cond.code ({ cls := "com/example/glyphwire/glyphwire/Utf8", name := "length", desc := "(Ljava/lang/CharSequence;)J" } : Jvm.MethodName) prog_10_method_2_code (5 : Nat) (Option.some Jvm.ClassFile.FieldType.long), Jvm.Cond.code ({ cls := "java/lang/String", name := "length", desc := "()I" } : Jvm.MethodName) jdk_42_method_54_code (1 : Nat) (Option.some Jvm.ClassFile.FieldType.int), Jvm.Cond.code ({ cls := "java/lang/String", name := "coder", desc := "()B" } : Jvm.MethodName) jdk_42_method_152_code (1 : Nat) (Option.some Jvm.ClassFile.FieldType.byte), Jvm.Cond.code ({ cls := "java/lang/String", name := "charAt", desc := "(I)C" } : Jvm.MethodName) jdk_42_method_56_code (2 : Nat) (Option.some Jvm.ClassFile.FieldType.char), Jvm.Cond.code ({ cls := "java/lang/String", name := "isLatin1", desc := "()Z" } : Jvm.MethodName) jdk_42_method_154_code (1 : Nat) (Option.some Jvm.ClassFile.FieldType.boolean), Jvm.Cond.code ({ cls := "java/lang/StringLatin1", name := "charAt", desc := "([BI)C" } : Jvm.MethodName) jdk_43_method_2_code (2 : Nat) (Option.some Jvm.ClassFile.FieldType.char), Jvm.Cond.code ({ cls := "java/lang/String", name := "checkIndex", desc := "(II)V" } : Jvm.MethodName) jdk_42_method_155_code (2 : Nat) (Option.none : Option Jvm.ClassFile.FieldType), Jvm.Cond.code ({ cls := "jdk/internal/util/Preconditions", name := "checkIndex", desc := "(IILjava/util/function/BiFunction;)I" } : Jvm.MethodName) jdk_41_method_11_code (3 : Nat) (Option.some Jvm.ClassFile.FieldType.int), Jvm.Cond.code ({ cls := "java/lang/StringUTF16", name := "toBytes", desc := "([CII)[B" } : Jvm.MethodName) jdk_52_method_14_code (5 : Nat) (Option.some (Jvm.ClassFile.FieldType.array Jvm.ClassFile.FieldType.byte)), Jvm.Cond.code ({ cls := "java/lang/StringUTF16", name := "newBytesFor", desc := "(I)[B" } : Jvm.MethodName) jdk_52_method_2_code (1 : Nat) (Option.some (Jvm.ClassFile.FieldType.array Jvm.ClassFile.FieldType.byte)), Jvm.Cond.code ({ cls := "java/lang/StringUTF16", name := "newBytesLength", desc := "(I)I" } : Jvm.MethodName) jdk_52_method_3_code (1 : Nat) (Option.some Jvm.ClassFile.FieldType.int), Jvm.Cond.code ({ cls := "java/lang/StringUTF16", name := "putChar", desc := "([BII)V" } : Jvm.MethodName) jdk_52_method_4_code (3 : Nat) (Option.none : Option Jvm.ClassFile.FieldType), Jvm.Cond.code ({ cls := "java/lang/StringUTF16", name := "getChar", desc := "([BI)C" } : Jvm.MethodName) jdk_52_method_5_code (2 : Nat) (Option.some Jvm.ClassFile.FieldType.char), Jvm.Cond.code ({ cls := "java/lang/StringUTF16", name := "charAt", desc := "([BI)C" } : Jvm.MethodName) jdk_52_method_83_code (2 : Nat) (Option.some Jvm.ClassFile.FieldType.char), Jvm.Cond.code ({ cls := "java/lang/StringUTF16", name := "checkIndex", desc := "(I[B)V" } : Jvm.MethodName) jdk_52_method_91_code (2 : Nat) (Option.none : Option Jvm.ClassFile.FieldType), Jvm.Cond.code ({ cls := "java/lang/StringUTF16", name := "length", desc := "([B)I" } : Jvm.MethodName) jdk_52_method_6_code (1 : Nat) (Option.some Jvm.ClassFile.FieldType.int), Jvm.Cond.code ({ cls := "java/lang/Character", name := "isSurrogate", desc := "(C)Z" } : Jvm.MethodName) jdk_89_method_16_code (1 : Nat) (Option.some Jvm.ClassFile.FieldType.boolean)]
set_option maxRecDepth 65536 in
theorem codes_eq : words1.filter isCode = codes1 := rfl
theorem w_codes : ∀ c ∈ words1.filter isCode, c.before args0 about1 = true := by
  rw [codes_eq]
  intro c hc
  simp only [codes1, List.mem_cons, List.not_mem_nil, or_false] at hc
  rcases hc with rfl | rfl | rfl | rfl | rfl | rfl | rfl | rfl | rfl | rfl | rfl | rfl | rfl | rfl | rfl | rfl | rfl | rfl | rfl | rfl | rfl | rfl | rfl | rfl | rfl
  · exact w_c0
  · exact w_c1
  · exact w_c2
  · exact w_c3
  · exact w_c4
  · exact w_c5
  · exact w_c6
  · exact w_c7
  · exact w_c8
  · exact w_c9
  · exact w_c10
  · exact w_c11
  · exact w_c12
  · exact w_c13
  · exact w_c14
  · exact w_c15
  · exact w_c16
  · exact w_c17
  · exact w_c18
  · exact w_c19
  · exact w_c20
  · exact w_c21
  · exact w_c22
  · exact w_c23
  · exact w_c24
set_option maxRecDepth 65536 in
theorem w_t1 : (words1.take 24).all (fun c => isCode c || c.before args0 about1) = true := by decide +kernel
set_option maxRecDepth 65536 in
theorem w_t2 : ((words1.drop 24).take 24).all (fun c => isCode c || c.before args0 about1) = true := by decide +kernel
set_option maxRecDepth 65536 in
theorem w_t3 : (((words1.drop 24).drop 24).take 24).all (fun c => isCode c || c.before args0 about1) = true := by decide +kernel
set_option maxRecDepth 65536 in
theorem w_t4 : ((((words1.drop 24).drop 24).drop 24).take 24).all (fun c => isCode c || c.before args0 about1) = true := by decide +kernel
set_option maxRecDepth 65536 in
theorem w_t5 : (((((words1.drop 24).drop 24).drop 24).drop 24).take 24).all (fun c => isCode c || c.before args0 about1) = true := by decide +kernel
set_option maxRecDepth 65536 in
theorem w_t6 : (((((words1.drop 24).drop 24).drop 24).drop 24).drop 24).all (fun c => isCode c || c.before args0 about1) = true := by decide +kernel
theorem w_tables : (allAtoms (Jvm.Cond.code x code maxLocals ret :: tables_1)).before args0 about1 = true := by
  rw [allAtoms_all]
  show words1.all (fun c => c.before args0 about1) = true
  refine all_split ?_ w_codes
  rw [← List.take_append_drop 24 words1, List.all_append, w_t1, ← List.take_append_drop 24 (words1.drop 24), List.all_append, w_t2, ← List.take_append_drop 24 ((words1.drop 24).drop 24), List.all_append, w_t3, ← List.take_append_drop 24 (((words1.drop 24).drop 24).drop 24), List.all_append, w_t4, ← List.take_append_drop 24 ((((words1.drop 24).drop 24).drop 24).drop 24), List.all_append, w_t5, w_t6]
  rfl
set_option maxRecDepth 65536 in
theorem w_rest : rest_1_c.before args0 about1 = true := by decide +kernel
set_option maxRecDepth 65536 in
theorem w_case : (Jvm.Cond.and given_1 narrow_1).before args0 about1 = true := by decide +kernel
set_option maxRecDepth 65536 in
theorem w_consts : constsHeld consts_1 about1 := Jvm.Lit.constsHeldB_iff.mp (by decide +kernel)
theorem w_applies : (headSpec (Jvm.Cond.code x code maxLocals ret :: tables_1) room_1).applies x e0.platform about1 = true :=
  (Spec.applies_iff w_frames).mpr ⟨w_running, w_runnable, w_alone, w_named, w_hears, w_ripe, w_room, w_tables⟩
theorem atStart : AtStart classFile x code maxLocals ret World_1 tables_1 room_1 Calls_1 rest_1 Pre_1 launch0 p0 e0 about1 theMethod args0 below0 :=
  ⟨lists_1, trivial, launch0.admits_env _ _ _, launch0.least_env, fairChoices_fair.cas, fairChoices_fair.clock, w_frames, w_args, w_heap, w_applies, ⟨w_consts, trivial⟩, w_rest, w_case⟩
end start1
theorem witness_1 : WitnessClaimed_1 := ⟨start1.p0, start1.e0, start1.about1, start1.theMethod, start1.args0, start1.below0, start1.atStart⟩
end Jvm.Pilot.@@N@@
