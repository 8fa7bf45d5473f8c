import PyProof.Rows.All
import Flt.Calls
import KE.KItem
import KE.KDictSum
import KE.KDictOf
import KE.KSort
import KE.KRevIter
import Wide.FinOn
import OpenK.AllK
import Wide.All
import PySem.Challenge.RW_sh0055_01
open PySem PySem.W PyProof.Rows PySem.Calls
set_option Elab.async false
set_option maxRecDepth 100000
set_option linter.unusedVariables false
set_option linter.unusedSimpArgs false
set_option tactic.hygienic false
set_option genSizeOf false
set_option bootstrap.genMatcherCode false
namespace Mine
section
set_option maxHeartbeats 8000000
theorem said : PySem.W.OpenLaw.wellSaid PySem.Challenge.rw_sh0055_01 = true := by kernel_rfl
local macro_rules | `(tactic| o_law) => `(tactic| refine holds_law said fun _ => ?_)
open_top hd for PySem.Challenge.rw_sh0055_01
end
section
theorem byP {T : Prop} (h : ∀ P : Prop, (T -> P) -> P) : T := h T id
theorem zaf {α : Type} {a : α} {P : Prop} (e : none = some a) : P := nomatch e
noncomputable def zac {α : Type} (o : Option α) (P : α -> Prop) : Prop := ∀ a, o = some a -> P a
section
variable {α β : Type} {o : Option α} {P : α -> Prop} {R : β -> Prop}
theorem zac.no : zac none P := fun _ e => nomatch e
theorem zac.so {a : α} (h : P a) : zac (some a) P := fun b e => Option.some.inj e ▸ h
theorem zac.gd {c : Prop} [Decidable c] (h : c -> zac o P) : zac (if c then o else none) P := fun b e => by
 by_cases hc : c
 ·rw [if_pos hc] at e; exact h hc b e
 ·rw [if_neg hc] at e; cases e
theorem zac.ng {c : Prop} [Decidable c] (h : ¬ c -> zac o P) : zac (if c then none else o) P := fun b e => by
 by_cases hc : c
 ·rw [if_pos hc] at e; cases e
 ·rw [if_neg hc] at e; exact h hc b e
theorem zac.two {c : Prop} [Decidable c] {o2 : Option α} (h : c -> zac o P) (h2 : ¬ c -> zac o2 P) : zac (if c then o else o2) P := fun b e => by
 by_cases hc : c
 ·rw [if_pos hc] at e; exact h hc b e
 ·rw [if_neg hc] at e; exact h2 hc b e
theorem zac.ite {c : Prop} [Decidable c] {a : α} (h : c -> P a) : zac (if c then some a else none) P := .gd fun q => .so (h q)
theorem zac.gen (h : ∀ Q : α -> Prop, (∀ a, P a -> Q a) -> zac o Q) : zac o P := h P fun _ x => x
theorem zac.map {f : α -> β} (h : zac o fun a => R (f a)) : zac (o.map f) R := fun b e => by
 obtain ⟨a, e1, rfl⟩ := Option.map_eq_some_iff.mp e
 exact h a e1
end
noncomputable abbrev pg : Program := PySem.Challenge.pw_sh0055_01
noncomputable abbrev KK (w : World) : Frag := hd.heap_1 w.params
noncomputable abbrev TT : List Addr := [127, 120]
inductive D where
 | none
 | bool (b : Bool)
 | int (i : Int)
 | flt (x : UInt64)
 | str (x : Str)
 | tup (l : List D)
 | lst (l : List D)
 | rng (a b c : Int)
 | set (l : List Int) (b : Bool)
 | dic (l : List (Int × D))
 | rev (l : List D)
 | ins (l : List (Str × D))
 | any (v : Value)
noncomputable def zi4 (t : SetTable) (l : Array Int) (wanted : Nat) : Array Int × SetTable :=
 match t.relaid l wanted with
 | some (t', order) =>
  let l' := order.filterMap (l[·]?)
  if coversAll order l.size && t'.fits l'.size then (l', t') else (l, t.standIn l.size)
 | none => (l, t.standIn l.size)
noncomputable def znj (t : SetTable) (l : Array Int) (h : Int) : Array Int × SetTable × Bool := match t.freeSlot h with
 | some (slot, wasDummy) =>
  let tp := t.put slot
  let l' := SetTable.insertAt l tp.2 h
  (l', tp.1.orStandIn l'.size, wasDummy)
 | none => (l.push h, t.standIn (l.size + 1), false)
noncomputable def stepS (q : Array Int × SetTable) (v : Int) : Array Int × SetTable :=
 if q.1.any (· == v) then q else
 let r := znj q.2 q.1 v
 if (!r.2.2 && r.2.1.tooFull) = true then zi4 r.2.1 r.1 (SetTable.grown r.1.size) else (r.1, r.2.1)
noncomputable def z1d : Nat -> List (Array Int × SetTable) -> List (Array Int × SetTable)
 | 0, l => l
 | n + 1, l => z1d n (l ++ ((l.flatMap fun q => [2, 3, 4, 6, 12].map (stepS q)).filter fun q => !l.contains q).eraseDups)
noncomputable def zat (led : Bool) : List (Array Int × SetTable) := z1d 5 [(#[], .fresh 0 0 led)]
noncomputable def zvl (o : Obj) (l : List Int) (b : Bool) : Prop := ∃ es ep t, o = { cls := .type "set", data := .set es ep t } /\ (es.map (·.1), t) ∈ zat (!b) /\ (es.map (·.1)).toList = l /\ ∀ e ∈ es.toList, ∃ k, e.2 = .int e.1 k
noncomputable abbrev zbz (vs : List Value) (n : Nat) : Obj := { cls := .type "list", data := .seq vs.toArray n }
noncomputable abbrev zj6 (vs : List Value) (n : Nat) : Obj := { cls := .type "tuple", data := .seq vs.toArray n }
noncomputable def InsD (od : Obj) (names : List Str) (vs : List Value) : Prop :=
 (∀ p ∈ names.zip vs, lookIn p.1 od = some (some p.2)) /\ ∀ x, names.contains x = false -> lookIn x od = some none
noncomputable def zy1 (h : Heap) (a : Addr) (ks : List Int) (vs : List Value) : Prop := h.IntMap a (fun k => (ks.zip vs).lookup k)
mutual
inductive Rep (X : List Addr) (h : Heap) : Value -> D -> Prop
 | none : Rep X h .none .none
 | bool (b : Bool) : Rep X h (.bool b) (.bool b)
 | int (i : Int) (t : Tok) : Rep X h (.int i t) (.int i)
 | flt (x : UInt64) (t : Tok) : Rep X h (.float x t) (.flt x)
 | str (x : Str) (t : Tok) : Rep X h (.str x t) (.str x)
 | tup {a : Addr} {vs : List Value} {n : Nat} {ds : List D} : a ∉ X -> h.get? a = some (zj6 vs n) -> RepA X h vs ds -> Rep X h (.ref a) (.tup ds)
 | lst {a : Addr} {vs : List Value} {n : Nat} {ds : List D} : a ∉ X -> h.get? a = some (zbz vs n) -> RepA X h vs ds -> Rep X h (.ref a) (.lst ds)
 | rng {r : Addr} {a b c : Int} {t u v : Tok} : r ∉ X -> IsRange h r a b c t u v -> Rep X h (.ref r) (.rng a b c)
 | dic {a : Addr} {ks : List Int} {vs : List Value} {ds : List D} {l : List (Int × D)} : a ∉ X -> zy1 h a ks vs -> RepA X h vs ds -> l = ks.zip ds -> ks.length = vs.length -> Rep X h (.ref a) (.dic l)
 | ins {a dx : Addr} {od : Obj} {names : List Str} {vs : List Value} {ds : List D} {l : List (Str × D)} : a ∉ X -> dx ∉ X -> h.get? a = some (instObj 100 dx) -> h.get? dx = some od -> InsD od names vs -> RepA X h vs ds -> l = names.zip ds -> names.length = vs.length -> Rep X h (.ref a) (.ins l)
 | any {v : Value} : handedIn v = true -> Rep X h v (.any v)
 | set {a : Addr} {o : Obj} {l : List Int} {b : Bool} : a ∉ X -> h.get? a = some o -> zvl o l b -> Rep X h (.ref a) (.set l b)
 | rev {a : Addr} {o : Obj} {vs : List Value} {n : Nat} {ds : List D} : a ∉ X -> h.get? a = some o -> o.cls = .type "list" -> o.data = .seq vs.toArray n -> RepA X h vs ds -> Rep X h (.ref a) (.rev ds)
inductive RepA (X : List Addr) (h : Heap) : List Value -> List D -> Prop
 | nil : RepA X h [] []
 | cons {v : Value} {vs : List Value} {d : D} {ds : List D} : Rep X h v d -> RepA X h vs ds -> RepA X h (v :: vs) (d :: ds)
end
section
variable {X Y : List Addr} {h h' : Heap}
theorem IsRange.at' {r : Addr} {a b c : Int} {t u v : Tok} (x : IsRange h r a b c t u v) (k : ∀ o, h.get? r = some o -> h'.get? r = some o) : IsRange h' r a b c t u v := by
 unfold IsRange at *
 exact k _ x
theorem zy1.at' {a : Addr} {ks : List Int} {vs : List Value} (x : zy1 h a ks vs) (k : ∀ o, h.get? a = some o -> h'.get? a = some o) : zy1 h' a ks vs :=
 let ⟨o, es, ep, ho, r⟩ := x; ⟨o, es, ep, k _ ho, r⟩
theorem zy1.has {a : Addr} {ks : List Int} {vs : List Value} (x : zy1 h a ks vs) : ∃ o, h.get? a = some o := let ⟨o, es, ep, ho, r⟩ := x; ⟨o, ho⟩
theorem Rep.mono (k : ∀ b o, b ∉ X -> h.get? b = some o -> h'.get? b = some o) {v : Value} {d : D} (x : Rep X h v d) : Rep X h' v d :=
 Rep.rec (motive_1 := fun v d _ => Rep X h' v d) (motive_2 := fun vs ds _ => RepA X h' vs ds) .none .bool .int .flt .str (fun a b _ c => .tup a (k _ _ a b) c) (fun a b _ c => .lst a (k _ _ a b) c) (fun a b => .rng a (IsRange.at' b fun o e => k _ o a e)) (fun a b _ e f c => .dic a (b.at' fun o e => k _ o a e) c e f)
  (fun a b c d e _ g i f => .ins a b (k _ _ a c) (k _ _ b d) e f g i) .any (fun a b c => .set a (k _ _ a b) c) (fun a b c d _ e => .rev a (k _ _ a b) c d e) .nil (fun _ _ a b => .cons a b) x
theorem RepA.mono (k : ∀ b o, b ∉ X -> h.get? b = some o -> h'.get? b = some o) {v : List Value} {d : List D} (x : RepA X h v d) : RepA X h' v d :=
 RepA.rec (motive_1 := fun v d _ => Rep X h' v d) (motive_2 := fun vs ds _ => RepA X h' vs ds) .none .bool .int .flt .str (fun a b _ c => .tup a (k _ _ a b) c) (fun a b _ c => .lst a (k _ _ a b) c) (fun a b => .rng a (IsRange.at' b fun o e => k _ o a e)) (fun a b _ e f c => .dic a (b.at' fun o e => k _ o a e) c e f)
  (fun a b c d e _ g i f => .ins a b (k _ _ a c) (k _ _ b d) e f g i) .any (fun a b c => .set a (k _ _ a b) c) (fun a b c d _ e => .rev a (k _ _ a b) c d e) .nil (fun _ _ a b => .cons a b) x
theorem Rep.sub (k : ∀ b o, b ∈ Y -> h.get? b = some o -> b ∈ X) {v : Value} {d : D} (x : Rep X h v d) : Rep Y h v d :=
 Rep.rec (motive_1 := fun v d _ => Rep Y h v d) (motive_2 := fun vs ds _ => RepA Y h vs ds) .none .bool .int .flt .str (fun a b _ c => .tup (fun q => a (k _ _ q b)) b c) (fun a b _ c => .lst (fun q => a (k _ _ q b)) b c) (fun a b => .rng (fun q => a (k _ _ q (by unfold IsRange at b; exact b))) b) (fun a b _ e f c => .dic (fun q => let ⟨_, y⟩ := b.has; a (k _ _ q y)) b c e f)
  (fun a b c d e _ g i f => .ins (fun q => a (k _ _ q c)) (fun q => b (k _ _ q d)) c d e f g i) .any (fun a b c => .set (fun q => a (k _ _ q b)) b c) (fun a b c d _ e => .rev (fun q => a (k _ _ q b)) b c d e) .nil (fun _ _ a b => .cons a b) x
theorem RepA.sub (k : ∀ b o, b ∈ Y -> h.get? b = some o -> b ∈ X) {v : List Value} {d : List D} (x : RepA X h v d) : RepA Y h v d :=
 RepA.rec (motive_1 := fun v d _ => Rep Y h v d) (motive_2 := fun vs ds _ => RepA Y h vs ds) .none .bool .int .flt .str (fun a b _ c => .tup (fun q => a (k _ _ q b)) b c) (fun a b _ c => .lst (fun q => a (k _ _ q b)) b c) (fun a b => .rng (fun q => a (k _ _ q (by unfold IsRange at b; exact b))) b) (fun a b _ e f c => .dic (fun q => let ⟨_, y⟩ := b.has; a (k _ _ q y)) b c e f)
  (fun a b c d e _ g i f => .ins (fun q => a (k _ _ q c)) (fun q => b (k _ _ q d)) c d e f g i) .any (fun a b c => .set (fun q => a (k _ _ q b)) b c) (fun a b c d _ e => .rev (fun q => a (k _ _ q b)) b c d e) .nil (fun _ _ a b => .cons a b) x
end
end
section
noncomputable def zro (h : Heap) (c P : Addr) (line col : Nat) (q : Str) : Prop :=
 CodeHd h c P /\ ∃ ps, h.get? P = some (tabObj ps) /\ (ps = #[] ∨ ∃ c', ps = #[rawInt line, rawInt col, .ref c'] /\ c' ∉ TT /\ ∃ o vs t, h.get? c' = some o /\ o.cls = .type "code" /\ o.data = .fields vs /\ vs[1]? = some (.str q t))
noncomputable def BmAt (h : Heap) : Prop := ∃ ob, h.get? 4 = some ob /\ ob.cls = .type "module" /\ ob.dict = some builtinsNs /\ ob.data = .plain
theorem BmAt.at' {h h' : Heap} (x : BmAt h) (k : ∀ o, h.get? 4 = some o -> h'.get? 4 = some o) : BmAt h' := let ⟨ob, e, r⟩ := x; ⟨ob, k _ e, r⟩
structure Base (w : World) (mb : Str -> Option Value) (h : Heap) : Prop where
 k : (KK w).In h
 b : h.Ns builtinsNs mb
 mb : ∀ x : Str, x ≠ "__name__" -> mb x = bootBuiltins x
 lim : h.NoLimit
 bo : BmAt h
 t1 : zro h 124 120 90 4 "_int2digits.<locals>.inner"
 t2 : zro h 131 127 105 4 "_digits2int.<locals>.inner"
noncomputable def Kq (L : Addr) (h h' : Heap) : Prop := (∀ b o, b ≠ L -> h.get? b = some o -> h'.get? b = some o) /\ ∀ m, h.Ns L m -> h'.Ns L m
noncomputable def Kp (L : Addr) (h h' : Heap) : Prop := (∀ b o, b ≠ L -> b ∉ TT -> h.get? b = some o -> h'.get? b = some o) /\ ∀ m, h.Ns L m -> h'.Ns L m
section
variable {L : Addr} {h h' h'' : Heap} {w : World} {mb : Str -> Option Value}
theorem Kp.of (k : ∀ b o, h.get? b = some o -> h'.get? b = some o) : Kp L h h' := ⟨fun b o _ _ e => k b o e, fun _ x => x.keeps k⟩
theorem Kp.refl : Kp L h h := Kp.of fun _ _ e => e
theorem Kp.trans (x : Kp L h h') (y : Kp L h' h'') : Kp L h h'' := ⟨fun b o h1 h2 e => y.1 b o h1 h2 (x.1 b o h1 h2 e), fun m e => y.2 m (x.2 m e)⟩
theorem z2q {w : World} {a : Addr} {o : Obj} (e : (KK w).lookup a = some o) : a <= 227 := by
 have h1 : ∀ p ∈ KK w, p.1 <= 227 := by
  have : ((KK w).map (·.1)).all (fun a => decide (a <= 227)) = true := by kernel_rfl
  intro p hp
  exact of_decide_eq_true (List.all_eq_true.mp this _ (List.mem_map_of_mem hp))
 exact h1 _ (mem_of_lookupK e)
theorem KK_tt {w : World} {a : Addr} {o : Obj} (e : (KK w).lookup a = some o) : a ∉ TT := by
 have h1 : ∀ p ∈ KK w, p.1 ∉ TT := by
  have : ((KK w).map (·.1)).all (fun a => decide (a ∉ TT)) = true := by kernel_rfl
  intro p hp
  exact of_decide_eq_true (List.all_eq_true.mp this _ (List.mem_map_of_mem hp))
 exact h1 _ (mem_of_lookupK e)
theorem zro.keepsD {c P a : Addr} {l r : Nat} {q : Str} (x : zro h c P l r q) (k : ∀ b o, b ≠ a -> h.get? b = some o -> h'.get? b = some o) (hc : c ≠ a) (hP : P ≠ a) (n : ∀ o vs, h.get? a = some o -> o.data = .fields vs -> o.cls ≠ .type "code") : zro h' c P l r q := by
 obtain ⟨⟨o, vs, file, tf, flags, tg, inF, text, tt, e1, x1⟩, ps, e, x2⟩ := x
 refine ⟨⟨o, vs, file, tf, flags, tg, inF, text, tt, k _ _ hc e1, x1⟩, ps, k _ _ hP e, ?_⟩
 rcases x2 with x2 | ⟨c', x2, x3, o2, vs2, t2, y1, y2, y3, y4⟩
 ·exact .inl x2
 ·refine .inr ⟨c', x2, x3, o2, vs2, t2, k _ _ ?_ y1, y2, y3, y4⟩
  rintro rfl
  exact n _ _ y1 y3 y2
theorem Base.low (B : Base w mb h) : 227 < h.objs.size := by
 have e : ((KK w).lookup 227).isSome = true := by kernel_rfl
 obtain ⟨o, e⟩ := Option.isSome_iff_exists.mp e
 exact Heap.lt_size (B.k _ _ e)
theorem Base.but {a : Addr} (B : Base w mb h) (k : ∀ b o, b ≠ a -> h.get? b = some o -> h'.get? b = some o) (ha : 227 < a) (n : ∀ o vs, h.get? a = some o -> o.data = .fields vs -> o.cls ≠ .type "code") : Base w mb h' where
 k := fun b o e => k b o (Nat.ne_of_lt (Nat.lt_of_le_of_lt (z2q e) ha)) (B.k b o e)
 b := B.b.at' fun o e => k _ o (Nat.ne_of_lt (Nat.lt_of_le_of_lt (by decide) ha)) e
 mb := B.mb
 lim := let ⟨mc, c1, c2⟩ := B.lim; ⟨mc, c1.at' fun o e => k _ o (Nat.ne_of_lt (Nat.lt_of_le_of_lt (by decide) ha)) e, c2⟩
 bo := B.bo.at' fun o e => k _ o (Nat.ne_of_lt (Nat.lt_of_le_of_lt (by decide) ha)) e
 t1 := B.t1.keepsD k (Nat.ne_of_lt (Nat.lt_of_le_of_lt (by decide) ha)) (Nat.ne_of_lt (Nat.lt_of_le_of_lt (by decide) ha)) n
 t2 := B.t2.keepsD k (Nat.ne_of_lt (Nat.lt_of_le_of_lt (by decide) ha)) (Nat.ne_of_lt (Nat.lt_of_le_of_lt (by decide) ha)) n
theorem Base.keeps (B : Base w mb h) (k : ∀ b o, h.get? b = some o -> h'.get? b = some o) : Base w mb h' where
 k := B.k.keeps k
 b := B.b.keeps k
 mb := B.mb
 lim := B.lim.keeps k
 bo := B.bo.at' fun o e => k _ o e
 t1 := let ⟨x1, ps, e, x2⟩ := B.t1; ⟨x1.keeps k, ps, k _ _ e, x2.imp id fun ⟨c', y1, y2, o, vs, t, y3, y4⟩ => ⟨c', y1, y2, o, vs, t, k _ _ y3, y4⟩⟩
 t2 := let ⟨x1, ps, e, x2⟩ := B.t2; ⟨x1.keeps k, ps, k _ _ e, x2.imp id fun ⟨c', y1, y2, o, vs, t, y3, y4⟩ => ⟨c', y1, y2, o, vs, t, k _ _ y3, y4⟩⟩
end
end
section
inductive Post {α : Type} (s : Shared) (P R : Heap -> Prop) (Q : α -> Heap -> Prop) (v : α) (s' : Shared) : Prop
 | mk (h' : Heap) (tk : Nat) (e : s' = { s with heap := h', toks := tk }) (k : P h') (b : R h') (q : Q v h')
structure Tot (w : World) (mb : Str -> Option Value) (A : Around) (L : Addr) {α : Type} (t : Sem α) (s : Shared) (Q : α -> Heap -> Prop) : Prop where
 run : wpAny (model pg w) A t (Post s (Kp L s.heap) (Base w mb) Q) (fun _ _ => False) s
section
variable {w : World} {mb : Str -> Option Value} {A : Around} {L : Addr} {α β : Type} {s : Shared}
theorem Tot.use {t : Sem α} {Q : α -> Heap -> Prop} {R : α -> Shared -> Prop} {E : Value -> Shared -> Prop} {h0 : Heap} {tk0 : Nat} (x : Tot w mb A L t { s with heap := h0, toks := tk0 } Q)
  (k : ∀ v h' tk, Kp L h0 h' -> Base w mb h' -> Q v h' -> R v { s with heap := h', toks := tk }) : wpAny (model pg w) A t R E { s with heap := h0, toks := tk0 } :=
 wpAny_mono x.run (fun v s' h => by obtain ⟨h', tk, rfl, h1, h2, h3⟩ := h; exact k v h' tk h1 h2 h3) fun _ _ f => f.elim
theorem Tot.mono {t : Sem α} {Q R : α -> Heap -> Prop} (x : Tot w mb A L t s Q) (k : ∀ v h', Kp L s.heap h' -> Base w mb h' -> Q v h' -> R v h') : Tot w mb A L t s R :=
 ⟨x.use fun v h' tk k1 b1 q1 => ⟨h', tk, rfl, k1, b1, k v h' k1 b1 q1⟩⟩
end
structure Rm (A : Around) (n : Nat) : Prop where
 hh : A.handled = none
 d : A.depth + n < recursionLimit
 u : A.units + 10 * n + 10 < cLine
theorem Rm.le {A : Around} {m n : Nat} (x : Rm A n) (h : m <= n) : Rm A m := ⟨x.hh, by have := x.d; lia, by have := x.u; lia⟩
theorem Rm.in1 {A : Around} {n : Nat} (x : Rm A (n + 1)) : Rm A.in1 n := ⟨x.hh, by have := x.d; show A.depth + n < _; lia, by have := x.u; show A.units + 1 + _ + _ < _; lia⟩
theorem Rm.units {A : Around} {n : Nat} (x : Rm A n) : A.units < cLine := by have := x.u; lia
structure EnvOk (env : Env) : Prop where
 kind : env.scope.kind = .function
 glob : env.globals = mainGlobals
 blt : env.builtins = builtinsNs
 low : 227 < env.locals
 cells : ∀ x c, env.cells.lookup x = some c -> 227 < c /\ c ≠ env.locals
 apart : ∀ x y c, env.cells.lookup x = some c -> env.cells.lookup y = some c -> x = y
noncomputable def zbl (env : Env) (h : Heap) (x : Str) (v : Value) : Prop :=
 (env.kindOf x = some .local /\ ∃ m, h.Ns env.locals m /\ m x = some v) ∨
 ((env.kindOf x = some .cell ∨ env.kindOf x = some .free) /\ ∃ c, env.cells.lookup x = some c /\ h.IsCell c (some v))
inductive OwnAt (env : Env) (h : Heap) (X Y : List Addr) (x : Str) (ds : List D) : Prop
 | mk (a : Addr) (vs : List Value) (n : Nat) (v1 : zbl env h x (.ref a)) (v2 : 227 < a) (v3 : a ≠ env.locals) (w1 : a ∉ Y) (w2 : ∀ y c, env.cells.lookup y = some c -> c ≠ a) (w3 : a ∈ X) (v4 : h.get? a = some (zbz vs n)) (v5 : RepA X h vs ds)
structure Sc (env : Env) (σ : List (Str × D)) (own : Option (Str × List D)) (X Y : List Addr) (h : Heap) : Prop where
 eok : EnvOk env
 ns : ∃ m, h.Ns env.locals m
 cel : ∀ x, env.kindOf x = some .cell -> ∃ c v, env.cells.lookup x = some c /\ h.IsCell c v
 vars : ∀ x d, σ.lookup x = some d -> ∃ v, zbl env h x v /\ Rep X h v d
 own : ∀ x ds, own = some (x, ds) -> OwnAt env h X Y x ds
 live : ∀ a ∈ X, ∃ o, h.get? a = some o
 locX : env.locals ∈ X
 celX : ∀ x c, env.cells.lookup x = some c -> c ∈ X
 ttX : ∀ a ∈ TT, a ∈ X
 subY : ∀ a ∈ Y, a ∈ X
 ttY : ∀ a ∈ TT, a ∈ Y
 locY : env.locals ∉ Y
 celY : ∀ x c, env.kindOf x = some .cell -> env.cells.lookup x = some c -> c ∉ Y
section
variable {env : Env} {σ : List (Str × D)} {own : Option (Str × List D)} {X Y : List Addr} {h h' : Heap} {L : Addr}
theorem Rep.kp {v : Value} {d : D} (x : Rep X h v d) (hL : L ∈ X) (ht : ∀ a ∈ TT, a ∈ X) (k : Kp L h h') : Rep X h' v d :=
 x.mono fun b o hb e => k.1 b o (fun q => hb (q ▸ hL)) (fun q => hb (ht b q)) e
theorem RepA.kp {v : List Value} {d : List D} (x : RepA X h v d) (hL : L ∈ X) (ht : ∀ a ∈ TT, a ∈ X) (k : Kp L h h') : RepA X h' v d :=
 x.mono fun b o hb e => k.1 b o (fun q => hb (q ▸ hL)) (fun q => hb (ht b q)) e
theorem zaq {c : Addr} (h : 227 < c) : c ∉ TT := by
 intro q
 rcases List.mem_cons.mp q with rfl | q
 ·exact absurd h (by decide)
 ·rcases List.mem_cons.mp q with rfl | q
  ·exact absurd h (by decide)
  ·cases q
theorem zbl.kp {x : Str} {v : Value} (E : EnvOk env) (k : Kp env.locals h h') (q : zbl env h x v) : zbl env h' x v := by
 rcases q with ⟨q1, m, q2, q3⟩ | ⟨q1, c, q2, o, q3, q4⟩
 ·exact .inl ⟨q1, m, k.2 m q2, q3⟩
 ·exact .inr ⟨q1, c, q2, o, k.1 c o (E.cells x c q2).2 (zaq (E.cells x c q2).1) q3, q4⟩
theorem Sc.kp {w : World} {mb : Str -> Option Value} (S : Sc env σ own X Y h) (k : Kp env.locals h h') (B : Base w mb h') : Sc env σ own X Y h' where
 eok := S.eok
 ns := let ⟨m, e⟩ := S.ns; ⟨m, k.2 m e⟩
 vars := fun x d e => let ⟨v, v1, v2⟩ := S.vars x d e; ⟨v, v1.kp S.eok k, v2.kp S.locX S.ttX k⟩
 own := fun x ds e => let ⟨a, vs, n, v1, v2, v3, w1, w2, w3, v4, v5⟩ := S.own x ds e; ⟨a, vs, n, v1.kp S.eok k, v2, v3, w1, w2, w3, k.1 _ _ v3 (zaq v2) v4, v5.kp S.locX S.ttX k⟩
 cel := fun x e => let ⟨c, v, e1, o, e2, e3⟩ := S.cel x e; ⟨c, v, e1, o, k.1 c o (S.eok.cells x c e1).2 (zaq (S.eok.cells x c e1).1) e2, e3⟩
 subY := S.subY
 live := fun a ha => by
  obtain ⟨o, e⟩ := S.live a ha
  by_cases h1 : a = env.locals
  ·subst h1
   obtain ⟨m, e⟩ := S.ns
   obtain ⟨o, _, _, e, _⟩ := k.2 m e
   exact ⟨o, e⟩
  ·by_cases h2 : a ∈ TT
   ·rcases List.mem_cons.mp h2 with rfl | h2
    ·obtain ⟨_, ps, e, _⟩ := B.t2; exact ⟨_, e⟩
    ·rcases List.mem_cons.mp h2 with rfl | h2
     ·obtain ⟨_, ps, e, _⟩ := B.t1; exact ⟨_, e⟩
     ·cases h2
   ·exact ⟨o, k.1 _ _ h1 h2 e⟩
 locX := S.locX
 celX := S.celX
 ttX := S.ttX
 ttY := S.ttY
 locY := S.locY
 celY := S.celY
end
inductive Kd where
 | froz | fresh | brw
 deriving DecidableEq
theorem zam {h : Heap} {a : Addr} (ha : h.objs.size <= a) : h.get? a = none := by
 cases e : h.get? a with
 | none => rfl
 | some o => exact absurd (Heap.lt_size e) (Nat.not_lt.mpr ha)
theorem RepA.push {X : List Addr} {h : Heap} {o : Obj} {vs : List Value} {ds : List D} (r : RepA X h vs ds) : RepA (h.objs.size :: X) (h.push o) vs ds :=
 (r.sub fun b o' hb e => (List.mem_cons.mp hb).elim (fun (q : b = h.objs.size) => by subst q; rw [zam (Nat.le_refl _)] at e; cases e) id).mono fun b o' _ e => Heap.get?_push_of_some _ e
noncomputable def Res (X Y : List Addr) (L : Addr) (h0 h : Heap) (v : Value) (d : D) : Kd -> Prop
 | .froz => Rep X h v d
 | .fresh => ∃ a vs n ds, v = .ref a /\ d = .lst ds /\ (227 < a /\ h0.get? a = none) /\ a ∉ X /\ h.get? a = some (zbz vs n) /\ RepA (a :: X) h vs ds
 | .brw => ∃ a vs n ds, v = .ref a /\ d = .lst ds /\ a ∉ TT /\ a ≠ L /\ a ∉ Y /\ h.get? a = some (zbz vs n) /\ RepA X h vs ds
section
variable {X Y : List Addr} {h0 h h' : Heap} {L : Addr} {v : Value} {d : D} {k : Kd}
theorem Res.rep (r : Res X Y L h0 h v d k) (hk : k ≠ .brw) : Rep X h v d := by
 cases k with
 | froz => exact r
 | fresh => obtain ⟨a, vs, n, ds, rfl, rfl, _, h1, h2, h3⟩ := r; exact .lst h1 h2 (h3.sub fun b o hb _ => .tail _ hb)
 | brw => exact absurd rfl hk
theorem Res.kp (r : Res X Y L h0 h v d k) (hL : L ∈ X) (ht : ∀ a ∈ TT, a ∈ X) (q : Kp L h h') : Res X Y L h0 h' v d k := by
 cases k with
 | froz => exact Rep.kp r hL ht q
 | fresh =>
  obtain ⟨a, vs, n, ds, rfl, rfl, h0, h1, h2, h3⟩ := r
  exact ⟨a, vs, n, ds, rfl, rfl, h0, h1, q.1 _ _ (fun e => h1 (e ▸ hL)) (fun e => h1 (ht _ e)) h2, h3.kp (.tail _ hL) (fun b hb => .tail _ (ht b hb)) q⟩
 | brw =>
  obtain ⟨a, vs, n, ds, rfl, rfl, h0, h1, hy, h2, h3⟩ := r
  exact ⟨a, vs, n, ds, rfl, rfl, h0, h1, hy, q.1 _ _ h1 h0 h2, h3.kp hL ht q⟩
theorem Res.from {g : Heap} (r : Res X Y L g h v d k) (hL : L ∈ X) (ht : ∀ a ∈ TT, a ∈ X) (q : Kp L h0 g) : Res X Y L h0 h v d k := by
 cases k with
 | froz => exact r
 | fresh =>
  obtain ⟨a, vs, n, ds, rfl, rfl, hn, h1, h2, h3⟩ := r
  refine ⟨a, vs, n, ds, rfl, rfl, ⟨hn.1, ?_⟩, h1, h2, h3⟩
  cases e : h0.get? a with
  | none => rfl
  | some o =>
   have := q.1 _ _ (fun (e : a = L) => h1 (e ▸ hL)) (fun e => h1 (ht _ e)) e
   rw [hn.2] at this; cases this
 | brw => exact r
theorem Res.repY (r : Res X Y L h0 h v d k) (hy : ∀ a ∈ Y, a ∈ X) : Rep Y h v d := by
 cases k with
 | froz => exact Rep.sub (fun b o hb _ => hy b hb) r
 | fresh => obtain ⟨a, vs, n, ds, rfl, rfl, _, h1, h2, h3⟩ := r; exact .lst (fun q => h1 (hy _ q)) h2 (h3.sub fun b o hb _ => .tail _ (hy b hb))
 | brw => obtain ⟨a, vs, n, ds, rfl, rfl, _, _, h1, h2, h3⟩ := r; exact .lst h1 h2 (h3.sub fun b o hb _ => hy b hb)
end
section
variable {X Y : List Addr} {h0 h h' : Heap} {L : Addr} {v : Value} {k : Kd}
noncomputable def VInv (X : List Addr) (h : Heap) (v : Value) : D -> Prop
 | .none => v = .none
 | .bool b => v = .bool b
 | .int i => ∃ t, v = .int i t
 | .flt x => ∃ t, v = .float x t
 | .str x => ∃ t, v = .str x t
 | .tup ds => ∃ a vs n, v = .ref a /\ h.get? a = some (zj6 vs n) /\ RepA X h vs ds
 | .lst ds => ∃ a vs n, v = .ref a /\ h.get? a = some (zbz vs n) /\ RepA X h vs ds
 | .any u => v = u /\ handedIn u = true
 | .rng a b c => ∃ r t u x, v = .ref r /\ IsRange h r a b c t u x
 | .dic l => ∃ a ks vs ds, v = .ref a /\ zy1 h a ks vs /\ RepA X h vs ds /\ l = ks.zip ds /\ ks.length = vs.length
 | .ins l => ∃ a dx od names vs ds, v = .ref a /\ h.get? a = some (instObj 100 dx) /\ h.get? dx = some od /\ InsD od names vs /\ RepA X h vs ds /\ l = names.zip ds /\ names.length = vs.length
 | .set l b => ∃ a o, v = .ref a /\ h.get? a = some o /\ zvl o l b
 | .rev ds => ∃ a o vs n, v = .ref a /\ h.get? a = some o /\ o.cls = .type "list" /\ o.data = .seq vs.toArray n /\ RepA X h vs ds
theorem Rep.inv {d : D} (r : Rep X h v d) : VInv X h v d :=
 Rep.casesOn (motive_1 := fun v d _ => VInv X h v d) r rfl (fun _ => rfl) (fun _ t => ⟨t, rfl⟩) (fun _ t => ⟨t, rfl⟩) (fun _ t => ⟨t, rfl⟩) (fun _ b c => ⟨_, _, _, rfl, b, c⟩) (fun _ b c => ⟨_, _, _, rfl, b, c⟩) (fun _ b => ⟨_, _, _, _, rfl, b⟩) (fun _ b c d e => ⟨_, _, _, _, rfl, b, c, d, e⟩)
  (fun _ _ b c d e f g => ⟨_, _, _, _, _, _, rfl, b, c, d, e, f, g⟩) (fun a => ⟨rfl, a⟩) (fun _ b c => ⟨_, _, rfl, b, c⟩) (fun _ b c d e => ⟨_, _, _, _, rfl, b, c, d, e⟩)
theorem Rep.nx {d : D} (r : Rep X h v d) : ∀ a, v = .ref a -> (∀ u, d ≠ .any u) -> a ∉ X :=
 Rep.casesOn (motive_1 := fun v d _ => ∀ a, v = .ref a -> (∀ u, d ≠ .any u) -> a ∉ X) r (fun _ e => nomatch e) (fun _ _ e => nomatch e) (fun _ _ _ e => nomatch e) (fun _ _ _ e => nomatch e) (fun _ _ _ e => nomatch e) (fun a _ _ _ e _ => Value.ref.inj e ▸ a) (fun a _ _ _ e _ => Value.ref.inj e ▸ a) (fun a _ _ e _ => Value.ref.inj e ▸ a) (fun a _ _ _ _ _ e _ => Value.ref.inj e ▸ a)
  (fun a _ _ _ _ _ _ _ _ e _ => Value.ref.inj e ▸ a) (fun _ _ _ n => absurd rfl (n _)) (fun a _ _ _ e _ => Value.ref.inj e ▸ a) (fun a _ _ _ _ _ e _ => Value.ref.inj e ▸ a)
theorem Res.inv {d : D} (r : Res X Y L h0 h v d k) : VInv X h v d := by
 cases k with
 | froz => exact Rep.inv r
 | fresh => obtain ⟨a, vs, n, ds, rfl, rfl, _, _, h2, h3⟩ := r; exact ⟨_, _, _, rfl, h2, h3.sub fun b o hb _ => .tail _ hb⟩
 | brw => obtain ⟨a, vs, n, ds, rfl, rfl, _, _, _, h2, h3⟩ := r; exact ⟨_, _, _, rfl, h2, h3⟩
theorem Res.list {ds : List D} (r : Res X Y L h0 h v (.lst ds) k) : ∃ a vs n, v = .ref a /\ h.get? a = some (zbz vs n) /\ RepA X h vs ds := r.inv
theorem Res.other {d : D} (r : Res X Y L h0 h v d k) (hd : ∀ ds, d ≠ .lst ds) : Rep X h v d := by
 cases k with
 | froz => exact r
 | fresh => obtain ⟨a, vs, n, ds, _, e, _⟩ := r; exact absurd e (hd _)
 | brw => obtain ⟨a, vs, n, ds, _, e, _⟩ := r; exact absurd e (hd _)
@[elab_as_elim] theorem Rep.int' {i : Int} {P : Value -> Prop} (r : Rep X h v (.int i)) (q : ∀ t, P (.int i t)) : P v := let ⟨t, e⟩ := r.inv; e ▸ q t
@[elab_as_elim] theorem Rep.str' {i : Str} {P : Value -> Prop} (r : Rep X h v (.str i)) (q : ∀ t, P (.str i t)) : P v := let ⟨t, e⟩ := r.inv; e ▸ q t
@[elab_as_elim] theorem Res.int' {i : Int} {P : Value -> Prop} (r : Res X Y L h0 h v (.int i) k) (q : ∀ t, P (.int i t)) : P v := let ⟨t, e⟩ := r.inv; e ▸ q t
@[elab_as_elim] theorem Res.flt' {i : UInt64} {P : Value -> Prop} (r : Res X Y L h0 h v (.flt i) k) (q : ∀ t, P (.float i t)) : P v := let ⟨t, e⟩ := r.inv; e ▸ q t
@[elab_as_elim] theorem Res.str' {i : Str} {P : Value -> Prop} (r : Res X Y L h0 h v (.str i) k) (q : ∀ t, P (.str i t)) : P v := let ⟨t, e⟩ := r.inv; e ▸ q t
@[elab_as_elim] theorem Res.bool' {i : Bool} {P : Value -> Prop} (r : Res X Y L h0 h v (.bool i) k) (q : P (.bool i)) : P v := (show v = _ from r.inv) ▸ q
@[elab_as_elim] theorem Res.lst' {ds : List D} {P : Value -> Prop} (r : Res X Y L h0 h v (.lst ds) k) (q : ∀ a vs n, h.get? a = some (zbz vs n) -> RepA X h vs ds -> P (.ref a)) : P v := by
 obtain ⟨a, vs, n, rfl, e, r⟩ := r.list
 exact q a vs n e r
@[elab_as_elim] theorem Res.tup' {ds : List D} {P : Value -> Prop} (r : Res X Y L h0 h v (.tup ds) k) (q : ∀ a vs n, h.get? a = some (zj6 vs n) -> RepA X h vs ds -> P (.ref a)) : P v := by
 obtain ⟨a, vs, n, rfl, e, r⟩ := r.inv
 exact q a vs n e r
@[elab_as_elim] theorem RepA.nil' {P : List Value -> Prop} {vs : List Value} (r : RepA X h vs []) (q : P []) : P vs := by cases r; exact q
@[elab_as_elim] theorem RepA.cons' {P : List Value -> Prop} {vs : List Value} {d : D} {ds : List D} (r : RepA X h vs (d :: ds)) (q : ∀ v vs, Rep X h v d -> RepA X h vs ds -> P (v :: vs)) : P vs := by cases r with | cons a b => exact q _ _ a b
@[elab_as_elim] theorem RepA.int2' {a b : Int} {P : List Value -> Prop} {vs : List Value} (r : RepA X h vs [.int a, .int b]) (q : ∀ t u, P [.int a t, .int b u]) : P vs :=
 r.cons' fun v vs x r => x.int' (P := fun v => P (v :: vs)) fun t => r.cons' (P := fun vs => P (.int a t :: vs)) fun v vs x r => x.int' (P := fun v => P (.int a t :: v :: vs)) fun u => r.nil' (P := fun vs => P (.int a t :: .int b u :: vs)) (q t u)
@[elab_as_elim] theorem RepA.int3' {a b c : Int} {P : List Value -> Prop} {vs : List Value} (r : RepA X h vs [.int a, .int b, .int c]) (q : ∀ t u x, P [.int a t, .int b u, .int c x]) : P vs :=
 r.cons' fun v vs x r => x.int' (P := fun v => P (v :: vs)) fun t => r.int2' (P := fun vs => P (.int a t :: vs)) fun u z => q t u z
theorem genQ {α : Type} {w : World} {A : Around} {t : Sem α} {P : α -> Shared -> Prop} {E : Value -> Shared -> Prop} {s : Shared} (h : ∀ Q : α -> Shared -> Prop, (∀ v s', P v s' -> Q v s') -> wpAny (model pg w) A t Q E s) : wpAny (model pg w) A t P E s := h P fun _ _ x => x
end
end
section
noncomputable def znn (a b : Int) : UInt64 := Float64.ofFrac (decide (a < 0) != decide (b < 0)) a.natAbs b.natAbs
noncomputable def zn1 (op : Operator) (a b : Int) : Option D := match op with
 | .Add => some (.int (a + b))
 | .Sub => some (.int (a - b))
 | .Mult => if Builtin.Int.intBits a <= 64 then some (.int (a * b)) else none
 | .FloorDiv => if b ≠ 0 /\ b.natAbs < 1073741824 then some (.int (a.fdiv b)) else none
 | .Mod => if b ≠ 0 then some (.int (a.fmod b)) else none
 | .Pow => if 0 <= b /\ (Builtin.Int.intBits a : Int) * b <= 2 ^ 27 then some (.int (a ^ b.toNat)) else none
 | .LShift => if 0 <= b /\ (Builtin.Int.intBits a : Int) + b <= 2 ^ 27 then some (.int (a * 2 ^ b.toNat)) else none
 | .RShift => if 0 <= b then some (.int (a.fdiv (2 ^ b.toNat))) else none
 | .BitAnd => some (.int (Builtin.bitAnd a b))
 | .BitOr => some (.int (Builtin.bitOr a b))
 | .BitXor => some (.int (Builtin.bitXor a b))
 | .Div => if b ≠ 0 /\ ¬ Float64.isInf (znn a b) = true then some (.flt (znn a b)) else none
 | _ => none
noncomputable def zym (op : Operator) (a b : UInt64) : Option D := match op with
 | .Add => some (.flt (Float64.add a b))
 | .Sub => some (.flt (Float64.sub a b))
 | .Mult => some (.flt (Float64.mul a b))
 | .Div => if Float64.isZero b = true then none else some (.flt (Float64.div a b))
 | .Mod => if Float64.isZero b = true then none else some (.flt (Float64.divmod a b).snd)
 | _ => none
noncomputable def zyl (op : Operator) (a : UInt64) (n : Int) : Option D := if n.natAbs < 2 ^ 1023 then (match op with
 | .Add => some (.flt (Float64.add a (Float64.ofInt n)))
 | .Sub => some (.flt (Float64.sub a (Float64.ofInt n)))
 | .Mult => some (.flt (Float64.mul a (Float64.ofInt n)))
 | _ => none) else none
noncomputable def zyk (op : Operator) (n : Int) (a : UInt64) : Option D := if n.natAbs < 2 ^ 1023 then (match op with
 | .Add => some (.flt (Float64.add (Float64.ofInt n) a))
 | .Sub => some (.flt (Float64.sub (Float64.ofInt n) a))
 | .Mult => some (.flt (Float64.mul (Float64.ofInt n) a))
 | _ => none) else none
noncomputable def zit (op : Operator) (a b : D) : Option (D × Kd) := match a, b with
 | .int a, .int b => (zn1 op a b).map (·, .froz)
 | .flt a, .flt b => (zym op a b).map (·, .froz)
 | .flt a, .int b => (zyl op a b).map (·, .froz)
 | .int a, .flt b => (zyk op a b).map (·, .froz)
 | .str x, .str y => (match op with
  | .Add => if x.length + y.length <= sizeLine then some (.str (x ++ y), .froz) else none
  | _ => none)
 | .str x, .int n => (match op with
  | .Mult => if x.length <= 1000 /\ n <= 1000 /\ -1000 <= n then some (.str (Txt.mul x n), .froz) else none
  | _ => none)
 | .lst x, .lst y => (match op with
  | .Add => if x.length + y.length <= sizeLine then some (.lst (x ++ y), .fresh) else none
  | _ => none)
 | .lst x, .int n => (match op with
  | .Mult => if x.length <= 1000 /\ n <= 1000 /\ -1000 <= n then some (.lst (List.replicate n.toNat x).flatten, .fresh) else none
  | _ => none)
 | _, _ => none
section
variable {w : World} {mb : Str -> Option Value} {A : Around} {L : Addr} {s : Shared} {X Y : List Addr} {h h' : Heap}
theorem RepA.length {vs : List Value} {ds : List D} (x : RepA X h vs ds) : vs.length = ds.length :=
 RepA.rec (motive_1 := fun _ _ _ => True) (motive_2 := fun vs ds _ => vs.length = ds.length) trivial (fun _ => trivial) (fun _ _ => trivial) (fun _ _ => trivial) (fun _ _ => trivial) (fun _ _ _ _ => trivial) (fun _ _ _ _ => trivial) (fun _ _ => trivial) (fun _ _ _ _ _ _ => trivial) (fun _ _ _ _ _ _ _ _ _ => trivial) (fun _ => trivial) (fun _ _ _ => trivial) (fun _ _ _ _ _ _ => trivial) rfl (fun _ _ _ a => congrArg (· + 1) a) x
theorem RepA.append {vs ws : List Value} {ds es : List D} (x : RepA X h vs ds) (y : RepA X h ws es) : RepA X h (vs ++ ws) (ds ++ es) :=
 RepA.rec (motive_1 := fun _ _ _ => True) (motive_2 := fun vs ds _ => RepA X h (vs ++ ws) (ds ++ es)) trivial (fun _ => trivial) (fun _ _ => trivial) (fun _ _ => trivial) (fun _ _ => trivial) (fun _ _ _ _ => trivial) (fun _ _ _ _ => trivial) (fun _ _ => trivial) (fun _ _ _ _ _ _ => trivial) (fun _ _ _ _ _ _ _ _ _ => trivial) (fun _ => trivial) (fun _ _ _ => trivial) (fun _ _ _ _ _ _ => trivial) y (fun a _ _ q => .cons a q) x
theorem RepA.flat {vs : List Value} {ds : List D} (x : RepA X h vs ds) : ∀ n : Nat, RepA X h (List.replicate n vs).flatten (List.replicate n ds).flatten
 | 0 => by simpa using RepA.nil
 | n + 1 => by
  rw [List.replicate_succ, List.replicate_succ, List.flatten_cons, List.flatten_cons]
  exact x.append (RepA.flat x n)
theorem zar {o : Obj} : ∀ b o', h.get? b = some o' -> (h.push o).get? b = some o' := fun _ _ e => Heap.get?_push_of_some _ e
theorem zdm {v : Value} {d : D} {tk : Nat} (B : Base w mb s.heap) (h : Rep X s.heap v d) : Post s (Kp L s.heap) (Base w mb) (fun v h' => Rep X h' v d) v { s with toks := tk } := ⟨s.heap, tk, rfl, .refl, B, h⟩
theorem zrk {op : Operator} {a b : Int} {t u : Tok} (hA : A.handled = none) (B : Base w mb s.heap) :
  zac (zn1 op a b) fun d => Tot w mb A L (binaryOp op (.int a t) (.int b u)) s (fun v h' => Rep X h' v d) := by
 cases op with
 | Add => exact .so ⟨add_int (zdm B (Rep.int ..))⟩
 | Sub => exact .so ⟨sub_int (zdm B (Rep.int ..))⟩
 | Mult => exact .ite fun hb => ⟨mul_int (zdm B (Rep.int ..)) (hm := IntMulOk.of_left hb)⟩
 | FloorDiv => exact .ite fun hb => ⟨floordiv_int hb.1 (zdm B (Rep.int ..)) (hp := .inl (PyProof.noPylong_small hb.2))⟩
 | Mod => exact .ite fun hb => ⟨mod_int' hb (zdm B (Rep.int ..))⟩
 | Pow => exact .ite fun hb => ⟨pow_int hb.1 hb.2 (zdm B (Rep.int ..))⟩
 | LShift => exact .ite fun hb => ⟨lshift_int hb.1 hb.2 (zdm B (Rep.int ..))⟩
 | RShift => exact .ite fun hb => ⟨rshift_int hb (zdm B (Rep.int ..))⟩
 | BitAnd => exact .so ⟨and_int (zdm B (Rep.int ..))⟩
 | BitOr => exact .so ⟨or_int (zdm B (Rep.int ..))⟩
 | BitXor => exact .so ⟨xor_int (zdm B (Rep.int ..))⟩
 | Div => exact .ite fun hb => ⟨PySem.Flt.div_ii hA (fun q => absurd q hb.1) (fun _ q => absurd q hb.2) (fun _ _ => zdm B (Rep.flt ..))⟩
 | MatMult => exact .no
theorem zil {op : Operator} {a b : Int} {t u : Tok} {d : D} (hA : A.handled = none) (e : zn1 op a b = some d) (B : Base w mb s.heap) :
  Tot w mb A L (binaryOp op (.int a t) (.int b u)) s (fun v h' => Rep X h' v d) := zrk hA B d e
theorem zux {op : Operator} {a b : UInt64} {t u : Tok} {d : D} (hA : A.handled = none) (e : zym op a b = some d) (B : Base w mb s.heap) :
  Tot w mb A L (binaryOp op (.float a t) (.float b u)) s (fun v h' => Rep X h' v d) :=
 (show zac (zym op a b) fun d => Tot w mb A L (binaryOp op (.float a t) (.float b u)) s (fun v h' => Rep X h' v d) from by
  cases op with
  | Add => exact .so ⟨add_float (zdm B (Rep.flt ..))⟩
  | Sub => exact .so ⟨sub_float (zdm B (Rep.flt ..))⟩
  | Mult => exact .so ⟨mul_float (zdm B (Rep.flt ..))⟩
  | Div => exact .ng fun hb => .so ⟨truediv_float_or hA (fun q => absurd q hb) (fun _ => zdm B (Rep.flt ..))⟩
  | Mod => exact .ng fun hb => .so ⟨AutoFloatOps.mod_1 hb (zdm B (Rep.flt ..))⟩
  | _ => exact .no) d e
theorem zuw {op : Operator} {a : UInt64} {n : Int} {t u : Tok} {d : D} (e : zyl op a n = some d) (B : Base w mb s.heap) :
  Tot w mb A L (binaryOp op (.float a t) (.int n u)) s (fun v h' => Rep X h' v d) :=
 (show zac (zyl op a n) fun d => Tot w mb A L (binaryOp op (.float a t) (.int n u)) s (fun v h' => Rep X h' v d) from .gd fun hf => by
  cases op with
  | Add => exact .so ⟨add_fi_fits hf (zdm B (Rep.flt ..))⟩
  | Sub => exact .so ⟨sub_fi_fits hf (zdm B (Rep.flt ..))⟩
  | Mult => exact .so ⟨mul_fi_fits hf (zdm B (Rep.flt ..))⟩
  | _ => exact .no) d e
theorem zuv {op : Operator} {a : UInt64} {n : Int} {t u : Tok} {d : D} (e : zyk op n a = some d) (B : Base w mb s.heap) :
  Tot w mb A L (binaryOp op (.int n u) (.float a t)) s (fun v h' => Rep X h' v d) :=
 (show zac (zyk op n a) fun d => Tot w mb A L (binaryOp op (.int n u) (.float a t)) s (fun v h' => Rep X h' v d) from .gd fun hf => by
  cases op with
  | Add => exact .so ⟨add_if_fits hf (zdm B (Rep.flt ..))⟩
  | Sub => exact .so ⟨sub_if_fits hf (zdm B (Rep.flt ..))⟩
  | Mult => exact .so ⟨mul_if_fits hf (zdm B (Rep.flt ..))⟩
  | _ => exact .no) d e
theorem mulOk {x : Str} {n : Int} (h1 : x.length <= 1000) (h2 : n <= 1000) (h3 : -1000 <= n) : MulOk x n := by
 refine ⟨?_, ?_, ?_⟩
 ·rw [Bool.or_eq_false_iff]; exact ⟨decide_eq_false (by lia), decide_eq_false (by lia)⟩
 ·intro a b c
  have : (1000 : Int) <= (2 ^ 63 - 1) / n := by
   rw [Int.le_ediv_iff_mul_le (by lia)]; lia
  lia
 ·intro a b
  unfold Builtin.Str.tooLong
  refine decide_eq_false ?_
  have h4 : n.toNat <= 1000 := by lia
  have : x.length * n.toNat <= 1000 * 1000 := Nat.mul_le_mul h1 h4
  rw [PySem.sizeLine_eq]; lia
noncomputable abbrev TotF (w : World) (mb : Str -> Option Value) (A : Around) (L : Addr) (X : List Addr) (t : Sem Value) (s : Shared) (r : D × Kd) : Prop := Tot w mb A L t s (fun v h' => Rep X h' v r.1) /\ r.2 = .froz
theorem zrj {op : Operator} {x y : Str} {t u : Tok} {d : D} {k : Kd} (e : zit op (.str x) (.str y) = some (d, k)) (B : Base w mb s.heap) :
  Tot w mb A L (binaryOp op (.str x t) (.str y u)) s (fun v h' => Rep X h' v d) /\ k = .froz :=
 (show zac (zit op (.str x) (.str y)) (TotF w mb A L X (binaryOp op (.str x t) (.str y u)) s) from by
  cases op with
  | Add => exact .ite fun hz => ⟨⟨add_str (fun t' tk => zdm B (Rep.str ..)) hz⟩, rfl⟩
  | _ => exact .no) (d, k) e
theorem zus {op : Operator} {x : Str} {n : Int} {t u : Tok} {d : D} {k : Kd} (e : zit op (.str x) (.int n) = some (d, k)) (B : Base w mb s.heap) :
  Tot w mb A L (binaryOp op (.str x t) (.int n u)) s (fun v h' => Rep X h' v d) /\ k = .froz :=
 (show zac (zit op (.str x) (.int n)) (TotF w mb A L X (binaryOp op (.str x t) (.int n u)) s) from by
  cases op with
  | Mult => exact .ite fun hz => ⟨⟨SB.mul (mulOk hz.1 hz.2.1 hz.2.2) (fun t' tk => zdm B (Rep.str ..))⟩, rfl⟩
  | _ => exact .no) (d, k) e
theorem zqn (l : List (Array Value)) : ∀ a : Array Value, (List.foldl (fun x1 x2 => x1 ++ x2) a l).toList = a.toList ++ (l.map (·.toList)).flatten := by
 induction l with
 | nil => intro a; simp
 | cons b r ih => intro a; simp [List.foldl_cons, ih, List.append_assoc]
theorem z0s (vs : List Value) (n : Nat) : (List.foldl (fun x1 x2 => x1 ++ x2) #[] (List.replicate (if vs.toArray.isEmpty = true then 0 else n) vs.toArray)) = ((List.replicate n vs).flatten).toArray := by
 apply Array.toList_inj.mp
 rw [zqn]
 cases vs with
 | nil => simp
 | cons v r => simp
theorem finL {o : Obj} {vs : List Value} {ds : List D} {tk : Nat} (B : Base w mb s.heap) (hX : ∀ a ∈ X, ∃ o, s.heap.get? a = some o) (he : o = zbz vs 0) (r : RepA (s.heap.objs.size :: X) (s.heap.push o) vs ds) :
  Post s (Kp L s.heap) (Base w mb) (fun v h' => Res X Y L s.heap h' v (.lst ds) .fresh) (.ref s.heap.objs.size) { s with heap := s.heap.push o, toks := tk } :=
 ⟨_, _, rfl, .of zar, B.keeps zar, _, vs, 0, _, rfl, rfl, ⟨B.low, zam (Nat.le_refl _)⟩, fun q => let ⟨_, e⟩ := hX _ q; Nat.lt_irrefl _ (Heap.lt_size e), he ▸ Heap.get?_push_size s.heap (o := zbz vs 0) rfl, r⟩
theorem zut {op : Operator} {x y : List D} {a b : Value} {k1 k2 k : Kd} {d : D} {h0 h1 : Heap} (e : zit op (.lst x) (.lst y) = some (d, k)) (B : Base w mb s.heap) (hX : ∀ a ∈ X, ∃ o, s.heap.get? a = some o)
  (ra : Res X Y L h0 s.heap a (.lst x) k1) (rb : Res X Y L h1 s.heap b (.lst y) k2) :
  Tot w mb A L (binaryOp op a b) s (fun v h' => Res X Y L s.heap h' v d k) :=
 ra.lst' fun p vs n e1 r1 => rb.lst' fun q ws n2 e2 r2 =>
 (show zac (zit op (.lst x) (.lst y)) fun r => Tot w mb A L (binaryOp op (.ref p) (.ref q)) s (fun v h' => Res X Y L s.heap h' v r.1 r.2) from by
  cases op with
  | Add => exact .ite fun hz => ⟨P.add_list e1 e2 (finL (vs := vs ++ ws) B hX (by simp) (r1.push.append r2.push)) (by rw [List.size_toArray, List.size_toArray, r1.length, r2.length]; exact hz)⟩
  | _ => exact .no) (d, k) e
theorem zox {x : List D} {n : Int} (hz : x.length <= 1000 /\ n <= 1000 /\ -1000 <= n) : x.length * n.toNat <= 2 ^ 24 :=
 Nat.le_trans (Nat.mul_le_mul hz.1 (by lia : n.toNat <= 1000)) (by decide)
theorem zuu {op : Operator} {x : List D} {a : Value} {n : Int} {u : Tok} {k1 k : Kd} {d : D} {h0 : Heap} (e : zit op (.lst x) (.int n) = some (d, k)) (B : Base w mb s.heap) (hX : ∀ a ∈ X, ∃ o, s.heap.get? a = some o)
  (ra : Res X Y L h0 s.heap a (.lst x) k1) : Tot w mb A L (binaryOp op a (.int n u)) s (fun v h' => Res X Y L s.heap h' v d k) :=
 ra.lst' fun p vs c e1 r1 =>
 (show zac (zit op (.lst x) (.int n)) fun r => Tot w mb A L (binaryOp op (.ref p) (.int n u)) s (fun v h' => Res X Y L s.heap h' v r.1 r.2) from by
  cases op with
  | Mult =>
   refine .ite fun hz => ⟨?_⟩
   have hsz : vs.toArray.size * n.toNat <= 2 ^ 24 := by rw [List.size_toArray, r1.length]; exact zox hz
   refine wpAny_binaryOp_repeat_ref (T := "list") (U := "int") (by decide) ⟨_, e1, rfl⟩ (fun s' => typeIs_int s' n u) noFill_list_mul F.fills_int_mul F.slot_int_rmul repeat_list F.slot_int_index.lookup
    (call_meets F.slot_int_rmul (typeIs_int s n u) F.entry_int_rmul (F.args_int_rmul_2 _ _) (int___rmul___int_list n u p vs.toArray c)
     ⟨e1, rfl, ⟨_, e1, rfl⟩, call_meets F.slot_list_mul ⟨_, e1, rfl⟩ F.entry_list_mul (F.args_list_mul_2 _ _)
      (AutoListH.list___mul___list_int_3 p vs.toArray c n u (by simp [Builtin.List.listFitsIndex]; lia) (by lia) (by simp [Builtin.List.listTooLong, sizeLine] at hsz ⊢; lia))
      ⟨e1, ?_⟩⟩)
   exact finL (vs := (List.replicate n.toNat vs).flatten) B hX (by rw [z0s]) (r1.push.flat _)
  | _ => exact .no) (d, k) e
end
end
section
mutual
noncomputable def ziq : D -> Option PyData
 | .none => some .none
 | .bool b => some (.bool b)
 | .int i => some (.int i)
 | .str x => some (.str x)
 | .tup l => (zcl l).map .tuple
 | .lst l => (zcl l).map .list
 | _ => Option.none
noncomputable def zcl : List D -> Option (List PyData)
 | [] => some []
 | d :: r => match ziq d, zcl r with
  | some p, some q => some (p :: q)
  | _, _ => Option.none
end
section
variable {X Y : List Addr} {h : Heap}
theorem zg6 {v : Value} {vs : List Value} {d : D} {ds : List D} (a : zac (ziq d) fun p => ∃ as, Reads h v p as) (b : zac (zcl ds) fun ps => ∃ as, ReadsAll h vs ps as) : zac (zcl (d :: ds)) fun ps => ∃ as, ReadsAll h (v :: vs) ps as := by
 show zac (match ziq d, zcl ds with | some p, some q => some (p :: q) | _, _ => none) _
 cases h1 : ziq d with
 | none => exact .no
 | some p =>
  cases h2 : zcl ds with
  | none => exact .no
  | some q =>
   obtain ⟨as, r1⟩ := a p h1
   obtain ⟨bs, r2⟩ := b q h2
   exact .so ⟨_, .cons r1 r2⟩
theorem zmt {v : Value} {d : D} {p : PyData} (x : Rep X h v d) (e : ziq d = some p) : ∃ as, Reads h v p as :=
 Rep.rec (motive_1 := fun v d _ => zac (ziq d) fun p => ∃ as, Reads h v p as) (motive_2 := fun vs ds _ => zac (zcl ds) fun ps => ∃ as, ReadsAll h vs ps as) (.so ⟨_, .none⟩) (fun b => .so ⟨_, .bool b⟩) (fun i t => .so ⟨_, .int i t⟩) (fun _ _ => .no) (fun x t => .so ⟨_, .str x t⟩)
  (fun _ b _ c => .map fun q e => let ⟨_, r⟩ := c q e; ⟨_, .tuple b rfl rfl r⟩) (fun _ b _ c => .map fun q e => let ⟨_, r⟩ := c q e; ⟨_, .list b rfl rfl r⟩) (fun _ _ => .no) (fun _ _ _ _ _ _ => .no) (fun _ _ _ _ _ _ _ _ _ => .no) (fun _ => .no) (fun _ _ _ => .no) (fun _ _ _ _ _ _ => .no)
  (.so ⟨_, .nil⟩) (fun _ _ => zg6) x p e
theorem zft {vs : List Value} {ds : List D} {ps : List PyData} (x : RepA X h vs ds) (e : zcl ds = some ps) : ∃ as, ReadsAll h vs ps as :=
 RepA.rec (motive_1 := fun v d _ => zac (ziq d) fun p => ∃ as, Reads h v p as) (motive_2 := fun vs ds _ => zac (zcl ds) fun ps => ∃ as, ReadsAll h vs ps as) (.so ⟨_, .none⟩) (fun b => .so ⟨_, .bool b⟩) (fun i t => .so ⟨_, .int i t⟩) (fun _ _ => .no) (fun x t => .so ⟨_, .str x t⟩)
  (fun _ b _ c => .map fun q e => let ⟨_, r⟩ := c q e; ⟨_, .tuple b rfl rfl r⟩) (fun _ b _ c => .map fun q e => let ⟨_, r⟩ := c q e; ⟨_, .list b rfl rfl r⟩) (fun _ _ => .no) (fun _ _ _ _ _ _ => .no) (fun _ _ _ _ _ _ _ _ _ => .no) (fun _ => .no) (fun _ _ _ => .no) (fun _ _ _ _ _ _ => .no)
  (.so ⟨_, .nil⟩) (fun _ _ => zg6) x ps e
theorem Res.reads {L : Addr} {h0 : Heap} {v : Value} {d : D} {k : Kd} {p : PyData} (r : Res X Y L h0 h v d k) (e : ziq d = some p) : ∃ as, Reads h v p as := by
 cases k with
 | froz => exact zmt r e
 | fresh =>
  obtain ⟨a, vs, n, ds, rfl, rfl, _, _, e1, r1⟩ := r
  exact (show zac ((zcl ds).map PyData.list) fun p => ∃ as, Reads h (.ref a) p as from .map fun q e => let ⟨_, r⟩ := zft r1 e; ⟨_, .list e1 rfl rfl r⟩) p e
 | brw =>
  obtain ⟨a, vs, n, ds, rfl, rfl, _, _, _, e1, r1⟩ := r
  exact (show zac ((zcl ds).map PyData.list) fun p => ∃ as, Reads h (.ref a) p as from .map fun q e => let ⟨_, r⟩ := zft r1 e; ⟨_, .list e1 rfl rfl r⟩) p e
end
noncomputable def zdp : List D -> Option (List Int)
 | [] => some []
 | .int i :: r => (zdp r).map (i :: ·)
 | _ => none
theorem zcu {X : List Addr} {h : Heap} {vs : List Value} {ds : List D} {ns : List Int} (r : RepA X h vs ds) (e : zdp ds = some ns) : IntsAre vs ns := by
 induction ds generalizing vs ns with
 | nil => exact r.nil' (Option.some.inj e ▸ .nil)
 | cons d ds ih =>
  cases d with
  | int i => exact r.cons' fun v vs a r => a.int' fun t => (show zac ((zdp ds).map (i :: ·)) fun ns => IntsAre (.int i t :: vs) ns from .map fun q e => .cons i t (ih r e)) ns e
  | _ => exact zaf e
noncomputable def zir (a b : D) : Option Bool := match ziq a, ziq b with
 | some p, some q => if SeqAt.shaped p = true /\ SeqAt.shaped q = true then some (PyData.eqv p q) else none
 | _, _ => none
noncomputable def eqG (op : CmpOp) (a b : D) : Option Bool := match op with
 | .Eq => zir a b
 | .NotEq => (zir a b).map (!·)
 | _ => none
noncomputable def znv (op : CmpOp) (a b : D) : Option Bool := match a, b with
 | .int a, .int b => (match op with
  | .Eq => some (a == b)
  | .NotEq => some (a != b)
  | .Lt => some (decide (a < b))
  | .LtE => some (decide (a <= b))
  | .Gt => some (decide (b < a))
  | .GtE => some (decide (a ≥ b))
  | _ => none)
 | .flt a, .flt b => (match op with
  | .Eq => some (Float64.cmp a b == some Ordering.eq)
  | .NotEq => some (Float64.cmp a b != some Ordering.eq)
  | .Lt => some (Float64.cmp a b == some Ordering.lt)
  | .LtE => some (Float64.cmp a b == some Ordering.lt || Float64.cmp a b == some Ordering.eq)
  | _ => none)
 | .int a, .lst l => (match op with
  | .In => (zdp l).map fun ns => ns.any (· == a)
  | _ => none)
 | .lst x, .lst y => (match op with
  | .Eq => if x.length = y.length then zir (.lst x) (.lst y) else some false
  | op => eqG op (.lst x) (.lst y))
 | a, b => eqG op a b
section
variable {w : World} {mb : Str -> Option Value} {A : Around} {L : Addr} {s : Shared} {X Y : List Addr}
theorem zjl {α : Type} {P : α -> Prop} {v : α} {tk : Nat} (B : Base w mb s.heap) (h : P v) : Post s (Kp L s.heap) (Base w mb) (fun v _ => P v) v { s with toks := tk } := ⟨s.heap, tk, rfl, .refl, B, h⟩
noncomputable abbrev z2s (w : World) (mb : Str -> Option Value) (A : Around) (L : Addr) (s : Shared) (op : CmpOp) (u v : Value) (r : Bool) : Prop := Tot w mb A L (compareOp op u v) s (fun x _ => x = .bool r)
theorem zkx {a b : D} {u v : Value} {k1 k2 : Kd} {h0 h1 : Heap} {r : Bool} (e : zir a b = some r) (B : Base w mb s.heap) (hu : A.units + 64 < cLine)
  (ra : Res X Y L h0 s.heap u a k1) (rb : Res X Y L h1 s.heap v b k2) :
  Tot w mb A L (compareOp .Eq u v) s (fun x _ => x = .bool r) /\ Tot w mb A L (compareOp .NotEq u v) s (fun x _ => x = .bool (!r)) :=
 (show zac (zir a b) fun r => z2s w mb A L s .Eq u v r /\ z2s w mb A L s .NotEq u v (!r) from by
  unfold zir
  cases e1 : ziq a with
  | none => exact .no
  | some p =>
   cases e2 : ziq b with
   | none => exact .no
   | some q =>
    refine .ite fun hs => ?_
    obtain ⟨as, r1⟩ := ra.reads e1
    obtain ⟨bs, r2⟩ := rb.reads e2
    exact ⟨⟨eq_dataH r1 r2 hs.1 hs.2 hu (zjl B rfl)⟩, ⟨ne_dataH r1 r2 hs.1 hs.2 hu (zjl B rfl)⟩⟩) r e
theorem zx4 {op : CmpOp} {a b : D} {u v : Value} {k1 k2 : Kd} {h0 h1 : Heap} (B : Base w mb s.heap) (hu : A.units + 64 < cLine)
  (ra : Res X Y L h0 s.heap u a k1) (rb : Res X Y L h1 s.heap v b k2) : zac (eqG op a b) (z2s w mb A L s op u v) := by
 cases op with
 | Eq => exact fun r e => (zkx e B hu ra rb).1
 | NotEq => exact .map fun r e => (zkx e B hu ra rb).2
 | _ => exact .no
theorem zuh {op : CmpOp} {a b : D} {u v : Value} {k1 k2 : Kd} {h0 h1 : Heap} (B : Base w mb s.heap) (hu : A.units + 64 < cLine)
  (ra : Res X Y L h0 s.heap u a k1) (rb : Res X Y L h1 s.heap v b k2) : zac (znv op a b) (z2s w mb A L s op u v) := by
 have g : zac (eqG op a b) (z2s w mb A L s op u v) := zx4 B hu ra rb
 cases a with
 | int i =>
  cases b with
  | int j =>
   refine ra.int' fun t => rb.int' fun t2 => ?_
   clear g
   cases op with
   | Eq => exact .so ⟨eq_int (zjl B rfl)⟩
   | NotEq => exact .so ⟨ne_int (zjl B rfl)⟩
   | Lt => exact .so ⟨lt_int (zjl B rfl)⟩
   | LtE => exact .so ⟨le_int (zjl B rfl)⟩
   | Gt => exact .so ⟨gt_int (zjl B rfl)⟩
   | GtE => exact .so ⟨ge_int (zjl B rfl)⟩
   | _ => exact .no
  | lst l =>
   refine ra.int' fun t => rb.lst' fun p vs n e1 r1 => ?_
   clear g
   cases op with
   | In => exact .map fun ns e => ⟨in_list_ints ⟨_, e1, rfl, _, rfl⟩ (zcu r1 e) (zjl B rfl)⟩
   | _ => exact .no
  | _ => exact g
 | flt i =>
  cases b with
  | flt j =>
   refine ra.flt' fun t => rb.flt' fun t2 => ?_
   clear g
   cases op with
   | Eq => exact .so ⟨AutoFloatOps.eq_0 (zjl B rfl)⟩
   | NotEq => exact .so ⟨AutoFloatOps.ne_0 (zjl B rfl)⟩
   | Lt => exact .so ⟨AutoFloatOps.lt_0 (zjl B rfl)⟩
   | LtE => exact .so ⟨AutoFloatOps.le_0 (zjl B rfl)⟩
   | _ => exact .no
  | _ => exact g
 | lst x =>
  cases b with
  | lst y =>
   cases op with
   | Eq =>
    refine .two (fun _ r e => (zkx e B hu ra rb).1) fun hne => .so ?_
    refine ra.lst' fun p vs n e1 r1 => rb.lst' fun q ws m e2 r2 => ⟨P.eq_list_lengths (items := vs.toArray) (items2 := ws.toArray) e1 e2 ?_ (by lia) (zjl B rfl)⟩
    rw [List.size_toArray, List.size_toArray, r1.length, r2.length]
    simpa using hne
   | _ => exact g
  | _ => exact g
 | _ => exact g
theorem zq2 {op : CmpOp} {a b : D} {u v : Value} {k1 k2 : Kd} {h0 h1 : Heap} {r : Bool} (e : znv op a b = some r) (B : Base w mb s.heap) (hu : A.units + 64 < cLine)
  (ra : Res X Y L h0 s.heap u a k1) (rb : Res X Y L h1 s.heap v b k2) : Tot w mb A L (compareOp op u v) s (fun x _ => x = .bool r) := zuh B hu ra rb r e
noncomputable def zan : D -> Option Bool
 | .bool b => some b
 | .int i => some (i != 0)
 | .lst l => if l.length <= sizeLine then some (!l.isEmpty) else none
 | _ => none
theorem zfs {d : D} {v : Value} {k : Kd} {h0 : Heap} {r : Bool} (e : zan d = some r) (B : Base w mb s.heap) (rd : Res X Y L h0 s.heap v d k) : Tot w mb A L (truthy v) s (fun x _ => x = r) :=
 (show zac (zan d) fun r => Tot w mb A L (truthy v) s (fun x _ => x = r) from by
  cases d with
  | bool b => exact rd.bool' (.so ⟨wpAny_truthy_bool (zjl B rfl)⟩)
  | int i => exact rd.int' fun t => .so ⟨truthy_int (zjl B rfl)⟩
  | lst l =>
   refine .ite fun hz => rd.lst' fun p vs n e1 r1 => ⟨?_⟩
   have hl := r1.length
   rw [PySem.sizeLine_eq] at hz
   refine wpAny_truthy_list ⟨_, e1, rfl, _, rfl⟩ (by rw [List.size_toArray, hl]; lia) (zjl B ?_)
   rw [List.isEmpty_toArray]
   clear r1 e1 rd hz
   cases vs <;> cases l <;> first | rfl | cases hl
  | _ => exact .no) r e
end
end
section
noncomputable def zjy (l : List D) (k : Int) : Option D :=
 if 0 <= k then (if k < 2 ^ 62 then l[k.toNat]? else none)
 else if -(l.length : Int) <= k /\ -(2 ^ 62) <= k then l[(k + l.length).toNat]? else none
noncomputable def zh4 (o i : D) : Option D := match o, i with
 | .lst l, .int k => zjy l k
 | .tup l, .int k => zjy l k
 | .dic l, .int k => l.lookup k
 | _, _ => none
noncomputable def zds (l : List D) (lo hi : Option Int) : Option D := if l.length <= sizeLine then (match lo, hi with
  | some a, none => if 0 <= a then some (.lst (l.drop a.toNat)) else none
  | none, some b => if 0 <= b then some (.lst (l.take b.toNat)) else none
  | _, _ => none) else none
noncomputable def zda (o : D) (lo hi : Option Int) : Option D := match o with
 | .lst l => zds l lo hi
 | .rev l => zds l lo hi
 | _ => none
section
variable {w : World} {mb : Str -> Option Value} {A : Around} {L : Addr} {s : Shared} {X Y : List Addr} {h : Heap}
theorem RepA.get {vs : List Value} {ds : List D} (x : RepA X h vs ds) {i : Nat} {d : D} (e : ds[i]? = some d) : ∃ v, vs[i]? = some v /\ Rep X h v d := by
 induction ds generalizing vs i with
 | nil => cases e
 | cons d0 ds ih =>
  refine x.cons' fun v vs a r => ?_
  cases i with
  | zero => cases e; exact ⟨_, rfl, a⟩
  | succ i => exact ih r e
theorem RepA.take {vs : List Value} {ds : List D} (x : RepA X h vs ds) (n : Nat) : RepA X h (vs.take n) (ds.take n) := by
 induction ds generalizing vs n with
 | nil => exact x.nil' (by simpa using RepA.nil)
 | cons d0 ds ih =>
  refine x.cons' fun v vs a r => ?_
  cases n with
  | zero => exact .nil
  | succ n => exact .cons a (ih r n)
theorem RepA.drop {vs : List Value} {ds : List D} (x : RepA X h vs ds) (n : Nat) : RepA X h (vs.drop n) (ds.drop n) := by
 induction ds generalizing vs n with
 | nil => exact x.nil' (by simpa using RepA.nil)
 | cons d0 ds ih =>
  refine x.cons' fun v vs a r => ?_
  cases n with
  | zero => exact .cons a r
  | succ n => exact ih r n
theorem zhw {k : Int} {n : Nat} (h0 : 0 <= k) (h1 : k < n) : seqIndex? k n = some k.toNat := by
 unfold seqIndex?
 have : ¬ k < 0 := by lia
 simp [this, h0, h1]
theorem zc7 {slice : PySem.Expr} {o i : Value} (hs : ∀ a b c d, slice ≠ .Slice a b c d) : subscripted slice false o i = operate [o, i] (getItem o i) := by
 cases slice <;> first | rfl | exact absurd rfl (hs _ _ _ _)
noncomputable abbrev zyu (w : World) (mb : Str -> Option Value) (A : Around) (L : Addr) (X : List Addr) (s : Shared) (value slice : PySem.Expr) (u v : Value) (d : D) : Prop := Tot w mb A L (subscriptTail value slice u v) s (fun v h' => Rep X h' v d)
theorem zqf {value slice : PySem.Expr} {a : Addr} {vs : List Value} {n : Nat} {l : List D} {k : Int} {t : Tok} (hs : ∀ a b c d, slice ≠ .Slice a b c d) (B : Base w mb s.heap)
  (e1 : s.heap.get? a = some (zbz vs n)) (r : RepA X s.heap vs l) : zac (zjy l k) (zyu w mb A L X s value slice (.ref a) (.int k t)) := by
 have hl : s.heap.IsList a vs.toArray := ⟨_, e1, rfl, _, rfl⟩
 have hz : vs.toArray.size = l.length := by rw [List.size_toArray, r.length]
 refine .two (fun h0 => .gd fun h1 d e => ?_) fun h0 => .gd fun h1 d e => ?_
 ·obtain ⟨v, hv, rv⟩ := r.get e
  exact ⟨tail_any hl.typeIs slot_list_getitem.lookup (wpAny_getItem_list hl h0 (by lia) (by simpa using hv) (zdm B rv)) (zc7 hs)⟩
 ·obtain ⟨v, hv, rv⟩ := r.get e
  exact ⟨tail_any hl.typeIs slot_list_getitem.lookup (wpAny_getItem_list_neg hl (by lia) (by rw [hz]; exact h1.1) (by lia) (by rw [hz]; simpa using hv) (zdm B rv)) (zc7 hs)⟩
theorem zta {value slice : PySem.Expr} {a : Addr} {vs : List Value} {n : Nat} {l : List D} {k : Int} {t : Tok} (hs : ∀ a b c d, slice ≠ .Slice a b c d) (B : Base w mb s.heap)
  (e1 : s.heap.get? a = some (zj6 vs n)) (r : RepA X s.heap vs l) : zac (zjy l k) (zyu w mb A L X s value slice (.ref a) (.int k t)) := by
 have hl : IsTup s.heap a vs.toArray := ⟨_, e1, rfl, _, rfl⟩
 have hz : vs.toArray.size = l.length := by rw [List.size_toArray, r.length]
 refine .two (fun h0 => .gd fun h1 d e => ?_) fun h0 => .gd fun h1 d e => ?_
 ·obtain ⟨v, hv, rv⟩ := r.get e
  have hlt : k.toNat < l.length := (List.getElem?_eq_some_iff.mp e).1
  exact ⟨tail_any hl.typeIs slot_tuple_getitem.lookup (getItem_tuple hl (by lia) (by lia) (j := k.toNat) (by rw [hz]; exact zhw h0 (by lia)) (by simpa using hv) (zdm B rv)) (zc7 hs)⟩
 ·obtain ⟨v, hv, rv⟩ := r.get e
  exact ⟨tail_any hl.typeIs slot_tuple_getitem.lookup (getItem_tuple hl (by lia) (by lia) (j := (k + l.length).toNat) (by rw [hz]; exact seqIndex_neg (by lia) h1.1) (by simpa using hv) (zdm B rv)) (zc7 hs)⟩
theorem zmp {k : Int} {d : D} {ks : List Int} {vs : List Value} {ds : List D} (x : RepA X h vs ds) (e : (ks.zip ds).lookup k = some d) : ∃ v, (ks.zip vs).lookup k = some v /\ Rep X h v d := by
 induction ds generalizing vs ks with
 | nil => rw [List.zip_nil_right] at e; cases e
 | cons d0 ds ih =>
  refine x.cons' fun v vs a r => ?_
  cases ks with
  | nil => cases e
  | cons k0 ks =>
   rw [List.zip_cons_cons, List.lookup_cons] at e ⊢
   cases hb : k == k0 with
   | true => rw [hb] at e; exact ⟨v, rfl, Option.some.inj e ▸ a⟩
   | false => rw [hb] at e; exact ih r e
theorem zs6 {value slice : PySem.Expr} {o i d : D} {u v : Value} {k1 k2 : Kd} {h0 h1 : Heap} (hs : ∀ a b c d, slice ≠ .Slice a b c d) (e : zh4 o i = some d) (B : Base w mb s.heap)
  (ro : Res X Y L h0 s.heap u o k1) (ri : Res X Y L h1 s.heap v i k2) : Tot w mb A L (subscriptTail value slice u v) s (fun v h' => Rep X h' v d) :=
 (show zac (zh4 o i) (zyu w mb A L X s value slice u v) from by
  cases o with
  | lst l =>
   cases i with
   | int k => exact ri.int' fun t => ro.lst' fun a vs n e1 r1 => zqf hs B e1 r1
   | _ => exact .no
  | tup l =>
   cases i with
   | int k => exact ri.int' fun t => ro.tup' fun a vs n e1 r1 => zta hs B e1 r1
   | _ => exact .no
  | dic l =>
   cases i with
   | int k =>
    refine ri.int' fun t d e => ?_
    ·obtain ⟨a, ks, vs, ds, rfl, hm, r1, rfl, hn⟩ := ro.inv
     obtain ⟨v, hv, rv⟩ := zmp r1 e
     exact ⟨tail_any (Heap.IntMap.typeIs hm) slot_dict_getitem.lookup (wpAny_getItem_intMap hm hv (zdm B rv)) (zc7 hs)⟩
   | _ => exact .no
  | _ => exact .no) d e
theorem zi1 {value : PySem.Expr} {p : Pos} {lower upper : Option PySem.Expr} {o d : D} {lo hi : Option Int} {u v1 v2 : Value} {k : Kd} {h0 : Heap} (e : zda o lo hi = some d) (B : Base w mb s.heap) (hX : ∀ a ∈ X, ∃ o, s.heap.get? a = some o)
  (ro : Res X Y L h0 s.heap u o k) (p1 : IsPart v1 lo) (p2 : IsPart v2 hi) :
  Tot w mb A L (subscriptTail value (.Slice lower upper none p) u (.ref s.heap.objs.size)) { s with heap := s.heap.push { cls := .type "slice", data := .fields #[v1, v2, .none] } } (fun v h' => Res X Y L s.heap h' v d .fresh) := by
 have key : ∀ {l : List D} {a : Addr} {vs : List Value}, s.heap.IsList a vs.toArray -> RepA X s.heap vs l -> zds l lo hi = some d -> Tot w mb A L (subscriptTail value (.Slice lower upper none p) (.ref a) (.ref s.heap.objs.size)) { s with heap := s.heap.push { cls := .type "slice", data := .fields #[v1, v2, .none] } } (fun v h' => Res X Y L s.heap h' v d .fresh) := by
  clear ro e
  intro l a vs hl0 r1
  generalize hH : s.heap.push { cls := .type "slice", data := .fields #[v1, v2, .none] } = H
  have up : ∀ b o, s.heap.get? b = some o -> H.get? b = some o := fun b o q => hH ▸ Heap.get?_push_of_some _ q
  have hsl : H.IsSliceOf s.heap.objs.size v1 v2 .none := hH ▸ Heap.IsSliceOf.new ..
  have hl : H.IsList a vs.toArray := let ⟨o, q1, q2⟩ := hl0; ⟨o, up _ _ q1, q2⟩
  have hS : s.heap.objs.size <= H.objs.size := by rw [<- hH, Heap.size_push]; exact Nat.le_succ _
  have r2 := r1.mono fun b o _ => up b o
  have hlen := r1.length
  have B' := B.keeps up
  have low := Nat.lt_of_lt_of_le B.low hS
  have new : H.objs.size ∉ X := fun q => let ⟨_, e⟩ := hX _ q; absurd hS (Nat.not_le.mpr (Heap.lt_size e))
  have old : s.heap.get? H.objs.size = none := zam hS
  clear hH hl0 r1 hX
  have fin : l.length <= sizeLine -> ∀ ws : List Value, ∀ es : List D, RepA X H ws es -> slicePick vs.toArray lo hi none = ws.toArray ->
    Tot w mb A L (subscriptTail value (.Slice lower upper none p) (.ref a) (.ref s.heap.objs.size)) { s with heap := H } (fun v h' => Res X Y L s.heap h' v (.lst es) .fresh) := fun hz ws es r2 e2 =>
   ⟨tail_any (ops := [.ref s.heap.objs.size, .ref a]) (s := { s with heap := H }) hl.typeIs slot_list_getitem.lookup (wpAny_getItem_list_slice hl hsl p1 p2 .none (by simp) (by
    rw [e2]
    exact ⟨_, _, rfl, .of zar, B'.keeps zar, _, ws, 0, _, rfl, rfl, ⟨low, old⟩, new, Heap.get?_push_size H rfl, r2.push⟩) (by rw [List.size_toArray, hlen]; exact hz)) rfl⟩
  clear hl hsl p1 p2 low old new B' up hS
  refine fun e => (show zac (zds l lo hi) fun d => Tot w mb A L (subscriptTail value (.Slice lower upper none p) (.ref a) (.ref s.heap.objs.size)) { s with heap := H } (fun v h' => Res X Y L s.heap h' v d .fresh) from .gd fun hz => ?_) d e
  cases lo with
  | none =>
   cases hi with
   | none => exact .no
   | some i =>
    refine .ite fun hi0 => fin hz (vs.take i.toNat) _ (r2.take _) ?_
    have := slicePick_upto' vs.toArray i.toNat
    rw [Int.toNat_of_nonneg hi0] at this
    simpa using this
  | some i =>
   cases hi with
   | none =>
    refine .ite fun hi0 => fin hz (vs.drop i.toNat) _ (r2.drop _) ?_
    have := slicePick_from' vs.toArray i.toNat
    rw [Int.toNat_of_nonneg hi0] at this
    simpa using this
   | some => exact .no
 cases o with
 | lst l => exact ro.lst' fun a vs n e1 r1 => key ⟨_, e1, rfl, _, rfl⟩ r1 e
 | rev l => obtain ⟨a, o, vs, n, rfl, h2, h3, h4, h5⟩ := ro.inv; exact key ⟨_, h2, h3, _, h4⟩ h5 e
 | _ => exact zaf e
end
end
section
section
variable {w : World} {mb : Str -> Option Value} {A : Around} {L : Addr} {s : Shared} {X Y : List Addr} {h : Heap} {env : Env}
theorem zbl.load {x : Str} {v : Value} {Q : Value -> Shared -> Prop} {E : Value -> Shared -> Prop} (O : EnvOk env) (V : zbl env s.heap x v) (hx : (x == ("__classdict__" : Str)) = false) (h : Q v s) :
  wpAny (model pg w) A (loadName env x) Q E s := by
 rcases V with ⟨k, m, n, e⟩ | ⟨k, c, e, ce⟩
 ·exact wpAny_loadName_local O.kind k n e h
 ·rcases k with k | k
  ·exact wpAny_loadName_cell O.kind k e ce h
  ·exact wpAny_loadName_free O.kind k e ce h hx
theorem Tot.name {x : Str} {pos : Pos} {v : Value} {Q : Value -> Heap -> Prop} (O : EnvOk env) (B : Base w mb s.heap) (V : zbl env s.heap x v) (hx : (x == ("__classdict__" : Str)) = false) (hd : (x == ("__debug__" : Str)) = false)
  (q : Q v s.heap) : Tot w mb A L (eval (.Name x pos) env) s Q :=
 ⟨wpAny_Name (V.load O hx ⟨_, _, rfl, .refl, B, q⟩) hd⟩
theorem zd8 {x : Str} {v : Value} {Q : Value -> Shared -> Prop} {E : Value -> Shared -> Prop} (O : EnvOk env) (B : Base w mb s.heap) (hk : env.kindOf x = some .globalImplicit)
  (e : nsIn (KK w) mainGlobals x = some (some v)) (hd : (x == ("__debug__" : Str)) = false) {pos : Pos} (q : Q v s) : wpAny (model pg w) A (eval (.Name x pos) env) Q E s := by
 refine Name_function_global O.kind hk ?_ hd
 unfold loadGlobal
 rw [O.glob]
 refine wpAny_bind ((looks_nsIn (M := model pg w) B.k e).here ?_)
 exact wpAny_pure q
theorem zl1 {x : Str} {v : Value} {Q : Value -> Shared -> Prop} {E : Value -> Shared -> Prop} (O : EnvOk env) (B : Base w mb s.heap) (hk : env.kindOf x = some .globalImplicit)
  (e : nsIn (KK w) mainGlobals x = some none) (eb : bootBuiltins x = some v) (hn : x ≠ "__name__") (hd : (x == ("__debug__" : Str)) = false) {pos : Pos} (q : Q v s) : wpAny (model pg w) A (eval (.Name x pos) env) Q E s := by
 refine Name_function_global O.kind hk ?_ hd
 unfold loadGlobal
 rw [O.glob, O.blt]
 refine wpAny_bind ((looks_nsIn (M := model pg w) B.k e).here ?_)
 refine wpAny_bind (wpAny_nsGet B.b ?_)
 rw [B.mb x hn, eb]
 exact wpAny_pure q
inductive ArgA (X Y : List Addr) (L : Addr) (h : Heap) : List Value -> List (D × Kd) -> Prop
 | nil : ArgA X Y L h [] []
 | cons {h0 : Heap} {v : Value} {vs : List Value} {d : D} {k : Kd} {r : List (D × Kd)} : Res X Y L h0 h v d k -> ArgA X Y L h vs r -> ArgA X Y L h (v :: vs) ((d, k) :: r)
theorem ArgA.rep : ∀ {vs : List Value} {r : List (D × Kd)}, ArgA X Y L h vs r -> (∀ p ∈ r, p.2 ≠ Kd.brw) -> RepA X h vs (r.map (·.1))
 | _, _, .nil, _ => .nil
 | _, _, .cons a r, hk => .cons (a.rep (hk _ (.head _))) (ArgA.rep r fun p hp => hk p (.tail _ hp))
theorem ArgA.length : ∀ {vs : List Value} {r : List (D × Kd)}, ArgA X Y L h vs r -> vs.length = r.length
 | _, _, .nil => rfl
 | _, _, .cons a r => by rw [List.length_cons, List.length_cons, ArgA.length r]
@[elab_as_elim] theorem ArgA.nil' {P : List Value -> Prop} {L : Addr} {h : Heap} {vs : List Value} (r : ArgA X Y L h vs []) (q : P []) : P vs := by cases r; exact q
@[elab_as_elim] theorem ArgA.cons' {P : List Value -> Prop} {L : Addr} {h : Heap} {vs : List Value} {d : D} {k : Kd} {l : List (D × Kd)} (r : ArgA X Y L h vs ((d, k) :: l)) (q : ∀ h0 v vs, Res X Y L h0 h v d k -> ArgA X Y L h vs l -> P (v :: vs)) : P vs := by cases r with | cons a b => exact q _ _ _ a b
@[elab_as_elim] theorem ArgA.one' {P : List Value -> Prop} {L : Addr} {h : Heap} {vs : List Value} {d : D} {k : Kd} (r : ArgA X Y L h vs [(d, k)]) (q : ∀ h0 v, Res X Y L h0 h v d k -> P [v]) : P vs := r.cons' fun h0 v _ a b => b.nil' (P := fun vs => P (v :: vs)) (q h0 v a)
@[elab_as_elim] theorem ArgA.two' {P : List Value -> Prop} {L : Addr} {h : Heap} {vs : List Value} {d e : D} {k j : Kd} (r : ArgA X Y L h vs [(d, k), (e, j)]) (q : ∀ h0 v h1 u, Res X Y L h0 h v d k -> Res X Y L h1 h u e j -> P [v, u]) : P vs := r.cons' fun h0 v _ a b => b.one' (P := fun vs => P (v :: vs)) fun h1 u c => q h0 v h1 u a c
@[elab_as_elim] theorem ArgA.three' {P : List Value -> Prop} {L : Addr} {h : Heap} {vs : List Value} {d e f : D} {k j i : Kd} (r : ArgA X Y L h vs [(d, k), (e, j), (f, i)]) (q : ∀ h0 v h1 u h2 z, Res X Y L h0 h v d k -> Res X Y L h1 h u e j -> Res X Y L h2 h z f i -> P [v, u, z]) : P vs := r.cons' fun h0 v _ a b => b.two' (P := fun vs => P (v :: vs)) fun h1 u h2 z c d => q h0 v h1 u h2 z a c d
theorem zcm {e : PySem.Expr} {rest : List PySem.Expr} (he : ∀ a b, e ≠ .Starred a b) : starEach (e :: rest) env = (false, eval e env) :: starEach rest env := by
 cases e <;> first | rfl | exact absurd rfl (he _ _)
theorem zas {f : Value} {es : List PySem.Expr} {pos : Pos} {Q : Args -> Shared -> Prop} {E : Value -> Shared -> Prop} (he : ∀ e ∈ es, ∀ a b, e ≠ .Starred a b)
  (h : wpAny (model pg w) A (spliced (backTo pos (starEach es env))) (fun vs s' => Q ⟨vs, []⟩ s') E s) : wpAny (model pg w) A (evalArgs f true (backTo pos (starEach es env)) (backToKw pos (keywordEach [] env))) Q E s := by
 cases es with
 | nil =>
  unfold evalArgs
  show wpAny _ A (spliced [] >>= _) Q E s
  refine wpAny_bind (wpAny_mono h (fun vs s' h' => ?_) fun _ _ x => x)
  refine wpAny_bind (wpAny_pure ?_)
  refine wpAny_holding ?_
  exact wpAny_bind (wpAny_pure (wpAny_bind (wpAny_pure (wpAny_pure h'))))
 | cons e r =>
  rw [zcm (he e (.head _))] at h ⊢
  exact evalArgs_plain h
theorem za0 {es : List PySem.Expr} : ∀ {pos : Pos}, (∀ e ∈ es, ∀ a b, e ≠ PySem.Expr.Starred a b) -> (backTo pos (starEach es env)).any (·.1) = false := by
 induction es with
 | nil =>
  intro _ _
  exact rfl
 | cons e r IH =>
  intro pos he
  rw [zcm (he e (.head _))]
  have := IH (pos := pos) fun e hm => he e (.tail _ hm)
  simpa [backTo] using this
theorem zbb {pos : Pos} {f : Value} {first : List Value} {args : List (Bool × Sem Value)} {Q : Value -> Shared -> Prop} {E : Value -> Shared -> Prop} (hf : ∀ a, f ≠ .ref a) (hplain : args.any (·.1) = false)
  (h : wpAny (model pg w) A (evalArgs f true args []) (fun a s₁ => wpAny (model pg w) A (call f (first ++ a.pos) a.kw) Q E s₁) E s) :
  wpAny (model pg w) A (callWith pos f first args []) Q E s := by
 unfold callWith
 refine wpAny_bind (wpAny_holding (wpAny_mono h (fun a s₁ h₁ => wpAny_bind (wpAny_standAt ?_)) fun _ _ x => x))
 simp only [hplain, List.any_nil, Bool.or_false]
 have hk : keeperOf f = pure .machine := by
  cases f <;> first | rfl | exact absurd rfl (hf _)
 rw [hk]
 refine wpAny_bind (wpAny_pure ?_)
 exact wpAny_bind (wpAny_mono h₁ (fun r s₂ hr => wpAny_bind (wpAny_holding (wpAny_point (wpAny_pure hr)))) fun _ _ x => x)
end
end
section
noncomputable def Chg (X : List Addr) (h h' : Heap) : Prop := ∀ b o, b ∉ X -> h.get? b = some o -> h'.get? b = some o
structure TotX (w : World) (mb : Str -> Option Value) (A : Around) (X : List Addr) {α : Type} (t : Sem α) (s : Shared) (Q : α -> Heap -> Prop) : Prop where
 run : wpAny (model pg w) A t (Post s (Chg X s.heap) (Base w mb) Q) (fun _ _ => False) s
section
variable {w : World} {mb : Str -> Option Value} {A : Around} {L : Addr} {s : Shared} {X Y : List Addr} {h h' h'' : Heap} {env : Env} {σ : List (Str × D)} {own : Option (Str × List D)} {α β : Type}
theorem Chg.refl : Chg X h h := fun _ _ _ e => e
theorem Chg.trans (x : Chg X h h') (y : Chg X h' h'') : Chg X h h'' := fun b o hb e => y b o hb (x b o hb e)
theorem TotX.use {t : Sem α} {Q : α -> Heap -> Prop} {R : α -> Shared -> Prop} {E : Value -> Shared -> Prop} (x : TotX w mb A X t s Q)
  (k : ∀ v h' tk, Chg X s.heap h' -> Base w mb h' -> Q v h' -> R v { s with heap := h', toks := tk }) : wpAny (model pg w) A t R E s :=
 wpAny_mono x.run (fun v s' h => by obtain ⟨h', tk, rfl, h1, h2, h3⟩ := h; exact k v h' tk h1 h2 h3) fun _ _ f => f.elim
theorem TotX.mono {t : Sem α} {Q R : α -> Heap -> Prop} (x : TotX w mb A X t s Q) (k : ∀ v h', Chg X s.heap h' -> Base w mb h' -> Q v h' -> R v h') : TotX w mb A X t s R :=
 ⟨x.use fun v h' tk k1 b1 q1 => ⟨h', tk, rfl, k1, b1, k v h' k1 b1 q1⟩⟩
theorem zbl.but {x : Str} {v : Value} {a : Addr} (V : zbl env h x v) (hs : Heap.SameBut a h h') (h1 : a ≠ env.locals) (h2 : ∀ y c, env.cells.lookup y = some c -> c ≠ a) : zbl env h' x v := by
 rcases V with ⟨k, m, n, e⟩ | ⟨k, c, e, ce⟩
 ·exact .inl ⟨k, m, n.sameBut hs (Ne.symm h1), e⟩
 ·exact .inr ⟨k, c, e, ce.sameBut hs (h2 _ _ e)⟩
noncomputable def WOk (env : Env) (W : List Addr) (x : Str) : Prop := (env.kindOf x = some .local -> env.locals ∈ W) /\ (env.kindOf x = some .cell -> ∀ c, env.cells.lookup x = some c -> c ∈ W)
theorem Sc.wok (S : Sc env σ own X Y h) (x : Str) : WOk env X x := ⟨fun _ => S.locX, fun _ c e => S.celX x c e⟩
noncomputable def rm (σ : List (Str × D)) (x : Str) : List (Str × D) := σ.filter fun p => !(p.1 == x)
set_option tactic.hygienic true in
theorem zi3 {x y : Str} {d : D} {σ : List (Str × D)} : (rm σ x).lookup y = some d -> y ≠ x /\ σ.lookup y = some d := by
 induction σ with
 | nil =>
  intro e
  cases e
 | cons p0 r IH =>
  obtain ⟨z, e0⟩ := p0
  intro e
  unfold rm at e
  rw [List.filter_cons] at e
  rw [List.lookup_cons]
  split at e
  ·rename_i hz
   rw [List.lookup_cons] at e
   cases hb : y == z with
   | true => rw [hb] at e; refine ⟨?_, e⟩; have := beq_iff_eq.mp hb; subst this; simpa using hz
   | false => rw [hb] at e; exact IH e
  ·rename_i hz
   obtain ⟨h1, h2⟩ := IH e
   have hzx : z = x := by simpa using hz
   have : (y == z) = false := by rw [hzx]; simpa using h1
   rw [this]
   exact ⟨h1, h2⟩
theorem Sc.put {W : List Addr} {x : Str} {v : Value} (S : Sc env σ own X Y s.heap) (B : Base w mb s.heap) (hk : env.kindOf x = some .local ∨ env.kindOf x = some .cell) (ho : ∀ ds, own ≠ some (x, ds)) (hW : WOk env W x) :
  TotX w mb A W (storeName env x v) s (fun _ h' => Sc env (rm σ x) own X Y h' /\ zbl env h' x v) := by
 constructor
 have hcl : ∀ y c, env.cells.lookup y = some c -> c ≠ env.locals := fun y c e => (S.eok.cells y c e).2
 rcases hk with hk | hk
 ·obtain ⟨m, n⟩ := S.ns
  refine wpAny_storeName_local hk n (fun h' hn hs => ?_) (by rw [S.eok.kind]; rfl)
  have ext : ∀ b o, b ≠ env.locals -> s.heap.get? b = some o -> h'.get? b = some o := hs.extBut
  have chg : Chg X s.heap h' := fun b o hb e => ext b o (fun q => hb (q ▸ S.locX)) e
  refine ⟨h', _, rfl, (fun b o hb e => ext b o (fun q => hb (q ▸ hW.1 hk)) e), B.but ext S.eok.low (fun o vs e q => ?_), ?_⟩
  ·exfalso
   obtain ⟨o', es, ep, e1, e2, _⟩ := n
   rw [e1] at e; cases e; rw [e2] at q; cases q
  have other : ∀ y u, y ≠ x -> zbl env s.heap y u -> zbl env h' y u := by
   intro y u hy V
   rcases V with ⟨k, m2, n2, e⟩ | ⟨k, c, e, ce⟩
   ·refine .inl ⟨k, _, hn, ?_⟩
    have : m y = m2 y := by
     obtain ⟨o1, es1, ep1, a1, a2, a3, a4⟩ := n
     obtain ⟨o2, es2, ep2, b1, b2, b3, b4⟩ := n2
     rw [a1] at b1; cases b1
     rw [a2] at b2; cases b2
     rw [<- a4 y, <- b4 y]
    show (if y = x then some v else m y) = some u
    rw [if_neg hy, this]; exact e
   ·exact .inr ⟨k, c, e, ce.sameBut hs (hcl _ _ e)⟩
  refine ⟨?_, .inl ⟨hk, _, hn, by show (if x = x then some v else m x) = some v; rw [if_pos rfl]⟩⟩
  exact {
   eok := S.eok
   ns := ⟨_, hn⟩
   cel := fun y e => let ⟨c, u, e1, e2⟩ := S.cel y e; ⟨c, u, e1, e2.sameBut hs (hcl _ _ e1)⟩
   vars := fun y e he => by
    obtain ⟨hy, he⟩ := zi3 he
    obtain ⟨u, u1, u2⟩ := S.vars y e he
    exact ⟨u, other y u hy u1, u2.mono chg⟩
   own := fun y ds e => by
    obtain ⟨a, vs, n', v1, v2, v3, w1, w2, w3, v4, v5⟩ := S.own y ds e
    exact ⟨a, vs, n', other y _ (fun q => ho ds (q ▸ e)) v1, v2, v3, w1, w2, w3, ext _ _ v3 v4, v5.mono chg⟩
   live := fun a ha => by
    by_cases q : a = env.locals
    ·obtain ⟨o, _, _, e, _⟩ := hn; exact ⟨o, q ▸ e⟩
    ·obtain ⟨o, e⟩ := S.live a ha; exact ⟨o, ext _ _ q e⟩
   locX := S.locX
   celX := S.celX
   ttX := S.ttX
   ttY := S.ttY
   locY := S.locY
   celY := S.celY
   subY := S.subY }
 ·obtain ⟨c, v0, e1, e2⟩ := S.cel x hk
  refine wpAny_storeName_cell S.eok.kind hk e1 e2 fun h' hc hs => ?_
  have ext : ∀ b o, b ≠ c -> s.heap.get? b = some o -> h'.get? b = some o := hs.extBut
  have chg : Chg X s.heap h' := fun b o hb e => ext b o (fun q => hb (q ▸ S.celX x c e1)) e
  have hcL : c ≠ env.locals := hcl _ _ e1
  refine ⟨h', _, rfl, (fun b o hb e => ext b o (fun q => hb (q ▸ hW.2 hk c e1)) e), B.but ext (S.eok.cells x c e1).1 (fun o vs e q => ?_), ?_⟩
  ·exfalso
   obtain ⟨o', f1, f2⟩ := e2
   rw [f1] at e; cases e; rw [f2] at q; cases q
  have other : ∀ y u, y ≠ x -> zbl env s.heap y u -> zbl env h' y u := by
   intro y u hy V
   rcases V with ⟨k, m2, n2, e⟩ | ⟨k, c', e, ce⟩
   ·exact .inl ⟨k, m2, n2.sameBut hs (Ne.symm hcL), e⟩
   ·exact .inr ⟨k, c', e, ce.sameBut hs (fun q => hy (S.eok.apart y x c (q ▸ e) e1))⟩
  refine ⟨?_, .inr ⟨.inl hk, c, e1, hc⟩⟩
  exact {
   eok := S.eok
   ns := let ⟨m, n⟩ := S.ns; ⟨m, n.sameBut hs (Ne.symm hcL)⟩
   cel := fun y e => by
    obtain ⟨c', u, f1, f2⟩ := S.cel y e
    by_cases q : c' = c
    ·subst q; exact ⟨c', _, f1, hc⟩
    ·exact ⟨c', u, f1, f2.sameBut hs q⟩
   vars := fun y e he => by
    obtain ⟨hy, he⟩ := zi3 he
    obtain ⟨u, u1, u2⟩ := S.vars y e he
    exact ⟨u, other y u hy u1, u2.mono chg⟩
   own := fun y ds e => by
    obtain ⟨a, vs, n', v1, v2, v3, w1, w2, w3, v4, v5⟩ := S.own y ds e
    exact ⟨a, vs, n', other y _ (fun q => ho ds (q ▸ e)) v1, v2, v3, w1, w2, w3, ext _ _ (Ne.symm (w2 _ _ e1)) v4, v5.mono chg⟩
   live := fun a ha => by
    by_cases q : a = c
    ·obtain ⟨o, e, _⟩ := hc; exact ⟨o, q ▸ e⟩
    ·obtain ⟨o, e⟩ := S.live a ha; exact ⟨o, ext _ _ q e⟩
   locX := S.locX
   celX := S.celX
   ttX := S.ttX
   ttY := S.ttY
   locY := S.locY
   celY := S.celY
   subY := S.subY }
theorem Sc.store {W : List Addr} {x : Str} {v : Value} {d : D} (S : Sc env σ own X Y s.heap) (B : Base w mb s.heap) (hk : env.kindOf x = some .local ∨ env.kindOf x = some .cell) (r : Rep X s.heap v d) (ho : ∀ ds, own ≠ some (x, ds)) (hW : WOk env W x) (hWX : ∀ a ∈ W, a ∈ X) :
  TotX w mb A W (storeName env x v) s (fun _ h' => Sc env ((x, d) :: σ) own X Y h') := by
 refine TotX.mono (S.put B hk ho hW) fun _ h' ch _ hs => ?_
 obtain ⟨S', V⟩ := hs
 have hv : ∀ y e, ((x, d) :: σ).lookup y = some e -> ∃ v, zbl env h' y v /\ Rep X h' v e := by
      intro y e he
      rw [List.lookup_cons] at he
      cases hb : y == x with
      | true =>
       rw [hb] at he; cases he
       have hyx : y = x := beq_iff_eq.mp hb
       subst hyx
       exact ⟨v, V, r.mono fun b o hb e => ch b o (fun q => hb (hWX b q)) e⟩
      | false =>
       rw [hb] at he
       refine S'.vars y e ?_
       have hyx : y ≠ x := by intro q; simp [q] at hb
       have keep : ∀ σ : List (Str × D), σ.lookup y = some e -> (rm σ x).lookup y = some e := by
        intro σ
        induction σ with
        | nil => intro q; cases q
        | cons p r ih =>
         intro q
         obtain ⟨z, e0⟩ := p
         unfold rm
         rw [List.filter_cons]
         rw [List.lookup_cons] at q
         cases hz : y == z with
         | true =>
          rw [hz] at q
          have := beq_iff_eq.mp hz; subst this
          have : (!(y == x)) = true := by simpa using hyx
          rw [if_pos this, List.lookup_cons, hz]; exact q
         | false =>
          rw [hz] at q
          split
          ·rw [List.lookup_cons, hz]; exact ih q
          ·exact ih q
       exact keep σ he
 exact { S' with vars := hv }
end
end
section
noncomputable def put : List (Str × D) -> Str -> D -> List (Str × D)
 | [], x, d => [(x, d)]
 | (y, e) :: r, x, d => if x == y then (y, d) :: r else (y, e) :: put r x d
theorem zbv (x : Str) (d : D) (y : Str) : ∀ σ : List (Str × D), (put σ x d).lookup y = ((x, d) :: σ).lookup y
 | [] => rfl
 | (z, e) :: r => by
  unfold put
  cases h : x == z with
  | true =>
   have hz : x = z := beq_iff_eq.mp h
   subst hz
   simp only [if_true, List.lookup_cons]
   cases hy : y == x <;> simp
  | false =>
   simp only [Bool.false_eq_true, if_false, List.lookup_cons]
   cases hy : y == z with
   | true =>
    have hz : y = z := beq_iff_eq.mp hy
    subst hz
    have : (y == x) = false := by
     cases q : y == x with
     | false => rfl
     | true => rw [beq_iff_eq.mp q] at h; simp at h
    simp [this]
   | false =>
    have := zbv x d y r
    simp only [List.lookup_cons] at this
    rw [this]
noncomputable abbrev Kf := Str -> Option NameKind
noncomputable def zgr (kf : Kf) (own : Option (Str × List D)) (σ : List (Str × D)) (e : PySem.Expr) (d : D) : Option (List (Str × D)) := match e with
 | .Name x _ => if (kf x = some .local ∨ kf x = some .cell) /\ own.map (·.1) ≠ some x then some (put σ x d) else none
 | _ => none
noncomputable def zgq (kf : Kf) (own : Option (Str × List D)) : List (Str × D) -> List PySem.Expr -> List D -> Option (List (Str × D))
 | σ, [], [] => some σ
 | σ, e :: es, d :: ds => match zgr kf own σ e d with
  | some σ' => zgq kf own σ' es ds
  | none => none
 | _, _, _ => none
noncomputable def za8 (kf : Kf) (own : Option (Str × List D)) (σ : List (Str × D)) (e : PySem.Expr) (d : D) : Option (List (Str × D)) := match e with
 | .Tuple es _ _ => (match d with
  | .tup ds => zgq kf own σ es ds
  | _ => none)
 | e => zgr kf own σ e d
section
variable {w : World} {mb : Str -> Option Value} {A : Around} {L : Addr} {s : Shared} {X Y : List Addr} {h h' h'' : Heap} {env : Env} {σ σ' : List (Str × D)} {own : Option (Str × List D)}
theorem Sc.sig (S : Sc env σ own X Y h) (e : ∀ y, σ'.lookup y = σ.lookup y) : Sc env σ' own X Y h :=
 { S with vars := fun x d q => S.vars x d (e x ▸ q) }
noncomputable def zd3 : PySem.Expr -> List Str
 | .Name x _ => [x]
 | .Tuple es _ _ => es.filterMap fun e => match e with | .Name x _ => some x | _ => none
 | _ => []
theorem zmk {W : List Addr} {e : PySem.Expr} {d : D} {v : Value} (q : zgr env.kindOf own σ e d = some σ') (S : Sc env σ own X Y s.heap) (B : Base w mb s.heap) (r : Rep X s.heap v d) (hWX : ∀ a ∈ W, a ∈ X) (hW : ∀ x ∈ zd3 e, WOk env W x) :
  TotX w mb A W (assign e env v) s (fun _ h' => Sc env σ' own X Y h') :=
 (show zac (zgr env.kindOf own σ e d) fun σ' => TotX w mb A W (assign e env v) s (fun _ h' => Sc env σ' own X Y h') from by
  cases e with
  | Name x pos => exact .ite fun hk => ⟨wpAny_assign_Name (TotX.run <| TotX.mono (S.store B hk.1 r (fun ds e => hk.2 (by rw [e]; rfl)) (hW x (List.Mem.head [])) hWX) fun _ h' _ _ S' => S'.sig fun y => zbv x d y σ)⟩
  | _ => exact .no) σ' q
theorem zhn {e : PySem.Expr} {d : D} (q : zgr env.kindOf own σ e d = some σ') : ∃ x p, e = .Name x p := by
 cases e with
 | Name x pos => exact ⟨_, _, rfl⟩
 | _ => exact zaf q
theorem zgp {kf : Kf} {ds : List D} (q : zgq kf own σ [] ds = some σ') : ds = [] /\ σ = σ' := by
 cases ds with
 | nil => exact ⟨rfl, Option.some.inj q⟩
 | cons => exact zaf q
theorem zew {kf : Kf} {e : PySem.Expr} {es : List PySem.Expr} {ds : List D} (q : zgq kf own σ (e :: es) ds = some σ') : ∃ d ds' σ1, ds = d :: ds' /\ zgr kf own σ e d = some σ1 /\ zgq kf own σ1 es ds' = some σ' := by
 cases ds with
 | nil => exact zaf q
 | cons d ds =>
  refine (show zac (zgq kf own σ (e :: es) (d :: ds)) fun σ' => ∃ d' ds' σ1, d :: ds = d' :: ds' /\ zgr kf own σ e d' = some σ1 /\ zgq kf own σ1 es ds' = some σ' from ?_) σ' q
  show zac (match zgr kf own σ e d with | some σ' => zgq kf own σ' es ds | none => none) _
  rcases h : zgr kf own σ e d with _ | σ1
  ·exact .no
  ·exact fun σ' q => ⟨d, ds, σ1, rfl, h, q⟩
theorem zur {W : List Addr} (hWX : ∀ a ∈ W, a ∈ X) {es : List PySem.Expr} : ∀ {ds : List D} {vs : List Value} {σ : List (Str × D)} {s : Shared}, zgq env.kindOf own σ es ds = some σ' -> Sc env σ own X Y s.heap -> Base w mb s.heap -> RepA X s.heap vs ds -> (∀ x p, PySem.Expr.Name x p ∈ es -> WOk env W x) ->
  TotX w mb A W (assignInOrder ((assignEach es env).map (·.2)) vs) s (fun _ h' => Sc env σ' own X Y h') := by
 induction es with
 | nil =>
  intro ds vs σ s q S B r hW
  obtain ⟨rfl, rfl⟩ := zgp q
  exact r.nil' ⟨wpAny_assignInOrder_none ⟨_, _, rfl, .refl, B, S⟩⟩
 | cons e es ih =>
  intro ds vs σ s q S B r hW
  obtain ⟨d, ds, σ1, rfl, q1, q2⟩ := zew q
  obtain ⟨x, p, rfl⟩ := zhn q1
  refine r.cons' fun v vs r1 r2 => TotX.mk (show wpAny (model pg w) A (assignInOrder (assign (.Name x p) env :: (assignEach es env).map (·.2)) (v :: vs)) _ _ s from wpAny_assignInOrder_more (TotX.use (zmk q1 S B r1 hWX (fun y hy => by rcases List.mem_singleton.mp hy with rfl; exact hW _ p (.head _))) fun _ h1 tk1 k1 b1 S1 => ?_))
  exact (ih q2 S1 b1 (r2.mono fun b o hb e => k1 b o (fun m => hb (hWX b m)) e) (fun y p hy => hW y p (.tail _ hy))).use fun _ h2 tk2 k2 b2 S2 => ⟨h2, tk2, rfl, k1.trans k2, b2, S2⟩
theorem zlf {es : List PySem.Expr} : ∀ {ds : List D} {σ : List (Str × D)}, zgq env.kindOf own σ es ds = some σ' -> (assignEach es env).length = ds.length /\ (assignEach es env).findIdx? (·.1) = none := by
 induction es with
 | nil =>
  intro ds σ q
  obtain ⟨rfl, rfl⟩ := zgp q
  exact ⟨rfl, rfl⟩
 | cons e es ih =>
  intro ds σ q
  obtain ⟨d, ds, σ1, rfl, q1, q2⟩ := zew q
  obtain ⟨x, p, rfl⟩ := zhn q1
  obtain ⟨a, b⟩ := ih q2
  refine ⟨congrArg (· + 1) a, ?_⟩
  show ((false, assign (.Name x p) env) :: assignEach es env).findIdx? (·.1) = none
  rw [List.findIdx?_cons]
  simp [b]
theorem zik {W : List Addr} {e : PySem.Expr} {d : D} {v : Value} (hh : A.handled = none) (q : za8 env.kindOf own σ e d = some σ') (S : Sc env σ own X Y s.heap) (B : Base w mb s.heap) (r : Rep X s.heap v d) (hWX : ∀ a ∈ W, a ∈ X) (hW : ∀ x ∈ zd3 e, WOk env W x) :
  TotX w mb A W (assign e env v) s (fun _ h' => Sc env σ' own X Y h') := by
 cases e with
 | Tuple es n p =>
  cases d with
  | tup ds =>
   obtain ⟨a, vs, c, rfl, e1, r1⟩ := r.inv
   obtain ⟨n1, n2⟩ := zlf (es := es) q
   exact ⟨wpAny_assign_Tuple hh ⟨_, e1, rfl, _, rfl⟩ (by rw [n1, List.size_toArray, r1.length]) n2 fun h' he =>
    have keep : ∀ b o, s.heap.get? b = some o -> h'.get? b = some o := fun b o e => he b o (Nat.ne_of_lt (Heap.lt_size e)) e
    (zur (s := { s with heap := h' }) (es := es) hWX q (S.kp (.of keep) (B.keeps keep)) (B.keeps keep) (r1.mono fun b o _ e => keep b o e) (fun x p hx => hW x (List.mem_filterMap.mpr ⟨_, hx, rfl⟩))).use fun _ h2 tk2 k2 b2 S2 => ⟨h2, tk2, rfl, Chg.trans (fun b o _ e => keep b o e) k2, b2, S2⟩⟩
  | _ => exact zaf q
 | _ => exact zmk q S B r hWX hW
end
end
section
noncomputable def zcn : List String := ["enumerate", "zip", "dict_itemiterator", "dict_reverseitemiterator", "odict_iterator", "itertools.zip_longest", "itertools.pairwise"]
structure Iter (w : World) (A : Around) (X : List Addr) (h0 : Heap) (I : Addr) (ds : List D) (h : Heap) (fp : List Addr) (St : Nat -> Heap -> Prop) : Prop where
 W : Walks pg w A I fp [I] ds.length (fun i v => ∃ d, ds[i]? = some d /\ Rep X h0 v d) St
 st : St 0 h
 fpX : ∀ b ∈ fp, b ∉ X /\ ∃ o, h.get? b = some o
 new : h0.objs.size <= I
 quiet : ∀ i h', St i h' -> ∃ o T, h'.get? I = some o /\ o.cls = .type T /\ zcn.contains T = false /\ T ≠ "code"
noncomputable def zeo : D -> Option (List D)
 | .lst l => some l
 | .tup l => some l
 | .str x => some (x.cps.toList.map fun c => .str ⟨#[c]⟩)
 | .rng a b c => if Builtin.Range.small a b c = true then some ((List.range (Builtin.Range.rangeSize a b c).toNat).map fun i : Nat => .int (a + (i : Int) * c)) else none
 | _ => none
theorem zfd (a b c : Int) : 0 <= Builtin.Range.rangeSize a b c := by
 unfold Builtin.Range.rangeSize
 split
 ·split
  ·have := Int.ediv_nonneg (show 0 <= b - a - 1 by lia) (show 0 <= c by lia)
   lia
  ·lia
 ·split
  ·have := Int.ediv_nonneg (show 0 <= a - b - 1 by lia) (show 0 <= -c by lia)
   lia
  ·lia
theorem zdr {w : World} {A : Around} {E : Value -> Shared -> Prop} {s : Shared} {target : PySem.Expr} {I : Addr} {v : Value} {Q : Unit -> Shared -> Prop}
  (h : ∃ o T, s.heap.get? I = some o /\ o.cls = .type T /\ zcn.contains T = false) (q : Q () s) : wpAny (model pg w) A (letOwnedTupleGo target (.ref I) v) Q E s := by
 obtain ⟨o, T, e1, e2, e3⟩ := h
 have key : ∀ a : Addr, wpAny (model pg w) A (do
   let o <- load I
   match o.cls, o.data with
   | .type n, .fields vs =>
    if zcn.contains n && vs[0]? == some (rawInt a) then
     rule "for.unpacks-the-owned-tuple"
     updateField I 0 .none
   | _, _ => pure () : Sem Unit) Q E s := by
  intro a
  refine wpAny_bind (wpAny_load e1 ?_)
  rw [e2]
  cases o.data with
  | fields vs =>
   show wpAny _ _ (if (zcn.contains T && vs[0]? == some (rawInt a)) = true then _ else _) _ _ _
   rw [e3, Bool.false_and, if_neg Bool.false_ne_true]
   exact wpAny_pure q
  | _ => exact wpAny_pure q
 unfold letOwnedTupleGo
 cases target <;> first
  | exact wpAny_pure q
  | (cases v <;> first
    | exact key _
    | exact wpAny_pure q)
section
variable {w : World} {mb : Str -> Option Value} {A : Around} {L : Addr} {s : Shared} {X Y : List Addr} {h h' h'' : Heap} {env : Env} {E : Value -> Shared -> Prop}
theorem zvu {I : Addr} {fp : List Addr} {n : Nat} {P P' : Nat -> Value -> Prop} {St : Nat -> Heap -> Prop} (W : Walks pg w A I fp [I] n P St) (f : ∀ i v, i < n -> P i v -> P' i v) : Walks pg w A I fp [I] n P' St :=
 { W with item := fun i s' Q' E' hi st hQ => W.item i s' Q' E' hi st fun v h' tk hv => hQ v h' tk (f i v hi hv) }
theorem zem {ds : List D} {o : Obj} {fp : List Addr} {n : Nat} {P : Nat -> Value -> Prop} {St : Nat -> Heap -> Prop} (hI : h.objs.size ∉ X) (hf : o.isFreed = false) (hfp : ∀ b ∈ fp, b ∉ X /\ ∃ o, h.get? b = some o) (W : Walks pg w A h.objs.size (h.objs.size :: fp) [h.objs.size] n P St) (hn : n = ds.length) (item : ∀ i v, i < n -> P i v -> ∃ d, ds[i]? = some d /\ Rep X h v d)
  (st : St 0 (h.push o)) (quiet : ∀ i h', St i h' -> ∃ o T, h'.get? h.objs.size = some o /\ o.cls = .type T /\ zcn.contains T = false /\ T ≠ "code") : Iter w A X h h.objs.size ds (h.push o) (h.objs.size :: fp) St :=
 ⟨hn ▸ zvu W item, st, fun b hb => (List.mem_cons.mp hb).elim (fun e => e ▸ ⟨hI, _, Heap.get?_push_size _ hf⟩) fun q => ⟨(hfp b q).1, (hfp b q).2.elim fun o e => ⟨o, Heap.get?_push_of_some _ e⟩⟩, Nat.le_refl _, quiet⟩
theorem zkn {vs : List Value} {ds : List D} (r : RepA X h vs ds) : ∀ {i : Nat} {v : Value}, i < vs.toArray.size -> vs.toArray[i]? = some v -> ∃ d, ds[i]? = some d /\ Rep X h v d := fun {i v} hi hv => by
 have hl : i < ds.length := r.length ▸ List.size_toArray (as := vs) ▸ hi
 exact (r.get (List.getElem?_eq_getElem hl)).elim fun u q => ⟨_, List.getElem?_eq_getElem hl, Option.some.inj (q.1.symm.trans (by simpa using hv)) ▸ q.2⟩
theorem zh3 {d : D} {v : Value} {ds : List D} {Q : Value -> Shared -> Prop} (hh : A.handled = none) (e : zeo d = some ds) (hX : ∀ a ∈ X, ∃ o, s.heap.get? a = some o) (r : Rep X s.heap v d)
  (q : ∀ o fp St, o.isFreed = false -> (∀ A' : Around, A'.handled = none -> Iter w A' X s.heap s.heap.objs.size ds (s.heap.push o) fp St) -> Q (.ref s.heap.objs.size) { s with heap := s.heap.push o }) :
  wpAny (model pg w) A (pyIter v) Q E s := by
 have hI : s.heap.objs.size ∉ X := fun m => (hX _ m).elim fun o e => absurd (Heap.lt_size e) (Nat.lt_irrefl _)
 have one : ∀ {a : Addr} {o : Obj}, a ∉ X -> s.heap.get? a = some o -> ∀ b ∈ [a], b ∉ X /\ ∃ o, s.heap.get? b = some o := fun h e b hb => List.mem_singleton.mp hb ▸ ⟨h, _, e⟩
 cases d with
 | str x =>
  refine r.str' (P := fun v => wpAny (model pg w) A (pyIter v) Q E s) fun t => ?_
  cases e
  have item : ∀ i v, i < x.cps.size -> SignAt x i v -> ∃ d, (x.cps.toList.map fun c => D.str ⟨#[c]⟩)[i]? = some d /\ Rep X s.heap v d := fun i v hi ⟨c, u, hc, e⟩ => ⟨.str ⟨#[c]⟩, by simp [hc], e ▸ .str ..⟩
  cases ha : x.cps.all (· < 128)
  ·exact wpAny_pyIter_wide ha (q _ _ _ rfl fun A' hA => zem hI rfl (fun _ h => (List.not_mem_nil h).elim) (Walks.strWide hA _ x t) (by simp) item ⟨_, Heap.get?_push_size _ rfl, rfl, rfl⟩ fun i h' ⟨o, ho, hc, _⟩ => ⟨o, _, ho, hc, by decide, by decide⟩)
  ·exact wpAny_pyIter_ascii ha (q _ _ _ rfl fun A' hA => zem hI rfl (fun _ h => (List.not_mem_nil h).elim) (Walks.strAscii hA _ x t) (by simp) item ⟨_, Heap.get?_push_size _ rfl, rfl, rfl⟩ fun i h' ⟨o, ho, hc, _⟩ => ⟨o, _, ho, hc, by decide, by decide⟩)
 | tup l =>
  cases e
  have n := fun a e => r.nx a e nofun
  obtain ⟨a, vs, m, rfl, e1, r1⟩ := r.inv
  have hl : s.heap.IsTuple a vs.toArray := ⟨_, e1, rfl, _, rfl⟩
  exact wpAny_pyIter_tuple hl (q _ _ _ rfl fun A' hA => zem hI rfl (one (n a rfl) e1) (Walks.tuple hA _ a (Nat.ne_of_lt (Heap.lt_size e1)) vs.toArray) (by rw [List.size_toArray, r1.length]) (fun _ _ => zkn r1) ⟨⟨_, Heap.get?_push_size _ rfl, rfl, rfl⟩, hl.push _⟩
   fun i h' ⟨⟨o, ho, hc, _⟩, _⟩ => ⟨o, _, ho, hc, by decide, by decide⟩)
 | lst l =>
  cases e
  have n := fun a e => r.nx a e nofun
  obtain ⟨a, vs, m, rfl, e1, r1⟩ := r.inv
  have hl : s.heap.IsList a vs.toArray := ⟨_, e1, rfl, _, rfl⟩
  exact wpAny_pyIter_list hl (q _ _ _ rfl fun A' hA => zem hI rfl (one (n a rfl) e1) (Walks.list hA _ a (Nat.ne_of_lt (Heap.lt_size e1)) vs.toArray) (by rw [List.size_toArray, r1.length]) (fun _ _ => zkn r1) ⟨⟨_, Heap.get?_push_size _ rfl, rfl, rfl⟩, hl.push _⟩
   fun i h' ⟨⟨o, ho, hc, _⟩, _⟩ => ⟨o, _, ho, hc, by decide, by decide⟩)
 | rng a b c =>
  obtain ⟨r0, t, u, x, rfl, e1⟩ := r.inv
  by_cases hs : Builtin.Range.small a b c = true
  ·cases (if_pos hs).symm.trans e
   exact wpAny_pyIter_range e1 hs (q _ _ _ rfl fun A' hA => zem hI rfl (fun _ h => (List.not_mem_nil h).elim) (Walks.range hA s.heap.objs.size a c (Builtin.Range.rangeSize a b c).toNat) (by simp) (fun i v hi ⟨t, e⟩ => ⟨_, by simp [hi], e ▸ Rep.int ..⟩)
    (by rw [Int.toNat_of_nonneg (zfd a b c)]; simpa using Heap.get?_push_size s.heap (o := { cls := .type "range_iterator", data := .fields #[rawInt a, rawInt (Builtin.Range.rangeSize a b c), rawInt c] }) rfl) fun i h' st => ⟨_, _, st, rfl, by decide, by decide⟩)
  ·cases (if_neg hs).symm.trans e
 | _ => exact zaf e
end
end
structure Orc where
 fn : Str -> List D -> Option D
 me : Str -> List (Str × D) -> List D -> Option D
 bl : Str -> List (D × Kd) -> Option (D × Kd)
noncomputable def scalar : D -> Bool
 | .none | .bool _ | .int _ | .flt _ | .str _ => true
 | _ => false
noncomputable def za7 (kf : Kf) (names : List (Str × NameKind)) : List (Str × NameKind) := names.map fun (n, k) => if k == .free && kf n == some .cell then (n, .cell) else (n, k)
structure Cx where
 kf : Kf
 σ : List (Str × D)
 own : Option (Str × List D)
noncomputable def zb5 {α β : Type} (f : α -> Option β) : List α -> Option (List β)
 | [] => some []
 | a :: r => match f a with
  | some b => (match zb5 f r with
   | some bs => some (b :: bs)
   | none => none)
  | none => none
noncomputable def zbw (step : D -> Option (Option D)) : List D -> Option (List D)
 | [] => some []
 | d :: r => match step d with
  | some (some e) => (match zbw step r with
   | some es => some (e :: es)
   | none => none)
  | some none => zbw step r
  | none => none
noncomputable def zjq : Const -> Option D
 | .none => some .none
 | .bool b => some (.bool b)
 | .int i => some (.int i)
 | .float x => some (.flt x)
 | .str x => some (.str x)
 | _ => none
noncomputable def zeq : List (Str × D) := [("_DIV_LIMIT", .int 4000), ("ONE_THIRD", .flt 4599676419421066581), ("ONE_SIXTH", .flt 4595172819793696085), ("TWO_THIRD", .flt 4604180019048437077), ("CRLF", .str "\r\n")]
noncomputable def zax (x : Str) : Bool := !(x == ("__debug__" : Str)) && !(x == ("__classdict__" : Str))
noncomputable def zja (c : Cx) (x : Str) : Option (D × Kd) :=
 if zax x = true then
  match c.σ.lookup x with
  | some d => some (d, .froz)
  | none => match c.own with
   | some (y, ds) => if x = y then some (.lst ds, .brw) else (if c.kf x = some .globalImplicit then (zeq.lookup x).map (·, .froz) else none)
   | none => if c.kf x = some .globalImplicit then (zeq.lookup x).map (·, .froz) else none
 else none
noncomputable def zag (l : List (D × Kd)) : Bool := l.all fun p => decide (p.2 ≠ Kd.brw)
noncomputable def zkd (a b c : Int) : Bool := decide (-(2 ^ 62) <= a /\ a < 2 ^ 62 /\ -(2 ^ 62) <= b /\ b < 2 ^ 62 /\ c ≠ 0 /\ -(2 ^ 29) <= c /\ c < 2 ^ 29)
noncomputable def zbr : List (D × Kd) -> Option (D × Kd)
 | [(.lst l, _)] => if l.length <= sizeLine then some (.int l.length, .froz) else none
 | [(.tup l, _)] => if l.length <= sizeLine then some (.int l.length, .froz) else none
 | _ => none
noncomputable def zij : List (D × Kd) -> Option (D × Kd)
 | [(.int b, _)] => if zkd 0 b 1 = true then some (.rng 0 b 1, .froz) else none
 | [(.int a, _), (.int b, _)] => if zkd a b 1 = true then some (.rng a b 1, .froz) else none
 | [(.int a, _), (.int b, _), (.int c, _)] => if zkd a b c = true then some (.rng a b c, .froz) else none
 | _ => none
noncomputable def zlc : List (D × Kd) -> Option (D × Kd)
 | [(.int a, _), (.int b, _)] => some (.int (if b > a then b else a), .froz)
 | _ => none
noncomputable def zdh : List (D × Kd) -> Option (D × Kd)
 | [(.int a, _), (.int b, _)] => if b ≠ 0 /\ Builtin.divisionGoesByPylong a b = false then some (.tup [.int (a.fdiv b), .int (a.fmod b)], .froz) else none
 | _ => none
noncomputable def zeh : List (D × Kd) -> Option (D × Kd)
 | [(.lst l, _)] => if l.length <= sizeLine then some (.tup l, .froz) else none
 | _ => none
noncomputable def zqq (x : UInt64) : Option (D × Kd) := match Float64.decode x with
 | .fin sg m e => some (.int (Float64.truncOf sg m e), .froz)
 | _ => none
noncomputable def zrg : List (D × Kd) -> Option (D × Kd)
 | [(.flt x, _)] => zqq x
 | _ => none
noncomputable def zwp (a b c : UInt64) : UInt64 := bif Float64.cmp b a == some Ordering.gt then (bif Float64.cmp c b == some Ordering.gt then c else b) else (bif Float64.cmp c a == some Ordering.gt then c else a)
noncomputable def zwo (a b c : UInt64) : UInt64 := bif Float64.cmp b a == some Ordering.lt then (bif Float64.cmp c b == some Ordering.lt then c else b) else (bif Float64.cmp c a == some Ordering.lt then c else a)
noncomputable def zlb : List (D × Kd) -> Option (D × Kd)
 | [(.flt a, _), (.flt b, _), (.flt c, _)] => some (.flt (zwp a b c), .froz)
 | _ => none
noncomputable def zla : List (D × Kd) -> Option (D × Kd)
 | [(.flt a, _), (.flt b, _), (.flt c, _)] => some (.flt (zwo a b c), .froz)
 | _ => none
noncomputable def zdk (x : UInt64) : Option (D × Kd) := match Float64.decode x with
 | .fin sg m e => some (.int (Float64.nearestOf sg m e), .froz)
 | _ => none
noncomputable def zii : List (D × Kd) -> Option (D × Kd)
 | [(.flt x, _)] => zdk x
 | _ => none
noncomputable def zbe (a b : Option (D × Kd)) : Option (D × Kd) := match a with
 | some r => some r
 | none => b
noncomputable def zrf (l : List (D × Kd)) : Option (D × Kd) := zbe (zlc l) (zlb l)
noncomputable def zfg : List D -> Option (List Str)
 | [] => some []
 | .str x :: r => (match zfg r with
  | some l => some (x :: l)
  | none => none)
 | _ :: _ => none
noncomputable def zis (f : Str) (args : List (D × Kd)) : Option (D × Kd) :=
 if f = ("len" : Str) then zbr args
 else if f = ("range" : Str) then zij args
 else if f = ("max" : Str) then zrf args
 else if f = ("divmod" : Str) then zdh args
 else if f = ("tuple" : Str) then zeh args
 else if f = ("int" : Str) then zrg args
 else if f = ("min" : Str) then zla args
 else if f = ("round" : Str) then zii args
 else none
noncomputable def ze1 (x y : Str) : List Str := Builtin.Str.partsBetween x (Builtin.Str.occurrences x y 0 x.length (x.length + 1)) y.length
noncomputable def zcw (x y : Str) : Bool := !(decide (x.length < y.length) || decide (Builtin.Str.strKind x < Builtin.Str.strKind y)) && !(y.length == 0) && !(Builtin.Str.occurrences x y 0 x.length (x.length + 1)).isEmpty && decide (x.length <= sizeLine) && decide ((ze1 x y).length <= sizeLine)
noncomputable def zkh (o : D) (m : Str) (args : List D) : Option D := match o with
 | .int i => if m = ("bit_length" : Str) then (match args with
  | [] => some (.int (Builtin.Int.intBits i))
  | _ => none) else none
 | .str x => if m = ("join" : Str) then (match args with
  | [.lst ds] => (match zfg ds with
   | some ss => if JoinOk x ss = true then some (.str (Txt.join x ss)) else none
   | none => none)
  | _ => none)
  else if m = ("split" : Str) then (match args with
  | [.str y] => if zcw x y = true then some (.lst ((ze1 x y).map .str)) else none
  | _ => none) else none
 | _ => none
noncomputable def zd4 (ev : Cx -> PySem.Expr -> Option (D × Kd)) (c : Cx) : List PySem.Expr -> Option Bool
 | [] => some true
 | [t] => (match ev c t with
  | some (b, _) => zan b
  | none => none)
 | _ => none
noncomputable def zdo (ev : Cx -> PySem.Expr -> Option (D × Kd)) (kfc : Kf) (σc : List (Str × D)) (ownc : Option (Str × List D)) (target elt : PySem.Expr) (ifs : List PySem.Expr) (d : D) : Option (Option D) :=
 match za8 kfc ownc σc target d with
 | some σ1 => (match zd4 ev ⟨kfc, σ1, ownc⟩ ifs with
  | some true => (match ev ⟨kfc, σ1, ownc⟩ elt with
   | some (r, k) => if k ≠ Kd.brw then some (some r) else none
   | none => none)
  | some false => some none
  | none => none)
 | none => none
noncomputable def zbq (kf : Kf) (scope : Scope) (target : PySem.Expr) (σc : List (Str × D)) : Bool :=
 decide (scope.kind = .function) && (scope.names.all fun p => decide (p.2 = .local -> scope.names.lookup p.1 = some .local) && decide (p.2 = .free -> kf p.1 = some .cell) && decide (p.2 = .cell -> scope.names.lookup p.1 = some .cell)) &&
  ((zd3 target).all fun x => decide (scope.names.lookup x ≠ some .free)) && decide ((scope.names.filter fun p => p.2 == .cell).length <= 1) && (σc.all fun p => !(zd3 target).contains p.1)
noncomputable def ze4 : PySem.Expr -> Bool
 | .Set .. => false
 | _ => true
noncomputable def zb9 (scope : Scope) (σ : List (Str × D)) : List (Str × D) := σ.filter fun p => scope.names.lookup p.1 == some .free
noncomputable def zcq (scope : Scope) (own : Option (Str × List D)) : Option (Str × List D) := own.filter fun p => scope.names.lookup p.1 == some .free
noncomputable def zk1 (ev : Cx -> PySem.Expr -> Option (D × Kd)) (c : Cx) (target iter : PySem.Expr) (ifs : List PySem.Expr) (scope : Scope) (elt : PySem.Expr) : Option (D × Kd) -> Option (D × Kd)
 | some (d, k) => (match zeo d with
  | some ds => if k ≠ Kd.brw /\ ds.length <= sizeLine /\ ze4 iter = true /\ zbq c.kf scope target (zb9 scope c.σ) = true then
    (zbw (zdo ev (fun x => (za7 c.kf scope.names).lookup x) (zb9 scope c.σ) (zcq scope c.own) target elt ifs) ds).map fun l => (.lst l, .fresh)
   else none
  | none => none)
 | none => none
noncomputable def insNames : List Str := ["raw", "n", "nt", "norm", "is_simple"]
noncomputable def zbn : PySem.Expr -> Bool
 | .Call (.Name _ _) [] [] _ => false
 | _ => true
noncomputable def zaa (O : Orc) : Nat -> Cx -> PySem.Expr -> Option (D × Kd)
 | 0, _, _ => none
 | n + 1, c, e =>
  match e with
  | .Constant k _ _ => (zjq k).map (·, .froz)
  | .Name x _ => zja c x
  | .BinOp l op r _ => (match zaa O n c l with
   | some (a, _) => (match zaa O n c r with
    | some (b, _) => zit op a b
    | none => none)
   | none => none)
  | .UnaryOp .Not x _ => (match zaa O n c x with
   | some (a, _) => (zan a).map fun b => (.bool (!b), .froz)
   | none => none)
  | .UnaryOp .USub x _ => (match zaa O n c x with
   | some (.int a, _) => some (.int (-a), .froz)
   | _ => none)
  | .Compare l [op] [r] _ => (match zaa O n c l with
   | some (a, _) => (match zaa O n c r with
    | some (b, _) => if behindInMarks op r = false then (znv op a b).map fun b => (.bool b, .froz) else none
    | none => none)
   | none => none)
  | .BoolOp .Or [x, y] _ => (match zaa O n c x with
   | some (a, k) => (match zan a with
    | some true => some (a, k)
    | some false => zaa O n c y
    | none => none)
   | none => none)
  | .Subscript v s _ => (match zaa O n c v with
   | some (o, _) => (match s with
    | .Slice none (some b) none _ => (match zaa O n c b with
     | some (.int j, _) => (zda o none (some j)).map (·, .fresh)
     | _ => none)
    | .Slice (some a) none none _ => (match zaa O n c a with
     | some (.int j, _) => (zda o (some j) none).map (·, .fresh)
     | _ => none)
    | .Slice .. => none
    | s => (match zaa O n c s with
     | some (i, _) => (zh4 o i).map (·, .froz)
     | none => none))
   | none => none)
  | .List es _ => (match zb5 (zaa O n c) es with
   | some l => if zag l = true /\ l.length <= sizeLine then some (.lst (l.map (·.1)), .fresh) else none
   | none => none)
  | .Tuple es _ _ => (match zb5 (zaa O n c) es with
   | some l => if zag l = true /\ l.length <= sizeLine then some (.tup (l.map (·.1)), .froz) else none
   | none => none)
  | .ListComp elt [⟨target, iter, ifs, 0⟩] scope _ => zk1 (zaa O n) c target iter ifs scope elt (zaa O n c iter)
  | .Attribute (.Name o _) a _ => (match c.σ.lookup o with
   | some (.ins fs) => if zax o = true /\ insNames.contains a = true then (fs.lookup a).map (·, .froz) else none
   | _ => none)
  | .Call (.Name f _) args [] _ => if c.kf f = some .globalImplicit /\ zax f = true then (match zb5 (zaa O n c) args with
   | some l => (match O.fn f (l.map (·.1)) with
    | some r => if zag l = true ∨ scalar r = true then some (r, .froz) else none
    | none => zbe (zis f l) (O.bl f l))
   | none => none) else none
  | .Call (.Attribute o m apos) args [] pos => if apos.endLine = pos.line /\ args.length < 20 /\ zbn o = true then (match zaa O n c o with
   | some (.ins fs, _) => (match zb5 (zaa O n c) args with
    | some l => if zag l = true then (O.me m fs (l.map (·.1))).map (·, .froz) else none
    | none => none)
   | some (d, _) => (match zb5 (zaa O n c) args with
    | some l => if zag l = true then (zkh d m (l.map (·.1))).map (·, .froz) else none
    | none => none)
   | none => none) else none
  | _ => none
section
noncomputable def zei (w : World) (fv : Value) (args : List (D × Kd)) (r : D × Kd) : Prop :=
 ∀ (mb : Str -> Option Value) (A : Around) (L : Addr) (X Y : List Addr) (s : Shared) (vs : List Value), A.handled = none -> A.units + 64 < cLine -> Base w mb s.heap -> (∀ a ∈ X, ∃ o, s.heap.get? a = some o) ->
   ArgA X Y L s.heap vs args -> Tot w mb A L (call fv vs) s (fun u h' => Res X Y L s.heap h' u r.1 r.2)
noncomputable def zcx (w : World) (f : Str) (args : List (D × Kd)) (d : D) (k : Kd) : Prop :=
 ∃ v, bootBuiltins f = some v /\ (∀ a, v ≠ .ref a) /\ f ≠ "__name__" /\ nsIn (KK w) mainGlobals f = some none /\
  ∀ (mb : Str -> Option Value) (A : Around) (L : Addr) (X Y : List Addr) (s : Shared) (vs : List Value), A.handled = none -> A.units + 64 < cLine -> Base w mb s.heap -> (∀ a ∈ X, ∃ o, s.heap.get? a = some o) ->
   ArgA X Y L s.heap vs args -> Tot w mb A L (call v vs) s (fun u h' => Res X Y L s.heap h' u d k)
theorem zex {F : List (D × Kd) -> Option (D × Kd)} {Q : List (D × Kd) -> D × Kd -> Prop} (h0 : F [] = none) (h1 : ∀ d k, zac (F [(d, k)]) (Q [(d, k)])) (h2 : ∀ d k e j, zac (F [(d, k), (e, j)]) (Q [(d, k), (e, j)])) (h3 : ∀ d k e j f i, zac (F [(d, k), (e, j), (f, i)]) (Q [(d, k), (e, j), (f, i)])) (h4 : ∀ a b c d l, F (a :: b :: c :: d :: l) = none) : ∀ l, zac (F l) (Q l)
 | [] => h0 ▸ .no
 | [(d, k)] => h1 d k
 | [(d, k), (e, j)] => h2 d k e j
 | [(d, k), (e, j), (f, i)] => h3 d k e j f i
 | a :: b :: c :: d :: l => h4 a b c d l ▸ .no
theorem zby {X : List Addr} {h : Heap} (hX : ∀ a ∈ X, ∃ o, h.get? a = some o) {a : Addr} (ha : h.objs.size <= a) : a ∉ X := fun q => by
 obtain ⟨o, e⟩ := hX _ q
 exact absurd (Heap.lt_size e) (Nat.not_lt.mpr ha)
theorem zww {w : World} : ∀ l, zac (zbr l) (zei w (.builtin "len") l) :=
 zex rfl (fun d k => by
  cases d with
  | lst l =>
   refine .ite fun hz mb A L X Y s vs hA hU B hX ha => ha.one' fun h0 v r => r.lst' fun a ws n e1 r1 => ⟨?_⟩
   rw [PySem.sizeLine_eq] at hz
   refine len_list (items := ws.toArray) ⟨_, e1, rfl, _, rfl⟩ (by rw [List.size_toArray, r1.length]; lia) ?_
   rw [List.size_toArray, r1.length]
   exact zdm B (Rep.int ..)
  | tup l =>
   refine .ite fun hz mb A L X Y s vs hA hU B hX ha => ha.one' fun h0 v r => r.tup' fun a ws n e1 r1 => ⟨?_⟩
   rw [PySem.sizeLine_eq] at hz
   refine PyProof.Rows.len_tuple (items := ws.toArray) ⟨_, e1, rfl, _, rfl⟩ (by rw [List.size_toArray, r1.length]; lia) ?_
   rw [List.size_toArray, r1.length]
   exact zdm B (Rep.int ..)
  | _ => exact .no) (fun d _ _ _ => by cases d <;> exact .no) (fun d _ _ _ _ _ => by cases d <;> exact .no) (fun a _ _ _ _ => by obtain ⟨d, k⟩ := a; cases d <;> rfl)
theorem zyh {w : World} {l : List (D × Kd)} {d : D} {k : Kd} (e : zbr l = some (d, k)) : zcx w "len" l d k :=
 ⟨.builtin "len", by kernel_rfl, (fun _ q => nomatch q), by decide +kernel, by kernel_rfl, zww l (d, k) e⟩
theorem zfy {X Y : List Addr} {L : Addr} {s : Shared} {w : World} {mb : Str -> Option Value} {a b c : Int} {t u v : Tok} {tk : Nat} (B : Base w mb s.heap) (hX : ∀ a ∈ X, ∃ o, s.heap.get? a = some o) :
  Post s (Kp L s.heap) (Base w mb) (fun v h' => Res X Y L s.heap h' v (.rng a b c) .froz) (.ref s.heap.objs.size) { s with heap := s.heap.push { cls := .type "range", data := .fields #[.int a t, .int b u, .int c v] }, toks := tk } :=
 ⟨_, _, rfl, .of zar, B.keeps zar, .rng (zby hX (Nat.le_refl _)) (IsRange.new ..)⟩
theorem zmz {c : Int} (h : -(2 ^ 29) <= c /\ c < 2 ^ 29) : c.natAbs < 1073741824 := by lia
theorem zo6 {w : World} : ∀ l, zac (zij l) (zei w (.type "range") l) :=
 zex rfl (fun d k => by
  cases d with
  | int b => exact .ite fun hk mb A L X Y s vs hA hU B hX ha => ha.one' fun h0 v r => r.int' fun t => ⟨call_range_1 (zfy B hX)⟩
  | _ => exact .no) (fun d k e j => by
  cases d with
  | int a =>
   cases e with
   | int b => exact .ite fun hk mb A L X Y s vs hA hU B hX ha => ha.two' fun h0 v h1 u r r2 => r.int' fun t => r2.int' fun t2 => ⟨call_range_2 (zfy B hX)⟩
   | _ => exact .no
  | _ => exact .no) (fun d k e j f i => by
  cases d with
  | int a =>
   cases e with
   | int b =>
    cases f with
    | int c => exact .ite fun hk mb A L X Y s vs hA hU B hX ha => ha.three' fun h0 v h1 u h2 z r r2 r3 => r.int' fun t => r2.int' fun t2 => r3.int' fun t3 => ⟨call_range_3 (of_decide_eq_true hk).2.2.2.2.1 (zfy B hX) (hp := .inl (PyProof.noPylong_small (zmz (of_decide_eq_true hk).2.2.2.2.2)))⟩
    | _ => exact .no
   | _ => exact .no
  | _ => exact .no) (fun a b c _ _ => by
  obtain ⟨d, k⟩ := a
  obtain ⟨e, j⟩ := b
  obtain ⟨f, i⟩ := c
  cases d with
  | int a =>
   cases e with
   | int b => cases f <;> rfl
   | _ => rfl
  | _ => rfl)
theorem zrd {w : World} {l : List (D × Kd)} {d : D} {k : Kd} (e : zij l = some (d, k)) : zcx w "range" l d k :=
 ⟨.type "range", by kernel_rfl, (fun _ q => nomatch q), by decide +kernel, by kernel_rfl, zo6 l (d, k) e⟩
theorem zsr {w : World} : ∀ l, zac (zlc l) (zei w (.builtin "max") l) :=
 zex rfl (fun d _ => by cases d <;> exact .no) (fun d k e j => by
  cases d with
  | int a =>
   cases e with
   | int b => exact .so fun mb A L X Y s vs hA hU B hX ha => ha.two' fun h0 v h1 u r r2 => r.int' fun t => r2.int' fun t2 => ⟨max_two_ints hA fun h' tk hk => ⟨_, _, rfl, .of hk, B.keeps hk, by split <;> exact Rep.int ..⟩⟩
   | _ => exact .no
  | _ => exact .no) (fun d _ e _ _ _ => by
  cases d with
  | int a => cases e <;> exact .no
  | _ => exact .no) fun a b _ _ _ => by
  obtain ⟨d, k⟩ := a
  obtain ⟨e, j⟩ := b
  cases d with
  | int a => cases e <;> rfl
  | _ => rfl
theorem zup {w : World} {l : List (D × Kd)} {d : D} {k : Kd} (e : zlc l = some (d, k)) : zcx w "max" l d k :=
 ⟨.builtin "max", by kernel_rfl, (fun _ q => nomatch q), by decide +kernel, by kernel_rfl, zsr l (d, k) e⟩
theorem znq {w : World} : ∀ l, zac (zdh l) (zei w (.builtin "divmod") l) :=
 zex rfl (fun d _ => by cases d <;> exact .no) (fun d k e j => by
  cases d with
  | int a =>
   cases e with
   | int b => exact .ite fun hb mb A L X Y s vs hA hU B hX ha => ha.two' fun h0 v h1 u r r2 => r.int' fun t => r2.int' fun t2 => ⟨divmod_int hb.1 ⟨_, _, rfl, .of zar, B.keeps zar, .tup (vs := [_, _]) (zby hX (Nat.le_refl _)) (Heap.get?_push_size _ rfl) (.cons (.int ..) (.cons (.int ..) .nil))⟩ (.inl hb.2)⟩
   | _ => exact .no
  | _ => exact .no) (fun d _ e _ _ _ => by
  cases d with
  | int a => cases e <;> exact .no
  | _ => exact .no) fun a b _ _ _ => by
  obtain ⟨d, k⟩ := a
  obtain ⟨e, j⟩ := b
  cases d with
  | int a => cases e <;> rfl
  | _ => rfl
theorem znz {w : World} {l : List (D × Kd)} {d : D} {k : Kd} (e : zdh l = some (d, k)) : zcx w "divmod" l d k :=
 ⟨.builtin "divmod", by kernel_rfl, (fun _ q => nomatch q), by decide +kernel, by kernel_rfl, znq l (d, k) e⟩
theorem zke {F : List (D × Kd) -> Option (D × Kd)} {Q : List (D × Kd) -> D × Kd -> Prop} (h0 : F [] = none) (h1 : ∀ d k, zac (F [(d, k)]) (Q [(d, k)])) (h2 : ∀ a b l, F (a :: b :: l) = none) : ∀ l, zac (F l) (Q l)
 | [] => h0 ▸ .no
 | [(d, k)] => h1 d k
 | a :: b :: l => h2 a b l ▸ .no
theorem zoh {w : World} : ∀ l, zac (zeh l) (zei w (.type "tuple") l) :=
 zke rfl (fun d k => by
  cases d with
  | lst l =>
   refine .ite fun hz mb A L X Y s vs hA hU B hX ha => ha.one' fun h0 v r => r.lst' fun a ws n e1 r1 => ⟨?_⟩
   exact call_tuple_list (items := ws.toArray) ⟨_, e1, rfl, _, rfl⟩ (fun h' hk => ⟨_, _, rfl, .of fun b o q => zar b o (hk b o q), B.keeps fun b o q => zar b o (hk b o q),
    .tup (fun q => let ⟨_, q⟩ := hX _ q; Nat.lt_irrefl _ (Heap.lt_size (hk _ _ q))) (Heap.get?_push_size h' rfl) (r1.mono fun b o _ q => zar b o (hk b o q))⟩) (by rw [List.size_toArray, r1.length]; exact hz)
  | _ => exact .no) fun a _ _ => by obtain ⟨d, k⟩ := a; cases d <;> rfl
theorem zrb {w : World} {l : List (D × Kd)} {d : D} {k : Kd} (e : zeh l = some (d, k)) : zcx w "tuple" l d k :=
 ⟨.type "tuple", by kernel_rfl, (fun _ q => nomatch q), by decide +kernel, by kernel_rfl, zoh l (d, k) e⟩
theorem zw0 {w : World} : ∀ l, zac (zrg l) (zei w (.type "int") l) :=
 zke rfl (fun d k => by
  cases d with
  | flt x =>
   show zac (zqq x) _
   unfold zqq
   cases hd : Float64.decode x with
   | fin sg m ex => exact .so fun mb A L X Y s vs hA hU B hX ha => ha.one' fun h0 v r => r.flt' fun t => ⟨call_int_float hd (zdm B (.int ..))⟩
   | _ => exact .no
  | _ => exact .no) fun a _ _ => by obtain ⟨d, k⟩ := a; cases d <;> rfl
theorem zyi {w : World} {l : List (D × Kd)} {d : D} {k : Kd} (e : zrg l = some (d, k)) : zcx w "int" l d k :=
 ⟨.type "int", by kernel_rfl, (fun _ q => nomatch q), by decide +kernel, by kernel_rfl, zw0 l (d, k) e⟩
noncomputable def at3 (a b c : UInt64) : Nat -> UInt64
 | 0 => a
 | 1 => b
 | _ => c
theorem z1r {w : World} {A : Around} {P : Nat -> Value -> Prop} (val : Nat -> UInt64) (hval : ∀ i v, P i v -> ∃ t, v = .float (val i) t) :
  CmpOf pg w A .Gt P (fun i j => Float64.cmp (val i) (val j) == some Ordering.gt) := fun i j vi vj s Q E hi hj h => by
 obtain ⟨t, rfl⟩ := hval i vi hi
 obtain ⟨u, rfl⟩ := hval j vj hj
 exact richCompare_gives (op := .Gt) (AutoFloatOps.typeIs_float s _ t) (AutoFloatOps.typeIs_float s _ u) PySem.F.slot_float_gt PySem.F.entry_float_gt (PySem.F.args_float_gt_2 _ _) (AutoFloatG4.float___gt___float_float_0 _ t _ u) (fun x => nomatch x) h
theorem z1q {w : World} {A : Around} {P : Nat -> Value -> Prop} (val : Nat -> UInt64) (hval : ∀ i v, P i v -> ∃ t, v = .float (val i) t) :
  CmpOf pg w A .Lt P (fun i j => Float64.cmp (val i) (val j) == some Ordering.lt) := fun i j vi vj s Q E hi hj h => by
 obtain ⟨t, rfl⟩ := hval i vi hi
 obtain ⟨u, rfl⟩ := hval j vj hj
 exact richCompare_gives (op := .Lt) (AutoFloatOps.typeIs_float s _ t) (AutoFloatOps.typeIs_float s _ u) PySem.F.slot_float_lt PySem.F.entry_float_lt (PySem.F.args_float_lt_2 _ _) (AutoFloatG5.float___lt___float_float_0 _ t _ u) (fun x => nomatch x) h
theorem arg3 (bt : Nat -> Nat -> Bool) (f : Nat -> UInt64) : f (argBest bt 2) = bif bt 1 0 then (bif bt 2 1 then f 2 else f 1) else (bif bt 2 0 then f 2 else f 0) := by
 have e : argBest bt 2 = if bt 2 (if bt 1 0 = true then 1 else 0) = true then 2 else (if bt 1 0 = true then 1 else 0) := rfl
 rw [e]
 by_cases h1 : bt 1 0 = true
 ·by_cases h2 : bt 2 1 = true
  ·simp [h1, h2]
  ·simp [h1, h2]
 ·by_cases h2 : bt 2 0 = true
  ·simp [h1, h2]
  ·simp [h1, h2]
section
variable {w : World} {A : Around} {s : Shared} {a b c : UInt64} {t u x : Tok} {Q : Value -> Shared -> Prop} {E : Value -> Shared -> Prop}
theorem zl6 {i : Nat} {v : Value} (h : (#[Value.float a t, .float b u, .float c x] : Array Value)[i]? = some v) : ∃ k, v = .float (at3 a b c i) k := by
 match i, h with
 | 0, h => exact ⟨t, by simpa [at3] using h.symm⟩
 | 1, h => exact ⟨u, by simpa [at3] using h.symm⟩
 | 2, h => exact ⟨x, by simpa [at3] using h.symm⟩
 | i + 3, h => simp at h
theorem zgy (hh : A.handled = none)
  (h : ∀ h' tk k, (∀ d o, s.heap.get? d = some o -> h'.get? d = some o) -> Q (.float (zwp a b c) k) { s with heap := h', toks := tk }) :
  wpAny (model pg w) A (call (.builtin "max") [.float a t, .float b u, .float c x]) Q E s := by
 have hT : (s.heap.push { cls := .type "tuple", data := .seq #[.float a t, .float b u, .float c x] }).IsTuple s.heap.objs.size #[.float a t, .float b u, .float c x] := ⟨_, Heap.get?_push_size _ rfl, rfl, 0, rfl⟩
 refine call_max_three (wpAny_pyIter_tuple hT ?_)
 have hsz : (s.heap.push { cls := .type "tuple", data := .seq #[.float a t, .float b u, .float c x] }).objs.size = s.heap.objs.size + 1 := Heap.size_push ..
 refine ⟨_, [_, s.heap.objs.size], [_], _, _, _, _, rfl, Walks.tuple (A := A.in1) hh _ s.heap.objs.size (by rw [hsz]; exact Nat.ne_of_lt (Nat.lt_succ_self _)) #[.float a t, .float b u, .float c x],
  ⟨⟨_, Heap.get?_push_size _ rfl, rfl, rfl⟩, hT.push _⟩, fun d hd => ?_, by simp, z1r (at3 a b c) (fun i v hv => zl6 hv), fun v h' tk hP hk => ?_⟩
 ·show d < ((s.heap.push _).push _).objs.size
  rw [Heap.size_push, hsz]
  rcases List.mem_cons.mp hd with rfl | hd
  ·rw [hsz]; exact Nat.lt_succ_self _
  ·rcases List.mem_cons.mp hd with rfl | hd
   ·exact Nat.lt_succ_of_lt (Nat.lt_succ_self _)
   ·cases hd
 ·have hold : ∀ d o, s.heap.get? d = some o -> h'.get? d = some o := fun d o e => by
   refine hk d o (fun hm => ?_) (Heap.get?_push_of_some _ (Heap.get?_push_of_some _ e))
   rcases List.mem_cons.mp hm with e1 | hm
   ·have := Heap.lt_size e; rw [e1, hsz] at this; exact Nat.lt_irrefl _ (Nat.lt_of_succ_lt this)
   ·cases hm
  obtain ⟨k, rfl⟩ := zl6 (a := a) (b := b) (c := c) (t := t) (u := u) (x := x) hP
  have e := arg3 (fun i j => Float64.cmp (at3 a b c i) (at3 a b c j) == some Ordering.gt) (at3 a b c)
  have e2 : at3 a b c (argBest (fun i j => Float64.cmp (at3 a b c i) (at3 a b c j) == some Ordering.gt) 2) = zwp a b c := e
  have := h h' tk k hold
  rw [<- e2] at this
  exact this
theorem zgx (hh : A.handled = none)
  (h : ∀ h' tk k, (∀ d o, s.heap.get? d = some o -> h'.get? d = some o) -> Q (.float (zwo a b c) k) { s with heap := h', toks := tk }) :
  wpAny (model pg w) A (call (.builtin "min") [.float a t, .float b u, .float c x]) Q E s := by
 have hT : (s.heap.push { cls := .type "tuple", data := .seq #[.float a t, .float b u, .float c x] }).IsTuple s.heap.objs.size #[.float a t, .float b u, .float c x] := ⟨_, Heap.get?_push_size _ rfl, rfl, 0, rfl⟩
 refine call_min_three (wpAny_pyIter_tuple hT ?_)
 have hsz : (s.heap.push { cls := .type "tuple", data := .seq #[.float a t, .float b u, .float c x] }).objs.size = s.heap.objs.size + 1 := Heap.size_push ..
 refine ⟨_, [_, s.heap.objs.size], [_], _, _, _, _, rfl, Walks.tuple (A := A.in1) hh _ s.heap.objs.size (by rw [hsz]; exact Nat.ne_of_lt (Nat.lt_succ_self _)) #[.float a t, .float b u, .float c x],
  ⟨⟨_, Heap.get?_push_size _ rfl, rfl, rfl⟩, hT.push _⟩, fun d hd => ?_, by simp, z1q (at3 a b c) (fun i v hv => zl6 hv), fun v h' tk hP hk => ?_⟩
 ·show d < ((s.heap.push _).push _).objs.size
  rw [Heap.size_push, hsz]
  rcases List.mem_cons.mp hd with rfl | hd
  ·rw [hsz]; exact Nat.lt_succ_self _
  ·rcases List.mem_cons.mp hd with rfl | hd
   ·exact Nat.lt_succ_of_lt (Nat.lt_succ_self _)
   ·cases hd
 ·have hold : ∀ d o, s.heap.get? d = some o -> h'.get? d = some o := fun d o e => by
   refine hk d o (fun hm => ?_) (Heap.get?_push_of_some _ (Heap.get?_push_of_some _ e))
   rcases List.mem_cons.mp hm with e1 | hm
   ·have := Heap.lt_size e; rw [e1, hsz] at this; exact Nat.lt_irrefl _ (Nat.lt_of_succ_lt this)
   ·cases hm
  obtain ⟨k, rfl⟩ := zl6 (a := a) (b := b) (c := c) (t := t) (u := u) (x := x) hP
  have e := arg3 (fun i j => Float64.cmp (at3 a b c i) (at3 a b c j) == some Ordering.lt) (at3 a b c)
  have e2 : at3 a b c (argBest (fun i j => Float64.cmp (at3 a b c i) (at3 a b c j) == some Ordering.lt) 2) = zwo a b c := e
  have := h h' tk k hold
  rw [<- e2] at this
  exact this
end
theorem zsq {w : World} : ∀ l, zac (zlb l) (zei w (.builtin "max") l) :=
 zex rfl (fun d _ => by cases d <;> exact .no) (fun d _ e _ => by
  cases d with
  | flt a => cases e <;> exact .no
  | _ => exact .no) (fun d k e j f i => by
  cases d with
  | flt a =>
   cases e with
   | flt b =>
    cases f with
    | flt c => exact .so fun mb A L X Y s vs hA hU B hX ha => ha.three' fun h0 v h1 u h2 z r r2 r3 => r.flt' fun t => r2.flt' fun t2 => r3.flt' fun t3 => ⟨zgy hA fun h' tk k hk => ⟨_, _, rfl, .of hk, B.keeps hk, Rep.flt ..⟩⟩
    | _ => exact .no
   | _ => exact .no
  | _ => exact .no) fun a b c _ _ => by
  obtain ⟨d, k⟩ := a
  obtain ⟨e, j⟩ := b
  obtain ⟨f, i⟩ := c
  cases d with
  | flt a =>
   cases e with
   | flt b => cases f <;> rfl
   | _ => rfl
  | _ => rfl
theorem zuo {w : World} {l : List (D × Kd)} {d : D} {k : Kd} (e : zlb l = some (d, k)) : zcx w "max" l d k :=
 ⟨.builtin "max", by kernel_rfl, (fun _ q => nomatch q), by decide +kernel, by kernel_rfl, zsq l (d, k) e⟩
theorem zsp {w : World} : ∀ l, zac (zla l) (zei w (.builtin "min") l) :=
 zex rfl (fun d _ => by cases d <;> exact .no) (fun d _ e _ => by
  cases d with
  | flt a => cases e <;> exact .no
  | _ => exact .no) (fun d k e j f i => by
  cases d with
  | flt a =>
   cases e with
   | flt b =>
    cases f with
    | flt c => exact .so fun mb A L X Y s vs hA hU B hX ha => ha.three' fun h0 v h1 u h2 z r r2 r3 => r.flt' fun t => r2.flt' fun t2 => r3.flt' fun t3 => ⟨zgx hA fun h' tk k hk => ⟨_, _, rfl, .of hk, B.keeps hk, Rep.flt ..⟩⟩
    | _ => exact .no
   | _ => exact .no
  | _ => exact .no) fun a b c _ _ => by
  obtain ⟨d, k⟩ := a
  obtain ⟨e, j⟩ := b
  obtain ⟨f, i⟩ := c
  cases d with
  | flt a =>
   cases e with
   | flt b => cases f <;> rfl
   | _ => rfl
  | _ => rfl
theorem zun {w : World} {l : List (D × Kd)} {d : D} {k : Kd} (e : zla l = some (d, k)) : zcx w "min" l d k :=
 ⟨.builtin "min", by kernel_rfl, (fun _ q => nomatch q), by decide +kernel, by kernel_rfl, zsp l (d, k) e⟩
theorem zo4 {w : World} : ∀ l, zac (zii l) (zei w (.builtin "round") l) :=
 zke rfl (fun d k => by
  cases d with
  | flt x =>
   show zac (zdk x) _
   unfold zdk
   cases hd : Float64.decode x with
   | fin sg m ex => exact .so fun mb A L X Y s vs hA hU B hX ha => ha.one' fun h0 v r => r.flt' fun t => ⟨PySem.Flt.round_via1 (call_gives PySem.F.slot_float_round (AutoFloatOps.typeIs_float s _ _) PySem.F.entry_float_round (PySem.F.args_float_round_1 _) (PySem.Flt.gives_round _ hd) (zdm B (.int ..)))⟩
   | _ => exact .no
  | _ => exact .no) fun a _ _ => by obtain ⟨d, k⟩ := a; cases d <;> rfl
theorem zrc {w : World} {l : List (D × Kd)} {d : D} {k : Kd} (e : zii l = some (d, k)) : zcx w "round" l d k :=
 ⟨.builtin "round", by kernel_rfl, (fun _ q => nomatch q), by decide +kernel, by kernel_rfl, zo4 l (d, k) e⟩
set_option tactic.hygienic true in
theorem zyg {w : World} {l : List (D × Kd)} {d : D} {k : Kd} (e : zrf l = some (d, k)) : zcx w "max" l d k := by
 unfold zrf zbe at e
 split at e
 ·rename_i r hr
  cases e
  exact zup hr
 ·exact zuo e
theorem zyj {w : World} {f : Str} {l : List (D × Kd)} {d : D} {k : Kd} (e : zis f l = some (d, k)) : zcx w f l d k :=
 (show zac (zis f l) fun r => zcx w f l r.1 r.2 from .two (fun h r e => h ▸ zyh e) fun _ => .two (fun h r e => h ▸ zrd e) fun _ => .two (fun h r e => h ▸ zyg e) fun _ => .two (fun h r e => h ▸ znz e) fun _ => .two (fun h r e => h ▸ zrb e) fun _ => .two (fun h r e => h ▸ zyi e) fun _ => .two (fun h r e => h ▸ zun e) fun _ => .two (fun h r e => h ▸ zrc e) fun _ => .no) (d, k) e
end
section
noncomputable def clo (cells : List (Str × Addr)) : List (Str × NameKind) -> List (Str × Addr) -> List (Str × Addr)
 | [], acc => acc
 | (n, k) :: r, acc => if (k == NameKind.free) = true then (match cells.lookup n with | some c => clo cells r ((n, c) :: acc) | none => clo cells r acc) else clo cells r acc
theorem zga {env : Env} (f : Str × NameKind -> List (Str × Addr) -> Sem (ForInStep (List (Str × Addr))))
  (hf : ∀ n k acc, f (n, k) acc = if (k == NameKind.free) = true then (cellOf env n >>= fun c => pure (ForInStep.yield ((n, c) :: acc))) else pure (ForInStep.yield acc)) :
  ∀ (names : List (Str × NameKind)) (acc : List (Str × Addr)), (∀ p ∈ names, p.2 = .free -> ∃ c, env.cells.lookup p.1 = some c) -> forIn names acc f = pure (clo env.cells names acc)
 | [], acc, _ => rfl
 | (n, k) :: r, acc, h => by
  rw [List.forIn_cons, hf]
  unfold clo
  by_cases hk : (k == NameKind.free) = true
  ·rw [if_pos hk, if_pos hk]
   obtain ⟨c, e⟩ := h (n, k) (.head _) (by simpa using hk)
   simp only at e
   unfold cellOf
   rw [e]
   exact zga f hf r _ fun p hp => h p (.tail _ hp)
  ·rw [if_neg hk, if_neg hk]
   exact zga f hf r _ fun p hp => h p (.tail _ hp)
theorem zef {scope : Scope} {env : Env} (h : ∀ p ∈ scope.names, p.2 = .free -> ∃ c, env.cells.lookup p.1 = some c) : closureFor scope env = pure (clo env.cells scope.names []) := by
 simp only [closureFor]
 have e := zga (env := env) (fun (x : Str × NameKind) (r : List (Str × Addr)) => if (x.2 == NameKind.free) = true then (cellOf env x.1 >>= fun c => pure (ForInStep.yield ((x.1, c) :: r))) else pure (ForInStep.yield r)) (fun n k acc => rfl) scope.names [] h
 refine Eq.trans ?_ (congrArg (fun m => m >>= fun x => pure x) e)
 rfl
set_option tactic.hygienic true in
theorem zgm {cells : List (Str × Addr)} {names : List (Str × NameKind)} : ∀ {acc : List (Str × Addr)} {x : Str} {c : Addr}, (clo cells names acc).lookup x = some c -> acc.lookup x = some c ∨ ((x, NameKind.free) ∈ names /\ cells.lookup x = some c) := by
 induction names with
 | nil =>
  intro acc x c e
  exact .inl e
 | cons p0 r IH =>
  obtain ⟨n, k⟩ := p0
  intro acc x c e
  unfold clo at e
  by_cases hk : (k == NameKind.free) = true
  ·rw [if_pos hk] at e
   have hk' : k = .free := by simpa using hk
   split at e
   ·rename_i c' e'
    rcases IH e with h | ⟨h1, h2⟩
    ·rw [List.lookup_cons] at h
     cases hb : x == n with
     | true => rw [hb] at h; cases h; have := beq_iff_eq.mp hb; subst this; subst hk'; exact .inr ⟨.head _, e'⟩
     | false => rw [hb] at h; exact .inl h
    ·exact .inr ⟨.tail _ h1, h2⟩
   ·rcases IH e with h | ⟨h1, h2⟩
    ·exact .inl h
    ·exact .inr ⟨.tail _ h1, h2⟩
  ·rw [if_neg hk] at e
   rcases IH e with h | ⟨h1, h2⟩
   ·exact .inl h
   ·exact .inr ⟨.tail _ h1, h2⟩
theorem zdg {cells : List (Str × Addr)} {x : Str} {c : Addr} (hc : cells.lookup x = some c) {names : List (Str × NameKind)} : ∀ {acc : List (Str × Addr)}, ((x, NameKind.free) ∈ names ∨ acc.lookup x = some c) -> (clo cells names acc).lookup x = some c := by
 induction names with
 | nil =>
  intro acc h
  exact h.elim (fun h => nomatch h) id
 | cons p0 r IH =>
  obtain ⟨n, k⟩ := p0
  intro acc h
  unfold clo
  by_cases hk : (k == NameKind.free) = true
  ·rw [if_pos hk]
   have hk' : k = .free := by simpa using hk
   by_cases hx : x = n
   ·subst hx
    rw [hc]
    exact IH (.inr (by simp [List.lookup_cons]))
   ·have hx' : (x == n) = false := by simpa using hx
    split
    ·refine IH (h.imp ?_ ?_)
     ·intro h; rcases List.mem_cons.mp h with e | h; · cases e; exact absurd rfl hx
      exact h
     ·intro h; rw [List.lookup_cons, hx']; exact h
    ·refine IH (h.imp ?_ id)
     intro h; rcases List.mem_cons.mp h with e | h; · cases e; exact absurd rfl hx
     exact h
  ·rw [if_neg hk]
   refine IH (h.imp ?_ id)
   intro h; rcases List.mem_cons.mp h with e | h; · cases e; exact absurd rfl hk
   exact h
noncomputable abbrev zk7 : Obj := { cls := .type "cell", data := .cell none }
theorem zhk : ∀ {names : List (Str × NameKind)} {n : Nat} {acc : List (Str × Addr)} {h : Heap}, (names.filter fun p => p.2 == .cell) = [] -> cellsFrom n names acc = acc /\ pushCells h names = h
 | [], _, _, _, _ => ⟨rfl, rfl⟩
 | (x, k) :: r, n, acc, h, e => by
  unfold cellsFrom pushCells
  rw [List.filter_cons] at e
  by_cases hk : (k == NameKind.cell) = true
  ·simp only [hk, if_true] at e; cases e
  ·simp only [hk, if_false] at e ⊢
   exact zhk e
theorem zjr : ∀ {names : List (Str × NameKind)} {n : Nat} {acc : List (Str × Addr)} {h : Heap}, (names.filter fun p => p.2 == .cell).length <= 1 ->
  (cellsFrom n names acc = acc /\ pushCells h names = h /\ ∀ p ∈ names, p.2 ≠ .cell) ∨ (∃ x, (x, NameKind.cell) ∈ names /\ cellsFrom n names acc = (x, n) :: acc /\ pushCells h names = h.push zk7 /\ ∀ p ∈ names, p.2 = .cell -> p.1 = x)
 | [], _, _, _, _ => .inl ⟨rfl, rfl, fun _ h => by cases h⟩
 | (x, k) :: r, n, acc, h, e => by
  rw [List.filter_cons] at e
  unfold cellsFrom pushCells
  by_cases hk : (k == NameKind.cell) = true
  ·have hk' : k = .cell := by simpa using hk
   simp only [hk, if_true] at e ⊢
   rw [List.length_cons] at e
   have e0 : (r.filter fun p => p.2 == .cell) = [] := List.length_eq_zero_iff.mp (by lia)
   obtain ⟨a, b⟩ := zhk (n := n + 1) (acc := (x, n) :: acc) (h := h.push zk7) e0
   refine .inr ⟨x, hk' ▸ .head _, a, b, fun p hp hc => ?_⟩
   rcases List.mem_cons.mp hp with rfl | hp
   ·rfl
   ·have : p ∈ (r.filter fun p => p.2 == .cell) := List.mem_filter.mpr ⟨hp, by simp [hc]⟩
    rw [e0] at this; cases this
  ·simp only [hk, if_false] at e ⊢
   have hk' : k ≠ .cell := by simpa using hk
   rcases zjr (n := n) (acc := acc) (h := h) e with ⟨a, b, c⟩ | ⟨y, a, b, c, d⟩
   ·refine .inl ⟨a, b, fun p hp => ?_⟩
    rcases List.mem_cons.mp hp with rfl | hp
    ·exact hk'
    ·exact c p hp
   ·refine .inr ⟨y, .tail _ a, b, c, fun p hp hc => ?_⟩
    rcases List.mem_cons.mp hp with rfl | hp
    ·exact absurd hc hk'
    ·exact d p hp hc
noncomputable abbrev zkz : Obj := { cls := .type "dict", data := .dict #[] }
section
variable {M : Model} {A : Around} {E : Value -> Shared -> Prop} {s : Shared} {env : Env}
theorem zsl {scope : Scope} {g : Addr} {cl : List (Str × Addr)} {qual : Str} {Q : Env -> Shared -> Prop}
  (h : Q { scope := scope, locals := s.heap.objs.size, globals := g, cells := cellsFrom (s.heap.objs.size + 1) scope.names cl, qual := qual, func := none, code := env.code, frame := env.frame, builtins := env.builtins }
   { s with heap := pushCells (s.heap.push zkz) scope.names }) :
  wpAny M A (newFunctionEnv scope g cl [] qual none .none (some env)) Q E s := by
 simp only [newFunctionEnv, Option.isSome_some, if_true]
 refine wpAny_bind (wpAny_alloc ?_)
 refine wpAny_bind (wpAny_layCells _ (fun name kind cells => by cases hkc : kind == NameKind.cell <;> simp [hkc]) _ _ _ _ ?_)
 rw [show ({ s with heap := s.heap.push zkz } : Shared).heap.objs.size = s.heap.objs.size + 1 from Heap.size_push ..]
 refine wpAny_bind ?_
 rw [List.forIn_nil]
 exact wpAny_pure (wpAny_pure h)
end
end
section
section
variable {w : World} {A : Around} {E : Value -> Shared -> Prop} {R : Result -> Shared -> Prop} {s : Shared}
noncomputable abbrev noE : Value -> Shared -> Prop := fun _ _ => False
noncomputable abbrev Less (I : Nat -> Shared -> Prop) (n : Nat) (s : Shared) : Prop := ∃ m, m < n /\ I m s
section
variable (w : World) (A : Around) (env : Env) (acc : Value) (elt : PySem.Expr) (ifs : List PySem.Expr) (P Z : Shared -> Prop)
noncomputable def CT3 (x : Value) (s : Shared) : Prop := wpAny (model pg w) A (call (.builtin "list.append") [acc, x]) (fun _ => P) noE s
noncomputable def CT2 (ok : Bool) (s : Shared) : Prop := if ok = true then wpAny (model pg w) A (eval elt env) (CT3 w A acc P) noE s else P s
theorem z2t {w : World} {A : Around} {env : Env} {acc : Value} {elt : PySem.Expr} {P : Shared -> Prop} {s : Shared} (h : P s) : CT2 w A env acc elt P false s := Eq.mpr (if_neg Bool.false_ne_true) h
theorem zy2 {w : World} {A : Around} {env : Env} {acc : Value} {elt : PySem.Expr} {P : Shared -> Prop} {s : Shared} (h : wpAny (model pg w) A (eval elt env) (CT3 w A acc P) noE s) : CT2 w A env acc elt P true s := Eq.mpr (if_pos rfl) h
noncomputable def CT1 (_ : Unit) (s : Shared) : Prop := wpAny (model pg w) A (forIn ifs true fun c r => if r = true then do let ok <- isTrue c env (eval c env); pure (ForInStep.yield ok) else pure (ForInStep.yield r)) (CT2 w A env acc elt P) noE s
noncomputable def CT0 (target : PySem.Expr) (v : Value) (_ : Unit) (s : Shared) : Prop := wpAny (model pg w) A (assign target env v) (CT1 w A env acc elt ifs P) noE s
noncomputable def CT (target : PySem.Expr) (it : Value) : Option Value -> Shared -> Prop
 | none, s => Z s
 | some v, s => wpAny (model pg w) A (letOwnedTupleGo target it v) (CT0 w A env acc elt ifs P target v) noE s
end
theorem zdq {elt target iter : PySem.Expr} {ifs : List PySem.Expr} {scope : Scope} {pos : Pos} {it acc : Value} {env : Env} (I : Nat -> Shared -> Prop)
  (turn : ∀ n s, I n s -> wpAny (model pg w) A (pyNext it) (CT w A env acc elt ifs (Less I n) (R (.ok .next)) target it) noE s)
  (n : Nat) (h : I n s) : codeAny (model pg w) A (.compLoop (.ListComp elt [⟨target, iter, ifs, 0⟩] scope pos) 0 it acc env) R s := by
 refine codeAny_loop rfl I (fun n s hI => ?_) n h
 show wpAny _ A ((compTurn (.ListComp elt [⟨target, iter, ifs, 0⟩] scope pos) 0 it acc env).onRaise (fun x => do noteFrame x env; theTreesLotGoes x)) _ _ s
 refine wpAny_noted ?_
 rw [compTurn_list]
 refine wpAny_bind (wpAny_standAt (wpAny_bind (wpAny_mono (turn n s hI) (fun r s₁ h₁ => ?_) fun _ _ f => f.elim)))
 cases r with
 | none => exact wpAny_pure h₁
 | some v =>
  refine wpAny_bind (wpAny_mono h₁ (fun _ s₁' h₁' => wpAny_bind (wpAny_mono h₁' (fun _ s₂ h₂ => wpAny_bind (wpAny_mono h₂ (fun ok s₃ h₃ => ?_) fun _ _ f => f.elim)) fun _ _ f => f.elim)) fun _ _ f => f.elim)
  cases ok with
  | false => exact wpAny_pure ⟨rfl, h₃⟩
  | true => exact wpAny_bind (wpAny_bind (wpAny_mono h₃ (fun x s₄ h₄ => wpAny_bind (wpAny_mono h₄ (fun _ s₅ h₅ => wpAny_pure (wpAny_pure ⟨rfl, h₅⟩)) fun _ _ f => f.elim)) fun _ _ f => f.elim))
end
section
variable {env : Env} {σ σ' : List (Str × D)} {own : Option (Str × List D)} {X Y : List Addr} {h h' : Heap} {L : Addr}
theorem zbl.at' {x : Str} {v : Value} (V : zbl env h x v) (h1 : ∀ o, h.get? env.locals = some o -> h'.get? env.locals = some o) (h2 : ∀ y c o, env.cells.lookup y = some c -> h.get? c = some o -> h'.get? c = some o) : zbl env h' x v := by
 rcases V with ⟨k, m, n, e⟩ | ⟨k, c, e, o, e1, e2⟩
 ·exact .inl ⟨k, m, n.at' h1, e⟩
 ·exact .inr ⟨k, c, e, o, h2 _ _ _ e e1, e2⟩
theorem Sc.chg {Z : List Addr} (S : Sc env σ own X Y h) (k : ∀ b o, b ∉ Z -> h.get? b = some o -> h'.get? b = some o) (hZX : ∀ a ∈ Z, a ∈ X)
  (hZ : ∀ a ∈ Z, a ≠ env.locals /\ (∀ x c, env.cells.lookup x = some c -> c ≠ a) /\ (a ∈ Y ∨ own = none ∨ ∀ vs n, h.get? a ≠ some (zbz vs n))) (hl : ∀ a ∈ Z, ∃ o, h'.get? a = some o) : Sc env σ own X Y h' where
 eok := S.eok
 ns := let ⟨m, n⟩ := S.ns; ⟨m, n.at' fun o e => k _ o (fun q => (hZ _ q).1 rfl) e⟩
 cel := fun x e => let ⟨c, v, e1, o, e2, e3⟩ := S.cel x e; ⟨c, v, e1, o, k c o (fun q => (hZ _ q).2.1 x c e1 rfl) e2, e3⟩
 vars := fun x d e => let ⟨v, v1, v2⟩ := S.vars x d e
  ⟨v, v1.at' (fun o e => k _ o (fun q => (hZ _ q).1 rfl) e) (fun y c o e1 e => k c o (fun q => (hZ _ q).2.1 y c e1 rfl) e), v2.mono fun b o hb e => k b o (fun q => hb (hZX _ q)) e⟩
 own := fun x ds e => let ⟨a, vs, n, v1, v2, v3, w1, w2, w3, v4, v5⟩ := S.own x ds e
  ⟨a, vs, n, v1.at' (fun o e => k _ o (fun q => (hZ _ q).1 rfl) e) (fun y c o e1 e => k c o (fun q => (hZ _ q).2.1 y c e1 rfl) e), v2, v3, w1, w2, w3, k _ _ (fun q => (hZ _ q).2.2.elim w1 fun h => h.elim (fun h => by rw [h] at e; cases e) fun h => h _ _ v4) v4, v5.mono fun b o hb e => k b o (fun q => hb (hZX _ q)) e⟩
 live := fun a ha => by
  by_cases q : a ∈ Z
  ·exact hl a q
  ·obtain ⟨o, e⟩ := S.live a ha; exact ⟨o, k _ _ q e⟩
 locX := S.locX
 celX := S.celX
 ttX := S.ttX
 ttY := S.ttY
 locY := S.locY
 celY := S.celY
 subY := S.subY
theorem Sc.less (S : Sc env σ own X Y h) (k : ∀ x d, σ'.lookup x = some d -> σ.lookup x = some d) : Sc env σ' own X Y h :=
 { S with vars := fun x d q => S.vars x d (k x d q) }
theorem zls {kf : Kf} {x : Str} {k : NameKind} : ∀ {names : List (Str × NameKind)}, names.lookup x = some k -> (za7 kf names).lookup x = some (if (k == .free && kf x == some .cell) = true then .cell else k)
 | (n, k') :: r, e => by
  rw [List.lookup_cons] at e
  unfold za7
  rw [List.map_cons]
  cases hb : x == n with
  | true =>
   rw [hb] at e; cases e
   have := beq_iff_eq.mp hb; subst this
   dsimp only
   split <;> simp
  | false =>
   rw [hb] at e
   have ih := zls (kf := kf) (names := r) e
   unfold za7 at ih
   dsimp only
   split <;> simp only [List.lookup_cons, hb] <;> exact ih
set_option tactic.hygienic true in
theorem zi6 {kf : Kf} {x : Str} {k : NameKind} {names : List (Str × NameKind)} : (za7 kf names).lookup x = some k -> ∃ k', names.lookup x = some k' /\ k = if (k' == .free && kf x == some .cell) = true then .cell else k' := by
 induction names with
 | nil =>
  intro e
  cases e
 | cons p0 r IH =>
  obtain ⟨n, k'⟩ := p0
  intro e
  unfold za7 at e
  rw [List.map_cons] at e
  cases hb : x == n with
  | true =>
   have := beq_iff_eq.mp hb; subst this
   refine ⟨k', by simp, ?_⟩
   dsimp only at e
   split at e
   ·rename_i h; simp at e; rw [if_pos h]; exact e.symm
   ·rename_i h; simp at e; rw [if_neg h]; exact e.symm
  | false =>
   have e' : (za7 kf r).lookup x = some k := by
    unfold za7
    dsimp only at e
    split at e <;> simp only [List.lookup_cons, hb] at e <;> exact e
   obtain ⟨k2, a, b⟩ := IH e'
   exact ⟨k2, by rw [List.lookup_cons, hb]; exact a, b⟩
theorem zd5 {scope : Scope} (O : EnvOk env) : (relabel scope env).names = za7 env.kindOf scope.names := by
 unfold relabel za7
 simp only [O.kind, beq_self_eq_true, Bool.and_true]
end
structure CompChk (kf : Kf) (scope : Scope) (target : PySem.Expr) (σc : List (Str × D)) : Prop where
 kind : scope.kind = .function
 loc : ∀ p ∈ scope.names, p.2 = .local -> scope.names.lookup p.1 = some .local
 fr : ∀ p ∈ scope.names, p.2 = .free -> kf p.1 = some .cell
 ce : ∀ p ∈ scope.names, p.2 = .cell -> scope.names.lookup p.1 = some .cell
 one : (scope.names.filter fun p => p.2 == .cell).length <= 1
 tg : ∀ x ∈ zd3 target, scope.names.lookup x ≠ some .free
 σt : ∀ x d, σc.lookup x = some d -> x ∉ zd3 target
structure CCells (names : List (Str × NameKind)) (cells cs : List (Str × Addr)) (oc : List Addr) (C : Addr) (h h' : Heap) : Prop where
 f1 : ∀ x c, cs.lookup x = some c -> (c ∈ oc /\ (x, NameKind.cell) ∈ names) ∨ ((x, NameKind.free) ∈ names /\ cells.lookup x = some c)
 f2 : ∀ x, (x, NameKind.cell) ∈ names -> ∃ c ∈ oc, cs.lookup x = some c
 f3 : ∀ x c, names.lookup x = some .free -> cells.lookup x = some c -> cs.lookup x = some c
 f4 : ∀ x y c, c ∈ oc -> cs.lookup x = some c -> cs.lookup y = some c -> (∀ z, cells.lookup z ≠ some c) -> x = y
 f5 : ∀ c ∈ oc, h'.get? c = some zk7 /\ c = C + 1
 f6 : ∀ b o, h.get? b = some o -> h'.get? b = some o
theorem CCells.of {names : List (Str × NameKind)} {cells : List (Str × Addr)} {C : Addr} {h : Heap} (hC : h.objs.size = C + 1) (ce : ∀ p ∈ names, p.2 = .cell -> names.lookup p.1 = some .cell) (one : (names.filter fun p => p.2 == .cell).length <= 1) :
  ∃ oc, CCells names cells (cellsFrom (C + 1) names (clo cells names [])) oc C h (pushCells h names) := by
 rcases zjr (n := C + 1) (acc := clo cells names []) (h := h) one with ⟨a, b, c⟩ | ⟨x0, a, b, c, d⟩
 ·refine ⟨[], ?_⟩
  rw [a, b]
  exact {
   f1 := fun x c e => by
    rcases zgm e with h | h
    ·cases h
    ·exact .inr h
   f2 := fun x hx => absurd rfl (c _ hx)
   f3 := fun x c hx hc => zdg hc (.inl (mem_of_lookup hx))
   f4 := fun x y c hc => by cases hc
   f5 := fun c hc => by cases hc
   f6 := fun _ _ e => e }
 ·refine ⟨[C + 1], ?_⟩
  rw [b, c]
  exact {
   f1 := fun x c e => by
    rw [List.lookup_cons] at e
    cases hb : x == x0 with
    | true => rw [hb] at e; cases e; rw [beq_iff_eq.mp hb]; exact .inl ⟨.head _, a⟩
    | false =>
     rw [hb] at e
     rcases zgm e with h | h
     ·cases h
     ·exact .inr h
   f2 := fun x hx => by
    have : x = x0 := d _ hx rfl
    subst this
    exact ⟨C + 1, .head _, by simp⟩
   f3 := fun x c hx hc => by
    rw [List.lookup_cons]
    cases hb : x == x0 with
    | true =>
     have := beq_iff_eq.mp hb; subst this
     rw [ce _ a rfl] at hx; cases hx
    | false => exact zdg hc (.inl (mem_of_lookup hx))
   f4 := fun x y c hc e1 e2 hz => by
    have key : ∀ z, ((x0, C + 1) :: clo cells names []).lookup z = some c -> z = x0 := by
     intro z e
     rw [List.lookup_cons] at e
     cases hb : z == x0 with
     | true => exact beq_iff_eq.mp hb
     | false =>
      rw [hb] at e
      rcases zgm e with h | h
      ·cases h
      ·exact absurd h.2 (hz z)
    rw [key x e1, key y e2]
   f5 := fun c hc => by
    rcases List.mem_singleton.mp hc with rfl
    exact ⟨hC ▸ Heap.get?_push_size h rfl, rfl⟩
   f6 := fun b o e => Heap.get?_push_of_some _ e }
section
variable {w : World} {mb : Str -> Option Value} {env : Env} {σ σc : List (Str × D)} {own ownc : Option (Str × List D)} {X Y : List Addr} {h h' : Heap} {scope : Scope} {target : PySem.Expr}
set_option tactic.hygienic true in
theorem Sc.comp {cs : List (Str × Addr)} {oc : List Addr} {C D I : Addr} {hC : Heap} (K : CompChk env.kindOf scope target σc)
  (hσc : ∀ x d, σc.lookup x = some d -> σ.lookup x = some d /\ scope.names.lookup x = some .free) (hoc : ∀ y l, ownc = some (y, l) -> own = some (y, l) /\ scope.names.lookup y = some .free)
  (S : Sc env σ own X Y h) (hk : ∀ b o, h.get? b = some o -> hC.get? b = some o) (G : CCells scope.names env.cells cs oc C hC h')
  (hI : h.get? I = none) (hD : h.get? D = none) (hCn : h.get? C = none) (hC1 : h.get? (C + 1) = none) (hne : D ≠ C + 1 /\ I ≠ C + 1 /\ D ≠ C /\ I ≠ C) (hns : hC.Ns C fun _ => none) (lI : ∃ o, hC.get? I = some o) (lD : ∃ o, hC.get? D = some o) (hlow : 227 < C) :
  Sc (compEnvC scope cs C env) σc ownc (C :: D :: I :: oc ++ X) (D :: I :: Y) h' := by
 have up : ∀ b o, h.get? b = some o -> h'.get? b = some o := fun b o e => G.f6 b o (hk b o e)
 have kind : ∀ x, (compEnvC scope cs C env).kindOf x = (za7 env.kindOf scope.names).lookup x := by
  intro x
  show (relabel scope env).names.lookup x = _
  rw [zd5 S.eok]
 have kfree : ∀ x, scope.names.lookup x = some .free -> (compEnvC scope cs C env).kindOf x = some .cell := by
  intro x e
  rw [kind, zls e]
  have := K.fr _ (mem_of_lookup e) rfl
  simp at this
  simp [this]
 have cellLive : ∀ z c, env.cells.lookup z = some c -> ∃ o, h.get? c = some o := fun z c e => S.live c (S.celX z c e)
 have ocn : ∀ c ∈ oc, h.get? c = none := fun c hc => (G.f5 c hc).2 ▸ hC1
 have ocz : ∀ c ∈ oc, ∀ z, env.cells.lookup z ≠ some c := fun c hc z e => by
  obtain ⟨o, e⟩ := cellLive z c e
  rw [ocn c hc] at e; cases e
 have dead : ∀ b ∈ C :: D :: I :: oc, h.get? b = none := by
  intro b hb
  rcases List.mem_cons.mp hb with rfl | hb; · exact hCn
  rcases List.mem_cons.mp hb with rfl | hb; · exact hD
  rcases List.mem_cons.mp hb with rfl | hb; · exact hI
  exact ocn b hb
 have sub : ∀ b o, b ∈ C :: D :: I :: oc ++ X -> h.get? b = some o -> b ∈ X := by
  intro b o hb e
  rcases List.mem_append.mp hb with hb | hb
  ·rw [dead b hb] at e; cases e
  ·exact hb
 have inX : ∀ a ∈ X, a ∈ C :: D :: I :: oc ++ X := fun a ha => List.mem_append_right _ ha
 exact {
  eok := {
   kind := K.kind
   glob := S.eok.glob
   blt := S.eok.blt
   low := hlow
   cells := fun x c e => by
    rcases G.f1 x c e with ⟨h1, h2⟩ | ⟨h1, h2⟩
    ·rw [(G.f5 c h1).2]
     exact ⟨Nat.lt_succ_of_lt hlow, Nat.succ_ne_self _⟩
    ·refine ⟨(S.eok.cells x c h2).1, ?_⟩
     rintro rfl
     obtain ⟨o, e⟩ := cellLive x _ h2
     rw [hCn] at e; cases e
   apart := fun x y c e1 e2 => by
    rcases G.f1 x c e1 with ⟨h1, _⟩ | ⟨_, h1⟩
    ·exact G.f4 x y c h1 e1 e2 (ocz c h1)
    ·rcases G.f1 y c e2 with ⟨h2, _⟩ | ⟨_, h2⟩
     ·exact G.f4 x y c h2 e1 e2 (ocz c h2)
     ·exact S.eok.apart x y c h1 h2 }
  ns := ⟨_, hns.keeps G.f6⟩
  cel := fun x e => by
   rw [kind] at e
   obtain ⟨k', e1, e2⟩ := zi6 e
   split at e2
   ·rename_i q
    simp only [Bool.and_eq_true, beq_iff_eq] at q
    obtain ⟨rfl, q2⟩ := q
    obtain ⟨c, v, c1, c2⟩ := S.cel x q2
    exact ⟨c, v, G.f3 x c e1 c1, c2.keeps up⟩
   ·subst e2
    obtain ⟨c, hc, e3⟩ := G.f2 x (mem_of_lookup e1)
    exact ⟨c, none, e3, _, (G.f5 c hc).1, rfl⟩
  vars := fun x d e => by
   obtain ⟨e1, e2⟩ := hσc x d e
   obtain ⟨v, v1, v2⟩ := S.vars x d e1
   refine ⟨v, ?_, (v2.sub sub).mono fun b o _ => up b o⟩
   have kc := K.fr _ (mem_of_lookup e2) rfl
   rcases v1 with ⟨q, _⟩ | ⟨_, c, c1, c2⟩
   ·rw [kc] at q; cases q
   ·exact .inr ⟨.inl (kfree x e2), c, G.f3 x c e2 c1, c2.keeps up⟩
  own := fun x ds e => by
   obtain ⟨e1, e2⟩ := hoc x ds e
   obtain ⟨a, vs, n, v1, v2, v3, w1, w2, w3, v4, v5⟩ := S.own x ds e1
   have live : ∀ b, h.get? b = none -> a ≠ b := by
    rintro b q rfl
    rw [q] at v4; cases v4
   refine ⟨a, vs, n, ?_, v2, live C hCn, ?_, ?_, inX a w3, up _ _ v4, (v5.sub sub).mono fun b o _ => up b o⟩
   ·have kc := K.fr _ (mem_of_lookup e2) rfl
    rcases v1 with ⟨q, _⟩ | ⟨_, c, c1, c2⟩
    ·rw [kc] at q; cases q
    ·exact .inr ⟨.inl (kfree x e2), c, G.f3 x c e2 c1, c2.keeps up⟩
   ·intro q
    rcases List.mem_cons.mp q with q | q; · exact live D hD q
    rcases List.mem_cons.mp q with q | q; · exact live I hI q
    exact w1 q
   ·intro y c e3 q
    rcases G.f1 y c e3 with ⟨h1, _⟩ | ⟨_, h1⟩
    ·exact live c (ocn c h1) q.symm
    ·exact w2 y c h1 q
  live := fun a ha => by
   rcases List.mem_append.mp ha with ha | ha
   ·rcases List.mem_cons.mp ha with rfl | ha
    ·obtain ⟨o, _, _, e, _⟩ := hns; exact ⟨o, G.f6 _ _ e⟩
    rcases List.mem_cons.mp ha with rfl | ha
    ·obtain ⟨o, e⟩ := lD; exact ⟨o, G.f6 _ _ e⟩
    rcases List.mem_cons.mp ha with rfl | ha
    ·obtain ⟨o, e⟩ := lI; exact ⟨o, G.f6 _ _ e⟩
    exact ⟨_, (G.f5 a ha).1⟩
   ·obtain ⟨o, e⟩ := S.live a ha; exact ⟨o, up _ _ e⟩
  locX := .head _
  celX := fun x c e => by
   rcases G.f1 x c e with ⟨h1, _⟩ | ⟨_, h1⟩
   ·exact List.mem_append_left _ (.tail _ (.tail _ (.tail _ h1)))
   ·exact inX _ (S.celX x c h1)
  ttX := fun a ha => inX a (S.ttX a ha)
  ttY := fun a ha => .tail _ (.tail _ (S.ttY a ha))
  locY := fun q => by
   rcases List.mem_cons.mp q with q | q; · exact hne.2.2.1 q.symm
   rcases List.mem_cons.mp q with q | q; · exact hne.2.2.2 q.symm
   obtain ⟨o, e⟩ := S.live _ (S.subY _ q)
   exact absurd (hCn.symm.trans e) (by simp)
  celY := fun x c hk e q => by
   rw [kind] at hk
   rcases G.f1 x c e with ⟨h1, _⟩ | ⟨h0, h1⟩
   ·have h2 := (G.f5 c h1).2
    rcases List.mem_cons.mp q with q | q; · exact hne.1 (q.symm.trans h2)
    rcases List.mem_cons.mp q with q | q; · exact hne.2.1 (q.symm.trans h2)
    obtain ⟨o, e⟩ := S.live _ (S.subY _ q)
    rw [ocn c h1] at e; cases e
   ·obtain ⟨o, e2⟩ := cellLive x c h1
    rcases List.mem_cons.mp q with q | q; · rw [q, hD] at e2; cases e2
    rcases List.mem_cons.mp q with q | q; · rw [q, hI] at e2; cases e2
    exact S.celY x c (K.fr _ h0 rfl) h1 q
  subY := fun a ha => by
   rcases List.mem_cons.mp ha with rfl | ha; · exact .tail _ (.head _)
   rcases List.mem_cons.mp ha with rfl | ha; · exact .tail _ (.tail _ (.head _))
   exact inX a (S.subY a ha) }
end
end
section
theorem znt {step : D -> Option (Option D)} {ds : List D} {i : Nat} {d : D} {rest : List D} (hd : ds[i]? = some d) (h : zbw step (ds.drop i) = some rest) :
  (∃ e r', step d = some (some e) /\ zbw step (ds.drop (i + 1)) = some r' /\ rest = e :: r') ∨ (step d = some none /\ zbw step (ds.drop (i + 1)) = some rest) := by
 obtain ⟨hi, rfl⟩ := List.getElem?_eq_some_iff.mp hd
 rw [List.drop_eq_getElem_cons hi] at h
 generalize ds[i] = d at *
 generalize ds.drop (i + 1) = l at *
 refine (show zac (zbw step (d :: l)) fun rest => (∃ e r', step d = some (some e) /\ zbw step l = some r' /\ rest = e :: r') ∨ (step d = some none /\ zbw step l = some rest) from ?_) rest h
 show zac (match step d with | some (some e) => (match zbw step l with | some es => some (e :: es) | none => none) | some none => zbw step l | none => none) _
 rcases he : step d with _ | _ | e
 ·exact .no
 ·exact fun r q => .inr ⟨rfl, q⟩
 ·dsimp only
  rcases hes : zbw step l with _ | es
  ·exact .no
  ·exact .so (.inl ⟨e, es, rfl, rfl, rfl⟩)
theorem RepA.snoc {X : List Addr} {h : Heap} {v : Value} {d : D} {vs : List Value} {ds : List D} (x : RepA X h vs ds) (r : Rep X h v d) : RepA X h (vs ++ [v]) (ds ++ [d]) := x.append (.cons r .nil)
section
variable {w : World} {mb : Str -> Option Value} {A : Around} {E : Value -> Shared -> Prop} {s : Shared} {env : Env} {σ σc : List (Str × D)} {own ownc : Option (Str × List D)} {X Y : List Addr} {scope : Scope} {target elt iter : PySem.Expr} {ifs : List PySem.Expr} {pos : Pos}
noncomputable abbrev zu4 (ifs : List PySem.Expr) (env : Env) : Sem Bool := forIn ifs true fun c r => if r = true then do let ok <- isTrue c env (eval c env); pure (ForInStep.yield ok) else pure (ForInStep.yield r)
structure Turn (w : World) (mb : Str -> Option Value) (A : Around) (kfc : Kf) (ownc : Option (Str × List D)) (σc : List (Str × D)) (target elt : PySem.Expr) (ifs : List PySem.Expr) (d : D) (r : Option D) : Prop where
 ok : ∃ σ1 b, za8 kfc ownc σc target d = some σ1 /\
  (∀ cenv X' Y' s', (∀ x, cenv.kindOf x = kfc x) -> Sc cenv σ1 ownc X' Y' s'.heap -> Base w mb s'.heap -> Tot w mb A cenv.locals (zu4 ifs cenv) s' (fun ok _ => ok = b)) /\
  (b = true -> ∃ e, r = some e /\ ∀ cenv X' Y' s', (∀ x, cenv.kindOf x = kfc x) -> Sc cenv σ1 ownc X' Y' s'.heap -> Base w mb s'.heap -> Tot w mb A cenv.locals (eval elt cenv) s' (fun u h' => Rep X' h' u e)) /\ (b = false -> r = none)
theorem ze9 {kf : Kf} {own : Option (Str × List D)} {y : Str} {e : PySem.Expr} {d : D} {σ σ1 : List (Str × D)} (q : zgr kf own σ e d = some σ1) (hy : ∀ x p, e = .Name x p -> x ≠ y) : σ1.lookup y = σ.lookup y :=
 (show zac (zgr kf own σ e d) fun σ1 => σ1.lookup y = σ.lookup y from by
  cases e with
  | Name x p =>
   refine .ite fun _ => ?_
   have : (y == x) = false := by simpa using (hy x p rfl).symm
   rw [zbv, List.lookup_cons, this]
  | _ => exact .no) σ1 q
theorem zjt {kf : Kf} {own : Option (Str × List D)} {y : Str} {es : List PySem.Expr} : ∀ {ds : List D} {σ σ1 : List (Str × D)}, zgq kf own σ es ds = some σ1 -> (∀ x p, PySem.Expr.Name x p ∈ es -> x ≠ y) -> σ1.lookup y = σ.lookup y := by
 induction es with
 | nil =>
  intro ds σ σ1 q _
  obtain ⟨_, rfl⟩ := zgp q
  rfl
 | cons e es ih =>
  intro ds σ σ1 q hy
  obtain ⟨d, ds, σ2, rfl, q1, q2⟩ := zew q
  exact (ih q2 fun x p hm => hy x p (.tail _ hm)).trans (ze9 q1 fun x p e => hy x p (e ▸ .head _))
theorem zjs {kf : Kf} {own : Option (Str × List D)} {y : Str} {t : PySem.Expr} {d : D} {σ σ1 : List (Str × D)} (q : za8 kf own σ t d = some σ1) (hy : y ∉ zd3 t) : σ1.lookup y = σ.lookup y := by
 cases t with
 | Tuple es n p =>
  cases d with
  | tup ds => exact zjt (es := es) q fun x p hm e => hy (e ▸ List.mem_filterMap.mpr ⟨_, hm, rfl⟩)
  | _ => exact zaf q
 | Name x p => exact ze9 (kf := kf) (own := own) (e := .Name x p) (d := d) q fun x' p' e q => hy (by cases e; rw [q]; exact List.Mem.head [])
 | _ => exact zaf q
inductive CInv (w : World) (mb : Str -> Option Value) (cenv : Env) (X' Y' : List Addr) (σc : List (Str × D)) (ownc : Option (Str × List D)) (step : D -> Option (Option D)) (ds ls : List D) (s : Shared) (aD : Addr) (St : Nat -> Heap -> Prop) (k : Nat) (s' : Shared) : Prop
 | mk (H : Heap) (tk : Nat) (ys : List Value) (n0 : Nat) (es rest : List D) (i : Nat) (e : s' = { s with heap := H, toks := tk }) (st : St i H) (hi : i <= ds.length) (hk : k = ds.length + 1 - i) (gD : H.get? aD = some (zbz ys n0)) (rA : RepA X' H ys es) (hle : es.length <= i)
   (hrest : zbw step (ds.drop i) = some rest) (hls : ls = es ++ rest) (Sc1 : Sc cenv σc ownc X' Y' H) (B1 : Base w mb H) (keep : ∀ b o, b ∉ TT -> s.heap.get? b = some o -> H.get? b = some o)
set_option tactic.hygienic true in
theorem zqz {d : D} {v : Value} {ds ls : List D} {step : D -> Option (Option D)} {RR : Value -> Addr -> Result -> Shared -> Prop}
  (hh : A.handled = none) (K : CompChk env.kindOf scope target σc) (hsz : ds.length <= sizeLine)
  (hσc : ∀ x d, σc.lookup x = some d -> σ.lookup x = some d /\ scope.names.lookup x = some .free) (hoc : ∀ y l, ownc = some (y, l) -> own = some (y, l) /\ scope.names.lookup y = some .free)
  (S : Sc env σ own X Y s.heap) (B : Base w mb s.heap) (r : Rep X s.heap v d) (hd : zeo d = some ds) (hl : zbw step ds = some ls)
  (turn : ∀ d r, step d = some r -> Turn w mb A (fun x => (za7 env.kindOf scope.names).lookup x) ownc σc target elt ifs d r)
  (hRR : ∀ D C N h' tk m' ys n, (∀ a ∈ N, s.heap.get? a = none /\ ∃ o, h'.get? a = some o) -> C ∈ N -> 227 < C -> D ∉ N -> 227 < D /\ s.heap.get? D = none -> h'.Ns C m' -> h'.get? D = some (zbz ys n) -> RepA (D :: N ++ X) h' ys ls ->
   (∀ b o, b ∉ TT -> s.heap.get? b = some o -> h'.get? b = some o) -> Base w mb h' -> RR (.ref D) C (.ok .next) { s with heap := h', toks := tk }) :
  wpAny (model pg w) A (pyIter v) (fun it s₂ => wpAny (model pg w) A (newList []) (fun acc s₃ => wpAny (model pg w) A (newFunctionEnv scope env.globals (clo env.cells scope.names []) [] env.qual none .none (some env)) (fun cenv s₄ =>
   codeAny (model pg w) A (.compStart (.ListComp elt [⟨target, iter, ifs, 0⟩] scope pos) 0 it acc { cenv with scope := relabel scope env }) (RR acc cenv.locals) s₄) E s₃) E s₂) E s := by
 refine zh3 hh hd S.live r fun oI fp St hfr hIter => ?_
 have W := (hIter A hh)
 refine wpAny_newObj_type (zsl ?_)
 dsimp only
 -- the heaps
 generalize hHI : s.heap.push oI = HI at W
 have sI : HI.objs.size = s.heap.objs.size + 1 := by rw [<- hHI, Heap.size_push]
 generalize hHD : HI.push { cls := .type "list", dict := none, data := .seq ([] : List Value).toArray } = HD
 have sD : HD.objs.size = s.heap.objs.size + 2 := by rw [<- hHD, Heap.size_push, sI]
 generalize hHC : HD.push zkz = HC
 have sC : HC.objs.size = HD.objs.size + 1 := by rw [<- hHC, Heap.size_push]
 have kI : ∀ b o, s.heap.get? b = some o -> HI.get? b = some o := fun b o e => hHI ▸ Heap.get?_push_of_some _ e
 have kD : ∀ b o, HI.get? b = some o -> HD.get? b = some o := fun b o e => hHD ▸ Heap.get?_push_of_some _ e
 have kC : ∀ b o, HD.get? b = some o -> HC.get? b = some o := fun b o e => hHC ▸ Heap.get?_push_of_some _ e
 have k1 : ∀ b o, s.heap.get? b = some o -> HC.get? b = some o := fun b o e => kC b o (kD b o (kI b o e))
 have hnI : s.heap.get? s.heap.objs.size = none := zam (Nat.le_refl _)
 have hnD : s.heap.get? HI.objs.size = none := zam (by rw [sI]; exact Nat.le_succ _)
 have hnC : s.heap.get? HD.objs.size = none := zam (by rw [sD]; exact Nat.le_add_right _ _)
 have hnC1 : s.heap.get? (HD.objs.size + 1) = none := zam (by rw [sD]; exact Nat.le_add_right _ 3)
 obtain ⟨oc, G⟩ := CCells.of (cells := env.cells) (names := scope.names) (C := HD.objs.size) (h := HC) sC K.ce K.one
 generalize hcs : cellsFrom (HD.objs.size + 1) scope.names (clo env.cells scope.names []) = cs at G
 generalize hHP : pushCells HC scope.names = HP at G
 have k2 : ∀ b o, s.heap.get? b = some o -> HP.get? b = some o := fun b o e => G.f6 b o (k1 b o e)
 have gI : HC.get? s.heap.objs.size = some oI := kC _ _ (kD _ _ (hHI ▸ Heap.get?_push_size s.heap hfr))
 have gD : HP.get? HI.objs.size = some (zbz [] 0) := G.f6 _ _ (kC _ _ (hHD ▸ Heap.get?_push_size HI rfl))
 have hns : HC.Ns HD.objs.size fun _ => none := hHC ▸ Heap.Ns.new HD (.type "dict")
 have hlow : 227 < HD.objs.size := by
  obtain ⟨m, o, _, _, e, _⟩ := S.ns
  have := Heap.lt_size e
  have h2 := S.eok.low
  rw [sD]
  exact Nat.lt_of_lt_of_le (Nat.lt_trans h2 this) (Nat.le_add_right _ _)
 have hDneC : HI.objs.size ≠ HD.objs.size := by rw [sI, sD]; exact Nat.ne_of_lt (Nat.lt_succ_self _)
 have sz3 : ∀ {p : Nat}, (p = s.heap.objs.size ∨ p = HI.objs.size ∨ p = HD.objs.size) -> p < HD.objs.size + 1 := fun h => by rw [sI, sD] at h; rw [sD]; lia
 have hIneC : s.heap.objs.size ≠ HD.objs.size := by rw [sD]; exact Nat.ne_of_lt (Nat.lt_add_of_pos_right (by decide))
 have hIneD : s.heap.objs.size ≠ HI.objs.size := by rw [sI]; exact Nat.ne_of_lt (Nat.lt_succ_self _)
 have S0 := Sc.comp (D := HI.objs.size) K hσc hoc S k1 G hnI hnD hnC hnC1 ⟨Nat.ne_of_lt (sz3 (.inr (.inl rfl))), Nat.ne_of_lt (sz3 (.inl rfl)), hDneC, hIneC⟩ hns ⟨_, gI⟩ ⟨_, kC _ _ (hHD ▸ Heap.get?_push_size HI rfl)⟩ hlow
 have kind : ∀ x, (compEnvC scope cs HD.objs.size env).kindOf x = (za7 env.kindOf scope.names).lookup x := by
  intro x
  show (relabel scope env).names.lookup x = _
  rw [zd5 S.eok]
 generalize hX' : HD.objs.size :: HI.objs.size :: s.heap.objs.size :: oc ++ X = X' at S0
 generalize hY' : HI.objs.size :: s.heap.objs.size :: Y = Y' at S0
 refine byP fun P kP => ?_
 have ocn : ∀ c ∈ oc, s.heap.get? c = none := fun c hc => (G.f5 c hc).2 ▸ hnC1
 have ocl : ∀ c ∈ oc, c ≠ s.heap.objs.size /\ c ≠ HI.objs.size /\ c ≠ HD.objs.size := fun c hc => by
  have h4 : @Eq Nat c (HD.objs.size + 1) := (G.f5 c hc).2
  exact ⟨h4 ▸ Nat.ne_of_gt (sz3 (.inl rfl)), h4 ▸ Nat.ne_of_gt (sz3 (.inr (.inl rfl))), h4 ▸ Nat.ne_of_gt (sz3 (.inr (.inr rfl)))⟩
 have XX : ∀ a ∈ X, a ∈ X' := fun a ha => hX' ▸ List.mem_append_right _ ha
 have subX : ∀ b o, b ∈ X' -> s.heap.get? b = some o -> b ∈ X := by
  intro b o hb e
  rw [<- hX'] at hb
  rcases List.mem_append.mp hb with hb | hb
  ·rcases List.mem_cons.mp hb with rfl | hb; · rw [hnC] at e; cases e
   rcases List.mem_cons.mp hb with rfl | hb; · rw [hnD] at e; cases e
   rcases List.mem_cons.mp hb with rfl | hb; · rw [hnI] at e; cases e
   rw [ocn b hb] at e; cases e
  ·exact hb
 have mC : HD.objs.size ∈ X' := hX' ▸ .head _
 have mD : HI.objs.size ∈ X' := hX' ▸ .tail _ (.head _)
 have mI : s.heap.objs.size ∈ X' := hX' ▸ .tail _ (.tail _ (.head _))
 have mo : ∀ c ∈ oc, c ∈ X' := fun c hc => hX' ▸ List.mem_append_left _ (.tail _ (.tail _ (.tail _ hc)))
 have lowI : 227 < s.heap.objs.size := by rw [sD] at hlow; obtain ⟨m, o, _, _, e, _⟩ := S.ns; exact Nat.lt_trans S.eok.low (Heap.lt_size e)
 have cellsNe : ∀ a, a = s.heap.objs.size ∨ a = HI.objs.size -> ∀ x c, (compEnvC scope cs HD.objs.size env).cells.lookup x = some c -> c ≠ a := by
  intro a ha x c e
  rcases G.f1 x c e with ⟨h1, _⟩ | ⟨_, h1⟩
  ·rcases ha with rfl | rfl
   ·exact (ocl c h1).1
   ·exact (ocl c h1).2.1
  ·obtain ⟨o, e2⟩ := S.live c (S.celX x c h1)
   rintro rfl
   rcases ha with rfl | rfl
   ·rw [hnI] at e2; cases e2
   ·rw [hnD] at e2; cases e2
 have fpOk : ∀ b ∈ fp, b ≠ HI.objs.size /\ b ≠ HD.objs.size /\ b ∉ oc /\ b ∉ TT := by
  intro b hb
  obtain ⟨h1, o, h2⟩ := W.fpX b hb
  have hlt := Heap.lt_size h2
  refine ⟨Nat.ne_of_lt hlt, ?_, fun hc => ?_, fun ht => h1 (S.ttX b ht)⟩
  ·rw [sI] at hlt
   exact Nat.ne_of_lt (Nat.lt_trans hlt (sD ▸ Nat.lt_succ_self _))
  ·exact absurd (G.f5 b hc).2 (Nat.ne_of_lt (Nat.lt_trans hlt (sz3 (.inr (.inl rfl)))))
 have notCode : ∀ {i : Nat} {G : Heap}, St i G -> ∀ o vs, G.get? s.heap.objs.size = some o -> o.data = .fields vs -> o.cls ≠ .type "code" := fun st o vs e _ => by
  obtain ⟨o', T, e', c1, _, c2⟩ := W.quiet _ _ st
  cases Option.some.inj (e'.symm.trans e)
  rw [c1]
  exact fun q => c2 (by cases q; rfl)
 have loop : ∀ s₀ : Shared, s₀ = { s with heap := HP, toks := s.toks } -> codeAny (model pg w) A (.compLoop (.ListComp elt [⟨target, iter, ifs, 0⟩] scope pos) 0 (.ref s.heap.objs.size) (.ref HI.objs.size) (compEnvC scope cs HD.objs.size env))
   (RR (.ref HI.objs.size) HD.objs.size) s₀ := by
  rintro s₀ rfl
  refine zdq (CInv w mb (compEnvC scope cs HD.objs.size env) X' Y' σc ownc step ds ls s HI.objs.size St) ?_ (ds.length + 1)
   ⟨HP, s.toks, [], 0, [], ls, 0, rfl, ?_, Nat.zero_le _, rfl, gD, .nil, Nat.le_refl _, hl, rfl, S0, B.keeps k2, fun b o _ e => k2 b o e⟩
  ·intro k s' F
   obtain ⟨H, tk, ys, n0, es, rest, i, rfl, st, hi, rfl, gD, rA, hle, hrest, hls, Sc1, B1, keep⟩ := F
   by_cases hlt : i < ds.length
   ·refine W.W.item i _ _ _ hlt st fun v1 H1 tk1 hv st1 kp1 => ?_
    have keep1 : ∀ b o, b ≠ s.heap.objs.size -> H.get? b = some o -> H1.get? b = some o := fun b o hb e => kp1 b o (by simpa using hb) e
    refine zdr ((W.quiet _ _ st1).imp fun _ => Exists.imp fun _ x => ⟨x.1, x.2.1, x.2.2.1⟩) ?_
    obtain ⟨d1, hd1, r1⟩ := hv
    have Sc2 : Sc (compEnvC scope cs HD.objs.size env) σc ownc X' Y' H1 := by
     refine Sc1.chg (Z := [s.heap.objs.size]) (fun b o hb e => keep1 b o (by simpa using hb) e) (fun a ha => by rw [List.mem_singleton.mp ha]; exact mI) (fun a ha => ?_) fun a ha => ?_
     ·rw [List.mem_singleton.mp ha]
      exact ⟨hIneC, cellsNe _ (.inl rfl), .inl (hY' ▸ .tail _ (.head _))⟩
     ·rw [List.mem_singleton.mp ha]
      obtain ⟨o, _, e, _⟩ := W.quiet _ _ st1
      exact ⟨o, e⟩
    have B2 : Base w mb H1 := B1.but (a := s.heap.objs.size) keep1 lowI (notCode st)
    have hst : ∀ b o, b ∉ TT -> s.heap.get? b = some o -> H1.get? b = some o := fun b o hb e => keep1 b o (fun q => by subst q; rw [hnI] at e; cases e) (keep b o hb e)
    have r1' : Rep X' H1 v1 d1 := (r1.sub subX).mono fun b o hb e => hst b o (fun q => hb (XX b (S.ttX b q))) e
    -- the step
    obtain ⟨rr, hstep, hres⟩ : ∃ rr, step d1 = some rr /\ ((∃ e r', rr = some e /\ zbw step (ds.drop (i + 1)) = some r' /\ rest = e :: r') ∨ (rr = none /\ zbw step (ds.drop (i + 1)) = some rest)) := by
     rcases znt hd1 hrest with ⟨e, r', a, b, c⟩ | ⟨a, b⟩
     ·exact ⟨_, a, .inl ⟨e, r', rfl, b, c⟩⟩
     ·exact ⟨_, a, .inr ⟨rfl, b⟩⟩
    obtain ⟨σ1, bb, hb1, htest, hyes, hno⟩ := (turn d1 rr hstep).ok
    have hWok : ∀ x ∈ zd3 target, WOk (compEnvC scope cs HD.objs.size env) (HD.objs.size :: oc) x := by
     intro x hx
     refine ⟨fun _ => .head _, fun hk c e => ?_⟩
     rw [kind] at hk
     obtain ⟨k', e1, e2⟩ := zi6 hk
     split at e2
     ·rename_i q
      simp only [Bool.and_eq_true, beq_iff_eq] at q
      exact absurd (q.1 ▸ e1) (K.tg x hx)
     ·subst e2
      obtain ⟨c2, hc2, e3⟩ := G.f2 x (mem_of_lookup e1)
      have e' : cs.lookup x = some c := e
      rw [e'] at e3; cases e3
      exact .tail _ hc2
    have hkf : (compEnvC scope cs HD.objs.size env).kindOf = fun x => (za7 env.kindOf scope.names).lookup x := funext kind
    have hWX : ∀ a ∈ HD.objs.size :: oc, a ∈ X' := fun a ha => by
     rcases List.mem_cons.mp ha with rfl | ha
     ·exact mC
     ·exact mo a ha
    refine TotX.use (zik (s := { s with heap := H1, toks := tk1 }) (W := HD.objs.size :: oc) (σ' := σ1) hh (hkf ▸ hb1) Sc2 B2 r1' hWX hWok) fun _ H2 tk2 ch2 B3 S3 => (htest _ X' Y' _ kind S3 B3).use fun ok H3 tk3 kp3 B4 hok => ?_
    subst hok
    have kk : ∀ b o, b ∉ TT -> b ≠ HD.objs.size -> b ∉ oc -> H1.get? b = some o -> H3.get? b = some o := fun b o h1 h2 h3 e =>
     kp3.1 b o h2 h1 (ch2 b o (fun q => (List.mem_cons.mp q).elim h2 h3) e)
    have kX : ∀ b o, b ∉ X' -> H.get? b = some o -> H3.get? b = some o := fun b o hb e => kk b o (fun q => hb (XX b (S.ttX b q))) (fun q => hb (q ▸ mC)) (fun q => hb (mo b q)) (keep1 b o (fun q => hb (q ▸ mI)) e)
    have hst3 : ∀ b o, b ∉ TT -> s.heap.get? b = some o -> H3.get? b = some o := fun b o hb e => kk b o hb (fun q => by subst q; rw [hnC] at e; cases e) (fun q => by rw [ocn b q] at e; cases e) (hst b o hb e)
    have Doc : HI.objs.size ∉ oc := fun q => (ocl _ q).2.1 rfl
    have DTT : HI.objs.size ∉ TT := zaq (by rw [sI]; exact Nat.lt_succ_of_lt lowI)
    have gD3 : H3.get? HI.objs.size = some (zbz ys n0) := kk _ _ DTT hDneC Doc (keep1 _ _ (Ne.symm hIneD) gD)
    have st3 : St (i + 1) H3 := W.W.frame _ _ _ st1 fun b hb o e => kk b o (fpOk b hb).2.2.2 (fpOk b hb).2.1 (fpOk b hb).2.2.1 e
    have S4 := S3.kp kp3 B4
    have less : ∀ x d, σc.lookup x = some d -> σ1.lookup x = some d := fun x d e => by rw [zjs hb1 (K.σt x d e)]; exact e
    cases ok with
    | false =>
     have hn := hno rfl
     rcases hres with ⟨e, r', a, _⟩ | ⟨_, hr⟩
     ·rw [hn] at a; cases a
     exact z2t ⟨ds.length + 1 - (i + 1), Nat.sub_lt_sub_left (Nat.lt_succ_of_lt hlt) (Nat.lt_succ_self i), H3, tk3, ys, n0, es, rest, i + 1, rfl, st3, hlt, rfl, gD3, rA.mono kX, Nat.le_succ_of_le hle, hr, hls, S4.less less, B4, hst3⟩
    | true =>
     obtain ⟨e, hre, helt⟩ := hyes rfl
     rcases hres with ⟨e', r', a, hr, hrest'⟩ | ⟨a, _⟩
     ·rw [hre] at a; cases a
      refine zy2 ((helt _ X' Y' _ kind S4 B4).use fun u H4 tk4 kp4 B5 ru => ?_)
      have gD4 : H4.get? HI.objs.size = some (zbz ys n0) := kp4.1 _ _ hDneC DTT gD3
      refine wpAny_list_append_plain (items := ys.toArray) ⟨n0, gD4⟩ (fun H5 hp hs => ?_) (by rw [List.size_toArray, rA.length]; lia)
      obtain ⟨n5, gD5⟩ := hp
      have k5 : ∀ b o, b ≠ HI.objs.size -> H4.get? b = some o -> H5.get? b = some o := hs.extBut
      have k45 : ∀ b o, b ∉ X' -> H3.get? b = some o -> H5.get? b = some o := fun b o hb e => k5 b o (fun q => hb (q ▸ mD)) (kp4.1 b o (fun q => hb (q ▸ mC)) (fun q => hb (XX b (S.ttX b q))) e)
      refine ⟨ds.length + 1 - (i + 1), Nat.sub_lt_sub_left (Nat.lt_succ_of_lt hlt) (Nat.lt_succ_self i), H5, tk4, ys ++ [u], n5, es ++ [e], r', i + 1, rfl, ?_, hlt, rfl, ?_, ?_, ?_, hr, by rw [hls, hrest', List.append_assoc]; rfl, ?_, ?_, ?_⟩
      ·exact W.W.frame _ _ _ st3 fun b hb o e => k5 b o (fpOk b hb).1 (kp4.1 b o (fpOk b hb).2.1 (fpOk b hb).2.2.2 e)
      ·rw [gD5]; simp
      ·exact RepA.snoc ((rA.mono kX).mono k45) (ru.mono fun b o hb e => k5 b o (fun q => hb (q ▸ mD)) e)
      ·rw [List.length_append]; exact Nat.succ_le_succ hle
      ·refine ((S4.kp kp4 B5).less less).chg (Z := [HI.objs.size]) (fun b o hb e => k5 b o (by simpa using hb) e) (fun a ha => by rw [List.mem_singleton.mp ha]; exact mD) (fun a ha => ?_) fun a ha => ?_
       ·rw [List.mem_singleton.mp ha]
        exact ⟨hDneC, cellsNe _ (.inr rfl), .inl (hY' ▸ .head _)⟩
       ·rw [List.mem_singleton.mp ha]
        exact ⟨_, gD5⟩
      ·exact B5.but k5 (by rw [sI]; exact Nat.lt_succ_of_lt lowI) fun o vs q1 q2 => by rw [gD4] at q1; cases q1; cases q2
      ·exact fun b o hb e => k5 b o (fun q => by subst q; rw [hnD] at e; cases e) (kp4.1 b o (fun (q : b = HD.objs.size) => by subst q; rw [hnC] at e; cases e) hb (hst3 b o hb e))
     ·rw [hre] at a; cases a
   ·obtain rfl : i = ds.length := Nat.le_antisymm hi (Nat.not_lt.mp hlt)
    refine W.W.done _ _ _ st fun H1 tk1 kp1 => ?_
    have keep1 : ∀ b o, b ≠ s.heap.objs.size -> H.get? b = some o -> H1.get? b = some o := fun b o hb e => kp1 b o (by simpa using hb) e
    rw [List.drop_length] at hrest
    cases hrest
    rw [List.append_nil] at hls
    subst hls
    have B2 : Base w mb H1 := B1.but (a := s.heap.objs.size) keep1 lowI (notCode st)
    obtain ⟨m', hm⟩ := Sc1.ns
    refine hRR HI.objs.size HD.objs.size (HD.objs.size :: oc) H1 tk1 m' ys n0 (fun a ha => ⟨?_, ?_⟩) (.head _) hlow ?_ ⟨by rw [sI]; exact Nat.lt_succ_of_lt lowI, hnD⟩ (hm.at' fun o e => keep1 _ o (Ne.symm hIneC) e) (keep1 _ _ (Ne.symm hIneD) gD)
     ((rA.mono fun b o hb e => keep1 b o (fun q => hb (q ▸ mI)) e).sub fun b o hb _ => ?_) (fun b o hb e => keep1 b o (fun q => by subst q; rw [hnI] at e; cases e) (keep b o hb e)) B2
    ·rcases List.mem_cons.mp ha with rfl | ha
     ·exact hnC
     ·exact ocn a ha
    ·rcases List.mem_cons.mp ha with rfl | ha
     ·obtain ⟨o, e⟩ := Sc1.live _ mC
      exact ⟨o, keep1 _ _ (Ne.symm hIneC) e⟩
     ·obtain ⟨o, e⟩ := Sc1.live _ (mo a ha)
      exact ⟨o, keep1 _ _ (ocl a ha).1 e⟩
    ·intro q
     rcases List.mem_cons.mp q with q | q
     ·exact hDneC q
     ·exact (ocl _ q).2.1 rfl
    ·rcases List.mem_append.mp hb with hb | hb
     ·rcases List.mem_cons.mp hb with rfl | hb; · exact mD
      rcases List.mem_cons.mp hb with rfl | hb; · exact mC
      exact mo b hb
     ·exact XX b hb
  ·exact W.W.frame _ _ _ W.st fun b hb o e => G.f6 b o (kC b o (kD b o e))
 exact kP (codeAny_compStart_list (loop _ rfl) (W.W.self 0 _ _ _ (W.W.frame _ _ _ W.st fun b hb o e => G.f6 b o (kC b o (kD b o e))) (loop _ rfl)))
end
end
section
section
variable {w : World} {mb : Str -> Option Value}
noncomputable def zjw (w : World) (mb : Str -> Option Value) (v : Value) : Prop := ∀ {A : Around} {pos : Pos} {first : List Value} {args : List (Bool × Sem Value)} {Q : Value -> Shared -> Prop} {E : Value -> Shared -> Prop} {s : Shared}, args.any (·.1) = false ->
 wpAny (model pg w) A (evalArgs v true args []) (fun a s₁ => Base w mb s₁.heap /\ wpAny (model pg w) A (call v (first ++ a.pos) a.kw) Q E s₁) E s -> wpAny (model pg w) A (callWith pos v first args []) Q E s
noncomputable def zyx (h h' : Heap) : Prop := ∀ b o, b ∉ TT -> h.get? b = some o -> h'.get? b = some o
noncomputable def zfi (w : World) (mb : Str -> Option Value) (K : Nat) (v : Value) (args : List D) (r : D) : Prop := ∀ (A : Around) (s : Shared) (X : List Addr) (vs : List Value), Rm A K -> Base w mb s.heap -> (∀ a ∈ X, ∃ o, s.heap.get? a = some o) -> (∀ a ∈ TT, a ∈ X) -> RepA X s.heap vs args ->
 wpAny (model pg w) A (call v vs []) (Post s (zyx s.heap) (Base w mb) fun u h' => Rep X h' u r) (fun _ _ => False) s
structure Hyps (w : World) (mb : Str -> Option Value) (K : Nat) (O : Orc) : Prop where
 six : 6 <= K
 fn : ∀ f args r, O.fn f args = some r -> ∃ v, nsIn (KK w) mainGlobals f = some (some v) /\ zjw w mb v /\ zfi w mb K v args r
 me : ∀ m fs args r, O.me m fs args = some r -> ∃ v, zjw w mb v /\ zfi w mb K v (.ins fs :: args) r /\
  ∀ {A : Around} {s : Shared} {X : List Addr} {ov : Value} {pl : Sem Bool} {Q : Value × List Value -> Shared -> Prop} {E : Value -> Shared -> Prop}, Base w mb s.heap -> Rep X s.heap ov (.ins fs) -> Q (v, [ov]) s -> wpAny (model pg w) A (getMethod ov m pl) Q E s
 bl : ∀ f l d k, O.bl f l = some (d, k) -> zcx w f l d k
 attr : ∀ {A : Around} {s : Shared} {X : List Addr} {ov : Value} {fs : List (Str × D)} {a : Str} {d : D} {Q : Value -> Shared -> Prop} {E : Value -> Shared -> Prop}, Base w mb s.heap -> Rep X s.heap ov (.ins fs) -> insNames.contains a = true -> fs.lookup a = some d -> (∀ v tk, Rep X s.heap v d -> Q v { s with toks := tk }) -> wpAny (model pg w) A (getAttr ov a true) Q E s
noncomputable def zca (w : World) (mb : Str -> Option Value) (K : Nat) (O : Orc) (n : Nat) : Prop := ∀ {A : Around} {env : Env} {σ : List (Str × D)} {own : Option (Str × List D)} {X Y : List Addr} {s : Shared} {e : PySem.Expr} {d : D} {k : Kd}, Rm A K -> Sc env σ own X Y s.heap -> Base w mb s.heap ->
 zaa O n ⟨env.kindOf, σ, own⟩ e = some (d, k) -> Tot w mb A env.locals (eval e env) s (fun v h' => Res X Y env.locals s.heap h' v d k)
variable {K : Nat} {O : Orc} {n : Nat} {A : Around} {env : Env} {σ : List (Str × D)} {own : Option (Str × List D)} {X Y : List Addr} {s : Shared} {d : D} {k : Kd}
theorem zdj {c : Cx} {e : PySem.Expr} {r : D × Kd} (q : zaa O n c e = some r) : ∀ a b, e ≠ .Starred a b := by
 rintro a b rfl
 cases n with
 | zero => exact zaf q
 | succ n => exact zaf q
theorem zpd {c : Cx} {e : PySem.Expr} {r : D × Kd} (q : zaa O n c e = some r) : ∀ a b c d, e ≠ .Slice a b c d := by
 rintro a b c d rfl
 cases n with
 | zero => exact zaf q
 | succ n => exact zaf q
theorem zfn {α β : Type} {f : α -> Option β} {a : α} {as : List α} {l : List β} {P : List β -> Prop} (q : zb5 f (a :: as) = some l) (k : ∀ b bs, f a = some b -> zb5 f as = some bs -> P (b :: bs)) : P l :=
 (show zac (zb5 f (a :: as)) P from by
  unfold zb5
  cases h1 : f a with
  | none => exact .no
  | some b =>
   cases h2 : zb5 f as with
   | none => exact .no
   | some bs => exact .so (k b bs h1 h2)) l q
theorem zci (ih : zca w mb K O n) (hA : Rm A K) : ∀ {es : List PySem.Expr} {l : List (D × Kd)} {s : Shared} {pos : Pos}, Sc env σ own X Y s.heap -> Base w mb s.heap -> zb5 (zaa O n ⟨env.kindOf, σ, own⟩) es = some l ->
  Tot w mb A env.locals (spliced (backTo pos (starEach es env))) s (fun vs h' => ArgA X Y env.locals h' vs l) := by
 intro es
 induction es with
 | nil =>
  intro l s pos S B q
  obtain rfl := Option.some.inj q
  exact ⟨Calls.spliced_nil ⟨_, _, rfl, .refl, B, .nil⟩⟩
 | cons e es rec =>
  intro l s pos S B q
  refine zfn (P := fun l => Tot w mb A env.locals (spliced (backTo pos (starEach (e :: es) env))) s (fun vs h' => ArgA X Y env.locals h' vs l)) q fun b bs hb hbs => ⟨wpAny_items_cons ?_ (zcm (zdj hb))⟩
  exact (ih hA S B hb).use fun v h1 tk1 k1 b1 r1 => (rec (s := { s with heap := h1, toks := tk1 }) (S.kp k1 b1) b1 hbs).use fun vs h2 tk2 k2 b2 r2 => ⟨h2, tk2, rfl, k1.trans k2, b2, .cons (r1.kp S.locX S.ttX k2) r2⟩
theorem zbk {c : Cx} : ∀ {es : List PySem.Expr} {l : List (D × Kd)}, zb5 (zaa O n c) es = some l -> ∀ e ∈ es, ∀ a b, e ≠ PySem.Expr.Starred a b := by
 intro es
 induction es with
 | nil => intro l _ e he; cases he
 | cons e0 es rec =>
  intro l q e he
  exact zfn (P := fun _ => ∀ a b, e ≠ PySem.Expr.Starred a b) q fun b bs hb hbs => (List.mem_cons.mp he).elim (fun h => h ▸ zdj hb) fun h => rec hbs e h
theorem zcp {l : List (D × Kd)} (h : zag l = true) : ∀ p ∈ l, p.2 ≠ Kd.brw := fun p hp => of_decide_eq_true (List.all_eq_true.mp h p hp)
theorem ArgA.repY {L : Addr} {h : Heap} (hy : ∀ a ∈ Y, a ∈ X) : ∀ {vs : List Value} {r : List (D × Kd)}, ArgA X Y L h vs r -> RepA Y h vs (r.map (·.1))
 | _, _, .nil => .nil
 | _, _, .cons a r => .cons (a.repY hy) (ArgA.repY hy r)
theorem Rep.scalH {h h' : Heap} {v : Value} {d : D} {X Y : List Addr} (r : Rep X h v d) (hs : scalar d = true) : Rep Y h' v d := by
 have := r.inv
 clear r
 cases d with
 | none => exact (show v = _ from this) ▸ .none
 | bool b => exact (show v = _ from this) ▸ .bool b
 | int i => obtain ⟨t, rfl⟩ := this; exact .int ..
 | flt i => obtain ⟨t, rfl⟩ := this; exact .flt ..
 | str i => obtain ⟨t, rfl⟩ := this; exact .str ..
 | _ => cases hs
theorem Rep.scalar {h : Heap} {v : Value} {d : D} {X Y : List Addr} (r : Rep X h v d) (hs : scalar d = true) : Rep Y h v d := r.scalH hs
noncomputable abbrev BinT (w : World) (mb : Str -> Option Value) (A : Around) (L : Addr) (X Y : List Addr) (s : Shared) (op : Operator) (u v : Value) (r : D × Kd) : Prop := Tot w mb A L (binaryOp op u v) s (fun v h' => Res X Y L s.heap h' v r.1 r.2)
theorem zuy {L : Addr} {op : Operator} {a b : D} {u v : Value} {k1 k2 : Kd} {h0 h1 : Heap} (hA : A.handled = none) (B : Base w mb s.heap) (hX : ∀ a ∈ X, ∃ o, s.heap.get? a = some o) (r1 : Res X Y L h0 s.heap u a k1) (r2 : Res X Y L h1 s.heap v b k2) : zac (zit op a b) (BinT w mb A L X Y s op u v) := by
 cases a with
 | int i =>
  refine r1.int' fun t => ?_
  cases b with
  | int j => exact r2.int' fun t2 => .map fun d e => zil (X := X) hA e B
  | flt j => exact r2.flt' fun t2 => .map fun d e => zuv (X := X) e B
  | _ => exact .no
 | flt i =>
  refine r1.flt' fun t => ?_
  cases b with
  | int j => exact r2.int' fun t2 => .map fun d e => zuw (X := X) e B
  | flt j => exact r2.flt' fun t2 => .map fun d e => zux (X := X) hA e B
  | _ => exact .no
 | str i =>
  refine r1.str' fun t => ?_
  cases b with
  | int j => exact r2.int' fun t2 r e => let ⟨q1, q2⟩ := zus (w := w) (mb := mb) (A := A) (L := L) (X := X) (t := t) (u := t2) e B; by obtain ⟨d, k⟩ := r; cases q2; exact q1
  | str j => exact r2.str' fun t2 r e => let ⟨q1, q2⟩ := zrj (w := w) (mb := mb) (A := A) (L := L) (X := X) (t := t) (u := t2) e B; by obtain ⟨d, k⟩ := r; cases q2; exact q1
  | _ => exact .no
 | lst i =>
  cases b with
  | int j => exact r2.int' fun t2 r e => zuu e B hX r1
  | lst j => exact fun r e => zut e B hX r1 r2
  | _ => exact .no
 | _ => exact .no
theorem zt2 (ih : zca w mb K O n) (hA : Rm A K) (S : Sc env σ own X Y s.heap) (B : Base w mb s.heap) {l r : PySem.Expr} {op : Operator} {pos : Pos} {a b : D} {k1 k2 : Kd}
  (q1 : zaa O n ⟨env.kindOf, σ, own⟩ l = some (a, k1)) (q2 : zaa O n ⟨env.kindOf, σ, own⟩ r = some (b, k2)) (q : zit op a b = some (d, k)) :
  Tot w mb A env.locals (eval (.BinOp l op r pos) env) s (fun v h' => Res X Y env.locals s.heap h' v d k) :=
 ⟨wpAny_BinOp ((ih hA S B q1).use fun u h1 tk1 K1 b1 r1 => (ih (s := { s with heap := h1, toks := tk1 }) hA (S.kp K1 b1) b1 q2).use fun v h2 tk2 K2 b2 r2 =>
  (zuy (s := { s with heap := h2, toks := tk2 }) hA.hh b2 ((S.kp K1 b1).kp K2 b2).live (r1.kp S.locX S.ttX K2) r2 (d, k) q).use fun z h3 tk3 K3 b3 r3 => ⟨h3, tk3, rfl, (K1.trans K2).trans K3, b3, r3.from S.locX S.ttX (K1.trans K2)⟩)⟩
end
end
section
noncomputable def vD : Value -> Option D
 | .int i _ => some (.int i)
 | .float a _ => some (.flt a)
 | .str a _ => some (.str a)
 | _ => none
theorem zzd {v : Value} {d : D} (h : vD v = some d) (X : List Addr) (g : Heap) : Rep X g v d := by
 cases v with
 | int i t => exact Option.some.inj h ▸ .int ..
 | float i t => exact Option.some.inj h ▸ .flt ..
 | str i t => exact Option.some.inj h ▸ .str ..
 | _ => exact zaf h
theorem zqk (w : World) {x : Str} {d : D} (e : zeq.lookup x = some d) : ∃ v, nsIn (KK w) mainGlobals x = some (some v) /\ ∀ X h, Rep X h v d := by
 have h1 : zeq.map (fun p => (nsIn (KK w) mainGlobals p.1).bind (·.bind vD)) = zeq.map fun p => some p.2 := by kernel_rfl
 have h2 := List.map_inj_left.mp h1 _ (mem_of_lookup e)
 revert h2
 dsimp only
 generalize nsIn (KK w) mainGlobals x = o
 intro h2
 cases o with
 | none => exact zaf h2
 | some o =>
  cases o with
  | none => exact zaf h2
  | some v => exact ⟨v, rfl, zzd h2⟩
section
variable {w : World} {mb : Str -> Option Value} {K : Nat} {O : Orc} {n : Nat} {A : Around} {env : Env} {σ : List (Str × D)} {own : Option (Str × List D)} {X Y : List Addr} {s : Shared} {d : D} {k : Kd}
theorem zb4 {x : Str} (h : zax x = true) : (x == ("__classdict__" : Str)) = false /\ (x == ("__debug__" : Str)) = false := by
 unfold zax at h
 simp only [Bool.and_eq_true, Bool.not_eq_true'] at h
 exact ⟨h.2, h.1⟩
set_option tactic.hygienic true in
theorem zxv (S : Sc env σ own X Y s.heap) (B : Base w mb s.heap) {x : Str} {pos : Pos} (q : zja ⟨env.kindOf, σ, own⟩ x = some (d, k)) :
  Tot w mb A env.locals (eval (.Name x pos) env) s (fun v h' => Res X Y env.locals s.heap h' v d k) := by
 unfold zja at q
 split at q
 ·rename_i hn
  obtain ⟨n1, n2⟩ := zb4 hn
  have glob : ∀ {r : Option D}, env.kindOf x = some .globalImplicit -> r = zeq.lookup x -> r.map (·, Kd.froz) = some (d, k) -> Tot w mb A env.locals (eval (.Name x pos) env) s (fun v h' => Res X Y env.locals s.heap h' v d k) := by
   intro r hk hr e
   obtain ⟨d1, e1, e2⟩ := Option.map_eq_some_iff.mp e
   obtain ⟨rfl, rfl⟩ := Prod.mk.inj e2
   rw [hr] at e1
   obtain ⟨v, v1, v2⟩ := zqk w e1
   exact ⟨zd8 S.eok B hk v1 n2 ⟨_, _, rfl, .refl, B, v2 _ _⟩⟩
  simp only at q
  split at q
  ·rename_i d1 e1
   obtain ⟨rfl, rfl⟩ := Prod.mk.inj (Option.some.inj q)
   obtain ⟨v, v1, v2⟩ := S.vars x d1 e1
   exact Tot.name S.eok B v1 n1 n2 v2
  ·cases own with
   | none =>
    simp only at q
    split at q
    ·rename_i hk
     exact glob hk rfl q
    ·cases q
   | some p =>
    obtain ⟨y, ds⟩ := p
    simp only at q
    split at q
    ·rename_i hxy
     subst hxy
     obtain ⟨rfl, rfl⟩ := Prod.mk.inj (Option.some.inj q)
     obtain ⟨a, vs, n, v1, v2, v3, w1, w2, w3, v4, v5⟩ := S.own x ds rfl
     exact Tot.name S.eok B v1 n1 n2 ⟨a, vs, n, ds, rfl, rfl, zaq v2, v3, w1, v4, v5⟩
    ·split at q
     ·rename_i hk
      exact glob hk rfl q
     ·cases q
 ·cases q
theorem zkw (B : Base w mb s.heap) {c : Const} {m : Nat} {pos : Pos} {d : D} (q : zjq c = some d) :
  Tot w mb A env.locals (eval (.Constant c m pos) env) s (fun v h' => Rep X h' v d) := by
 constructor
 cases c <;> simp only [zjq, Option.some.injEq] at q
 all_goals first | cases q; done | skip
 ·subst q; exact wpAny_Constant_none ⟨_, _, rfl, .refl, B, .none⟩
 ·subst q; exact wpAny_Constant_bool ⟨_, _, rfl, .refl, B, .bool _⟩
 ·subst q; exact wpAny_Constant_int ⟨_, _, rfl, .refl, B, .int ..⟩
 ·subst q; exact PySem.wpAny_Constant_float ⟨_, _, rfl, .refl, B, .flt ..⟩
 ·subst q; exact wpAny_Constant_str ⟨_, _, rfl, .refl, B, .str ..⟩
end
end
section
noncomputable def zfa (w : World) (mb : Str -> Option Value) (K : Nat) (O : Orc) (n : Nat) : Prop := ∀ {A : Around} {env : Env} {σ : List (Str × D)} {own : Option (Str × List D)} {X Y : List Addr} {s : Shared} {e : PySem.Expr} {d : D} {k : Kd} {b : Bool}, Rm A K -> Sc env σ own X Y s.heap -> Base w mb s.heap ->
 zaa O n ⟨env.kindOf, σ, own⟩ e = some (d, k) -> zan d = some b -> Tot w mb A env.locals (isTrue e env (eval e env)) s (fun x _ => x = b)
section
variable {w : World} {mb : Str -> Option Value} {K : Nat} {O : Orc} {n : Nat} {A : Around} {env : Env} {σ : List (Str × D)} {own : Option (Str × List D)} {X Y : List Addr} {s : Shared} {d : D} {k : Kd}
theorem zxw (ih : zca w mb K O n) (hA : Rm A K) (S : Sc env σ own X Y s.heap) (B : Base w mb s.heap) {es : List PySem.Expr} {pos : Pos} {l : List (D × Kd)} (q : zb5 (zaa O n ⟨env.kindOf, σ, own⟩) es = some l)
  (hf : zag l = true) (hz : l.length <= sizeLine) : Tot w mb A env.locals (eval (.List es pos) env) s (fun v h' => Res X Y env.locals s.heap h' v (.lst (l.map (·.1))) .fresh) := by
 constructor
 refine wpAny_List ((zci ih hA S B q).use fun vs h1 tk1 k1 b1 r => ⟨by rw [r.length]; exact hz, ?_⟩)
 have S1 := S.kp k1 b1
 have hn := zby S1.live (Nat.le_refl _)
 refine ⟨_, _, rfl, k1.trans (.of zar), b1.keeps zar, ?_⟩
 refine Res.from (g := h1) ⟨_, vs, 0, _, rfl, rfl, ⟨b1.low, zam (Nat.le_refl _)⟩, hn, Heap.get?_push_size h1 rfl, (r.rep (zcp hf)).push⟩ S.locX S.ttX k1
theorem zt0 (ih : zca w mb K O n) (hA : Rm A K) (S : Sc env σ own X Y s.heap) (B : Base w mb s.heap) {es : List PySem.Expr} {pos : Pos} {m : Nat} {l : List (D × Kd)} (q : zb5 (zaa O n ⟨env.kindOf, σ, own⟩) es = some l)
  (hf : zag l = true) (hz : l.length <= sizeLine) : Tot w mb A env.locals (eval (.Tuple es m pos) env) s (fun v h' => Rep X h' v (.tup (l.map (·.1)))) := by
 constructor
 refine wpAny_Tuple ((zci ih hA S B q).use fun vs h1 tk1 k1 b1 r => ⟨by rw [r.length]; exact hz, ?_⟩)
 have S1 := S.kp k1 b1
 have hn := zby S1.live (Nat.le_refl _)
 refine ⟨_, _, rfl, k1.trans (.of zar), b1.keeps zar, ?_⟩
 exact .tup hn (Heap.get?_push_size h1 rfl) ((r.rep (zcp hf)).mono fun b o _ => zar b o)
theorem zxy (ih : zca w mb K O n) (hA : Rm A K) (S : Sc env σ own X Y s.heap) (B : Base w mb s.heap) {v i : PySem.Expr} {pos : Pos} {a b : D} {k1 k2 : Kd} (q1 : zaa O n ⟨env.kindOf, σ, own⟩ v = some (a, k1))
  (q2 : zaa O n ⟨env.kindOf, σ, own⟩ i = some (b, k2)) (q : zh4 a b = some d) : Tot w mb A env.locals (eval (.Subscript v i pos) env) s (fun v h' => Rep X h' v d) := by
 constructor
 refine Subscript_ ((ih hA S B q1).use fun u h1 tk1 K1 b1 r1 => ?_)
 refine (ih hA (S.kp K1 b1) b1 q2).use fun z h2 tk2 K2 b2 r2 => ?_
 dsimp only at r2 K2 ⊢
 refine (zs6 (s := { s with heap := h2, toks := tk2 }) (zpd q2) q b2 (r1.kp S.locX S.ttX K2) r2).use fun y h3 tk3 K3 b3 r3 => ?_
 exact ⟨h3, tk3, rfl, (K1.trans K2).trans K3, b3, r3⟩
theorem zb0 {w : World} {A : Around} {s : Shared} {E : Value -> Shared -> Prop} {env : Env} {Q : Value -> Shared -> Prop} (h : Q .none s) : wpAny (model pg w) A (evalPart none env) Q E s := wpAny_pure h
theorem zqu (ih : zca w mb K O n) (hA : Rm A K) (S : Sc env σ own X Y s.heap) (B : Base w mb s.heap) {v i : PySem.Expr} {p pos : Pos} {a : D} {j : Int} {k1 k2 : Kd} (q1 : zaa O n ⟨env.kindOf, σ, own⟩ v = some (a, k1))
  (q2 : zaa O n ⟨env.kindOf, σ, own⟩ i = some (.int j, k2)) (q : zda a none (some j) = some d) : Tot w mb A env.locals (eval (.Subscript v (.Slice none (some i) none p) pos) env) s (fun v h' => Res X Y env.locals s.heap h' v d .fresh) := by
 constructor
 refine Subscript_ ((ih hA S B q1).use fun u h1 tk1 K1 b1 r1 => ?_)
 refine wpAny_Slice (zb0 ?_)
 have part := ih (s := { s with heap := h1, toks := tk1 }) hA (S.kp K1 b1) b1 q2
 refine Tot.use (t := evalPart (some i) env) part fun z h2 tk2 K2 b2 r2 => r2.int' fun t2 => ?_
 refine zb0 ?_
 have S2 := (S.kp K1 b1).kp K2 b2
 refine (zi1 (s := { s with heap := h2, toks := tk2 }) q b2 S2.live (r1.kp S.locX S.ttX K2) .none (.int ..)).use fun y h3 tk3 K3 b3 r3 => ?_
 have K3' : Kp env.locals h2 h3 := Kp.trans (.of zar) K3
 exact ⟨h3, tk3, rfl, (K1.trans K2).trans K3', b3, r3.from S.locX S.ttX (K1.trans K2)⟩
theorem zqv (ih : zca w mb K O n) (hA : Rm A K) (S : Sc env σ own X Y s.heap) (B : Base w mb s.heap) {v i : PySem.Expr} {p pos : Pos} {a : D} {j : Int} {k1 k2 : Kd} (q1 : zaa O n ⟨env.kindOf, σ, own⟩ v = some (a, k1))
  (q2 : zaa O n ⟨env.kindOf, σ, own⟩ i = some (.int j, k2)) (q : zda a (some j) none = some d) : Tot w mb A env.locals (eval (.Subscript v (.Slice (some i) none none p) pos) env) s (fun v h' => Res X Y env.locals s.heap h' v d .fresh) := by
 constructor
 refine Subscript_ ((ih hA S B q1).use fun u h1 tk1 K1 b1 r1 => ?_)
 refine wpAny_Slice ?_
 have part := ih (s := { s with heap := h1, toks := tk1 }) hA (S.kp K1 b1) b1 q2
 refine Tot.use (t := evalPart (some i) env) part fun z h2 tk2 K2 b2 r2 => r2.int' fun t2 => ?_
 refine zb0 (zb0 ?_)
 have S2 := (S.kp K1 b1).kp K2 b2
 refine (zi1 (s := { s with heap := h2, toks := tk2 }) q b2 S2.live (r1.kp S.locX S.ttX K2) (.int ..) .none).use fun y h3 tk3 K3 b3 r3 => ?_
 have K3' : Kp env.locals h2 h3 := Kp.trans (.of zar) K3
 exact ⟨h3, tk3, rfl, (K1.trans K2).trans K3', b3, r3.from S.locX S.ttX (K1.trans K2)⟩
theorem zmr {v : Value} {b : Bool} (x : Tot w mb A env.locals (truthy v) s (fun x _ => x = b)) (B : Base w mb s.heap) : Tot w mb A env.locals (unaryOp .Not v) s (fun u h' => u = .bool (!b)) := by
 constructor
 unfold unaryOp
 refine wpAny_holding ?_
 show wpAny _ A (truthy v >>= fun t => pure (Value.bool (!t))) _ _ s
 exact wpAny_bind (x.use fun t h1 tk1 k1 b1 e => wpAny_pure ⟨h1, tk1, rfl, k1, b1, by rw [e]⟩)
theorem z1z (ih : zca w mb K O n) (hA : Rm A K) (S : Sc env σ own X Y s.heap) (B : Base w mb s.heap) {x : PySem.Expr} {pos : Pos} {a : D} {k1 : Kd} {b : Bool} (q1 : zaa O n ⟨env.kindOf, σ, own⟩ x = some (a, k1)) (q : zan a = some b) :
  Tot w mb A env.locals (eval (.UnaryOp .Not x pos) env) s (fun v h' => Rep X h' v (.bool (!b))) := by
 constructor
 refine wpAny_UnaryOp ((ih hA S B q1).use fun u h1 tk1 K1 b1 r1 => ?_)
 refine (zmr (s := { s with heap := h1, toks := tk1 }) (zfs q b1 r1) b1).use fun z h2 tk2 K2 b2 e => ?_
 subst e
 exact ⟨h2, tk2, rfl, K1.trans K2, b2, .bool _⟩
theorem z10 (ih : zca w mb K O n) (hA : Rm A K) (S : Sc env σ own X Y s.heap) (B : Base w mb s.heap) {x : PySem.Expr} {pos : Pos} {a : Int} {k1 : Kd} (q1 : zaa O n ⟨env.kindOf, σ, own⟩ x = some (.int a, k1)) :
  Tot w mb A env.locals (eval (.UnaryOp .USub x pos) env) s (fun v h' => Rep X h' v (.int (-a))) := by
 constructor
 refine wpAny_UnaryOp ((ih hA S B q1).use fun u h1 tk1 K1 b1 r1 => ?_)
 refine r1.int' fun t => ?_
 exact PyProof.Rows.neg_int ⟨_, _, rfl, K1, b1, .int ..⟩
theorem room (hA : Rm A K) (h6 : 6 <= K) : A.units + 64 < cLine := by have := hA.u; lia
theorem z11 (ih : zca w mb K O n) (h6 : 6 <= K) (hA : Rm A K) (S : Sc env σ own X Y s.heap) (B : Base w mb s.heap) {l r : PySem.Expr} {op : CmpOp} {pos : Pos} {a b : D} {k1 k2 : Kd} {c : Bool}
  (q1 : zaa O n ⟨env.kindOf, σ, own⟩ l = some (a, k1)) (q2 : zaa O n ⟨env.kindOf, σ, own⟩ r = some (b, k2)) (hm : behindInMarks op r = false) (q : znv op a b = some c) :
  Tot w mb A env.locals (eval (.Compare l [op] [r] pos) env) s (fun v h' => Rep X h' v (.bool c)) /\ Tot w mb A env.locals (isTrue (.Compare l [op] [r] pos) env (eval (.Compare l [op] [r] pos) env)) s (fun x _ => x = c) := by
 constructor
 ·constructor
  refine wpAny_Compare1 ((ih hA S B q1).use fun u h1 tk1 K1 b1 r1 => ?_) hm
  refine (ih hA (S.kp K1 b1) b1 q2).use fun v h2 tk2 K2 b2 r2 => ?_
  dsimp only at r2 K2 ⊢
  refine (zq2 (s := { s with heap := h2, toks := tk2 }) q b2 (room hA h6) (r1.kp S.locX S.ttX K2) r2).use fun z h3 tk3 K3 b3 e => ?_
  subst e
  exact ⟨h3, tk3, rfl, (K1.trans K2).trans K3, b3, .bool _⟩
 ·constructor
  refine wpAny_isTrue_Compare1 ((ih hA S B q1).use fun u h1 tk1 K1 b1 r1 => ?_) hm
  refine (ih hA (S.kp K1 b1) b1 q2).use fun v h2 tk2 K2 b2 r2 => ?_
  dsimp only at r2 K2 ⊢
  refine (zq2 (s := { s with heap := h2, toks := tk2 }) q b2 (room hA h6) (r1.kp S.locX S.ttX K2) r2).use fun z h3 tk3 K3 b3 e => ?_
  subst e
  exact wpAny_truthy_bool ⟨h3, tk3, rfl, (K1.trans K2).trans K3, b3, rfl⟩
theorem z1y (ih : zca w mb K O n) (hA : Rm A K) (S : Sc env σ own X Y s.heap) (B : Base w mb s.heap) {x y : PySem.Expr} {pos : Pos} {a : D} {k1 : Kd} {b : Bool} (q1 : zaa O n ⟨env.kindOf, σ, own⟩ x = some (a, k1)) (q : zan a = some b)
  (q2 : if b = true then (a, k1) = (d, k) else zaa O n ⟨env.kindOf, σ, own⟩ y = some (d, k)) : Tot w mb A env.locals (eval (.BoolOp .Or [x, y] pos) env) s (fun v h' => Res X Y env.locals s.heap h' v d k) := by
 constructor
 refine wpAny_Or2 ((ih hA S B q1).use fun u h1 tk1 K1 b1 r1 => ?_)
 refine (zfs (A := A) (L := env.locals) (s := { s with heap := h1, toks := tk1 }) q b1 r1).use fun z h2 tk2 K2 b2 e => ?_
 subst e
 cases z with
 | true =>
  obtain ⟨rfl, rfl⟩ := Prod.mk.inj q2
  exact ⟨h2, tk2, rfl, K1.trans K2, b2, r1.kp S.locX S.ttX K2⟩
 | false =>
  refine (ih hA ((S.kp K1 b1).kp K2 b2) b2 q2).use fun v h3 tk3 K3 b3 r3 => ?_
  exact ⟨h3, tk3, rfl, (K1.trans K2).trans K3, b3, r3.from S.locX S.ttX (K1.trans K2)⟩
theorem t_Or (ihT : zfa w mb K O n) (hA : Rm A K) (S : Sc env σ own X Y s.heap) (B : Base w mb s.heap) {x y : PySem.Expr} {pos : Pos} {a : D} {k1 : Kd} {b c : Bool} (q1 : zaa O n ⟨env.kindOf, σ, own⟩ x = some (a, k1)) (q : zan a = some b)
  (q2 : if b = true then (a, k1) = (d, k) else zaa O n ⟨env.kindOf, σ, own⟩ y = some (d, k)) (q3 : zan d = some c) : Tot w mb A env.locals (isTrue (.BoolOp .Or [x, y] pos) env (eval (.BoolOp .Or [x, y] pos) env)) s (fun v h' => v = c) := by
 constructor
 refine wpAny_isTrue_BoolOp (wpAny_allTrue_Or_cons ((ihT hA S B q1 q).use fun z h1 tk1 K1 b1 e => ?_))
 subst e
 cases z with
 | true =>
  obtain ⟨rfl, rfl⟩ := Prod.mk.inj q2
  rw [q] at q3; cases q3
  exact ⟨h1, tk1, rfl, K1, b1, rfl⟩
 | false =>
  refine wpAny_allTrue_Or_cons ((ihT hA (S.kp K1 b1) b1 q2 q3).use fun z2 h2 tk2 K2 b2 e => ?_)
  subst e
  cases z2 with
  | true => exact ⟨h2, tk2, rfl, K1.trans K2, b2, rfl⟩
  | false => exact wpAny_allTrue_Or_nil ⟨h2, tk2, rfl, K1.trans K2, b2, rfl⟩
theorem t_Not (ihT : zfa w mb K O n) (hA : Rm A K) (S : Sc env σ own X Y s.heap) (B : Base w mb s.heap) {x : PySem.Expr} {pos : Pos} {a : D} {k1 : Kd} {b : Bool} (q1 : zaa O n ⟨env.kindOf, σ, own⟩ x = some (a, k1)) (q : zan a = some b) :
  Tot w mb A env.locals (isTrue (.UnaryOp .Not x pos) env (eval (.UnaryOp .Not x pos) env)) s (fun v h' => v = !b) := by
 constructor
 rw [arm_isTrue_UnaryOp]
 exact wpAny_bind ((ihT hA S B q1 q).use fun z h1 tk1 K1 b1 e => wpAny_pure ⟨h1, tk1, rfl, K1, b1, by rw [e]⟩)
end
end
section
section
variable {w : World} {mb : Str -> Option Value} {K : Nat} {O : Orc} {n : Nat} {A : Around} {env : Env} {σ : List (Str × D)} {own : Option (Str × List D)} {X Y : List Addr} {s : Shared} {d : D} {k : Kd}
theorem zkm {h h' : Heap} {L : Addr} (hL : 227 < L) (k : ∀ b o, b ∉ TT -> h.get? b = some o -> h'.get? b = some o) : Kp L h h' :=
 ⟨fun b o _ hb e => k b o hb e, fun m n => n.at' fun o e => k _ o (zaq hL) e⟩
theorem ev_Fn (H : Hyps w mb K O) (ih : zca w mb K O n) (hA : Rm A K) (S : Sc env σ own X Y s.heap) (B : Base w mb s.heap) {f : Str} {args : List PySem.Expr} {p pos : Pos} {l : List (D × Kd)} {r : D}
  (hk : env.kindOf f = some .globalImplicit) (hn : zax f = true) (q1 : zb5 (zaa O n ⟨env.kindOf, σ, own⟩) args = some l) (q : O.fn f (l.map (·.1)) = some r) (hf : zag l = true ∨ scalar r = true) :
  Tot w mb A env.locals (eval (.Call (.Name f p) args [] pos) env) s (fun v h' => Rep X h' v r) := by
 obtain ⟨v, v1, v2, v3⟩ := H.fn f _ r q
 constructor
 refine wpAny_Call_Name_kw (zd8 S.eok B hk v1 (zb4 hn).2 ?_)
 refine v2 (za0 (zbk q1)) (zas (zbk q1) ((zci ih hA S B q1).use fun vs h1 tk1 k1 b1 ra => ⟨b1, ?_⟩))
 have S1 := S.kp k1 b1
 rcases hf with hf | hf
 ·refine wpAny_mono (v3 A { s with heap := h1, toks := tk1 } X vs hA b1 S1.live S1.ttX (ra.rep (zcp hf))) (fun u s' hu => ?_) fun _ _ f => f.elim
  obtain ⟨h2, tk2, rfl, k2, b2, r2⟩ := hu
  exact ⟨h2, tk2, rfl, k1.trans (zkm S.eok.low k2), b2, r2⟩
 ·refine wpAny_mono (v3 A { s with heap := h1, toks := tk1 } Y vs hA b1 (fun a ha => S1.live a (S1.subY a ha)) S1.ttY (ra.repY S1.subY)) (fun u s' hu => ?_) fun _ _ f => f.elim
  obtain ⟨h2, tk2, rfl, k2, b2, r2⟩ := hu
  exact ⟨h2, tk2, rfl, k1.trans (zkm S.eok.low k2), b2, r2.scalar hf⟩
set_option tactic.hygienic true in
theorem z12 (H : Hyps w mb K O) (ih : zca w mb K O n) (hA : Rm A K) (S : Sc env σ own X Y s.heap) (B : Base w mb s.heap) {f : Str} {args : List PySem.Expr} {p pos : Pos} {l : List (D × Kd)}
  (hk : env.kindOf f = some .globalImplicit) (hn : zax f = true) (q1 : zb5 (zaa O n ⟨env.kindOf, σ, own⟩) args = some l) (q : zbe (zis f l) (O.bl f l) = some (d, k)) :
  Tot w mb A env.locals (eval (.Call (.Name f p) args [] pos) env) s (fun v h' => Res X Y env.locals s.heap h' v d k) := by
 obtain ⟨v, v1, v2, v3, v4, v5⟩ : zcx w f l d k := by
  unfold zbe at q
  split at q
  ·rename_i hr; cases q; exact zyj hr
  ·exact H.bl f l d k q
 constructor
 refine wpAny_Call_Name_kw (zl1 S.eok B hk v4 v1 v3 (zb4 hn).2 ?_)
 refine zbb v2 (za0 (zbk q1)) (zas (zbk q1) ((zci ih hA S B q1).use fun vs h1 tk1 k1 b1 ra => ?_))
 have S1 := S.kp k1 b1
 refine (v5 mb A env.locals X Y { s with heap := h1, toks := tk1 } vs hA.hh (room hA H.six) b1 S1.live ra).use fun u h2 tk2 k2 b2 r2 => ?_
 exact ⟨h2, tk2, rfl, k1.trans k2, b2, r2.from S.locX S.ttX k1⟩
theorem za6 {o : PySem.Expr} {m : Str} {env : Env} {whole : Sem Value} (h : zbn o = true) : attributeBase o m env whole = whole := by
 cases o with
 | Call f args kw pos =>
  cases f with
  | Name x p =>
   cases args with
   | nil => cases kw with
    | nil => cases h
    | cons => rfl
   | cons => rfl
  | _ => rfl
 | _ => rfl
theorem zd1 {args : List PySem.Expr} {pos : Pos} {env : Env} (ha : ∀ e ∈ args, ∀ a b, e ≠ PySem.Expr.Starred a b) (hl : args.length < 20) :
  ((backTo pos (starEach args env)).all (fun x => !x.1) && (backToKw pos (keywordEach [] env)).all (fun x => x.1.isSome) && decide (args.length + ([] : List Keyword).length + (if ([] : List Keyword).isEmpty then 0 else 1) < 30)) = true := by
 have h1 := za0 (env := env) (pos := pos) ha
 have h2 : (backTo pos (starEach args env)).all (fun x => !x.1) = true := by
  rw [List.all_eq_not_any_not]
  simpa using h1
 rw [h2]
 have h3 : (backToKw pos (keywordEach [] env)).all (fun x => x.1.isSome) = true := rfl
 rw [h3]
 simp
 lia
theorem ev_Me (H : Hyps w mb K O) (ih : zca w mb K O n) (hA : Rm A K) (S : Sc env σ own X Y s.heap) (B : Base w mb s.heap) {o : PySem.Expr} {m : Str} {args : List PySem.Expr} {apos pos : Pos} {fs : List (Str × D)} {k1 : Kd} {l : List (D × Kd)} {r : D}
  (hp : apos.endLine = pos.line) (hl : args.length < 20) (hs : zbn o = true) (q0 : zaa O n ⟨env.kindOf, σ, own⟩ o = some (.ins fs, k1)) (q1 : zb5 (zaa O n ⟨env.kindOf, σ, own⟩) args = some l)
  (hf : zag l = true) (q : O.me m fs (l.map (·.1)) = some r) :
  Tot w mb A env.locals (eval (.Call (.Attribute o m apos) args [] pos) env) s (fun v h' => Rep X h' v r) := by
 obtain ⟨v, v1, v2, v3⟩ := H.me m fs _ r q
 constructor
 rw [arm_eval_Call, za6 hs]
 refine wpAny_bind ((ih hA S B q0).use fun ov h1 tk1 k1 b1 r1 => ?_)
 have S1 := S.kp k1 b1
 have r1' := r1.other nofun
 refine wpAny_bind (wpAny_standAt ?_)
 have hform : methodCallForm (args.length + ([] : List Keyword).length) (backTo pos (starEach args env)) (backToKw pos (keywordEach [] env)) = true := zd1 (zbk q1) hl
 have hpos : methodCallPos true o env apos pos = pure pos := by unfold methodCallPos; simp [hp]
 unfold methodCall
 rw [hform]
 refine wpAny_bind (wpAny_holding (v3 b1 r1' ?_))
 refine wpAny_bind (wpAny_of_eq hpos ?_)
 refine v1 (za0 (zbk q1)) (zas (zbk q1) ((zci ih hA S1 b1 q1).use fun vs h2 tk2 k2 b2 ra => ⟨b2, ?_⟩))
 have S2 := S1.kp k2 b2
 refine wpAny_mono (v2 A { s with heap := h2, toks := tk2 } X (ov :: vs) hA b2 S2.live S2.ttX (.cons (r1'.kp S.locX S.ttX k2) (ra.rep (zcp hf)))) (fun u s' hu => ?_) fun _ _ f => f.elim
 obtain ⟨h3, tk3, rfl, k3, b3, r3⟩ := hu
 exact ⟨h3, tk3, rfl, (k1.trans k2).trans (zkm S.eok.low k3), b3, r3⟩
theorem zx1 (ih : zca w mb K O n) (hA : Rm A K) (S : Sc env σ own X Y s.heap) (B : Base w mb s.heap) {o : PySem.Expr} {apos pos : Pos} {i : Int} {k1 : Kd}
  (hp : apos.endLine = pos.line) (hs : zbn o = true) (q0 : zaa O n ⟨env.kindOf, σ, own⟩ o = some (.int i, k1)) :
  Tot w mb A env.locals (eval (.Call (.Attribute o "bit_length" apos) [] [] pos) env) s (fun v h' => Rep X h' v (.int (Builtin.Int.intBits i))) := by
 constructor
 refine wpAny_Call_method (T := "int") (id := "int.bit_length") (za6 hs) (zd1 (fun _ h => by cases h) (by decide)) (by simp [hp]) PySem.F.plainAttrs_int PySem.F.slot_int_bit_length PySem.F.type_int_bit_length ?_
 refine (ih hA S B q0).use fun ov h1 tk1 k1 b1 r1 => ?_
 refine r1.int' fun t => ?_
 refine ⟨typeIs_int _ _ _, fun a e => (by cases e), ?_⟩
 refine method_gives PySem.F.slot_int_bit_length PySem.F.entry_int_bit_length rfl ?_
 refine zas (es := []) (fun _ h => by cases h) (Calls.spliced_nil ⟨rfl, typeIs_int _ _ _, PySem.F.args_int_bit_length_1 _, _, AutoIntG2.int_bit_length_int_0 _ _, ?_⟩)
 exact ⟨_, _, rfl, k1, b1, .int ..⟩
theorem zx2 (H : Hyps w mb K O) (S : Sc env σ own X Y s.heap) (B : Base w mb s.heap) {o a : Str} {p pos : Pos} {fs : List (Str × D)} (q : σ.lookup o = some (.ins fs)) (hn : zax o = true) (hi : insNames.contains a = true) (q2 : fs.lookup a = some d) :
  Tot w mb A env.locals (eval (.Attribute (.Name o p) a pos) env) s (fun v h' => Rep X h' v d) := by
 constructor
 rw [arm_eval_Attribute, za6 rfl]
 obtain ⟨n1, n2⟩ := zb4 hn
 obtain ⟨v, v1, v2⟩ := S.vars o _ q
 refine wpAny_bind ((Tot.name (L := env.locals) S.eok B v1 n1 n2 (Q := fun u h => u = v /\ h = s.heap) ⟨rfl, rfl⟩).use fun u h1 tk1 k1 b1 e => ?_)
 obtain ⟨rfl, rfl⟩ := e
 refine wpAny_bind (wpAny_standAt (wpAny_bind (wpAny_holding (H.attr b1 v2 hi q2 fun z tk rz => ?_))))
 exact wpAny_bind (wpAny_of_eq rfl (wpAny_pure ⟨_, _, rfl, .refl, b1, rz⟩))
end
end
section
set_option tactic.hygienic true in
theorem zh1 {α : Type} {p : Str -> Bool} {x : Str} {d : α} {l : List (Str × α)} : (l.filter fun q => p q.1).lookup x = some d -> l.lookup x = some d /\ p x = true := by
 induction l with
 | nil =>
  intro e
  cases e
 | cons p0 r IH =>
  obtain ⟨y, e0⟩ := p0
  intro e
  rw [List.filter_cons] at e
  rw [List.lookup_cons]
  split at e
  ·rename_i hp
   rw [List.lookup_cons] at e
   cases hb : x == y with
   | true => rw [hb] at e; have := beq_iff_eq.mp hb; subst this; exact ⟨e, hp⟩
   | false => rw [hb] at e; exact IH e
  ·rename_i hp
   obtain ⟨a, b⟩ := IH e
   cases hb : x == y with
   | true => have := beq_iff_eq.mp hb; subst this; exact absurd b hp
   | false => exact ⟨a, b⟩
theorem ztm {scope : Scope} {σ : List (Str × D)} {x : Str} {d : D} (h : (zb9 scope σ).lookup x = some d) : σ.lookup x = some d /\ scope.names.lookup x = some .free := by
 obtain ⟨a, b⟩ := zh1 (p := fun x => scope.names.lookup x == some .free) h
 exact ⟨a, by simpa using b⟩
theorem ztn {scope : Scope} {own : Option (Str × List D)} {y : Str} {l : List D} (h : zcq scope own = some (y, l)) : own = some (y, l) /\ scope.names.lookup y = some .free := by
 unfold zcq at h
 obtain ⟨a, b⟩ := Option.filter_eq_some_iff.mp h
 exact ⟨a, by simpa using b⟩
theorem znu {kf : Kf} {scope : Scope} {target : PySem.Expr} {σc : List (Str × D)} (h : zbq kf scope target σc = true) : CompChk kf scope target σc := by
 unfold zbq at h
 simp only [Bool.and_eq_true, decide_eq_true_eq] at h
 obtain ⟨⟨⟨⟨h1, h2⟩, h3⟩, h4⟩, h5⟩ := h
 have h2' : ∀ p ∈ scope.names, _ := List.all_eq_true.mp h2
 have h3' : ∀ p ∈ zd3 target, _ := List.all_eq_true.mp h3
 have h5' : ∀ p ∈ σc, _ := List.all_eq_true.mp h5
 simp only [Bool.and_eq_true, decide_eq_true_eq] at h2'
 exact {
  kind := h1
  loc := fun p hp => (h2' p hp).1.1
  fr := fun p hp => (h2' p hp).1.2
  ce := fun p hp => (h2' p hp).2
  one := h4
  tg := fun x hx => of_decide_eq_true (h3' x hx)
  σt := fun x d hx q => by
   have := h5' _ (mem_of_lookup hx)
   simp only [Bool.not_eq_true', List.contains_eq_mem, decide_eq_false_iff_not] at this
   exact this q }
theorem zi8 {iter : PySem.Expr} {env : Env} (h : ze4 iter = true) : ∀ x, foldedSetIterable iter env x = pure x := by
 intro x
 cases iter <;> first | rfl | cases h
section
variable {w : World} {mb : Str -> Option Value} {K : Nat} {O : Orc} {n : Nat} {A : Around} {env : Env} {σ : List (Str × D)} {own : Option (Str × List D)} {X Y : List Addr} {s : Shared} {d : D} {k : Kd}
theorem zll (ihT : zfa w mb K O n) (hA : Rm A K) {kfc : Kf} {σ1 : List (Str × D)} {ownc : Option (Str × List D)} {ifs : List PySem.Expr} {cenv : Env} {X' Y' : List Addr} {s' : Shared} (hk : ∀ x, cenv.kindOf x = kfc x) (S : Sc cenv σ1 ownc X' Y' s'.heap) (B : Base w mb s'.heap) : zac (zd4 (zaa O n) ⟨kfc, σ1, ownc⟩ ifs) fun b => Tot w mb A cenv.locals (zu4 ifs cenv) s' (fun ok _ => ok = b) := by
 obtain rfl : cenv.kindOf = kfc := funext hk
 cases ifs with
 | nil => exact .so ⟨wpAny_tests_nil ⟨_, _, rfl, .refl, B, rfl⟩⟩
 | cons t ifs =>
  cases ifs with
  | cons => exact .no
  | nil =>
   show zac (match zaa O n ⟨cenv.kindOf, σ1, ownc⟩ t with | some (b, _) => zan b | none => none) _
   rcases h0 : zaa O n ⟨cenv.kindOf, σ1, ownc⟩ t with _ | ⟨b0, k0⟩
   ·exact .no
   ·exact fun b ht => ⟨wpAny_tests_one ((ihT hA S B h0 ht).run)⟩
theorem zvv (ih : zca w mb K O n) (ihT : zfa w mb K O n) (hA : Rm A K) {kfc : Kf} {σc : List (Str × D)} {ownc : Option (Str × List D)} {target elt : PySem.Expr} {ifs : List PySem.Expr} {d : D} {r : Option D}
  (q : zdo (zaa O n) kfc σc ownc target elt ifs d = some r) : Turn w mb A kfc ownc σc target elt ifs d r :=
 (show zac (zdo (zaa O n) kfc σc ownc target elt ifs d) (Turn w mb A kfc ownc σc target elt ifs d) from by
  unfold zdo
  rcases hb : za8 kfc ownc σc target d with _ | σ1
  ·exact .no
  ·dsimp only
   rcases ht : zd4 (zaa O n) ⟨kfc, σ1, ownc⟩ ifs with _ | b
   ·exact .no
   ·cases b with
    | false => exact .so ⟨σ1, false, hb, fun cenv X' Y' s' hk S B => zll ihT hA hk S B _ ht, (fun h => nomatch h), fun _ => rfl⟩
    | true =>
     dsimp only
     rcases h0 : zaa O n ⟨kfc, σ1, ownc⟩ elt with _ | ⟨r0, k0⟩
     ·exact .no
     ·refine .ite fun hk0 => ⟨σ1, true, hb, fun cenv X' Y' s' hk S B => zll ihT hA hk S B _ ht, fun _ => ⟨r0, rfl, fun cenv X' Y' s' hk S B => ?_⟩, (fun h => nomatch h)⟩
      obtain rfl : cenv.kindOf = kfc := funext hk
      exact (ih hA S B h0).mono fun v h' _ _ r => r.rep hk0) r q
set_option tactic.hygienic true in
theorem zme (ih : zca w mb K O n) (ihT : zfa w mb K O n) (hA : Rm A K) (S : Sc env σ own X Y s.heap) (B : Base w mb s.heap) {target iter elt : PySem.Expr} {ifs : List PySem.Expr} {scope : Scope} {pos ipos : Pos} {use : Option (Value -> Sem Unit)}
  (q : zk1 (zaa O n) ⟨env.kindOf, σ, own⟩ target iter ifs scope elt (zaa O n ⟨env.kindOf, σ, own⟩ iter) = some (d, k)) {Q : Value -> Shared -> Prop}
  (fin : ∀ ls D C N h' tk m' ys n, d = .lst ls -> k = .fresh -> (∀ a ∈ N, s.heap.get? a = none /\ a ∉ X /\ ∃ o, h'.get? a = some o) -> C ∈ N -> 227 < C -> D ∉ N -> 227 < D /\ s.heap.get? D = none -> D ∉ X -> h'.Ns C m' -> h'.get? D = some (zbz ys n) -> RepA (D :: N ++ X) h' ys ls ->
   Kp env.locals s.heap h' -> Base w mb h' -> compPost (model pg w) A (fun _ _ => False) use Q (.ref D) C (.ok .next) { s with heap := h', toks := tk }) :
  wpAny (model pg w) A (comprehension (.ListComp elt [⟨target, iter, ifs, 0⟩] scope pos) scope env ipos (newList []) false (eval iter env) use) Q (fun _ _ => False) s := by
 unfold zk1 at q
 split at q
 ·rename_i d0 k0 h0
  split at q
  ·rename_i ds hds
   split at q
   ·rename_i hc
    obtain ⟨hk0, hsz, hns, hchk⟩ := hc
    have C0 := znu hchk
    obtain ⟨ls, hls, e⟩ := Option.map_eq_some_iff.mp q
    obtain ⟨rfl, rfl⟩ := Prod.mk.inj e
    have hclos := zef (scope := scope) (env := env) fun p hp hf => by
     obtain ⟨c, v, e, _⟩ := S.cel p.1 (C0.fr p hp hf)
     exact ⟨c, e⟩
    refine wpAny_comprehension_free (g := ⟨target, iter, ifs, 0⟩) (gs := []) rfl (zi8 hns) hclos C0.kind C0.loc ?_
    refine (ih hA S B h0).use fun v h1 tk1 k1 b1 r1 => ?_
    have S1 := S.kp k1 b1
    refine zqz (s := { s with heap := h1, toks := tk1 }) (RR := fun acc C => compPost (model pg w) A (fun _ _ => False) use Q acc C) hA.hh C0 hsz (fun x d h => ztm h) (fun y l h => ztn h) S1 b1 (r1.rep hk0) hds hls (fun d r h => zvv ih ihT hA h) ?_
    intro D C N h' tk m' ys n hN hCN hC hDN hD hns' hDg hR hk hB
    dsimp only at hN hk hD
    have dead : ∀ a, h1.get? a = none -> s.heap.get? a = none /\ a ∉ X := by
     intro a ha
     have hx : a ∉ X := fun q => by obtain ⟨o, e⟩ := S1.live a q; rw [ha] at e; cases e
     refine ⟨?_, hx⟩
     cases e : s.heap.get? a with
     | none => rfl
     | some o =>
      have := k1.1 _ _ (fun (e : a = env.locals) => hx (e ▸ S.locX)) (fun e => hx (S.ttX _ e)) e
      rw [ha] at this; cases this
    exact fin ls D C N h' tk m' ys n rfl rfl (fun a ha => ⟨(dead a (hN a ha).1).1, (dead a (hN a ha).1).2, (hN a ha).2⟩) hCN hC hDN ⟨hD.1, (dead D hD.2).1⟩ (dead D hD.2).2 hns' hDg hR (k1.trans (zkm S.eok.low hk)) hB
   ·cases q
  ·cases q
 ·cases q
theorem zxz (ih : zca w mb K O n) (ihT : zfa w mb K O n) (hA : Rm A K) (S : Sc env σ own X Y s.heap) (B : Base w mb s.heap) {target iter elt : PySem.Expr} {ifs : List PySem.Expr} {scope : Scope} {pos : Pos}
  (q : zk1 (zaa O n) ⟨env.kindOf, σ, own⟩ target iter ifs scope elt (zaa O n ⟨env.kindOf, σ, own⟩ iter) = some (d, k)) :
  Tot w mb A env.locals (eval (.ListComp elt [⟨target, iter, ifs, 0⟩] scope pos) env) s (fun v h' => Res X Y env.locals s.heap h' v d k) := by
 constructor
 rw [eval_ListComp]
 refine zme ih ihT hA S B q ?_
 intro ls D C N h' tk m' ys n hd hk hN hCN hC hDN hD hDX hns hDg hR hKp hB
 subst hd; subst hk
 refine ⟨m', hns, fun h'' hs => ?_⟩
 have k2 : ∀ b o, b ≠ C -> h'.get? b = some o -> h''.get? b = some o := hs.extBut
 have hCX : C ∉ X := (hN C hCN).2.1
 have hCL : C ≠ env.locals := fun e => hCX (e ▸ S.locX)
 have hCs : s.heap.get? C = none := (hN C hCN).1
 have k3 : Kp env.locals s.heap h'' := ⟨fun b o h1 h2 e => k2 b o (fun (q : b = C) => by subst q; rw [hCs] at e; cases e) (hKp.1 b o h1 h2 e), fun m n => (hKp.2 m n).at' fun o e => k2 _ o (Ne.symm hCL) e⟩
 have hB2 : Base w mb h'' := hB.but k2 hC fun o vs e q => by
  obtain ⟨o', es, ep, e1, e2, _⟩ := hns
  rw [e1] at e; cases e; rw [e2] at q; cases q
 refine ⟨h'', tk, rfl, k3, hB2, D, ys, n, ls, rfl, rfl, hD, hDX, k2 _ _ (fun (q : D = C) => hDN (q ▸ hCN)) hDg, ?_⟩
 exact (hR.mono fun b o hb e => k2 b o (fun q => hb (q ▸ List.mem_append_left _ (.tail _ hCN))) e).sub fun b o hb _ => (List.mem_cons.mp hb).elim (fun q => q ▸ .head _) fun q => .tail _ (List.mem_append_right _ q)
theorem zlz {α β : Type} {f : α -> Option β} {l : List α} (q : zb5 f l = some []) : l = [] := by
 cases l with
 | nil => rfl
 | cons a r => exact absurd rfl (zfn (P := fun z => z ≠ []) q fun b bs _ _ => List.cons_ne_nil b bs)
theorem zvz {h : Heap} {vs : List Value} {ds : List D} {ss : List Str} (r : RepA X h vs ds) (e : zfg ds = some ss) : ∃ l : List (Str × Tok), vs = strValues l /\ l.map (·.1) = ss := by
 induction ds generalizing vs ss with
 | nil =>
  obtain rfl := Option.some.inj e
  exact r.nil' ⟨[], rfl, rfl⟩
 | cons d ds ih =>
  cases d with
  | str x =>
   refine r.cons' fun v vs a r => ?_
   refine (show zac (match zfg ds with | some l => some (x :: l) | none => none) fun ss => ∃ l : List (Str × Tok), v :: vs = strValues l /\ l.map (·.1) = ss from ?_) ss e
   rcases hl : zfg ds with _ | l
   ·exact .no
   ·obtain ⟨t, rfl⟩ := a.inv
    obtain ⟨q, rfl, rfl⟩ := ih r hl
    exact .so ⟨(x, t) :: q, rfl, rfl⟩
  | _ => exact zaf e
theorem ze0 {h : Heap} : ∀ (tk : Nat) (xs : List Str), RepA X h (strsFrom tk xs) (xs.map .str)
 | _, [] => .nil
 | tk, x :: r => .cons (.str ..) (ze0 (tk + 1) r)
theorem zxx (ih : zca w mb K O n) (hA : Rm A K) (S : Sc env σ own X Y s.heap) (B : Base w mb s.heap) {o e : PySem.Expr} {apos pos : Pos} {x : Str} {k1 k2 : Kd} {ds : List D} {ss : List Str}
  (hp : apos.endLine = pos.line) (hs : zbn o = true) (q0 : zaa O n ⟨env.kindOf, σ, own⟩ o = some (.str x, k1)) (q1 : zaa O n ⟨env.kindOf, σ, own⟩ e = some (.lst ds, k2)) (hk : k2 ≠ .brw) (hd : zfg ds = some ss) (hj : JoinOk x ss = true) :
  Tot w mb A env.locals (eval (.Call (.Attribute o "join" apos) [e] [] pos) env) s (fun v h' => Rep X h' v (.str (Txt.join x ss))) :=
 have he : ∀ e' ∈ [e], ∀ a b, e' ≠ PySem.Expr.Starred a b := fun e' h => by rw [List.mem_singleton.mp h]; exact zdj q1
 ⟨wpAny_Call_method (T := "str") (id := "str.join") (za6 hs) (zd1 he (by simp)) (by simp [hp]) PySem.F.plainAttrs_str PySem.F.slot_str_join PySem.F.type_str_join ((ih hA S B q0).use fun ov h1 tk1 k1 b1 r1 => r1.str' fun t =>
  ⟨typeIs_str _ _ _, (fun a e => nomatch e), zbb (fun _ h => nomatch h) (za0 he) (zas he ((zci ih hA (s := { s with heap := h1, toks := tk1 }) (S.kp k1 b1) b1 (l := [(.lst ds, k2)]) (by simp [zb5, q1])).use fun us h2 tk2 kk2 b2 ra => ra.one' fun h0 u r => by
   obtain ⟨a, vs, m, rfl, g, rv⟩ := r.list
   obtain ⟨l, rfl, hl⟩ := zvz rv hd
   exact PySem.SC.join (D := a) (l := l) (texts := ss) ⟨_, g, rfl, _, rfl⟩ hl hj fun t' k => ⟨h2, k, rfl, k1.trans kk2, b2, .str ..⟩))⟩)⟩
theorem zk8 {x y : Str} (hc : zcw x y = true) : (decide (x.length < y.length) || decide (Builtin.Str.strKind x < Builtin.Str.strKind y)) = false /\ (y.length == 0) = false /\ (Builtin.Str.occurrences x y 0 x.length (x.length + 1)).isEmpty = false /\ x.length <= sizeLine /\ (ze1 x y).length <= sizeLine := by
 unfold zcw at hc
 simp only [Bool.and_eq_true, Bool.not_eq_true', decide_eq_true_eq] at hc
 exact ⟨hc.1.1.1.1, hc.1.1.1.2, hc.1.1.2, hc.1.2, hc.2⟩
theorem zt1 (ih : zca w mb K O n) (hA : Rm A K) (S : Sc env σ own X Y s.heap) (B : Base w mb s.heap) {o e : PySem.Expr} {apos pos : Pos} {x y : Str} {k1 k2 : Kd}
  (hp : apos.endLine = pos.line) (hs : zbn o = true) (q0 : zaa O n ⟨env.kindOf, σ, own⟩ o = some (.str x, k1)) (q1 : zaa O n ⟨env.kindOf, σ, own⟩ e = some (.str y, k2)) (hc : zcw x y = true) :
  Tot w mb A env.locals (eval (.Call (.Attribute o "split" apos) [e] [] pos) env) s (fun v h' => Rep X h' v (.lst ((ze1 x y).map .str))) :=
 have he : ∀ e' ∈ [e], ∀ a b, e' ≠ PySem.Expr.Starred a b := fun e' h => by rw [List.mem_singleton.mp h]; exact zdj q1
 have c := zk8 hc
 ⟨wpAny_Call_method (T := "str") (id := "str.split") (za6 hs) (zd1 he (by simp)) (by simp [hp]) PySem.F.plainAttrs_str PySem.F.slot_str_split PySem.F.type_str_split ((ih hA S B q0).use fun ov h1 tk1 k1 b1 r1 => r1.str' fun t =>
  ⟨typeIs_str _ _ _, (fun a e => nomatch e), zbb (fun _ h => nomatch h) (za0 he) (zas he ((zci ih hA (s := { s with heap := h1, toks := tk1 }) (S.kp k1 b1) b1 (l := [(.str y, k2)]) (by simp [zb5, q1])).use fun us h2 tk2 kk2 b2 ra => ra.one' fun h0 u r => r.str' fun t2 =>
   call_meets PySem.F.slot_str_split (typeIs_str _ _ _) PySem.F.entry_str_split (PySem.F.args_str_split_2 _ _) (meets_str_split_sep x y _ _ c.1 c.2.1 c.2.2.1 c.2.2.2.1 c.2.2.2.2)
    ⟨_, _, rfl, (k1.trans kk2).trans (.of zar), b2.keeps zar, .lst (zby ((S.kp k1 b1).kp kk2 b2).live (Nat.le_refl _)) (Heap.get?_push_size h2 (o := zbz (strsFrom tk2 (ze1 x y)) 0) rfl) (ze0 _ _)⟩))⟩)⟩
theorem zss {α β : Type} {f : α -> Option β} {b : β} {l : List α} (q : zb5 f l = some [b]) : ∃ a, l = [a] /\ f a = some b := by
 cases l with
 | nil => cases q
 | cons a r => exact zfn (P := fun z => z = [b] -> ∃ c, a :: r = [c] /\ f c = some b) q (fun b' bs h1 h2 e => by
   obtain ⟨rfl, rfl⟩ := List.cons.inj e
   exact ⟨a, by rw [zlz h2], h1⟩) rfl
theorem zxu (ih : zca w mb K O n) (hA : Rm A K) (S : Sc env σ own X Y s.heap) (B : Base w mb s.heap) {o : PySem.Expr} {m : Str} {args : List PySem.Expr} {apos pos : Pos} {d0 : D} {k1 : Kd} {l : List (D × Kd)}
  (hp : apos.endLine = pos.line) (hl : args.length < 20) (hs : zbn o = true) (q0 : zaa O n ⟨env.kindOf, σ, own⟩ o = some (d0, k1)) (q1 : zb5 (zaa O n ⟨env.kindOf, σ, own⟩) args = some l) (hf : zag l = true)
  (q : zkh d0 m (l.map (·.1)) = some d) : Tot w mb A env.locals (eval (.Call (.Attribute o m apos) args [] pos) env) s (fun v h' => Rep X h' v d) :=
 (show zac (zkh d0 m (l.map (·.1))) fun d => Tot w mb A env.locals (eval (.Call (.Attribute o m apos) args [] pos) env) s (fun v h' => Rep X h' v d) from .gen fun P kP => by
  cases d0 with
  | int i =>
   refine .gd fun hm => ?_
   subst hm
   cases l with
   | nil =>
    obtain rfl := zlz q1
    exact .so (kP _ (zx1 ih hA S B hp hs q0))
   | cons => exact .no
  | str x =>
   cases l with
   | nil => exact .two (fun _ => .no) fun _ => .gd fun _ => .no
   | cons a l =>
    obtain ⟨a, k⟩ := a
    cases l with
    | cons => exact .two (fun _ => by cases a <;> exact .no) fun _ => .gd fun _ => by cases a <;> exact .no
    | nil =>
     obtain ⟨e, rfl, q2⟩ := zss q1
     refine .two (fun hm => ?_) fun _ => .gd fun hm => ?_
     ·subst hm
      cases a with
      | lst ds =>
       show zac (match zfg ds with | some ss => if JoinOk x ss = true then some (D.str (Txt.join x ss)) else none | none => none) _
       rcases hss : zfg ds with _ | ss
       ·exact .no
       ·exact .ite fun hj => kP _ <| zxx ih hA S B hp hs q0 q2 (zcp hf _ (.head _)) hss hj
      | _ => exact .no
     ·subst hm
      cases a with
      | str y => exact .ite fun hj => kP _ <| zt1 ih hA S B hp hs q0 q2 hj
      | _ => exact .no
  | _ => exact .no) d q
noncomputable def zhp (w : World) (mb : Str -> Option Value) (A : Around) (env : Env) (X Y : List Addr) (s : Shared) (e : PySem.Expr) (r : D × Kd) : Prop :=
 Tot w mb A env.locals (eval e env) s (fun v h' => Res X Y env.locals s.heap h' v r.1 r.2) /\ ∀ b, zan r.1 = some b -> Tot w mb A env.locals (isTrue e env (eval e env)) s (fun x _ => x = b)
theorem zj2 {e : PySem.Expr} {r : D × Kd} (x : Tot w mb A env.locals (eval e env) s (fun v h' => Res X Y env.locals s.heap h' v r.1 r.2)) (he : isTrue e env (eval e env) = (do let v <- eval e env; standAt e.pos; holding [v] (truthy v))) : zhp w mb A env X Y s e r :=
 ⟨x, fun b hb => ⟨wpAny_isTrue_value (x.use fun v h1 tk1 k1 b1 r1 => (zfs (s := { s with heap := h1, toks := tk1 }) hb b1 r1).use fun z h2 tk2 k2 b2 e => ⟨h2, tk2, rfl, k1.trans k2, b2, e⟩) he⟩⟩
theorem z1x (ih : zca w mb K O n) (hA : Rm A K) (S : Sc env σ own X Y s.heap) (B : Base w mb s.heap) {v i : PySem.Expr} {p : Pos} : zac (zaa O (n + 1) ⟨env.kindOf, σ, own⟩ (.Subscript v i p)) (zhp w mb A env X Y s (.Subscript v i p)) := by
 show zac (match zaa O n ⟨env.kindOf, σ, own⟩ v with
   | some (o, _) => (match i with
    | .Slice none (some b) none _ => (match zaa O n ⟨env.kindOf, σ, own⟩ b with
     | some (.int j, _) => (zda o none (some j)).map (·, Kd.fresh)
     | _ => none)
    | .Slice (some a) none none _ => (match zaa O n ⟨env.kindOf, σ, own⟩ a with
     | some (.int j, _) => (zda o (some j) none).map (·, Kd.fresh)
     | _ => none)
    | .Slice .. => none
    | s => (match zaa O n ⟨env.kindOf, σ, own⟩ s with
     | some (i, _) => (zh4 o i).map (·, Kd.froz)
     | none => none))
   | none => none) _
 rcases h1 : zaa O n ⟨env.kindOf, σ, own⟩ v with _ | ⟨o, k1⟩
 ·exact .no
 ·have item : zac (match zaa O n ⟨env.kindOf, σ, own⟩ i with | some (i, _) => (zh4 o i).map (·, Kd.froz) | none => none) (zhp w mb A env X Y s (.Subscript v i p)) := by
   rcases h2 : zaa O n ⟨env.kindOf, σ, own⟩ i with _ | ⟨q, k2⟩
   ·exact .no
   ·exact .map fun d e1 => zj2 (zxy ih hA S B h1 h2 e1) rfl
  cases i with
  | Slice a b c q =>
   clear item
   cases a with
   | none =>
    cases b with
    | none => exact .no
    | some b =>
     cases c with
     | none =>
      try dsimp only
      rcases h2 : zaa O n ⟨env.kindOf, σ, own⟩ b with _ | ⟨d2, k2⟩
      ·exact .no
      ·cases d2 with
       | int j => exact .map fun d e1 => zj2 (zqu ih hA S B h1 h2 e1) rfl
       | _ => exact .no
     | some c => exact .no
   | some a =>
    cases b with
    | none =>
     cases c with
     | none =>
      try dsimp only
      rcases h2 : zaa O n ⟨env.kindOf, σ, own⟩ a with _ | ⟨d2, k2⟩
      ·exact .no
      ·cases d2 with
       | int j => exact .map fun d e1 => zj2 (zqv ih hA S B h1 h2 e1) rfl
       | _ => exact .no
     | some c => exact .no
    | some b => exact .no
  | _ => exact item
theorem zx0 (H : Hyps w mb K O) (ih : zca w mb K O n) (hA : Rm A K) (S : Sc env σ own X Y s.heap) (B : Base w mb s.heap) {g : PySem.Expr} {args : List PySem.Expr} {p : Pos} : zac (zaa O (n + 1) ⟨env.kindOf, σ, own⟩ (.Call g args [] p)) (zhp w mb A env X Y s (.Call g args [] p)) := by
 cases g with
 | Name f q =>
  show zac (if env.kindOf f = some .globalImplicit /\ zax f = true then (match zb5 (zaa O n ⟨env.kindOf, σ, own⟩) args with | some l => (match O.fn f (l.map (·.1)) with | some r => if zag l = true ∨ scalar r = true then some (r, Kd.froz) else none | none => zbe (zis f l) (O.bl f l)) | none => none) else none) _
  refine .gd fun hc => ?_
  rcases h1 : zb5 (zaa O n ⟨env.kindOf, σ, own⟩) args with _ | l
  ·exact .no
  ·show zac (match O.fn f (l.map (·.1)) with | some r => if zag l = true ∨ scalar r = true then some (r, Kd.froz) else none | none => zbe (zis f l) (O.bl f l)) _
   generalize h2 : O.fn f (l.map (·.1)) = z
   cases z with
   | none => exact fun r q => zj2 (z12 H ih hA S B hc.1 hc.2 h1 q) rfl
   | some r => exact .ite fun hf => zj2 (r := (r, .froz)) (ev_Fn H ih hA S B hc.1 hc.2 h1 h2 hf) rfl
 | Attribute o m q =>
  refine .gd fun hc => ?_
  rcases h0 : zaa O n ⟨env.kindOf, σ, own⟩ o with _ | ⟨d0, k0⟩
  ·exact .no
  ·rcases h1 : zb5 (zaa O n ⟨env.kindOf, σ, own⟩) args with _ | l
   ·cases d0 <;> exact .no
   ·have gen : zac (if zag l = true then (zkh d0 m (l.map (·.1))).map (·, Kd.froz) else none) (zhp w mb A env X Y s (.Call (.Attribute o m q) args [] p)) := .gd fun hf => .map fun d e1 => zj2 (zxu ih hA S B hc.1 hc.2.1 hc.2.2 h0 h1 hf e1) rfl
    cases d0 with
    | ins fs => exact .gd fun hf => .map fun d e1 => zj2 (ev_Me H ih hA S B hc.1 hc.2.1 hc.2.2 h0 h1 hf e1) rfl
    | _ => exact gen
 | _ => exact .no
theorem zhe (H : Hyps w mb K O) (ih : zca w mb K O n) (ihT : zfa w mb K O n) (hA : Rm A K) (S : Sc env σ own X Y s.heap) (B : Base w mb s.heap) {e : PySem.Expr} : zac (zaa O (n + 1) ⟨env.kindOf, σ, own⟩ e) (zhp w mb A env X Y s e) := by
 cases e with
 | Constant c m p => exact .map fun d e1 => zj2 (zkw B e1) rfl
 | Name x p => exact fun r q => zj2 (zxv S B q) rfl
 | BinOp l op r p =>
  show zac (match zaa O n ⟨env.kindOf, σ, own⟩ l with | some (a, _) => (match zaa O n ⟨env.kindOf, σ, own⟩ r with | some (b, _) => zit op a b | none => none) | none => none) _
  rcases h1 : zaa O n ⟨env.kindOf, σ, own⟩ l with _ | ⟨a, k1⟩
  ·exact .no
  ·rcases h2 : zaa O n ⟨env.kindOf, σ, own⟩ r with _ | ⟨b, k2⟩
   ·exact .no
   ·exact fun r q => zj2 (zt2 ih hA S B h1 h2 q) rfl
 | UnaryOp op x p =>
  cases op with
  | Not =>
   show zac (match zaa O n ⟨env.kindOf, σ, own⟩ x with | some (a, _) => (zan a).map fun b => (D.bool (!b), Kd.froz) | none => none) _
   rcases h1 : zaa O n ⟨env.kindOf, σ, own⟩ x with _ | ⟨a, k1⟩
   ·exact .no
   ·exact .map fun b e1 => ⟨z1z ih hA S B h1 e1, fun c hc => Option.some.inj hc ▸ t_Not ihT hA S B h1 e1⟩
  | USub =>
   show zac (match zaa O n ⟨env.kindOf, σ, own⟩ x with | some (.int a, _) => some (D.int (-a), Kd.froz) | _ => none) _
   rcases h1 : zaa O n ⟨env.kindOf, σ, own⟩ x with _ | ⟨a, k1⟩
   ·exact .no
   ·cases a with
    | int a => exact .so (zj2 (z10 ih hA S B h1) rfl)
    | _ => exact .no
  | _ => exact .no
 | Compare l ops rs p =>
  cases ops with
  | nil => exact .no
  | cons op ops =>
   cases ops with
   | cons => exact .no
   | nil =>
    cases rs with
    | nil => exact .no
    | cons r rs =>
     cases rs with
     | cons => exact .no
     | nil =>
      show zac (match zaa O n ⟨env.kindOf, σ, own⟩ l with | some (a, _) => (match zaa O n ⟨env.kindOf, σ, own⟩ r with | some (b, _) => if behindInMarks op r = false then (znv op a b).map fun b => (D.bool b, Kd.froz) else none | none => none) | none => none) _
      rcases h1 : zaa O n ⟨env.kindOf, σ, own⟩ l with _ | ⟨a, k1⟩
      ·exact .no
      ·rcases h2 : zaa O n ⟨env.kindOf, σ, own⟩ r with _ | ⟨b, k2⟩
       ·exact .no
       ·refine .gd fun hm => .map fun b e1 => ?_
        have := z11 (pos := p) ih H.six hA S B h1 h2 hm e1
        exact ⟨this.1, fun c hc => Option.some.inj hc ▸ this.2⟩
 | BoolOp op l p =>
  cases op with
  | And => exact .no
  | Or =>
   cases l with
   | nil => exact .no
   | cons x l =>
    cases l with
    | nil => exact .no
    | cons y l =>
     cases l with
     | cons => exact .no
     | nil =>
      show zac (match zaa O n ⟨env.kindOf, σ, own⟩ x with | some (a, k) => (match zan a with | some true => some (a, k) | some false => zaa O n ⟨env.kindOf, σ, own⟩ y | none => none) | none => none) _
      rcases h1 : zaa O n ⟨env.kindOf, σ, own⟩ x with _ | ⟨a, k1⟩
      ·exact .no
      ·try dsimp only
       rcases ht : zan a with _ | b
       ·exact .no
       ·cases b with
        | true => exact .so ⟨z1y (b := true) ih hA S B h1 ht rfl, fun c hc => t_Or (b := true) (d := a) (k := k1) ihT hA S B h1 ht rfl hc⟩
        | false => exact fun r q => ⟨z1y (b := false) ih hA S B h1 ht q, fun c hc => t_Or (b := false) (d := r.1) (k := r.2) ihT hA S B h1 ht q hc⟩
 | Subscript v i p => exact z1x ih hA S B
 | List es p =>
  show zac (match zb5 (zaa O n ⟨env.kindOf, σ, own⟩) es with | some l => if zag l = true /\ l.length <= sizeLine then some (D.lst (l.map (·.1)), Kd.fresh) else none | none => none) _
  rcases h1 : zb5 (zaa O n ⟨env.kindOf, σ, own⟩) es with _ | l
  ·exact .no
  ·exact .ite fun hc => zj2 (zxw ih hA S B h1 hc.1 hc.2) rfl
 | Tuple es m p =>
  show zac (match zb5 (zaa O n ⟨env.kindOf, σ, own⟩) es with | some l => if zag l = true /\ l.length <= sizeLine then some (D.tup (l.map (·.1)), Kd.froz) else none | none => none) _
  rcases h1 : zb5 (zaa O n ⟨env.kindOf, σ, own⟩) es with _ | l
  ·exact .no
  ·exact .ite fun hc => zj2 (zt0 ih hA S B h1 hc.1 hc.2) rfl
 | ListComp elt gs scope p =>
  cases gs with
  | nil => exact .no
  | cons g gs =>
   obtain ⟨target, iter, ifs, m⟩ := g
   cases m with
   | ofNat m =>
    cases m with
    | zero =>
     cases gs with
     | nil => exact fun r q => zj2 (zxz ih ihT hA S B q) rfl
     | cons => exact .no
    | succ m => exact .no
   | negSucc m => exact .no
 | Attribute o a p =>
  cases o with
  | Name o q =>
   show zac (match σ.lookup o with | some (.ins fs) => if zax o = true /\ insNames.contains a = true then (fs.lookup a).map (·, Kd.froz) else none | _ => none) _
   rcases h1 : σ.lookup o with _ | d0
   ·exact .no
   ·cases d0 with
    | ins fs => exact .gd fun hn => .map fun d e1 => zj2 (zx2 H S B h1 hn.1 hn.2 e1) rfl
    | _ => exact .no
  | _ => exact .no
 | Call g args kw p =>
  cases kw with
  | nil => exact zx0 H ih hA S B
  | cons => cases g <;> exact .no
 | _ => exact .no
theorem zao (H : Hyps w mb K O) (n : Nat) : zca w mb K O n /\ zfa w mb K O n := by
 induction n with
 | zero => exact ⟨fun _ _ _ q => zaf q, fun _ _ _ q _ => zaf q⟩
 | succ n ih => exact ⟨fun hA S B q => (zhe H ih.1 ih.2 hA S B _ q).1, fun hA S B q ht => (zhe H ih.1 ih.2 hA S B _ q).2 _ ht⟩
theorem zud {c : Cx} {elt : PySem.Expr} {g : List Comprehension} {sc : Scope} {cp : Pos} {r : D × Kd} (q : zaa O (n + 1) c (.ListComp elt g sc cp) = some r) : ∃ t i fs, g = [⟨t, i, fs, 0⟩] /\ zk1 (zaa O n) c t i fs sc elt (zaa O n c i) = some r := by
 cases g with
 | nil => exact zaf q
 | cons g gs =>
  obtain ⟨t, i, fs, m⟩ := g
  cases m with
  | ofNat m =>
   cases m with
   | zero =>
    cases gs with
    | nil => exact ⟨t, i, fs, rfl, q⟩
    | cons => exact zaf q
   | succ m => exact zaf q
  | negSucc m => exact zaf q
end
end
section
inductive Fl where
 | next | brk | ret (d : D)
structure St where
 σ : List (Str × D)
 own : Option (Str × List D)
noncomputable def zc1 (kf : Kf) (own : Option (Str × List D)) (x : Str) : Bool := decide (kf x = some .local ∨ kf x = some .cell) && decide (own.map (·.1) ≠ some x)
noncomputable def zsb (mv : List Str) (kf : Kf) (c : St) (x : Str) (r : D × Kd) : Option St :=
 if mv.contains x = true then (match r with
  | (.lst ds, .fresh) => if (c.own.map (·.1) = none ∨ c.own.map (·.1) = some x) /\ (kf x = some .local ∨ kf x = some .cell) then some ⟨rm c.σ x, some (x, ds)⟩ else none
  | _ => none)
 else if zc1 kf c.own x = true /\ r.2 ≠ Kd.brw then some ⟨put c.σ x r.1, c.own⟩ else none
noncomputable def zcc (ev : St -> PySem.Stmt -> Option (St × Fl)) : List PySem.Stmt -> St -> Option (St × Fl)
 | [], c => some (c, .next)
 | st :: r, c => (match ev c st with
  | some (c', .next) => zcc ev r c'
  | x => x)
noncomputable def zbu (kf : Kf) (t : PySem.Expr) (body : St -> Option (St × Fl)) : List D -> St -> Option (St × Fl)
 | [], c => some (c, .next)
 | d :: r, c => (match za8 kf c.own c.σ t d with
  | some σ1 => (match body ⟨σ1, c.own⟩ with
   | some (c2, .next) => zbu kf t body r c2
   | some (c2, .brk) => some (c2, .next)
   | some (c2, .ret d) => some (c2, .ret d)
   | none => none)
  | none => none)
noncomputable def zd9 (ev : Cx -> PySem.Expr -> Option (D × Kd)) (c : Cx) (e : PySem.Expr) : Option (List D) := match e with
 | .Call (.Name f _) [a] [] _ => if f = ("reversed" : Str) then (if c.kf f = some .globalImplicit then (match ev c a with
   | some (.lst l, k) => if k ≠ Kd.brw then some l.reverse else none
   | _ => none) else none)
  else (match ev c e with
   | some (d, k) => if k ≠ Kd.brw then zeo d else none
   | none => none)
 | e => (match ev c e with
  | some (d, k) => if k ≠ Kd.brw /\ ze4 e = true then zeo d else none
  | none => none)
noncomputable def zdt : PySem.Expr -> Bool
 | .Tuple .. => false
 | .ListComp .. => false
 | _ => true
noncomputable def zct : PySem.Expr -> Bool
 | .ListComp .. => false
 | _ => true
theorem zm7 {e : PySem.Expr} (h : zdt e = true) : zct e = true := by
 cases e <;> first | rfl | cases h
noncomputable def zae (O : Orc) (mv : List Str) (kf : Kf) : Nat -> St -> PySem.Stmt -> Option (St × Fl)
 | 0, _, _ => none
 | n + 1, c, st =>
  match st with
  | .Assign [.Name x _] e _ => (match zaa O (n + 1) ⟨kf, c.σ, c.own⟩ e with
   | some r => (zsb mv kf c x r).map (·, .next)
   | none => none)
  | .Assign [.Tuple es k p] e _ => if zdt e = true then (match zaa O n ⟨kf, c.σ, c.own⟩ e with
   | some (d, kd) => if kd ≠ Kd.brw then (za8 kf c.own c.σ (.Tuple es k p) d).map fun σ => (⟨σ, c.own⟩, .next) else none
   | none => none) else none
  | .Assign [.Name x _, .Name y _, .Name z _] e _ => (match zaa O n ⟨kf, c.σ, c.own⟩ e with
   | some (d, kd) => if scalar d = true /\ zdt e = true /\ zc1 kf c.own x = true /\ zc1 kf c.own y = true /\ zc1 kf c.own z = true then some (⟨put (put (put c.σ x d) y d) z d, c.own⟩, .next) else none
   | none => none)
  | .Assign [.Subscript (.Name x _) i _] e _ => (match c.own with
   | some (y, ds) => if x = y /\ zct e = true /\ c.σ.lookup x = none /\ zax x = true then (match zaa O n ⟨kf, c.σ, c.own⟩ e with
    | some (d, kd) => (match zaa O n ⟨kf, c.σ, c.own⟩ i with
     | some (.int j, _) => if kd ≠ Kd.brw /\ 0 <= j /\ j < ds.length /\ j < 2 ^ 62 /\ notSlice i = true then some (⟨c.σ, some (y, ds.set j.toNat d)⟩, .next) else none
     | _ => none)
    | none => none) else none
   | none => none)
  | .Expr (.Call (.Attribute (.Name x _) m apos) args [] pos) _ => (match c.own with
   | some (y, ds) => if x = y /\ apos.endLine = pos.line /\ c.σ.lookup x = none /\ zax x = true /\ ds.length <= sizeLine then
     (match args with
     | [] => if m = ("reverse" : Str) then some (⟨c.σ, some (y, ds.reverse)⟩, .next) else none
     | [e] => if m = ("append" : Str) then (match zaa O n ⟨kf, c.σ, c.own⟩ e with
      | some (d, kd) => if kd ≠ Kd.brw then some (⟨c.σ, some (y, ds ++ [d])⟩, .next) else none
      | none => none) else none
     | _ => none) else none
   | none => none)
  | .If t body orelse _ => (match zaa O n ⟨kf, c.σ, c.own⟩ t with
   | some (d, _) => (match zan d with
    | some true => zcc (zae O mv kf n) body c
    | some false => zcc (zae O mv kf n) orelse c
    | none => none)
   | none => none)
  | .For t iter body [] _ => (match zd9 (zaa O n) ⟨kf, c.σ, c.own⟩ iter with
   | some ds => zbu kf t (zcc (zae O mv kf n) body) ds c
   | none => none)
  | .Return (some e) _ => (match zaa O n ⟨kf, c.σ, c.own⟩ e with
   | some (d, _) => some (c, .ret d)
   | none => none)
  | .Break _ => some (c, .brk)
  | _ => none
where notSlice : PySem.Expr -> Bool
 | .Slice .. => false
 | _ => true
section
variable {w : World} {mb : Str -> Option Value} {K : Nat} {O : Orc} {n : Nat} {A : Around} {env : Env} {σ σ' : List (Str × D)} {own : Option (Str × List D)} {X Y N : List Addr} {s : Shared} {h h' h'' : Heap}
noncomputable def Chs (X Y : List Addr) (h h' : Heap) : Prop := ∀ b o, b ∉ TT -> (b ∉ X ∨ b ∈ Y) -> h.get? b = some o -> h'.get? b = some o
noncomputable def zfp (N : List Addr) (h : Heap) : Prop := ∀ a ∈ N, h.get? a = none
theorem Chs.refl : Chs X Y h h := fun _ _ _ _ e => e
theorem zfp.not {a : Addr} {o : Obj} (x : zfp N h) (e : h.get? a = some o) : a ∉ N := fun q => by rw [x a q] at e; cases e
theorem Chs.trans (x : Chs X Y h h') (y : Chs (N ++ X) Y h' h'') (hn : zfp N h) : Chs X Y h h'' := fun b o h1 h2 e =>
 y b o h1 (h2.imp (fun q m => (List.mem_append.mp m).elim (fun m => hn.not e m) q) id) (x b o h1 h2 e)
theorem Sc.dead (S : Sc env σ own X Y h') (x : Chs X Y h h') (hX : ∀ a ∈ TT, a ∈ X) {a : Addr} (ha : h'.get? a = none) : h.get? a = none := by
 cases e : h.get? a with
 | none => rfl
 | some o =>
  have hx : a ∉ X := fun q => by obtain ⟨o, e⟩ := S.live a q; rw [ha] at e; cases e
  have := x a o (fun q => hx (hX a q)) (.inl hx) e
  rw [ha] at this; cases this
theorem Kp.chs (S : Sc env σ own X Y h) (k : Kp env.locals h h') : Chs X Y h h' := fun b o h1 h2 e =>
 k.1 b o (fun q => h2.elim (fun h => h (q ▸ S.locX)) fun h => S.locY (q ▸ h)) h1 e
noncomputable abbrev XY (X Y : List Addr) : List Addr := X.filter fun a => decide (a ∉ Y)
theorem zdc {a : Addr} : a ∈ XY X Y ↔ a ∈ X /\ a ∉ Y := by simp [XY, List.mem_filter]
theorem Chg.chs (k : Chg (XY X Y) h h') : Chs X Y h h' := fun b o h1 h2 e => k b o (fun q => h2.elim (fun h => h (zdc.mp q).1) (zdc.mp q).2) e
theorem Sc.wokY (S : Sc env σ own X Y h) (x : Str) : WOk env (XY X Y) x := ⟨fun _ => zdc.mpr ⟨S.locX, S.locY⟩, fun hk c e => zdc.mpr ⟨S.celX x c e, S.celY x c hk e⟩⟩
theorem Sc.grow (S : Sc env σ own X Y h) (k : Kp env.locals h h') (B : Base w mb h') (hN : ∀ a ∈ N, h.get? a = none /\ ∃ o, h'.get? a = some o) : Sc env σ own (N ++ X) Y h' := by
 have S1 := S.kp k B
 have sub : ∀ b o, b ∈ N ++ X -> h.get? b = some o -> b ∈ X := fun b o hb e => (List.mem_append.mp hb).elim (fun q => by rw [(hN b q).1] at e; cases e) id
 have inX : ∀ a ∈ X, a ∈ N ++ X := fun a ha => List.mem_append_right _ ha
 exact { S1 with
  vars := fun x d e => let ⟨v, v1, v2⟩ := S.vars x d e; ⟨v, v1.kp S.eok k, (v2.sub sub).kp (inX _ S.locX) (fun a ha => inX a (S.ttX a ha)) k⟩
  own := fun x ds e => let ⟨a, vs, n, v1, v2, v3, w1, w2, w3, v4, v5⟩ := S.own x ds e
   ⟨a, vs, n, v1.kp S.eok k, v2, v3, w1, w2, inX a w3, k.1 _ _ v3 (zaq v2) v4, (v5.sub sub).kp (inX _ S.locX) (fun a ha => inX a (S.ttX a ha)) k⟩
  live := fun a ha => (List.mem_append.mp ha).elim (fun q => (hN a q).2) (S1.live a)
  locX := inX _ S.locX
  celX := fun x c e => inX c (S.celX x c e)
  ttX := fun a ha => inX a (S.ttX a ha)
  subY := fun a ha => inX a (S.subY a ha) }
theorem Sc.noown (S : Sc env σ own X Y h) : Sc env σ none X Y h := { S with own := fun x ds e => by cases e }
inductive Step (w : World) (mb : Str -> Option Value) (env : Env) (X Y : List Addr) (h : Heap) (c : St) (f : Fl) (fl : Flow) (h' : Heap) : Prop
 | mk (b : Base w mb h') (k : Chs X Y h h') (x : match f, fl with
  | .next, .next => ∃ N, zfp N h /\ Sc env c.σ c.own (N ++ X) Y h'
  | .brk, .brk => ∃ N, zfp N h /\ Sc env c.σ c.own (N ++ X) Y h'
  | .ret d, .ret v => Rep Y h' v d
  | _, _ => False)
inductive PostS (w : World) (mb : Str -> Option Value) (env : Env) (X Y : List Addr) (s : Shared) (c : St) (f : Fl) (fl : Flow) (s' : Shared) : Prop
 | mk (h' : Heap) (tk : Nat) (e : s' = { s with heap := h', toks := tk }) (x : Step w mb env X Y s.heap c f fl h')
structure TotS (w : World) (mb : Str -> Option Value) (A : Around) (env : Env) (X Y : List Addr) (t : Sem Flow) (s : Shared) (c : St) (f : Fl) : Prop where
 run : wpAny (model pg w) A t (PostS w mb env X Y s c f) (fun _ _ => False) s
noncomputable def zho (w : World) (mb : Str -> Option Value) (K : Nat) (O : Orc) (mv : List Str) (n : Nat) : Prop := ∀ {A : Around} {env : Env} {X Y : List Addr} {s : Shared} {c c' : St} {st : PySem.Stmt} {f : Fl}, Rm A K -> Sc env c.σ c.own X Y s.heap -> Base w mb s.heap ->
 zae O mv env.kindOf n c st = some (c', f) -> TotS w mb A env X Y (exec st env) s c' f
theorem Step.comp {c1 c : St} {f : Fl} {fl : Flow} (S : Sc env c1.σ c1.own (N ++ X) Y h') (k : Chs X Y h h') (hn : zfp N h) (hT : ∀ a ∈ TT, a ∈ X) (x : Step w mb env (N ++ X) Y h' c f fl h'') : Step w mb env X Y h c f fl h'' := by
 obtain ⟨b, k2, x⟩ := x
 have nn : ∀ {M : List Addr}, zfp M h' -> zfp (M ++ N) h := fun hm a ha => (List.mem_append.mp ha).elim (fun q => by
  have := hm a q
  cases e : h.get? a with
  | none => rfl
  | some o =>
   have hx : a ∉ N ++ X := fun q => by obtain ⟨o, e⟩ := S.live a q; rw [this] at e; cases e
   have h2 := k a o (fun q => hx (List.mem_append_right _ (hT a q))) (.inl fun q => hx (List.mem_append_right _ q)) e
   rw [this] at h2; cases h2) (hn a)
 refine ⟨b, k.trans k2 hn, ?_⟩
 cases f <;> cases fl <;> first
  | exact x.elim
  | exact x
  | (obtain ⟨M, m1, m2⟩ := x; exact ⟨M ++ N, nn m1, by rw [List.append_assoc]; exact m2⟩)
set_option tactic.hygienic true in
theorem zkb {mv : List Str} (ih : zho w mb K O mv n) (hA : Rm A K) {l : List PySem.Stmt} : ∀ {c c' : St} {f : Fl} {X : List Addr} {s : Shared}, Sc env c.σ c.own X Y s.heap -> Base w mb s.heap -> zcc (zae O mv env.kindOf n) l c = some (c', f) ->
  TotS w mb A env X Y (execs l env) s c' f := by
 induction l with
 | nil =>
  intro c c' f X s S B q
  simp only [zcc, Option.some.injEq, Prod.mk.injEq] at q
  obtain ⟨rfl, rfl⟩ := q
  exact ⟨wpAny_execs_nil ⟨_, _, rfl, B, .refl, [], fun _ h => (by cases h), S⟩⟩
 | cons st r IH =>
  intro c c' f X s S B q
  simp only [zcc] at q
  constructor
  refine wpAny_execs_cons ?_
  split at q
  ·rename_i c1 h1
   refine wpAny_mono (ih hA S B h1).run (fun fl s1 x => ?_) fun _ _ f => f.elim
   obtain ⟨h1, tk1, rfl, b1, k1, x⟩ := x
   cases fl with
   | next =>
    obtain ⟨N, n1, S1⟩ := x
    refine wpAny_mono (IH (s := { s with heap := h1, toks := tk1 }) S1 b1 q).run (fun fl2 s2 y => ?_) fun _ _ f => f.elim
    obtain ⟨h2, tk2, rfl, y⟩ := y
    exact ⟨h2, tk2, rfl, y.comp S1 k1 n1 S.ttX⟩
   | _ => exact x.elim
  ·rename_i hne
   refine wpAny_mono (ih hA S B q).run (fun fl s1 x => ?_) fun _ _ f => f.elim
   obtain ⟨h1, tk1, rfl, b1, k1, x⟩ := x
   cases fl with
   | next => 
    cases f with
    | next => exact absurd q (hne c')
    | _ => exact x.elim
   | _ => exact ⟨h1, tk1, rfl, b1, k1, x⟩
end
end
section
section
variable {w : World} {mb : Str -> Option Value} {K : Nat} {O : Orc} {n : Nat} {A : Around} {env : Env} {σ σ' : List (Str × D)} {own : Option (Str × List D)} {X Y N : List Addr} {s : Shared} {h h' h'' : Heap} {d : D} {k : Kd}
theorem zeg {kf : Kf} {x : Str} (h : zc1 kf own x = true) : (kf x = some .local ∨ kf x = some .cell) /\ ∀ ds, own ≠ some (x, ds) := by
 unfold zc1 at h
 simp only [Bool.and_eq_true, decide_eq_true_eq] at h
 exact ⟨h.1, fun ds e => h.2 (by rw [e]; rfl)⟩
theorem XYX : ∀ a ∈ XY X Y, a ∈ X := fun a ha => (zdc.mp ha).1
set_option tactic.hygienic true in
theorem zoz {W : List Addr} {mv : List Str} {c c' : St} {x : Str} {v : Value} {h0 : Heap} (q : zsb mv env.kindOf c x (d, k) = some c') (S0 : Sc env c.σ c.own X Y s.heap) (Sa : ∀ a, h0.get? a = none -> a ∉ X -> (∃ o, s.heap.get? a = some o) -> Sc env c.σ none ([a] ++ X) Y s.heap) (B : Base w mb s.heap)
  (r : Res X Y env.locals h0 s.heap v d k) (hW : WOk env W x) (hWX : ∀ a ∈ W, a ∈ X) : wpAny (model pg w) A (storeName env x v) (fun _ s' => ∃ h' tk, s' = { s with heap := h', toks := tk } /\ Chg W s.heap h' /\ Base w mb h' /\ ∃ N, zfp N h0 /\ Sc env c'.σ c'.own (N ++ X) Y h') (fun _ _ => False) s := by
 unfold zsb at q
 split at q
 ·split at q
  ·rename_i ds e
   obtain ⟨rfl, rfl⟩ := Prod.mk.inj e
   split at q
   ·rename_i hc
    obtain ⟨ho, hk⟩ := hc
    cases q
    obtain ⟨a, vs, m, ds', rfl, e, hn, hx, hg, hr⟩ := r
    cases e
    have S1 : Sc env c.σ none ([a] ++ X) Y s.heap := Sa a hn.2 hx ⟨_, hg⟩
    refine (S1.put (W := W) (v := .ref a) B hk (fun ds e => by cases e) hW).use fun _ h1 tk1 k1 b1 x1 => ?_
    obtain ⟨S2, V⟩ := x1
    refine ⟨h1, tk1, rfl, k1, b1, [a], fun b hb => (by rw [List.mem_singleton.mp hb]; exact hn.2), ?_⟩
    have aX : a ∉ W := fun q => hx (hWX a q)
    have hr2 : RepA ([a] ++ X) h1 vs ds := hr.mono fun b o hb e => k1 b o (fun q => hb (.tail _ (hWX b q))) e
    have hown : ∀ y l, (some (x, ds) : Option (Str × List D)) = some (y, l) -> OwnAt env h1 ([a] ++ X) Y y l := by
     intro y l e
     cases e
     exact ⟨a, vs, m, V, hn.1, fun q => hx (q ▸ S0.locX), fun q => hx (S0.subY a q), fun y c e q => hx (q ▸ S0.celX y c e), .head _, k1 _ _ aX hg, hr2⟩
    exact { S2 with own := hown }
   ·cases q
  ·cases q
 ·split at q
  ·rename_i hc
   cases q
   obtain ⟨hk, ho⟩ := zeg hc.1
   refine (S0.store (W := W) B hk (r.rep hc.2) ho hW hWX).use fun _ h1 tk1 k1 b1 S1 => ?_
   exact ⟨h1, tk1, rfl, k1, b1, [], fun _ h => (by cases h), S1.sig fun y => zbv x d y c.σ⟩
  ·cases q
theorem zol {e : PySem.Expr} {x : Str} {p : Pos} {l : Nat} {c : Cx} {r : D × Kd} (q : zaa O n c e = some r) (h : ∀ a b c d, e ≠ .ListComp a b c d) : swapsWith e (some (.Name x p)) l env = pure false := by
 cases n with
 | zero => cases q
 | succ n =>
  cases e <;> first | rfl | exact absurd rfl (h _ _ _ _) | exact zaf q
theorem zg8 {e : PySem.Expr} {t : PySem.Expr} {l : Nat} {c : Cx} {r : D × Kd} (q : zaa O n c e = some r) (h : zct e = true) : swapsWith e (some t) l env = pure false := by
 cases n with
 | zero => cases q
 | succ n =>
  cases e <;> first | rfl | (cases h; done) | exact zaf q
theorem zom {es : List PySem.Expr} {sc : Scope} {g : List Comprehension} {e : PySem.Expr} {x : Str} {p pos : Pos} {l : Nat} : ∃ b, swapsWith (.ListComp e g sc pos) (some (.Name x p)) l env = pure b /\ (b = true -> env.kindOf x = some .local) := by
 refine ⟨_, rfl, fun h => ?_⟩
 simp only [Bool.and_eq_true, beq_iff_eq] at h
 exact h.1.1.2
end
end
section
section
variable {w : World} {mb : Str -> Option Value} {K : Nat} {O : Orc} {n : Nat} {A : Around} {env : Env} {σ σ' : List (Str × D)} {own : Option (Str × List D)} {X Y N : List Addr} {s : Shared} {h h' h'' : Heap} {d : D} {k : Kd}
theorem Rep.scal {X' : List Addr} {v : Value} (r : Rep X h v d) (hs : Mine.scalar d = true) : Rep X' h' v d := r.scalH hs
theorem Sc.mut {x : Str} {a : Addr} {vs : List Value} {m : Nat} {ds : List D} (S : Sc env σ own X Y h) (V : zbl env h x (.ref a)) (v2 : 227 < a) (v3 : a ≠ env.locals) (w1 : a ∉ Y) (w2 : ∀ y c, env.cells.lookup y = some c -> c ≠ a) (w3 : a ∈ X)
  (hs : Heap.SameBut a h h') (hg : h'.get? a = some (zbz vs m)) (hr : RepA X h' vs ds) : Sc env σ (some (x, ds)) X Y h' := by
 have S1 : Sc env σ none X Y h' := S.noown.chg (Z := [a]) (fun b o hb e => hs.extBut b o (by simpa using hb) e) (fun b hb => by rw [List.mem_singleton.mp hb]; exact w3)
  (fun b hb => by
   rw [List.mem_singleton.mp hb]
   exact ⟨v3, w2, .inr (.inl rfl)⟩) (fun b hb => by rw [List.mem_singleton.mp hb]; exact ⟨_, hg⟩)
 have hown : ∀ y l, (some (x, ds) : Option (Str × List D)) = some (y, l) -> OwnAt env h' X Y y l := by
  intro y l e
  cases e
  exact ⟨a, vs, m, V.but hs v3 w2, v2, v3, w1, w2, w3, hg, hr⟩
 exact { S1 with own := hown }
theorem Sc.drop {X2 Y2 Z : List Addr} (S : Sc env σ own X Y h) (k : ∀ b o, b ∉ Z -> h.get? b = some o -> h'.get? b = some o) (hX : ∀ a ∈ X, a ∉ Z -> a ∈ X2) (hX' : ∀ a ∈ X2, a ∈ X /\ a ∉ Z) (hY : ∀ a ∈ Y2, a ∈ Y /\ a ∈ X2) (hT : ∀ a ∈ TT, a ∈ Y2)
  (hZ : ∀ a ∈ Z, a ≠ env.locals /\ (∀ x c, env.cells.lookup x = some c -> c ≠ a) /\ a ∈ X /\ (a ∈ Y ∨ own = none ∨ ∀ vs n, h.get? a ≠ some (zbz vs n))) : Sc env σ own X2 Y2 h' where
 eok := S.eok
 ns := let ⟨m, n⟩ := S.ns; ⟨m, n.at' fun o e => k _ o (fun q => (hZ _ q).1 rfl) e⟩
 cel := fun x e => let ⟨c, v, e1, o, e2, e3⟩ := S.cel x e; ⟨c, v, e1, o, k c o (fun q => (hZ _ q).2.1 x c e1 rfl) e2, e3⟩
 vars := fun x d e => let ⟨v, v1, v2⟩ := S.vars x d e
  ⟨v, v1.at' (fun o e => k _ o (fun q => (hZ _ q).1 rfl) e) (fun y c o e1 e => k c o (fun q => (hZ _ q).2.1 y c e1 rfl) e), (v2.mono fun b o hb e => k b o (fun q => hb (hZ _ q).2.2.1) e).sub fun b o hb _ => (hX' b hb).1⟩
 own := fun x ds e => let ⟨a, vs, n, v1, v2, v3, w1, w2, w3, v4, v5⟩ := S.own x ds e
  have ha : a ∉ Z := fun q => (hZ _ q).2.2.2.elim w1 fun h => h.elim (fun h => by rw [h] at e; cases e) fun h => h _ _ v4
  ⟨a, vs, n, v1.at' (fun o e => k _ o (fun q => (hZ _ q).1 rfl) e) (fun y c o e1 e => k c o (fun q => (hZ _ q).2.1 y c e1 rfl) e), v2, v3, fun q => w1 (hY a q).1, w2, hX a w3 ha, k _ _ ha v4, (v5.mono fun b o hb e => k b o (fun q => hb (hZ _ q).2.2.1) e).sub fun b o hb _ => (hX' b hb).1⟩
 live := fun a ha => let ⟨o, e⟩ := S.live a (hX' a ha).1; ⟨o, k _ _ (hX' a ha).2 e⟩
 locX := hX _ S.locX fun q => (hZ _ q).1 rfl
 celX := fun x c e => hX _ (S.celX x c e) fun q => (hZ _ q).2.1 x c e rfl
 ttX := fun a ha => (hY a (hT a ha)).2
 subY := fun a ha => (hY a ha).2
 ttY := hT
 locY := fun q => S.locY (hY _ q).1
 celY := fun x c hk e q => S.celY x c hk e (hY _ q).1
theorem zdl {c' : St} (B : Base w mb h') (k : Chs X Y h h') (hn : zfp N h) (S : Sc env c'.σ c'.own (N ++ X) Y h') : Step w mb env X Y h c' .next .next h' := ⟨B, k, N, hn, S⟩
theorem zv1 (H : Hyps w mb K O) {mv : List Str} {c c' : St} {x : Str} {p pos : Pos} {e : PySem.Expr} (hA : Rm A K) (S : Sc env c.σ c.own X Y s.heap) (B : Base w mb s.heap)
  (q1 : zaa O (n + 1) ⟨env.kindOf, c.σ, c.own⟩ e = some (d, k)) (q : zsb mv env.kindOf c x (d, k) = some c') : TotS w mb A env X Y (exec (.Assign [.Name x p] e pos) env) s c' .next := by
 have plain : swapsWith e (some (.Name x p)) pos.line env = pure false -> TotS w mb A env X Y (exec (.Assign [.Name x p] e pos) env) s c' .next := by
  intro hs
  constructor
  rw [exec_Assign_Name (env := env) x p e pos hs]
  refine wpAny_bind (wpAny_standAt (wpAny_bind (((zao H (n + 1)).1 hA S B q1).use fun v h1 tk1 k1 b1 r1 => wpAny_bind (wpAny_standAt (wpAny_bind (wpAny_bindName ?_))))))
  refine wpAny_mono (zoz (s := { s with heap := h1, toks := tk1 }) q (S.kp k1 b1) (fun a ha _ ho => S.noown.grow k1 b1 fun b hb => by rw [List.mem_singleton.mp hb]; exact ⟨ha, ho⟩) b1 r1 ((S.kp k1 b1).wokY x) XYX) (fun _ s2 x2 => ?_) fun _ _ f => f.elim
  obtain ⟨h2, tk2, rfl, k2, b2, N, hn, S2⟩ := x2
  exact wpAny_pure ⟨h2, tk2, rfl, b2, (k1.chs S).trans (N := []) k2.chs (fun _ h => by cases h), N, hn, S2⟩
 by_cases hc : ∃ elt g sc cp, e = .ListComp elt g sc cp
 ·obtain ⟨elt, g, sc, cp, rfl⟩ := hc
  obtain ⟨b, hb, hloc⟩ := zom (env := env) (es := []) (sc := sc) (g := g) (e := elt) (x := x) (p := p) (pos := cp) (l := pos.line)
  cases b with
  | false => exact plain hb
  | true =>
   have hkl := hloc rfl
   obtain ⟨target, iter, ifs, rfl, q1⟩ := zud q1
   ·constructor
    rw [exec_Assign_Name_used (env := env) x p _ pos hb]
    refine wpAny_bind (wpAny_standAt (wpAny_bind ?_))
    show wpAny _ A (do let _ <- comprehension (.ListComp elt [⟨target, iter, ifs, 0⟩] sc cp) sc env _ (newList []) false (eval iter env) (some (assign (.Name x p) env))) _ _ s
    refine wpAny_bind (wpAny_mono (zme (Q := fun _ => PostS w mb env X Y s c' .next .next) (zao H n).1 (zao H n).2 hA S B q1 ?_) (fun _ s' hq => wpAny_pure (wpAny_pure hq)) fun _ _ e => e)
    intro ls D C N h' tk m' ys m hd hk hN hCN hC hDN hD hDX hns hDg hR hKp hB
    subst hd; subst hk
    show wpAny _ A (assign (.Name x p) env (.ref D)) _ _ _
    refine wpAny_assign_Name ?_
    have hCX : C ∉ X := (hN C hCN).2.1
    have hCs := (hN C hCN).1
    have SC : Sc env c.σ c.own ([C] ++ X) Y h' := S.grow hKp hB fun b hb => by rw [List.mem_singleton.mp hb]; exact ⟨hCs, (hN C hCN).2.2⟩
    have hr : Res ([C] ++ X) Y env.locals s.heap h' (.ref D) (.lst ls) .fresh := by
     refine ⟨D, ys, m, ls, rfl, rfl, hD, ?_, hDg, hR.sub fun b o hb _ => ?_⟩
     ·intro q
      rcases List.mem_append.mp q with q | q
      ·exact hDN (List.mem_singleton.mp q ▸ hCN)
      ·exact hDX q
     ·rcases List.mem_cons.mp hb with rfl | hb
      ·exact .head _
      ·rcases List.mem_append.mp hb with hb | hb
       ·rw [List.mem_singleton.mp hb]; exact .tail _ (List.mem_append_left _ hCN)
       ·exact .tail _ (List.mem_append_right _ hb)
    refine wpAny_mono (zoz (s := { s with heap := h', toks := tk }) (X := [C] ++ X) (W := [env.locals]) q SC (fun a ha hax ho => ?_) hB hr ⟨fun _ => .head _, fun hk => by rw [hkl] at hk; cases hk⟩ (fun a ha => by rw [List.mem_singleton.mp ha]; exact SC.locX)) (fun _ s2 x2 => ?_) fun _ _ f => f.elim
    ·have := S.noown.grow (N := [a, C]) hKp hB fun b hb => by
      rcases List.mem_cons.mp hb with rfl | hb
      ·exact ⟨ha, ho⟩
      ·rw [List.mem_singleton.mp hb]; exact ⟨hCs, (hN C hCN).2.2⟩
     exact this
    ·obtain ⟨h2, tk2, rfl, k2, b2, M, hm, S2⟩ := x2
     dsimp only at k2 ⊢
     have hCY : C ∉ Y := fun q => hCX (S.subY C q)
     have hCloc : C ≠ env.locals := fun e => hCX (e ▸ S.locX)
     have k2' : ∀ b o, b ≠ env.locals -> h'.get? b = some o -> h2.get? b = some o := fun b o hb e => k2 b o (by simpa using hb) e
     have hns2 := hns.at' fun o e => k2' C o hCloc e
     refine ⟨m', hns2, fun h3 hs3 => ?_⟩
     have k3 : ∀ b o, b ≠ C -> h2.get? b = some o -> h3.get? b = some o := hs3.extBut
     have notF : ∀ o vs, h2.get? C = some o -> o.data = .fields vs -> o.cls ≠ .type "code" := fun o vs e q => by
      obtain ⟨o', es, ep, e1, e2, _⟩ := hns2
      rw [e1] at e; cases e; rw [e2] at q; cases q
     have notL : ∀ vs n, h2.get? C ≠ some (zbz vs n) := fun vs n e => by
      obtain ⟨o', es, ep, e1, e2, _⟩ := hns2
      rw [e1] at e; cases e; cases e2
     have S3 : ∃ M', zfp M' s.heap /\ Sc env c'.σ c'.own (M' ++ X) Y h3 := by
      refine ⟨M.filter fun a => decide (a ≠ C), fun a ha => hm a (List.mem_filter.mp ha).1, ?_⟩
      refine S2.drop (Z := [C]) (fun b o hb e => k3 b o (by simpa using hb) e) (fun a ha hc => ?_) (fun a ha => ?_) (fun a ha => ⟨ha, List.mem_append_right _ (S.subY a ha)⟩) S.ttY fun a ha => ?_
      ·have hac : a ≠ C := fun q => hc (q ▸ .head _)
       rcases List.mem_append.mp ha with ha | ha
       ·exact List.mem_append_left _ (List.mem_filter.mpr ⟨ha, by simpa using hac⟩)
       ·rcases List.mem_cons.mp ha with q | ha
        ·exact absurd q hac
        ·exact List.mem_append_right _ ha
      ·rcases List.mem_append.mp ha with ha | ha
       ·obtain ⟨h1, h2⟩ := List.mem_filter.mp ha
        exact ⟨List.mem_append_left _ h1, fun q => by rw [List.mem_singleton.mp q] at h2; simp at h2⟩
       ·exact ⟨List.mem_append_right _ (.tail _ ha), fun q => hCX (List.mem_singleton.mp q ▸ ha)⟩
      ·rw [List.mem_singleton.mp ha]
       exact ⟨hCloc, fun y c e q => hCX (q ▸ S.celX y c e), List.mem_append_right _ (.head _), .inr (.inr notL)⟩
     obtain ⟨M', m1, m2⟩ := S3
     refine ⟨h3, tk2, rfl, b2.but k3 hC notF, ?_, M', m1, m2⟩
     intro b o h1 h2' e
     have hbC : b ≠ C := fun (q : b = C) => by subst q; rw [hCs] at e; cases e
     have hbL : b ≠ env.locals := fun q => h2'.elim (fun h => h (q ▸ S.locX)) fun h => S.locY (q ▸ h)
     exact k3 b o hbC (k2' b o hbL (hKp.1 b o hbL h1 e))
 ·exact plain (zol q1 fun a b c d e => hc ⟨a, b, c, d, e⟩)
end
end
section
section
variable {w : World} {mb : Str -> Option Value} {K : Nat} {O : Orc} {n : Nat} {A : Around} {env : Env} {σ σ' : List (Str × D)} {own : Option (Str × List D)} {X Y N : List Addr} {s : Shared} {h h' h'' : Heap} {d : D} {k : Kd}
theorem zpf {es : List PySem.Expr} {m : Nat} {p : Pos} {e : PySem.Expr} (h : zdt e = true) : swappedStores [.Tuple es m p] e env = pure none := by
 cases e <;> first | (cases h; done) | rfl
theorem zwn {x y z : Str} {p q r : Pos} {e : PySem.Expr} : swappedStores [.Name x p, .Name y q, .Name z r] e env = pure none := by
 cases e <;> rfl
theorem RepA.set {X : List Addr} {g : Heap} {v : Value} {d : D} (rv : Rep X g v d) : ∀ {vs : List Value} {ds : List D}, RepA X g vs ds -> ∀ i, RepA X g (vs.set i v) (ds.set i d)
 | _, _, .nil, i => .nil
 | _, _, .cons a r, 0 => .cons rv r
 | _, _, .cons a r, i + 1 => .cons a (RepA.set rv r i)
theorem zzs (H : Hyps w mb K O) {c : St} {es : List PySem.Expr} {m : Nat} {p pos : Pos} {e : PySem.Expr} (hA : Rm A K) (S : Sc env c.σ c.own X Y s.heap) (B : Base w mb s.heap) (ht : zdt e = true)
  (q1 : zaa O n ⟨env.kindOf, c.σ, c.own⟩ e = some (d, k)) (hk : k ≠ Kd.brw) (q : za8 env.kindOf c.own c.σ (.Tuple es m p) d = some σ') : TotS w mb A env X Y (exec (.Assign [.Tuple es m p] e pos) env) s ⟨σ', c.own⟩ .next := by
 constructor
 refine wpAny_Assign_stores (((zao H n).1 hA S B q1).use fun v h1 tk1 k1 b1 r1 => ?_) ((show swapsWithSole [PySem.Expr.Tuple es m p] e pos.line env = swapsWith e (some (.Tuple es m p)) pos.line env from rfl).trans (zg8 q1 (zm7 ht))) (zpf ht)
 have S1 := S.kp k1 b1
 show wpAny _ A (assign (.Tuple es m p) env v) _ _ _
 refine (zik (s := { s with heap := h1, toks := tk1 }) (W := XY X Y) hA.hh q S1 b1 (r1.rep hk) XYX fun x _ => S1.wokY x).use fun _ h2 tk2 k2 b2 S2 => ?_
 exact ⟨h2, tk2, rfl, zdl b2 ((k1.chs S).trans (N := []) k2.chs fun _ h => by cases h) (N := []) (fun _ h => by cases h) S2⟩
theorem zr8 (H : Hyps w mb K O) {c : St} {x y z : Str} {p1 p2 p3 pos : Pos} {e : PySem.Expr} (hA : Rm A K) (S : Sc env c.σ c.own X Y s.heap) (B : Base w mb s.heap) (ht : zdt e = true)
  (q1 : zaa O n ⟨env.kindOf, c.σ, c.own⟩ e = some (d, k)) (hs : Mine.scalar d = true) (hx : zc1 env.kindOf c.own x = true) (hy : zc1 env.kindOf c.own y = true) (hz : zc1 env.kindOf c.own z = true) :
  TotS w mb A env X Y (exec (.Assign [.Name x p1, .Name y p2, .Name z p3] e pos) env) s ⟨put (put (put c.σ x d) y d) z d, c.own⟩ .next := by
 constructor
 refine wpAny_Assign_three (((zao H n).1 hA S B q1).use fun v h1 tk1 k1 b1 r1 => ?_) rfl zwn
 have S1 := S.kp k1 b1
 have r : Rep X h1 v d := r1.other fun ds e => by rw [e] at hs; cases hs
 obtain ⟨hx1, hx2⟩ := zeg hx
 obtain ⟨hy1, hy2⟩ := zeg hy
 obtain ⟨hz1, hz2⟩ := zeg hz
 refine wpAny_assign_Name ((S1.store (s := { s with heap := h1, toks := tk1 }) (W := XY X Y) b1 hx1 r hx2 (S1.wokY x) XYX).use fun _ h2 tk2 k2 b2 S2 => ?_)
 have S2 := S2.sig fun u => zbv x d u c.σ
 refine wpAny_assign_Name ((S2.store (s := { s with heap := h2, toks := tk2 }) (W := XY X Y) b2 hy1 (r.scal hs) hy2 (S2.wokY y) XYX).use fun _ h3 tk3 k3 b3 S3 => ?_)
 have S3 := S3.sig fun u => zbv y d u (put c.σ x d)
 refine wpAny_assign_Name ((S3.store (s := { s with heap := h3, toks := tk3 }) (W := XY X Y) b3 hz1 (r.scal hs) hz2 (S3.wokY z) XYX).use fun _ h4 tk4 k4 b4 S4 => ?_)
 have S4 := S4.sig fun u => zbv z d u (put (put c.σ x d) y d)
 have em : ∀ h : Heap, zfp [] h := fun _ _ h => by cases h
 exact ⟨h4, tk4, rfl, zdl b4 ((((k1.chs S).trans (N := []) k2.chs (em _)).trans (N := []) k3.chs (em _)).trans (N := []) k4.chs (em _)) (N := []) (em _) S4⟩
theorem zzt (H : Hyps w mb K O) {c : St} {x : Str} {p1 p2 pos : Pos} {e i : PySem.Expr} {ds : List D} {j : Int} {k2 : Kd} (hA : Rm A K) (S : Sc env c.σ c.own X Y s.heap) (B : Base w mb s.heap) (ho : c.own = some (x, ds)) (ht : zct e = true) (hn : zax x = true)
  (q1 : zaa O n ⟨env.kindOf, c.σ, c.own⟩ e = some (d, k)) (hk : k ≠ Kd.brw) (q2 : zaa O n ⟨env.kindOf, c.σ, c.own⟩ i = some (.int j, k2)) (j0 : 0 <= j) (j1 : j < ds.length) (j2 : j < 2 ^ 62) :
  TotS w mb A env X Y (exec (.Assign [.Subscript (.Name x p1) i p2] e pos) env) s ⟨c.σ, some (x, ds.set j.toNat d)⟩ .next := by
 constructor
 refine wpAny_Assign_Subscript (((zao H n).1 hA S B q1).use fun v h1 tk1 k1 b1 r1 => ?_) (zg8 q1 ht)
 have S1 := S.kp k1 b1
 obtain ⟨a, vs, m, V, v2, v3, w1, w2, w3, v4, v5⟩ := S1.own x ds ho
 obtain ⟨n1, n2⟩ := zb4 hn
 refine (Tot.name (s := { s with heap := h1, toks := tk1 }) (L := env.locals) S1.eok b1 V n1 n2 (Q := fun u g => u = .ref a) rfl).use fun u h2 tk2 kk2 b2 e => ?_
 subst e
 have S2 := S1.kp kk2 b2
 refine ((zao H n).1 (s := { s with heap := h2, toks := tk2 }) hA S2 b2 q2).use fun u h3 tk3 kk3 b3 r3 => ?_
 refine r3.int' fun t3 => ?_
 have S3 := S2.kp kk3 b3
 try dsimp only at kk2 kk3 ⊢
 have g3 : h3.get? a = some (zbz vs m) := kk3.1 _ _ v3 (zaq v2) (kk2.1 _ _ v3 (zaq v2) v4)
 have rv : Rep X h3 v d := ((r1.rep hk).kp S.locX S.ttX kk2).kp S.locX S.ttX kk3
 have rl : RepA X h3 vs ds := (v5.kp S.locX S.ttX kk2).kp S.locX S.ttX kk3
 have hlen := rl.length
 refine ki_setAt (items := vs.toArray) (n := m) g3 j0 (by lia) (by rw [List.size_toArray]; lia) ?_
 have hup : (h3.update a (Obj.mapSeq (·.setIfInBounds j.toNat v))).get? a = some (zbz (vs.set j.toNat v) m) := by
  have e1 : Obj.mapSeq (·.setIfInBounds j.toNat v) (zbz vs m) = zbz (vs.set j.toNat v) m := by simp [Obj.mapSeq]
  rw [Heap.get?_update_self _ g3 (by rw [e1]; rfl), e1]
 have hs : Heap.SameBut a h3 (h3.update a (Obj.mapSeq (·.setIfInBounds j.toNat v))) := Heap.SameBut.update ..
 have V3 : zbl env h3 x (.ref a) := (V.kp S.eok kk2).kp S.eok kk3
 refine ⟨_, tk3, rfl, zdl (N := []) ?_ ?_ (fun _ h => by cases h) (S3.mut V3 v2 v3 w1 w2 w3 hs hup ((rl.set rv j.toNat).mono fun b o hb e => hs.extBut b o (fun q => hb (q ▸ w3)) e))⟩
 ·exact b3.but hs.extBut v2 fun o vs e q => by rw [g3] at e; cases e; cases q
 ·intro b o h1 h2 e
  have hba : b ≠ a := fun q => h2.elim (fun h => h (q ▸ w3)) fun h => w1 (q ▸ h)
  have hbL : b ≠ env.locals := fun q => h2.elim (fun h => h (q ▸ S.locX)) fun h => S.locY (q ▸ h)
  exact hs.extBut b o hba (kk3.1 b o hbL h1 (kk2.1 b o hbL h1 (k1.1 b o hbL h1 e)))
end
end
section
section
variable {w : World} {mb : Str -> Option Value} {K : Nat} {O : Orc} {n : Nat} {A : Around} {env : Env} {σ σ' : List (Str × D)} {own : Option (Str × List D)} {X Y N : List Addr} {s : Shared} {h h' h'' : Heap} {d : D} {k : Kd}
theorem zd7 (O : EnvOk env) : interactive env = false := by
 unfold interactive
 rw [O.kind]; rfl
theorem zq3 {a : Addr} (w3 : a ∈ X) (w1 : a ∉ Y) (hs : Heap.SameBut a h h') : Chs X Y h h' := fun b o h1 h2 e => hs.extBut b o (fun q => h2.elim (fun h => h (q ▸ w3)) fun h => w1 (q ▸ h)) e
theorem zee : zfp [] h := fun _ h => by cases h
theorem zot (H : Hyps w mb K O) {c : St} {x : Str} {p1 apos pos ps : Pos} {e : PySem.Expr} {ds : List D} (hA : Rm A K) (S : Sc env c.σ c.own X Y s.heap) (B : Base w mb s.heap) (ho : c.own = some (x, ds)) (hp : apos.endLine = pos.line) (hn : zax x = true) (hz : ds.length <= sizeLine)
  (q1 : zaa O n ⟨env.kindOf, c.σ, c.own⟩ e = some (d, k)) (hk : k ≠ Kd.brw) :
  TotS w mb A env X Y (exec (.Expr (.Call (.Attribute (.Name x p1) "append" apos) [e] [] pos) ps) env) s ⟨c.σ, some (x, ds ++ [d])⟩ .next := by
 constructor
 refine wpAny_Expr_any ?_ (zd7 S.eok) rfl
 have he : ∀ e' ∈ [e], ∀ a b, e' ≠ PySem.Expr.Starred a b := fun e' h => by rw [List.mem_singleton.mp h]; exact zdj q1
 refine wpAny_Call_method (T := "list") (id := "list.append") (za6 rfl) (zd1 he (by simp)) (by simp [hp]) PySem.F.plainAttrs_list PySem.F.slot_list_append PySem.F.type_list_append ?_
 obtain ⟨a, vs, m, V, v2, v3, w1, w2, w3, v4, v5⟩ := S.own x ds ho
 obtain ⟨n1, n2⟩ := zb4 hn
 refine (Tot.name (L := env.locals) S.eok B V n1 n2 (Q := fun u g => u = .ref a) rfl).use fun u h1 tk1 k1 b1 e => ?_
 subst e
 have g1 : h1.get? a = some (zbz vs m) := k1.1 _ _ v3 (zaq v2) v4
 refine ⟨⟨_, g1, rfl⟩, fun b e => (by cases e; exact ⟨_, g1, rfl⟩), ?_⟩
 have S1 := S.kp k1 b1
 refine zbb (fun _ h => by cases h) (za0 he) (zas he ((zci (zao H n).1 hA (s := { s with heap := h1, toks := tk1 }) S1 b1 (l := [(d, k)]) (by simp [zb5, q1])).use fun us h2 tk2 k2 b2 ra => ?_))
 cases ra with
 | @cons h0 u us' d' k' rr r ra =>
  cases ra
  have S2 := S1.kp k2 b2
  dsimp only at k2 ⊢
  have g2 : h2.get? a = some (zbz vs m) := k2.1 _ _ v3 (zaq v2) g1
  refine wpAny_list_append_plain (items := vs.toArray) ⟨m, g2⟩ (fun h3 hp hs => ?_) (by rw [List.size_toArray, v5.length]; exact hz)
  obtain ⟨m3, g3⟩ := hp
  have g3' : h3.get? a = some (zbz (vs ++ [u]) m3) := by rw [g3]; simp
  have V2 := (V.kp S.eok k1).kp S.eok k2
  have rl := ((v5.kp S.locX S.ttX k1).kp S.locX S.ttX k2).snoc (r.rep hk)
  refine ⟨h3, tk2, rfl, zdl (N := []) (b2.but hs.extBut v2 fun o vs e q => by rw [g2] at e; cases e; cases q) ?_ zee (S2.mut V2 v2 v3 w1 w2 w3 hs g3' (rl.mono fun b o hb e => hs.extBut b o (fun q => hb (q ▸ w3)) e))⟩
  exact (((k1.chs S).trans (N := []) (k2.chs S1) zee).trans (N := []) (zq3 w3 w1 hs) zee)
theorem RepA.reverse {X : List Addr} {g : Heap} : ∀ {vs : List Value} {ds : List D}, RepA X g vs ds -> RepA X g vs.reverse ds.reverse
 | _, _, .nil => .nil
 | _, _, .cons a r => by rw [List.reverse_cons, List.reverse_cons]; exact (RepA.reverse r).snoc a
theorem zmw (H : Hyps w mb K O) {c : St} {x : Str} {p1 apos pos ps : Pos} {ds : List D} (hA : Rm A K) (S : Sc env c.σ c.own X Y s.heap) (B : Base w mb s.heap) (ho : c.own = some (x, ds)) (hp : apos.endLine = pos.line) (hn : zax x = true) (hz : ds.length <= sizeLine) :
  TotS w mb A env X Y (exec (.Expr (.Call (.Attribute (.Name x p1) "reverse" apos) [] [] pos) ps) env) s ⟨c.σ, some (x, ds.reverse)⟩ .next := by
 constructor
 refine wpAny_Expr_any ?_ (zd7 S.eok) rfl
 have he : ∀ e' ∈ ([] : List PySem.Expr), ∀ a b, e' ≠ PySem.Expr.Starred a b := fun e' h => by cases h
 refine wpAny_Call_method (T := "list") (id := "list.reverse") (za6 rfl) (zd1 he (by decide)) (by simp [hp]) PySem.F.plainAttrs_list PySem.F.slot_list_reverse PySem.F.type_list_reverse ?_
 obtain ⟨a, vs, m, V, v2, v3, w1, w2, w3, v4, v5⟩ := S.own x ds ho
 obtain ⟨n1, n2⟩ := zb4 hn
 refine (Tot.name (L := env.locals) S.eok B V n1 n2 (Q := fun u g => u = .ref a) rfl).use fun u h1 tk1 k1 b1 e => ?_
 subst e
 have g1 : h1.get? a = some (zbz vs m) := k1.1 _ _ v3 (zaq v2) v4
 refine ⟨⟨_, g1, rfl⟩, fun b e => (by cases e; exact ⟨_, g1, rfl⟩), ?_⟩
 have S1 := S.kp k1 b1
 refine zbb (fun _ h => by cases h) (za0 he) (zas he (Calls.spliced_nil ?_))
 have hsz : vs.toArray.size <= sizeLine := by rw [List.size_toArray, v5.length]; exact hz
 show wpAny _ A (call (.builtin "list.reverse") [.ref a]) _ _ _
 refine call_meets PySem.F.slot_list_reverse ⟨_, g1, rfl⟩ PySem.F.entry_list_reverse (PySem.F.args_list_reverse_1 _) (AutoSeq1.list_reverse_list_0 a vs.toArray m hsz) ⟨g1, ?_⟩
 have e1 : Obj.mapSeq (fun x => x.reverse) (zbz vs m) = zbz vs.reverse m := by rw [mapSeq_reverse]
 have g3 : (h1.update a (Obj.mapSeq fun x => x.reverse)).get? a = some (zbz vs.reverse m) := by rw [Heap.get?_update_self _ g1 (by rw [e1]; rfl), e1]
 have hs : Heap.SameBut a h1 (h1.update a (Obj.mapSeq fun x => x.reverse)) := Heap.SameBut.update ..
 have V2 := V.kp S.eok k1
 have rl := (v5.kp S.locX S.ttX k1).reverse
 refine ⟨_, tk1, rfl, zdl (N := []) (b1.but hs.extBut v2 fun o vs e q => by rw [g1] at e; cases e; cases q) ?_ zee (S1.mut V2 v2 v3 w1 w2 w3 hs g3 (rl.mono fun b o hb e => hs.extBut b o (fun q => hb (q ▸ w3)) e))⟩
 exact (k1.chs S).trans (N := []) (zq3 w3 w1 hs) zee
theorem Step.pre {c : St} {f : Fl} {fl : Flow} (S : Sc env σ own X Y h') (k : Chs X Y h h') (x : Step w mb env X Y h' c f fl h'') : Step w mb env X Y h c f fl h'' := by
 obtain ⟨b, k2, x⟩ := x
 have nn : ∀ {M : List Addr}, zfp M h' -> zfp M h := fun hm a ha => S.dead k S.ttX (hm a ha)
 refine ⟨b, k.trans (N := []) k2 zee, ?_⟩
 cases f <;> cases fl <;> first
  | exact x.elim
  | exact x
  | (obtain ⟨M, m1, m2⟩ := x; exact ⟨M, nn m1, m2⟩)
theorem zzu (H : Hyps w mb K O) {mv : List Str} (ih : zho w mb K O mv n) {c c' : St} {f : Fl} {t : PySem.Expr} {body orelse : List PySem.Stmt} {pos : Pos} {b : Bool} (hA : Rm A K) (S : Sc env c.σ c.own X Y s.heap) (B : Base w mb s.heap)
  (q1 : zaa O n ⟨env.kindOf, c.σ, c.own⟩ t = some (d, k)) (hb : zan d = some b) (q : zcc (zae O mv env.kindOf n) (if b = true then body else orelse) c = some (c', f)) : TotS w mb A env X Y (exec (.If t body orelse pos) env) s c' f := by
 constructor
 refine wpAny_If (((zao H n).2 hA S B q1 hb).use fun z h1 tk1 k1 b1 e => ?_)
 subst e
 have S1 := S.kp k1 b1
 cases z with
 | true =>
  refine wpAny_mono (zkb ih hA (s := { s with heap := h1, toks := tk1 }) S1 b1 q).run (fun fl s2 x => ?_) fun _ _ f => f.elim
  obtain ⟨h2, tk2, rfl, x⟩ := x
  exact ⟨h2, tk2, rfl, x.pre S1 (k1.chs S)⟩
 | false =>
  refine wpAny_mono (zkb ih hA (s := { s with heap := h1, toks := tk1 }) S1 b1 q).run (fun fl s2 x => ?_) fun _ _ f => f.elim
  obtain ⟨h2, tk2, rfl, x⟩ := x
  exact ⟨h2, tk2, rfl, x.pre S1 (k1.chs S)⟩
theorem zi0 (H : Hyps w mb K O) {c : St} {e : PySem.Expr} {pos : Pos} (hA : Rm A K) (S : Sc env c.σ c.own X Y s.heap) (B : Base w mb s.heap) (q1 : zaa O n ⟨env.kindOf, c.σ, c.own⟩ e = some (d, k)) :
  TotS w mb A env X Y (exec (.Return (some e) pos) env) s c (.ret d) := by
 constructor
 refine wpAny_Return_some (((zao H n).1 hA S B q1).use fun v h1 tk1 k1 b1 r1 => ?_)
 exact ⟨h1, tk1, rfl, b1, k1.chs S, r1.repY S.subY⟩
theorem zr9 {c : St} {pos : Pos} (S : Sc env c.σ c.own X Y s.heap) (B : Base w mb s.heap) : TotS w mb A env X Y (exec (.Break pos) env) s c .brk :=
 ⟨wpAny_Break ⟨s.heap, s.toks, rfl, B, .refl, [], zee, S⟩⟩
end
end
section
section
variable {w : World} {mb : Str -> Option Value} {K : Nat} {O : Orc} {n : Nat} {A : Around} {env : Env} {σ σ' : List (Str × D)} {own : Option (Str × List D)} {X Y N : List Addr} {s : Shared} {h h' h'' : Heap} {d : D} {k : Kd}
theorem zs5 (H : Hyps w mb K O) {e : PySem.Expr} {ds : List D} {Q : Value -> Shared -> Prop} (hA : Rm A K) (S : Sc env σ own X Y s.heap) (B : Base w mb s.heap) (q : zd9 (zaa O n) ⟨env.kindOf, σ, own⟩ e = some ds)
  (go : ∀ h1 tk1 o fp St, Kp env.locals s.heap h1 -> Base w mb h1 -> o.isFreed = false -> (∀ A' : Around, A'.handled = none -> Iter w A' X h1 h1.objs.size ds (h1.push o) fp St) -> Q (.ref h1.objs.size) { s with heap := h1.push o, toks := tk1 }) :
  (∀ x, foldedSetIterable e env x = pure x) /\ wpAny (model pg w) A (eval e env) (fun x s₁ => wpAny (model pg w) A (pyIter x) Q (fun _ _ => False) s₁) (fun _ _ => False) s := by
 have usual : ∀ {r : D × Kd}, zaa O n ⟨env.kindOf, σ, own⟩ e = some r -> r.2 ≠ Kd.brw -> zeo r.1 = some ds -> wpAny (model pg w) A (eval e env) (fun x s₁ => wpAny (model pg w) A (pyIter x) Q (fun _ _ => False) s₁) (fun _ _ => False) s := by
  rintro ⟨d, k⟩ h1 h2 h3
  refine ((zao H n).1 hA S B h1).use fun v h1 tk1 k1 b1 r1 => ?_
  exact zh3 (s := { s with heap := h1, toks := tk1 }) hA.hh h3 (S.kp k1 b1).live (r1.rep h2) fun o fp St hf hI => go h1 tk1 o fp St k1 b1 hf hI
 have two : ∀ (P : Kd -> Prop) [DecidablePred P], (∀ k, P k -> k ≠ Kd.brw) -> (match zaa O n ⟨env.kindOf, σ, own⟩ e with | some (d, k) => if P k then zeo d else none | none => none) = some ds -> (∃ k, P k) /\ wpAny (model pg w) A (eval e env) (fun x s₁ => wpAny (model pg w) A (pyIter x) Q (fun _ _ => False) s₁) (fun _ _ => False) s := fun P _ hP q => by
  cases h1 : zaa O n ⟨env.kindOf, σ, own⟩ e with
  | none => rw [h1] at q; exact zaf q
  | some r =>
   rw [h1] at q
   dsimp only at q
   by_cases hk : P r.2
   ·rw [if_pos hk] at q; exact ⟨⟨_, hk⟩, usual h1 (hP _ hk) q⟩
   ·rw [if_neg hk] at q; exact zaf q
 have rest : (match zaa O n ⟨env.kindOf, σ, own⟩ e with | some (d, k) => if k ≠ Kd.brw /\ ze4 e = true then zeo d else none | none => none) = some ds -> (∀ x, foldedSetIterable e env x = pure x) /\ wpAny (model pg w) A (eval e env) (fun x s₁ => wpAny (model pg w) A (pyIter x) Q (fun _ _ => False) s₁) (fun _ _ => False) s := fun q =>
  have t := two (fun k => k ≠ Kd.brw /\ ze4 e = true) (fun _ h => h.1) q
  ⟨zi8 (t.1.elim fun _ h => h.2), t.2⟩
 clear usual
 cases e with
 | Call g args kw pos =>
  cases g with
  | Name f p =>
   cases args with
   | nil => exact rest q
   | cons a l =>
    cases l with
    | cons => exact rest q
    | nil =>
     cases kw with
     | cons => exact rest q
     | nil =>
      clear rest
      change (if f = ("reversed" : Str) then (if env.kindOf f = some .globalImplicit then (match zaa O n ⟨env.kindOf, σ, own⟩ a with | some (.lst l, k) => if k ≠ Kd.brw then some l.reverse else none | _ => none) else none) else (match zaa O n ⟨env.kindOf, σ, own⟩ (.Call (.Name f p) [a] [] pos) with | some (d, k) => if k ≠ Kd.brw then zeo d else none | none => none)) = some ds at q
      by_cases hf : f = ("reversed" : Str)
      ·rw [if_pos hf] at q
       clear two
       subst hf
       by_cases hk : env.kindOf "reversed" = some .globalImplicit
       ·rw [if_pos hk] at q
        cases h1 : zaa O n ⟨env.kindOf, σ, own⟩ a with
        | none => rw [h1] at q; exact zaf q
        | some r =>
         obtain ⟨d, kd⟩ := r
         rw [h1] at q
         cases d with
         | lst l =>
          dsimp only at q
          by_cases hkd : kd ≠ Kd.brw
          ·rw [if_pos hkd] at q
           cases q
           refine ⟨fun _ => rfl, ?_⟩
           have hst : ∀ e' ∈ [a], ∀ x y, e' ≠ PySem.Expr.Starred x y := fun e' h => by rw [List.mem_singleton.mp h]; exact zdj h1
           refine wpAny_Call_Name_kw (zl1 (v := .type "reversed") S.eok B hk (by kernel_rfl) (by kernel_rfl) (by decide +kernel) (by decide +kernel) ?_)
           refine zbb (fun _ h => by cases h) (za0 hst) (zas hst ((zci (zao H n).1 hA S B (l := [(.lst l, kd)]) (by simp [zb5, h1])).use fun us h1 tk1 k1 b1 ra => ?_))
           refine ra.one' fun h0 v r => ?_
           have S1 := S.kp k1 b1
           have r' := r.rep hkd
           have ha := fun a e => r'.nx a e nofun
           obtain ⟨ad, vs, m, rfl, e1, r1⟩ := r'.inv
           have hl : h1.IsList ad vs.toArray := ⟨_, e1, rfl, _, rfl⟩
           have hit : (h1.push (revObj ad ((vs.toArray.size : Int) - 1))).IsRevIter h1.objs.size ad ((vs.toArray.size : Int) - 1) := ⟨_, Heap.get?_push_size _ rfl, rfl, rfl⟩
           have hlen : vs.toArray.size = l.reverse.length := by rw [List.size_toArray, r1.length, List.length_reverse]
           refine call_reversed_list (s := { s with heap := h1, toks := tk1 }) hl (wpAny_pyIter_revIter hit (go h1 tk1 _ _ _ k1 b1 rfl fun A' hA' => zem (zby S1.live (Nat.le_refl _)) rfl (fun b hb => List.mem_singleton.mp hb ▸ ⟨ha ad rfl, _, e1⟩)
            (Walks.listRev hA' _ ad (Nat.ne_of_lt (Heap.lt_size e1)) vs.toArray) hlen (fun i v hi hv => ?_) ⟨Nat.zero_le _, by simpa using hit, hl.push _⟩ fun i h' ⟨_, ⟨o, ho, hc, _⟩, _⟩ => ⟨o, _, ho, hc, by decide, by decide⟩))
           refine zkn (i := i) (v := v) r1.reverse ?_ ?_
           ·rw [List.size_toArray, List.length_reverse, <- List.size_toArray]; exact hi
           ·rw [List.getElem?_toArray, List.getElem?_reverse (List.size_toArray ▸ hi)]
            simpa using hv
          ·rw [if_neg hkd] at q; exact zaf q
         | _ => exact zaf q
       ·rw [if_neg hk] at q; exact zaf q
      ·rw [if_neg hf] at q
       exact ⟨fun _ => rfl, (two (fun k => k ≠ Kd.brw) (fun _ h => h) q).2⟩
  | _ => exact rest q
 | _ => exact rest q
theorem Sc.iter {o : Obj} (S : Sc env σ own X Y h) (B : Base w mb h) (hf : o.isFreed = false) : Sc env σ own (h.objs.size :: X) (h.objs.size :: Y) (h.push o) := by
 have S1 : Sc env σ own ([h.objs.size] ++ X) Y (h.push o) := S.grow (.of zar) (B.keeps zar) fun a ha => by
  rw [List.mem_singleton.mp ha]; exact ⟨zam (Nat.le_refl _), _, Heap.get?_push_size h hf⟩
 have dead : ∀ {a : Addr}, (∃ o, h.get? a = some o) -> a ≠ h.objs.size := fun ⟨o, e⟩ => Nat.ne_of_lt (Heap.lt_size e)
 exact { S1 with
  own := fun x ds e => let ⟨a, vs, n, v1, v2, v3, w1, w2, w3, v4, v5⟩ := S.own x ds e
   ⟨a, vs, n, v1.kp S.eok (.of zar), v2, v3, fun q => (List.mem_cons.mp q).elim (fun q => dead ⟨_, v4⟩ q) w1, w2, .tail _ w3, zar _ _ v4,
    (v5.sub fun b o hb e => (List.mem_cons.mp hb).elim (fun q => absurd q (dead ⟨o, e⟩)) id).mono fun b o _ e => zar b o e⟩
  ttY := fun a ha => .tail _ (S.ttY a ha)
  subY := fun a ha => (List.mem_cons.mp ha).elim (fun q => q ▸ .head _) fun q => .tail _ (S.subY a q)
  locY := fun q => (List.mem_cons.mp q).elim (fun q => dead (S.live _ S.locX) q) S.locY
  celY := fun x c hk e q => (List.mem_cons.mp q).elim (fun q => dead (S.live _ (S.celX x c e)) q) (S.celY x c hk e) }
end
end
section
section
variable {w : World} {mb : Str -> Option Value} {K : Nat} {O : Orc} {n : Nat} {A : Around} {env : Env} {σ σ' : List (Str × D)} {own : Option (Str × List D)} {X Y N : List Addr} {s : Shared} {h h' h'' : Heap} {d : D} {k : Kd}
inductive LC (kf : Kf) (t : PySem.Expr) (body : St -> Option (St × Fl)) (r : List D) (d : D) (c c' : St) (f : Fl) : Prop
 | mk (σ1 : List (Str × D)) (c2 : St) (f2 : Fl) (hb : za8 kf c.own c.σ t d = some σ1) (hr : body ⟨σ1, c.own⟩ = some (c2, f2)) (x : match f2 with | .next => zbu kf t body r c2 = some (c', f) | .brk => c' = c2 /\ f = .next | .ret dr => c' = c2 /\ f = .ret dr)
theorem znh {kf : Kf} {t : PySem.Expr} {body : St -> Option (St × Fl)} {r : List D} {d : D} {c c' : St} {f : Fl} (q : zbu kf t body (d :: r) c = some (c', f)) : LC kf t body r d c c' f := by
 change (match za8 kf c.own c.σ t d with | some σ1 => _ | none => none) = _ at q
 cases hb : za8 kf c.own c.σ t d with
 | none => rw [hb] at q; exact zaf q
 | some σ1 =>
  rw [hb] at q
  dsimp only at q
  cases hr : body ⟨σ1, c.own⟩ with
  | none => rw [hr] at q; exact zaf q
  | some p =>
   obtain ⟨c2, f2⟩ := p
   rw [hr] at q
   cases f2 with
   | next => exact ⟨σ1, c2, _, hb, hr, q⟩
   | brk => cases q; exact ⟨σ1, _, _, hb, hr, rfl, rfl⟩
   | ret dr => cases q; exact ⟨σ1, _, _, hb, hr, rfl, rfl⟩
inductive FI (w : World) (mb : Str -> Option Value) (env : Env) (I : Addr) (X Y : List Addr) (s : Shared) (H : Heap) (St : Nat -> Heap -> Prop) (m : Nat) (L : Nat -> Mine.St -> Prop) (k : Nat) (s' : Shared) : Prop
 | mk (G : Heap) (tk : Nat) (N : List Addr) (c1 : Mine.St) (i : Nat) (e : s' = { s with heap := G, toks := tk }) (st : St i G) (hi : i <= m) (e2 : k = m + 1 - i) (hN : zfp N H) (SG : Sc env c1.σ c1.own (N ++ (I :: X)) (I :: Y) G) (BG : Base w mb G) (kG : Chs (I :: X) Y H G) (q : L i c1)
theorem zos {mv : List Str} (ih : zho w mb K O mv n) {c c' : St} {f : Fl} {t iter : PySem.Expr} {body : List PySem.Stmt} {pos : Pos} {ds : List D} (hA : Rm A K) (S : Sc env c.σ c.own X Y s.heap) (B : Base w mb s.heap)
  (hit : ∀ {Q : Value -> Shared -> Prop}, (∀ h1 tk1 o fp St, Kp env.locals s.heap h1 -> Base w mb h1 -> o.isFreed = false -> (∀ A' : Around, A'.handled = none -> Iter w A' X h1 h1.objs.size ds (h1.push o) fp St) -> Q (.ref h1.objs.size) { s with heap := h1.push o, toks := tk1 }) ->
   (∀ x, foldedSetIterable iter env x = pure x) /\ wpAny (model pg w) A (eval iter env) (fun x s₁ => wpAny (model pg w) A (pyIter x) Q (fun _ _ => False) s₁) (fun _ _ => False) s)
  (q : zbu env.kindOf t (zcc (zae O mv env.kindOf n) body) ds c = some (c', f)) : TotS w mb A env X Y (exec (.For t iter body [] pos) env) s c' f := by
 constructor
 refine wpAny_For (hit (fun h1 tk1 o fp St k1 b1 hf hI => ?_)).2 (hit (Q := fun _ _ => True) (fun _ _ _ _ _ _ _ _ _ => trivial)).1
 have W := hI A hA.hh
 have S1 := S.kp k1 b1
 have S2 := S1.iter b1 hf
 have b2 : Base w mb (h1.push o) := b1.keeps zar
 have hIX : h1.objs.size ∉ X := zby S1.live (Nat.le_refl _)
 have hIY : h1.objs.size ∉ Y := fun q => hIX (S.subY _ q)
 have lowI : 227 < h1.objs.size := b1.low
 have gI : (h1.push o).get? h1.objs.size = some o := Heap.get?_push_size h1 hf
 have oldNe : ∀ b o, h1.get? b = some o -> b ≠ h1.objs.size := fun b o e => Nat.ne_of_lt (Heap.lt_size e)
 have old : ∀ b o', h1.get? b = some o' -> (h1.push o).get? b = some o' := zar
 have hIL : h1.objs.size ≠ env.locals := fun q => hIX (q ▸ S.locX)
 have hIc : ∀ x c, env.cells.lookup x = some c -> c ≠ h1.objs.size := fun x c e q => hIX (q ▸ S.celX x c e)
 have kS : ∀ b o', b ∉ TT -> b ∉ X ∨ b ∈ Y -> s.heap.get? b = some o' -> h1.get? b = some o' := k1.chs S
 have dead : ∀ {N : List Addr}, zfp N (h1.push o) -> zfp N s.heap := fun {N} hN a ha => S1.dead (k1.chs S) S.ttX (by
  cases e : h1.get? a with
  | none => rfl
  | some o' => exact zaf ((hN a ha).symm.trans (old _ _ e)))
 clear hit
 revert W S2 b2 hIX hIY lowI gI oldNe old hIL hIc dead
 generalize h1.push o = H
 generalize h1.objs.size = I
 intro W S2 b2 hIX hIY lowI gI oldNe old hIL hIc dead
 have hIT : I ∉ TT := zaq lowI
 have one : ∀ {P : Addr -> Prop}, P I -> ∀ a ∈ [I], P a := fun h a ha => List.mem_singleton.mp ha ▸ h
 have ne1 : ∀ {b : Addr}, b ∉ [I] -> b ≠ I := fun h q => h (q ▸ .head _)
 have ne2 : ∀ {b : Addr}, b ≠ I -> b ∉ [I] := fun h q => h (List.mem_singleton.mp q)
 have keepS : ∀ {G : Heap}, Chs (I :: X) Y H G -> Chs X Y s.heap G := fun kG b o' h1' h2 e => by
  have e1 := kS b o' h1' h2 e
  exact kG b o' h1' (h2.imp (fun q m => (List.mem_cons.mp m).elim (oldNe b o' e1) q) id) (old _ _ e1)
 have finN : ∀ {G G' : Heap} {N : List Addr} {c1 : Mine.St}, zfp N H -> Sc env c1.σ c1.own (N ++ (I :: X)) (I :: Y) G -> Base w mb G' -> Chs (I :: X) Y H G' -> (∀ b o, b ≠ I -> G.get? b = some o -> G'.get? b = some o) ->
   Step w mb env X Y s.heap c1 .next .next G' := fun {G G' N c1} hN SG BG kG kG' =>
  ⟨BG, keepS kG, N, dead hN, SG.drop (Z := [I]) (fun b o hb e => kG' b o (ne1 hb) e) (fun a ha hz => (List.mem_append.mp ha).elim (List.mem_append_left _) fun ha => (List.mem_cons.mp ha).elim (fun q => absurd q (ne1 hz)) (List.mem_append_right _))
   (fun a ha => (List.mem_append.mp ha).elim (fun ha => ⟨List.mem_append_left _ ha, fun q => zaf ((hN _ ha).symm.trans (List.mem_singleton.mp q ▸ gI))⟩) fun ha => ⟨List.mem_append_right _ (.tail _ ha), fun q => hIX (List.mem_singleton.mp q ▸ ha)⟩)
   (fun a ha => ⟨.tail _ ha, List.mem_append_right _ (S.subY a ha)⟩) S.ttY (one ⟨hIL, hIc, List.mem_append_right _ (.head _), .inl (.head _)⟩)⟩
 refine codeAny_forLoop_any (FI w mb env I X Y s H St ds.length fun i c1 => zbu env.kindOf t (zcc (zae O mv env.kindOf n) body) (ds.drop i) c1 = some (c', f)) ?_ (ds.length + 1) ⟨H, tk1, [], c, 0, rfl, W.st, Nat.zero_le _, rfl, zee, S2, b2, .refl, q⟩
 intro k s' F
 refine byP fun P kP => ?_
 obtain ⟨G, tk, N, c1, i, rfl, st, hi, rfl, hN, SG, BG, kG, hq⟩ := F
 have notCode : ∀ {i : Nat} {G : Heap}, St i G -> ∀ o vs, G.get? I = some o -> o.data = .fields vs -> o.cls ≠ .type "code" := fun st o vs e _ => by
  obtain ⟨o', T, e', c1, _, c2⟩ := W.quiet _ _ st
  cases Option.some.inj (e'.symm.trans e)
  rw [c1]
  exact fun q => c2 (by cases q; rfl)
 by_cases hlt : i < ds.length
 ·refine kP (W.W.item i _ _ _ hlt st fun v G1 tk2 hv st1 kp1 => ?_)
  have keep1 : ∀ b o, b ≠ I -> G.get? b = some o -> G1.get? b = some o := fun b o hb e => kp1 b o (ne2 hb) e
  refine zdr ((W.quiet _ _ st1).imp fun _ => Exists.imp fun _ x => ⟨x.1, x.2.1, x.2.2.1⟩) ?_
  clear kP
  refine byP fun P kP => ?_
  obtain ⟨d1, hd1, r1⟩ := hv
  have SG1 : Sc env c1.σ c1.own (N ++ (I :: X)) (I :: Y) G1 :=
   SG.chg (Z := [I]) (fun b o hb e => keep1 b o (ne1 hb) e) (one (List.mem_append_right _ (.head _))) (one ⟨hIL, hIc, .inl (.head _)⟩) (one ((W.quiet _ _ st1).imp fun _ x => x.elim fun _ x => x.1))
  have BG1 : Base w mb G1 := BG.but (a := I) keep1 lowI (notCode st)
  have r1' : Rep (N ++ (I :: X)) G1 v d1 :=
   (r1.sub fun b o' hb e => (List.mem_append.mp hb).elim (fun hb => zaf ((hN b hb).symm.trans (old _ _ e))) fun hb => (List.mem_cons.mp hb).elim (fun q => absurd q (oldNe b o' e)) id).mono fun b o' hb e =>
    keep1 b o' (oldNe b o' e) (kG b o' (fun q => hb (List.mem_append_right _ (.tail _ (S.ttX b q)))) (.inl fun q => hb (List.mem_append_right _ q)) (old _ _ e))
  have hdrop : ds.drop i = d1 :: ds.drop (i + 1) := by
   obtain ⟨hi', rfl⟩ := List.getElem?_eq_some_iff.mp hd1
   exact List.drop_eq_getElem_cons hi'
  rw [hdrop] at hq
  obtain ⟨σ1, c2, f2, hb, hr, hq⟩ := znh hq
  refine kP ((zik (s := { s with heap := G1, toks := tk2 }) (W := XY (N ++ (I :: X)) (I :: Y)) hA.hh hb SG1 BG1 r1' XYX fun x _ => SG1.wokY x).use fun _ G2 tk3 ch2 BG2 SG2 => ?_)
  have k12 : Chs (N ++ (I :: X)) Y G G2 := fun b o' t1 t2 e =>
   ch2 b o' (fun z => t2.elim (fun y => y (zdc.mp z).1) fun y => (zdc.mp z).2 (.tail _ y)) (keep1 b o' (fun q => t2.elim (fun z => z (q ▸ List.mem_append_right _ (.head _))) fun z => hIY (q ▸ z)) e)
  have kG2 : Chs (I :: X) Y H G2 := kG.trans k12 hN
  refine wpAny_mono (zkb (s := { s with heap := G2, toks := tk3 }) ih hA (c := ⟨σ1, c1.own⟩) SG2 BG2 hr).run (fun fl s3 x3 => ?_) fun _ _ f => f.elim
  clear kP
  refine byP fun P kP => ?_
  obtain ⟨G3, tk4, rfl, BG3, k3, x3⟩ := x3
  have k4 : Chs (I :: X) Y H G3 := kG2.trans (N := N) (fun b o' t1 t2 e => k3 b o' t1 (t2.imp id (.tail _)) e) hN
  have newM : ∀ {M : List Addr}, zfp M G2 -> zfp (M ++ N) H := fun m1 a ha => (List.mem_append.mp ha).elim (fun ha => by
   cases e : H.get? a with
   | none => rfl
   | some o' =>
    have hnot : a ∉ N ++ (I :: X) := fun q => (SG2.live a q).elim fun o3 e3 => zaf ((m1 a ha).symm.trans e3)
    exact zaf ((m1 a ha).symm.trans (kG2 a o' (fun q => hnot (List.mem_append_right _ (.tail _ (S.ttX a q)))) (.inl fun q => hnot (List.mem_append_right _ q)) e))) (hN a)
  cases f2 with
  | next =>
   cases fl with
   | next =>
    obtain ⟨M, m1, m2⟩ := x3
    refine kP ⟨ds.length + 1 - (i + 1), Nat.sub_lt_sub_left (Nat.lt_succ_of_lt hlt) (Nat.lt_succ_self i), G3, tk4, M ++ N, c2, i + 1, rfl, W.W.frame _ _ _ st1 fun b hb o' e => ?_, hlt, rfl, newM m1, by rw [List.append_assoc]; exact m2, BG3, k4, hq⟩
    obtain ⟨x1, o2, x2⟩ := W.fpX b hb
    by_cases hbI : b = I
    ·subst hbI
     exact k3 _ o' hIT (.inr (.head _)) (ch2 _ o' (fun z => (zdc.mp z).2 (.head _)) e)
    ·have hbb : b ∉ N ++ (I :: X) := fun q => (List.mem_append.mp q).elim (fun q => zaf ((hN b q).symm.trans x2)) fun q => (List.mem_cons.mp q).elim hbI x1
     exact k3 b o' (fun q => x1 (S.ttX b q)) (.inl hbb) (ch2 b o' (fun z => hbb (zdc.mp z).1) e)
   | _ => exact x3.elim
  | brk =>
   obtain ⟨rfl, rfl⟩ := hq
   cases fl with
   | brk =>
    obtain ⟨M, m1, m2⟩ := x3
    exact kP ⟨G3, tk4, rfl, finN (N := M ++ N) (newM m1) (by rw [List.append_assoc]; exact m2) BG3 k4 fun _ _ _ e => e⟩
   | _ => exact x3.elim
  | ret dr =>
   obtain ⟨rfl, rfl⟩ := hq
   cases fl with
   | ret v => exact kP ⟨G3, tk4, rfl, BG3, keepS k4, Rep.sub (fun b o' hb _ => .tail _ hb) x3⟩
   | _ => exact x3.elim
 ·obtain rfl : i = ds.length := Nat.le_antisymm hi (Nat.not_lt.mp hlt)
  rw [List.drop_length] at hq
  cases hq
  refine kP (W.W.done _ _ _ st fun G1 tk2 kp1 => ?_)
  have keep1 : ∀ b o, b ≠ I -> G.get? b = some o -> G1.get? b = some o := fun b o hb e => kp1 b o (ne2 hb) e
  exact wpAny_execs_nil ⟨G1, tk2, rfl, finN hN SG (BG.but (a := I) keep1 lowI (notCode st)) (fun b o' t1 t2 e => keep1 b o' (fun q => t2.elim (fun z => z (q ▸ .head _)) fun z => hIY (q ▸ z)) (kG b o' t1 t2 e)) keep1⟩
theorem zzv (H : Hyps w mb K O) {mv : List Str} (ih : zho w mb K O mv n) {c c' : St} {f : Fl} {t iter : PySem.Expr} {body : List PySem.Stmt} {pos : Pos} {ds : List D} (hA : Rm A K) (S : Sc env c.σ c.own X Y s.heap) (B : Base w mb s.heap)
  (q1 : zd9 (zaa O n) ⟨env.kindOf, c.σ, c.own⟩ iter = some ds) (q : zbu env.kindOf t (zcc (zae O mv env.kindOf n) body) ds c = some (c', f)) : TotS w mb A env X Y (exec (.For t iter body [] pos) env) s c' f :=
 zos ih hA S B (fun go => zs5 H hA S B q1 go) q
end
end
section
section
variable {w : World} {mb : Str -> Option Value} {K : Nat} {O : Orc} {n : Nat}
noncomputable abbrev StOk (w : World) (mb : Str -> Option Value) (A : Around) (env : Env) (X Y : List Addr) (s : Shared) (st : PySem.Stmt) (r : Mine.St × Fl) : Prop := TotS w mb A env X Y (exec st env) s r.1 r.2
section
variable {A : Around} {env : Env} {X Y : List Addr} {s : Shared} {c : Mine.St} {mv : List Str}
theorem zty (H : Hyps w mb K O) (hA : Rm A K) (S : Sc env c.σ c.own X Y s.heap) (B : Base w mb s.heap) {x : Str} {p1 p2 p3 : Pos} {i e : PySem.Expr} : zac (zae O mv env.kindOf (n + 1) c (.Assign [.Subscript (.Name x p1) i p2] e p3)) (StOk w mb A env X Y s (.Assign [.Subscript (.Name x p1) i p2] e p3)) := by
 show zac (match c.own with
   | some (y, ds) => if x = y /\ zct e = true /\ c.σ.lookup x = none /\ zax x = true then (match zaa O n ⟨env.kindOf, c.σ, c.own⟩ e with
    | some (d, kd) => (match zaa O n ⟨env.kindOf, c.σ, c.own⟩ i with
     | some (.int j, _) => if kd ≠ Kd.brw /\ 0 <= j /\ j < ds.length /\ j < 2 ^ 62 /\ zae.notSlice i = true then some ((⟨c.σ, some (y, ds.set j.toNat d)⟩ : Mine.St), Fl.next) else none
     | _ => none)
    | none => none) else none
   | none => none) _
 rcases ho : c.own with _ | ⟨y, ds⟩
 ·exact .no
 ·dsimp only
  rw [<- ho]
  refine .gd fun hc => ?_
  obtain ⟨rfl, ht, hl, hn⟩ := hc
  rcases h1 : zaa O n ⟨env.kindOf, c.σ, c.own⟩ e with _ | ⟨d, kd⟩
  ·exact .no
  ·rcases h2 : zaa O n ⟨env.kindOf, c.σ, c.own⟩ i with _ | ⟨j, k2⟩
   ·exact .no
   ·cases j with
    | int j => exact .ite fun hj => zzt H hA S B ho ht hn h1 hj.1 h2 hj.2.1 hj.2.2.1 hj.2.2.2.1
    | _ => exact .no
theorem zqs (H : Hyps w mb K O) (hA : Rm A K) (S : Sc env c.σ c.own X Y s.heap) (B : Base w mb s.heap) {x m : Str} {p1 apos pos p3 : Pos} {args : List PySem.Expr} : zac (zae O mv env.kindOf (n + 1) c (.Expr (.Call (.Attribute (.Name x p1) m apos) args [] pos) p3)) (StOk w mb A env X Y s (.Expr (.Call (.Attribute (.Name x p1) m apos) args [] pos) p3)) := by
 show zac (match c.own with
   | some (y, ds) => if x = y /\ apos.endLine = pos.line /\ c.σ.lookup x = none /\ zax x = true /\ ds.length <= sizeLine then
     (match args with
     | [] => if m = ("reverse" : Str) then some ((⟨c.σ, some (y, ds.reverse)⟩ : Mine.St), Fl.next) else none
     | [e] => if m = ("append" : Str) then (match zaa O n ⟨env.kindOf, c.σ, c.own⟩ e with
      | some (d, kd) => if kd ≠ Kd.brw then some ((⟨c.σ, some (y, ds ++ [d])⟩ : Mine.St), Fl.next) else none
      | none => none) else none
     | _ => none) else none
   | none => none) _
 rcases ho : c.own with _ | ⟨y, ds⟩
 ·exact .no
 ·dsimp only
  rw [<- ho]
  refine .gd fun hc => ?_
  obtain ⟨rfl, hp, hl, hn, hz⟩ := hc
  cases args with
  | nil => exact .ite fun hm => by subst hm; exact zmw H hA S B ho hp hn hz
  | cons e args =>
   cases args with
   | cons => exact .no
   | nil =>
    refine .gd fun hm => ?_
    subst hm
    rcases h1 : zaa O n ⟨env.kindOf, c.σ, c.own⟩ e with _ | ⟨d, kd⟩
    ·exact .no
    ·exact .ite fun hk => zot H hA S B ho hp hn hz h1 hk
theorem zkt (H : Hyps w mb K O) (hA : Rm A K) (S : Sc env c.σ c.own X Y s.heap) (B : Base w mb s.heap) {ts : List PySem.Expr} {e : PySem.Expr} {p : Pos} : zac (zae O mv env.kindOf (n + 1) c (.Assign ts e p)) (StOk w mb A env X Y s (.Assign ts e p)) := by
 cases ts with
 | nil => exact .no
 | cons t ts =>
  cases ts with
  | nil =>
   cases t with
   | Name x q =>
    show zac (match zaa O (n + 1) ⟨env.kindOf, c.σ, c.own⟩ e with | some r => (zsb mv env.kindOf c x r).map (·, Fl.next) | none => none) _
    rcases h1 : zaa O (n + 1) ⟨env.kindOf, c.σ, c.own⟩ e with _ | ⟨d, k⟩
    ·exact .no
    ·exact .map fun c1 e1 => zv1 H hA S B h1 e1
   | Tuple es k q =>
    show zac (if zdt e = true then (match zaa O n ⟨env.kindOf, c.σ, c.own⟩ e with | some (d, kd) => if kd ≠ Kd.brw then (za8 env.kindOf c.own c.σ (.Tuple es k q) d).map fun σ => ((⟨σ, c.own⟩ : Mine.St), Fl.next) else none | none => none) else none) _
    refine .gd fun ht => ?_
    rcases h1 : zaa O n ⟨env.kindOf, c.σ, c.own⟩ e with _ | ⟨d, kd⟩
    ·exact .no
    ·exact .gd fun hk => .map fun σ1 e1 => zzs H hA S B ht h1 hk e1
   | Subscript v i q =>
    cases v with
    | Name x r => exact zty H hA S B
    | _ => exact .no
   | _ => exact .no
  | cons t2 ts =>
   cases t with
   | Name x q =>
    cases t2 with
    | Name y q2 =>
     cases ts with
     | nil => exact .no
     | cons t3 ts =>
      cases t3 with
      | Name z q3 =>
       cases ts with
       | cons => exact .no
       | nil =>
        show zac (match zaa O n ⟨env.kindOf, c.σ, c.own⟩ e with | some (d, kd) => if scalar d = true /\ zdt e = true /\ zc1 env.kindOf c.own x = true /\ zc1 env.kindOf c.own y = true /\ zc1 env.kindOf c.own z = true then some ((⟨put (put (put c.σ x d) y d) z d, c.own⟩ : Mine.St), Fl.next) else none | none => none) _
        rcases h1 : zaa O n ⟨env.kindOf, c.σ, c.own⟩ e with _ | ⟨d, kd⟩
        ·exact .no
        ·exact .ite fun hc => zr8 H hA S B hc.2.1 h1 hc.1 hc.2.2.1 hc.2.2.2.1 hc.2.2.2.2
      | _ => exact .no
    | _ => exact .no
   | Subscript v i q => cases v <;> exact .no
   | _ => exact .no
theorem zqr (H : Hyps w mb K O) (ih : zho w mb K O mv n) (hA : Rm A K) (S : Sc env c.σ c.own X Y s.heap) (B : Base w mb s.heap) {st : PySem.Stmt} : zac (zae O mv env.kindOf (n + 1) c st) (StOk w mb A env X Y s st) := by
 cases st with
 | Assign ts e p => exact zkt H hA S B
 | Expr e p =>
  cases e with
  | Call g args kw pos =>
   cases g with
   | Attribute o m apos =>
    cases o with
    | Name x p1 =>
     cases kw with
     | nil => exact zqs H hA S B
     | cons => exact .no
    | _ => exact .no
   | _ => exact .no
  | _ => exact .no
 | If t body orelse p =>
  show zac (match zaa O n ⟨env.kindOf, c.σ, c.own⟩ t with | some (d, _) => (match zan d with | some true => zcc (zae O mv env.kindOf n) body c | some false => zcc (zae O mv env.kindOf n) orelse c | none => none) | none => none) _
  rcases h1 : zaa O n ⟨env.kindOf, c.σ, c.own⟩ t with _ | ⟨d, k⟩
  ·exact .no
  ·dsimp only
   rcases hb : zan d with _ | b
   ·exact .no
   ·cases b with
    | true => exact fun r q => zzu H ih (b := true) hA S B h1 hb q
    | false => exact fun r q => zzu H ih (b := false) hA S B h1 hb q
 | For t iter body orelse p =>
  cases orelse with
  | cons => exact .no
  | nil =>
   show zac (match zd9 (zaa O n) ⟨env.kindOf, c.σ, c.own⟩ iter with | some ds => zbu env.kindOf t (zcc (zae O mv env.kindOf n) body) ds c | none => none) _
   rcases h1 : zd9 (zaa O n) ⟨env.kindOf, c.σ, c.own⟩ iter with _ | ds
   ·exact .no
   ·exact fun r q => zzv H ih hA S B h1 q
 | Return e p =>
  cases e with
  | none => exact .no
  | some e =>
   show zac (match zaa O n ⟨env.kindOf, c.σ, c.own⟩ e with | some (d, _) => some (c, Fl.ret d) | none => none) _
   rcases h1 : zaa O n ⟨env.kindOf, c.σ, c.own⟩ e with _ | ⟨d, k⟩
   ·exact .no
   ·exact .so (zi0 H hA S B h1)
 | Break p => exact .so (zr9 S B)
 | _ => exact .no
end
theorem zec (H : Hyps w mb K O) (mv : List Str) (n : Nat) : zho w mb K O mv n := by
 induction n with
 | zero => exact fun _ _ _ q => zaf q
 | succ n ih => exact fun hA S B q => zqr H ih hA S B (_, _) q
end
end
section
noncomputable def fd0 : FuncData := { name := "", qualname := "", params := ⟨[], [], none, [], [], none, []⟩, body := .stmts [], scope := ⟨.function, [], false, false, []⟩, globals := 0, closure := [], defaults := .none, kwdefaults := .none }
noncomputable def zer (w : World) (a : Addr) : FuncData := match (KK w).lookup a with
 | some o => (match o.data with | .func fd => fd | _ => fd0)
 | none => fd0
noncomputable def zba (w : World) (a : Addr) : Bool := match (KK w).lookup a with
 | some o => (match o.data with | .func fd => true | _ => false)
 | none => false
noncomputable def zay (w : World) (a : Addr) : List PySem.Stmt := match (zer w a).body with
 | .stmts b => b
 | _ => []
noncomputable def zwz : FuncBody -> Bool
 | .stmts _ => true
 | _ => false
noncomputable def zab (w : World) (a : Addr) : Kf := fun x => (zer w a).scope.names.lookup x
noncomputable def z17 (w : World) (a : Addr) (ps : List Str) : Bool :=
 zba w a && zwz (zer w a).body && (zer w a).closure.isEmpty && ((zer w a).globals == mainGlobals) && ((zer w a).builtins == builtinsNs) && ((zer w a).scope.kind == .function) && !(zer w a).scope.isCoroutine && !(zer w a).scope.isGenerator &&
 codeIn (KK w) (zer w a).code (zer w a).qualname && ps.all (fun x => zab w a x == some .local || zab w a x == some .cell) && decide ps.Nodup
structure FnAt (w : World) (a : Addr) (ps : List Str) : Prop where
 chk : z17 w a ps = true
 bind : ∀ vs : List Value, vs.length = ps.length -> bindArgs (zer w a) ⟨vs, []⟩ = pure (ps.zip vs)
theorem zcv {x : Str} {names : List (Str × NameKind)} : ∀ {n : Nat} {acc : List (Str × Addr)}, ((x, NameKind.cell) ∈ names ∨ ∃ c, acc.lookup x = some c) -> ∃ c, (cellsFrom n names acc).lookup x = some c := by
 induction names with
 | nil =>
  intro n acc h
  exact h.elim (fun h => by cases h) id
 | cons p0 r IH =>
  obtain ⟨y, k⟩ := p0
  intro n acc h
  unfold cellsFrom
  by_cases hk : (k == NameKind.cell) = true
  ·rw [if_pos hk]
   refine IH ?_
   rcases h with h | ⟨c, h⟩
   ·rcases List.mem_cons.mp h with e | h
    ·cases e; exact .inr ⟨n, by simp⟩
    ·exact .inl h
   ·by_cases hxy : x = y
    ·subst hxy; exact .inr ⟨n, by simp⟩
    ·exact .inr ⟨c, by rw [List.lookup_cons, show (x == y) = false by simpa using hxy]; exact h⟩
  ·rw [if_neg hk]
   refine IH (h.imp ?_ id)
   intro h
   rcases List.mem_cons.mp h with e | h
   ·cases e; exact absurd rfl hk
   ·exact h
theorem zmi {kf : Str -> Option NameKind} {x : Str} {v : Value} (hk : kf x = some .local) : ∀ {b : List (Str × Value)} {m : Str -> Option Value}, (b.map (·.1)).Nodup -> ((x, v) ∈ b ∨ (m x = some v /\ x ∉ b.map (·.1))) -> bindL kf b m x = some v
 | [], m, _, h => h.elim (fun h => by cases h) (·.1)
 | (y, u) :: r, m, hn, h => by
  unfold bindL
  rw [List.map_cons, List.nodup_cons] at hn
  refine zmi hk hn.2 ?_
  rcases h with h | ⟨h1, h2⟩
  ·rcases List.mem_cons.mp h with e | h
   ·cases e
    exact .inr ⟨by rw [if_pos hk]; simp, hn.1⟩
   ·exact .inl h
  ·rw [List.map_cons, List.mem_cons, not_or] at h2
   refine .inr ⟨?_, h2.2⟩
   split
   ·show (if x = y then some u else m x) = some v
    rw [if_neg h2.1]; exact h1
   ·exact h1
theorem zmj {kf : Str -> Option NameKind} {x : Str} {v : Value} (hk : kf x ≠ some .local) : ∀ {b : List (Str × Value)} {m : Str -> Option Value}, (b.map (·.1)).Nodup -> ((x, v) ∈ b ∨ (m x = some v /\ x ∉ b.map (·.1))) -> bindC kf b m x = some v
 | [], m, _, h => h.elim (fun h => by cases h) (·.1)
 | (y, u) :: r, m, hn, h => by
  unfold bindC
  rw [List.map_cons, List.nodup_cons] at hn
  refine zmj hk hn.2 ?_
  rcases h with h | ⟨h1, h2⟩
  ·rcases List.mem_cons.mp h with e | h
   ·cases e
    exact .inr ⟨by rw [if_neg hk]; simp, hn.1⟩
   ·exact .inl h
  ·rw [List.map_cons, List.mem_cons, not_or] at h2
   refine .inr ⟨?_, h2.2⟩
   split
   ·exact h1
   ·show (if x = y then some u else m x) = some v
    rw [if_neg h2.1]; exact h1
theorem zhq {X : List Addr} {h : Heap} {x : Str} {d : D} : ∀ {ps : List Str} {vs : List Value} {ds : List D}, RepA X h vs ds -> (ps.zip ds).lookup x = some d -> ∃ v, (x, v) ∈ ps.zip vs /\ Rep X h v d
 | [], _, _, _, e => by cases e
 | p :: ps, _, _, .nil, e => by cases e
 | p :: ps, _, _, .cons (v := v) (vs := vs) (d := d0) (ds := ds) a r, e => by
  rw [List.zip_cons_cons, List.lookup_cons] at e
  cases hb : x == p with
  | true => rw [hb] at e; cases e; rw [beq_iff_eq.mp hb]; exact ⟨v, .head _, a⟩
  | false => rw [hb] at e; obtain ⟨u, h1, h2⟩ := zhq r e; exact ⟨u, .tail _ h1, h2⟩
theorem zc4 : ∀ {ps : List Str} {vs : List Value}, vs.length = ps.length -> (ps.zip vs).map (·.1) = ps
 | [], [], _ => rfl
 | p :: ps, v :: vs, h => by rw [List.zip_cons_cons, List.map_cons, zc4 (by simpa using h)]
 | [], _ :: _, h => by cases h
 | _ :: _, [], h => by cases h
section
variable {w : World} {mb : Str -> Option Value} {K : Nat} {O : Orc} {n : Nat}
noncomputable def zy0 (Y : List Addr) (h' : Heap) (r : D) : Flow -> Prop
 | .ret v => Rep Y h' v r
 | .next => r = .none
 | _ => False
noncomputable def zvp (w : World) (mb : Str -> Option Value) (K : Nat) (kf : Kf) (σ : List (Str × D)) (body : List PySem.Stmt) (r : D) : Prop := ∀ {A : Around} {env : Env} {X Y : List Addr} {s : Shared}, Rm A K -> env.kindOf = kf -> Sc env σ none X Y s.heap -> Base w mb s.heap ->
 wpAny (model pg w) A (execs body env) (fun fl s' => ∃ h' tk, s' = { s with heap := h', toks := tk } /\ Base w mb h' /\ Chs X Y s.heap h' /\ zy0 Y h' r fl) (fun _ _ => False) s
set_option tactic.hygienic true in
theorem zed {A : Around} {s : Shared} {X : List Addr} {vs : List Value} {a : Addr} {ps : List Str} {args : List D} {R : Result -> Shared -> Prop} (F : FnAt w a ps) (hl : args.length = ps.length)
  (hA : Rm A (K + 1)) (B : Base w mb s.heap) (hX : ∀ a ∈ X, ∃ o, s.heap.get? a = some o) (hT : ∀ a ∈ TT, a ∈ X) (ra : RepA X s.heap vs args)
  (q : ∀ (A' : Around) (env : Env) (X' : List Addr) (h1 : Heap) (tk1 : Nat), Rm A' K -> env.kindOf = zab w a -> Sc env (ps.zip args) none X' X h1 -> Base w mb h1 -> (∀ b o, s.heap.get? b = some o -> h1.get? b = some o) -> (∀ b ∈ X', b ∈ X ∨ s.heap.get? b = none) ->
   (∀ x v, (x, v) ∈ ps.zip vs -> zbl env h1 x v) -> s.heap.get? env.locals = none -> (∀ y c, env.cells.lookup y = some c -> s.heap.get? c = none) -> env = callEnvC (zer w a) s.heap.objs.size a ->
   wpAny (model pg w) A' (execs (zay w a) env) (fun fl s' => match fl with | .ret v => R (.ok (.ret v)) s' | .next => R (.ok (.ret .none)) s' | _ => False) (fun _ _ => False) { s with heap := h1, toks := tk1 }) :
  codeAny (model pg w) A (.call (.ref a) ⟨vs, []⟩) R s := by
 have hc := F.chk
 unfold z17 at hc
 simp only [Bool.and_eq_true, Bool.not_eq_true', beq_iff_eq, decide_eq_true_eq] at hc
 obtain ⟨⟨⟨⟨⟨⟨⟨⟨⟨⟨c1, c2⟩, c3⟩, c4⟩, c5⟩, c6⟩, c7⟩, c8⟩, c9⟩, c10⟩, c11⟩ := hc
 have hvl : vs.length = ps.length := by rw [ra.length, hl]
 obtain ⟨o, ho, hd⟩ : ∃ o, (KK w).lookup a = some o /\ o.data = .func (zer w a) := by
  unfold zba at c1
  unfold zer
  split at c1
  ·rename_i o ho
   rw [ho]
   split at c1
   ·rename_i fd hfd
    exact ⟨o, rfl, by rw [hfd]⟩
   ·cases c1
  ·cases c1
 have hbody : (zer w a).body = .stmts (zay w a) := by
  unfold zay
  cases hb : (zer w a).body with
  | stmts b => rfl
  | _ => rw [hb] at c2; cases c2
 have hclo : (zer w a).closure = [] := List.isEmpty_iff.mp c3
 have lowL : 227 < s.heap.objs.size := B.low
 have hLn : s.heap.get? s.heap.objs.size = none := zam (Nat.le_refl _)
 have hnames := zc4 hvl
 have c10' : ∀ x ∈ ps, zab w a x = some .local ∨ zab w a x = some .cell := fun x hx => by simpa using List.all_eq_true.mp c10 x hx
 refine codeAny_call_cells (vals := vs) (binds := ps.zip vs) (body := zay w a) (by have := hA.d; lia) (B.k a o ho) hd B.lim (codeRec_of B.k c9) hbody (F.bind vs hvl) hclo (fun x hx => ?_) (fun s₁ I => ?_) c7 c8 c6
 ·have hx' : x.1 ∈ ps := by rw [<- hnames]; exact List.mem_map_of_mem hx
  rcases c10' x.1 hx' with h | h
  ·exact .inl h
  ·refine .inr ⟨h, ?_⟩
   obtain ⟨c, hc⟩ := zcv (n := s.heap.objs.size + 1) (acc := []) (.inl (mem_of_lookup h))
   rw [hc]; rfl
 ·generalize henv : callEnvC (zer w a) s.heap.objs.size a = env at I ⊢
  have kf : env.kindOf = zab w a := by rw [<- henv]; rfl
  have eL : env.locals = s.heap.objs.size := by rw [<- henv]; rfl
  have eC : env.cells = cellsFrom (s.heap.objs.size + 1) (zer w a).scope.names [] := by rw [<- henv]; rfl
  obtain ⟨⟨h1, tk1, rfl⟩, hns, hkeep, hfresh⟩ := I.toInCall
  dsimp only at hns hkeep
  have B1 : Base w mb h1 := B.keeps hkeep
  have cAbove : ∀ x c, env.cells.lookup x = some c -> env.locals < c := fun x c e => I.above x c (mem_of_lookup e)
  have deadC : ∀ c, s.heap.objs.size <= c -> s.heap.get? c = none := fun c hc => zam hc
  obtain ⟨cl, hcl⟩ : ∃ cl, cl = (env.cells.filter fun p => env.cells.lookup p.1 == some p.2).map (·.2) := ⟨_, rfl⟩
  have cellList : ∀ x c, env.cells.lookup x = some c -> c ∈ cl := fun x c e => hcl ▸ List.mem_map.mpr ⟨(x, c), List.mem_filter.mpr ⟨mem_of_lookup e, by simp [e]⟩, rfl⟩
  have cellHas : ∀ c ∈ cl, ∃ x, env.cells.lookup x = some c := fun c hc => by
   rw [hcl] at hc
   obtain ⟨p, hp, rfl⟩ := List.mem_map.mp hc
   exact ⟨p.1, by simpa using (List.mem_filter.mp hp).2⟩
  have cellDead : ∀ c ∈ cl, s.heap.get? c = none /\ c ≠ env.locals := fun c hc => by
   obtain ⟨x, hx⟩ := cellHas c hc
   have := cAbove x c hx
   rw [eL] at this
   exact ⟨deadC _ (Nat.le_of_lt this), by rw [eL]; exact Nat.ne_of_gt this⟩
  have notX : ∀ c, s.heap.get? c = none -> c ∉ X := fun c hc q => by obtain ⟨o, e⟩ := hX c q; rw [hc] at e; cases e
  have hvar : ∀ x v, (x, v) ∈ ps.zip vs -> zbl env h1 x v := fun x v hv => by
   have hx' : x ∈ ps := by rw [<- hnames]; exact List.mem_map_of_mem hv
   have hnd : ((ps.zip vs).map (·.1)).Nodup := by rw [hnames]; exact c11
   by_cases hk : env.kindOf x = some .local
   ·exact .inl ⟨hk, _, hns, zmi hk hnd (.inl hv)⟩
   ·have hk2 : env.kindOf x = some .cell := by
     rcases c10' x hx' with h | h
     ·exact absurd (kf ▸ h) hk
     ·exact kf ▸ h
    obtain ⟨c, hc⟩ := zcv (n := s.heap.objs.size + 1) (acc := []) (.inl (mem_of_lookup (l := (zer w a).scope.names) (kf ▸ hk2)))
    rw [<- eC] at hc
    have := I.cell x c hc
    rw [zmj hk hnd (.inl hv)] at this
    exact .inr ⟨.inl hk2, c, hc, this⟩
  have S : Sc env (ps.zip args) none (env.locals :: (cl ++ X)) X h1 := {
   eok := {
    kind := by rw [<- henv]; exact c6
    glob := by rw [<- henv]; exact c4
    blt := by rw [<- henv]; exact c5
    low := by rw [eL]; exact lowL
    cells := fun x c e => ⟨by have := cAbove x c e; rw [eL] at this; exact Nat.lt_trans lowL this, Nat.ne_of_gt (cAbove x c e)⟩
    apart := fun x y c e1 e2 => name_of_addr I.apart (mem_of_lookup e1) (mem_of_lookup e2) }
   ns := ⟨_, hns⟩
   cel := fun x e => by
    rw [kf] at e
    obtain ⟨c, hc⟩ := zcv (n := s.heap.objs.size + 1) (acc := []) (.inl (mem_of_lookup e))
    rw [<- eC] at hc
    exact ⟨c, _, hc, I.cell x c hc⟩
   vars := fun x d e => by
    obtain ⟨v, hv, rv⟩ := zhq ra e
    refine ⟨v, hvar x v hv, (rv.sub fun b o hb e => ?_).mono fun b o _ e => hkeep b o e⟩
    rcases List.mem_cons.mp hb with rfl | hb
    ·rw [eL, hLn] at e; cases e
    ·rcases List.mem_append.mp hb with hb | hb
     ·rw [(cellDead b hb).1] at e; cases e
     ·exact hb
   own := fun x ds e => by cases e
   live := fun b hb => by
    rcases List.mem_cons.mp hb with rfl | hb
    ·obtain ⟨o, _, _, e, _⟩ := hns; exact ⟨o, e⟩
    ·rcases List.mem_append.mp hb with hb | hb
     ·obtain ⟨x, hx⟩ := cellHas b hb
      obtain ⟨o, e, _⟩ := I.cell x _ hx
      exact ⟨o, e⟩
     ·obtain ⟨o, e⟩ := hX b hb; exact ⟨o, hkeep b o e⟩
   locX := .head _
   celX := fun x c e => .tail _ (List.mem_append_left _ (cellList x c e))
   ttX := fun b hb => .tail _ (List.mem_append_right _ (hT b hb))
   subY := fun b hb => .tail _ (List.mem_append_right _ hb)
   ttY := hT
   locY := notX _ (by rw [eL]; exact hLn)
   celY := fun x c _ e => notX _ (cellDead c (cellList x c e)).1 }
  have hA' : Rm (A.deeper env) K := ⟨hA.hh, by have := hA.d; show A.depth + 1 + K < _; lia, by have := hA.u; show A.units + 3 + _ + _ < _; lia⟩
  refine wpAny_mono (q (A.deeper env) env _ h1 tk1 hA' kf S B1 hkeep (fun b hb => ?_) hvar (by rw [eL]; exact hLn) (fun y c e => (cellDead c (cellList y c e)).1) henv.symm) (fun fl s2 x => ?_) (fun _ _ e => e.elim)
  ·rcases List.mem_cons.mp hb with rfl | hb
   ·exact .inr (by rw [eL]; exact hLn)
   ·rcases List.mem_append.mp hb with hb | hb
    ·exact .inr (cellDead b hb).1
    ·exact .inl hb
  ·cases fl <;> first | exact x | exact x.elim
theorem z0b {a : Addr} {ps : List Str} {args : List D} {r : D} (F : FnAt w a ps) (hl : args.length = ps.length)
  (q : zvp w mb K (zab w a) (ps.zip args) (zay w a) r) : zfi w mb (K + 1) (.ref a) args r := fun A s X vs hA B hX hT ra =>
 wpAny_call (zed F hl hA B hX hT ra fun A' env X' h1 tk1 hA' kf S B1 keep1 hX' _ _ _ _ => wpAny_mono (q (s := { s with heap := h1, toks := tk1 }) hA' kf S B1) (fun fl s2 x => by
  obtain ⟨h2, tk2, rfl, b2, k2, x⟩ := x
  have keep : zyx s.heap h2 := fun b o hb e => k2 b o hb ((Classical.em (b ∈ X)).elim .inr fun n => .inl fun q => (hX' b q).elim n fun d => zaf (d.symm.trans e)) (keep1 b o e)
  cases fl with
  | ret v => exact ⟨h2, tk2, rfl, keep, b2, x⟩
  | next => exact ⟨h2, tk2, rfl, keep, b2, (show r = .none from x) ▸ .none⟩
  | _ => exact x.elim) fun _ _ f => f.elim)
end
end
section
noncomputable def zc3 (O : Orc) (mv : List Str) (kf : Kf) (n : Nat) : Nat -> List (List PySem.Stmt) -> St -> Option D
 | 0, _, _ => none
 | _ + 1, [], _ => some .none
 | m + 1, [] :: r, c => zc3 O mv kf n m r c
 | m + 1, (st :: l) :: r, c => match st with
  | .If t b o _ => (match zaa O n ⟨kf, c.σ, c.own⟩ t with
   | some (d, _) => (match zan d with
    | some z => cond z (zc3 O mv kf n m (b :: l :: r) c) (zc3 O mv kf n m (o :: l :: r) c)
    | none => none)
   | none => none)
  | .Return (some e) _ => (match zaa O n ⟨kf, c.σ, c.own⟩ e with
   | some (d, _) => some d
   | none => none)
  | st => (match zae O mv kf n c st with
   | some (c', .next) => zc3 O mv kf n m (l :: r) c'
   | some (_, .ret d) => some d
   | _ => none)
section
variable {w : World} {mb : Str -> Option Value} {K : Nat} {O : Orc} {n : Nat} {A : Around} {env : Env}
noncomputable def Nest (w : World) (A : Around) (env : Env) (Q : Flow -> Shared -> Prop) : List (List PySem.Stmt) -> Shared -> Prop
 | [], s => Q .next s
 | l :: r, s => wpAny (model pg w) A (execs l env) (fun f s' => match f with | .next => Nest w A env Q r s' | f => Q f s') (fun _ _ => False) s
inductive KC (O : Orc) (mv : List Str) (kf : Kf) (n m : Nat) (st : PySem.Stmt) (l : List PySem.Stmt) (r' : List (List PySem.Stmt)) (c : Mine.St) (r : D) : Prop
 | ifc (t : PySem.Expr) (b o : List PySem.Stmt) (p : Pos) (d : D) (k : Kd) (z : Bool) (e : st = .If t b o p) (h1 : zaa O n ⟨kf, c.σ, c.own⟩ t = some (d, k)) (hz : zan d = some z) (q : cond z (zc3 O mv kf n m (b :: l :: r') c) (zc3 O mv kf n m (o :: l :: r') c) = some r)
 | ret (e : PySem.Expr) (p : Pos) (k : Kd) (es : st = .Return (some e) p) (h1 : zaa O n ⟨kf, c.σ, c.own⟩ e = some (r, k))
 | next (c' : Mine.St) (h : zae O mv kf n c st = some (c', .next)) (q : zc3 O mv kf n m (l :: r') c' = some r)
 | done (c' : Mine.St) (h : zae O mv kf n c st = some (c', .ret r))
theorem zm1 {O : Orc} {mv : List Str} {kf : Kf} {n m : Nat} {st : PySem.Stmt} {l : List PySem.Stmt} {r' : List (List PySem.Stmt)} {c : Mine.St} {r : D} (q : zc3 O mv kf n (m + 1) ((st :: l) :: r') c = some r) : KC O mv kf n m st l r' c r := by
 have gen : (match zae O mv kf n c st with | some (c', .next) => zc3 O mv kf n m (l :: r') c' | some (_, .ret d) => some d | _ => none) = some r -> KC O mv kf n m st l r' c r := fun q => by
  cases h : zae O mv kf n c st with
  | none => rw [h] at q; exact zaf q
  | some x =>
   obtain ⟨c', f⟩ := x
   rw [h] at q
   cases f with
   | next => exact .next c' h q
   | ret d => exact .done c' (Option.some.inj q ▸ h)
   | brk => exact zaf q
 cases st with
 | If t b o p =>
  clear gen
  change (match zaa O n ⟨kf, c.σ, c.own⟩ t with | some (d, _) => (match zan d with | some z => cond z (zc3 O mv kf n m (b :: l :: r') c) (zc3 O mv kf n m (o :: l :: r') c) | none => none) | none => none) = some r at q
  cases h1 : zaa O n ⟨kf, c.σ, c.own⟩ t with
  | none => rw [h1] at q; exact zaf q
  | some x =>
   obtain ⟨d, k⟩ := x
   rw [h1] at q
   dsimp only at q
   cases hz : zan d with
   | none => rw [hz] at q; exact zaf q
   | some z => rw [hz] at q; exact .ifc t b o p d k z rfl h1 hz q
 | Return v p =>
  cases v with
  | none => exact gen q
  | some e =>
   clear gen
   change (match zaa O n ⟨kf, c.σ, c.own⟩ e with | some (d, _) => some d | none => none) = some r at q
   cases h1 : zaa O n ⟨kf, c.σ, c.own⟩ e with
   | none => rw [h1] at q; exact zaf q
   | some x => rw [h1] at q; obtain ⟨d, k⟩ := x; exact .ret e p k rfl (Option.some.inj q ▸ h1)
 | _ => exact gen q
theorem zwf (H : Hyps w mb K O) {mv : List Str} (hA : Rm A K) {r : D} {Y : List Addr} {Q : Flow -> Shared -> Prop} {m : Nat} : ∀ {bl : List (List PySem.Stmt)} {c : St} {X : List Addr} {s : Shared}, Sc env c.σ c.own X Y s.heap -> Base w mb s.heap -> zc3 O mv env.kindOf n m bl c = some r ->
  (∀ fl h' tk, Base w mb h' -> Chs X Y s.heap h' -> zy0 Y h' r fl -> Q fl { s with heap := h', toks := tk }) -> Nest w A env Q bl s := by
 induction m with
 | zero => exact fun _ _ q _ => zaf q
 | succ m ih =>
  intro bl c X s S B q fin
  cases bl with
  | nil =>
   cases q
   exact fin .next s.heap s.toks B .refl rfl
  | cons l r' =>
   cases l with
   | nil => exact wpAny_execs_nil (ih S B q fin)
   | cons st l =>
    have ret : ∀ {c' : St}, TotS w mb A env X Y (exec st env) s c' (.ret r) -> Nest w A env Q ((st :: l) :: r') s := fun x =>
     wpAny_execs_cons (wpAny_mono x.run (fun fl s1 y => by
      obtain ⟨h1, tk1, rfl, b1, k1, y⟩ := y
      cases fl with
      | ret v => exact fin (.ret v) h1 tk1 b1 k1 y
      | _ => exact y.elim) fun _ _ f => f.elim)
    rcases zm1 q with ⟨t, b, o, p, d, k, z, rfl, h1, hz, q⟩ | ⟨e, p, k, rfl, h1⟩ | ⟨c', h1, q⟩ | ⟨c', h1⟩
    ·refine wpAny_execs_cons (wpAny_If (((zao H n).2 hA S B h1 hz).use fun z' h2 tk2 k2 b2 e => ?_))
     subst e
     have step : ∀ bb : List PySem.Stmt, zc3 O mv env.kindOf n m (bb :: l :: r') c = some r -> Nest w A env Q (bb :: l :: r') { s with heap := h2, toks := tk2 } := fun bb q' =>
      ih (s := { s with heap := h2, toks := tk2 }) (S.kp k2 b2) b2 q' fun fl h' tk b3 k3 d3 => fin fl h' tk b3 ((k2.chs S).trans (N := []) k3 zee) d3
     cases z' with
     | true =>
      refine wpAny_mono (step b q) (fun f s3 y => ?_) fun _ _ f => f.elim
      cases f <;> exact y
     | false =>
      refine wpAny_mono (step o q) (fun f s3 y => ?_) fun _ _ f => f.elim
      cases f <;> exact y
    ·exact ret (zi0 H hA S B h1)
    ·refine wpAny_execs_cons (wpAny_mono (zec H mv n hA S B h1).run (fun fl s1 y => ?_) fun _ _ f => f.elim)
     obtain ⟨h1, tk1, rfl, b1, k1, y⟩ := y
     cases fl with
     | next => exact y.elim fun N y => ih (s := { s with heap := h1, toks := tk1 }) y.2 b1 q fun fl h' tk b2 k2 d2 => fin fl h' tk b2 (k1.trans k2 y.1) d2
     | _ => exact y.elim
    ·exact ret (zec H mv n hA S B h1)
theorem bodyK (H : Hyps w mb K O) {mv : List Str} {kf : Kf} {σ : List (Str × D)} {body : List PySem.Stmt} {r : D} {m : Nat} (q : zc3 O mv kf n m [body] ⟨σ, none⟩ = some r) : zvp w mb K kf σ body r := by
 rintro A env X Y s hA rfl S B
 have := zwf (Q := fun fl s' => ∃ h' tk, s' = { s with heap := h', toks := tk } /\ Base w mb h' /\ Chs X Y s.heap h' /\ zy0 Y h' r fl) H hA (c := ⟨σ, none⟩) S B q fun fl h' tk b k d => ⟨h', tk, rfl, b, k, d⟩
 refine wpAny_mono this (fun f s1 y => ?_) fun _ _ f => f.elim
 cases f <;> exact y
set_option tactic.hygienic true in
theorem zav {a : Addr} (h : zba w a = true) : zjw w mb (.ref a) := by
 intro A pos first args Q E s _ hx
 obtain ⟨o, fd, ho, hd⟩ : ∃ o fd, (KK w).lookup a = some o /\ o.data = .func fd := by
  unfold zba at h
  split at h
  ·rename_i o ho
   split at h
   ·rename_i fd hfd
    exact ⟨o, fd, ho, hfd⟩
   ·cases h
  ·cases h
 exact callWith_function (wpAny_mono hx (fun x s₁ h₁ => ⟨⟨h₁.1.k a o ho, hd⟩, h₁.2⟩) fun _ _ e => e)
theorem zfi.mono {v : Value} {args : List D} {r : D} {K' : Nat} (x : zfi w mb K v args r) (h : K <= K') : zfi w mb K' v args r := fun A s X vs hA B hX hT ra => x A s X vs (hA.le h) B hX hT ra
end
end
section
section
variable {w : World} {mb : Str -> Option Value} {A : Around} {s : Shared} {X : List Addr}
theorem zvc {a dx : Addr} {od : Obj} {h : Heap} (h1 : h.get? a = some (instObj 100 dx)) (h2 : h.get? dx = some od) : InstAt h a (instObj 100 dx) 100 (some od) := ⟨h1, rfl, rfl, h2⟩
theorem z1o (w : World) : findIn (KK w) (.ref 100) "__getattribute__" = some (some (.builtin "object.__getattribute__")) := by kernel_rfl
theorem gt100 (w : World) : findIn (KK w) (.ref 100) "__getattr__" = some none := by kernel_rfl
theorem zve (w : World) : (clsIn (KK w) 100).any (·.hasDict) = true := by kernel_rfl
theorem zsm (w : World) : insNames.all (fun a => match findIn (KK w) (.ref 100) a with | some none => true | _ => false) = true := by kernel_rfl
theorem zj1 {X : List Addr} {h : Heap} {x : Str} {d : D} : ∀ {ps : List Str} {vs : List Value} {ds : List D}, RepA X h vs ds -> (ps.zip ds).lookup x = some d -> ∃ v, (x, v) ∈ ps.zip vs /\ Rep X h v d := fun r e => zhq r e
theorem znm {h : Heap} {v : Value} {d : D} (r : Rep X h v d) : handedIn v = true :=
 Rep.casesOn (motive_1 := fun v _ _ => handedIn v = true) r rfl (fun _ => rfl) (fun _ _ => rfl) (fun _ _ => rfl) (fun _ _ => rfl) (fun _ _ _ => rfl) (fun _ _ _ => rfl) (fun _ _ => rfl) (fun _ _ _ _ _ => rfl) (fun _ _ _ _ _ _ _ _ => rfl) id (fun _ _ _ => rfl) (fun _ _ _ _ _ => rfl)
theorem zrm {ov : Value} {fs : List (Str × D)} {a : Str} {d : D} {Q : Value -> Shared -> Prop} {E : Value -> Shared -> Prop} (B : Base w mb s.heap) (r : Rep X s.heap ov (.ins fs)) (hi : insNames.contains a = true) (q : fs.lookup a = some d)
  (k : ∀ v tk, Rep X s.heap v d -> Q v { s with toks := tk }) : wpAny (model pg w) A (getAttr ov a true) Q E s := by
 ·obtain ⟨a0, dx, od, names, vs, ds, rfl, g1, g2, hI, rA, rfl, hn⟩ := r.inv
  obtain ⟨v, hv, rv⟩ := zj1 rA q
  have hlook := hI.1 _ hv
  have hc : findIn (KK w) (.ref 100) a = some none := by
   have := List.all_eq_true.mp (zsm w) a (by simpa using hi)
   split at this
   ·assumption
   ·cases this
  obtain ⟨cd, hcd, hd⟩ := any_some (zve w)
  have hf : findObj (KK w) 100 (some od) a = some (.value v) := by
   unfold findObj
   rw [hcd, Option.bind_some, hc, Option.bind_some]
   show (some none).bind _ = _
   rw [Option.bind_some]
   show (some false).bind _ = _
   rw [Option.bind_some]
   unfold PySem.W.ownOf
   rw [hd, if_pos rfl]
   show (lookIn a od).bind _ = _
   have hlook' : lookIn a od = some (some v) := hlook
   rw [hlook']
   rfl
  exact get_value B.k (zvc g1 g2) (z1o w) hf (znm rv) (k v _ rv)
theorem zxm {f : Addr} {m : Str} {ov : Value} {fs : List (Str × D)} {pl : Sem Bool} {Q : Value × List Value -> Shared -> Prop} {E : Value -> Shared -> Prop} (hf : findIn (KK w) (.ref 100) m = some (some (.ref f))) (ht : typeIn (KK w) (.ref f) = some (.type "function"))
  (hm : (fs.map (·.1)).contains m = false) (B : Base w mb s.heap) (r : Rep X s.heap ov (.ins fs)) (h : Q (.ref f, [ov]) s) : wpAny (model pg w) A (getMethod ov m pl) Q E s := by
 ·obtain ⟨a0, dx, od, names, vs, ds, rfl, g1, g2, hI, rA, rfl, hn⟩ := r.inv
  refine method_fn B.k (zvc g1 g2) (z1o w) (gt100 w) hf ht ?_ h
  have e : (names.zip ds).map (·.1) = names := by
   have : ∀ {names : List Str} {ds : List D}, names.length = ds.length -> (names.zip ds).map (·.1) = names := by
    intro names
    induction names with
    | nil => intro ds _; rfl
    | cons p ps ih => intro ds h; cases ds with
     | nil => cases h
     | cons d ds => rw [List.zip_cons_cons, List.map_cons, ih (by simpa using h)]
   exact this (by rw [hn, rA.length])
  rw [e] at hm
  have := hI.2 m hm
  unfold shadowIn
  dsimp only
  rw [this]; rfl
end
end
noncomputable def zaw (w : World) (O : Orc) (mv : List Str) (a : Addr) (ps : List Str) (args : List D) : Option D :=
 if args.length = ps.length then zc3 O mv (zab w a) 40 40 [zay w a] ⟨ps.zip args, none⟩ else none
set_option tactic.hygienic true in
theorem zaz {w : World} {mb : Str -> Option Value} {K : Nat} {O : Orc} {mv : List Str} {a : Addr} {ps : List Str} {args : List D} {r : D} (H : Hyps w mb K O) (F : FnAt w a ps) (q : zaw w O mv a ps args = some r) : zfi w mb (K + 1) (.ref a) args r := by
 unfold zaw at q
 split at q
 ·rename_i hl
  exact z0b F hl (bodyK H q)
 ·cases q
theorem len0 {P : List Value -> Prop} (h : P []) (vs : List Value) (e : vs.length = 0) : P vs := by
 cases vs with
 | nil => exact h
 | cons => cases e
theorem lenS {n : Nat} {P : List Value -> Prop} (h : ∀ a (vs : List Value), vs.length = n -> P (a :: vs)) (vs : List Value) (e : vs.length = n + 1) : P vs := by
 cases vs with
 | nil => cases e
 | cons a vs => exact h a vs (Nat.succ.inj e)
theorem zvb {P : List Value -> Prop} (h : ∀ a, P [a]) : ∀ vs : List Value, vs.length = 1 -> P vs := lenS fun a => len0 (P := fun vs => P (a :: vs)) (h a)
theorem zsx {P : List Value -> Prop} (h : ∀ a b, P [a, b]) : ∀ vs : List Value, vs.length = 2 -> P vs := lenS fun a => zvb (P := fun vs => P (a :: vs)) (h a)
theorem zy4 {P : List Value -> Prop} (h : ∀ a b c, P [a, b, c]) : ∀ vs : List Value, vs.length = 3 -> P vs := lenS fun a => zsx (P := fun vs => P (a :: vs)) (h a)
theorem len4 {P : List Value -> Prop} (h : ∀ a b c d, P [a, b, c, d]) : ∀ vs : List Value, vs.length = 4 -> P vs := lenS fun a => zy4 (P := fun vs => P (a :: vs)) (h a)
noncomputable abbrev ps_div2 : List Str := ["a", "b", "n"]
theorem zyr (w : World) : FnAt w 111 ps_div2 := ⟨by kernel_rfl, zy4 fun a b c => by kernel_rfl⟩
theorem zxl (w : World) : nsIn (KK w) mainGlobals "_div2n1n" = some (some (.ref 111)) := by kernel_rfl
noncomputable abbrev ps_dpos : List Str := ["a", "b"]
theorem zyq (w : World) : FnAt w 139 ps_dpos := ⟨by kernel_rfl, zsx fun a b => by kernel_rfl⟩
theorem zxk (w : World) : nsIn (KK w) mainGlobals "_divmod_pos" = some (some (.ref 139)) := by kernel_rfl
noncomputable abbrev ps_idiv : List Str := ["a", "b"]
theorem zyp (w : World) : FnAt w 146 ps_idiv := ⟨by kernel_rfl, zsx fun a b => by kernel_rfl⟩
theorem zxj (w : World) : nsIn (KK w) mainGlobals "int_divmod" = some (some (.ref 146)) := by kernel_rfl
noncomputable abbrev ps_hls : List Str := ["r", "g", "b"]
theorem z2l (w : World) : FnAt w 153 ps_hls := ⟨by kernel_rfl, zy4 fun a b c => by kernel_rfl⟩
theorem z1l (w : World) : nsIn (KK w) mainGlobals "rgb_to_hls" = some (some (.ref 153)) := by kernel_rfl
noncomputable abbrev ps_rgb : List Str := ["h", "l", "s"]
theorem z2b (w : World) : FnAt w 160 ps_rgb := ⟨by kernel_rfl, zy4 fun a b c => by kernel_rfl⟩
theorem z1f (w : World) : nsIn (KK w) mainGlobals "hls_to_rgb" = some (some (.ref 160)) := by kernel_rfl
noncomputable abbrev ps_vv : List Str := ["m1", "m2", "hue"]
theorem at_vv (w : World) : FnAt w 167 ps_vv := ⟨by kernel_rfl, zy4 fun a b c => by kernel_rfl⟩
theorem gl_vv (w : World) : nsIn (KK w) mainGlobals "_v" = some (some (.ref 167)) := by kernel_rfl
noncomputable abbrev ps_hsv : List Str := ["h", "s", "v"]
theorem z2k (w : World) : FnAt w 174 ps_hsv := ⟨by kernel_rfl, zy4 fun a b c => by kernel_rfl⟩
theorem z1k (w : World) : nsIn (KK w) mainGlobals "hsv_to_rgb" = some (some (.ref 174)) := by kernel_rfl
noncomputable abbrev ps_quo : List Str := ["data"]
theorem z2c (w : World) : FnAt w 191 ps_quo := ⟨by kernel_rfl, zvb fun a => by kernel_rfl⟩
theorem z1g (w : World) : nsIn (KK w) mainGlobals "quotedata" = some (some (.ref 191)) := by kernel_rfl
noncomputable abbrev ps_cls : List Str := ["script"]
theorem z2o (w : World) : FnAt w 196 ps_cls := ⟨by kernel_rfl, zvb fun a => by kernel_rfl⟩
theorem z1n (w : World) : nsIn (KK w) mainGlobals "_law_classes" = some (some (.ref 196)) := by kernel_rfl
noncomputable abbrev ps_mail : List Str := ["classes"]
theorem zyn (w : World) : FnAt w 201 ps_mail := ⟨by kernel_rfl, zvb fun a => by kernel_rfl⟩
theorem zxi (w : World) : nsIn (KK w) mainGlobals "_law_mail" = some (some (.ref 201)) := by kernel_rfl
noncomputable abbrev ps_num : List Str := ["classes"]
theorem z2d (w : World) : FnAt w 208 ps_num := ⟨by kernel_rfl, zvb fun a => by kernel_rfl⟩
theorem z1h (w : World) : nsIn (KK w) mainGlobals "_law_number" = some (some (.ref 208)) := by kernel_rfl
noncomputable abbrev ps_wit : List Str := ["m"]
theorem z2a (w : World) : FnAt w 215 ps_wit := ⟨by kernel_rfl, zvb fun a => by kernel_rfl⟩
theorem z1e (w : World) : nsIn (KK w) mainGlobals "_law_witness" = some (some (.ref 215)) := by kernel_rfl
noncomputable abbrev ps_mix : List Str := ["classes", "sizes", "d", "times"]
theorem z2f (w : World) : FnAt w 222 ps_mix := ⟨by kernel_rfl, len4 fun a b c d => by kernel_rfl⟩
theorem z1i (w : World) : nsIn (KK w) mainGlobals "_law_mix" = some (some (.ref 222)) := by kernel_rfl
noncomputable abbrev ps_law : List Str := ["script"]
theorem z2h (w : World) : FnAt w 227 ps_law := ⟨by kernel_rfl, zvb fun a => by kernel_rfl⟩
noncomputable abbrev ps_init : List Str := ["self", "ws"]
theorem zyo (w : World) : FnAt w 55 ps_init := ⟨by kernel_rfl, zsx fun a b => by kernel_rfl⟩
noncomputable abbrev ps_lrs : List Str := ["self"]
theorem z2g (w : World) : FnAt w 62 ps_lrs := ⟨by kernel_rfl, zvb fun a => by kernel_rfl⟩
noncomputable abbrev ps_ind : List Str := ["self", "tabsize"]
theorem z2i (w : World) : FnAt w 69 ps_ind := ⟨by kernel_rfl, zsx fun a b => by kernel_rfl⟩
noncomputable abbrev ps_eqm : List Str := ["self", "other"]
theorem z2m (w : World) : FnAt w 76 ps_eqm := ⟨by kernel_rfl, zsx fun a b => by kernel_rfl⟩
noncomputable abbrev ps_new : List Str := ["self", "other"]
theorem z2e (w : World) : FnAt w 83 ps_new := ⟨by kernel_rfl, zsx fun a b => by kernel_rfl⟩
noncomputable abbrev ps_i2d : List Str := ["a", "n"]
theorem z2j (w : World) : FnAt w 125 ps_i2d := ⟨by kernel_rfl, zsx fun a b => by kernel_rfl⟩
theorem z1j (w : World) : nsIn (KK w) mainGlobals "_int2digits" = some (some (.ref 125)) := by kernel_rfl
noncomputable abbrev ps_d2i : List Str := ["digits", "n"]
theorem z2n (w : World) : FnAt w 132 ps_d2i := ⟨by kernel_rfl, zsx fun a b => by kernel_rfl⟩
theorem z1m (w : World) : nsIn (KK w) mainGlobals "_digits2int" = some (some (.ref 132)) := by kernel_rfl
theorem z0v (w : World) : findIn (KK w) (.ref 100) "longest_run_of_spaces" = some (some (.ref 62)) /\ typeIn (KK w) (.ref 62) = some (.type "function") := ⟨by kernel_rfl, by kernel_rfl⟩
theorem z0w (w : World) : findIn (KK w) (.ref 100) "indent_level" = some (some (.ref 69)) /\ typeIn (KK w) (.ref 69) = some (.type "function") := ⟨by kernel_rfl, by kernel_rfl⟩
theorem z0x (w : World) : findIn (KK w) (.ref 100) "equal" = some (some (.ref 76)) /\ typeIn (KK w) (.ref 76) = some (.type "function") := ⟨by kernel_rfl, by kernel_rfl⟩
theorem z0u (w : World) : findIn (KK w) (.ref 100) "not_equal_witness" = some (some (.ref 83)) /\ typeIn (KK w) (.ref 83) = some (.type "function") := ⟨by kernel_rfl, by kernel_rfl⟩
section
noncomputable abbrev five : List Int := [2, 3, 4, 6, 12]
noncomputable def zoc (q : Array Int × SetTable) : Bool := (List.range (q.1.size + 1)).all fun i => SetTable.below q.2.place (if i = 0 then 0 else q.2.place.getD (i - 1) 0 + 1) == i
noncomputable def stOk (b : Bool) (q : Array Int × SetTable) : Bool := q.2.fits q.1.size && decide (q.1.size <= 5) && q.1.all (fun x => five.contains x) && (q.2.led == b) && q.2.plain && zoc q
theorem zoq (b : Bool) : (zat b).all (stOk b) = true := by cases b <;> kernel_rfl
theorem zj9 (b : Bool) : ((zat b).all fun q => five.all fun v => (zat b).contains (stepS q v)) = true := by cases b <;> kernel_rfl
theorem zdy (b : Bool) : (#[], .fresh 0 0 b) ∈ zat b := by cases b <;> decide +kernel
theorem zzr {b : Bool} {q : Array Int × SetTable} (h : q ∈ zat b) : q.2.fits q.1.size = true /\ q.1.size <= 5 /\ (∀ x ∈ q.1.toList, x ∈ five) /\ q.2.led = b /\ q.2.plain = true /\ zoc q = true := by
 have := List.all_eq_true.mp (zoq b) q h
 simp only [stOk, Bool.and_eq_true, decide_eq_true_eq, beq_iff_eq] at this
 obtain ⟨⟨⟨⟨⟨h1, h2⟩, h3⟩, h4⟩, h5⟩, h6⟩ := this
 refine ⟨h1, h2, fun x hx => ?_, h4, h5, h6⟩
 rw [<- Array.all_toList] at h3
 simpa using List.all_eq_true.mp h3 x hx
theorem zht {b : Bool} {q : Array Int × SetTable} (h : q ∈ zat b) {v : Int} (hv : v ∈ five) : stepS q v ∈ zat b := by
 have := List.all_eq_true.mp (List.all_eq_true.mp (zj9 b) q h) v hv
 simpa using this
theorem zxf : ∀ v ∈ five, hashInt v = v := by decide +kernel
noncomputable def zfh (h : Heap) (a : Addr) (q : Array Int × SetTable) : Prop := ∃ es ep, h.get? a = some { cls := .type "set", data := .set es ep q.2 } /\ es.map (·.1) = q.1 /\ ∀ e ∈ es.toList, ∃ k, e.2 = .int e.1 k
theorem ze5 {α β : Type} (f : α -> β) (xs : Array α) (p : Nat) (x : α) : (SetTable.insertAt xs p x).map f = SetTable.insertAt (xs.map f) p (f x) := by
 unfold SetTable.insertAt; simp
theorem zni (t : SetTable) (es : Array (Int × Value)) (h : Int) (x : Value) : (layNew t es h x).1.map (·.1) = (znj t (es.map (·.1)) h).1 /\ (layNew t es h x).2.1 = (znj t (es.map (·.1)) h).2.1 /\ (layNew t es h x).2.2.1 = (znj t (es.map (·.1)) h).2.2 := by
 unfold layNew znj
 cases t.freeSlot h with
 | none => exact ⟨by simp, by simp, rfl⟩
 | some p =>
  obtain ⟨slot, wd⟩ := p
  simp only
  refine ⟨ze5 _ _ _ _, ?_, trivial⟩
  rw [<- ze5 (fun e : Int × Value => e.1) es (t.put slot).2 (h, x), Array.size_map]
theorem zi5 (t : SetTable) (es : Array (Int × Value)) (n : Nat) : (relayAll t es n).1.map (·.1) = (zi4 t (es.map (·.1)) n).1 /\ (relayAll t es n).2.1 = (zi4 t (es.map (·.1)) n).2 := by
 unfold relayAll zi4
 cases t.relaid (es.map (·.1)) n with
 | none => simp
 | some p =>
  obtain ⟨t', order⟩ := p
  simp only [Array.size_map]
  have e : (order.filterMap fun i => es[i]?).map (·.1) = order.filterMap fun i => (es.map (·.1))[i]? := by
   rw [Array.map_filterMap]
   congr 1
   funext i
   simp
  rw [<- e, Array.size_map]
  split
  ·exact ⟨rfl, rfl⟩
  ·exact ⟨rfl, rfl⟩
section
variable {w : World} {A : Around} {E : Value -> Shared -> Prop} {s : Shared} {b : Bool} {q : Array Int × SetTable} {a : Addr} {v : Int}
theorem zf3 {es : Array (Int × Value)} (h : es.map (·.1) = q.1) {e : Int × Value} (he : e ∈ es.toList) : e.1 ∈ q.1.toList := by
 rw [<- h, Array.toList_map]; exact List.mem_map_of_mem he
set_option tactic.hygienic true in
theorem zo1 {tk : Tok} {Q : Bool -> Shared -> Prop} (hq : q ∈ zat b) (hv : v ∈ five) (hS : zfh s.heap a q) (h : ∀ h' r, Heap.SameBut a s.heap h' -> zfh h' a (stepS q v) -> Q r { s with heap := h' }) :
  wpAny (model pg w) A (setAddHashed a (.int v tk) (hashInt v)) Q E s := by
 obtain ⟨es, ep, ho, hm, hi⟩ := hS
 obtain ⟨k1, k2, k3, k4, k5, k6⟩ := zzr hq
 have hsz : es.size = q.1.size := by rw [<- hm, Array.size_map]
 have hf : q.2.fits es.size = true := by rw [hsz]; exact k1
 have hb : es.size < scanBound := by rw [hsz]; exact Nat.lt_of_le_of_lt k2 (by decide)
 have hel : ElemsOf (intKind pg w) es.toList := fun e he => by
  obtain ⟨k, ek⟩ := hi e he
  refine ⟨⟨e.1, by rw [ek]; exact intKind_is _ _ _ _, (zxf _ (k3 _ (zf3 hm he))).symm⟩, by rw [ek]; rfl⟩
 have hkey : (intKind pg w).is v (.int v tk) = true := intKind_is _ _ _ _
 unfold setAddHashed setAddHashedIn
 refine wpAny_holding (wpAny_bind (wpAny_setState_of ho rfl hf ?_))
 dsimp only
 rw [byScan_of (knd := intKind pg w) rfl hb hel]
 simp only [↓reduceIte]
 unfold setAddByScan
 refine wpAny_bind ?_
 refine wpAny_bind (wpAny_rule ?_)
 refine wpAny_bind (wpAny_setScan_of (knd := intKind pg w) (k := v) hkey ho rfl hf hel ?_)
 have hex : ({ cls := .type "set", data := .set es ep q.2 } : Obj).ExactSet := ⟨rfl, rfl, rfl⟩
 cases hr : List.findIdx? (fun e => (intKind pg w).is v e.2) es.toList with
 | some j =>
  dsimp only
  obtain ⟨hj, hpj, _⟩ := List.findIdx?_eq_some_iff_getElem.mp hr
  have hin : q.1.any (· == v) = true := by
   rw [<- Array.any_toList, List.any_eq_true]
   refine ⟨_, zf3 hm (List.getElem_mem hj), ?_⟩
   obtain ⟨k, ek⟩ := hi _ (List.getElem_mem hj)
   rw [ek] at hpj
   have := (intKind pg w).inj _ _ _ hpj (intKind_is pg w es.toList[j].1 k)
   simp [this]
  refine wpAny_pure (wpAny_pure ?_)
  have e : s = { s with heap := s.heap } := by cases s; rfl
  rw [e]
  refine h s.heap _ (Heap.SameBut.refl a s.heap) ?_
  unfold stepS
  rw [if_pos hin]
  exact ⟨es, ep, ho, hm, hi⟩
 | none =>
  dsimp only
  have hin : ¬ (q.1.any (· == v) = true) := by
   intro hc
   rw [<- Array.any_toList, List.any_eq_true] at hc
   obtain ⟨x, hx, he⟩ := hc
   rw [<- hm, Array.toList_map] at hx
   obtain ⟨e, he1, rfl⟩ := List.mem_map.mp hx
   have := List.findIdx?_eq_none_iff.mp hr e he1
   obtain ⟨k, ek⟩ := hi e he1
   rw [ek, beq_iff_eq.mp he] at this
   rw [intKind_is pg w v k] at this
   cases this
  have hgw : ∀ (b : Bool) {s₁ : Shared} {Q' : Unit -> Shared -> Prop}, Q' () s₁ -> wpAny (model pg w) A (match b with | true => rule "set.scan.the-table-gave-way" | false => pure ()) Q' E s₁ :=
   fun b s₁ Q' hq => by cases b <;> first | exact wpAny_pure hq | exact wpAny_rule hq
  have hperm := layNew_perm q.2 es (hashInt v) (.int v tk)
  have hmap := zni q.2 es (hashInt v) (.int v tk)
  rw [hm, zxf v hv] at hmap
  show wpAny _ _ _ _ _ _
  have hst := zht hq hv
  have hstep : stepS q v = (if (!(znj q.2 q.1 v).2.2 && (znj q.2 q.1 v).2.1.tooFull) = true then zi4 (znj q.2 q.1 v).2.1 (znj q.2 q.1 v).1 (SetTable.grown (znj q.2 q.1 v).1.size) else ((znj q.2 q.1 v).1, (znj q.2 q.1 v).2.1)) := by
   unfold stepS
   rw [if_neg hin]
  rw [zxf v hv] at hperm ⊢
  change wpAny _ _ (do
   let r := layNew q.2 es v (.int v tk)
   _) _ _ _
  generalize hL : layNew q.2 es v (.int v tk) = L at hperm hmap ⊢
  generalize hL2 : znj q.2 q.1 v = L2 at hmap hstep
  obtain ⟨es1, t1, wasDummy, gave⟩ := L
  obtain ⟨l1, t1', wd'⟩ := L2
  obtain ⟨m1, m2, m3⟩ := hmap
  dsimp only at hperm m1 m2 m3 ⊢
  subst m2; subst m3
  rw [Array.toList_push] at hperm
  have hi1 : ∀ e ∈ es1.toList, ∃ k, e.2 = .int e.1 k := fun e he => by
   rcases List.mem_append.mp (hperm.mem_iff.mp he) with h | h
   ·exact hi e h
   ·rw [List.mem_singleton] at h; subst h; exact ⟨tk, rfl⟩
  have hb1 : es1.size <= sizeLine := by
   have : es1.size = es.size + 1 := by rw [<- Array.length_toList, hperm.length_eq, List.length_append, Array.length_toList]; rfl
   rw [this, hsz, sizeLine_eq]; lia
  refine wpAny_bind (hgw _ ?_)
  have tail : wpAny (model pg w) A (do
    storeSet a es1 t1
    if (!wasDummy && t1.tooFull) = true then do
      (match (relayAll t1 es1 (SetTable.grown es1.size)).2.2 with | true => rule "set.scan.the-table-gave-way" | false => pure ())
      storeSet a (relayAll t1 es1 (SetTable.grown es1.size)).1 (relayAll t1 es1 (SetTable.grown es1.size)).2.1
      pure (some true)
     else pure (some true)) (fun r s' => ∃ h', r = some true /\ s' = { s with heap := h' } /\ Heap.SameBut a s.heap h' /\ zfh h' a (stepS q v)) E s := by
   have hg : ∀ {h : Heap} {es : Array (Int × Value)} {ep : Nat} {t : SetTable} (es' : Array (Int × Value)) (t' : SetTable), h.get? a = some { cls := .type "set", data := .set es ep t } -> (h.update a (Obj.putSet es' t')).get? a = some { cls := .type "set", data := .set es' (ep + 1) t' } := by
    intro h es ep t es' t' ho
    exact Heap.get?_update_self (Obj.putSet es' t') ho rfl
   refine wpAny_bind (wpAny_storeSet_of ho rfl ?_ hb1)
   have ho1 := hg es1 t1 ho
   have hsb1 := Heap.SameBut.update s.heap a (Obj.putSet es1 t1)
   rw [hstep]
   split
   ·rename_i hc
    have hp := relayAll_perm t1 es1 (SetTable.grown es1.size)
    have hmp := zi5 t1 es1 (SetTable.grown es1.size)
    have hz : l1.size = es1.size := by rw [<- m1, Array.size_map]
    dsimp only
    rw [hz]
    rw [m1] at hmp
    generalize hRl : relayAll t1 es1 (SetTable.grown es1.size) = Rl at hp hmp ⊢
    obtain ⟨es2, t3, gave2⟩ := Rl
    dsimp only at hp hmp ⊢
    refine wpAny_bind (hgw _ ?_)
    have hz2 : es2.size <= sizeLine := by
     have : es2.size = es1.size := by rw [<- Array.length_toList, hp.length_eq, Array.length_toList]
     rw [this]; exact hb1
    refine wpAny_bind (wpAny_storeSet_of ho1 rfl ?_ hz2)
    refine wpAny_pure ⟨_, rfl, rfl, hsb1.trans (Heap.SameBut.update _ a _), es2, ep + 1 + 1, ?_, hmp.1, fun e he => hi1 e (hp.mem_iff.mp he)⟩
    rw [<- hmp.2]
    exact hg es2 t3 ho1
   ·rename_i hc
    exact wpAny_pure ⟨_, rfl, rfl, hsb1, es1, ep + 1, ho1, m1, hi1⟩
  have fin : ∀ {s' : Shared} {r : Option Bool}, (∃ h', r = some true /\ s' = { s with heap := h' } /\ Heap.SameBut a s.heap h' /\ zfh h' a (stepS q v)) -> wpAny (model pg w) A (match r with | some added => pure added | none => setAddHashedIn a (.int v tk) v 99999 : Sem Bool) Q E s' := by
   rintro s' r ⟨h', rfl, rfl, x1, x2⟩
   exact wpAny_pure (h h' true x1 x2)
  split
  ·refine wpAny_bind ?_
   rw [hashByValue_scannable 8 rfl]
   refine wpAny_pure ?_
   exact wpAny_mono tail (fun r s' x => fin x) fun _ _ e => e
  ·refine wpAny_bind (wpAny_pure ?_)
   exact wpAny_mono tail (fun r s' x => fin x) fun _ _ e => e
end
end
section
noncomputable def zb8 (led : Bool) (val : Nat -> Int) (i : Nat) : Array Int × SetTable := ((List.range i).map val).foldl stepS (#[], .fresh 0 0 led)
theorem ze3 (led : Bool) (val : Nat -> Int) (i : Nat) : zb8 led val (i + 1) = stepS (zb8 led val i) (val i) := by
 unfold zb8; rw [List.range_succ, List.map_append, List.foldl_append]; rfl
theorem zfx (led : Bool) (val : Nat -> Int) (h : ∀ i, val i ∈ five) : ∀ i, zb8 led val i ∈ zat led
 | 0 => zdy led
 | i + 1 => by rw [ze3]; exact zht (zfx led val h i) (h i)
section
variable {w : World} {A : Around} {R : Result -> Shared -> Prop} {I : Addr} {fp wr : List Addr} {G : Array GenState -> Array GenState -> Prop} {n : Nat} {P : Nat -> Value -> Prop} {St : Nat -> Shared -> Prop}
theorem zfh.at' {h h' : Heap} {a : Addr} {q : Array Int × SetTable} (x : zfh h a q) (k : ∀ o, h.get? a = some o -> h'.get? a = some o) : zfh h' a q :=
 let ⟨es, ep, ho, r⟩ := x; ⟨es, ep, k _ ho, r⟩
theorem zj3 (W : WalksS pg w A.in1 I fp wr G n P St) (S : Addr) (hSf : S ∉ fp) (led : Bool)
  (val : Nat -> Int) (hval : ∀ i v, P i v -> ∃ t, v = .int (val i) t) (h5 : ∀ i, val i ∈ five) :
  ∀ (k i : Nat) (s : Shared), n - i = k -> i <= n -> St i s ->
   zfh s.heap S (zb8 led val i) ->
   (∀ s', Moved (S :: wr) G s s' -> zfh s'.heap S (zb8 led val n) -> R (.ok (.ret .none)) s') ->
   codeAny (model pg w) A (.builtin "set.update.loop" ⟨[.ref S, .ref I], []⟩) R s := by
 have hSw : S ∉ wr := fun h => hSf (W.sub _ h)
 have hsub : ∀ b ∈ wr, b ∈ S :: wr := fun b hb => List.mem_cons_of_mem _ hb
 intro k
 induction k with
 | zero =>
  intro i s hk hi hst hS hR
  obtain rfl : i = n := Nat.le_antisymm hi (Nat.sub_eq_zero_iff_le.mp hk)
  refine codeAny_builtin PyProof.Rows.F.entry_set_update_loop ?_
  rw [Around.under_plainId PyProof.Rows.F.plain_set_update_loop _]
  show wpAny _ A.in1 (pyNext (.ref I) >>= _) _ _ s
  refine wpAny_bind (W.done s _ _ hst fun s' hm => ?_)
  show wpAny _ A.in1 (ret Value.none) _ _ s'
  exact wpAny_pure (hR s' (hm.mono hsub) (hS.at' fun o e => hm.heap S o hSw e))
 | succ k ih =>
  intro i s hk hi hst hS hR
  have hlt : i < n := Nat.sub_pos_iff_lt.mp (hk ▸ Nat.succ_pos k)
  refine codeAny_builtin PyProof.Rows.F.entry_set_update_loop ?_
  rw [Around.under_plainId PyProof.Rows.F.plain_set_update_loop _]
  show wpAny _ A.in1 (pyNext (.ref I) >>= _) _ _ s
  refine wpAny_bind (W.item i s _ _ hlt hst fun v s' hP hst' hm => ?_)
  obtain ⟨t, rfl⟩ := hval i v hP
  have hS' : zfh s'.heap S (zb8 led val i) := hS.at' fun o e => hm.heap S o hSw e
  show wpAny _ A.in1 (holding [Value.int (val i) t] (setAdd S (.int (val i) t)) >>= _) _ _ s'
  refine wpAny_bind (wpAny_holding ?_)
  unfold setAdd
  refine wpAny_holding ?_
  refine wpAny_bind ((intKind pg w).pyHash (k := val i) (intKind_is _ _ _ _) ?_)
  refine zo1 (s := { s' with toks := s'.toks + 1 }) (zfx led val h5 i) (h5 i) hS' fun h' r hsb hS2 => ?_
  rw [<- ze3] at hS2
  refine wpAny_pure ⟨plainId_quiet PyProof.Rows.F.plain_set_update_loop _, ih (i + 1) _ (by rw [<- Nat.sub_sub, hk]; rfl) hlt (W.frame _ s' _ _ hst' (Nat.le_succ _) fun b hb o e => ?_) hS2 fun s'' hm'' hS'' => ?_⟩
  ·rw [hsb.2 b (fun h : b = S => hSf (by rw [<- h]; exact hb))]; exact e
  ·refine hR s'' (Moved.trans W.gtrans ((hm.mono hsub).then_heap (Nat.le_succ _) fun b o hb e => ?_) hm'') hS''
   rw [hsb.2 b (fun h : b = S => hb (by rw [h]; exact List.mem_cons_self))]; exact e
end
section
variable {w : World} {A : Around} {E : Value -> Shared -> Prop} {s : Shared}
noncomputable abbrev byT (w : World) : Bool := w.params.followText "set-order"
theorem zo0 (a : Value) {Q₁ : Value -> Shared -> Prop}
  (h : Q₁ (.ref s.heap.objs.size) { s with heap := s.heap.push { cls := .type "set", dict := none, data := .set #[] 0 (.fresh 0 0 (!byT w)) } }) :
  codeAny (model pg w) A (.call (.builtin "set.__new__") ⟨[.type "set", a], []⟩) (wants Q₁ E) s := by
 refine codeAny_of_tree ?_
 show wpAny _ A.in1 (do checkBuiltinCall "set.__new__" ⟨[.type "set", a], []⟩; again (.builtin "set.__new__" ⟨[.type "set", a], []⟩)) _ _ s
 refine wpAny_bind (wpAny_of_eq (F.newCall_set_1 a) (wpAny_pure ⟨plainId_quiet F.plain_set_new _, codeAny_builtin F.entry_set_new ?_⟩))
 rw [Around.under_plainId F.plain_set_new _]
 unfold Builtin.«set.__new__» Builtin.Frozenset.newClass
 have hsub := sub_set_self
 obtain ⟨hp, g, d, tk, os⟩ := s
 dsimp only
 wp_walk
 refine wpAny_askSetting (wpAny_pure ?_)
 dsimp only
 simp only [newObj]
 refine wpAny_bind (wpAny_alloc (wpAny_pure ?_))
 exact wpAny_pure h
set_option maxHeartbeats 3200000 in
theorem zum {l : Addr} {items : Array Value} {ns : List Int} {Q : Value -> Shared -> Prop}
  (hh : A.handled = none) (hl : s.heap.IsList l items) (hi : PyProof.Rows.IntsAre items.toList ns) (h5 : ∀ n ∈ ns, n ∈ five)
  (h : ∀ (h' : Heap) (tk : Nat), zfh h' s.heap.objs.size (zb8 (!byT w) (fun i => ns.getD i 2) items.size) ->
   (∀ b o, b < s.heap.objs.size -> s.heap.get? b = some o -> h'.get? b = some o) -> Q (.ref s.heap.objs.size) { s with heap := h', toks := tk }) :
  wpAny (model pg w) A (call (.type "set") [.ref l]) Q E s := by
 obtain ⟨c, tl, hmro⟩ := F.called_set.mro
 have hmade := F.called_set.made
 have hsub := F.called_set.sub
 refine wpAny_call (codeAny_of_tree ?_)
 show wpAny _ _ (callAny (.type "set") _) _ _ _
 refine wpAny_pure ⟨Code.quiet_builtin _ (by decide +kernel), codeAny_builtin F.entry_type_call ?_⟩
 rw [Around.under_plain (weight_type_call_type "set" [.ref l] []) rfl]
 have h1 := F.called_set.notType
 have h2 := F.called_set.canCreate
 have hct := F.typeCall_set_1 (.ref l)
 repeat (any_goals (first | assumption | wp_step))
 refine codeAny_mono (zo0 (.ref l) (E := E) (Q₁ := fun obj s₁ => obj = .ref s.heap.objs.size /\ s₁ = { s with heap := s.heap.push { cls := .type "set", dict := none, data := .set #[] 0 (.fresh 0 0 (!byT w)) } }) ⟨rfl, rfl⟩) fun r s₁ hr => ?_
 cases r with
 | error e => exact hr
 | ok fl =>
  cases fl with
  | ret obj =>
   obtain ⟨rfl, rfl⟩ := hr
   have hS : (s.heap.push { cls := .type "set", dict := none, data := .set #[] 0 (.fresh 0 0 (!byT w)) }).get? s.heap.objs.size = some { cls := .type "set", dict := none, data := .set #[] 0 (.fresh 0 0 (!byT w)) } := Heap.get?_push_size _ rfl
   have sz : (s.heap.push { cls := .type "set", dict := none, data := .set #[] 0 (.fresh 0 0 (!byT w)) }).objs.size = s.heap.objs.size + 1 := Heap.size_push ..
   have old : ∀ b o, s.heap.get? b = some o -> (s.heap.push { cls := .type "set", dict := none, data := .set #[] 0 (.fresh 0 0 (!byT w)) }).get? b = some o := fun b o => Heap.get?_push_of_some _
   revert hS sz old
   generalize s.heap.push { cls := .type "set", dict := none, data := .set #[] 0 (.fresh 0 0 (!byT w)) } = H
   intro hS sz old
   have hT : Shared.TypeIs { s with heap := H } (.ref s.heap.objs.size) "set" := ⟨_, hS, rfl⟩
   have hli := F.called_set.init.lookup
   have hbi := F.called_set.init.bind (.ref s.heap.objs.size)
   repeat (any_goals (first | assumption | wp_step))
   refine codeAny_mono (codeAny_call_builtin (R := wants (fun r s₂ => r = .none /\ ∃ h' tk, s₂ = { s with heap := h', toks := tk } /\
     zfh h' s.heap.objs.size (zb8 (!byT w) (fun i => ns.getD i 2) items.size) /\
     (∀ b o, b < s.heap.objs.size -> s.heap.get? b = some o -> h'.get? b = some o)) E) F.called_set.init.plain F.entry_set_init (check_set_init_1 hT ?_)) fun r₂ s₂ hr₂ => ?_
   ·obtain ⟨ol, hol, hcl, nl, hdl⟩ := hl
    obtain ⟨ocls, odict, odata, oslots⟩ := ol
    simp only at hcl hdl
    subst hcl; subst hdl
    have hol' : H.get? l = some { cls := .type "list", dict := odict, data := .seq items nl, slots := oslots } := old _ _ hol
    have hsls := F.sub_list_set
    have hslf := F.sub_list_frozenset
    have hne : (Value.type "list" == Value.type "dict") = false := by decide
    have hl1 : H.IsList l items := ⟨_, hol', rfl, nl, rfl⟩
    unfold Builtin.«set.__init__» noKeywords Builtin.Frozenset.updateFrom
    generalize hPI : pyIter = PI
    wp_walk
    subst hPI
    refine wpAny_pyIter_list hl1 ?_
    refine wpAny_bind (wpAny_runValue ?_)
    have hlS : l < s.heap.objs.size := Heap.lt_size hol
    have hh3 : A.in1.in1.in1.handled = none := by simp [hh]
    have hneI : l ≠ H.objs.size := by
     rw [sz]; exact Nat.ne_of_lt (Nat.lt_succ_of_lt hlS)
    have hSf : s.heap.objs.size ∉ [H.objs.size, l] := by
     rw [sz]; simp only [List.mem_cons, List.mem_singleton, List.not_mem_nil, or_false, not_or]
     exact ⟨Nat.ne_of_lt (Nat.lt_succ_self _), Nat.ne_of_gt hlS⟩
    have hval : ∀ (i : Nat) (v : Value), items[i]? = some v -> ∃ t, v = .int ((fun i => ns.getD i 2) i) t := fun i v hv => by
     have hv' : items.toList[i]? = some v := by rw [Array.getElem?_toList]; exact hv
     obtain ⟨t, e⟩ := PyProof.Rows.IntsAre.int_at hi i v hv'
     have hlt : i < ns.length := by
      rw [<- hi.length]; exact (List.getElem?_eq_some_iff.mp hv').1
     refine ⟨t, ?_⟩
     rw [e]
     simp [List.getD, List.getElem?_eq_getElem hlt]
    have h5' : ∀ i, (fun i => ns.getD i 2) i ∈ five := fun i => by
     show ns.getD i 2 ∈ five
     rcases Nat.lt_or_ge i ns.length with q | q
     ·have : ns.getD i 2 = ns[i] := by simp [List.getD, List.getElem?_eq_getElem q]
      rw [this]; exact h5 _ (List.getElem_mem q)
     ·have : ns.getD i 2 = 2 := by simp [List.getD, List.getElem?_eq_none q]
      rw [this]; decide
    refine zj3 ((Walks.list hh3 _ l hneI items).toS) s.heap.objs.size
     hSf (!byT w) (fun i => ns.getD i 2) hval h5' (items.size - 0) 0 _ rfl (Nat.zero_le _)
     ⟨⟨_, Heap.get?_push_size _ rfl, rfl, rfl⟩, (hl1.push _)⟩ ?hS0 ?hR
    case hS0 =>
     have hget : (H.push { cls := .type "list_iterator", data := .fields #[.ref l, .int 0 0] }).get? s.heap.objs.size
       = some { cls := .type "set", dict := none, data := .set #[] 0 (.fresh 0 0 (!byT w)) } := Heap.get?_push_of_some _ hS
     exact ⟨#[], 0, hget, by simp [zb8], fun e he => by simp at he⟩
    case hR =>
     intro s' hm hS'
     obtain ⟨h', g', d', tk', os'⟩ := s'
     have eg : g' = s.gens := hm.gens
     have ed : d' = s.drawn := hm.drawn
     have eo : os' = s.os := hm.os
     subst eg; subst ed; subst eo
     show wpAny _ _ _ _ _ _
     refine wpAny_pure ?_
     show wpAny _ _ (ret Value.none) _ _ _
     refine wpAny_pure ⟨rfl, h', tk', rfl, hS', fun b o hb e => ?_⟩
     have hb1 : b ≠ s.heap.objs.size := Nat.ne_of_lt hb
     have hb2 : b ≠ H.objs.size := by
      rw [sz]; exact Nat.ne_of_lt (Nat.lt_succ_of_lt hb)
     exact hm.heap b o (by simp only [List.mem_cons, List.mem_singleton, List.not_mem_nil, or_false, not_or]; exact ⟨hb1, hb2⟩) (Heap.get?_push_of_some _ (old _ _ e))
   ·cases r₂ with
    | error e => exact hr₂
    | ok fl₂ =>
     cases fl₂ with
     | ret r =>
      obtain ⟨rfl, h', tk, rfl, hS', hk'⟩ := hr₂
      repeat (any_goals (first | assumption | wp_step))
      exact h _ _ hS' hk'
     | _ => exact hr₂.elim
  | _ => exact hr.elim
end
end
section
theorem za1 : Slot "set_iterator" "__next__" "set_iterator.__next__" :=
 .of (owner := "set_iterator") (n := "__next__") (by rw [typeLookup_type, builtinLookup_eq_fast]; kernel_rfl) (by decide +kernel) (by decide +kernel) (by decide +kernel)
  (by first | exact .inl (by decide +kernel) | exact .inr (by decide +kernel)) (by rw [isSubtype_type]; kernel_rfl)
theorem zc0 : entryFor table "set_iterator.__next__" = some Builtin.«set_iterator.__next__» := entryFor_of_tree (by kernel_rfl)
theorem zf0 : Manifest.owners.lookup (String.ofList ['r', 'o', 't', 'a', 'r', 'e', 't', 'i', '_', 't', 'e', 's'].reverse) = some Manifest.sig_set_iterator := by kernel_rfl
theorem zdi (a : Value) : argsOk "set_iterator.__next__" ⟨[a], []⟩ := by
 unfold argsOk; rw [signature?_of (id := "set_iterator.__next__") (n := ['_', '_', 't', 'x', 'e', 'n', '_', '_']) (o := ['r', 'o', 't', 'a', 'r', 'e', 't', 'i', '_', 't', 'e', 's']) (by kernel_rfl) zf0]; kernel_rfl
theorem zg0 : entryFor table "set.__iter__" = some Builtin.«frozenset.__iter__» :=
 entryFor_alias (id' := "frozenset.__iter__") (by kernel_rfl) rfl (by decide +kernel) (by kernel_rfl)
theorem zfe : entryFor table "set_iterator.__iter__" = some Builtin.«dict_keyiterator.__iter__» :=
 entryFor_alias (id' := "dict_keyiterator.__iter__") (by kernel_rfl) rfl (by decide +kernel) (by kernel_rfl)
theorem zgs (a : Value) : argsOk "set_iterator.__iter__" ⟨[a], []⟩ := by
 unfold argsOk; rw [signature?_of (id := "set_iterator.__iter__") (n := ['_', '_', 'r', 'e', 't', 'i', '_', '_']) (o := ['r', 'o', 't', 'a', 'r', 'e', 't', 'i', '_', 't', 'e', 's']) (by kernel_rfl) zf0]; kernel_rfl
theorem zwv : typeLookup (.type "set") "__len__" = pure (some (.builtin "set.__len__")) := by rw [typeLookup_type, builtinLookup_eq_fast]; kernel_rfl
theorem zc8 : Slot "set_iterator" "__iter__" "set_iterator.__iter__" :=
 .of (owner := "set_iterator") (n := "__iter__") (by rw [typeLookup_type, builtinLookup_eq_fast]; kernel_rfl) (by decide +kernel) (by decide +kernel) (by decide +kernel)
  (by first | exact .inl (by decide +kernel) | exact .inr (by decide +kernel)) (by rw [isSubtype_type]; kernel_rfl)
theorem zhf {α : Type} : ∀ {l : List α} {i : Nat} (h : i < l.length), List.Perm (l[i] :: l.eraseIdx i) l
 | a :: r, 0, h => List.Perm.refl _
 | a :: r, i + 1, h => by
  have := zhf (l := r) (i := i) (by simpa using h)
  simp only [List.getElem_cons_succ, List.eraseIdx_cons_succ]
  exact (List.Perm.swap a (r[i]'(by simpa using h)) (r.eraseIdx i)).trans (this.cons a)
noncomputable def zli (h : Heap) (a : Addr) (es : Array (Int × Value)) (ep : Nat) (t : SetTable) : Prop := h.get? a = some { cls := .type "set", data := .set es ep t }
noncomputable def zn6 (w : World) (a : Addr) (ep : Nat) (es : Array (Int × Value)) : Array (Int × Value) := if byT w then pickOrder (w.params.setOrder a ep) es else es
noncomputable def zc2 (w : World) (t : SetTable) (i : Nat) : Nat := if byT w then 0 else if i = 0 then 0 else t.place.getD (i - 1) 0 + 1
noncomputable def zlh (w : World) (h : Heap) (it a : Addr) (i n ep : Nat) (t : SetTable) : Prop := ∃ o, h.get? it = some o /\ o.cls = .type "set_iterator" /\ o.data = .fields #[rawInt (zc2 w t i), rawInt i, .ref a, rawInt n, rawInt ep]
theorem zlh.typeIs {w : World} {s : Shared} {it a : Addr} {i n ep : Nat} {t : SetTable} (x : zlh w s.heap it a i n ep t) : s.TypeIs (.ref it) "set_iterator" := let ⟨o, ho, hc, _⟩ := x; ⟨o, ho, hc⟩
theorem zpa {α : Type} (next : Nat -> Nat) : ∀ (fuel k : Nat) (left : List α) (out : Array α), left.length <= fuel -> List.Perm (pickOrder.go next fuel k left out).toList (out.toList ++ left)
 | 0, k, left, out, h => by
  have : left = [] := List.eq_nil_of_length_eq_zero (by lia)
  subst this
  unfold pickOrder.go
  rw [List.append_nil]
 | fuel + 1, k, left, out, h => by
  unfold pickOrder.go
  cases hl : left[next k % left.length]? with
  | none =>
   have hz : left = [] := by
    cases left with
    | nil => rfl
    | cons a r =>
     have := List.getElem?_eq_none_iff.mp hl
     have h2 := Nat.mod_lt (next k) (show 0 < (a :: r).length from Nat.succ_pos _)
     lia
   subst hz
   rw [List.append_nil]
  | some x =>
   dsimp only
   obtain ⟨hlt, hx⟩ := List.getElem?_eq_some_iff.mp hl
   refine (zpa next fuel (k + 1) _ _ (by rw [List.length_eraseIdx_of_lt hlt]; lia)).trans ?_
   rw [Array.toList_push, List.append_assoc]
   refine List.Perm.append_left _ ?_
   rw [<- hx]
   exact zhf hlt
theorem zf1 (w : World) (a : Addr) (ep : Nat) (es : Array (Int × Value)) : List.Perm (zn6 w a ep es).toList es.toList := by
 unfold zn6
 split
 ·have := zpa (w.params.setOrder a ep) es.size 0 es.toList #[] (by rw [Array.length_toList]; exact Nat.le_refl _)
  simpa [pickOrder] using this
 ·exact List.Perm.refl _
theorem zd6 (w : World) (a : Addr) (ep : Nat) (es : Array (Int × Value)) : (zn6 w a ep es).size = es.size := by
 rw [<- Array.length_toList, (zf1 w a ep es).length_eq, Array.length_toList]
section
variable {w : World} {A : Around} {E : Value -> Shared -> Prop} {s : Shared} {a it : Addr} {es : Array (Int × Value)} {ep : Nat} {t : SetTable}
structure TabOk (w : World) (es : Array (Int × Value)) (t : SetTable) : Prop where
 fits : t.fits es.size = true
 led : t.led = !byT w
 plain : t.plain = true
 walk : ∀ i, i <= es.size -> SetTable.below t.place (if i = 0 then 0 else t.place.getD (i - 1) 0 + 1) = i
theorem zt6 (h : t.plain = true) : ¬ ((!t.plain && decide (es.size > 1)) = true) := by rw [h]; simp
theorem zhb {i : Nat} {Q : Option (Value × Nat) -> Shared -> Prop} (T : TabOk w es t) (ho : zli s.heap a es ep t) (hi : i <= es.size)
  (h : Q (((zn6 w a ep es)[i]?).map fun e => (e.2, zc2 w t (i + 1))) s) : wpAny (model pg w) A (setNext a (zc2 w t i) i ep) Q E s := by
 unfold setNext
 refine wpAny_bind (wpAny_setState_of ho rfl T.fits ?_)
 dsimp only
 refine wpAny_bind ?_
 unfold setsByText
 refine wpAny_bind (wpAny_askSetting (wpAny_pure ?_))
 show wpAny _ _ (if byT w = true then _ else _) _ _ _
 by_cases hb : byT w = true
 ·rw [if_pos hb]
  rw [if_neg (by simp)]
  refine wpAny_bind ?_
  unfold setWalk
  refine wpAny_bind (wpAny_setState_of ho rfl T.fits ?_)
  dsimp only
  unfold setsByText
  refine wpAny_bind (wpAny_bind (wpAny_askSetting (wpAny_pure ?_)))
  show wpAny _ _ (if byT w = true then _ else _) _ _ _
  rw [if_pos hb]
  refine wpAny_bind (wpAny_askSetting (wpAny_pure (wpAny_pure ?_)))
  unfold zn6 zc2 at h
  rw [if_pos hb, if_pos hb] at h
  unfold zc2
  rw [if_pos hb]
  exact h
 ·rw [if_neg hb]
  refine wpAny_ite_split (fun hab => absurd hab (zt6 T.plain)) (fun _ => ?_)
  refine wpAny_bind ?_
  have hbf : byT w = false := by simpa using hb
  show wpAny _ _ (if (!t.led && !es.isEmpty) = true then unsupported "set:maker-not-led" else pure ()) _ _ _
  rw [if_neg (by rw [T.led, hbf]; simp)]
  refine wpAny_pure (wpAny_pure ?_)
  have hw : SetTable.below t.place (zc2 w t i) = i := by unfold zc2; rw [if_neg hb]; exact T.walk i hi
  rw [hw]
  have hp : t.place.size = es.size := by
   have := T.fits
   unfold SetTable.fits at this
   simp only [Bool.and_eq_true, beq_iff_eq] at this
   exact this.1
  unfold zn6 at h
  rw [if_neg hb] at h
  rcases Nat.lt_or_ge i es.size with q | q
  ·have q2 : i < t.place.size := by rw [hp]; exact q
   rw [Array.getElem?_eq_getElem q, Option.map_some] at h
   rw [Array.getElem?_eq_getElem q, Array.getElem?_eq_getElem q2]
   have e : zc2 w t (i + 1) = t.place[i] + 1 := by
    unfold zc2
    rw [if_neg hb, if_neg (by lia), Nat.add_sub_cancel]
    simp [Array.getD, q2]
   rw [e] at h
   exact h
  ·rw [Array.getElem?_eq_none q, Option.map_none] at h
   rw [Array.getElem?_eq_none q]
   exact h
theorem zm4 {Q : Value -> Shared -> Prop} (T : TabOk w es t) (ho : zli s.heap a es ep t)
  (hQ : Q (.ref s.heap.objs.size) { s with heap := s.heap.push { cls := .type "set_iterator", data := .fields #[rawInt 0, rawInt 0, .ref a, rawInt es.size, rawInt ep] } }) :
  wpAny (model pg w) A (pyIter (.ref a)) Q E s := by
 have hT : s.TypeIs (.ref a) "set" := ⟨_, ho, rfl⟩
 refine wpAny_pyIter_slot hT PySem.F.slot_set_iter (wpAny_call_entry PySem.F.slot_set_iter hT zg0 ?_ (PySem.F.args_set_iter_1 _))
 unfold Builtin.«frozenset.__iter__» Builtin.Frozenset.slot0 slotArgs
 simp only [List.isEmpty_nil, Bool.not_true, Bool.false_eq_true, ↓reduceIte, bind_assoc, List.length_nil, bne_self_eq_false]
 unfold Builtin.Frozenset.addrOf Builtin.Frozenset.sizeOf
 refine wpAny_bind (wpAny_pure ?_)
 try dsimp only
 refine wpAny_bind (wpAny_pure ?_)
 refine wpAny_bind (wpAny_bind (wpAny_setEntries_of ho rfl T.fits (wpAny_pure ?_)))
 refine wpAny_bind ?_
 unfold setDrawn
 refine wpAny_bind (wpAny_setState_of ho rfl T.fits ?_)
 dsimp only
 unfold setsByText
 refine wpAny_bind (wpAny_bind (wpAny_askSetting (wpAny_pure ?_)))
 refine wpAny_pure ?_
 refine wpAny_ite_split (fun hab => ?_) (fun _ => ?_)
 ·exfalso
  have h1 : (!byT w && (!t.plain && decide (es.size > 1))) = true := hab
  rw [T.plain] at h1
  simp at h1
 refine wpAny_bind (wpAny_pure ?_)
 refine wpAny_bind (wpAny_setEpoch_of ho rfl T.fits ?_)
 unfold newFields
 refine wpAny_bind (wpAny_newObj_type (wpAny_pure ⟨_, rfl, "set_iterator", _, ⟨_, Heap.get?_push_size _ rfl, rfl⟩, za1.lookup, hQ⟩))
theorem zpg {i : Nat} {e : Int × Value} {Q : Option Value -> Shared -> Prop} (T : TabOk w es t) (ho : zli s.heap a es ep t) (hit : zlh w s.heap it a i es.size ep t) (he : (zn6 w a ep es)[i]? = some e)
  (hQ : ∀ h', zlh w h' it a (i + 1) es.size ep t -> Heap.SameBut it s.heap h' -> Q (some e.2) { s with heap := h' }) : wpAny (model pg w) A (pyNext (.ref it)) Q E s := by
 obtain ⟨o, go, hc, hd⟩ := id hit
 unfold pyNext
 refine wpAny_bind (wpAny_attempt (wpAny_callSpecial?_slot (name := Str.ofString "__next__") hit.typeIs za1
  (wpAny_call_entry za1 hit.typeIs zc0 ?_ (zdi _))))
 unfold Builtin.«set_iterator.__next__»
 refine wpAny_bind (m := slotArgs _ _ _) (wpAny_of_eq (a := (.ref it, [])) (by rfl) ?_)
 refine wpAny_bind (wpAny_fieldsOf go hd ?_)
 show wpAny _ _ (setEntries a >>= _) _ _ s
 refine wpAny_bind (wpAny_setEntries_of ho rfl T.fits ?_)
 rw [if_neg (by simp)]
 show wpAny _ _ (setNext a (((zc2 w t i : Nat) : Int).toNat) (((i : Nat) : Int).toNat) (((ep : Nat) : Int).toNat) >>= _) _ _ s
 have hi : i < es.size := by
  rw [<- zd6 w a ep es]
  exact (Array.getElem?_eq_some_iff.mp he).1
 rw [Int.toNat_natCast, Int.toNat_natCast, Int.toNat_natCast]
 refine wpAny_bind (zhb T ho (Nat.le_of_lt hi) ?_)
 rw [he, Option.map_some]
 show wpAny _ _ (setField (.ref it) 0 (rawInt (zc2 w t (i + 1) : Nat)) >>= _) _ _ s
 refine wpAny_bind (wpAny_setField go hd (by simp) ?_)
 have g1 := Heap.get?_update_self (Obj.mapFields (·.setIfInBounds 0 (rawInt (zc2 w t (i + 1) : Nat)))) go (Obj.isFreed_of_fields (Obj.data_mapFields hd _))
 have d1 : (Obj.mapFields (·.setIfInBounds 0 (rawInt (zc2 w t (i + 1) : Nat))) o).data = .fields #[rawInt ↑(zc2 w t (i + 1)), rawInt ↑i, Value.ref a, rawInt ↑es.size, rawInt ↑ep] := by rw [Obj.data_mapFields hd]; simp
 have c1 : (Obj.mapFields (·.setIfInBounds 0 (rawInt (zc2 w t (i + 1) : Nat))) o).cls = .type "set_iterator" := (Obj.cls_mapFields ..).trans hc
 refine wpAny_bind (wpAny_setField g1 d1 (by simp) ?_)
 refine wpAny_pure ⟨_, rfl, wpAny_pure (hQ _ ⟨_, Heap.get?_update_self _ g1 (Obj.isFreed_of_fields (Obj.data_mapFields d1 _)), (Obj.cls_mapFields ..).trans c1, ?_⟩ ((Heap.SameBut.update ..).trans (Heap.SameBut.update ..)))⟩
 rw [Obj.data_mapFields d1]
 simp
theorem zsk {Q : Option Value -> Shared -> Prop} (hh : A.handled = none) (T : TabOk w es t) (ho : zli s.heap a es ep t) (hit : zlh w s.heap it a es.size es.size ep t)
  (hQ : ∀ h', Heap.ExtBut it s.heap h' -> Q none { s with heap := h' }) : wpAny (model pg w) A (pyNext (.ref it)) Q E s := by
 obtain ⟨o, go, hc, hd⟩ := id hit
 unfold pyNext
 refine wpAny_bind (wpAny_attempt (wpAny_callSpecial?_slot (name := Str.ofString "__next__") hit.typeIs za1
  (wpAny_call_entry za1 hit.typeIs zc0 ?_ (zdi _))))
 unfold Builtin.«set_iterator.__next__»
 refine wpAny_bind (m := slotArgs _ _ _) (wpAny_of_eq (a := (.ref it, [])) (by rfl) ?_)
 refine wpAny_bind (wpAny_fieldsOf go hd ?_)
 show wpAny _ _ (setEntries a >>= _) _ _ s
 refine wpAny_bind (wpAny_setEntries_of ho rfl T.fits ?_)
 rw [if_neg (by simp)]
 show wpAny _ _ (setNext a (((zc2 w t es.size : Nat) : Int).toNat) (((es.size : Nat) : Int).toNat) (((ep : Nat) : Int).toNat) >>= _) _ _ s
 rw [Int.toNat_natCast, Int.toNat_natCast, Int.toNat_natCast]
 refine wpAny_bind (zhb T ho (Nat.le_refl _) ?_)
 rw [Array.getElem?_eq_none (by rw [zd6]; exact Nat.le_refl _), Option.map_none]
 show wpAny _ _ (setField (.ref it) 2 .none >>= _) _ _ s
 refine wpAny_bind (wpAny_setField go hd (by simp) ?_)
 show wpAny _ _ (newExc (.type "StopIteration") [] >>= _) _ _ _
 refine wpAny_bind ?_
 simp only [newExc, newTuple]
 refine wpAny_bind (wpAny_newObj_type ?_ (by size_fits))
 refine wpAny_bind (m := firstArgMember _ _) (wpAny_of_eq (a := Value.none) (by first | rfl | (simp only [firstArgMember]; rfl)) ?_)
 refine wpAny_newObj_type ?_ (by size_fits)
 simp only [raiseNew]
 refine wpAny_bind (wpAny_handled ?_)
 rw [show A.in1.handled = none from hh]
 refine wpAny_bind (wpAny_pure (wpAny_throw ?_))
 refine wpAny_bind (wpAny_isInstance (T := "StopIteration") (b := true) ⟨_, Heap.get?_push_size _ rfl, rfl⟩ isSubtype_stop ?_)
 exact wpAny_pure (hQ _ (((Heap.SameBut.update ..).extBut.push _).push _))
theorem zi7 {i n : Nat} {Q : Value -> Shared -> Prop} (hit : zlh w s.heap it a i n ep t) (h : Q (.ref it) s) : wpAny (model pg w) A (pyIter (.ref it)) Q E s := by
 refine wpAny_pyIter_slot hit.typeIs zc8 (wpAny_call_entry zc8 hit.typeIs zfe ?_ (zgs _))
 show wpAny _ _ (ret (.ref it)) _ _ s
 exact wpAny_pure ⟨_, rfl, "set_iterator", _, hit.typeIs, za1.lookup, h⟩
theorem zob (hh : A.handled = none) (I a : Addr) (hne : a ≠ I) (T : TabOk w es t) :
  Walks pg w A I [I, a] [I] es.size (fun i v => ∃ e, (zn6 w a ep es)[i]? = some e /\ v = e.2) (fun i h => zlh w h I a i es.size ep t /\ zli h a es ep t) where
 sub := fun b hb => by simp at hb; simp [hb]
 frame := fun _ _ _ st hk => ⟨let ⟨o, go, r⟩ := st.1; ⟨o, hk I (by simp) o go, r⟩, hk a (by simp) _ st.2⟩
 item := fun i s Q E hi st hQ => by
  have hlt : i < (zn6 w a ep es).size := by rw [zd6]; exact hi
  refine zpg T st.2 st.1 (Array.getElem?_eq_getElem hlt) fun h' hit' hs' => ?_
  exact hQ _ h' s.toks ⟨_, Array.getElem?_eq_getElem hlt, rfl⟩ ⟨hit', hs'.extBut a _ hne st.2⟩ fun b o hb e => hs'.extBut b o (fun h => hb (by simp [h])) e
 done := fun s Q E st hQ => zsk hh T st.2 st.1 fun h' he' => hQ h' s.toks fun b o hb e => he' b o (fun h => hb (by simp [h])) e
 self := fun _ _ _ _ st hQ => zi7 st.1 hQ
theorem ztj {r : Addr} {Q : Bool -> Shared -> Prop} (hT : s.TypeIs (.ref r) "set") (h : Q false s) : wpAny (model pg w) A (Builtin.List.listLengthHint (.ref r)) Q E s := by
 unfold Builtin.List.listLengthHint
 refine wpAny_bind (wpAny_specialOf hT zwv ?_)
 generalize hid : ("set.__len__" : String) = id0
 wp_delta
 rw [show splitId id0 = some ("set", "__len__") from by subst hid; decide +kernel]
 subst hid
 refine wpAny_bind (wpAny_isInstance (T := "set") (b := true) hT (by rw [isSubtype_type]; kernel_rfl) ?_)
 refine wpAny_ite_split (fun hab => absurd hab (by decide)) (fun _ => ?_)
 refine wpAny_ite_split (fun _ => ?_) (fun hab => absurd (by decide +kernel) hab)
 refine wpAny_bind (wpAny_typeOf hT ?_)
 exact wpAny_pure h
theorem zv2 (a : Addr) (T : TabOk w es t) : KdlSrc pg w "set" a a es.size (fun i v => ∃ e, (zn6 w a ep es)[i]? = some e /\ v = e.2) (fun h => zli h a es ep t) where
 type := fun _ hm => ⟨_, hm, rfl⟩
 there := fun _ hm => ⟨Heap.lt_size hm, Heap.lt_size hm⟩
 keep := fun _ _ hm hk => hk _ (.inl rfl) _ hm
 notList := by decide
 notTuple := by decide
 hint := fun _ _ _ _ hm hq => ztj ⟨_, hm, rfl⟩ hq
 iter := fun _ s hh hm => ⟨_, _, (fun _ _ hq => zm4 T hm hq), zob hh _ a (Nat.ne_of_lt (Heap.lt_size hm)) T, ⟨⟨_, Heap.get?_push_size _ rfl, rfl, by
  have : zc2 w t 0 = 0 := by unfold zc2; split <;> rfl
  rw [this]; rfl⟩, Heap.get?_push_of_some _ hm⟩⟩
end
end
noncomputable def zy7 (x : Int) : List Int -> List Int
 | [] => [x]
 | y :: r => bif decide (x <= y) then x :: y :: r else y :: zy7 x r
noncomputable def zgv : List Int -> List Int
 | [] => []
 | x :: r => zy7 x (zgv r)
theorem zf7 (x : Int) : ∀ l, List.Perm (zy7 x l) (x :: l)
 | [] => List.Perm.refl _
 | y :: r => by
  unfold zy7
  cases decide (x <= y) with
  | true => exact List.Perm.refl _
  | false => exact ((zf7 x r).cons y).trans (List.Perm.swap x y r)
theorem zel : ∀ l, List.Perm (zgv l) l
 | [] => List.Perm.refl _
 | x :: r => (zf7 x _).trans ((zel r).cons x)
theorem zf6 (x : Int) : ∀ l : List Int, l.Pairwise (· <= ·) -> (zy7 x l).Pairwise (· <= ·)
 | [], _ => List.pairwise_singleton _ _
 | y :: r, h => by
  unfold zy7
  cases hd : decide (x <= y) with
  | true =>
   have hxy := of_decide_eq_true hd
   refine List.pairwise_cons.mpr ⟨fun z hz => ?_, h⟩
   rcases List.mem_cons.mp hz with rfl | hz
   ·exact hxy
   ·exact Int.le_trans hxy ((List.pairwise_cons.mp h).1 z hz)
  | false =>
   have hxy := of_decide_eq_false hd
   refine List.pairwise_cons.mpr ⟨fun z hz => ?_, zf6 x r (List.pairwise_cons.mp h).2⟩
   rcases List.mem_cons.mp ((zf7 x r).mem_iff.mp hz) with rfl | hz
   ·lia
   ·exact (List.pairwise_cons.mp h).1 z hz
theorem ze2 : ∀ l : List Int, (zgv l).Pairwise (· <= ·)
 | [] => List.Pairwise.nil
 | x :: r => zf6 x _ (ze2 r)
noncomputable def zgb (led : Bool) (ns : List Int) : Array Int × SetTable := ns.foldl stepS (#[], .fresh 0 0 led)
theorem zjk {led : Bool} {ns : List Int} (h : ∀ n ∈ ns, n ∈ five) : zgb led ns ∈ zat led := by
 have : ∀ (ns : List Int) (q), (∀ n ∈ ns, n ∈ five) -> q ∈ zat led -> ns.foldl stepS q ∈ zat led := by
  intro ns
  induction ns with
  | nil => intro q _ hq; exact hq
  | cons n r ih => intro q h hq; exact ih _ (fun m hm => h m (.tail _ hm)) (zht hq (h n (.head _)))
 exact this ns _ h (zdy led)
theorem ztv {led : Bool} {ns : List Int} {n : Nat} (h : n = ns.length) : zb8 led (fun i => ns.getD i 2) n = zgb led ns := by
 subst h
 unfold zb8 zgb
 congr 1
 refine List.ext_getElem (by simp) fun i h1 h2 => ?_
 simp [List.getD, List.getElem?_eq_getElem h2]
noncomputable def blt1 (f : D -> Option (D × Kd)) : List (D × Kd) -> Option (D × Kd)
 | [p] => f p.1
 | _ => none
noncomputable def setD (w : World) : D -> Option (D × Kd)
 | .lst ds => match zdp ds with
  | some ns => if ns.all (fun n => five.contains n) = true then some (.set (zgb (!byT w) ns).1.toList (byT w), .froz) else none
  | none => none
 | _ => none
noncomputable def sortD (w : World) : D -> Option (D × Kd)
 | .set l b => if b = byT w then some (.lst ((zgv l).map .int), .froz) else none
 | _ => none
noncomputable def zre (w : World) : List (D × Kd) -> Option (D × Kd) := blt1 (setD w)
noncomputable def zgo (w : World) : List (D × Kd) -> Option (D × Kd) := blt1 (sortD w)
theorem zld {w : World} {n : Str} {v : Value} {f : D -> Option (D × Kd)} (h1 : bootBuiltins n = some v) (h2 : ∀ a, v ≠ .ref a) (h3 : n ≠ "__name__") (h4 : nsIn (KK w) mainGlobals n = some none)
  (h : ∀ (mb : Str -> Option Value) (A : Around) (L : Addr) (X Y : List Addr) (s : Shared) (u : Value) (h0 : Heap) (d : D) (k : Kd), A.handled = none -> Base w mb s.heap -> (∀ a ∈ X, ∃ o, s.heap.get? a = some o) -> Res X Y L h0 s.heap u d k -> zac (f d) fun r => Tot w mb A L (call v [u]) s fun u h' => Res X Y L s.heap h' u r.1 r.2)
  {l : List (D × Kd)} {d : D} {k : Kd} (e : blt1 f l = some (d, k)) : zcx w n l d k := ⟨v, h1, h2, h3, h4, fun mb A L X Y s vs hA hU B hX ha => by
 cases l with
 | nil => exact zaf e
 | cons p l =>
  cases l with
  | cons => exact zaf e
  | nil => exact ha.one' fun h0 u r => h mb A L X Y s u h0 p.1 p.2 hA B hX r _ e⟩
theorem zyf {w : World} {l : List (D × Kd)} {d : D} {k : Kd} : zre w l = some (d, k) -> zcx w "set" l d k :=
 zld (v := .type "set") (by kernel_rfl) (fun _ q => nomatch q) (by decide +kernel) (by kernel_rfl) fun mb A L X Y s u h0 d k hA B hX r => by
 cases d with
 | lst ds =>
  refine r.lst' fun a ws n e1 r1 => ?_
  show zac (match zdp ds with | some ns => _ | none => none) _
  cases hns : zdp ds with
  | none => exact .no
  | some ns =>
   refine .ite fun h5 => ⟨?_⟩
   have h5' : ∀ n ∈ ns, n ∈ five := fun n hn => by simpa using List.all_eq_true.mp h5 n hn
   have hI := zcu r1 hns
   refine zum (items := ws.toArray) (ns := ns) hA ⟨_, e1, rfl, _, rfl⟩ (by simpa using hI) h5' fun h' tk hS hk => ?_
   rw [ztv (by rw [List.size_toArray, hI.length])] at hS
   have hk' : ∀ b o, s.heap.get? b = some o -> h'.get? b = some o := fun b o e => hk b o (Heap.lt_size e) e
   obtain ⟨es, ep, ho, hm, hi⟩ := hS
   exact ⟨h', tk, rfl, .of hk', B.keeps hk', .set (zby hX (Nat.le_refl _)) ho ⟨es, ep, _, rfl, hm ▸ zjk h5', by rw [hm], hi⟩⟩
 | _ => exact .no
theorem zqb : ∀ {vs : List Value} {ns : List Int}, vs.length = ns.length -> (∀ (j : Nat) v, vs[j]? = some v -> ∃ k, v = .int (ns.getD j 0) k) -> IntsAre vs ns
 | [], [], _, _ => .nil
 | v :: vs, n :: ns, hl, h => by
  obtain ⟨k, e⟩ := h 0 v rfl
  subst e
  exact .cons _ k (zqb (by simpa using hl) fun j u hu => by simpa using h (j + 1) u (by simpa using hu))
 | [], _ :: _, hl, _ => by simp at hl
 | _ :: _, [], hl, _ => by simp at hl
theorem zmy {w : World} {A : Around} {E : Value -> Shared -> Prop} {s : Shared} {a : Addr} {es : Array (Int × Value)} {ep : Nat} {t : SetTable} {Q : Value -> Shared -> Prop} (hh : A.handled = none) (T : TabOk w es t) (ho : zli s.heap a es ep t) (hz : es.size <= 5) (hi : ∀ e ∈ es.toList, ∃ k, e.2 = .int e.1 k)
  (h : ∀ h' tk D vs n, (∀ b o, s.heap.get? b = some o -> h'.get? b = some o) -> s.heap.get? D = none -> h'.get? D = some (zbz vs n) -> IntsAre vs (zgv (es.map (·.1)).toList) -> Q (.ref D) { s with heap := h', toks := tk }) :
  wpAny (model pg w) A (call (.builtin "sorted") [.ref a]) Q E s := by
 refine call_function_entry kind_sorted plain_sorted entry_sorted (args_sorted1 _) ?_
 unfold Builtin.«sorted»
 refine wpAny_bind (m := checkCount "sorted" 1 1 _) (wpAny_pure ?_)
 have hz2 : es.size <= sizeLine := by rw [sizeLine_eq]; lia
 refine wpAny_bind (kdu_collect (A := A.in1) (zv2 a T) hh ho hz2 fun h1 tk acc hk hacc => ?_)
 have hl : acc.toList.length = es.size := by rw [Array.length_toList]; exact hacc.1
 refine wpAny_bind (wpAny_newList ?_ (by rw [hl]; exact hz2))
 have hI : IntsAre acc.toList ((zn6 w a ep es).toList.map (·.1)) := by
  refine zqb (by rw [hl, List.length_map, Array.length_toList, zd6]) fun j v hv => ?_
  obtain ⟨e, he, rfl⟩ := hacc.2 j v (by rw [<- Array.getElem?_toList]; exact hv)
  obtain ⟨k, ek⟩ := hi e ((zf1 w a ep es).mem_iff.mp (Array.mem_toList_iff.mpr (Array.mem_of_getElem? he)))
  refine ⟨k, ?_⟩
  rw [ek]
  have : ((zn6 w a ep es).toList.map (·.1)).getD j 0 = e.1 := by
   simp [List.getD, he]
  rw [this]
 have hg : (h1.push { cls := .type "list", data := .seq acc.toList.toArray }).get? h1.objs.size = some (seqObj "list" acc.toList.toArray 0) := Heap.get?_push_size _ rfl
 have hst : wpAny (model pg w) A.in1 (call (.builtin "list.sort") [.ref h1.objs.size]) (fun _ s' => Q (.ref h1.objs.size) s') E { s with heap := h1.push { cls := .type "list", data := .seq acc.toList.toArray }, toks := tk } := by
  refine wpAny_call_entry PyProof.Rows.slot_list_sort ⟨_, hg, rfl⟩ PyProof.Rows.entry_list_sort (list_sort_tree (n := 0) (vs := acc.toList) hg hI (by rw [hl]; lia) fun out ns' hI' hp hP => ⟨.none, rfl, ?_⟩) (PyProof.Rows.args_list_sort _)
  have hsz : h1.objs.size = h1.objs.size := rfl
  obtain ⟨e, he⟩ := sortedHeap_at (vs := acc.toList) (out := out) hg
  have hns : ns' = zgv (es.map (·.1)).toList := by
   refine lks_uniq (hp.trans ?_) hP (ze2 _)
   refine List.Perm.trans ?_ (zel _).symm
   rw [Array.toList_map]
   exact (zf1 w a ep es).map _
  refine h _ _ _ out.toList e (fun b o eb => ?_) ?_ (by rw [show zbz out.toList e = seqObj "list" out e by simp [zbz, seqObj]]; exact he) (hns ▸ hI')
  ·have hb1 := Heap.lt_size (hk b o eb)
   rw [sortedHeap_old (Nat.ne_of_lt hb1) (by rw [Heap.size_push]; exact Nat.lt_succ_of_lt hb1)]
   exact Heap.get?_push_of_some _ (hk b o eb)
  ·cases eo : s.heap.get? h1.objs.size with
   | none => rfl
   | some o => exact absurd (Heap.lt_size (hk _ _ eo)) (Nat.lt_irrefl _)
 refine wpAny_bind (wpAny_holding (wpAny_mono hst (fun _ s' x => ?_) fun _ _ e => e))
 exact wpAny_pure ⟨_, rfl, x⟩
theorem zco {X : List Addr} {h : Heap} : ∀ {vs : List Value} {ns : List Int}, IntsAre vs ns -> RepA X h vs (ns.map .int)
 | _, _, .nil => .nil
 | _, _, .cons n t r => .cons (.int n t) (zco r)
theorem zny {w : World} {l : List (D × Kd)} {d : D} {k : Kd} : zgo w l = some (d, k) -> zcx w "sorted" l d k :=
 zld (v := .builtin "sorted") (by kernel_rfl) (fun _ q => nomatch q) (by decide +kernel) (by kernel_rfl) fun mb A L X Y s u h0 d k hA B hX r => by
 cases d with
 | set l b =>
  refine .ite fun hb => ⟨?_⟩
  obtain ⟨a, o, rfl, e1, es, ep, t, rfl, hq, rfl, hi⟩ := r.inv
  obtain ⟨k1, k2, k3, k4, k5, k6⟩ := zzr hq
  have hsz : (es.map (·.1)).size = es.size := Array.size_map ..
  rw [hsz] at k1 k2
  have T : TabOk w es t := {
   fits := k1
   led := by rw [k4, hb]
   plain := k5
   walk := fun i hi => by
    unfold zoc at k6
    rw [hsz] at k6
    have := List.all_eq_true.mp k6 i (List.mem_range.mpr (by lia))
    simpa using this }
  refine zmy hA T e1 k2 hi fun h' tk D vs n hk hD hg hI => ?_
  refine ⟨h', tk, rfl, .of hk, B.keeps hk, ?_⟩
  refine .lst (fun q => ?_) hg (zco hI)
  obtain ⟨o, eo⟩ := hX _ q
  rw [hD] at eo; cases eo
 | _ => exact .no
section
theorem zjc {w : World} {A : Around} {E : Value -> Shared -> Prop} {s : Shared} {a : Addr} {o : Obj} {xs : Array Value} {k : Nat} {name : Str} {u : Tok} {Q : Value -> Shared -> Prop}
  (hx : s.heap.get? a = some o) (hc : o.cls = .type "list") (hdat : o.data = .seq xs k) (hd : o.dict = none) (hmiss : typeLookup (.type "list") name = pure none) (hname : (["__module__", "__name__", "__qualname__", "__doc__", "__annotations__"] : List Str).contains name = false) (hA : A.handled = none)
  (h : ∀ h' tk e, Heap.NewExcOf s.heap h' e "AttributeError" -> E (.ref e) { s with heap := h', toks := tk }) (hsz : name.length + 100 <= sizeLine := by size_fits) :
  wpAny (model pg w) A (getAttrBy (.ref a) (.str name u) false) Q E s := by
 obtain ⟨c, dct, dat, sl⟩ := o
 simp only at hc hdat hd
 subst hc hdat hd
 obtain ⟨hp, g, d, tk, os⟩ := s
 have hT : ∀ tk', (⟨hp, g, d, tk', os⟩ : Shared).TypeIs (.ref a) "list" := fun _ => ⟨_, hx, rfl⟩
 have f1 := sub_AttributeError
 have f3 := F.slot_list_getattribute.lookup
 have f4 := F.slot_list_getattribute.bind (.ref a)
 have f5 := am_list_getattr_none
 unfold getAttrBy
 repeat (any_goals (first | assumption | exact hT _ | ((with_reducible show wpAny _ _ (call (Value.builtin "list.__getattribute__") _ _) _ _ _); refine call_meets F.slot_list_getattribute (hT _) am_entry_list_getattribute (F.args_list_getattribute_2 _ _) (meets_getattribute_miss_list a xs k sl name _ hmiss hname hsz) ⟨hx, hA, fun h' tk' e hx' => ?_⟩) | wp_step))
 obtain ⟨t', u', he⟩ := hx'.there
 show wpAny _ _ (getattributeRaised _ _ _ _ _ _ _) _ _ _
 unfold getattributeRaised
 repeat (any_goals (first | assumption | wp_step))
 exact h _ _ _ hx'.of
theorem zp4 {w : World} {A : Around} {E : Value -> Shared -> Prop} {s : Shared} {a : Addr} {vs : List Value} {n : Nat} {Q : Option Value -> Shared -> Prop} (hA : A.handled = none) (hx : s.heap.get? a = some (zbz vs n))
  (h : ∀ h' tk, (∀ b o, s.heap.get? b = some o -> h'.get? b = some o) -> Q none { s with heap := h', toks := tk }) : wpAny (model pg w) A (getAttr? (.ref a) "keys") Q E s := by
 unfold getAttr? getAttrBy?
 refine wpAny_bind (wpAny_mkText ?_)
 refine wpAny_bind (wpAny_attempt ?_)
 refine zjc (s := { s with toks := s.toks + 1 }) hx rfl rfl rfl (am_miss_of_fast (by kernel_rfl)) (by decide +kernel) hA fun h' tk e hx' => ?_
 obtain ⟨hx1, _, o', vs', he1, he2, _⟩ := id hx'
 refine wpAny_bind (wpAny_isInstance (T := "AttributeError") (b := true) ⟨_, he1, he2⟩ sub_AttributeError ?_)
 exact wpAny_pure (h h' tk hx1)
theorem zdu : entryFor table "dict.update.loop" = some Builtin.«dict.update.loop» := entryFor_of_tree (by kernel_rfl)
theorem zbx : plainId "dict.update.loop" = true := by decide +kernel
noncomputable def zml (h : Heap) (x : Value) (k : Int) (v : Value) : Prop := ∃ a n tk, x = .ref a /\ h.get? a = some (zj6 [.int k tk, v] n)
section
variable {w : World} {A : Around} {E : Value -> Shared -> Prop} {s : Shared} {R : Result -> Shared -> Prop}
theorem zrz (hh : A.in1.handled = none) (d I l : Addr) (hdI : d ≠ I) (hdl : d ≠ l) (hIl : l ≠ I) (items : List Value) (kvs : List (Int × Value)) (hnd : (kvs.map (·.1)).Nodup) (hlen : items.length = kvs.length) (hz : kvs.length <= sizeLine) :
  ∀ (m i : Nat) (s : Shared), kvs.length - i = m -> i <= kvs.length -> s.heap.IsListIter I l i -> s.heap.IsList l items.toArray -> s.heap.DictOf (intKind pg w) d (kvs.take i) ->
   (∀ (j : Nat) (x : Value) (k : Int) (v : Value), items[j]? = some x -> kvs[j]? = some (k, v) -> ∃ a n tk, x = .ref a /\ a ≠ d /\ a ≠ I /\ s.heap.get? a = some (zj6 [.int k tk, v] n)) ->
   (∀ h' tk, (∀ b o, b ≠ d -> b ≠ I -> s.heap.get? b = some o -> h'.get? b = some o) -> h'.DictOf (intKind pg w) d kvs -> R (.ok (.ret .none)) { s with heap := h', toks := tk }) ->
   codeAny (model pg w) A (.builtin "dict.update.loop" ⟨[.ref d, .ref I, rawInt i, .none], []⟩) R s := by
 have W := Walks.list (prog := pg) (w := w) hh I l hIl items.toArray
 have hsz : items.toArray.size = kvs.length := by rw [List.size_toArray, hlen]
 intro m
 induction m with
 | zero =>
  intro i s hm hi hit hl hd hp hR
  obtain rfl : i = kvs.length := Nat.le_antisymm hi (Nat.sub_eq_zero_iff_le.mp hm)
  rw [List.take_length] at hd
  refine codeAny_builtin zdu ?_
  rw [Around.under_plainId zbx _]
  show wpAny _ A.in1 (pyNext (.ref I) >>= _) _ _ s
  refine wpAny_bind (W.done s _ _ (by rw [hsz]; exact ⟨hit, hl⟩) fun h' tk hk => ?_)
  show wpAny _ A.in1 (Builtin.Dict.addKeywords d [] >>= _) _ _ _
  refine wpAny_bind (wpAny_pure (wpAny_pure ?_))
  refine hR h' tk (fun b o _ hb e => hk b o (by simp [hb]) e) ?_
  obtain ⟨o, es, ep, ho, r⟩ := hd
  exact ⟨o, es, ep, hk d o (by simp [hdI]) ho, r⟩
 | succ m ih =>
  intro i s hm hi hit hl hd hp hR
  have hlt : i < kvs.length := Nat.sub_pos_iff_lt.mp (hm ▸ Nat.succ_pos m)
  refine codeAny_builtin zdu ?_
  rw [Around.under_plainId zbx _]
  show wpAny _ A.in1 (pyNext (.ref I) >>= _) _ _ s
  refine wpAny_bind (W.item i s _ _ (by rw [hsz]; exact hlt) ⟨hit, hl⟩ fun x h' tk hP hst hk => ?_)
  have hx : items[i]? = some x := by simpa using hP
  obtain ⟨⟨k, v⟩, hkv⟩ : ∃ p, kvs[i]? = some p := ⟨kvs[i], List.getElem?_eq_getElem hlt⟩
  obtain ⟨a, n, t0, rfl, had, haI, ha⟩ := hp i x k v hx hkv
  have ha' := hk a _ (by simp [haI]) ha
  show wpAny _ A.in1 (holding [Value.ref a] _ >>= _) _ _ _
  refine wpAny_bind (wpAny_holding ?_)
  refine wpAny_bind (wpAny_tryCatch ?_)
  unfold Builtin.Dict.pairItems
  refine wpAny_bind (wpAny_typeOf (T := "tuple") ⟨_, ha', rfl⟩ ?_)
  rw [if_pos (by decide)]
  refine wpAny_bind (wpAny_seqItems ha' rfl ?_)
  refine wpAny_pure ?_
  show wpAny _ _ (holding [Value.int k t0, v] (dictSet d (.int k t0) v)) _ _ _
  refine wpAny_holding ?_
  have hd' : h'.DictOf (intKind pg w) d (kvs.take i) := by
   obtain ⟨o, es, ep, ho, r⟩ := hd
   exact ⟨o, es, ep, hk d o (by simp [hdI]) ho, r⟩
  refine wpAny_dictSet_pairs (s := { s with heap := h', toks := tk }) (intKind_is pg w k t0) hd' (fun h2 hd2 hs2 => ?_) (by rw [List.length_take]; lia)
  have hst2 : stored (kvs.take i) k v = kvs.take (i + 1) := by
   unfold stored
   rw [if_neg]
   ·rw [List.take_add_one, hkv]; rfl
   ·intro hc
    obtain ⟨p, hp1, hp2⟩ := List.any_eq_true.mp hc
    have hp2 := of_decide_eq_true hp2
    obtain ⟨j, hj, hjv⟩ := List.getElem_of_mem hp1
    rw [List.length_take] at hj
    have hjk : j < kvs.length := Nat.lt_of_lt_of_le hj (Nat.min_le_right _ _)
    have e1 : kvs[j]'hjk = p := by rw [<- hjv, List.getElem_take]
    have e2 : kvs[i]'hlt = (k, v) := by rw [List.getElem?_eq_getElem hlt] at hkv; exact Option.some.inj hkv
    have := (List.pairwise_iff_getElem.mp hnd) j i (by rw [List.length_map]; exact hjk) (by rw [List.length_map]; exact hlt) (Nat.lt_of_lt_of_le hj (Nat.min_le_left _ _))
    exact this (by simp [e1, e2, hp2])
  rw [hst2] at hd2
  have keep : ∀ b o, b ≠ d -> b ≠ I -> s.heap.get? b = some o -> h2.get? b = some o := fun b o hb hbI e => by rw [hs2.2 b hb]; exact hk b o (by simp [hbI]) e
  refine wpAny_pure ⟨plainId_quiet zbx _, ?_⟩
  have hit2 : h2.IsListIter I l (i + 1) := hst.1.at fun o e => by rw [hs2.2 I (Ne.symm hdI)]; exact e
  have hl2 : h2.IsList l items.toArray := hst.2.at fun o e => by rw [hs2.2 l (Ne.symm hdl)]; exact e
  exact ih (i + 1) { s with heap := h2, toks := tk + 1 } (by rw [<- Nat.sub_sub, hm]; rfl) hlt hit2 hl2 hd2 (fun j x k v h1 h2 => let ⟨a, n, t0, e1, e2, e3, e4⟩ := hp j x k v h1 h2; ⟨a, n, t0, e1, e2, e3, keep a _ e2 e3 e4⟩) fun h3 tk3 k3 d3 => hR h3 tk3 (fun b o h1 h2 e => k3 b o h1 h2 (keep b o h1 h2 e)) d3
theorem zra {l : Addr} {items : List Value} {kvs : List (Int × Value)} {n : Nat} {Q : Value -> Shared -> Prop} (hh : A.handled = none) (hl : s.heap.get? l = some (zbz items n)) (hnd : (kvs.map (·.1)).Nodup) (hlen : items.length = kvs.length) (hz : kvs.length <= sizeLine)
  (hp : ∀ (j : Nat) (x : Value) (k : Int) (v : Value), items[j]? = some x -> kvs[j]? = some (k, v) -> zml s.heap x k v)
  (h : ∀ h' tk, (∀ b o, s.heap.get? b = some o -> h'.get? b = some o) -> h'.DictOf (intKind pg w) s.heap.objs.size kvs -> Q (.ref s.heap.objs.size) { s with heap := h', toks := tk }) :
  wpAny (model pg w) A (call (.type "dict") [.ref l]) Q E s := by
 refine callType_codes (Q₁ := fun obj s₁ => obj = .ref s.heap.objs.size /\ s₁ = { s with heap := s.heap.push { cls := .type "dict", data := .dict #[] } }) F.kt_called_dict (F.kt_typeCall_dict_1 _) F.entry_dict_init (kt_code_dict_new _ ⟨rfl, rfl⟩) ?_
 rintro obj s₁ ⟨rfl, rfl⟩
 have hnew : (s.heap.push { cls := .type "dict", data := .dict #[] }).DictOf (intKind pg w) s.heap.objs.size [] := Heap.DictOf.new s.heap
 have hl' := Heap.get?_push_of_some { cls := .type "dict", data := .dict #[] } hl
 refine ⟨hnew.typeIs, F.args_dict_init_2 _ _, ?_⟩
 unfold Builtin.«dict.__init__»
 refine wpAny_bind ?_
 unfold Builtin.Dict.selfAndRest
 refine wpAny_bind (wpAny_notOrdered_dict hnew.typeIs ?_)
 show wpAny _ _ (pure (s.heap.objs.size, [Value.ref l])) _ _ _
 refine wpAny_pure ?_
 show wpAny _ _ (Builtin.Dict.updateFrom "dict.__init__" s.heap.objs.size (.ref l) [] .none) _ _ _
 unfold Builtin.Dict.updateFrom
 refine wpAny_bind (wpAny_typeOf (T := "list") ⟨_, hl', rfl⟩ ?_)
 rw [if_pos (by decide)]
 refine wpAny_bind (zp4 (by simp [hh]) hl' fun h1 tk1 k1 => ?_)
 rw [if_pos (by rfl)]
 refine wpAny_bind (wpAny_rule ?_)
 have hl1 : h1.IsList l items.toArray := ⟨_, k1 _ _ hl', rfl, _, rfl⟩
 refine wpAny_bind (wpAny_pyIter_list (s := { s with heap := h1, toks := tk1 }) hl1 ?_)
 refine wpAny_pure ⟨plainId_quiet zbx _, ?_⟩
 have hdlt : s.heap.objs.size < h1.objs.size := by
  obtain ⟨o, es, ep, ho, _⟩ := hnew
  exact Heap.lt_size (k1 _ _ ho)
 have hllt : l < s.heap.objs.size := Heap.lt_size hl
 have up : ∀ b o, s.heap.get? b = some o -> (h1.push { cls := .type "list_iterator", data := .fields #[.ref l, .int 0 0] }).get? b = some o := fun b o e => Heap.get?_push_of_some _ (k1 _ _ (Heap.get?_push_of_some _ e))
 refine zrz (A := A.in1) (by simp [hh]) s.heap.objs.size h1.objs.size l (Nat.ne_of_lt hdlt) (Nat.ne_of_gt hllt) (Nat.ne_of_lt (Nat.lt_trans hllt hdlt)) items kvs hnd hlen hz (kvs.length - 0) 0 _ rfl (Nat.zero_le _) ⟨_, Heap.get?_push_size _ rfl, rfl, rfl⟩ (hl1.push _) ?_ ?_ ?_
 ·obtain ⟨o, es, ep, ho, r⟩ := hnew
  exact ⟨o, es, ep, Heap.get?_push_of_some _ (k1 _ _ ho), r⟩
 ·intro j x k v h1' h2'
  obtain ⟨a, n, tk, rfl, ha⟩ := hp j x k v h1' h2'
  have halt := Heap.lt_size ha
  exact ⟨a, n, tk, rfl, Nat.ne_of_lt halt, Nat.ne_of_lt (Nat.lt_trans halt hdlt), up _ _ ha⟩
 ·intro h2 tk2 k2 d2
  refine ⟨rfl, h h2 tk2 (fun b o e => k2 b o (Nat.ne_of_lt (Heap.lt_size e)) (Nat.ne_of_lt (Nat.lt_trans (Heap.lt_size e) hdlt)) (up b o e)) d2⟩
end
noncomputable def pairD : List D -> Option (Int × D)
 | [a, d] => match a with
  | .int k => some (k, d)
  | _ => none
 | _ => none
noncomputable def tupD : D -> Option (Int × D)
 | .tup l => pairD l
 | _ => none
noncomputable def zhi : List D -> Option (List (Int × D))
 | [] => some []
 | d :: r => match tupD d with
  | some q => (match zhi r with
   | some l => some (q :: l)
   | none => none)
  | none => none
theorem zvw {d : D} {q : Int × D} (e : tupD d = some q) : d = .tup [.int q.1, q.2] := by
 cases d with
 | tup l =>
  cases l with
  | nil => exact zaf e
  | cons a l =>
   cases l with
   | nil => exact zaf e
   | cons b l =>
    cases l with
    | cons => exact zaf e
    | nil =>
     cases a with
     | int k => exact Option.some.inj e ▸ rfl
     | _ => exact zaf e
 | _ => exact zaf e
noncomputable def zlv : List Int -> Bool
 | [] => true
 | k :: r => !r.contains k && zlv r
theorem zi9 : ∀ {l : List Int}, zlv l = true -> l.Nodup
 | [], _ => List.nodup_nil
 | k :: r, h => by
  simp only [zlv, Bool.and_eq_true, Bool.not_eq_true', List.contains_eq_mem, decide_eq_false_iff_not] at h
  exact List.nodup_cons.mpr ⟨h.1, zi9 h.2⟩
noncomputable def dictD : D -> Option (D × Kd)
 | .lst ds => match zhi ds with
  | some l => if zlv (l.map (·.1)) = true /\ l.length <= sizeLine then some (.dic l, .froz) else none
  | none => none
 | _ => none
noncomputable def zrh : List (D × Kd) -> Option (D × Kd) := blt1 dictD
theorem zsh {X : List Addr} {h : Heap} {ds : List D} : ∀ {vs : List Value} {l : List (Int × D)}, RepA X h vs ds -> zhi ds = some l -> ∃ us, RepA X h us (l.map (·.2)) /\ vs.length = l.length /\ us.length = l.length /\ ∀ (j : Nat) (x : Value) (k : Int) (v : Value), vs[j]? = some x -> ((l.map (·.1)).zip us)[j]? = some (k, v) -> zml h x k v := by
 induction ds with
 | nil =>
  intro vs l r e
  cases e
  exact r.nil' (P := fun vs => ∃ us, RepA X h us [] /\ vs.length = 0 /\ us.length = 0 /\ ∀ (j : Nat) (x : Value) (k : Int) (v : Value), vs[j]? = some x -> (([] : List Int).zip us)[j]? = some (k, v) -> zml h x k v) ⟨[], .nil, rfl, rfl, fun j x k v h => nomatch h⟩
 | cons d ds ih =>
  intro vs l r e
  change (match tupD d with | some q => _ | none => none) = _ at e
  cases hq : tupD d with
  | none => rw [hq] at e; exact zaf e
  | some q =>
   rw [hq] at e
   dsimp only at e
   cases hl : zhi ds with
   | none => rw [hl] at e; exact zaf e
   | some l' =>
    rw [hl] at e
    cases e
    cases zvw hq
    refine r.cons' (P := fun vs => ∃ us, RepA X h us ((q :: l').map (·.2)) /\ vs.length = (q :: l').length /\ us.length = (q :: l').length /\ ∀ (j : Nat) (x : Value) (k : Int) (v : Value), vs[j]? = some x -> (((q :: l').map (·.1)).zip us)[j]? = some (k, v) -> zml h x k v) fun v vs a r => ?_
    obtain ⟨us, u1, u2, u3, u4⟩ := ih r hl
    obtain ⟨b, ws, n, rfl, e1, r1⟩ := a.inv
    revert e1
    refine r1.cons' (P := fun ws => h.get? b = some (zj6 ws n) -> _) fun v1 _ q1 r1 => q1.int' (P := fun v1 => h.get? b = some (zj6 (v1 :: _) n) -> _) fun t1 => r1.cons' (P := fun vs => h.get? b = some (zj6 (_ :: vs) n) -> _) fun v2 _ q2 r1 => r1.nil' (P := fun vs => h.get? b = some (zj6 (_ :: _ :: vs) n) -> _) fun e1 => ?_
    refine ⟨v2 :: us, .cons q2 u1, congrArg (· + 1) u2, congrArg (· + 1) u3, fun j x k v h1 h2 => ?_⟩
    cases j with
    | zero =>
     cases Option.some.inj h1
     cases Option.some.inj h2
     exact ⟨_, _, _, rfl, e1⟩
    | succ j => exact u4 j x k v h1 h2
theorem zgz {K : List (Int × Value)} (k : Int) : valueAt K k = K.lookup k := by
 induction K with
 | nil => rfl
 | cons p r ih =>
  obtain ⟨a, v⟩ := p
  unfold valueAt at *
  rw [List.find?_cons, List.lookup_cons]
  by_cases h : a = k
  ·subst h; simp
  ·have h1 : (k == a) = false := by simpa using fun e => h e.symm
   rw [h1]
   simp only [h, decide_false]
   exact ih
theorem zrw {α β : Type} : ∀ l : List (α × β), l = (l.map (·.1)).zip (l.map (·.2)) := fun l => by
 induction l with
 | nil => rfl
 | cons p r ih => exact congrArg (p :: ·) ih
theorem zuq {w : World} {l : List (D × Kd)} {d : D} {k : Kd} : zrh l = some (d, k) -> zcx w "dict" l d k :=
 zld (v := .type "dict") (by kernel_rfl) (fun _ q => nomatch q) (by decide +kernel) (by kernel_rfl) fun mb A L X Y s u h0 d k hA B hX r => by
 cases d with
 | lst ds =>
  refine r.lst' fun a ws n e1 r1 => ?_
  show zac (match zhi ds with | some l => _ | none => none) _
  cases hl0 : zhi ds with
  | none => exact .no
  | some l0 =>
   refine .ite fun hc => ⟨?_⟩
   obtain ⟨us, u1, u2, u3, u4⟩ := zsh r1 hl0
   have hzl : ((l0.map (·.1)).zip us).length = l0.length := by simp [List.length_zip, u3]
   have hfst : ((l0.map (·.1)).zip us).map (·.1) = l0.map (·.1) := List.map_fst_zip (by simp [u3])
   refine zra (kvs := (l0.map (·.1)).zip us) hA e1 (by rw [hfst]; exact zi9 hc.1) (by rw [u2, hzl]) (by rw [hzl]; exact hc.2) u4 fun h' tk hk hd => ?_
   refine ⟨h', tk, rfl, .of hk, B.keeps hk, Rep.dic (ks := l0.map (·.1)) (vs := us) (ds := l0.map (·.2)) (zby hX (Nat.le_refl _)) ?_ (u1.mono fun b o _ e => hk b o e) (zrw l0) (by rw [List.length_map, u3])⟩
   have := hd.mapOf.intMap
   rw [show valueAt ((l0.map (·.1)).zip us) = fun k => ((l0.map (·.1)).zip us).lookup k from funext zgz] at this
   exact this
 | _ => exact .no
end
section
section
variable {w : World} {mb : Str -> Option Value} {K : Nat} {O : Orc} {n : Nat}
end
end
section
theorem zl0 (w : World) : makesIn (KK w) 100 = true := by kernel_rfl
theorem zw2 (w : World) : findIn (KK w) (.ref 100) "__init__" = some (some (.ref 55)) := by kernel_rfl
theorem fn55 (w : World) : typeIn (KK w) (.ref 55) = some (.type "function") := by kernel_rfl
theorem zwi (w : World) : plainOver (KK w) 100 = true := by kernel_rfl
theorem zm0 (w : World) : findIn (KK w) (.ref 100) "__setattr__" = some (some (.builtin "object.__setattr__")) := by kernel_rfl
theorem zr2 (w : World) : insNames.all (fun a => match takerIn (KK w) 100 a with | some none => true | _ => false) = true := by kernel_rfl
section
variable {w : World} {mb : Str -> Option Value} {A : Around} {E : Value -> Shared -> Prop} {s : Shared}
theorem znx {C : Addr} (h : makesIn (KK w) C = true) : zjw w mb (.ref C) := by
 intro A pos first args Q E s hplain hx
 have hst : (args.any (fun x => x.fst) || ([] : List (Option Str × Sem Value)).any fun x => x.fst.isNone) = false := by
  rw [hplain]; rfl
 unfold callWith
 refine wpAny_bind (wpAny_holding (wpAny_mono hx (fun a s₁ h₁ => ?_) fun _ _ x => x))
 obtain ⟨B1, h₁⟩ := h₁
 have Y := makes_of (M := model pg w) B1.k h
 obtain ⟨oc, od, cd, sl, hC, e1, e2, e3⟩ := Y.obj
 refine wpAny_bind (wpAny_standAt ?_)
 show wpAny _ _ (keeperOf (.ref C) >>= _) _ _ _
 refine wpAny_bind ?_
 unfold keeperOf
 refine wpAny_bind (wpAny_load hC ?_)
 show wpAny _ _ (specialOf (.ref C) "__call__" >>= _) _ _ _
 refine wpAny_bind (Y.call.here ?_)
 rw [if_pos (by decide)]
 refine wpAny_pure ?_
 rw [hst]
 show wpAny _ _ (call (.ref C) (first ++ a.pos) a.kw >>= fun r => do holding [r] point; pure r) _ _ _
 exact wpAny_bind (wpAny_mono h₁ (fun r s' hr => wpAny_bind (wpAny_holding (wpAny_point (wpAny_pure hr)))) fun _ _ x => x)
set_option tactic.hygienic true in
theorem zsc {x dx : Addr} {es : List DictEntry} {n : Nat} {name : Str} {v : Value} {Q : Unit -> Shared -> Prop} (B : Base w mb s.heap) (g1 : s.heap.get? x = some (instObj 100 dx)) (g2 : s.heap.get? dx = some (dictOf es n))
  (ht : insNames.contains name = true) (hl : (getL name es).isSome = true) (hz : (putL name (PyData.keyHash w.params name) (.str name (s.toks + 1)) v es).length <= 1000)
  (h : Q () { s with heap := s.heap.update dx (Obj.putName name (PyData.keyHash w.params name) (.str name (s.toks + 1)) v), toks := s.toks + 2 }) :
  wpAny (model pg w) A (setAttr (.ref x) name v) Q E s := by
 have I : InstAt s.heap x (instObj 100 dx) 100 (some (dictOf es n)) := ⟨g1, rfl, rfl, g2⟩
 have X := B.k
 have ht' : takerIn (KK w) 100 name = some none := by
  have := List.all_eq_true.mp (zr2 w) name (by simpa using ht)
  split at this
  ·assumption
  ·cases this
 refine set_plain X I (zm0 w) ?_
 refine osa_open (s := { s with toks := s.toks + 1 }) X I (zwi w) ht' fun b => ?_
 obtain ⟨cd, hc, hd'⟩ := any_some (zve w)
 have X' : (KK w).In ({ s with toks := s.toks + 1 } : Shared).heap := X
 refine wpAny_bind (wpAny_pure (wpAny_bind (wpAny_bind (wpAny_loadPart g1 (wpAny_bind ((looks_clsIn X' hc).here (s := { s with toks := s.toks + 1 }) ?_))))))
 rw [hd']
 refine wpAny_pure (a := some dx) (wpAny_bind (wpAny_pure (wpAny_bind ?_)))
 unfold nsSet
 refine wpAny_bind (wpAny_bind (wpAny_askSetting (wpAny_pure (wpAny_bind (wpAny_mkText (wpAny_bind (wpAny_loadPart g2 ?_)))))))
 dsimp only [dictOf]
 have c : (!es.toArray.any (·.key.isStr name) && es.toArray.any (·.refKey)) = false := by
  unfold getL at hl
  rw [<- Array.any_toList, <- Array.any_toList]
  split at hl
  ·rename_i en he
   rw [List.any_eq_true.mpr ⟨en, List.mem_of_find?_eq_some he, List.find?_some he⟩]; rfl
  ·split at hl
   ·cases hl
   ·rename_i z; rw [Bool.not_eq_true] at z; rw [z, Bool.and_false]
 rw [aRefKeyMayBeTheName_at, c]
 have e := putName_dict name (PyData.keyHash w.params name) (.str name (s.toks + 1)) v es n
 have D' : (s.heap.update dx (Obj.putName name (PyData.keyHash w.params name) (.str name (s.toks + 1)) v)).get? dx = some (dictOf (putL name (PyData.keyHash w.params name) (.str name (s.toks + 1)) v es) (putN name es n)) := by
  rw [<- e]
  exact Heap.get?_update_self _ g2 (by rw [e]; rfl)
 refine wpAny_updatePart g2 ?_
 refine wpAny_bind (wpAny_lookBehind D' (by exact pastItsLine_dict (by rw [List.size_toArray, sizeLine_eq]; lia)) ?_)
 exact wpAny_pure h
end
end
section
noncomputable def i3 (w : World) : PySem.Stmt := (zay w 55).getD 2 (.Pass default)
noncomputable def i4 (w : World) : PySem.Stmt := (zay w 55).getD 3 (.Pass default)
noncomputable def ilb (w : World) : List PySem.Stmt := match (zay w 55).getD 4 (.Pass default) with
 | .For _ _ b _ _ => b
 | _ => []
noncomputable def iex (w : World) (i : Nat) : PySem.Expr := match (zay w 55).getD i (.Pass default) with
 | .Assign _ e _ => e
 | _ => .Constant .none 0 default
theorem b55 (w : World) : ∃ (pp : Nat -> Pos),
 zay w 55 = [
  .Assign [.Attribute (.Name "self" (pp 0)) "raw" (pp 1)] (.Name "ws" (pp 2)) (pp 3),
  .Assign [.Tuple [.Name "S" (pp 4), .Name "T" (pp 5)] 0 (pp 6)] (.Tuple [.Attribute (.Name "Whitespace" (pp 7)) "S" (pp 8), .Attribute (.Name "Whitespace" (pp 9)) "T" (pp 10)] 0 (pp 11)) (pp 12),
  i3 w, i4 w,
  .For (.Name "ch" (pp 13)) (.Attribute (.Name "self" (pp 14)) "raw" (pp 15)) (ilb w) [] (pp 16),
  .Assign [.Attribute (.Name "self" (pp 17)) "n" (pp 18)] (.Name "n" (pp 19)) (pp 20),
  .Assign [.Attribute (.Name "self" (pp 21)) "nt" (pp 22)] (.Name "nt" (pp 23)) (pp 24),
  .Assign [.Attribute (.Name "self" (pp 25)) "norm" (pp 26)] (iex w 7) (pp 27),
  .Assign [.Attribute (.Name "self" (pp 28)) "is_simple" (pp 29)] (iex w 8) (pp 30)] /\ (pp 4).line = (pp 5).line := ⟨fun i => [_, _, _, _, _, _, _, _, _, _, _, _, _, _, _, _, _, _, _, _, _, _, _, _, _, _, _, _, _, _, _].getD i default, rfl, rfl⟩
noncomputable abbrev O0 : Orc := ⟨fun _ _ => none, fun _ _ _ => none, fun _ _ => none⟩
theorem H0 (w : World) (mb : Str -> Option Value) : Hyps w mb 6 O0 where
 six := Nat.le_refl _
 fn := fun f args r e => by cases e
 me := fun m fs args r e => by cases e
 bl := fun f l d k e => by cases e
 attr := fun B r hi q k => zrm B r hi q k
noncomputable abbrev Ent := List (Str × Value × Int × Tok)
noncomputable def zma (l : Ent) : List DictEntry := l.map fun q => ⟨q.2.2.1, .str q.1 q.2.2.2, q.2.1⟩
theorem zf9 (x : Str) : ∀ l : Ent, getL x (zma l) = some ((l.find? fun q => q.1 == x).map (·.2.1)) := by
 intro l
 have h2 : (zma l).any (·.refKey) = false := by
  rw [List.any_eq_false]
  intro e he
  obtain ⟨q, _, rfl⟩ := List.mem_map.mp he
  simp [DictEntry.refKey]
 unfold getL
 rw [h2]
 have h1 : (zma l).find? (·.key.isStr x) = (l.find? fun q => q.1 == x).map fun q => ⟨q.2.2.1, .str q.1 q.2.2.2, q.2.1⟩ := by
  unfold zma
  rw [List.find?_map]
  rfl
 rw [h1]
 cases l.find? fun q => q.1 == x with
 | none => rfl
 | some q => rfl
theorem zo8 {x : Str} {h : Int} {t : Tok} {v : Value} {l : Ent} : (l.map (·.1)).contains x = false -> putL x h (.str x t) v (zma l) = zma (l ++ [(x, v, h, t)]) := by
 induction l with
 | nil =>
  intro _
  exact rfl
 | cons q r IH =>
  intro hc
  rw [List.map_cons, List.contains_cons, Bool.or_eq_false_iff] at hc
  have ih := IH hc.2
  have hq : (q.1 == x) = false := by
   have := hc.1
   simp only [beq_eq_false_iff_ne, ne_eq] at this ⊢
   exact fun e => this e.symm
  show putL x h (.str x t) v (⟨q.2.2.1, .str q.1 q.2.2.2, q.2.1⟩ :: zma r) = _
  unfold putL
  have : (Value.str q.1 q.2.2.2).isStr x = false := hq
  rw [this]
  simp only [Bool.false_eq_true, if_false]
  rw [ih]; rfl
section
variable {w : World} {mb : Str -> Option Value} {A : Around} {env : Env} {σ : List (Str × D)} {own : Option (Str × List D)} {X Y : List Addr} {s : Shared} {h : Heap}
structure Slf (X : List Addr) (h : Heap) (x dx : Addr) (l : Ent) (ds : List D) : Prop where
 g1 : h.get? x = some (instObj 100 dx)
 g2 : ∃ n, h.get? dx = some (dictOf (zma l) n)
 r : RepA X h (l.map (·.2.1)) ds
theorem Slf.chs {N : List Addr} {h' : Heap} {x dx : Addr} {l : Ent} {ds : List D} (Z : Slf X h x dx l ds) (k : Chs X Y h h') (hN : zfp N h) (hx : x ∈ Y /\ x ∉ TT) (hd : dx ∈ Y /\ dx ∉ TT) (ht : ∀ a ∈ TT, a ∈ X) : Slf (N ++ X) h' x dx l ds where
 g1 := k _ _ hx.2 (.inr hx.1) Z.g1
 g2 := let ⟨n, e⟩ := Z.g2; ⟨n, k _ _ hd.2 (.inr hd.1) e⟩
 r := (Z.r.sub fun b o hb e => (List.mem_append.mp hb).elim (fun q => absurd q (hN.not e)) id).mono fun b o hb e => k b o (fun q => hb (List.mem_append_right _ (ht b q))) (.inl fun q => hb (List.mem_append_right _ q)) e
inductive AttrP (w : World) (mb : Str -> Option Value) (env : Env) (σ : List (Str × D)) (own : Option (Str × List D)) (X Y : List Addr) (s : Shared) (x dx : Addr) (l : Ent) (name : Str) (ds : List D) (fl : Flow) (s' : Shared) : Prop
 | mk (h' : Heap) (tk : Nat) (v : Value) (hh : Int) (t : Tok) (e : fl = .next) (e2 : s' = { s with heap := h', toks := tk }) (B : Base w mb h') (k : ∀ b o, b ∉ TT -> b ≠ dx -> b ≠ env.locals -> s.heap.get? b = some o -> h'.get? b = some o) (S : Sc env σ own X Y h') (Z : Slf X h' x dx (l ++ [(name, v, hh, t)]) ds)
theorem zrl {K : Nat} {O : Orc} {n : Nat} (H : Hyps w mb K O) (hA : Rm A K) (S : Sc env σ own X Y s.heap) (B : Base w mb s.heap) {x dx : Addr} {l : Ent} {ds : List D} (Z : Slf X s.heap x dx l ds) (hx : x ∈ Y /\ 227 < x) (hd : dx ∈ Y /\ 227 < dx) (hxd : x ≠ dx) (hdl : dx ≠ env.locals /\ ∀ y c, env.cells.lookup y = some c -> c ≠ dx)
  (hs : σ.lookup ("self" : Str) = some (D.any (.ref x))) {name : Str} {e : PySem.Expr} {p1 p2 p3 : Pos} {d : D} {k : Kd} (q : zaa O n ⟨env.kindOf, σ, own⟩ e = some (d, k)) (hk : k ≠ .brw) (hn : insNames.contains name = true) (hnew : (l.map (·.1)).contains name = false) (hlen : l.length <= 20)
  (hsw : swapsWith e (some (.Attribute (.Name "self" p1) name p2)) p3.line env = pure false) :
  wpAny (model pg w) A (exec (.Assign [.Attribute (.Name "self" p1) name p2] e p3) env) (AttrP w mb env σ own X Y s x dx l name (ds ++ [d])) (fun _ _ => False) s := by
 refine plainObj_wpAny_Assign_Attribute (((zao H n).1 hA S B q).use fun v h1 tk1 k1 b1 r1 => ?_) hsw
 have S1 := S.kp k1 b1
 have hxL : x ≠ env.locals := fun e => S.locY (e ▸ hx.1)
 have hdL : dx ≠ env.locals := hdl.1
 obtain ⟨n0, g2⟩ := Z.g2
 have g1' := k1.1 _ _ hxL (zaq hx.2) Z.g1
 have g2' := k1.1 _ _ hdL (zaq hd.2) g2
 obtain ⟨u, u1, u2⟩ := S1.vars ("self" : Str) _ hs
 ·obtain ⟨rfl, _⟩ := u2.inv
  refine (Tot.name (L := env.locals) (s := { s with heap := h1, toks := tk1 }) (Q := fun z h2 => z = .ref x /\ h2 = h1) S1.eok b1 u1 (by decide +kernel) (by decide +kernel) ⟨rfl, rfl⟩).use fun z h2 tk2 k2 b2 e2 => ?_
  obtain ⟨rfl, rfl⟩ := e2
  have hput := zo8 (x := name) (h := PyData.keyHash w.params name) (t := tk2 + 1) (v := v) hnew
  refine zsc (s := { s with heap := h2, toks := tk2 }) b2 g1' g2' hn (by rw [zf9]; rfl) (by rw [hput]; unfold zma; rw [List.length_map, List.length_append, List.length_singleton]; exact Nat.le_trans (Nat.succ_le_succ hlen) (by decide)) ?_
  have e := putName_dict name (PyData.keyHash w.params name) (.str name (tk2 + 1)) v (zma l) n0
  rw [hput] at e
  have D' := Heap.get?_update_self (Obj.putName name (PyData.keyHash w.params name) (.str name (tk2 + 1)) v) g2' (by rw [e]; rfl)
  rw [e] at D'
  have keep : ∀ b o, b ≠ dx -> h2.get? b = some o -> (h2.update dx (Obj.putName name (PyData.keyHash w.params name) (.str name (tk2 + 1)) v)).get? b = some o := fun b o hb e => (Heap.get?_update_other _ _ (Ne.symm hb)).trans e
  dsimp only
  revert D' keep
  generalize h2.update dx (Obj.putName name (PyData.keyHash w.params name) (.str name (tk2 + 1)) v) = H
  intro D' keep
  have dX : dx ∈ X := S.subY _ hd.1
  have one : ∀ {P : Addr -> Prop}, P dx -> ∀ a ∈ [dx], P a := fun h a ha => List.mem_singleton.mp ha ▸ h
  have nd : ∀ {b : Addr}, b ∉ X -> b ≠ dx := fun h q => h (q ▸ dX)
  exact ⟨H, _, v, _, _, rfl, rfl, b2.but (a := dx) keep hd.2 fun o vs e q => (by rw [g2'] at e; cases e; cases q), fun b o hb1 hb2 hb3 e => keep b o hb2 (k1.1 b o hb3 hb1 e),
   S1.chg (Z := [dx]) (fun b o hb e => keep b o (fun q => hb (q ▸ .head _)) e) (one dX) (one ⟨hdL, hdl.2, .inl hd.1⟩) (one ⟨_, D'⟩), keep _ _ hxd g1', ⟨_, D'⟩, List.map_append ▸
   RepA.append ((Z.r.kp S.locX S.ttX k1).mono fun b o hb => keep b o (nd hb)) (.cons ((r1.rep hk).mono fun b o hb => keep b o (nd hb)) .nil)⟩
end
end
section
noncomputable def zjh : Option CFound -> Str -> Bool
 | some (.val (.str y _)), x => y == x
 | _, _ => false
set_option tactic.hygienic true in
theorem zp9 {r : Option CFound} {x : Str} (h : zjh r x = true) : ∃ t, r = some (.val (.str x t)) := by
 unfold zjh at h
 split at h
 ·rename_i y t
  have := beq_iff_eq.mp h
  subst this
  exact ⟨t, rfl⟩
 ·cases h
theorem clsS (w : World) : zjh (findCls (KK w) (.ref 100) (.type "type") "S") " " = true := by kernel_rfl
theorem clsT (w : World) : zjh (findCls (KK w) (.ref 100) (.type "type") "T") "\t" = true := by kernel_rfl
theorem zsf (w : World) : readsIn (KK w) 100 (.type "type") = true := by kernel_rfl
theorem glWs (w : World) : nsIn (KK w) mainGlobals "Whitespace" = some (some (.ref 100)) := by kernel_rfl
theorem kf55 (w : World) : zab w 55 "Whitespace" = some .globalImplicit /\ zab w 55 "S" = some .local /\ zab w 55 "T" = some .local /\ zab w 55 "self" = some .local := ⟨by kernel_rfl, by kernel_rfl, by kernel_rfl, by kernel_rfl⟩
section
variable {w : World} {mb : Str -> Option Value} {A : Around} {env : Env} {σ : List (Str × D)} {own : Option (Str × List D)} {X Y : List Addr} {s : Shared} {h : Heap}
theorem zn9 {a x : Str} {p q : Pos} {Q : Value -> Shared -> Prop} {E : Value -> Shared -> Prop} (S : Sc env σ own X Y s.heap) (B : Base w mb s.heap) (hk : env.kindOf "Whitespace" = some .globalImplicit) (hf : zjh (findCls (KK w) (.ref 100) (.type "type") a) x = true)
  (h : ∀ t tk, Q (.str x t) { s with toks := tk }) : wpAny (model pg w) A (eval (.Attribute (.Name "Whitespace" p) a q) env) Q E s := by
 obtain ⟨t, ht⟩ := zp9 hf
 rw [arm_eval_Attribute, za6 rfl]
 refine wpAny_bind (zd8 S.eok B hk (glWs w) (by decide +kernel) ?_)
 refine wpAny_bind (wpAny_standAt (wpAny_bind (wpAny_holding (cls_value B.k (zsf w) ht rfl ?_))))
 exact wpAny_bind (wpAny_of_eq rfl (wpAny_pure (h t _)))
theorem zyw (hA : A.handled = none) (S : Sc env σ own X Y s.heap) (B : Base w mb s.heap) (hk : env.kindOf = zab w 55) (ho : own = none) {q1 q2 q3 q4 q5 q6 q7 q8 q9 : Pos} (hq : q1.line = q2.line) :
  TotS w mb A env X Y (exec (.Assign [.Tuple [.Name "S" q1, .Name "T" q2] 0 q3] (.Tuple [.Attribute (.Name "Whitespace" q4) "S" q5, .Attribute (.Name "Whitespace" q6) "T" q7] 0 q8) q9) env) s ⟨("S", .str " ") :: ("T", .str "\t") :: σ, own⟩ .next := by
 constructor
 obtain ⟨k1, k2, k3, k4⟩ := kf55 w
 rw [<- hk] at k1 k2 k3
 have hfun : env.scope.kind = .function := S.eok.kind
 have hw : swappedStores [.Tuple [.Name "S" q1, .Name "T" q2] 0 q3] (.Tuple [.Attribute (.Name "Whitespace" q4) "S" q5, .Attribute (.Name "Whitespace" q6) "T" q7] 0 q8) env = pure (some (["S", "T"] : List Str)) := by
  have hb : env.blockKind = .function := by unfold Env.blockKind; rw [hfun]; rfl
  unfold swappedStores
  have hl : (Option.map (fun x : PySem.Expr => x.pos.line) [PySem.Expr.Name "S" q1, PySem.Expr.Name "T" q2].head?).getD 0 = q2.line := hq
  have h1 : PySem.Expr.pos (.Name "S" q1) = q1 := rfl
  simp only [List.filterMap, k2, k3, hb, hl, hq, beq_self_eq_true, Bool.and_self, if_true]
  rfl
 refine Assign_Tuple_swapped (names := ["S", "T"]) ?_ (by rfl) hw
 refine wpAny_Tuple ?_
 refine wpAny_items_cons ?_ rfl
 refine zn9 S B k1 (clsS w) fun t1 tk1 => ?_
 refine wpAny_items_cons ?_ rfl
 refine zn9 (s := { s with toks := tk1 }) S B k1 (clsT w) fun t2 tk2 => ?_
 refine Calls.spliced_nil ⟨by rw [sizeLine_eq]; exact Nat.le_of_ble_eq_true rfl, ?_⟩
 have ht : IsTup (s.heap.push (zj6 [.str " " t1, .str "\t" t2] 0)) s.heap.objs.size #[.str " " t1, .str "\t" t2] := ⟨_, Heap.get?_push_size _ rfl, rfl, _, rfl⟩
 have hu : wpAny (model pg w) A (unpackItems (.ref s.heap.objs.size) 2 none) (fun items s' => items = [.str " " t1, .str "\t" t2] /\ ∃ h1, s' = { s with heap := h1, toks := tk2 } /\ Heap.ExtBut (s.heap.push (zj6 [.str " " t1, .str "\t" t2] 0)).objs.size (s.heap.push (zj6 [.str " " t1, .str "\t" t2] 0)) h1) (fun _ _ => False) { s with heap := s.heap.push (zj6 [.str " " t1, .str "\t" t2] 0), toks := tk2 } := by
  have hz : (#[Value.str " " t1, Value.str "\t" t2] : Array Value).size = 2 := rfl
  revert ht
  generalize s.heap.push (zj6 [.str " " t1, .str "\t" t2] 0) = H
  intro ht
  rw [<- hz]
  exact unpackItems_tuple (s := { s with heap := H, toks := tk2 }) hA ht fun h' he => ⟨rfl, h', rfl, he⟩
 refine wpAny_mono hu (fun items s' hx => ?_) fun _ _ f => f.elim
 obtain ⟨rfl, h1, rfl, he1⟩ := hx
 have keep : ∀ b o, s.heap.get? b = some o -> h1.get? b = some o := fun b o e => he1 b o (by
  show b ≠ (s.heap.push _).objs.size
  rw [Heap.size_push]; exact Nat.ne_of_lt (Nat.lt_succ_of_lt (Heap.lt_size e))) (zar b o e)
 have kp : Kp env.locals s.heap h1 := .of keep
 have B1 : Base w mb h1 := B.keeps keep
 have S1 := S.kp kp B1
 subst ho
 have e0 : assignInOrder ((["S", "T"] : List Str).reverse.map fun n => bindName env n) ([Value.str " " t1, Value.str "\t" t2].reverse) = (do holding [.str " " t1] (bindName env "T" (.str "\t" t2)); (do holding [] (bindName env "S" (.str " " t1)); pure ())) := rfl
 rw [e0]
 refine wpAny_bind (wpAny_holding (bindName_ ?_))
 refine (S1.store (s := { s with heap := h1, toks := tk2 }) (W := XY X Y) B1 (.inl k3) (d := .str "\t") (.str ..) (fun ds e => by cases e) (S1.wokY _) (fun a ha => (zdc.mp ha).1)).use fun _ h2 tk3 ch2 B2 S2 => ?_
 refine wpAny_bind (wpAny_holding (bindName_ ?_))
 refine (S2.store (s := { s with heap := h2, toks := tk3 }) (W := XY X Y) B2 (.inl k2) (d := .str " ") (.str ..) (fun ds e => by cases e) (S2.wokY _) (fun a ha => (zdc.mp ha).1)).use fun _ h3 tk4 ch3 B3 S3 => ?_
 refine wpAny_pure ⟨h3, tk4, rfl, zdl (N := []) B3 ?_ (fun _ h => nomatch h) S3⟩
 exact ((kp.chs S).trans (N := []) ch2.chs (fun _ h => by cases h)).trans (N := []) ch3.chs (fun _ h => by cases h)
end
end
section
noncomputable abbrev chN : PySem.Expr := .Name "ch" default
noncomputable def zgn (x : Str) : List D := x.cps.toList.map fun c => .str ⟨#[c]⟩
noncomputable abbrev σ4 (x : Addr) (ws : Str) : List (Str × D) := [("S", .str " "), ("T", .str "\t"), ("self", .any (.ref x)), ("ws", .str ws), ("b", .int 0), ("n", .int 0), ("nt", .int 0)]
noncomputable def zdd (w : World) (l : List D) (c : St) : Option (St × Fl) := zbu (zab w 55) chN (zcc (zae O0 ["count"] (zab w 55) 12) (ilb w)) l c
theorem i3_ok (w : World) (x : Addr) (ws : Str) : zae O0 ["count"] (zab w 55) 12 ⟨[("S", .str " "), ("T", .str "\t"), ("self", .any (.ref x)), ("ws", .str ws)], none⟩ (i3 w) = some (⟨[("S", .str " "), ("T", .str "\t"), ("self", .any (.ref x)), ("ws", .str ws)], some ("count", [])⟩, .next) := by kernel_rfl
theorem i4_ok (w : World) (x : Addr) (ws : Str) : zae O0 ["count"] (zab w 55) 12 ⟨[("S", .str " "), ("T", .str "\t"), ("self", .any (.ref x)), ("ws", .str ws)], some ("count", [])⟩ (i4 w) = some (⟨σ4 x ws, some ("count", [])⟩, .next) := by kernel_rfl
section
variable {w : World} {mb : Str -> Option Value} {K : Nat} {A : Around} {env : Env} {c c' : Mine.St} {X Y N : List Addr} {s : Shared} {h h' h0 : Heap} {x dx : Addr} {l : Ent} {ds : List D}
structure Inv (w : World) (mb : Str -> Option Value) (env : Env) (Y : List Addr) (h0 : Heap) (x dx : Addr) (c : Mine.St) (X : List Addr) (h : Heap) (l : Ent) (ds : List D) : Prop where
 B : Base w mb h
 S : Sc env c.σ c.own X Y h
 Z : Slf X h x dx l ds
 keep : ∀ b o, b ∉ TT -> b ≠ dx -> h0.get? b = some o -> h.get? b = some o
 xs : ∀ b ∈ X, b ∈ Y ∨ h0.get? b = none
structure Fix (env : Env) (Y : List Addr) (h0 : Heap) (x dx : Addr) : Prop where
 hx : x ∈ Y /\ 227 < x
 hd : dx ∈ Y /\ 227 < dx
 hxd : x ≠ dx
 hl : h0.get? env.locals = none
 hdl : dx ≠ env.locals /\ ∀ y c, env.cells.lookup y = some c -> c ≠ dx
theorem Inv.step (F : Fix env Y h0 x dx) (I : Inv w mb env Y h0 x dx c X h l ds) (b : Base w mb h') (k : Chs X Y h h') (hN : zfp N h) (S : Sc env c'.σ c'.own (N ++ X) Y h') : Inv w mb env Y h0 x dx c' (N ++ X) h' l ds where
 B := b
 S := S
 Z := I.Z.chs k hN ⟨F.hx.1, zaq F.hx.2⟩ ⟨F.hd.1, zaq F.hd.2⟩ I.S.ttX
 keep := fun b o h1 h2 e => by
  have e1 := I.keep b o h1 h2 e
  refine k b o h1 ?_ e1
  by_cases hb : b ∈ X
  ·rcases I.xs b hb with q | q
   ·exact .inr q
   ·rw [q] at e; cases e
  ·exact .inl hb
 xs := fun b hb => by
  rcases List.mem_append.mp hb with hb | hb
  ·by_cases h1 : b ∈ TT
   ·exact .inl (I.S.ttY b h1)
   ·by_cases h2 : b = dx
    ·exact .inl (h2 ▸ F.hd.1)
    ·refine .inr ?_
     cases e : h0.get? b with
     | none => rfl
     | some o => have := I.keep b o h1 h2 e; rw [hN b hb] at this; cases this
  ·exact I.xs b hb
inductive After (w : World) (mb : Str -> Option Value) (env : Env) (Y : List Addr) (s : Shared) (h0 : Heap) (x dx : Addr) (c : Mine.St) (ds : List D) (nm : List Str) (fl : Flow) (s' : Shared) : Prop
 | mk (X : List Addr) (h' : Heap) (tk : Nat) (l : Ent) (e : fl = .next) (e2 : s' = { s with heap := h', toks := tk }) (I : Inv w mb env Y h0 x dx c X h' l ds) (hn : l.map (·.1) = nm)
noncomputable def zj0 (w : World) (mb : Str -> Option Value) (A : Around) (env : Env) (Y : List Addr) (s : Shared) (h0 : Heap) (x dx : Addr) (t : Sem Flow) (c : Mine.St) (ds : List D) (nm : List Str) (c' : Mine.St) (ds' : List D) (nm' : List Str) : Prop :=
 ∀ X h tk l, Inv w mb env Y h0 x dx c X h l ds -> l.map (·.1) = nm -> wpAny (model pg w) A t (After w mb env Y s h0 x dx c' ds' nm') (fun _ _ => False) { s with heap := h, toks := tk }
theorem zj0.nil {nm : List Str} : zj0 w mb A env Y s h0 x dx (execs [] env) c ds nm c ds nm := fun X h tk l I hn => wpAny_execs_nil ⟨X, h, tk, l, rfl, rfl, I, hn⟩
theorem zj0.cons {st : PySem.Stmt} {rest : List PySem.Stmt} {c1 c2 : Mine.St} {ds1 ds2 : List D} {nm nm1 nm2 : List Str} (a : zj0 w mb A env Y s h0 x dx (exec st env) c ds nm c1 ds1 nm1) (b : zj0 w mb A env Y s h0 x dx (execs rest env) c1 ds1 nm1 c2 ds2 nm2) :
  zj0 w mb A env Y s h0 x dx (execs (st :: rest) env) c ds nm c2 ds2 nm2 := fun X h tk l I hn =>
 wpAny_execs_cons (wpAny_mono (a X h tk l I hn) (fun fl s' y => by
  cases y with
  | mk X h' tk l e e2 I hn => subst e; subst e2; exact b X h' tk l I hn) fun _ _ f => f.elim)
theorem zj0.stepH (F : Fix env Y h0 x dx) {t : Sem Flow} {nm : List Str} {tk : Nat} (I : Inv w mb env Y h0 x dx c X h l ds) (hn : l.map (·.1) = nm) (q : TotS w mb A env X Y t { s with heap := h, toks := tk } c' .next) : wpAny (model pg w) A t (After w mb env Y s h0 x dx c' ds nm) (fun _ _ => False) { s with heap := h, toks := tk } :=
 wpAny_mono q.run (fun fl s1 y => by
  cases y with
  | mk h1 tk1 e y =>
   subst e
   cases y with
   | mk b1 k1 y =>
    cases fl with
    | next => exact y.elim fun N y => ⟨_, h1, tk1, l, rfl, rfl, I.step F b1 k1 y.1 y.2, hn⟩
    | _ => exact y.elim) fun _ _ f => f.elim
theorem zj0.stepS (F : Fix env Y h0 x dx) {t : Sem Flow} {nm : List Str} (q : ∀ X h tk, Sc env c.σ c.own X Y h -> Base w mb h -> TotS w mb A env X Y t { s with heap := h, toks := tk } c' .next) : zj0 w mb A env Y s h0 x dx t c ds nm c' ds nm := fun X h tk l I hn =>
 zj0.stepH F I hn (q X h tk I.S I.B)
theorem zj0.stm (F : Fix env Y h0 x dx) {st : PySem.Stmt} {n : Nat} {mv : List Str} (hA : Rm A 6) {nm : List Str} (q : zae O0 mv env.kindOf n c st = some (c', .next)) : zj0 w mb A env Y s h0 x dx (exec st env) c ds nm c' ds nm :=
 .stepS F fun X h tk S B => zec (H0 w mb) mv n hA S B q
theorem zj0.sto (F : Fix env Y h0 x dx) {n : Nat} (hA : Rm A 6) {name : Str} {e : PySem.Expr} {p1 p2 p3 : Pos} {d : D} {k : Kd} {nm : List Str} (hs : c.σ.lookup ("self" : Str) = some (D.any (.ref x)))
  (q : zaa O0 n ⟨env.kindOf, c.σ, c.own⟩ e = some (d, k)) (hk : k ≠ .brw) (hn : insNames.contains name = true) (hsw : swapsWith e (some (.Attribute (.Name "self" p1) name p2)) p3.line env = pure false) (hnew : nm.contains name = false) (hlen : nm.length <= 20) :
  zj0 w mb A env Y s h0 x dx (exec (.Assign [.Attribute (.Name "self" p1) name p2] e p3) env) c ds nm c (ds ++ [d]) (nm ++ [name]) := fun X h tk l I hnm => by
 subst hnm
 exact wpAny_mono (zrl (s := { s with heap := h, toks := tk }) (H0 w mb) hA I.S I.B I.Z F.hx F.hd F.hxd F.hdl hs q hk hn hnew (by rw [List.length_map] at hlen; exact hlen) hsw) (fun fl s1 y => by
  cases y with
  | mk h' tk v hh t e e2 b' k' S' Z' => exact ⟨X, h', tk, _, e, e2, ⟨b', S', Z', fun b o h1 h2 e => k' b o h1 h2 (fun q => zaf (F.hl.symm.trans (show h0.get? env.locals = some o from q ▸ e))) (I.keep b o h1 h2 e), I.xs⟩, List.map_append ..⟩) fun _ _ f => f.elim
end
end
section
section
variable {O : Orc} {n : Nat} {c : Cx} {p : Pos}
theorem za9 {k : Const} {m : Nat} {d : D} (h : zjq k = some d) : zaa O (n + 1) c (.Constant k m p) = some (d, .froz) := by
 show (zjq k).map (·, Kd.froz) = _
 rw [h]; rfl
theorem zal {x : Str} {r : D × Kd} (h : zja c x = some r) : zaa O (n + 1) c (.Name x p) = some r := h
theorem za2 {x : Str} {d : D} (h1 : zax x = true) (h : c.σ.lookup x = some d) : zja c x = some (d, .froz) := by
 unfold zja; rw [if_pos h1, h]
theorem zn4 {x : Str} {ds : List D} (h1 : zax x = true) (h : c.σ.lookup x = none) (ho : c.own = some (x, ds)) : zja c x = some (.lst ds, .brw) := by
 unfold zja; rw [if_pos h1, h, ho]; exact if_pos rfl
theorem za3 {l r : PySem.Expr} {op : Operator} {a b : D} {k1 k2 : Kd} {q : D × Kd} (h1 : zaa O n c l = some (a, k1)) (h2 : zaa O n c r = some (b, k2)) (h : zit op a b = some q) : zaa O (n + 1) c (.BinOp l op r p) = some q := by
 show (match zaa O n c l with | some (a, _) => (match zaa O n c r with | some (b, _) => zit op a b | none => none) | none => none) = _
 rw [h1, h2]; exact h
theorem z2r {x : PySem.Expr} {a : D} {k : Kd} {b : Bool} (h1 : zaa O n c x = some (a, k)) (h : zan a = some b) : zaa O (n + 1) c (.UnaryOp .Not x p) = some (.bool (!b), .froz) := by
 show (match zaa O n c x with | some (a, _) => (zan a).map fun b => (D.bool (!b), Kd.froz) | none => none) = _
 rw [h1]; dsimp only; rw [h]; rfl
theorem E_Neg {x : PySem.Expr} {a : Int} {k : Kd} (h1 : zaa O n c x = some (.int a, k)) : zaa O (n + 1) c (.UnaryOp .USub x p) = some (.int (-a), .froz) := by
 show (match zaa O n c x with | some (.int a, _) => some (D.int (-a), Kd.froz) | _ => none) = _
 rw [h1]
theorem zfj {l r : PySem.Expr} {op : CmpOp} {a b : D} {k1 k2 : Kd} {q : Bool} (h1 : zaa O n c l = some (a, k1)) (h2 : zaa O n c r = some (b, k2)) (hb : behindInMarks op r = false) (h : znv op a b = some q) : zaa O (n + 1) c (.Compare l [op] [r] p) = some (.bool q, .froz) := by
 show (match zaa O n c l with | some (a, _) => (match zaa O n c r with | some (b, _) => if behindInMarks op r = false then (znv op a b).map fun b => (D.bool b, Kd.froz) else none | none => none) | none => none) = _
 rw [h1, h2]; dsimp only; rw [if_pos hb, h]; rfl
theorem E_OrT {x y : PySem.Expr} {a : D} {k : Kd} (h1 : zaa O n c x = some (a, k)) (h : zan a = some true) : zaa O (n + 1) c (.BoolOp .Or [x, y] p) = some (a, k) := by
 show (match zaa O n c x with | some (a, k) => (match zan a with | some true => some (a, k) | some false => zaa O n c y | none => none) | none => none) = _
 rw [h1]; dsimp only; rw [h]
theorem E_OrF {x y : PySem.Expr} {a : D} {k : Kd} {q : D × Kd} (h1 : zaa O n c x = some (a, k)) (h : zan a = some false) (h2 : zaa O n c y = some q) : zaa O (n + 1) c (.BoolOp .Or [x, y] p) = some q := by
 show (match zaa O n c x with | some (a, k) => (match zan a with | some true => some (a, k) | some false => zaa O n c y | none => none) | none => none) = _
 rw [h1]; dsimp only; rw [h]; exact h2
theorem zmm {v b : PySem.Expr} {q : Pos} {o d : D} {j : Int} {k1 k2 : Kd} (h1 : zaa O n c v = some (o, k1)) (h2 : zaa O n c b = some (.int j, k2)) (h : zda o none (some j) = some d) : zaa O (n + 1) c (.Subscript v (.Slice none (some b) none q) p) = some (d, .fresh) := by
 show (match zaa O n c v with | some (o, _) => (match zaa O n c b with | some (.int j, _) => (zda o none (some j)).map (·, Kd.fresh) | _ => none) | none => none) = _
 rw [h1, h2]; dsimp only; rw [h]; rfl
theorem zu0 {v b : PySem.Expr} {q : Pos} {o d : D} {j : Int} {k1 k2 : Kd} (h1 : zaa O n c v = some (o, k1)) (h2 : zaa O n c b = some (.int j, k2)) (h : zda o (some j) none = some d) : zaa O (n + 1) c (.Subscript v (.Slice (some b) none none q) p) = some (d, .fresh) := by
 show (match zaa O n c v with | some (o, _) => (match zaa O n c b with | some (.int j, _) => (zda o (some j) none).map (·, Kd.fresh) | _ => none) | none => none) = _
 rw [h1, h2]; dsimp only; rw [h]; rfl
theorem zfb {v s : PySem.Expr} {o i d : D} {k1 k2 : Kd} (hs : zae.notSlice s = true) (h1 : zaa O n c v = some (o, k1)) (h2 : zaa O n c s = some (i, k2)) (h : zh4 o i = some d) : zaa O (n + 1) c (.Subscript v s p) = some (d, .froz) := by
 have : zaa O (n + 1) c (.Subscript v s p) = (match zaa O n c v with | some (o, _) => (match zaa O n c s with | some (i, _) => (zh4 o i).map (·, Kd.froz) | none => none) | none => none) := by
  cases s <;> first | rfl | cases hs
 rw [this, h1, h2]; dsimp only; rw [h]; rfl
theorem zru {es : List PySem.Expr} {l : List (D × Kd)} (h : zb5 (zaa O n c) es = some l) (hf : zag l = true) (hz : l.length <= sizeLine) : zaa O (n + 1) c (.List es p) = some (.lst (l.map (·.1)), .fresh) := by
 show (match zb5 (zaa O n c) es with | some l => if zag l = true /\ l.length <= sizeLine then some (D.lst (l.map Prod.fst), Kd.fresh) else none | none => none) = _
 rw [h]; exact if_pos ⟨hf, hz⟩
theorem zrt {es : List PySem.Expr} {k : Nat} {l : List (D × Kd)} (h : zb5 (zaa O n c) es = some l) (hf : zag l = true) (hz : l.length <= sizeLine) : zaa O (n + 1) c (.Tuple es k p) = some (.tup (l.map (·.1)), .froz) := by
 show (match zb5 (zaa O n c) es with | some l => if zag l = true /\ l.length <= sizeLine then some (D.tup (l.map Prod.fst), Kd.froz) else none | none => none) = _
 rw [h]; exact if_pos ⟨hf, hz⟩
theorem zbc {f : PySem.Expr -> Option (D × Kd)} : zb5 f [] = some [] := rfl
theorem zaj {f : PySem.Expr -> Option (D × Kd)} {a : PySem.Expr} {l : List PySem.Expr} {b : D × Kd} {bs : List (D × Kd)} (h : f a = some b) (hs : zb5 f l = some bs) : zb5 f (a :: l) = some (b :: bs) := by
 unfold zb5; rw [h, hs]
theorem zdx {elt target iter : PySem.Expr} {ifs : List PySem.Expr} {scope : Scope} {d : D} {k : Kd} {ds ls : List D} (h : zaa O n c iter = some (d, k)) (hi : zeo d = some ds) (hk : k ≠ .brw) (hz : ds.length <= sizeLine) (hn : ze4 iter = true) (hc : zbq c.kf scope target (zb9 scope c.σ) = true)
  (hl : zbw (zdo (zaa O n) (fun x => (za7 c.kf scope.names).lookup x) (zb9 scope c.σ) (zcq scope c.own) target elt ifs) ds = some ls) : zaa O (n + 1) c (.ListComp elt [⟨target, iter, ifs, 0⟩] scope p) = some (.lst ls, .fresh) := by
 show zk1 (zaa O n) c target iter ifs scope elt (zaa O n c iter) = _
 rw [h]
 unfold zk1
 dsimp only
 rw [hi]
 dsimp only
 rw [if_pos ⟨hk, hz, hn, hc⟩, hl]; rfl
theorem zvo {o a : Str} {q : Pos} {fs : List (Str × D)} {d : D} (h : c.σ.lookup o = some (.ins fs)) (h1 : zax o = true) (h2 : insNames.contains a = true) (h3 : fs.lookup a = some d) : zaa O (n + 1) c (.Attribute (.Name o q) a p) = some (d, .froz) := by
 show (match c.σ.lookup o with | some (.ins fs) => if zax o = true /\ insNames.contains a = true then (fs.lookup a).map (·, Kd.froz) else none | _ => none) = _
 rw [h]; dsimp only; rw [if_pos ⟨h1, h2⟩, h3]; rfl
theorem zmo {f : Str} {q : Pos} {args : List PySem.Expr} {l : List (D × Kd)} {r : D} (hk : c.kf f = some .globalImplicit) (hn : zax f = true) (h : zb5 (zaa O n c) args = some l) (hf : O.fn f (l.map (·.1)) = some r) (ha : zag l = true ∨ scalar r = true) : zaa O (n + 1) c (.Call (.Name f q) args [] p) = some (r, .froz) := by
 show (if c.kf f = some .globalImplicit /\ zax f = true then (match zb5 (zaa O n c) args with | some l => (match O.fn f (l.map (·.1)) with | some r => if zag l = true ∨ scalar r = true then some (r, Kd.froz) else none | none => zbe (zis f l) (O.bl f l)) | none => none) else none) = _
 rw [if_pos ⟨hk, hn⟩, h]; dsimp only; rw [hf]; exact if_pos ha
theorem zio {f : Str} {q : Pos} {args : List PySem.Expr} {l : List (D × Kd)} {r : D × Kd} (hk : c.kf f = some .globalImplicit) (hn : zax f = true) (h : zb5 (zaa O n c) args = some l) (hf : O.fn f (l.map (·.1)) = none) (hb : zbe (zis f l) (O.bl f l) = some r) : zaa O (n + 1) c (.Call (.Name f q) args [] p) = some r := by
 show (if c.kf f = some .globalImplicit /\ zax f = true then (match zb5 (zaa O n c) args with | some l => (match O.fn f (l.map (·.1)) with | some r => if zag l = true ∨ scalar r = true then some (r, Kd.froz) else none | none => zbe (zis f l) (O.bl f l)) | none => none) else none) = _
 rw [if_pos ⟨hk, hn⟩, h]; dsimp only; rw [hf]; exact hb
theorem E_Me {o : PySem.Expr} {m : Str} {args : List PySem.Expr} {apos : Pos} {fs : List (Str × D)} {k : Kd} {l : List (D × Kd)} {r : D} (hp : apos.endLine = p.line) (hl : args.length < 20) (hs : zbn o = true) (h0 : zaa O n c o = some (.ins fs, k)) (h : zb5 (zaa O n c) args = some l) (ha : zag l = true)
  (hm : O.me m fs (l.map (·.1)) = some r) : zaa O (n + 1) c (.Call (.Attribute o m apos) args [] p) = some (r, .froz) := by
 show (if apos.endLine = p.line /\ args.length < 20 /\ zbn o = true then (match zaa O n c o with
   | some (.ins fs, _) => (match zb5 (zaa O n c) args with
    | some l => if zag l = true then (O.me m fs (l.map (·.1))).map (·, Kd.froz) else none
    | none => none)
   | some (d, _) => (match zb5 (zaa O n c) args with
    | some l => if zag l = true then (zkh d m (l.map (·.1))).map (·, Kd.froz) else none
    | none => none)
   | none => none) else none) = _
 rw [if_pos ⟨hp, hl, hs⟩, h0]; dsimp only; rw [h]; dsimp only; rw [if_pos ha, hm]; rfl
theorem zmn {o : PySem.Expr} {m : Str} {args : List PySem.Expr} {apos : Pos} {d : D} {k : Kd} {l : List (D × Kd)} {r : D} (hp : apos.endLine = p.line) (hl : args.length < 20) (hs : zbn o = true) (h0 : zaa O n c o = some (d, k)) (hd : ∀ fs, d ≠ .ins fs) (h : zb5 (zaa O n c) args = some l) (ha : zag l = true)
  (hm : zkh d m (l.map (·.1)) = some r) : zaa O (n + 1) c (.Call (.Attribute o m apos) args [] p) = some (r, .froz) := by
 have : zaa O (n + 1) c (.Call (.Attribute o m apos) args [] p) = (if apos.endLine = p.line /\ args.length < 20 /\ zbn o = true then (match zaa O n c o with
   | some (.ins fs, _) => (match zb5 (zaa O n c) args with
    | some l => if zag l = true then (O.me m fs (l.map (·.1))).map (·, Kd.froz) else none
    | none => none)
   | some (d, _) => (match zb5 (zaa O n c) args with
    | some l => if zag l = true then (zkh d m (l.map (·.1))).map (·, Kd.froz) else none
    | none => none)
   | none => none) else none) := rfl
 rw [this, if_pos ⟨hp, hl, hs⟩, h0]
 cases d <;> first | exact absurd rfl (hd _) | (dsimp only; rw [h]; dsimp only; rw [if_pos ha, hm]; rfl)
end
end
section
noncomputable abbrev σ5 (x : Addr) (ws : Str) (b n nt : Int) (ch : D) : List (Str × D) := [("S", .str " "), ("T", .str "\t"), ("self", .any (.ref x)), ("ws", .str ws), ("b", .int b), ("n", .int n), ("nt", .int nt), ("ch", ch)]
theorem iex7 (w : World) : ∃ (pp : Nat -> Pos), iex w 7 = .Tuple [.Call (.Name "tuple" (pp 0)) [.Name "count" (pp 1)] [] (pp 2), .Name "b" (pp 3)] 0 (pp 4) := ⟨fun i => [_, _, _, _, _].getD i default, rfl⟩
theorem iex8 (w : World) : ∃ (pp : Nat -> Pos), iex w 8 = .Compare (.Call (.Name "len" (pp 0)) [.Name "count" (pp 1)] [] (pp 2)) [.LtE] [.Constant (.int 1) 0 (pp 3)] (pp 4) := ⟨fun i => [_, _, _, _, _].getD i default, rfl⟩
variable {w : World}
theorem ev7 {x : Addr} {ws : Str} {b n nt : Int} {ch : D} {cs : List D} (hz : cs.length <= sizeLine) : zaa O0 12 ⟨zab w 55, σ5 x ws b n nt ch, some ("count", cs)⟩ (iex w 7) = some (.tup [.tup cs, .int b], .froz) := by
 obtain ⟨pp, e⟩ := iex7 w
 rw [e]
 have hz' : ¬ (sizeLine < cs.length) := by lia
 have e1 : zaa O0 11 ⟨zab w 55, σ5 x ws b n nt ch, some ("count", cs)⟩ (.Call (.Name "tuple" (pp 0)) [.Name "count" (pp 1)] [] (pp 2)) = some (.tup cs, .froz) := by
  have : zaa O0 11 ⟨zab w 55, σ5 x ws b n nt ch, some ("count", cs)⟩ (.Call (.Name "tuple" (pp 0)) [.Name "count" (pp 1)] [] (pp 2)) = zbe (zeh [(.lst cs, .brw)]) none := by kernel_rfl
  rw [this]
  unfold zeh
  simp only [hz, if_true]
  rfl
 have e2 : zaa O0 11 ⟨zab w 55, σ5 x ws b n nt ch, some ("count", cs)⟩ (.Name "b" (pp 3)) = some (.int b, .froz) := by kernel_rfl
 exact zrt (zaj e1 (zaj e2 zbc)) rfl (by rw [sizeLine_eq]; exact Nat.le_of_ble_eq_true rfl)
theorem ev8 {x : Addr} {ws : Str} {b n nt : Int} {ch : D} {cs : List D} (hz : cs.length <= sizeLine) : zaa O0 12 ⟨zab w 55, σ5 x ws b n nt ch, some ("count", cs)⟩ (iex w 8) = some (.bool (decide ((cs.length : Int) <= 1)), .froz) := by
 obtain ⟨pp, e⟩ := iex8 w
 rw [e]
 have e1 : zaa O0 11 ⟨zab w 55, σ5 x ws b n nt ch, some ("count", cs)⟩ (.Call (.Name "len" (pp 0)) [.Name "count" (pp 1)] [] (pp 2)) = some (.int cs.length, .froz) := by
  have : zaa O0 11 ⟨zab w 55, σ5 x ws b n nt ch, some ("count", cs)⟩ (.Call (.Name "len" (pp 0)) [.Name "count" (pp 1)] [] (pp 2)) = zbe (zbr [(.lst cs, .brw)]) none := by kernel_rfl
  rw [this]
  unfold zbr
  simp only [hz, if_true]
  rfl
 have e2 : zaa O0 11 ⟨zab w 55, σ5 x ws b n nt ch, some ("count", cs)⟩ (.Constant (.int 1) 0 (pp 3)) = some (.int 1, .froz) := by kernel_rfl
 exact zfj e1 e2 rfl rfl
noncomputable def wsD (ws : Str) (b n nt : Int) (cs : List D) : List (Str × D) := [("raw", .str ws), ("n", .int n), ("nt", .int nt), ("norm", .tup [.tup cs, .int b]), ("is_simple", .bool (decide ((cs.length : Int) <= 1)))]
theorem zng {kf : Kf} {p q : Pos} {x : Str} {body : Mine.St -> Option (Mine.St × Fl)} {l : List D} : ∀ {c : Mine.St}, zbu kf (.Name x p) body l c = zbu kf (.Name x q) body l c := by
 induction l with
 | nil =>
  intro c
  exact rfl
 | cons d r IH =>
  intro c
  show (match za8 kf c.own c.σ (.Name x p) d with | some σ1 => _ | none => none) = (match za8 kf c.own c.σ (.Name x q) d with | some σ1 => _ | none => none)
  have : za8 kf c.own c.σ (.Name x p) d = za8 kf c.own c.σ (.Name x q) d := rfl
  rw [this]
  cases za8 kf c.own c.σ (.Name x q) d with
  | none => rfl
  | some σ1 =>
   dsimp only
   cases body ⟨σ1, c.own⟩ with
   | none => rfl
   | some r =>
    obtain ⟨c2, f⟩ := r
    cases f with
    | next => exact IH
    | _ => rfl
theorem zno {l : Ent} : ∀ {q : Str × Value × Int × Tok}, (l.map (·.1)).Nodup -> q ∈ l -> l.find? (fun z => z.1 == q.1) = some q := by
 induction l with
 | nil =>
  intro q _ h
  cases h
 | cons z r IH =>
  intro q hn h
  rw [List.map_cons, List.nodup_cons] at hn
  rw [List.find?_cons]
  rcases List.mem_cons.mp h with rfl | h
  ·rw [beq_self_eq_true]
  ·have : (z.1 == q.1) = false := by
    rw [beq_eq_false_iff_ne]
    intro e
    exact hn.1 (e ▸ List.mem_map_of_mem h)
   rw [this]
   exact IH hn.2 h
theorem zoy {X X0 : List Addr} {h : Heap} {x dx : Addr} {l : Ent} {ds : List D} (Z : Slf X h x dx l ds) (hn : (l.map (·.1)).Nodup) (hs : ∀ a ∈ X0, a ∈ X) (hx : x ∉ X0) (hd : dx ∉ X0) {fs : List (Str × D)} (hf : fs = (l.map (·.1)).zip ds) : Rep X0 h (.ref x) (.ins fs) := by
 obtain ⟨n, g2⟩ := Z.g2
 refine Rep.ins (names := l.map (·.1)) (vs := l.map (·.2.1)) (ds := ds) hx hd Z.g1 g2 ⟨fun p hp => ?_, fun y hy => ?_⟩ (Z.r.sub fun b o hb _ => hs b hb) hf (by simp)
 ·have hp' : ∃ q ∈ l, p = (q.1, q.2.1) := by
   clear hn Z g2 hf
   induction l with
   | nil => cases hp
   | cons z r ih =>
    simp only [List.map_cons, List.zip_cons_cons, List.mem_cons] at hp
    rcases hp with rfl | hp
    ·exact ⟨z, .head _, rfl⟩
    ·obtain ⟨q, h1, h2⟩ := ih hp; exact ⟨q, .tail _ h1, h2⟩
  obtain ⟨q, hq, rfl⟩ := hp'
  show getL q.1 (zma l) = _
  rw [zf9, zno hn hq]; rfl
 ·show getL y (zma l) = _
  rw [zf9]
  have : l.find? (fun q => q.1 == y) = none := by
   rw [List.find?_eq_none]
   intro q hq e
   have h1 : y ∈ l.map (·.1) := by rw [<- beq_iff_eq.mp e]; exact List.mem_map_of_mem hq
   rw [List.contains_eq_mem, decide_eq_false_iff_not] at hy
   exact hy h1
  rw [this]; rfl
section
variable {mb : Str -> Option Value} {A : Around} {X : List Addr} {s : Shared}
theorem ztp {env : Env} {X5 : List Addr} {h5 : Heap} {tk5 : Nat} {ws : Str} {x : Addr} {b n nt : Int} {cs : List D} {ch : D} {p1 p2 p3 p4 : Pos} (hA : Rm A 6) (hk : env.kindOf = zab w 55) (S : Sc env (σ4 x ws) (some ("count", [])) X5 X h5) (B : Base w mb h5) (Z : Rep [] h5 (.ref x) (.ins [("raw", .str ws)]))
  (q : zdd w (zgn ws) ⟨σ4 x ws, some ("count", [])⟩ = some (⟨σ5 x ws b n nt ch, some ("count", cs)⟩, .next)) :
  TotS w mb A env X5 X (exec (.For (.Name "ch" p1) (.Attribute (.Name "self" p2) "raw" p3) (ilb w) [] p4) env) { s with heap := h5, toks := tk5 } ⟨σ5 x ws b n nt ch, some ("count", cs)⟩ .next := by
 refine zos (c := ⟨σ4 x ws, some ("count", [])⟩) (ds := zgn ws) (zec (H0 w mb) ["count"] 12) hA S B (fun {Q} go => ⟨fun _ => rfl, ?_⟩) ?_
 ·rw [arm_eval_Attribute, za6 rfl]
  obtain ⟨u, u1, u2⟩ := S.vars ("self" : Str) _ (rfl : _ = some (D.any (.ref x)))
  obtain ⟨rfl, _⟩ := u2.inv
  refine wpAny_bind ((Tot.name (L := env.locals) (s := { s with heap := h5, toks := tk5 }) (Q := fun z h => z = .ref x /\ h = h5) S.eok B u1 (by decide +kernel) (by decide +kernel) ⟨rfl, rfl⟩).use fun z h6 tk6 k6 b6 e6 => ?_)
  obtain ⟨rfl, rfl⟩ := e6
  refine wpAny_bind (wpAny_standAt (wpAny_bind (wpAny_holding (zrm (s := { s with heap := h6, toks := tk6 }) b6 Z (by decide +kernel) (d := .str ws) rfl fun v tk7 rv => rv.str' fun t => ?_))))
  refine wpAny_bind (wpAny_of_eq rfl (wpAny_pure ?_))
  exact zh3 (X := X5) (s := { s with heap := h6, toks := tk7 }) hA.hh (d := .str ws) rfl S.live (.str ..) fun o fp St hf hI => go h6 tk7 o fp St k6 b6 hf hI
 ·rw [hk, zng (q := default)]
  exact q
theorem zqc {env : Env} {h0 : Heap} {ws : Str} {x dx : Addr} {b n nt : Int} {cs : List D} {ch : D} (F : Fix env X h0 x dx) (hA : Rm A 6) (hk : env.kindOf = zab w 55) (hz : cs.length <= sizeLine)
  (q : zdd w (zgn ws) ⟨σ4 x ws, some ("count", [])⟩ = some (⟨σ5 x ws b n nt ch, some ("count", cs)⟩, .next)) :
  zj0 w mb A env X s h0 x dx (execs (zay w 55) env) ⟨ps_init.zip [.any (.ref x), .str ws], none⟩ [] [] ⟨σ5 x ws b n nt ch, some ("count", cs)⟩ [.str ws, .int n, .int nt, .tup [.tup cs, .int b], .bool (decide ((cs.length : Int) <= 1))] insNames := by
 obtain ⟨pp, hb, hq⟩ := b55 w
 rw [hb]
 have S : ∀ {b n nt : Int} {ch : D}, (σ5 x ws b n nt ch).lookup ("self" : Str) = some (D.any (.ref x)) := rfl
 refine .cons (.sto (n := 12) F hA rfl (d := .str ws) (k := .froz) (by rw [hk]; kernel_rfl) (by decide) (by decide +kernel) rfl rfl (by decide)) ?_
 refine .cons (.stepS F fun X h tk S B => zyw hA.hh S B hk rfl hq) ?_
 refine .cons (.stm (c' := ⟨[("S", .str " "), ("T", .str "\t"), ("self", .any (.ref x)), ("ws", .str ws)], some ("count", [])⟩) F hA (by rw [hk]; exact i3_ok w x ws)) ?_
 refine .cons (.stm F hA (by rw [hk]; exact i4_ok w x ws)) ?_
 refine .cons (c1 := ⟨σ5 x ws b n nt ch, some ("count", cs)⟩) (fun X5 h5 tk5 l5 I5 n5 => zj0.stepH F I5 n5 (ztp hA hk I5.S I5.B (zoy (X0 := []) I5.Z (by rw [n5]; decide +kernel) (fun a ha => nomatch ha) (fun h => nomatch h) (fun h => nomatch h) (by rw [n5]; rfl)) q)) ?_
 refine .cons (.sto (n := 12) F hA S (d := .int n) (k := .froz) (by rw [hk]; kernel_rfl) (by decide) (by decide +kernel) rfl (by decide +kernel) (by decide)) ?_
 refine .cons (.sto (n := 12) F hA S (d := .int nt) (k := .froz) (by rw [hk]; kernel_rfl) (by decide) (by decide +kernel) rfl (by decide +kernel) (by decide)) ?_
 refine .cons (.sto (n := 12) F hA S (by rw [hk]; exact ev7 hz) (by decide) (by decide +kernel) (by obtain ⟨pp2, e⟩ := iex7 w; rw [e]; rfl) (by decide +kernel) (by decide)) ?_
 exact .cons (.sto (n := 12) F hA S (by rw [hk]; exact ev8 hz) (by decide) (by decide +kernel) (by obtain ⟨pp3, e⟩ := iex8 w; rw [e]; rfl) (by decide +kernel) (by decide)) .nil
theorem zqd {ws : Str} {x dx : Addr} {t0 : Tok} {b n nt : Int} {cs : List D} {ch : D} (hA : Rm A 7) (B : Base w mb s.heap) (hX : ∀ a ∈ X, ∃ o, s.heap.get? a = some o) (hT : ∀ a ∈ TT, a ∈ X) (hx : x ∈ X /\ 227 < x) (hd : dx ∈ X /\ 227 < dx) (hxd : x ≠ dx)
  (g1 : s.heap.get? x = some (instObj 100 dx)) (g2 : s.heap.get? dx = some (dictOf (zma []) 0)) (hz : cs.length <= sizeLine)
  (q : zdd w (zgn ws) ⟨σ4 x ws, some ("count", [])⟩ = some (⟨σ5 x ws b n nt ch, some ("count", cs)⟩, .next)) :
  codeAny (model pg w) A (.call (.ref 55) ⟨[.ref x, .str ws t0], []⟩) (fun r s' => r = .ok (.ret .none) /\ ∃ h' tk l, s' = { s with heap := h', toks := tk } /\ (∀ b o, b ∉ TT -> b ≠ dx -> s.heap.get? b = some o -> h'.get? b = some o) /\ Base w mb h' /\
   Slf X h' x dx l [.str ws, .int n, .int nt, .tup [.tup cs, .int b], .bool (decide ((cs.length : Int) <= 1))] /\ l.map (·.1) = insNames) s := by
 refine zed (K := 6) (zyo w) rfl hA B hX hT (args := [.any (.ref x), .str ws]) (.cons (.any rfl) (.cons (.str ..) .nil)) fun A' env X' h1 tk1 hA' hk S B1 keep1 hX' hvar hL hC _ => ?_
 have F : Fix env X s.heap x dx := {
  hx := hx
  hd := hd
  hxd := hxd
  hl := hL
  hdl := ⟨fun e => zaf (hL.symm.trans (show s.heap.get? env.locals = _ from e ▸ g2)), fun y c e q => zaf ((hC y c e).symm.trans (show s.heap.get? c = _ from q ▸ g2))⟩ }
 have I0 : Inv w mb env X s.heap x dx ⟨ps_init.zip [.any (.ref x), .str ws], none⟩ X' h1 [] [] := {
  B := B1
  S := S
  Z := ⟨keep1 _ _ g1, ⟨0, keep1 _ _ g2⟩, .nil⟩
  keep := fun b o _ _ e => keep1 b o e
  xs := hX' }
 refine wpAny_mono (zqc F hA' hk hz q X' h1 tk1 [] I0 rfl) (fun fl s' y => ?_) fun _ _ f => f.elim
 cases y with
 | mk Xa ha tka la e e2 Ia na =>
  subst e
  exact ⟨rfl, ha, tka, la, e2, Ia.keep, Ia.B, ⟨Ia.Z.g1, Ia.Z.g2, Ia.Z.r.sub fun b o hb e => Ia.S.subY b hb⟩, na⟩
end
end
theorem zvr {w : World} {mb : Str -> Option Value} {ws : Str} {b n nt : Int} {cs : List D} {ch : D} (hz : cs.length <= sizeLine)
  (q : ∀ x, zdd w (zgn ws) ⟨σ4 x ws, some ("count", [])⟩ = some (⟨σ5 x ws b n nt ch, some ("count", cs)⟩, .next)) : zfi w mb 8 (.ref 100) [.str ws] (.ins (wsD ws b n nt cs)) := by
 intro A s X vs hA B hX hT ra
 refine ra.cons' fun v _ r ra => r.str' (P := fun v => wpAny (model pg w) A (call (.ref 100) (v :: _) []) _ _ s) fun t0 => ra.nil' (P := fun vs => wpAny (model pg w) A (call (.ref 100) (.str ws t0 :: vs) []) _ _ s) ?_
 obtain ⟨h, g, d, tk, os⟩ := s
 dsimp only at B hX
 refine wpAny_call (make_core (makes_of B.k (zl0 w)) (looks_findIn B.k (zw2 w)) (fun self => bind_fn B.k self (fn55 w)) (.inl rfl) ?_)
 have keep : ∀ b o, h.get? b = some o -> ((h.push emptyDict).push (instObj 100 h.objs.size)).get? b = some o := fun b o e => Heap.get?_push_of_some _ (Heap.get?_push_of_some _ e)
 have B1 : Base w mb ((h.push emptyDict).push (instObj 100 h.objs.size)) := B.keeps keep
 have e1 : (h.push emptyDict).objs.size = h.objs.size + 1 := Heap.size_push ..
 have g1 : ((h.push emptyDict).push (instObj 100 h.objs.size)).get? (h.objs.size + 1) = some (instObj 100 h.objs.size) := by rw [<- e1]; exact Heap.get?_push_size _ rfl
 have g2 : ((h.push emptyDict).push (instObj 100 h.objs.size)).get? h.objs.size = some (dictOf (zma []) 0) := Heap.get?_push_of_some _ (Heap.get?_push_size h (o := emptyDict) rfl)
 have hA' : Rm (A.under (.builtin "type.__call__" ⟨.ref 100 :: [Value.str ws t0], []⟩)) 7 := ⟨hA.hh, by have := hA.d; show A.depth + 1 + 7 < _; lia, by have := hA.u; show A.units + 1 + _ + _ < _; lia⟩
 have low : 227 < h.objs.size := B.low
 refine codeAny_mono (zqd (X := (h.objs.size + 1) :: h.objs.size :: X) (s := ⟨(h.push emptyDict).push (instObj 100 h.objs.size), g, d, tk, os⟩) (t0 := t0) hA' B1 ?_ ?_ ⟨.head _, Nat.lt_succ_of_lt low⟩ ⟨.tail _ (.head _), low⟩ (Nat.ne_of_gt (Nat.lt_succ_self _)) g1 g2 hz (q _)) fun r s' x => ?_
 ·intro a ha
  rcases List.mem_cons.mp ha with rfl | ha
  ·exact ⟨_, g1⟩
  ·rcases List.mem_cons.mp ha with rfl | ha
   ·exact ⟨_, g2⟩
   ·obtain ⟨o, e⟩ := hX a ha; exact ⟨o, keep _ _ e⟩
 ·exact fun a ha => .tail _ (.tail _ (hT a ha))
 ·obtain ⟨rfl, h', tk', l, rfl, k', B', Z', hn⟩ := x
  refine ⟨rfl, h', tk', rfl, fun b o h1 e => k' b o h1 (Nat.ne_of_lt (Heap.lt_size e)) (keep b o e), B', ?_⟩
  refine zoy Z' (by rw [hn]; decide +kernel) (fun a ha => .tail _ (.tail _ ha)) (fun q => ?_) (fun q => ?_) (by rw [hn]; rfl)
  ·obtain ⟨o, e⟩ := hX _ q
   exact absurd (Heap.lt_size e) (Nat.not_lt.mpr (Nat.le_succ _))
  ·obtain ⟨o, e⟩ := hX _ q
   exact absurd (Heap.lt_size e) (Nat.lt_irrefl _)
section
theorem bm_in (w : World) : nsIn (KK w) mainGlobals "__builtins__" = some (some (.ref 4)) := by kernel_rfl
theorem mg_ns (w : World) : nsOkIn (KK w) mainGlobals = true := by kernel_rfl
section
variable {w : World} {mb : Str -> Option Value} {A : Around} {E : Value -> Shared -> Prop} {s : Shared} {name qual : Str} {params : Arguments} {body : List PySem.Stmt} {scope : Scope} {env : Env} {c P : Addr} {pos : Pos} {firstLine : Nat}
 {clos : List (Str × Addr)} {Q : Value -> Shared -> Prop}
theorem z1b {h : Heap} {c P : Addr} (C : CodeHd h c P) : c ≠ P :=
 Exists.elim C fun _ h => h.elim fun _ h => h.elim fun _ h => h.elim fun _ h => h.elim fun _ h => h.elim fun _ h => h.elim fun _ h => h.elim fun _ h => h.elim fun _ h => h.2.2.2.2.2.2.2.2.2
theorem z1c {h h' : Heap} {c P : Addr} (C : CodeHd h c P) (k : ∀ {o}, h.get? c = some o -> h'.get? c = some o) : CodeHd h' c P :=
 Exists.imp (fun _ => Exists.imp fun _ => Exists.imp fun _ => Exists.imp fun _ => Exists.imp fun _ => Exists.imp fun _ => Exists.imp fun _ => Exists.imp fun _ => Exists.imp fun _ => And.imp_left k) C
theorem znc (B : Base w mb s.heap) : ∃ mg, s.heap.Ns mainGlobals mg /\ (∀ P, P ∈ TT -> s.heap.BuiltinsAt mg P) := by
 have hN : s.heap.Ns mainGlobals (s.heap.nsMap mainGlobals) := .of_isNs (isNs_of_in B.k (mg_ns w))
 refine ⟨_, hN, fun P hP => ?_⟩
 have e1 := mg_of B.k hN (bm_in w)
 obtain ⟨ob, b1, b2, b3, b4⟩ := B.bo
 have hne : (4 : Addr) ≠ P := fun q => by subst q; revert hP; decide
 exact ⟨4, ob, e1, by decide, by decide, hne, b1, b2, b3, b4⟩
theorem zr3 {ps : Array Value} {mg : Str -> Option Value} {q0 : Str × Addr} {r0 : List (Str × Addr)} (hcl : closureFor scope env = pure (q0 :: r0)) (hge0 : env.globals = mainGlobals) (hg : s.heap.Ns mainGlobals mg) (hcode : env.code = .ref c) (C : CodeHd s.heap c P) (hP : s.heap.get? P = some (tabObj ps)) (ht : TriplesOk ps.toList)
  (hnf : codeAmong pos ps.toList = none) (hgP : mainGlobals ≠ P) (hb : s.heap.BuiltinsAt mg P)
  (h : ∀ c' ctv doc h' tk, Heap.ExtBut P s.heap h' -> s.heap.objs.size <= c' -> c' < h'.objs.size -> h'.CodeRec (.ref c') qual -> (∃ P', h'.TableAt c' P' #[]) -> h'.get? P = some (tabObj (ps ++ #[rawInt pos.line, rawInt pos.col, .ref c'])) ->
   Q (.ref h'.objs.size) { s with heap := h'.push (fnMade name qual params body scope (q0 :: r0) doc ((mg "__name__").getD .none) c' ctv), toks := tk }) :
  wpAny (model pg w) A (makeTail name qual params (.stmts body) scope env .none .none none pos firstLine) Q E s := by
 obtain ⟨bm, ob, hbm, hne0, _, hneP, hbo, hcls, hdict, hdata⟩ := hb
 unfold makeTail
 rw [hcl, hge0]
 refine wpAny_bind (wpAny_pure ?_)
 simp only [List.isEmpty_cons, Bool.false_eq_true, if_false]
 refine wpAny_bind (wpAny_newTextTuple ?_)
 refine wpAny_bind (wpAny_functionCodeX hcode ((C.keeps fun b o e => Heap.get?_push_of_some _ e).code (Heap.get?_push_of_some _ hP) ht) ((C.keeps fun b o e => Heap.get?_push_of_some _ e).tab (Heap.get?_push_of_some _ hP)) hnf fun c' h' tk hx hge hlt _ hrec htb hnew => ?_)
 have hg' := (hg.push _).extBut hx hgP
 have hx' : Heap.ExtBut P s.heap h' := fun b o hb' e => hx b o hb' (Heap.get?_push_of_some _ e)
 have hge' : s.heap.objs.size <= c' := Nat.le_trans (by rw [Heap.size_push]; lia) hge
 obtain ⟨P', _, _, hn2⟩ := hnew
 refine wpAny_bind (wpAny_builtinsFor hg' hbm hne0 (hx' _ _ hneP hbo) hcls hdict hdata ?_)
 refine wpAny_bind (wpAny_nsGet hg' ?_)
 cases hdoc : docOf body with
 | none => exact wpAny_bind (wpAny_pure (wpAny_newObj_type (h c' _ .none h' tk hx' hge' hlt hrec ⟨P', hn2⟩ htb.2) (by size_fits)))
 | some t => exact wpAny_bind (wpAny_mkText (wpAny_newObj_type (h c' _ _ h' _ hx' hge' hlt hrec ⟨P', hn2⟩ htb.2) (by size_fits)))
theorem zne {line col : Nat} {q0 : Str × Addr} {r0 : List (Str × Addr)} (B : Base w mb s.heap) (hT : zro s.heap c P line col qual) (hl : pos.line = line) (hc : pos.col = col) (hcl : closureFor scope env = pure (q0 :: r0)) (hge0 : env.globals = mainGlobals) (hcode : env.code = .ref c) (hP : P ∈ TT)
  (h : ∀ f c' ctv doc pm h' tk, (∀ b o, b ≠ P -> s.heap.get? b = some o -> h'.get? b = some o) -> s.heap.objs.size <= f -> h'.get? f = some (fnMade name qual params body scope (q0 :: r0) doc pm c' ctv) -> h'.CodeRec (.ref c') qual -> zro h' c P line col qual -> c' ∉ TT ->
   Q (.ref f) { s with heap := h', toks := tk }) :
  wpAny (model pg w) A (makeFunction name qual params (.stmts body) scope env [] [] [] pos firstLine) Q E s := by
 obtain ⟨mg, hg, hb⟩ := znc B
 obtain ⟨C, ps, e, hps⟩ := hT
 have hgP : mainGlobals ≠ P := fun q => by subst q; revert hP; decide
 have cP : c ≠ P := z1b C
 have headKeep : ∀ {h' : Heap}, (∀ b o, b ≠ P -> s.heap.get? b = some o -> h'.get? b = some o) -> CodeHd h' c P := fun {h'} k => z1c C (k _ _ cP)
 rcases hps with rfl | ⟨c', rfl, hc', o, vs, t, g1, g2, g3, g4⟩
 ·rw [makeFunction_eq]
  simp only [List.zip_nil_right, List.filterMap_nil, List.isEmpty_nil, if_true, pure_bind]
  refine zr3 hcl hge0 hg hcode C e trivial rfl hgP (hb P hP) fun c' ctv doc h' tk hx hge hlt hrec hn htb => ?_
  have k : ∀ b o, b ≠ P -> s.heap.get? b = some o -> (h'.push (fnMade name qual params body scope (q0 :: r0) doc ((mg "__name__").getD .none) c' ctv)).get? b = some o := fun b o hb' e' => Heap.get?_push_of_some _ (hx b o hb' e')
  have hPlt : P < s.heap.objs.size := Heap.lt_size e
  have hsz : s.heap.objs.size <= h'.objs.size := Nat.le_of_lt (Nat.lt_of_le_of_lt hge hlt)
  have hcTT : c' ∉ TT := zaq (Nat.lt_of_lt_of_le B.low hge)
  refine h h'.objs.size c' ctv doc _ _ tk k hsz (Heap.get?_push_size _ rfl) (hrec.push _) ?_ hcTT
  refine ⟨headKeep k, _, Heap.get?_push_of_some _ htb, .inr ⟨c', ?_, hcTT, ?_⟩⟩
  ·rw [hl, hc]; rfl
  ·obtain ⟨c2, o2, vs2, t2, q1, q2, q3, q4⟩ := hrec
   cases q1
   obtain ⟨P', ⟨o3, vs3, z1, z2, z3, z4⟩, z5⟩ := hn
   rw [q2] at z1; cases z1
   exact ⟨o2, vs2, t2, Heap.get?_push_of_some _ q2, z2, q3, q4⟩
 ·refine makeFunction_hit (mg := mg) (cv := .ref c') hcl hge0 hg hcode C e (by simp [TriplesOk, rawInt]) (by simp [codeAmong, rawInt, hl, hc]) (hb P hP) fun ctv doc h' tk hk hsz => ?_
  have k : ∀ b o, s.heap.get? b = some o -> (h'.push { cls := .type "function", data := .func (fnX name qual params body scope (q0 :: r0) .none .none doc ((mg "__name__").getD .none) none (.ref c') ctv) }).get? b = some o := fun b o e' => Heap.get?_push_of_some _ (hk b o e')
  refine h h'.objs.size c' ctv doc _ _ tk (fun b o _ => k b o) hsz (Heap.get?_push_size _ rfl) ⟨c', o, vs, t, rfl, k _ _ g1, g3, g4⟩ ?_ hc'
  exact ⟨headKeep fun b o _ => k b o, _, k _ _ e, .inr ⟨c', rfl, hc', o, vs, t, k _ _ g1, g2, g3, g4⟩⟩
end
end
section
section
variable {w : World} {mb : Str -> Option Value} {A : Around} {env : Env} {σ : List (Str × D)} {own : Option (Str × List D)} {X Y : List Addr} {s : Shared} {h h' : Heap}
theorem Sc.mut2 {x : Str} {a : Addr} {vs : List Value} {m : Nat} {ds : List D} (S : Sc env σ own X Y h) (B : Base w mb h') (V : zbl env h x (.ref a)) (v2 : 227 < a) (v3 : a ≠ env.locals) (w1 : a ∉ Y) (w2 : ∀ y c, env.cells.lookup y = some c -> c ≠ a) (w3 : a ∈ X)
  (hs : ∀ b o, b ∉ TT -> b ≠ a -> h.get? b = some o -> h'.get? b = some o) (hg : h'.get? a = some (zbz vs m)) (hr : RepA X h' vs ds) : Sc env σ (some (x, ds)) X Y h' := by
 have hL : ∀ b, b = env.locals -> b ∉ TT /\ b ≠ a := fun b hb => ⟨hb ▸ zaq S.eok.low, hb ▸ Ne.symm v3⟩
 have hC : ∀ y c, env.cells.lookup y = some c -> c ∉ TT /\ c ≠ a := fun y c e => ⟨zaq (S.eok.cells y c e).1, w2 y c e⟩
 have hV : ∀ {x : Str} {v : Value}, zbl env h x v -> zbl env h' x v := fun {x v} V => V.at' (fun o e => hs _ o (hL _ rfl).1 (hL _ rfl).2 e) fun y c o e1 e => hs c o (hC y c e1).1 (hC y c e1).2 e
 have rep : ∀ {v : Value} {d : D}, Rep X h v d -> Rep X h' v d := fun r => r.mono fun b o hb e => hs b o (fun q => hb (S.ttX b q)) (fun q => hb (q ▸ w3)) e
 exact {
  eok := S.eok
  ns := let ⟨m, n⟩ := S.ns; ⟨m, n.at' fun o e => hs _ o (hL _ rfl).1 (hL _ rfl).2 e⟩
  cel := fun x e => let ⟨c, v, e1, o, e2, e3⟩ := S.cel x e; ⟨c, v, e1, o, hs c o (hC x c e1).1 (hC x c e1).2 e2, e3⟩
  vars := fun x d e => let ⟨v, v1, v2⟩ := S.vars x d e; ⟨v, hV v1, rep v2⟩
  own := fun y l e => by cases e; exact ⟨a, vs, m, hV V, v2, v3, w1, w2, w3, hg, hr⟩
  live := fun b hb => by
   by_cases h1 : b = a
   ·exact ⟨_, h1 ▸ hg⟩
   ·by_cases h2 : b ∈ TT
    ·rcases List.mem_cons.mp h2 with rfl | h2
     ·obtain ⟨_, ps, e, _⟩ := B.t2; exact ⟨_, e⟩
     ·rcases List.mem_cons.mp h2 with rfl | h2
      ·obtain ⟨_, ps, e, _⟩ := B.t1; exact ⟨_, e⟩
      ·cases h2
    ·obtain ⟨o, e⟩ := S.live b hb; exact ⟨o, hs b o h2 h1 e⟩
  locX := S.locX
  celX := S.celX
  ttX := S.ttX
  subY := S.subY
  ttY := S.ttY
  locY := S.locY
  celY := S.celY }
inductive DefP (w : World) (mb : Str -> Option Value) (env : Env) (σ : List (Str × D)) (own : Option (Str × List D)) (X Y : List Addr) (s : Shared) (qual : Str) (params : Arguments) (body : List PySem.Stmt) (scope : Scope) (cl : List (Str × Addr)) (fl : Flow) (s' : Shared) : Prop
 | mk (f c' : Addr) (doc pm ctv : Value) (h' : Heap) (tk : Nat) (e : fl = .next) (e2 : s' = { s with heap := h', toks := tk }) (B : Base w mb h') (k : Chs X Y s.heap h') (S : Sc env (("inner", .any (.ref f)) :: σ) own X Y h') (n : s.heap.get? f = none) (lo : 227 < f)
  (g : h'.get? f = some (fnMade "inner" qual params body scope cl doc pm c' ctv)) (r : h'.CodeRec (.ref c') qual) (t : c' ∉ TT)
theorem zmc {c P : Addr} {line col : Nat} {qual : Str} {params : Arguments} {body : List PySem.Stmt} {scope : Scope} {pos : Pos} (S : Sc env σ own X Y s.heap) (B : Base w mb s.heap) (hT : zro s.heap c P line col qual) (hcode : env.code = .ref c)
  (ht : (c = 124 /\ P = 120 /\ line = 90 /\ col = 4 /\ qual = "_int2digits.<locals>.inner") ∨ (c = 131 /\ P = 127 /\ line = 105 /\ col = 4 /\ qual = "_digits2int.<locals>.inner"))
  (hl : pos.line = line) (hc : pos.col = col) (hq : qualnameIn env "inner" "inner" = qual) (hd0 : params.defaults = []) (hk0 : params.kw_defaults = []) (ha : annTrees params none env = [])
  (hfree : ∀ p ∈ scope.names, p.2 = .free -> env.kindOf p.1 = some .cell) {q0 : Str × Addr} {r0 : List (Str × Addr)} (hclo : clo env.cells scope.names [] = q0 :: r0) (hk : env.kindOf "inner" = some .cell) (ho : ∀ ds : List D, own ≠ some (("inner" : Str), ds)) :
  wpAny (model pg w) A (exec (.FunctionDef "inner" params body [] none [] scope none "inner" pos) env) (DefP w mb env σ own X Y s qual params body scope (q0 :: r0)) (fun _ _ => False) s := by
 have hP : P ∈ TT := by rcases ht with h | h <;> (rw [h.2.1]; decide)
 have hclo' : closureFor scope env = pure (q0 :: r0) := by
  rw [zef fun p hp hf => let ⟨c, v, e, _⟩ := S.cel p.1 (hfree p hp hf); ⟨c, e⟩, hclo]
 refine nestDef_K hd0 hk0 ha ?_
 rw [hq]
 refine zne B hT hl hc hclo' S.eok.glob hcode hP fun f c' ctv doc pm h1 tk1 k1 hf g1 hrec hT1 hc' => ?_
 have ne : ∀ a : Addr, 227 < a -> a ≠ P := fun a h e => zaq h (e ▸ hP)
 have ne2 : ∀ a : Addr, a ∉ TT -> a ≠ P := fun a h e => h (e ▸ hP)
 have tkeep : ∀ {c2 P2 : Addr} {l r : Nat} {q : Str}, c2 ≠ P -> P2 ≠ P -> zro s.heap c2 P2 l r q -> zro h1 c2 P2 l r q := fun a b x => x.keepsD (a := P) k1 a b fun o vs e1 e2 => by
  obtain ⟨_, ps, e, _⟩ := hT
  rw [e] at e1; cases e1
  intro q; cases q
 have B1 : Base w mb h1 := {
  k := fun b o e => k1 b o (ne2 _ (KK_tt e)) (B.k b o e)
  b := B.b.at' fun o e => k1 _ o (ne2 _ (by decide)) e
  mb := B.mb
  lim := let ⟨mc, c1, c2⟩ := B.lim; ⟨mc, c1.at' fun o e => k1 _ o (ne2 _ (by decide)) e, c2⟩
  bo := B.bo.at' fun o e => k1 _ o (ne2 _ (by decide)) e
  t1 := by
   rcases ht with ⟨rfl, rfl, rfl, rfl, rfl⟩ | ⟨rfl, rfl, _⟩
   ·exact hT1
   ·exact tkeep (by decide) (by decide) B.t1
  t2 := by
   rcases ht with ⟨rfl, rfl, _⟩ | ⟨rfl, rfl, rfl, rfl, rfl⟩
   ·exact tkeep (by decide) (by decide) B.t2
   ·exact hT1 }
 have kp : Kp env.locals s.heap h1 := zkm S.eok.low fun b o hb e => k1 b o (ne2 b hb) e
 have S1 := S.kp kp B1
 have hfl : 227 < f := Nat.lt_of_lt_of_le B.low hf
 obtain ⟨ci, vi, hci, ocell, gc, dc⟩ := S1.cel "inner" hk
 have ciX : ci ∈ X := S.celX _ _ hci
 have ciY : ci ∉ Y := S.celY _ _ hk hci
 refine (S1.store (s := { s with heap := h1, toks := tk1 }) (W := [ci]) B1 (.inr hk) (d := .any (.ref f)) (.any rfl) ho ⟨fun e => (by rw [hk] at e; cases e), fun _ c e => by rw [hci] at e; cases e; exact .head _⟩ (fun a ha => by rw [List.mem_singleton.mp ha]; exact ciX)).use fun _ h2 tk2 ch2 B2 S2 => ?_
 have other : ∀ b o, b ≠ ci -> h1.get? b = some o -> h2.get? b = some o := fun b o hb e => ch2 b o (by simpa using hb) e
 have fX : f ≠ ci := fun q => by obtain ⟨o, e⟩ := S.live ci ciX; rw [<- q] at e; exact absurd (Heap.lt_size e) (Nat.not_lt.mpr hf)
 have g2 := other f _ fX g1
 have hrec2 : h2.CodeRec (.ref c') qual := by
  obtain ⟨c3, o3, vs3, t3, q1, q2, q3, q4⟩ := hrec
  cases q1
  refine ⟨c', o3, vs3, t3, rfl, other _ _ (fun q => ?_) q2, q3, q4⟩
  rw [q, gc] at q2
  cases q2
  rw [q3] at dc
  cases dc
 refine ⟨f, c', doc, pm, ctv, h2, tk2, rfl, rfl, B2, (kp.chs S).trans (N := []) (fun b o h1 h2 e => other b o (fun q => h2.elim (fun h => h (q ▸ ciX)) fun h => ciY (q ▸ h)) e) (fun _ h => by cases h), S2, zam hf, hfl, g2, hrec2, hc'⟩
end
end
section
structure Clo (h : Heap) (cl : List (Str × Addr)) (scope : Scope) : Prop where
 low : ∀ x c, cl.lookup x = some c -> 227 < c
 apart : ∀ x y c, cl.lookup x = some c -> cl.lookup y = some c -> x = y
 nocell : ∀ p ∈ scope.names, p.2 ≠ .cell
 kind : scope.kind = .function
 live : ∀ x c, cl.lookup x = some c -> ∃ o, h.get? c = some o
inductive FnIn (h : Heap) (f : Addr) (qual : Str) (prm : Arguments) (bd : List PySem.Stmt) (sc : Scope) (cl : List (Str × Addr)) : Prop
 | mk (c' : Addr) (doc pm ctv : Value) (g : h.get? f = some (fnMade "inner" qual prm bd sc cl doc pm c' ctv)) (r : h.CodeRec (.ref c') qual) (t : c' ∉ TT)
theorem FnIn.at' {h h' : Heap} {f L : Addr} {qual : Str} {prm : Arguments} {bd : List PySem.Stmt} {sc : Scope} {cl : List (Str × Addr)} (I : FnIn h f qual prm bd sc cl) (hf : 227 < f) (hL : ∀ o, h.get? L = some o -> (∀ fd, o.data ≠ .func fd) /\ ∀ vs, o.data ≠ .fields vs)
  (k : ∀ b o, b ≠ L -> b ∉ TT -> h.get? b = some o -> h'.get? b = some o) : FnIn h' f qual prm bd sc cl := by
 obtain ⟨c', doc, pm, ctv, g, r, t⟩ := I
 exact ⟨c', doc, pm, ctv, k _ _ (fun q => (hL _ (q ▸ g)).1 _ rfl) (zaq hf) g, r.elim fun c2 r => r.elim fun o2 r => r.elim fun vs r => r.elim fun tk r => ⟨c2, o2, vs, tk, r.1, k _ _ (fun q => (hL _ (q ▸ r.2.1)).2 _ r.2.2.1) (Value.ref.inj r.1 ▸ t) r.2.1, r.2.2⟩, t⟩
theorem zhl {h h' : Heap} {c : Addr} {v : Option Value} (x : h.IsCell c v) (k : ∀ o, h.get? c = some o -> h'.get? c = some o) : h'.IsCell c v := x.imp fun o e => ⟨k o e.1, e.2⟩
theorem z02 {α : Type} {x y : Str} {v d : α} {l : List (Str × α)} {P : Prop} (e : ((y, v) :: l).lookup x = some d) (h1 : x = y -> v = d -> P) (h2 : l.lookup x = some d -> P) : P := by
 rw [List.lookup_cons] at e
 cases hb : x == y with
 | true => rw [hb] at e; exact h1 (beq_iff_eq.mp hb) (Option.some.inj e)
 | false => rw [hb] at e; exact h2 e
theorem zm2 {vs : List Value} {x : Str} {v : Value} : ∀ {ps : List Str} {vs : List Value}, ps.Nodup -> vs.length = ps.length -> (x, v) ∈ ps.zip vs -> (ps.zip vs).reverse.lookup x = some v := by
 intro ps vs hn hl hm
 have key : ∀ {l : List (Str × Value)}, (l.map (·.1)).Nodup -> (x, v) ∈ l -> l.lookup x = some v := by
  intro l
  induction l with
  | nil => intro _ h; cases h
  | cons p r ih =>
   obtain ⟨y, u⟩ := p
   intro hn h
   rw [List.map_cons, List.nodup_cons] at hn
   rw [List.lookup_cons]
   rcases List.mem_cons.mp h with e | h
   ·cases e; simp
   ·have : (x == y) = false := by
     rw [beq_eq_false_iff_ne]
     intro e
     have h2 : x ∈ r.map (·.1) := List.mem_map_of_mem (f := (·.1)) h
     exact hn.1 (e ▸ h2)
    rw [this]; exact ih hn.2 h
 refine key ?_ (List.mem_reverse.mpr hm)
 rw [List.map_reverse, zc4 hl]
 exact List.pairwise_reverse.mpr (hn.imp fun h => Ne.symm h)
section
variable {w : World} {mb : Str -> Option Value} {K : Nat} {A : Around} {s : Shared} {X Y : List Addr} {f c' : Addr} {name qual : Str} {params : Arguments} {body : List PySem.Stmt} {scope : Scope} {cl : List (Str × Addr)} {doc pm ctv : Value} {vs : List Value} {args : List D} {ps : List Str}
theorem zjn {σc : List (Str × D)} {own : Option (Str × List D)} {R : Result -> Shared -> Prop} (hf : s.heap.get? f = some (fnMade name qual params body scope cl doc pm c' ctv)) (hrec : s.heap.CodeRec (.ref c') qual) (B : Base w mb s.heap) (hA : Rm A (K + 1)) (C : Clo s.heap cl scope)
  (hbind : bindArgs (fnX name qual params body scope cl .none .none doc pm none (.ref c') ctv) ⟨vs, []⟩ = pure (ps.zip vs)) (hps : ∀ x ∈ ps, scope.names.lookup x = some .local) (hnd : ps.Nodup) (hl : args.length = ps.length) (ra : RepA X s.heap vs args)
  (hX : ∀ a ∈ X, ∃ o, s.heap.get? a = some o) (hTX : ∀ a ∈ TT, a ∈ X) (hTY : ∀ a ∈ TT, a ∈ Y) (hYX : ∀ a ∈ Y, a ∈ X) (hcX : ∀ x c, cl.lookup x = some c -> c ∈ X)
  (hσ : ∀ x d, σc.lookup x = some d -> ∃ c v, cl.lookup x = some c /\ scope.names.lookup x = some .free /\ s.heap.IsCell c (some v) /\ Rep X s.heap v d)
  (hown : ∀ x ds, own = some (x, ds) -> ∃ c a vs n, cl.lookup x = some c /\ scope.names.lookup x = some .free /\ s.heap.IsCell c (some (.ref a)) /\ 227 < a /\ a ∉ Y /\ a ∈ X /\ (∀ y c, cl.lookup y = some c -> c ≠ a) /\ s.heap.get? a = some (zbz vs n) /\ RepA X s.heap vs ds)
  (hco : scope.isCoroutine = false) (hgen : scope.isGenerator = false)
  (q : ∀ (A' : Around) (env : Env) (h1 : Heap) (tk1 : Nat), Rm A' K -> env.kindOf = (fun x => scope.names.lookup x) -> env.locals = s.heap.objs.size -> env.cells = cl -> Sc env (ps.zip args ++ σc) own (s.heap.objs.size :: X) Y h1 -> Base w mb h1 -> (∀ b o, s.heap.get? b = some o -> h1.get? b = some o) ->
   wpAny (model pg w) A' (execs body env) (fun fl s' => match fl with | .ret v => R (.ok (.ret v)) s' | .next => R (.ok (.ret .none)) s' | _ => False) (fun _ _ => False) { s with heap := h1, toks := tk1 }) :
  codeAny (model pg w) A (.call (.ref f) ⟨vs, []⟩) R s := by
 have hvl : vs.length = ps.length := by rw [ra.length, hl]
 have hkind := C.kind
 refine codeAny_call_def (fd := fnX name qual params body scope cl .none .none doc pm none (.ref c') ctv) (body := body) (binds := ps.zip vs) (by have := hA.d; lia) hf rfl B.lim hrec rfl (.of_eq hbind) C.nocell (fun x hx => hps _ (by rw [<- zc4 hvl]; exact List.mem_map_of_mem hx)) (fun h1 hns hk1 => ?_) hco hgen hkind
 generalize henv : callEnv (fnX name qual params body scope cl .none .none doc pm none (.ref c') ctv) s.heap.objs.size f = env
 have eL : env.locals = s.heap.objs.size := by rw [<- henv]; rfl
 have eC : env.cells = cl := by rw [<- henv]; rfl
 have eK : env.kindOf = fun x => scope.names.lookup x := by rw [<- henv]; rfl
 have hLn : s.heap.get? s.heap.objs.size = none := zam (Nat.le_refl _)
 have lowL := B.low
 have B1 : Base w mb h1 := B.keeps hk1
 have hLX : s.heap.objs.size ∉ X := zby hX (Nat.le_refl _)
 have rep : ∀ {v : Value} {d : D}, Rep X s.heap v d -> Rep (s.heap.objs.size :: X) h1 v d := fun r => (r.sub fun b o hb e => (List.mem_cons.mp hb).elim (fun q => by rw [q, hLn] at e; cases e) id).mono fun b o _ e => hk1 b o e
 have repA : ∀ {v : List Value} {d : List D}, RepA X s.heap v d -> RepA (s.heap.objs.size :: X) h1 v d := fun r => (r.sub fun b o hb e => (List.mem_cons.mp hb).elim (fun q => by rw [q, hLn] at e; cases e) id).mono fun b o _ e => hk1 b o e
 have S : Sc env (ps.zip args ++ σc) own (s.heap.objs.size :: X) Y h1 := {
  eok := {
   kind := by rw [<- henv]; exact hkind
   glob := by rw [<- henv]; rfl
   blt := by rw [<- henv]; rfl
   low := by rw [eL]; exact lowL
   cells := fun x c e => by rw [eC] at e; exact ⟨C.low x c e, fun q => by obtain ⟨o, eo⟩ := C.live x c e; rw [q, eL, hLn] at eo; cases eo⟩
   apart := fun x y c e1 e2 => by rw [eC] at e1 e2; exact C.apart x y c e1 e2 }
  ns := ⟨_, by rw [eL]; exact hns⟩
  cel := fun x e => by rw [eK] at e; exact absurd rfl (C.nocell _ (mem_of_lookup e))
  vars := fun x d e => by
   cases h1' : (ps.zip args).lookup x with
   | some d' =>
    have e' : (ps.zip args ++ σc).lookup x = some d' := by rw [List.lookup_append, h1']; rfl
    rw [e'] at e; cases e
    obtain ⟨v, hv, rv⟩ := zhq ra h1'
    have hx' : x ∈ ps := by rw [<- zc4 hvl]; exact List.mem_map_of_mem hv
    exact ⟨v, .inl ⟨by rw [eK]; exact hps x hx', _, by rw [eL]; exact hns, zm2 (vs := vs) hnd hvl hv⟩, rep rv⟩
   | none =>
    have e' : σc.lookup x = some d := by rw [List.lookup_append, h1'] at e; exact e
    obtain ⟨c, v, a1, a2, a3, a4⟩ := hσ x d e'
    exact ⟨v, .inr ⟨.inr (by rw [eK]; exact a2), c, by rw [eC]; exact a1, a3.keeps hk1⟩, rep a4⟩
  own := fun x ds e => by
   obtain ⟨c, a, vs', n', a1, a2, a3, a4, a5, a6, a7, a8, a9⟩ := hown x ds e
   exact ⟨a, vs', n', .inr ⟨.inr (by rw [eK]; exact a2), c, by rw [eC]; exact a1, a3.keeps hk1⟩, a4, fun q => (by rw [q, eL, hLn] at a8; cases a8), a5, fun y c e => by rw [eC] at e; exact a7 y c e, .tail _ a6, hk1 _ _ a8, repA a9⟩
  live := fun b hb => by
   rcases List.mem_cons.mp hb with rfl | hb
   ·obtain ⟨o, _, _, e, _⟩ := hns; exact ⟨o, e⟩
   ·obtain ⟨o, e⟩ := hX b hb; exact ⟨o, hk1 b o e⟩
  locX := by rw [eL]; exact .head _
  celX := fun x c e => by rw [eC] at e; exact .tail _ (hcX x c e)
  ttX := fun b hb => .tail _ (hTX b hb)
  subY := fun b hb => .tail _ (hYX b hb)
  ttY := hTY
  locY := by rw [eL]; exact fun q => hLX (hYX _ q)
  celY := fun x c e _ => by rw [eK] at e; exact absurd rfl (C.nocell _ (mem_of_lookup e)) }
 have hA' : Rm (A.deeper env) K := ⟨hA.hh, by have := hA.d; show A.depth + 1 + K < _; lia, by have := hA.u; show A.units + 3 + _ + _ < _; lia⟩
 refine wpAny_mono (q (A.deeper env) env h1 _ hA' eK eL eC S B1 hk1) (fun fl s2 x => ?_) (fun _ _ e => e.elim)
 cases fl <;> first | exact x | exact x.elim
end
end
section
theorem zai {O : Orc} {mv : List Str} {kf : Kf} {n : Nat} {c c' : St} {x : Str} {p q : Pos} {e : PySem.Expr} {r : D × Kd} (h : zaa O (n + 1) ⟨kf, c.σ, c.own⟩ e = some r) (hs : zsb mv kf c x r = some c') : zae O mv kf (n + 1) c (.Assign [.Name x p] e q) = some (c', .next) := by
 show (match zaa O (n + 1) ⟨kf, c.σ, c.own⟩ e with | some r => (zsb mv kf c x r).map (·, Fl.next) | none => none) = _
 rw [h]; dsimp only; rw [hs]; rfl
theorem zdn {w : World} {mb : Str -> Option Value} {A : Around} {env : Env} {σ : List (Str × D)} {own : Option (Str × List D)} {X Y : List Addr} {s : Shared} {O : Orc} {K n : Nat} (H : Hyps w mb K O) (hA : Rm A K) (S : Sc env σ own X Y s.heap) (B : Base w mb s.heap) {x : Str} {p q : Pos} {f : Addr} {es : List PySem.Expr} {l : List (D × Kd)} {o : Obj} {fd : FuncData}
  {Q : Value -> Shared -> Prop} (hx : σ.lookup x = some (D.any (.ref f))) (hn : zax x = true) (hm : zb5 (zaa O n ⟨env.kindOf, σ, own⟩) es = some l) (hfz : zag l = true) (hfl : 227 < f /\ f ≠ env.locals) (ho : s.heap.get? f = some o) (hd : o.data = .func fd)
  (h : ∀ h1 tk1 vs, Kp env.locals s.heap h1 -> Base w mb h1 -> RepA X h1 vs (l.map (·.1)) -> wpAny (model pg w) A (call (.ref f) vs []) Q (fun _ _ => False) { s with heap := h1, toks := tk1 }) :
  wpAny (model pg w) A (eval (.Call (.Name x p) es [] q) env) Q (fun _ _ => False) s := by
 obtain ⟨v, v1, v2⟩ := S.vars x _ hx
 ·obtain ⟨rfl, _⟩ := v2.inv
  obtain ⟨n1, n2⟩ := zb4 hn
  refine wpAny_Call_Name_kw ?_
  refine (Tot.name (L := env.locals) (s := s) (Q := fun z h => z = .ref f /\ h = s.heap) S.eok B v1 n1 n2 ⟨rfl, rfl⟩).use fun z h2 tk2 k2 b2 e => ?_
  obtain ⟨rfl, rfl⟩ := e
  refine callWith_function (o := o) (fd := fd) (zas (zbk hm) ((zci (zao H n).1 hA (s := { s with heap := s.heap, toks := tk2 }) S B hm).use fun vs h3 tk3 k3 b3 ra => ?_))
  exact ⟨⟨k3.1 _ _ hfl.2 (zaq hfl.1) ho, hd⟩, h h3 tk3 vs k3 b3 (ra.rep (zcp hfz))⟩
noncomputable def i2d1 (w : World) : PySem.Stmt := (zay w 125).getD 0 (.Pass default)
noncomputable def zy9 (w : World) (a i : Nat) : Arguments × List PySem.Stmt × Scope := match (zay w a).getD i (.Pass default) with
 | .FunctionDef _ p b _ _ _ sc _ _ _ => (p, b, sc)
 | _ => (⟨[], [], none, [], [], none, []⟩, [], ⟨.function, [], false, false, []⟩)
noncomputable abbrev zy6 (w : World) := (zy9 w 125 1).1
noncomputable abbrev ibd (w : World) := (zy9 w 125 1).2.1
noncomputable abbrev isc (w : World) := (zy9 w 125 1).2.2
theorem b125 (w : World) : ∃ (pp : Nat -> Pos), zay w 125 = [i2d1 w, .FunctionDef "inner" (zy6 w) (ibd w) [] none [] (isc w) none "inner" (pp 0),
  .If (.Name "a" (pp 1)) [.Expr (.Call (.Name "inner" (pp 3)) [.Name "a" (pp 4), .Constant (.int 0) 0 (pp 5), .Call (.Name "len" (pp 6)) [.Name "a_digits" (pp 7)] [] (pp 8)] [] (pp 9)) (pp 10)] [] (pp 2), .Return (some (.Name "a_digits" (pp 11))) (pp 12)] /\ (pp 0).line = 90 /\ (pp 0).col = 4 :=
 ⟨fun i => [_, _, _, _, _, _, _, _, _, _, _, _, _].getD i default, rfl, rfl, rfl⟩
noncomputable def ibs (w : World) (i : Nat) : PySem.Stmt := (ibd w).getD i (.Pass default)
noncomputable def ibt (w : World) : PySem.Expr := match ibs w 0 with
 | .If t _ _ _ => t
 | _ => .Constant .none 0 default
theorem bibd (w : World) : ∃ (pp : Nat -> Pos), ibd w = [.If (ibt w) [.Assign [.Subscript (.Name "a_digits" (pp 0)) (.Name "L" (pp 1)) (pp 2)] (.Name "x" (pp 3)) (pp 4), .Return none (pp 5)] [] (pp 6), ibs w 1, ibs w 2, ibs w 3, ibs w 4,
  .Expr (.Call (.Name "inner" (pp 7)) [.Name "lower" (pp 8), .Name "L" (pp 9), .Name "mid" (pp 10)] [] (pp 11)) (pp 12), .Expr (.Call (.Name "inner" (pp 13)) [.Name "upper" (pp 14), .Name "mid" (pp 15), .Name "R" (pp 16)] [] (pp 17)) (pp 18)] :=
 ⟨fun i => [_, _, _, _, _, _, _, _, _, _, _, _, _, _, _, _, _, _, _].getD i default, rfl⟩
theorem ibs2 (w : World) : ∃ (pp : Nat -> Pos), ibs w 2 = .Assign [.Name "shift" (pp 0)] (.BinOp (.BinOp (.Name "mid" (pp 1)) .Sub (.Name "L" (pp 2)) (pp 3)) .Mult (.Name "n" (pp 4)) (pp 5)) (pp 6) := ⟨fun i => [_, _, _, _, _, _, _].getD i default, rfl⟩
theorem ibs3 (w : World) : ∃ (pp : Nat -> Pos), ibs w 3 = .Assign [.Name "upper" (pp 0)] (.BinOp (.Name "x" (pp 1)) .RShift (.Name "shift" (pp 2)) (pp 3)) (pp 4) := ⟨fun i => [_, _, _, _, _].getD i default, rfl⟩
theorem ibs4 (w : World) : ∃ (pp : Nat -> Pos), ibs w 4 = .Assign [.Name "lower" (pp 0)] (.BinOp (.Name "x" (pp 1)) .BitXor (.BinOp (.Name "upper" (pp 2)) .LShift (.Name "shift" (pp 3)) (pp 4)) (pp 5)) (pp 6) := ⟨fun i => [_, _, _, _, _, _, _].getD i default, rfl⟩
noncomputable abbrev kfi (w : World) : Kf := fun x => (isc w).names.lookup x
noncomputable abbrev cm (f : Addr) (x L R n M : Int) : List (Str × D) := [("x", .int x), ("L", .int L), ("R", .int R), ("n", .int n), ("inner", .any (.ref f)), ("mid", .int M)]
noncomputable abbrev cs_ (f : Addr) (x L R n M S : Int) : List (Str × D) := [("x", .int x), ("L", .int L), ("R", .int R), ("n", .int n), ("inner", .any (.ref f)), ("mid", .int M), ("shift", .int S)]
noncomputable abbrev cu (f : Addr) (x L R n M S U : Int) : List (Str × D) := [("x", .int x), ("L", .int L), ("R", .int R), ("n", .int n), ("inner", .any (.ref f)), ("mid", .int M), ("shift", .int S), ("upper", .int U)]
noncomputable abbrev cl_ (f : Addr) (x L R n M S U W : Int) : List (Str × D) := [("x", .int x), ("L", .int L), ("R", .int R), ("n", .int n), ("inner", .any (.ref f)), ("mid", .int M), ("shift", .int S), ("upper", .int U), ("lower", .int W)]
noncomputable abbrev ca (f : Addr) (x L R n : Int) : List (Str × D) := [("x", .int x), ("L", .int L), ("R", .int R), ("n", .int n), ("inner", .any (.ref f))]
noncomputable abbrev zgt (ds : List Int) : Option (Str × List D) := some ("a_digits", ds.map .int)
variable {w : World} {f : Addr} {x L R n M S U V : Int} {ds : List Int}
theorem zwy : zaa O0 12 ⟨kfi w, ca f x L R n, zgt ds⟩ (ibt w) = some (.bool (L + 1 == R), .froz) := by kernel_rfl
theorem z08 : zae O0 [] (kfi w) 12 ⟨ca f x L R n, zgt ds⟩ (ibs w 1) = some (⟨cm f x L R n ((L + R).fdiv 2), zgt ds⟩, .next) := by kernel_rfl
theorem zs3 (h : Builtin.Int.intBits (M - L) <= 64) : zae O0 [] (kfi w) 12 ⟨cm f x L R n M, zgt ds⟩ (ibs w 2) = some (⟨cs_ f x L R n M ((M - L) * n), zgt ds⟩, .next) := by
 obtain ⟨pp, e⟩ := ibs2 w
 rw [e]
 refine zai (r := (.int ((M - L) * n), .froz)) (za3 (a := .int (M - L)) (b := .int n) (k1 := .froz) (k2 := .froz) (by kernel_rfl) (by kernel_rfl) ?_) (by kernel_rfl)
 show (if Builtin.Int.intBits (M - L) <= 64 then some (D.int ((M - L) * n)) else none).map (·, Kd.froz) = _
 rw [if_pos h]; rfl
theorem zs2 (h : 0 <= S) : zae O0 [] (kfi w) 12 ⟨cs_ f x L R n M S, zgt ds⟩ (ibs w 3) = some (⟨cu f x L R n M S (x.fdiv (2 ^ S.toNat)), zgt ds⟩, .next) := by
 obtain ⟨pp, e⟩ := ibs3 w
 rw [e]
 refine zai (r := (.int (x.fdiv (2 ^ S.toNat)), .froz)) (za3 (a := .int x) (b := .int S) (k1 := .froz) (k2 := .froz) (by kernel_rfl) (by kernel_rfl) ?_) (by kernel_rfl)
 show (if 0 <= S then some (D.int (x.fdiv (2 ^ S.toNat))) else none).map (·, Kd.froz) = _
 rw [if_pos h]; rfl
theorem zs4 (h : 0 <= S /\ (Builtin.Int.intBits U : Int) + S <= 2 ^ 27) : zae O0 [] (kfi w) 12 ⟨cu f x L R n M S U, zgt ds⟩ (ibs w 4) = some (⟨cl_ f x L R n M S U (Builtin.bitXor x (U * 2 ^ S.toNat)), zgt ds⟩, .next) := by
 obtain ⟨pp, e⟩ := ibs4 w
 rw [e]
 refine zai (r := (.int (Builtin.bitXor x (U * 2 ^ S.toNat)), .froz)) (za3 (a := .int x) (b := .int (U * 2 ^ S.toNat)) (k1 := .froz) (k2 := .froz) (by kernel_rfl) (za3 (a := .int U) (b := .int S) (k1 := .froz) (k2 := .froz) (by kernel_rfl) (by kernel_rfl) ?_) rfl) (by kernel_rfl)
 show (if 0 <= S /\ (Builtin.Int.intBits U : Int) + S <= 2 ^ 27 then some (D.int (U * 2 ^ S.toNat)) else none).map (·, Kd.froz) = _
 rw [if_pos h]; rfl
end
theorem zys (a k : Nat) : a &&& (a / 2 ^ k * 2 ^ k) = a / 2 ^ k * 2 ^ k := by
 rw [<- Nat.shiftRight_eq_div_pow, <- Nat.shiftLeft_eq]
 apply Nat.eq_of_testBit_eq
 intro i
 simp only [Nat.testBit_and, Nat.testBit_shiftLeft, Nat.testBit_shiftRight]
 by_cases h : k <= i
 ·have : k + (i - k) = i := by lia
  simp [h, this]
 ·simp [h]
theorem z0d (a k : Nat) : a ||| (a / 2 ^ k * 2 ^ k) = a := by
 rw [<- Nat.shiftRight_eq_div_pow, <- Nat.shiftLeft_eq]
 apply Nat.eq_of_testBit_eq
 intro i
 simp only [Nat.testBit_or, Nat.testBit_shiftLeft, Nat.testBit_shiftRight]
 by_cases h : k <= i
 ·have : k + (i - k) = i := by lia
  simp [h, this]
 ·simp [h]
theorem zn0 (a b : Nat) : Builtin.bitAnd (a : Int) (b : Int) = ((a &&& b : Nat) : Int) := by
 unfold Builtin.bitAnd
 simp
theorem zev (a : Nat) : Builtin.bitNot (Builtin.bitNot (a : Int)) = a := by unfold Builtin.bitNot; lia
theorem zri (a b : Nat) : Builtin.bitOr (a : Int) (b : Int) = ((a ||| b : Nat) : Int) := by
 have h1 : decide (0 <= Builtin.bitNot (a : Int)) = false := by unfold Builtin.bitNot; rw [decide_eq_false_iff_not]; lia
 have h2 : decide (0 <= Builtin.bitNot (b : Int)) = false := by unfold Builtin.bitNot; rw [decide_eq_false_iff_not]; lia
 have e : Builtin.bitAnd (Builtin.bitNot (a : Int)) (Builtin.bitNot (b : Int)) = Builtin.bitNot (((Builtin.bitNot (Builtin.bitNot (a : Int))).toNat ||| (Builtin.bitNot (Builtin.bitNot (b : Int))).toNat : Nat)) := by
  conv => lhs; unfold Builtin.bitAnd
  rw [h1, h2]
 unfold Builtin.bitOr
 rw [e, zev, zev, zev]
 simp
theorem zn7 {x : Int} (h : 0 <= x) (k : Nat) : Builtin.bitXor x (x.fdiv (2 ^ k) * 2 ^ k) = x % 2 ^ k := by
 obtain ⟨a, rfl⟩ := Int.eq_ofNat_of_zero_le h
 have e1 : (a : Int).fdiv (2 ^ k) * 2 ^ k = ((a / 2 ^ k * 2 ^ k : Nat) : Int) := by
  rw [Int.fdiv_eq_ediv_of_nonneg _ (by exact_mod_cast Nat.zero_le (2 ^ k))]
  push_cast
  rfl
 rw [e1]
 unfold Builtin.bitXor
 rw [zri, zn0, z0d, zys]
 have := Nat.div_add_mod a (2 ^ k)
 have h2 : a / 2 ^ k * 2 ^ k = 2 ^ k * (a / 2 ^ k) := Nat.mul_comm _ _
 have : ((a % 2 ^ k : Nat) : Int) = (a : Int) - ((a / 2 ^ k * 2 ^ k : Nat) : Int) := by lia
 rw [<- this]
 push_cast
 rfl
section
noncomputable def zjx (n : Int) : Nat -> Int -> Int -> Int -> List Int -> List Int
 | 0, _, _, _, ds => ds
 | m + 1, x, L, R, ds => if L + 1 = R then ds.set L.toNat x else
  zjx n m (x.fdiv (2 ^ ((((L + R).fdiv 2) - L) * n).toNat)) ((L + R).fdiv 2) R
   (zjx n m (Builtin.bitXor x ((x.fdiv (2 ^ ((((L + R).fdiv 2) - L) * n).toNat)) * 2 ^ ((((L + R).fdiv 2) - L) * n).toNat)) L ((L + R).fdiv 2) ds)
theorem zcg (n : Int) : ∀ (m : Nat) (x L R : Int) (ds : List Int), (zjx n m x L R ds).length = ds.length
 | 0, _, _, _, _ => rfl
 | m + 1, x, L, R, ds => by
  unfold zjx
  split
  ·exact List.length_set
  ·rw [zcg n m, zcg n m]
noncomputable abbrev iQ : Str := "_int2digits.<locals>.inner"
structure Inn (w : World) (h : Heap) (f aD : Addr) (n : Int) (cl : List (Str × Addr)) : Prop where
 fn : FnIn h f iQ (zy6 w) (ibd w) (isc w) cl
 C : Clo h cl (isc w)
 nn : ∃ c t, cl.lookup ("n" : Str) = some c /\ h.IsCell c (some (.int n t))
 ii : ∃ c, cl.lookup ("inner" : Str) = some c /\ h.IsCell c (some (.ref f))
 aa : ∃ c, cl.lookup ("a_digits" : Str) = some c /\ h.IsCell c (some (.ref aD))
 lowf : 227 < f
 lowa : 227 < aD
 ne : ∀ x c, cl.lookup x = some c -> c ≠ aD
theorem Inn.move {w : World} {h h' : Heap} {f aD L : Addr} {n : Int} {cl : List (Str × Addr)} (I : Inn w h f aD n cl) (hL : ∀ o, h.get? L = some o -> (∀ fd, o.data ≠ .func fd) /\ ∀ vs, o.data ≠ .fields vs) (hc : ∀ x c, cl.lookup x = some c -> ∀ o, h.get? c = some o -> h'.get? c = some o) (hl : ∀ x c, cl.lookup x = some c -> ∃ o, h'.get? c = some o)
  (k : ∀ b o, b ≠ L -> b ∉ TT -> h.get? b = some o -> h'.get? b = some o) : Inn w h' f aD n cl where
 fn := I.fn.at' I.lowf hL k
 C := { I.C with live := hl }
 nn := I.nn.imp fun c => Exists.imp fun t e => ⟨e.1, zhl e.2 (hc _ c e.1)⟩
 ii := I.ii.imp fun c e => ⟨e.1, zhl e.2 (hc _ c e.1)⟩
 aa := I.aa.imp fun c e => ⟨e.1, zhl e.2 (hc _ c e.1)⟩
 lowf := I.lowf
 lowa := I.lowa
 ne := I.ne
theorem Inn.keep {w : World} {h h' : Heap} {f aD : Addr} {n : Int} {cl : List (Str × Addr)} {vs : List Value} {m : Nat} (I : Inn w h f aD n cl) (g : h.get? aD = some (zbz vs m)) (k : ∀ b o, b ∉ TT -> b ≠ aD -> h.get? b = some o -> h'.get? b = some o) : Inn w h' f aD n cl :=
 I.move (fun o e => by cases Option.some.inj (g.symm.trans e); exact ⟨fun _ q => (nomatch q), fun _ q => (nomatch q)⟩) (fun x c e o => k c o (zaq (I.C.low x c e)) (I.ne x c e)) (fun x c e => (I.C.live x c e).imp fun o => k c o (zaq (I.C.low x c e)) (I.ne x c e)) fun b o h1 h2 => k b o h2 h1
noncomputable abbrev psI : List Str := ["x", "L", "R"]
theorem zjg (w : World) : (∀ x ∈ psI, (isc w).names.lookup x = some .local) /\ (isc w).names.lookup ("n" : Str) = some .free /\ (isc w).names.lookup ("inner" : Str) = some .free /\ (isc w).names.lookup ("a_digits" : Str) = some .free /\ (isc w).isCoroutine = false /\ (isc w).isGenerator = false := by
 refine ⟨?_, by kernel_rfl, by kernel_rfl, by kernel_rfl, by kernel_rfl, by kernel_rfl⟩
 intro x hx
 simp only [psI, List.mem_cons, List.mem_nil_iff, or_false] at hx
 rcases hx with rfl | rfl | rfl <;> kernel_rfl
theorem ibind (w : World) {cl : List (Str × Addr)} {doc pm ctv : Value} {c' : Addr} {v1 v2 v3 : Value} : bindArgs (fnX "inner" iQ (zy6 w) (ibd w) (isc w) cl .none .none doc pm none (.ref c') ctv) ⟨[v1, v2, v3], []⟩ = pure (psI.zip [v1, v2, v3]) := by kernel_rfl
set_option tactic.hygienic true in
theorem zeu {a : Int} {k : Nat} (h : a.natAbs < 2 ^ k) : Builtin.Int.intBits a <= k := by
 unfold Builtin.Int.intBits
 split
 ·exact Nat.zero_le _
 ·rename_i h0
  have : a.natAbs ≠ 0 := by
   intro e
   have := Int.natAbs_eq_zero.mp e
   simp [this] at h0
  have := (Nat.log2_lt this).mpr h
  lia
theorem zpo {L R M : Int} (h : M = (L + R) / 2) (h1 : L < R) (h2 : ¬ L + 1 = R) : L < M /\ M < R := by lia
theorem zly {L M R : Int} {m k : Nat} (h1 : 0 <= L) (a : L < M) (b : M < R) (h3 : R <= k) (h5 : R - L <= ((m + 1 : Nat) : Int)) : 0 <= M /\ R - M <= m /\ M <= k /\ M - L <= m := by lia
theorem zpn {L M R : Int} {k : Nat} (h1 : 0 <= L) (b : M < R) (h3 : R <= k) : M - L <= k := by lia
theorem zle {a : Int} {k : Nat} (h0 : 0 <= a) (h : a < 2 ^ k) : Builtin.Int.intBits a <= k := by
 obtain ⟨n, rfl⟩ := Int.eq_ofNat_of_zero_le h0
 exact zeu (by rw [Int.natAbs_natCast]; exact_mod_cast h)
theorem zmh {a : Int} {k : Nat} (h0 : 0 <= a) (h : a <= k) (h2 : k <= 100) : Builtin.Int.intBits a <= 64 := zle h0 (by lia)
theorem zzg {a : Nat} {b : Int} (h : a <= 200) (h2 : b <= 100 * 1000) : (a : Int) + b <= 2 ^ 27 := by lia
theorem X_Sub {O : Orc} {mv : List Str} {kf : Kf} {n : Nat} {c : Mine.St} {x : Str} {ds : List D} {p1 p2 p3 : Pos} {e i : PySem.Expr} {d : D} {kd k : Kd} {j : Int} (ho : c.own = some (x, ds)) (h1 : zct e = true) (h2 : c.σ.lookup x = none) (h3 : zax x = true) (he : zaa O n ⟨kf, c.σ, c.own⟩ e = some (d, kd))
  (hi : zaa O n ⟨kf, c.σ, c.own⟩ i = some (.int j, k)) (hk : kd ≠ .brw) (j0 : 0 <= j) (j1 : j < ds.length) (j2 : j < 2 ^ 62) (hs : zae.notSlice i = true) : zae O mv kf (n + 1) c (.Assign [.Subscript (.Name x p1) i p2] e p3) = some (⟨c.σ, some (x, ds.set j.toNat d)⟩, .next) := by
 show (match c.own with
   | some (y, ds) => if x = y /\ zct e = true /\ c.σ.lookup x = none /\ zax x = true then (match zaa O n ⟨kf, c.σ, c.own⟩ e with
    | some (d, kd) => (match zaa O n ⟨kf, c.σ, c.own⟩ i with
     | some (.int j, _) => if kd ≠ Kd.brw /\ 0 <= j /\ j < ds.length /\ j < 2 ^ 62 /\ zae.notSlice i = true then some ((⟨c.σ, some (y, ds.set j.toNat d)⟩ : Mine.St), Fl.next) else none
     | _ => none)
    | none => none) else none
   | none => none) = _
 rw [he, hi, ho]
 dsimp only
 rw [if_pos ⟨rfl, h1, h2, h3⟩, if_pos ⟨hk, j0, j1, j2, hs⟩]
theorem sndT {w : World} {mb : Str -> Option Value} {K : Nat} {O : Orc} (H : Hyps w mb K O) (n : Nat) {A : Around} {env : Env} {σ : List (Str × D)} {own : Option (Str × List D)} {X Y : List Addr} (s : Shared) {e : PySem.Expr} {d : D} {k : Kd} {b : Bool} (hA : Rm A K) (S : Sc env σ own X Y s.heap) (B : Base w mb s.heap)
  (q : zaa O n ⟨env.kindOf, σ, own⟩ e = some (d, k)) (ht : zan d = some b) : Tot w mb A env.locals (isTrue e env (eval e env)) s (fun x _ => x = b) := (zao H n).2 hA S B q ht
theorem zbo : ∀ ds : List Int, zdp (ds.map .int) = some ds
 | [] => rfl
 | d :: r => by simp only [List.map_cons, zdp, zbo r, Option.map_some]
section
variable {w : World} {mb : Str -> Option Value} {env : Env} {c c' : Mine.St} {X Y N : List Addr} {h h' h0 : Heap} {aD : Addr}
structure Jnv (w : World) (mb : Str -> Option Value) (env : Env) (Y : List Addr) (h0 : Heap) (aD : Addr) (c : Mine.St) (X : List Addr) (h : Heap) : Prop where
 B : Base w mb h
 S : Sc env c.σ c.own X Y h
 keep : ∀ b o, b ∉ TT -> b ≠ aD -> h0.get? b = some o -> h.get? b = some o
 xs : ∀ b ∈ X, b ∈ Y ∨ b = aD ∨ h0.get? b = none
theorem Jnv.step (I : Jnv w mb env Y h0 aD c X h) (b : Base w mb h') (k : Chs X Y h h') (hN : zfp N h) (S : Sc env c'.σ c'.own (N ++ X) Y h') : Jnv w mb env Y h0 aD c' (N ++ X) h' where
 B := b
 S := S
 keep := fun b o h1 h2 e => by
  refine k b o h1 ?_ (I.keep b o h1 h2 e)
  by_cases hb : b ∈ X
  ·rcases I.xs b hb with q | q | q
   ·exact .inr q
   ·exact absurd q h2
   ·rw [q] at e; cases e
  ·exact .inl hb
 xs := fun b hb => by
  rcases List.mem_append.mp hb with hb | hb
  ·by_cases h1 : b ∈ TT
   ·exact .inl (I.S.ttY b h1)
   ·by_cases h2 : b = aD
    ·exact .inr (.inl h2)
    ·refine .inr (.inr ?_)
     cases e : h0.get? b with
     | none => rfl
     | some o => have := I.keep b o h1 h2 e; rw [hN b hb] at this; cases this
  ·exact I.xs b hb
inductive JOwn (env : Env) (h : Heap) (X Y : List Addr) (x : Str) (aD : Addr) (ds : List D) : Prop
 | mk (vs : List Value) (n : Nat) (v1 : zbl env h x (.ref aD)) (v2 : 227 < aD) (v3 : aD ≠ env.locals) (w1 : aD ∉ Y) (w2 : ∀ y c, env.cells.lookup y = some c -> c ≠ aD) (w3 : aD ∈ X) (v4 : h.get? aD = some (zbz vs n)) (v5 : RepA X h vs ds)
theorem Jnv.own (I : Jnv w mb env Y h0 aD c X h) {x : Str} {ds : List D} {cc : Addr} (ho : c.own = some (x, ds)) (hk : env.kindOf x = some .free) (hc : env.cells.lookup x = some cc) (g : h.IsCell cc (some (.ref aD))) :
  JOwn env h X Y x aD ds := by
 obtain ⟨a, vs, n, v1, v2, v3, w1, w2, w3, v4, v5⟩ := I.S.own x ds ho
 have : a = aD := by
  rcases v1 with ⟨q, _⟩ | ⟨_, c2, e2, o, e3, e4⟩
  ·rw [hk] at q; cases q
  ·rw [hc] at e2; cases e2
   obtain ⟨o', e5, e6⟩ := g
   rw [e3] at e5; cases e5
   rw [e4] at e6
   injection e6 with e6
   injection e6 with e6
   injection e6
 subst this
 exact ⟨vs, n, v1, v2, v3, w1, w2, w3, v4, v5⟩
theorem Jnv.execK {A : Around} {s : Shared} (I : Jnv w mb env Y h0 aD c X s.heap) {st : PySem.Stmt} {rest : List PySem.Stmt} {n : Nat} {mv : List Str} {Q : Flow -> Shared -> Prop} (hA : Rm A 6) (q : zae O0 mv env.kindOf n c st = some (c', .next))
  (k : ∀ X' h' tk, Jnv w mb env Y h0 aD c' X' h' -> wpAny (model pg w) A (execs rest env) Q (fun _ _ => False) { s with heap := h', toks := tk }) : wpAny (model pg w) A (execs (st :: rest) env) Q (fun _ _ => False) s :=
 wpAny_execs_cons (wpAny_mono (zec (H0 w mb) mv n hA I.S I.B q).run (fun fl s' y => by
  cases y with
  | mk h1 tk1 e y =>
   subst e
   cases y with
   | mk b1 k1 y =>
    cases fl with
    | next => exact y.elim fun N y => k _ h1 tk1 (I.step b1 k1 y.1 y.2)
    | _ => exact y.elim) fun _ _ f => f.elim)
theorem Jnv.kp (I : Jnv w mb env Y h0 aD c X h) (k : Kp env.locals h h') (b : Base w mb h') (hl : h0.get? env.locals = none) : Jnv w mb env Y h0 aD c X h' where
 B := b
 S := I.S.kp k b
 keep := fun b o h1 h2 e => k.1 b o (fun q => by rw [q, hl] at e; cases e) h1 (I.keep b o h1 h2 e)
 xs := I.xs
end
section
variable {w : World} {mb : Str -> Option Value}
inductive InP (w : World) (mb : Str -> Option Value) (s : Shared) (aD : Addr) (ds : List Int) (s' : Shared) : Prop
 | mk (h' : Heap) (tk : Nat) (vs : List Value) (n : Nat) (e : s' = { s with heap := h', toks := tk }) (B : Base w mb h') (k : ∀ b o, b ∉ TT -> b ≠ aD -> s.heap.get? b = some o -> h'.get? b = some o) (g : h'.get? aD = some (zbz vs n)) (I : IntsAre vs ds)
noncomputable def zyy (w : World) (mb : Str -> Option Value) (m : Nat) : Prop := ∀ {A : Around} {s : Shared} {x L R n : Int} {f aD : Addr} {cl : List (Str × Addr)} {vs : List Value} {nn : Nat} {ds : List Int} {t1 t2 t3 : Tok}, Rm A (7 + m) -> Base w mb s.heap -> Inn w s.heap f aD n cl ->
 s.heap.get? aD = some (zbz vs nn) -> IntsAre vs ds -> 0 <= L -> L < R -> R <= ds.length -> ds.length <= 100 -> R - L <= m -> 0 <= x -> x < 2 ^ 200 -> 0 <= n -> n <= 1000 ->
 wpAny (model pg w) A (call (.ref f) [.int x t1, .int L t2, .int R t3] []) (fun _ => InP w mb s aD (zjx n m x L R ds)) (fun _ _ => False) s
theorem zs8 (m : Nat) : zyy w mb m := by
 induction m with
 | zero =>
  intro A s x L R n f aD cl vs nn ds t1 t2 t3 hA B I g hI h1 h2 h3 h4 h5
  exfalso
  lia
 | succ m ih =>
  intro A s x L R n f aD cl vs nn ds t1 t2 t3 hA B I g hI h1 h2 h3 h4 h5 h6 h7 h8 h9
  refine genQ fun Q hQ => ?_
  obtain ⟨c', doc, pm, ctv, e1, e2, e3⟩ := I.fn
  obtain ⟨cn, tn, n1, n2⟩ := I.nn
  obtain ⟨ci, i1, i2⟩ := I.ii
  obtain ⟨cad, a1, a2⟩ := I.aa
  obtain ⟨f1, f2, f3, f4, f5, f6⟩ := zjg w
  obtain ⟨cs, hcs⟩ : ∃ cs, cs = (cl.filter fun p => cl.lookup p.1 == some p.2).map (·.2) := ⟨_, rfl⟩
  have cellIn : ∀ x c, cl.lookup x = some c -> c ∈ cs := fun x c e => hcs ▸ List.mem_map.mpr ⟨(x, c), List.mem_filter.mpr ⟨mem_of_lookup e, by simp [e]⟩, rfl⟩
  have cellHas : ∀ c ∈ cs, ∃ x, cl.lookup x = some c := fun c hc => by
   rw [hcs] at hc
   obtain ⟨p, hp, rfl⟩ := List.mem_map.mp hc
   exact ⟨p.1, by simpa using (List.mem_filter.mp hp).2⟩
  have ttLive : ∀ {h : Heap}, Base w mb h -> ∀ a ∈ TT, ∃ o, h.get? a = some o := fun B a ha => by
   rcases List.mem_cons.mp ha with rfl | ha
   ·obtain ⟨_, ps, e, _⟩ := B.t2; exact ⟨_, e⟩
   ·rcases List.mem_cons.mp ha with rfl | ha
    ·obtain ⟨_, ps, e, _⟩ := B.t1; exact ⟨_, e⟩
    ·cases ha
  have aY : aD ∉ cs ++ TT := fun q => (List.mem_append.mp q).elim (fun q => let ⟨x, e⟩ := cellHas _ q; I.ne x _ e rfl) (zaq I.lowa)
  have rAny : ∀ {X : List Addr} {h : Heap} {vs : List Value} {ds : List Int}, IntsAre vs ds -> RepA X h vs (ds.map .int) := fun h => zco h
  refine wpAny_call (zjn (K := 7 + m) (X := aD :: (cs ++ TT)) (Y := cs ++ TT) (args := [.int x, .int L, .int R]) (ps := psI) (σc := [("n", .int n), ("inner", .any (.ref f))]) (own := zgt ds) e1 e2 B hA I.C (ibind w) f1 (by decide +kernel) rfl (.cons (.int ..) (.cons (.int ..) (.cons (.int ..) .nil)))
   (fun a ha => ?_) (fun a ha => .tail _ (List.mem_append_right _ ha)) (fun a ha => List.mem_append_right _ ha) (fun a ha => .tail _ ha) (fun x c e => .tail _ (List.mem_append_left _ (cellIn x c e))) (fun y d e => ?_) (fun y l e => ?_) f5 f6 fun A' env G1 tk1 hA' hk hL hC S B1 keep1 => ?_)
  ·rcases List.mem_cons.mp ha with rfl | ha
   ·exact ⟨_, g⟩
   ·rcases List.mem_append.mp ha with ha | ha
    ·obtain ⟨x, e⟩ := cellHas a ha; exact I.C.live x a e
    ·exact ttLive B a ha
  ·exact z02 e (fun h q => by subst h; subst q; exact ⟨cn, _, n1, f2, n2, .int ..⟩) fun e => z02 e (fun h q => by subst h; subst q; exact ⟨ci, _, i1, f3, i2, .any rfl⟩) fun e => zaf e
  ·cases e
   exact ⟨cad, aD, vs, nn, a1, f4, a2, I.lowa, aY, .head _, I.ne, g, rAny hI⟩
  ·obtain ⟨pp, hb⟩ := bibd w
   rw [hb]
   have hkf : env.kindOf = kfi w := hk
   have hA6 : Rm A' 6 := hA'.le (by lia)
   have hl : s.heap.get? env.locals = none := by rw [hL]; exact zam (Nat.le_refl _)
   have J : Jnv w mb env (cs ++ TT) s.heap aD ⟨ca f x L R n, zgt ds⟩ (s.heap.objs.size :: aD :: (cs ++ TT)) G1 := {
    B := B1
    S := S
    keep := fun b o _ _ e => keep1 b o e
    xs := fun b hb => by
     rcases List.mem_cons.mp hb with rfl | hb
     ·exact .inr (.inr (zam (Nat.le_refl _)))
     ·rcases List.mem_cons.mp hb with rfl | hb
      ·exact .inr (.inl rfl)
      ·exact .inl hb }
   have cellA : ∀ {c : Mine.St} {X : List Addr} {h : Heap}, Jnv w mb env (cs ++ TT) s.heap aD c X h -> h.IsCell cad (some (.ref aD)) := fun J => let ⟨o, q1, q2⟩ := a2; ⟨o, J.keep _ _ (zaq (I.C.low _ _ a1)) (I.ne _ _ a1) q1, q2⟩
   have hkA : env.kindOf "a_digits" = some .free := by rw [hkf]; exact f4
   have hcA : env.cells.lookup ("a_digits" : Str) = some cad := by rw [hC]; exact a1
   have hfL : f ≠ env.locals := fun q => by rw [<- q, e1] at hl; cases hl
   refine wpAny_execs_cons (wpAny_If ((sndT (H0 w mb) 12 { s with heap := G1, toks := tk1 } (e := ibt w) (d := .bool (L + 1 == R)) (k := .froz) (b := (L + 1 == R)) hA6 J.S J.B (by rw [hkf]; exact zwy) rfl).use fun z G2 tk2 k2 b2 ez => ?_))
   subst ez
   have J2 := J.kp k2 b2 hl
   by_cases hLR : (L + 1 == R) = true
   ·rw [hLR]
    have hLR' : L + 1 = R := by simpa using hLR
    have hlen : (ds.map D.int).length = ds.length := List.length_map ..
    refine J2.execK (s := { s with heap := G2, toks := tk2 }) (n := 12) (mv := []) hA6 (X_Sub (n := 11) (x := "a_digits") (ds := ds.map .int) (d := .int x) (kd := .froz) (k := .froz) (j := L) rfl rfl (by kernel_rfl) (by kernel_rfl) (by kernel_rfl) (by rw [hkf]; kernel_rfl) (by decide) h1 (by rw [hlen]; lia) (by lia) rfl) fun X3 G3 tk3 J3 => ?_
    refine wpAny_execs_cons (wpAny_Return_none ?_)
    obtain ⟨vs', nn', v1, v2, v3, v4, v5, v6, v7, v8⟩ := J3.own rfl hkA hcA (cellA J3)
    refine hQ _ _ ⟨G3, tk3, vs', nn', rfl, J3.B, J3.keep, v7, ?_⟩
    have hset : (ds.map D.int).set L.toNat (.int x) = (ds.set L.toNat x).map .int := by rw [List.map_set]
    rw [hset] at v8
    have e : zjx n (m + 1) x L R ds = ds.set L.toNat x := by unfold zjx; rw [if_pos hLR']
    rw [e]
    exact zcu v8 (zbo _)
   ·have hLRf : (L + 1 == R) = false := by simpa using hLR
    have hLR' : ¬ L + 1 = R := by simpa using hLR
    rw [hLRf]
    refine wpAny_execs_nil ?_
    dsimp only
    obtain ⟨M, hM⟩ : ∃ M, M = (L + R).fdiv 2 := ⟨_, rfl⟩
    have hMd : M = (L + R) / 2 := by rw [hM]; exact Int.fdiv_eq_ediv_of_nonneg _ (by decide)
    obtain ⟨hM1, hM2⟩ := zpo hMd h2 hLR'
    obtain ⟨Sh, hS⟩ : ∃ Sh, Sh = (M - L) * n := ⟨_, rfl⟩
    obtain ⟨b1, b2, b3, b4⟩ := zly h1 hM1 hM2 h3 h5
    have hML := zpn h1 hM2 h3
    have hML0 := Int.sub_nonneg_of_le (Int.le_of_lt hM1)
    have hS0 : 0 <= Sh := by rw [hS]; exact Int.mul_nonneg hML0 h8
    have hS1 : Sh <= 100 * 1000 := by rw [hS]; exact Int.mul_le_mul (Int.le_trans hML (Int.ofNat_le.mpr h4)) h9 h8 (by decide)
    obtain ⟨U, hU⟩ : ∃ U, U = x.fdiv (2 ^ Sh.toNat) := ⟨_, rfl⟩
    have hpow : (0 : Int) < 2 ^ Sh.toNat := by exact_mod_cast Nat.pow_pos (by decide : 0 < 2)
    have hUd : U = x / 2 ^ Sh.toNat := by rw [hU]; exact Int.fdiv_eq_ediv_of_nonneg _ (Int.le_of_lt hpow)
    have hU0 : 0 <= U := by rw [hUd]; exact Int.ediv_nonneg h6 (Int.le_of_lt hpow)
    have hU1 : U <= x := by rw [hUd]; exact Int.ediv_le_self _ h6
    obtain ⟨V, hV⟩ : ∃ V, V = Builtin.bitXor x (U * 2 ^ Sh.toNat) := ⟨_, rfl⟩
    have hVm : V = x % 2 ^ Sh.toNat := by rw [hV, hU]; exact zn7 h6 _
    have hV0 : 0 <= V := by rw [hVm]; exact Int.emod_nonneg _ (Int.ne_of_gt hpow)
    have hV1 : V <= x := by
     rw [hVm]
     have := Int.emod_add_mul_ediv x (2 ^ Sh.toNat)
     have h10 : 0 <= 2 ^ Sh.toNat * (x / 2 ^ Sh.toNat) := Int.mul_nonneg (Int.le_of_lt hpow) (by rw [<- hUd]; exact hU0)
     lia
    have hbitU : Builtin.Int.intBits U <= 200 := zle hU0 (Int.lt_of_le_of_lt hU1 h7)
    have e : zjx n (m + 1) x L R ds = zjx n m U M R (zjx n m V L M ds) := by
     conv => lhs; unfold zjx
     rw [if_neg hLR', <- hM, <- hS, <- hU, <- hV]
    have kfr : env.kindOf = kfi w := hkf
    refine J2.execK (s := { s with heap := G2, toks := tk2 }) (n := 12) (mv := []) hA6 (by rw [kfr]; exact z08) fun X3 G3 tk3 J3 => ?_
    rw [<- hM] at J3
    refine J3.execK (s := { s with heap := G3, toks := tk3 }) (n := 12) (mv := []) hA6 (by rw [kfr]; exact zs3 (zmh hML0 hML h4)) fun X4 G4 tk4 J4 => ?_
    rw [<- hS] at J4
    refine J4.execK (s := { s with heap := G4, toks := tk4 }) (n := 12) (mv := []) hA6 (by rw [kfr]; exact zs2 hS0) fun X5 G5 tk5 J5 => ?_
    rw [<- hU] at J5
    refine J5.execK (s := { s with heap := G5, toks := tk5 }) (n := 12) (mv := []) hA6 (by rw [kfr]; exact zs4 ⟨hS0, zzg hbitU hS1⟩) fun X6 G6 tk6 J6 => ?_
    rw [<- hV] at J6
    -- a call of itself
    have rec_call : ∀ {X7 : List Addr} {G7 : Heap} {tk7 : Nat} {ds7 : List Int} {y L' R' : Int} {es : List PySem.Expr} {p q r : Pos}, Jnv w mb env (cs ++ TT) s.heap aD ⟨cl_ f x L R n M Sh U V, zgt ds7⟩ X7 G7 -> zb5 (zaa O0 12 ⟨env.kindOf, cl_ f x L R n M Sh U V, zgt ds7⟩) es = some [(.int y, .froz), (.int L', .froz), (.int R', .froz)] ->
      ds7.length = ds.length -> 0 <= L' -> L' < R' -> R' <= ds.length -> R' - L' <= m -> 0 <= y -> y < 2 ^ 200 ->
      wpAny (model pg w) A' (exec (.Expr (.Call (.Name "inner" p) es [] q) r) env) (fun fl s' => ∃ h' tk, fl = .next /\ s' = { s with heap := h', toks := tk } /\ Jnv w mb env (cs ++ TT) s.heap aD ⟨cl_ f x L R n M Sh U V, zgt (zjx n m y L' R' ds7)⟩ X7 h') (fun _ _ => False) { s with heap := G7, toks := tk7 } := by
     intro X7 G7 tk7 ds7 y L' R' es p q r J7 hm hlen c1 c2 c3 c4 c5 c6
     obtain ⟨vs7, nn7, v1, v2, v3, v4, v5, v6, v7, v8⟩ := J7.own rfl hkA hcA (cellA J7)
     have I7 : Inn w G7 f aD n cl := I.keep g J7.keep
     obtain ⟨c7, doc7, pm7, ctv7, g7, _, _⟩ := I7.fn
     refine wpAny_Expr_any ?_ (zd7 J7.S.eok) rfl
     refine zdn (H0 w mb) hA6 (s := { s with heap := G7, toks := tk7 }) J7.S J7.B (x := "inner") (f := f) rfl (by decide +kernel) hm rfl ⟨I.lowf, hfL⟩ g7 rfl fun H8 tk8 ws8 k8 b8 r8 => ?_
     have J8 := J7.kp k8 b8 hl
     have I8 : Inn w H8 f aD n cl := I.keep g J8.keep
     have g8 : H8.get? aD = some (zbz vs7 nn7) := k8.1 _ _ v3 (zaq v2) v7
     have hI8 : IntsAre vs7 ds7 := zcu v8 (zbo _)
     refine r8.int3' fun _ _ _ => ?_
     refine wpAny_mono (ih (s := { s with heap := H8, toks := tk8 }) hA' b8 I8 g8 hI8 c1 c2 (by rw [hlen]; exact c3) (by rw [hlen]; exact h4) c4 c5 c6 h8 h9) (fun u s9 z => ?_) fun _ _ f => f.elim
     obtain ⟨h9', tk9, vs9, nn9, rfl, b9, k9, g9, i9⟩ := z
     refine ⟨h9', tk9, rfl, rfl, b9, J8.S.mut2 b9 (v1.kp J7.S.eok k8) v2 v3 v4 v5 v6 k9 g9 (zco i9), fun b o q1 q2 e => k9 b o q1 q2 (J8.keep b o q1 q2 e), J8.xs⟩
    refine wpAny_execs_cons (wpAny_mono (rec_call J6 (y := V) (L' := L) (R' := M) (by rw [kfr]; kernel_rfl) rfl h1 hM1 b3 b4 hV0 (Int.lt_of_le_of_lt hV1 h7)) (fun fl s7 z => ?_) fun _ _ f => f.elim)
    obtain ⟨G7, tk7, rfl, rfl, J7⟩ := z
    dsimp only
    refine wpAny_execs_cons (wpAny_mono (rec_call J7 (y := U) (L' := M) (R' := R) (by rw [kfr]; kernel_rfl) (zcg ..) b1 hM2 h3 b2 hU0 (Int.lt_of_le_of_lt hU1 h7)) (fun fl s8 z => ?_) fun _ _ f => f.elim)
    obtain ⟨G8, tk8, rfl, rfl, J8⟩ := z
    dsimp only
    refine wpAny_execs_nil ?_
    obtain ⟨vs', nn', v1, v2, v3, v4, v5, v6, v7, v8⟩ := J8.own rfl hkA hcA (cellA J8)
    exact hQ _ _ ⟨G8, tk8, vs', nn', rfl, J8.B, J8.keep, v7, e ▸ zcu v8 (zbo _)⟩
end
end
section
theorem bi2d1 (w : World) : ∃ (pp : Nat -> Pos), i2d1 w = .Assign [.Name "a_digits" (pp 0)] (.BinOp (.List [.Constant (.int 0) 0 (pp 1)] (pp 2)) .Mult (.BinOp (.BinOp (.BinOp (.Call (.Attribute (.Name "a" (pp 3)) "bit_length" (pp 4)) [] [] (pp 5)) .Add (.Name "n" (pp 6)) (pp 7)) .Sub (.Constant (.int 1) 0 (pp 8)) (pp 9)) .FloorDiv (.Name "n" (pp 10)) (pp 11)) (pp 12)) (pp 13) /\ (pp 4).endLine = (pp 5).line :=
 ⟨fun i => [_, _, _, _, _, _, _, _, _, _, _, _, _, _].getD i default, rfl, rfl⟩
noncomputable abbrev σa (a n : Int) : List (Str × D) := [("a", .int a), ("n", .int n)]
noncomputable def zcd (a n : Int) : Int := ((Builtin.Int.intBits a : Int) + n - 1).fdiv n
theorem zlr (k : Nat) : (List.replicate k [D.int 0]).flatten = (List.replicate k (0 : Int)).map D.int := by
 induction k with
 | zero => rfl
 | succ k ih => rw [List.replicate_succ, List.flatten_cons, ih, List.replicate_succ]; rfl
variable {w : World} {a n : Int}
theorem zw7 (hn : 0 < n) (hn2 : n <= 1000) (h2 : zcd a n <= 100) (h0 : 0 <= zcd a n) : zae O0 ["a_digits"] (zab w 125) 12 ⟨σa a n, none⟩ (i2d1 w) = some (⟨σa a n, zgt (List.replicate (zcd a n).toNat 0)⟩, .next) := by
 obtain ⟨pp, e, hp⟩ := bi2d1 w
 rw [e]
 have eb : zaa O0 8 ⟨zab w 125, σa a n, none⟩ (.Call (.Attribute (.Name "a" (pp 3)) "bit_length" (pp 4)) [] [] (pp 5)) = some (.int (Builtin.Int.intBits a), .froz) :=
  zmn (d := .int a) (k := .froz) (l := []) hp (by decide) rfl (by kernel_rfl) (fun fs e => by cases e) rfl rfl rfl
 have e1 : zaa O0 9 ⟨zab w 125, σa a n, none⟩ (.BinOp (.Call (.Attribute (.Name "a" (pp 3)) "bit_length" (pp 4)) [] [] (pp 5)) .Add (.Name "n" (pp 6)) (pp 7)) = some (.int (Builtin.Int.intBits a + n), .froz) :=
  za3 (b := .int n) (k2 := .froz) eb (by kernel_rfl) rfl
 have e2 : zaa O0 10 ⟨zab w 125, σa a n, none⟩ (.BinOp (.BinOp (.Call (.Attribute (.Name "a" (pp 3)) "bit_length" (pp 4)) [] [] (pp 5)) .Add (.Name "n" (pp 6)) (pp 7)) .Sub (.Constant (.int 1) 0 (pp 8)) (pp 9)) = some (.int (Builtin.Int.intBits a + n - 1), .froz) :=
  za3 (b := .int 1) (k2 := .froz) e1 (by kernel_rfl) rfl
 have e3 : zaa O0 11 ⟨zab w 125, σa a n, none⟩ (.BinOp (.BinOp (.BinOp (.Call (.Attribute (.Name "a" (pp 3)) "bit_length" (pp 4)) [] [] (pp 5)) .Add (.Name "n" (pp 6)) (pp 7)) .Sub (.Constant (.int 1) 0 (pp 8)) (pp 9)) .FloorDiv (.Name "n" (pp 10)) (pp 11)) = some (.int (zcd a n), .froz) := by
  refine za3 (b := .int n) (k2 := .froz) e2 (by kernel_rfl) ?_
  show (if n ≠ 0 /\ n.natAbs < 1073741824 then some (D.int (zcd a n)) else none).map (·, Kd.froz) = _
  rw [if_pos ⟨by lia, by lia⟩]; rfl
 have e4 : zaa O0 11 ⟨zab w 125, σa a n, none⟩ (.List [.Constant (.int 0) 0 (pp 1)] (pp 2)) = some (.lst [.int 0], .fresh) := by kernel_rfl
 refine zai (r := (.lst ((List.replicate (zcd a n).toNat (0 : Int)).map .int), .fresh)) (za3 e4 e3 ?_) ?_
 ·show (if ([D.int 0] : List D).length <= 1000 /\ zcd a n <= 1000 /\ -1000 <= zcd a n then some (D.lst (List.replicate (zcd a n).toNat [D.int 0]).flatten, Kd.fresh) else none) = _
  rw [if_pos ⟨by decide, by lia, by lia⟩, zlr]
 ·kernel_rfl
theorem zte (w : World) : ((isc w).names.all fun p => if p.2 = .free then zab w 125 p.1 == some .cell else true) = true := by kernel_rfl
theorem znk (w : World) : ((isc w).names.all fun p => decide (p.2 ≠ .cell)) = true := by kernel_rfl
theorem ztd (w : World) : (isc w).kind = .function := by kernel_rfl
theorem ztf (w : World) {L : Addr} : (callEnvC (zer w 125) L 125).code = .ref 124 := by kernel_rfl
theorem ztc (w : World) {L : Addr} : qualnameIn (callEnvC (zer w 125) L 125) "inner" "inner" = iQ := by kernel_rfl
theorem zw4 (w : World) {L : Addr} : annTrees (zy6 w) none (callEnvC (zer w 125) L 125) = [] := by kernel_rfl
theorem zqg (w : World) : (zy6 w).defaults = [] /\ (zy6 w).kw_defaults = [] := ⟨by kernel_rfl, by kernel_rfl⟩
theorem z09 (w : World) : zab w 125 "inner" = some .cell /\ zab w 125 "n" = some .cell /\ zab w 125 "a_digits" = some .cell /\ zab w 125 "len" = some .globalImplicit := ⟨by kernel_rfl, by kernel_rfl, by kernel_rfl, by kernel_rfl⟩
end
section
noncomputable def zf8 (a n : Int) : List Int := if a = 0 then List.replicate (zcd a n).toNat 0 else zjx n (zcd a n).toNat a 0 (zcd a n) (List.replicate (zcd a n).toNat 0)
variable {w : World} {mb : Str -> Option Value} {a n : Int}
theorem Jnv.to {env : Env} {c : Mine.St} {X Y : List Addr} {h h0 : Heap} {a0 : Addr} (J : Jnv w mb env Y h0 a0 c X h) (h1 : h0.get? a0 = none) {aD : Addr} : Jnv w mb env Y h0 aD c X h where
 B := J.B
 S := J.S
 keep := fun b o q1 q2 e => J.keep b o q1 (fun q => by rw [q, h1] at e; cases e) e
 xs := fun b hb => by
  rcases J.xs b hb with q | q | q
  ·exact .inl q
  ·exact .inr (.inr (q ▸ h1))
  ·exact .inr (.inr q)
theorem zhy {h : Heap} {L : Addr} {m : Str -> Option Value} (N : h.Ns L m) : ∀ o, h.get? L = some o -> (∀ fd, o.data ≠ .func fd) /\ ∀ vs, o.data ≠ .fields vs := fun o e => by
 obtain ⟨oL, es, ep, e1, e2, _⟩ := N
 cases Option.some.inj (e1.symm.trans e)
 rw [e2]
 exact ⟨fun _ q => (nomatch q), fun _ q => (nomatch q)⟩
theorem ztb (hn : 0 < n) (hn2 : n <= 1000) (ha : 0 <= a) (ha2 : a < 2 ^ 200) (h2 : zcd a n <= 20) (h3 : a ≠ 0 -> 0 < zcd a n) (h4 : 0 <= zcd a n) : zfi w mb 28 (.ref 125) [.int a, .int n] (.lst ((zf8 a n).map .int)) := by
 intro A s X vs hA B hX hT ra
 refine genQ fun Q hQ => ?_
 refine wpAny_call (zed (K := 27) (z2j w) rfl hA B hX hT ra fun A' env X1 G1 tk1 hA' hk S1 B1 keep1 hX1 hvar hl hcd henv => ?_)
 refine byP fun P kP => ?_
 obtain ⟨pp, hb, hline, hcol⟩ := b125 w
 have hA6 : Rm A' 6 := hA'.le (by decide)
 obtain ⟨k1, k2, k3, k4⟩ := z09 w
 have J1 : Jnv w mb env X s.heap env.locals ⟨σa a n, none⟩ X1 G1 := ⟨B1, S1, fun b o _ _ e => keep1 b o e, fun b hb => (hX1 b hb).imp id .inr⟩
 refine kP ?_
 rw [hb]
 refine J1.execK (s := { s with heap := G1, toks := tk1 }) (n := 12) (mv := ["a_digits"]) hA6 (by rw [hk]; exact zw7 hn hn2 (by lia) h4) fun X2 G2 tk2 J2 => ?_
 refine byP fun P1 kP1 => ?_
 have S2 := J2.S
 have hkf : env.kindOf = zab w 125 := hk
 have hfree : ∀ p ∈ (isc w).names, p.2 = .free -> env.kindOf p.1 = some .cell := fun p hp hf => by
  have := List.all_eq_true.mp (zte w) p hp
  rw [if_pos hf] at this
  rw [hkf]; simpa using this
 obtain ⟨cn, vn, hcn, gcn⟩ := S2.cel "n" (by rw [hkf]; exact k2)
 obtain ⟨cc, vc, hcc, gcc⟩ := S2.cel "a_digits" (by rw [hkf]; exact k3)
 obtain ⟨ci, vi, hci, gci⟩ := S2.cel "inner" (by rw [hkf]; exact k1)
 obtain ⟨f1, f2, f3, f4, f5, f6⟩ := zjg w
 obtain ⟨cl, hcl⟩ : ∃ cl, cl = clo env.cells (isc w).names [] := ⟨_, rfl⟩
 have cl_n : cl.lookup ("n" : Str) = some cn := by rw [hcl]; exact zdg hcn (.inl (mem_of_lookup f2))
 have cl_i : cl.lookup ("inner" : Str) = some ci := by rw [hcl]; exact zdg hci (.inl (mem_of_lookup f3))
 have cl_a : cl.lookup ("a_digits" : Str) = some cc := by rw [hcl]; exact zdg hcc (.inl (mem_of_lookup f4))
 have cl_sub : ∀ x c, cl.lookup x = some c -> env.cells.lookup x = some c := fun x c e => by
  rw [hcl] at e
  rcases zgm e with h | h
  ·cases h
  ·exact h.2
 obtain ⟨q0, r0, hq0⟩ : ∃ q0 r0, cl = q0 :: r0 := by
  cases cl with
  | nil => cases cl_n
  | cons q r => exact ⟨q, r, rfl⟩
 refine kP1 ?_
 refine wpAny_execs_cons (wpAny_mono (zmc (s := { s with heap := G2, toks := tk2 }) S2 J2.B J2.B.t1 (by rw [henv]; exact ztf w) (.inl ⟨rfl, rfl, rfl, rfl, rfl⟩) hline hcol (by rw [henv]; exact ztc w) (zqg w).1 (zqg w).2 (by rw [henv]; exact zw4 w) hfree (by rw [<- hcl]; exact hq0) (by rw [hkf]; exact k1) (fun ds e => by cases e)) (fun fl s3 y => ?_) fun _ _ f => f.elim)
 refine byP fun P2 kP2 => ?_
 obtain ⟨f, c', doc, pm, ctv, G3, tk3, rfl, rfl, B3, ch3, S3, hf0, hfl, gf, hrec, hc'⟩ := y
 rw [<- hq0] at gf
 have J3 : Jnv w mb env X s.heap env.locals ⟨("inner", .any (.ref f)) :: σa a n, zgt (List.replicate (zcd a n).toNat 0)⟩ X2 G3 := J2.step (N := []) B3 ch3 (fun _ h => by cases h) S3
 obtain ⟨aD, vs3, nn3, v1, v2, v3, v4, v5, v6, v7, v8⟩ := J3.S.own "a_digits" _ rfl
 have J3' : Jnv w mb env X s.heap aD ⟨("inner", .any (.ref f)) :: σa a n, zgt (List.replicate (zcd a n).toNat 0)⟩ X2 G3 := J3.to hl
 have haD : s.heap.get? aD = none := by
  rcases J3.xs aD v6 with q | q | q
  ·exact absurd q v4
  ·exact absurd q v3
  ·exact q
 have varCell : ∀ {x : Str} {v : Value} {c : Addr}, zbl env G3 x v -> zab w 125 x = some .cell -> env.cells.lookup x = some c -> G3.IsCell c (some v) := by
  intro x v c V hk' hc
  rcases V with ⟨q, _⟩ | ⟨_, c2, e2, e3⟩
  ·rw [hkf, hk'] at q; cases q
  ·rw [hc] at e2; cases e2; exact e3
 have ca3 : G3.IsCell cc (some (.ref aD)) := varCell v1 k3 hcc
 have hlen : (List.replicate (zcd a n).toNat (0 : Int)).length = (zcd a n).toNat := List.length_replicate
 have hI3 : IntsAre vs3 (List.replicate (zcd a n).toNat 0) := zcu v8 (zbo _)
 have I3 : Inn w G3 f aD n cl := {
  fn := ⟨c', doc, pm, ctv, gf, hrec, hc'⟩
  C := {
   low := fun x c e => (S3.eok.cells x c (cl_sub x c e)).1
   apart := fun x y c e1 e2 => S3.eok.apart x y c (cl_sub x c e1) (cl_sub y c e2)
   nocell := fun p hp => of_decide_eq_true (List.all_eq_true.mp (znk w) p hp)
   kind := ztd w
   live := fun x c e => S3.live c (S3.celX x c (cl_sub x c e)) }
  nn := by
   obtain ⟨v, V, r⟩ := S3.vars "n" (.int n) rfl
   obtain ⟨t, rfl⟩ := r.inv
   exact ⟨cn, _, cl_n, varCell V k2 hcn⟩
  ii := by
   obtain ⟨v, V, r⟩ := S3.vars "inner" (.any (.ref f)) rfl
   obtain ⟨rfl, _⟩ := r.inv
   exact ⟨ci, cl_i, varCell V k1 hci⟩
  aa := ⟨cc, cl_a, ca3⟩
  lowf := hfl
  lowa := v2
  ne := fun x c e => v5 x c (cl_sub x c e) }
 have C4 : ∀ {x c}, cl.lookup x = some c -> c ≠ env.locals := fun e => (S3.eok.cells _ _ (cl_sub _ _ e)).2
 have hfL : f ≠ env.locals := fun q => by
  obtain ⟨o, eo⟩ := S2.live env.locals S2.locX
  rw [<- q] at eo
  dsimp only at hf0
  rw [hf0] at eo; cases eo
 refine kP2 ?_
 dsimp only
 refine wpAny_execs_cons (wpAny_If ((sndT (H0 w mb) 12 { s with heap := G3, toks := tk3 } (e := .Name "a" (pp 1)) (d := .int a) (k := .froz) (b := (a != 0)) hA6 J3'.S J3'.B (by rw [hkf]; kernel_rfl) rfl).use fun z G4 tk4 k4' b4 ez => ?_))
 subst ez
 have J4 := J3'.kp k4' b4 hl
 have g4 : G4.get? aD = some (zbz vs3 nn3) := k4'.1 _ _ v3 (zaq v2) v7
 obtain ⟨mL, nL⟩ := S3.ns
 have I4 : Inn w G4 f aD n cl := I3.move (zhy nL) (fun x c e o => k4'.1 c o (C4 e) (zaq (I3.C.low x c e))) (fun x c e => (I3.C.live x c e).imp fun o => k4'.1 c o (C4 e) (zaq (I3.C.low x c e))) k4'.1
 have done : ∀ {G : Heap} {tk : Nat} {c : Mine.St} {X5 : List Addr}, Jnv w mb env X s.heap aD c X5 G -> c.own = zgt (zf8 a n) -> c.σ.lookup ("a_digits" : Str) = none ->
   wpAny (model pg w) A' (execs [.Return (some (.Name "a_digits" (pp 11))) (pp 12)] env) (fun fl s' => match fl with | .ret v => Q v s' | .next => Q .none s' | _ => False) (fun _ _ => False) { s with heap := G, toks := tk } := fun {G tk c X5} J ho hs =>
  wpAny_execs_cons (wpAny_Return_some (((zao (H0 w mb) 12).1 hA6 (s := { s with heap := G, toks := tk }) J.S J.B (zal (n := 11) (zn4 (by decide +kernel) hs ho))).use fun v G2 tk2 kk bb rr =>
   hQ _ _ ⟨G2, tk2, rfl, fun b o h1 e => (J.kp kk bb hl).keep b o h1 (fun q => zaf (haD.symm.trans (show s.heap.get? aD = _ from q ▸ e))) e, bb, rr.repY J.S.subY⟩))
 by_cases h0 : a = 0
 ·have hb0 : (a != 0) = false := by simp [h0]
  rw [hb0]
  refine wpAny_execs_nil ?_
  dsimp only
  exact done J4 (congrArg zgt (if_pos h0).symm) rfl
 ·have hb1 : (a != 0) = true := by simpa using h0
  rw [hb1]
  have nd0 := h3 h0
  refine wpAny_execs_cons (wpAny_Expr_any ?_ (zd7 J4.S.eok) rfl)
  obtain ⟨c7, doc7, pm7, ctv7, g7, _, _⟩ := I4.fn
  have elen : zaa O0 12 ⟨env.kindOf, ("inner", .any (.ref f)) :: σa a n, zgt (List.replicate (zcd a n).toNat 0)⟩ (.Call (.Name "len" (pp 6)) [.Name "a_digits" (pp 7)] [] (pp 8)) = some (.int (zcd a n), .froz) := by
   refine zio (n := 11) (l := [(.lst ((List.replicate (zcd a n).toNat (0 : Int)).map .int), .brw)]) (by rw [hkf]; exact k4) (by decide +kernel) (zaj (zal (n := 10) (zn4 (by decide +kernel) rfl rfl)) zbc) rfl ?_
   rw [show zis "len" = zbr from funext fun l => if_pos rfl]
   unfold zbr
   dsimp only
   rw [List.length_map, hlen, if_pos (by rw [sizeLine_eq]; lia)]
   have : (((zcd a n).toNat : Nat) : Int) = zcd a n := by lia
   rw [this]; rfl
  refine zdn (H0 w mb) hA6 (s := { s with heap := G4, toks := tk4 }) J4.S J4.B (x := "inner") (f := f) rfl (by decide +kernel) (l := [(.int a, .froz), (.int 0, .froz), (.int (zcd a n), .froz)]) (zaj (by rw [hkf]; kernel_rfl) (zaj (by rw [hkf]; kernel_rfl) (zaj elen zbc))) rfl ⟨hfl, hfL⟩ g7 rfl fun G5 tk5 ws5 k5 b5 r5 => ?_
  have J5 := J4.kp k5 b5 hl
  obtain ⟨mL4, nL4⟩ := J4.S.ns
  have I5 := I4.move (zhy nL4) (fun x c e o => k5.1 c o (C4 e) (zaq (I4.C.low x c e))) (fun x c e => (I4.C.live x c e).imp fun o => k5.1 c o (C4 e) (zaq (I4.C.low x c e))) k5.1
  have g5 : G5.get? aD = some (zbz vs3 nn3) := k5.1 _ _ v3 (zaq v2) g4
  refine r5.int3' fun _ _ _ => ?_
  refine wpAny_mono (zs8 (zcd a n).toNat (s := { s with heap := G5, toks := tk5 }) (hA'.le (by lia)) b5 I5 g5 hI3 (by decide) nd0 (by rw [hlen]; lia) (by rw [hlen]; lia) (by lia) ha ha2 (by lia) hn2) (fun u s6 z => ?_) fun _ _ f => f.elim
  obtain ⟨G6, tk6, vs6, nn6, rfl, b6, kk6, g6, i6⟩ := z
  refine wpAny_execs_nil ?_
  have J6 : Jnv w mb env X s.heap aD ⟨("inner", .any (.ref f)) :: σa a n, zgt (zjx n (zcd a n).toNat a 0 (zcd a n) (List.replicate (zcd a n).toNat 0))⟩ X2 G6 :=
   ⟨b6, J5.S.mut2 b6 ((v1.kp S3.eok k4').kp S3.eok k5) v2 v3 v4 v5 v6 kk6 g6 (zco i6), fun b o q1 q2 e => kk6 b o q1 q2 (J5.keep b o q1 q2 e), J5.xs⟩
  exact done J6 (congrArg zgt (if_neg h0).symm) rfl
end
noncomputable def zcy (n : Nat) : List Int -> Int
 | [] => 0
 | d :: r => d + 2 ^ n * zcy n r
theorem zfq (n : Nat) : ∀ a b : List Int, zcy n (a ++ b) = zcy n a + 2 ^ (n * a.length) * zcy n b
 | [], b => by simp [zcy]
 | d :: r, b => by
  simp only [List.cons_append, zcy, List.length_cons]
  rw [zfq n r b, Int.mul_add, <- Int.mul_assoc, <- Int.pow_add, Nat.mul_add, Nat.mul_one, Nat.add_comm (n * r.length) n]
  lia
theorem zmq (n : Nat) {a : List Int} : (∀ d ∈ a, 0 <= d /\ d < 2 ^ n) -> 0 <= zcy n a /\ zcy n a < 2 ^ (n * a.length) := by
 induction a with
 | nil =>
  intro _
  simp [zcy]
 | cons d r IH =>
  intro h
  have h1 := h d (.head _)
  have h2 := IH fun d hd => h d (.tail _ hd)
  simp only [zcy, List.length_cons]
  have hp : (0 : Int) < 2 ^ n := by exact_mod_cast Nat.pow_pos (by decide : 0 < 2)
  refine ⟨Int.add_nonneg h1.1 (Int.mul_nonneg (Int.le_of_lt hp) h2.1), ?_⟩
  have e : (2 : Int) ^ (n * (r.length + 1)) = 2 ^ n * 2 ^ (n * r.length) := by rw [<- Int.pow_add, Nat.mul_add, Nat.mul_one, Nat.add_comm]
  rw [e]
  have h3 : zcy n r + 1 <= 2 ^ (n * r.length) := h2.2
  have h4 := Int.mul_le_mul_of_nonneg_left h3 (Int.le_of_lt hp)
  rw [Int.mul_add, Int.mul_one] at h4
  lia
section
noncomputable abbrev zy5 (w : World) := (zy9 w 132 0).1
noncomputable abbrev jbd (w : World) := (zy9 w 132 0).2.1
noncomputable abbrev jsc (w : World) := (zy9 w 132 0).2.2
theorem b132 (w : World) : ∃ (pp : Nat -> Pos), zay w 132 = [.FunctionDef "inner" (zy5 w) (jbd w) [] none [] (jsc w) none "inner" (pp 0),
  .Return (some (.IfExp (.Name "digits" (pp 1)) (.Call (.Name "inner" (pp 2)) [.Constant (.int 0) 0 (pp 3), .Call (.Name "len" (pp 4)) [.Name "digits" (pp 5)] [] (pp 6)] [] (pp 7)) (.Constant (.int 0) 0 (pp 8)) (pp 9))) (pp 10)] /\ (pp 0).line = 105 /\ (pp 0).col = 4 :=
 ⟨fun i => [_, _, _, _, _, _, _, _, _, _, _].getD i default, rfl, rfl, rfl⟩
noncomputable def jbs (w : World) (i : Nat) : PySem.Stmt := (jbd w).getD i (.Pass default)
noncomputable def jbt (w : World) : PySem.Expr := match jbs w 0 with
 | .If t _ _ _ => t
 | _ => .Constant .none 0 default
theorem bjbd (w : World) : ∃ (pp : Nat -> Pos), jbd w = [.If (jbt w) [.Return (some (.Subscript (.Name "digits" (pp 0)) (.Name "L" (pp 1)) (pp 2))) (pp 3)] [] (pp 4), jbs w 1, jbs w 2,
  .Return (some (.BinOp (.BinOp (.Call (.Name "inner" (pp 5)) [.Name "mid" (pp 6), .Name "R" (pp 7)] [] (pp 8)) .LShift (.Name "shift" (pp 9)) (pp 10)) .Add (.Call (.Name "inner" (pp 11)) [.Name "L" (pp 12), .Name "mid" (pp 13)] [] (pp 14)) (pp 15))) (pp 16)] :=
 ⟨fun i => [_, _, _, _, _, _, _, _, _, _, _, _, _, _, _, _, _].getD i default, rfl⟩
theorem jbs2 (w : World) : ∃ (pp : Nat -> Pos), jbs w 2 = .Assign [.Name "shift" (pp 0)] (.BinOp (.BinOp (.Name "mid" (pp 1)) .Sub (.Name "L" (pp 2)) (pp 3)) .Mult (.Name "n" (pp 4)) (pp 5)) (pp 6) := ⟨fun i => [_, _, _, _, _, _, _].getD i default, rfl⟩
noncomputable abbrev kfj (w : World) : Kf := fun x => (jsc w).names.lookup x
noncomputable abbrev da (f : Addr) (L R n : Int) (ds : List Int) : List (Str × D) := [("L", .int L), ("R", .int R), ("n", .int n), ("inner", .any (.ref f)), ("digits", .lst (ds.map .int))]
noncomputable abbrev dm (f : Addr) (L R n M : Int) (ds : List Int) : List (Str × D) := [("L", .int L), ("R", .int R), ("n", .int n), ("inner", .any (.ref f)), ("digits", .lst (ds.map .int)), ("mid", .int M)]
noncomputable abbrev dq (f : Addr) (L R n M S : Int) (ds : List Int) : List (Str × D) := [("L", .int L), ("R", .int R), ("n", .int n), ("inner", .any (.ref f)), ("digits", .lst (ds.map .int)), ("mid", .int M), ("shift", .int S)]
section
variable {w : World} {f : Addr} {L R n M S : Int} {ds : List Int}
theorem zwx : zaa O0 12 ⟨kfj w, da f L R n ds, none⟩ (jbt w) = some (.bool (L + 1 == R), .froz) := by kernel_rfl
theorem z06 : zae O0 [] (kfj w) 12 ⟨da f L R n ds, none⟩ (jbs w 1) = some (⟨dm f L R n ((L + R).fdiv 2) ds, none⟩, .next) := by kernel_rfl
theorem zs1 (h : Builtin.Int.intBits (M - L) <= 64) : zae O0 [] (kfj w) 12 ⟨dm f L R n M ds, none⟩ (jbs w 2) = some (⟨dq f L R n M ((M - L) * n) ds, none⟩, .next) := by
 obtain ⟨pp, e⟩ := jbs2 w
 rw [e]
 refine zai (r := (.int ((M - L) * n), .froz)) (za3 (a := .int (M - L)) (b := .int n) (k1 := .froz) (k2 := .froz) (by kernel_rfl) (by kernel_rfl) ?_) (by kernel_rfl)
 show (if Builtin.Int.intBits (M - L) <= 64 then some (D.int ((M - L) * n)) else none).map (·, Kd.froz) = _
 rw [if_pos h]; rfl
end
noncomputable abbrev jQ : Str := "_digits2int.<locals>.inner"
structure Jnn (w : World) (h : Heap) (f aD : Addr) (n : Int) (cl : List (Str × Addr)) : Prop where
 fn : FnIn h f jQ (zy5 w) (jbd w) (jsc w) cl
 C : Clo h cl (jsc w)
 nn : ∃ c t, cl.lookup ("n" : Str) = some c /\ h.IsCell c (some (.int n t))
 ii : ∃ c, cl.lookup ("inner" : Str) = some c /\ h.IsCell c (some (.ref f))
 dd : ∃ c, cl.lookup ("digits" : Str) = some c /\ h.IsCell c (some (.ref aD))
 lowf : 227 < f
 ttA : aD ∉ TT
 ne : ∀ x c, cl.lookup x = some c -> c ≠ aD
theorem Jnn.move {w : World} {h h' : Heap} {f aD L : Addr} {n : Int} {cl : List (Str × Addr)} (I : Jnn w h f aD n cl) (hL : ∀ o, h.get? L = some o -> (∀ fd, o.data ≠ .func fd) /\ ∀ vs, o.data ≠ .fields vs) (hc : ∀ x c, cl.lookup x = some c -> ∀ o, h.get? c = some o -> h'.get? c = some o)
  (k : ∀ b o, b ≠ L -> b ∉ TT -> h.get? b = some o -> h'.get? b = some o) : Jnn w h' f aD n cl where
 fn := I.fn.at' I.lowf hL k
 C := { I.C with live := fun x c e => (I.C.live x c e).imp fun o => hc x c e o }
 nn := I.nn.imp fun c => Exists.imp fun t e => ⟨e.1, zhl e.2 (hc _ c e.1)⟩
 ii := I.ii.imp fun c e => ⟨e.1, zhl e.2 (hc _ c e.1)⟩
 dd := I.dd.imp fun c e => ⟨e.1, zhl e.2 (hc _ c e.1)⟩
 lowf := I.lowf
 ttA := I.ttA
 ne := I.ne
theorem Jnn.keep {w : World} {n : Int} {h h' : Heap} {f aD : Addr} {cl : List (Str × Addr)} (I : Jnn w h f aD n cl) (k : ∀ b o, b ∉ TT -> h.get? b = some o -> h'.get? b = some o) : Jnn w h' f aD n cl :=
 I.move (L := h.objs.size) (fun o e => absurd (Heap.lt_size e) (Nat.lt_irrefl _)) (fun x c e o => k c o (zaq (I.C.low x c e))) fun b o _ => k b o
noncomputable abbrev psJ : List Str := ["L", "R"]
theorem zje (w : World) : (∀ x ∈ psJ, (jsc w).names.lookup x = some .local) /\ (jsc w).names.lookup ("n" : Str) = some .free /\ (jsc w).names.lookup ("inner" : Str) = some .free /\ (jsc w).names.lookup ("digits" : Str) = some .free /\ (jsc w).isCoroutine = false /\ (jsc w).isGenerator = false := by
 refine ⟨?_, by kernel_rfl, by kernel_rfl, by kernel_rfl, by kernel_rfl, by kernel_rfl⟩
 intro x hx
 simp only [psJ, List.mem_cons, List.mem_nil_iff, or_false] at hx
 rcases hx with rfl | rfl <;> kernel_rfl
theorem jbind (w : World) {cl : List (Str × Addr)} {doc pm ctv : Value} {c' : Addr} {v1 v2 : Value} : bindArgs (fnX "inner" jQ (zy5 w) (jbd w) (jsc w) cl .none .none doc pm none (.ref c') ctv) ⟨[v1, v2], []⟩ = pure (psJ.zip [v1, v2]) := by kernel_rfl
noncomputable def seg (ds : List Int) (L R : Int) : List Int := (ds.drop L.toNat).take (R - L).toNat
section
variable {w : World} {mb : Str -> Option Value}
inductive JnP (w : World) (mb : Str -> Option Value) (s : Shared) (i : Int) (u : Value) (s' : Shared) : Prop
 | mk (h' : Heap) (tk : Nat) (t : Tok) (e : u = .int i t) (e2 : s' = { s with heap := h', toks := tk }) (B : Base w mb h') (k : ∀ b o, b ∉ TT -> s.heap.get? b = some o -> h'.get? b = some o)
noncomputable def JnnOk (w : World) (mb : Str -> Option Value) (m : Nat) : Prop := ∀ {A : Around} {s : Shared} {L R : Int} {n : Nat} {f aD : Addr} {cl : List (Str × Addr)} {vs : List Value} {nn : Nat} {ds : List Int} {t1 t2 : Tok}, Rm A (7 + m) -> Base w mb s.heap -> Jnn w s.heap f aD n cl ->
 s.heap.get? aD = some (zbz vs nn) -> IntsAre vs ds -> 0 <= L -> L < R -> R <= ds.length -> ds.length <= 100 -> R - L <= m -> n * ds.length <= 200 -> (∀ d ∈ ds, 0 <= d /\ d < 2 ^ n) ->
 wpAny (model pg w) A (call (.ref f) [.int L t1, .int R t2] []) (JnP w mb s (zcy n (seg ds L R))) (fun _ _ => False) s
theorem zo2 {ds : List Int} {L M R : Int} (h0 : 0 <= L) (h1 : L <= M) (h2 : M <= R) (h3 : R <= ds.length) : seg ds L R = seg ds L M ++ seg ds M R /\ (seg ds L M).length = (M - L).toNat := by
 obtain ⟨l, rfl⟩ := Int.eq_ofNat_of_zero_le h0
 obtain ⟨m, rfl⟩ := Int.eq_ofNat_of_zero_le (Int.le_trans h0 h1)
 obtain ⟨r, rfl⟩ := Int.eq_ofNat_of_zero_le (Int.le_trans h0 (Int.le_trans h1 h2))
 have h1 := Int.ofNat_le.mp h1
 have h2 := Int.ofNat_le.mp h2
 have h3 := Int.ofNat_le.mp h3
 unfold seg
 rw [Int.toNat_sub, Int.toNat_sub, Int.toNat_sub, Int.toNat_natCast, Int.toNat_natCast, (Nat.sub_add_sub_cancel h2 h1).symm, Nat.add_comm, List.take_add, List.drop_drop, Nat.add_sub_of_le h1, List.length_take, List.length_drop]
 exact ⟨rfl, Nat.min_eq_left (Nat.sub_le_sub_right (Nat.le_trans h2 h3) l)⟩
theorem z07 (m : Nat) : JnnOk w mb m := by
 induction m with
 | zero =>
  intro A s L R n f aD cl vs nn ds t1 t2 hA B I g hI h1 h2 h3 h4 h5
  exfalso
  lia
 | succ m ih =>
  intro A s L R n f aD cl vs nn ds t1 t2 hA B I g hI h1 h2 h3 h4 h5 h6 h7
  refine genQ fun Q hQ => ?_
  obtain ⟨c', doc, pm, ctv, e1, e2, e3⟩ := I.fn
  obtain ⟨cn, tn, n1, n2⟩ := I.nn
  obtain ⟨ci, i1, i2⟩ := I.ii
  obtain ⟨cad, a1, a2⟩ := I.dd
  obtain ⟨f1, f2, f3, f4, f5, f6⟩ := zje w
  obtain ⟨cs, hcs⟩ : ∃ cs, cs = (cl.filter fun p => cl.lookup p.1 == some p.2).map (·.2) := ⟨_, rfl⟩
  have cellIn : ∀ x c, cl.lookup x = some c -> c ∈ cs := fun x c e => hcs ▸ List.mem_map.mpr ⟨(x, c), List.mem_filter.mpr ⟨mem_of_lookup e, by simp [e]⟩, rfl⟩
  have cellHas : ∀ c ∈ cs, ∃ x, cl.lookup x = some c := fun c hc => by
   rw [hcs] at hc
   obtain ⟨p, hp, rfl⟩ := List.mem_map.mp hc
   exact ⟨p.1, by simpa using (List.mem_filter.mp hp).2⟩
  have ttLive : ∀ {h : Heap}, Base w mb h -> ∀ a ∈ TT, ∃ o, h.get? a = some o := fun B a ha => by
   rcases List.mem_cons.mp ha with rfl | ha
   ·obtain ⟨_, ps, e, _⟩ := B.t2; exact ⟨_, e⟩
   ·rcases List.mem_cons.mp ha with rfl | ha
    ·obtain ⟨_, ps, e, _⟩ := B.t1; exact ⟨_, e⟩
    ·cases ha
  have aY : aD ∉ cs ++ TT := fun q => (List.mem_append.mp q).elim (fun q => let ⟨x, e⟩ := cellHas _ q; I.ne x _ e rfl) I.ttA
  refine wpAny_call (zjn (K := 7 + m) (X := cs ++ TT) (Y := cs ++ TT) (args := [.int L, .int R]) (ps := psJ) (σc := [("n", .int n), ("inner", .any (.ref f)), ("digits", .lst (ds.map .int))]) (own := none) e1 e2 B hA I.C (jbind w) f1 (by decide +kernel) rfl (.cons (.int ..) (.cons (.int ..) .nil))
   (fun a ha => ?_) (fun a ha => List.mem_append_right _ ha) (fun a ha => List.mem_append_right _ ha) (fun a ha => ha) (fun x c e => List.mem_append_left _ (cellIn x c e)) (fun y d e => ?_) (fun y l e => by cases e) f5 f6 fun A' env G1 tk1 hA' hk hL hC S B1 keep1 => ?_)
  ·rcases List.mem_append.mp ha with ha | ha
   ·obtain ⟨x, e⟩ := cellHas a ha; exact I.C.live x a e
   ·exact ttLive B a ha
  ·exact z02 e (fun h q => by subst h; subst q; exact ⟨cn, _, n1, f2, n2, .int ..⟩) fun e => z02 e (fun h q => by subst h; subst q; exact ⟨ci, _, i1, f3, i2, .any rfl⟩) fun e => z02 e (fun h q => by subst h; subst q; exact ⟨cad, _, a1, f4, a2, .lst aY g (zco hI)⟩) fun e => zaf e
  ·obtain ⟨pp, hb⟩ := bjbd w
   rw [hb]
   have hkf : env.kindOf = kfj w := hk
   have hA6 : Rm A' 6 := hA'.le (by lia)
   have hl : s.heap.get? env.locals = none := by rw [hL]; exact zam (Nat.le_refl _)
   have hfL : f ≠ env.locals := fun q => by rw [<- q, e1] at hl; cases hl
   have hlTT : env.locals ∉ TT := zaq S.eok.low
   have J : Jnv w mb env (cs ++ TT) s.heap env.locals ⟨da f L R n ds, none⟩ (s.heap.objs.size :: (cs ++ TT)) G1 := {
    B := B1
    S := S
    keep := fun b o _ _ e => keep1 b o e
    xs := fun b hb => by
     rcases List.mem_cons.mp hb with rfl | hb
     ·exact .inr (.inr (zam (Nat.le_refl _)))
     ·exact .inl hb }
   have keepAll : ∀ {c : Mine.St} {X : List Addr} {h : Heap}, Jnv w mb env (cs ++ TT) s.heap env.locals c X h -> ∀ b o, b ∉ TT -> s.heap.get? b = some o -> h.get? b = some o := fun J b o h1 e => J.keep b o h1 (fun q => by rw [q, hl] at e; cases e) e
   refine wpAny_execs_cons (wpAny_If ((sndT (H0 w mb) 12 { s with heap := G1, toks := tk1 } (e := jbt w) (d := .bool (L + 1 == R)) (k := .froz) (b := (L + 1 == R)) hA6 J.S J.B (by rw [hkf]; exact zwx) rfl).use fun z G2 tk2 k2 b2 ez => ?_))
   subst ez
   have J2 := J.kp k2 b2 hl
   by_cases hLR : (L + 1 == R) = true
   ·rw [hLR]
    have hLR' : L + 1 = R := by simpa using hLR
    have hlt : L.toNat < ds.length := (Int.toNat_lt h1).mpr (Int.lt_of_lt_of_le h2 h3)
    have eitem : zaa O0 12 ⟨env.kindOf, da f L R n ds, none⟩ (.Subscript (.Name "digits" (pp 0)) (.Name "L" (pp 1)) (pp 2)) = some (.int (ds[L.toNat]'hlt), .froz) := by
     refine zfb (n := 11) (o := .lst (ds.map .int)) (i := .int L) (k1 := .froz) (k2 := .froz) rfl (by rw [hkf]; kernel_rfl) (by rw [hkf]; kernel_rfl) ?_
     show zjy (ds.map .int) L = _
     unfold zjy
     rw [if_pos h1, if_pos (by lia), List.getElem?_map, List.getElem?_eq_getElem hlt]; rfl
    refine wpAny_execs_cons (wpAny_Return_some (((zao (H0 w mb) 12).1 hA6 (s := { s with heap := G2, toks := tk2 }) J2.S J2.B eitem).use fun v G3 tk3 k3 b3 r3 => ?_))
    have J3 := J2.kp k3 b3 hl
    refine Res.int' r3 fun t3 => ?_
    have eseg : seg ds L R = [ds[L.toNat]'hlt] := by
     unfold seg
     have : (R - L).toNat = 1 := by rw [<- hLR', Int.add_comm, Int.add_sub_cancel]; rfl
     rw [this, List.drop_eq_getElem_cons hlt]; rfl
    have ev : zcy n (seg ds L R) = ds[L.toNat]'hlt := by rw [eseg]; simp [zcy]
    exact hQ _ _ ⟨G3, tk3, t3, by rw [ev], rfl, b3, keepAll J3⟩
   ·have hLRf : (L + 1 == R) = false := by simpa using hLR
    have hLR' : ¬ L + 1 = R := by simpa using hLR
    rw [hLRf]
    refine wpAny_execs_nil ?_
    dsimp only
    obtain ⟨M, hM⟩ : ∃ M, M = (L + R).fdiv 2 := ⟨_, rfl⟩
    have hMd : M = (L + R) / 2 := by rw [hM]; exact Int.fdiv_eq_ediv_of_nonneg _ (by decide)
    obtain ⟨hM1, hM2⟩ := zpo hMd h2 hLR'
    obtain ⟨b1, b2, b3, b4⟩ := zly h1 hM1 hM2 h3 h5
    have hML := zpn h1 hM2 h3
    have hML0 := Int.sub_nonneg_of_le (Int.le_of_lt hM1)
    obtain ⟨Sh, hS⟩ : ∃ Sh, Sh = (M - L) * (n : Int) := ⟨_, rfl⟩
    have hSn : Sh = (((M - L).toNat * n : Nat) : Int) := by
     rw [hS, Int.natCast_mul, Int.toNat_of_nonneg hML0]
    have hle : (M - L).toNat * n <= 200 := Nat.le_trans (Nat.mul_le_mul_right n (Int.toNat_le.mpr hML)) (Nat.mul_comm n ds.length ▸ h6)
    have hS0 : 0 <= Sh := by rw [hSn]; exact Int.natCast_nonneg _
    refine J2.execK (s := { s with heap := G2, toks := tk2 }) (n := 12) (mv := []) hA6 (by rw [hkf]; exact z06) fun X3 G3 tk3 J3 => ?_
    rw [<- hM] at J3
    refine J3.execK (s := { s with heap := G3, toks := tk3 }) (n := 12) (mv := []) hA6 (by rw [hkf]; exact zs1 (zmh hML0 hML h4)) fun X4 G4 tk4 J4 => ?_
    rw [<- hS] at J4
    have rec_call : ∀ {G7 : Heap} {tk7 : Nat} {L' R' : Int} {es : List PySem.Expr} {p q : Pos} {Q : Value -> Shared -> Prop}, Jnv w mb env (cs ++ TT) s.heap env.locals ⟨dq f L R n M Sh ds, none⟩ X4 G7 -> zb5 (zaa O0 12 ⟨env.kindOf, dq f L R n M Sh ds, none⟩) es = some [(.int L', .froz), (.int R', .froz)] ->
      0 <= L' -> L' < R' -> R' <= ds.length -> R' - L' <= m -> (∀ h' tk t, Jnv w mb env (cs ++ TT) s.heap env.locals ⟨dq f L R n M Sh ds, none⟩ X4 h' -> Q (.int (zcy n (seg ds L' R')) t) { s with heap := h', toks := tk }) ->
      wpAny (model pg w) A' (eval (.Call (.Name "inner" p) es [] q) env) Q (fun _ _ => False) { s with heap := G7, toks := tk7 } := by
     intro G7 tk7 L' R' es p q Q J7 hm c1 c2 c3 c4 hQ
     have I7 : Jnn w G7 f aD n cl := I.keep (keepAll J7)
     obtain ⟨c7, doc7, pm7, ctv7, g7, _, _⟩ := I7.fn
     refine zdn (H0 w mb) hA6 (s := { s with heap := G7, toks := tk7 }) J7.S J7.B (x := "inner") (f := f) rfl (by decide +kernel) hm rfl ⟨I.lowf, hfL⟩ g7 rfl fun H8 tk8 ws8 k8 b8 r8 => ?_
     have J8 := J7.kp k8 b8 hl
     refine r8.int2' fun _ _ => ?_
     refine wpAny_mono (ih (s := { s with heap := H8, toks := tk8 }) hA' b8 (I.keep (keepAll J8)) (keepAll J8 _ _ I.ttA g) hI c1 c2 c3 h4 c4 h6 h7) (fun u s9 z => ?_) fun _ _ f => f.elim
     obtain ⟨h9', tk9, t9, rfl, rfl, b9, k9⟩ := z
     exact hQ h9' tk9 t9 (J8.kp (zkm J8.S.eok.low k9) b9 hl)
    refine wpAny_execs_cons (wpAny_Return_some (wpAny_BinOp (wpAny_BinOp (rec_call J4 (L' := M) (R' := R) (by rw [hkf]; kernel_rfl) b1 hM2 h3 b2 fun G5 tk5 t5 J5 => ?_))))
    refine ((zao (H0 w mb) 12).1 hA6 (s := { s with heap := G5, toks := tk5 }) (d := .int Sh) (k := .froz) J5.S J5.B (by rw [hkf]; kernel_rfl)).use fun v6 G6 tk6 k6 b6 r6 => ?_
    refine Res.int' r6 fun t6 => ?_
    have J6 := J5.kp k6 b6 hl
    have hvb : 0 <= zcy n (seg ds M R) /\ zcy n (seg ds M R) < 2 ^ (n * (seg ds M R).length) := zmq n fun d hd => h7 d (List.mem_of_mem_drop (List.mem_of_mem_take hd))
    have hslen : n * (seg ds M R).length <= 200 := by
     have : (seg ds M R).length <= ds.length := by unfold seg; rw [List.length_take, List.length_drop]; exact Nat.le_trans (Nat.min_le_right _ _) (Nat.sub_le _ _)
     exact Nat.le_trans (Nat.mul_le_mul_left _ this) h6
    have hvlt : zcy n (seg ds M R) < 2 ^ 200 := Int.lt_of_lt_of_le hvb.2 (by exact_mod_cast Nat.pow_le_pow_right (by decide) hslen)
    have hbit : Builtin.Int.intBits (zcy n (seg ds M R)) <= 200 := zle hvb.1 hvlt
    refine (zil (X := X4) (L := env.locals) (s := { s with heap := G6, toks := tk6 }) (op := .LShift) (d := .int (zcy n (seg ds M R) * 2 ^ Sh.toNat)) hA'.hh ?_ J6.B).use fun v7 G7 tk7 k7 b7 r7 => ?_
    ·show (if 0 <= Sh /\ (Builtin.Int.intBits (zcy n (seg ds M R)) : Int) + Sh <= 2 ^ 27 then some (D.int (zcy n (seg ds M R) * 2 ^ Sh.toNat)) else none) = _
     rw [if_pos ⟨hS0, zzg hbit (by rw [hSn]; exact Int.le_trans (Int.ofNat_le.mpr hle) (by decide))⟩]
    refine r7.int' fun t7 => ?_
    have J7 := J6.kp k7 b7 hl
    refine rec_call J7 (L' := L) (R' := M) (by rw [hkf]; kernel_rfl) h1 hM1 b3 b4 fun G8 tk8 t8 J8 => ?_
    refine (zil (X := X4) (L := env.locals) (s := { s with heap := G8, toks := tk8 }) (op := .Add) (d := .int (zcy n (seg ds M R) * 2 ^ Sh.toNat + zcy n (seg ds L M))) hA'.hh rfl J8.B).use fun v9 G9 tk9 k9 b9 r9 => ?_
    refine r9.int' fun t9 => ?_
    have J9 := J8.kp k9 b9 hl
    have ev : zcy n (seg ds L R) = zcy n (seg ds M R) * 2 ^ Sh.toNat + zcy n (seg ds L M) := by
     obtain ⟨s1, s2⟩ := zo2 h1 (Int.le_of_lt hM1) (Int.le_of_lt hM2) h3
     rw [s1, zfq, s2]
     have : Sh.toNat = n * (M - L).toNat := by rw [hSn, Int.toNat_natCast, Nat.mul_comm]
     rw [this, Int.mul_comm, Int.add_comm]
    exact hQ _ _ ⟨G9, tk9, t9, by rw [ev], rfl, J9.B, keepAll J9⟩
end
end
section
theorem zub (w : World) : ((jsc w).names.all fun p => if p.2 = .free then zab w 132 p.1 == some .cell else true) = true := by kernel_rfl
theorem zns (w : World) : ((jsc w).names.all fun p => decide (p.2 ≠ .cell)) = true := by kernel_rfl
theorem zua (w : World) : (jsc w).kind = .function := by kernel_rfl
theorem zuc (w : World) {L : Addr} : (callEnvC (zer w 132) L 132).code = .ref 131 := by kernel_rfl
theorem zt9 (w : World) {L : Addr} : qualnameIn (callEnvC (zer w 132) L 132) "inner" "inner" = jQ := by kernel_rfl
theorem zx6 (w : World) {L : Addr} : annTrees (zy5 w) none (callEnvC (zer w 132) L 132) = [] := by kernel_rfl
theorem zqx (w : World) : (zy5 w).defaults = [] /\ (zy5 w).kw_defaults = [] := ⟨by kernel_rfl, by kernel_rfl⟩
theorem z15 (w : World) : zab w 132 "inner" = some .cell /\ zab w 132 "n" = some .cell /\ zab w 132 "digits" = some .cell /\ zab w 132 "len" = some .globalImplicit := ⟨by kernel_rfl, by kernel_rfl, by kernel_rfl, by kernel_rfl⟩
variable {w : World} {mb : Str -> Option Value} {n : Nat} {ds : List Int}
noncomputable abbrev σd (n : Nat) (ds : List Int) : List (Str × D) := [("digits", .lst (ds.map .int)), ("n", .int n)]
theorem zt8 (h1 : ds.length <= 20) (h2 : n * ds.length <= 200) (h3 : ∀ d ∈ ds, 0 <= d /\ d < 2 ^ n) : zfi w mb 28 (.ref 132) [.lst (ds.map .int), .int n] (.int (zcy n ds)) := by
 intro A s X vs hA B hX hT ra
 have ra0 := ra
 refine genQ fun Q hQ => ?_
 refine wpAny_call (zed (K := 27) (z2n w) rfl hA B hX hT ra fun A' env X1 G1 tk1 hA' hk S1 B1 keep1 hX1 hvar hl hcd henv => ?_)
 refine byP fun P kP => ?_
 obtain ⟨pp, hb, hline, hcol⟩ := b132 w
 have hA6 : Rm A' 6 := hA'.le (by decide)
 obtain ⟨k1, k2, k3, k4⟩ := z15 w
 have J2 : Jnv w mb env X s.heap env.locals ⟨σd n ds, none⟩ X1 G1 := ⟨B1, S1, fun b o _ _ e => keep1 b o e, fun b hb => (hX1 b hb).imp id .inr⟩
 have S2 := J2.S
 have hkf : env.kindOf = zab w 132 := hk
 have hfree : ∀ p ∈ (jsc w).names, p.2 = .free -> env.kindOf p.1 = some .cell := fun p hp hf => by
  have := List.all_eq_true.mp (zub w) p hp
  rw [if_pos hf] at this
  rw [hkf]; simpa using this
 obtain ⟨cn, vn, hcn, gcn⟩ := S2.cel "n" (by rw [hkf]; exact k2)
 obtain ⟨cc, vc, hcc, gcc⟩ := S2.cel "digits" (by rw [hkf]; exact k3)
 obtain ⟨ci, vi, hci, gci⟩ := S2.cel "inner" (by rw [hkf]; exact k1)
 obtain ⟨f1, f2, f3, f4, f5, f6⟩ := zje w
 obtain ⟨cl, hcl⟩ : ∃ cl, cl = clo env.cells (jsc w).names [] := ⟨_, rfl⟩
 have cl_n : cl.lookup ("n" : Str) = some cn := by rw [hcl]; exact zdg hcn (.inl (mem_of_lookup f2))
 have cl_i : cl.lookup ("inner" : Str) = some ci := by rw [hcl]; exact zdg hci (.inl (mem_of_lookup f3))
 have cl_a : cl.lookup ("digits" : Str) = some cc := by rw [hcl]; exact zdg hcc (.inl (mem_of_lookup f4))
 have cl_sub : ∀ x c, cl.lookup x = some c -> env.cells.lookup x = some c := fun x c e => by
  rw [hcl] at e
  rcases zgm e with h | h
  ·cases h
  ·exact h.2
 obtain ⟨q0, r0, hq0⟩ : ∃ q0 r0, cl = q0 :: r0 := by
  cases cl with
  | nil => cases cl_n
  | cons q r => exact ⟨q, r, rfl⟩
 refine kP ?_
 rw [hb]
 refine wpAny_execs_cons (wpAny_mono (zmc (s := { s with heap := G1, toks := tk1 }) S2 J2.B J2.B.t2 (by rw [henv]; exact zuc w) (.inr ⟨rfl, rfl, rfl, rfl, rfl⟩) hline hcol (by rw [henv]; exact zt9 w) (zqx w).1 (zqx w).2 (by rw [henv]; exact zx6 w) hfree (by rw [<- hcl]; exact hq0) (by rw [hkf]; exact k1) (fun ds e => by cases e)) (fun fl s3 y => ?_) fun _ _ f => f.elim)
 refine byP fun P2 kP2 => ?_
 obtain ⟨f, c', doc, pm, ctv, G3, tk3, rfl, rfl, B3, ch3, S3, hf0, hfl, gf, hrec, hc'⟩ := y
 rw [<- hq0] at gf
 have J3 : Jnv w mb env X s.heap env.locals ⟨("inner", .any (.ref f)) :: σd n ds, none⟩ X1 G3 := J2.step (N := []) B3 ch3 (fun _ h => by cases h) S3
 have varCell : ∀ {x : Str} {v : Value} {c : Addr}, zbl env G3 x v -> zab w 132 x = some .cell -> env.cells.lookup x = some c -> G3.IsCell c (some v) := by
  intro x v c V hk' hc
  rcases V with ⟨q, _⟩ | ⟨_, c2, e2, e3⟩
  ·rw [hkf, hk'] at q; cases q
  ·rw [hc] at e2; cases e2; exact e3
 obtain ⟨vD, VD, rD⟩ := S3.vars "digits" (.lst (ds.map .int)) rfl
 cases rD with
 | @lst aD vs3 nn3 _ haX g3 rA =>
  have I3 : Jnn w G3 f aD n cl := {
   fn := ⟨c', doc, pm, ctv, gf, hrec, hc'⟩
   C := {
    low := fun x c e => (S3.eok.cells x c (cl_sub x c e)).1
    apart := fun x y c e1 e2 => S3.eok.apart x y c (cl_sub x c e1) (cl_sub y c e2)
    nocell := fun p hp => of_decide_eq_true (List.all_eq_true.mp (zns w) p hp)
    kind := zua w
    live := fun x c e => S3.live c (S3.celX x c (cl_sub x c e)) }
   nn := by
    obtain ⟨v, V, r⟩ := S3.vars "n" (.int n) rfl
    obtain ⟨t, rfl⟩ := r.inv
    exact ⟨cn, _, cl_n, varCell V k2 hcn⟩
   ii := by
    obtain ⟨v, V, r⟩ := S3.vars "inner" (.any (.ref f)) rfl
    obtain ⟨rfl, _⟩ := r.inv
    exact ⟨ci, cl_i, varCell V k1 hci⟩
   dd := ⟨cc, cl_a, varCell VD k3 hcc⟩
   lowf := hfl
   ttA := fun q => haX (S3.ttX _ q)
   ne := fun x c e q => haX (q ▸ S3.celX x c (cl_sub x c e)) }
  have hI3 : IntsAre vs3 ds := zcu rA (zbo _)
  have C4 : ∀ {x c}, cl.lookup x = some c -> c ≠ env.locals := fun e => (S3.eok.cells _ _ (cl_sub _ _ e)).2
  have hfL : f ≠ env.locals := fun q => by
   obtain ⟨o, eo⟩ := S2.live env.locals S2.locX
   rw [<- q] at eo
   dsimp only at hf0
   rw [hf0] at eo; cases eo
  have keepAll : ∀ {c : Mine.St} {X5 : List Addr} {h : Heap}, Jnv w mb env X s.heap env.locals c X5 h -> ∀ b o, b ∉ TT -> s.heap.get? b = some o -> h.get? b = some o := fun J b o h1 e => J.keep b o h1 (fun q => by rw [q, hl] at e; cases e) e
  have hz : (ds.map D.int).length <= sizeLine := by rw [List.length_map, sizeLine_eq]; lia
  refine kP2 ?_
  dsimp only
  refine wpAny_execs_cons (wpAny_Return_some ?_)
  refine wpAny_IfExp ((sndT (H0 w mb) 12 { s with heap := G3, toks := tk3 } (e := .Name "digits" (pp 1)) (d := .lst (ds.map .int)) (k := .froz) (b := !(ds.map D.int).isEmpty) hA6 J3.S J3.B (by rw [hkf]; kernel_rfl) (by unfold zan; exact if_pos hz)).use fun z G4 tk4 k4' b4 ez => ?_)
  subst ez
  have J4 := J3.kp k4' b4 hl
  obtain ⟨mL, nL⟩ := S3.ns
  have I4 : Jnn w G4 f aD n cl := I3.move (zhy nL) (fun x c e o => k4'.1 c o (C4 e) (zaq (I3.C.low x c e))) k4'.1
  have fin : ∀ {G : Heap} {tk : Nat} {v : Value} {X5 : List Addr} {i : Int}, Jnv w mb env X s.heap env.locals ⟨("inner", .any (.ref f)) :: σd n ds, none⟩ X5 G -> Rep X5 G v (.int i) -> i = zcy n ds ->
    Post s (zyx s.heap) (Base w mb) (fun u h' => Rep X h' u (.int (zcy n ds))) v { s with heap := G, toks := tk } := by
   intro G tk v X5 i J r e
   subst e
   exact ⟨G, tk, rfl, keepAll J, J.B, r.scalar rfl⟩
  by_cases h0 : ds = []
  ·have hb0 : (!(ds.map D.int).isEmpty) = false := by rw [h0]; rfl
   rw [hb0, if_neg (by decide)]
   refine ((zao (H0 w mb) 12).1 hA6 (s := { s with heap := G4, toks := tk4 }) (d := .int 0) (k := .froz) J4.S J4.B (by rw [hkf]; kernel_rfl)).use fun v5 G5 tk5 k5 b5 r5 => ?_
   exact hQ _ _ (fin (J4.kp k5 b5 hl) r5 (by rw [h0]; rfl))
  ·have hb1 : (!(ds.map D.int).isEmpty) = true := by
    cases ds with
    | nil => exact absurd rfl h0
    | cons d r => rfl
   rw [hb1, if_pos rfl]
   have hpos : 0 < ds.length := List.length_pos_iff.mpr h0
   obtain ⟨c7, doc7, pm7, ctv7, g7, _, _⟩ := I4.fn
   have elen : zaa O0 12 ⟨env.kindOf, ("inner", .any (.ref f)) :: σd n ds, none⟩ (.Call (.Name "len" (pp 4)) [.Name "digits" (pp 5)] [] (pp 6)) = some (.int ds.length, .froz) := by
    refine zio (n := 11) (l := [(.lst (ds.map .int), .froz)]) (by rw [hkf]; exact k4) (by decide +kernel) (zaj (zal (n := 10) (za2 (by decide +kernel) rfl)) zbc) rfl ?_
    rw [show zis "len" = zbr from funext fun l => if_pos rfl]
    unfold zbr
    dsimp only
    rw [if_pos hz, List.length_map]; rfl
   refine zdn (H0 w mb) hA6 (s := { s with heap := G4, toks := tk4 }) J4.S J4.B (x := "inner") (f := f) rfl (by decide +kernel) (l := [(.int 0, .froz), (.int ds.length, .froz)]) (zaj (by rw [hkf]; kernel_rfl) (zaj elen zbc)) rfl ⟨hfl, hfL⟩ g7 rfl fun G5 tk5 ws5 k5 b5 r5 => ?_
   have J5 := J4.kp k5 b5 hl
   obtain ⟨mL4, nL4⟩ := J4.S.ns
   have I5 := I4.move (zhy nL4) (fun x c e o => k5.1 c o (C4 e) (zaq (I4.C.low x c e))) k5.1
   have g5 : G5.get? aD = some (zbz vs3 nn3) := k5.1 _ _ (fun q => haX (q ▸ S3.locX)) I3.ttA (k4'.1 _ _ (fun q => haX (q ▸ S3.locX)) I3.ttA g3)
   refine r5.int2' fun _ _ => ?_
   refine wpAny_mono (z07 ds.length (s := { s with heap := G5, toks := tk5 }) (hA'.le (by lia)) b5 I5 g5 hI3 (by decide) (by lia) (by lia) (by lia) (by lia) h2 h3) (fun u s6 z => ?_) fun _ _ f => f.elim
   obtain ⟨G6, tk6, t6, rfl, rfl, b6, kk6⟩ := z
   have eseg : seg ds 0 ds.length = ds := by unfold seg; simp
   rw [eseg]
   have kk : Kp env.locals G5 G6 := zkm J5.S.eok.low kk6
   exact hQ _ _ (fin (J5.kp kk b6 hl) (.int ..) rfl)
end
section
theorem zgw : PlainAttrs "re.Pattern" :=
 ⟨⟨"object.__getattribute__", by rw [typeLookup_type, builtinLookup_eq_fast]; kernel_rfl, by decide +kernel⟩, by rw [typeLookup_type, builtinLookup_eq_fast]; kernel_rfl⟩
theorem zc9 : Slot "re.Pattern" "sub" "re.Pattern.sub" :=
 .of (owner := "re.Pattern") (n := "sub") (by rw [typeLookup_type, builtinLookup_eq_fast]; kernel_rfl) (by decide +kernel) (by decide +kernel) (by decide +kernel)
  (by first | exact .inl (by decide +kernel) | exact .inr (by decide +kernel)) (by rw [isSubtype_type]; kernel_rfl)
theorem ziv : typeOf (.builtin "re.Pattern.sub") = pure (.type "method_descriptor") := by show builtinType _ = _; rw [builtinType_eq_fast]; kernel_rfl
theorem zh7 : entryFor table "re.Pattern.sub" = some Builtin.«re.Pattern.sub» := entryFor_of_tree (by kernel_rfl)
theorem zdv : entryFor table "re.Pattern.sub.loop" = some Builtin.«re.Pattern.sub.loop» := entryFor_of_tree (by kernel_rfl)
theorem zbg : plainId "re.Pattern.sub.loop" = true := by decide +kernel
theorem zju (a b c : Value) : argsOk "re.Pattern.sub" ⟨[a, b, c], []⟩ := by
 unfold argsOk
 kernel_rfl
open PySem.Sre in
inductive Go : Nat -> M -> M -> Prop
 | zero (m) : Go 0 m m
 | succ {k m m'} : m.outcome = none -> Go k m.step m' -> Go (k + 1) m m'
open PySem.Sre
theorem Go.trans {a b : Nat} {x y z : M} (h : Go a x y) (g : Go b y z) : Go (a + b) x z := by
 induction h with
 | zero m => rw [Nat.zero_add]; exact g
 | succ h0 _ ih => rw [Nat.add_right_comm]; exact .succ h0 (ih g)
theorem zsd {m : M} {o : Sre.Outcome} (h : m.outcome = some o) : ∀ n, m.runFor n = m
 | 0 => rfl
 | n + 1 => by unfold M.runFor; rw [h]; rfl
theorem zlq {m : M} (h : m.outcome = none) (n : Nat) : m.runFor (n + 1) = m.step.runFor n := by
 show (if m.outcome.isSome then m else M.runFor n m.step) = _
 rw [h]; rfl
theorem Go.run {k : Nat} {m m' : M} (h : Go k m m') {o : Sre.Outcome} (ho : m'.outcome = some o) : ∀ n, k <= n -> m.runFor n = m' := by
 induction h with
 | zero m => intro n _; exact zsd ho n
 | succ h0 _ ih =>
  intro n hn
  obtain ⟨n, rfl⟩ : ∃ j, n = j + 1 := ⟨n - 1, by lia⟩
  rw [zlq h0]; exact ih ho n (by lia)
theorem Go.part {k : Nat} {m m' : M} (h : Go k m m') : ∀ n, n <= k -> Go (k - n) (m.runFor n) m' := by
 induction h with
 | zero m =>
  intro n hn
  obtain rfl := Nat.le_zero.mp hn
  exact .zero m
 | @succ k m m' h0 hg ih =>
  intro n hn
  cases n with
  | zero => exact .succ h0 hg
  | succ n =>
   rw [zlq h0]
   have := ih n (by lia)
   rwa [show k + 1 - (n + 1) = k - n from by lia]
section
variable {w : World} {A : Around} {E : Value -> Shared -> Prop} {s : Shared}
theorem zt4 {m' : M} {o : Sre.Outcome} {Q : M -> Shared -> Prop} (ho : m'.outcome = some o) (h : Q m' s) (t : Nat) : ∀ (k : Nat) (m : M), Go k m m' -> k < 4 * t -> wpAny (model pg w) A (Builtin.Re.reDrive t m) Q E s := by
 induction t with
 | zero =>
  intro k m g hk
  lia
 | succ t IH =>
  intro k m g hk
  unfold Builtin.Re.reDrive
  show wpAny _ _ (if (m.runFor 4).outcome.isSome = true then pure (m.runFor 4) else _) _ _ _
  by_cases h4 : k <= 4
  ·rw [g.run ho 4 h4, ho]
   exact wpAny_pure h
  ·have g2 := g.part 4 (by lia)
   cases e : (m.runFor 4).outcome with
   | some o2 =>
    exfalso
    cases hk' : k - 4 with
    | zero => lia
    | succ j =>
     rw [hk'] at g2
     cases g2 with
     | succ h0 _ => rw [h0] at e; cases e
   | none =>
    refine wpAny_bind (wpAny_rule ?_)
    exact IH (k - 4) _ g2 (by lia)
theorem zse {p : Nat -> Bool} {nm : Nat -> String} (l : List Nat) : ∀ {Q : PUnit -> Shared -> Prop}, Q ⟨⟩ s -> wpAny (model pg w) A (forIn l PUnit.unit fun i _ => if p i = true then (do rule (nm i); pure (ForInStep.yield PUnit.unit)) else pure (ForInStep.yield PUnit.unit)) Q E s := by
 induction l with
 | nil =>
  intro Q h
  exact wpAny_pure h
 | cons i r IH =>
  intro Q h
  rw [List.forIn_cons]
  by_cases hp : p i = true
  ·rw [if_pos hp]
   refine wpAny_bind (wpAny_bind (wpAny_rule (wpAny_pure ?_)))
   exact IH h
  ·rw [if_neg hp]
   refine wpAny_bind (wpAny_pure ?_)
   exact IH h
theorem zlk {m m' : M} {o : Sre.Outcome} {k : Nat} {Q : Option M -> Shared -> Prop} (g : Go k m m') (hk : k < 2 ^ 64) (ho : m'.outcome = some o) (h : match o with | .matched => Q (some m') s | .failed => Q none s | .stuck _ => False) : wpAny (model pg w) A (Builtin.Re.reRunToEnd m) Q E s := by
 unfold Builtin.Re.reRunToEnd
 refine wpAny_bind (zt4 ho ?_ (2 ^ 64) k m g (by lia))
 refine wpAny_bind (zse _ ?_)
 rw [ho]
 cases o with
 | matched => exact wpAny_pure h
 | failed => exact wpAny_pure h
 | stuck _ => exact h.elim
end
end
section
noncomputable abbrev C1 : Array Nat := #[14, 4, 0, 1, 1, 6, 1, 16, 46, 1]
noncomputable def M1s (T : Array Nat) (s : Nat) (first : Bool) (seen : Sre.Seen) (pc pos handed : Nat) (live : Bool) (ans : Option Bool) (out : Option Sre.Outcome) : Sre.M := { code := C1, text := T, lim := T.size, start := s, lastStart := T.size, pc := pc, pos := pos, handed := handed, outermost := first, marks := #[], frames := if live = true then [{ wait := .nextStart, pc := 5, pos := s, outermost := first }] else [], weight := if live = true then 1 else 0, seen := seen, answer := ans, outcome := out }
noncomputable abbrev A1 (T : Array Nat) (s : Nat) (first : Bool) (seen : Sre.Seen) : Sre.M := M1s T s first seen 5 s s true none none
noncomputable def bol (T : Array Nat) (s : Nat) : Bool := s == 0 || T.getD (s - 1) 0 == 10
noncomputable def zi2 (x : Sre.Seen) : Sre.Seen := (x.add 6).add 44
section
variable {T : Array Nat} {s p h : Nat} {first : Bool} {seen : Sre.Seen}
theorem zlo : (A1 T s first seen).step = (if bol T s = true then M1s T s first (zi2 seen) 7 s s true none none else M1s T s first (zi2 seen) 5 s s true (some false) none) := by
 rfl
theorem zop : Sre.M.step (M1s T s first seen p s s true (some false) none) = (if s < T.size then A1 T (s + 1) false seen else M1s T s first seen 5 s s false (some false) none) := by
 rfl
theorem zu5 : Sre.M.step (M1s T s first seen 7 s s true none none) = (if T.size <= s then M1s T s first (seen.add 16) 7 s s true (some false) none else cond (T.getD s 0 == 46) (M1s T s first (seen.add 16) 9 (s + 1) s true none none) (M1s T s first (seen.add 16) 7 s s true (some false) none)) := by
 have e : Sre.M.step (M1s T s first seen 7 s s true none none) = (if T.size <= s then M1s T s first (seen.add 16) 7 s s true (some false) none else match (Except.ok (T.getD s 0 == 46, seen.add 16) : Except String (Bool × Sre.Seen)) with
  | .error why => M1s T s first (seen.add 16) 7 s s true none (some (.stuck why))
  | .ok (false, x) => M1s T s first x 7 s s true (some false) none
  | .ok (true, x) => M1s T s first x (7 + 2) (s + 1) s true none none) := by rfl
 rw [e]
 cases T.getD s 0 == 46 <;> rfl
theorem zzi : Sre.M.step (M1s T s first seen 9 p h true none none) = M1s T s first (seen.add 1) 9 p p true (some true) none := by
 cases first <;> rfl
theorem zzh : Sre.M.step (M1s T s first seen 9 p p true (some true) none) = M1s T s first seen 5 s p false (some true) none := by
 rfl
theorem zoo {b : Bool} {q : Nat} : Sre.M.step (M1s T s first seen 5 s q false (some b) none) = M1s T s first seen 5 s q false (some b) (some (if b then .matched else .failed)) := by
 rfl
theorem no1 (h : bol T s = false) (hs : s < T.size) : Go 2 (A1 T s first seen) (A1 T (s + 1) false (zi2 seen)) := by
 refine .succ rfl ?_
 rw [zlo, h, if_neg Bool.false_ne_true]
 refine .succ rfl ?_
 rw [zop, if_pos hs]
 exact .zero _
theorem yes1 (h : bol T s = true) (hs : s < T.size) (hc : T.getD s 0 = 46) : Go 5 (A1 T s first seen) (M1s T s first (((zi2 seen).add 16).add 1) 5 s (s + 1) false (some true) (some .matched)) := by
 refine .succ rfl ?_
 rw [zlo, h, if_pos rfl]
 refine .succ rfl ?_
 rw [zu5, if_neg (by lia), hc]
 show Go 3 (M1s T s first ((zi2 seen).add 16) 9 (s + 1) s true none none) _
 refine .succ rfl ?_
 rw [zzi]
 refine .succ rfl ?_
 rw [zzh]
 refine .succ rfl ?_
 rw [zoo]
 exact .zero _
theorem end1 : ∃ m, Go (if bol T T.size = true then 4 else 3) (A1 T T.size first seen) m /\ m.outcome = some .failed := by
 cases hb : bol T T.size with
 | true =>
  have : Go 4 (A1 T T.size first seen) (M1s T T.size first ((zi2 seen).add 16) 5 T.size T.size false (some false) (some .failed)) := by
   refine .succ rfl ?_
   rw [zlo, hb, if_pos rfl]
   refine .succ rfl ?_
   rw [zu5, if_pos (Nat.le_refl _)]
   refine .succ rfl ?_
   rw [zop, if_neg (Nat.lt_irrefl _)]
   refine .succ rfl ?_
   rw [zoo]
   exact .zero _
  exact ⟨_, this, rfl⟩
 | false =>
  have : Go 3 (A1 T T.size first seen) (M1s T T.size first (zi2 seen) 5 T.size T.size false (some false) (some .failed)) := by
   refine .succ rfl ?_
   rw [zlo, hb, if_neg Bool.false_ne_true]
   refine .succ rfl ?_
   rw [zop, if_neg (Nat.lt_irrefl _)]
   refine .succ rfl ?_
   rw [zoo]
   exact .zero _
  exact ⟨_, this, rfl⟩
end
noncomputable def Lay (T : Array Nat) (s : Nat) (l : List Nat) : Prop := s <= T.size /\ T.toList.drop s = l
theorem Lay.size {T : Array Nat} {s : Nat} {l : List Nat} (h : Lay T s l) : T.size = s + l.length := by
 have := congrArg List.length h.2
 rw [List.length_drop] at this
 have := h.1
 simp only [Array.length_toList] at *
 lia
theorem Lay.get {T : Array Nat} {s c : Nat} {l : List Nat} (h : Lay T s (c :: l)) : T.getD s 0 = c := by
 have hs := h.size
 have : T.toList[s]? = some c := by
  have := congrArg (fun x => x[0]?) h.2
  simp only [List.getElem?_drop, Nat.add_zero, List.getElem?_cons_zero] at this
  exact this
 rw [Array.getElem?_toList] at this
 rw [Array.getD_eq_getD_getElem?, this]; rfl
theorem Lay.next {T : Array Nat} {s c : Nat} {l : List Nat} (h : Lay T s (c :: l)) : Lay T (s + 1) l := by
 have hs := h.size
 refine ⟨by rw [hs]; simp, ?_⟩
 have := congrArg (List.drop 1) h.2
 rw [List.drop_drop] at this
 simpa [Nat.add_comm] using this
theorem Lay.bol {T : Array Nat} {s c : Nat} {l : List Nat} (h : Lay T s (c :: l)) : bol T (s + 1) = (c == 10) := by
 unfold Mine.bol
 rw [Nat.add_sub_cancel, h.get]
 simp
theorem Lay.append {T : Array Nat} : ∀ (l : List Nat) {s : Nat} {r : List Nat}, Lay T s (l ++ r) -> Lay T (s + l.length) r
 | [], s, r, h => h
 | c :: l, s, r, h => by
  have := (h.next : Lay T (s + 1) (l ++ r)).append l
  rw [show s + (c :: l).length = s + 1 + l.length from by simp; lia]
  exact this
theorem Lay.extract {T : Array Nat} (l : List Nat) {s : Nat} {r : List Nat} (h : Lay T s (l ++ r)) : T.extract s (s + l.length) = l.toArray := by
 apply Array.toList_inj.1
 rw [Array.toList_extract, List.extract_eq_take_drop, h.2, Nat.add_sub_cancel_left]
 simp
noncomputable def zcz (n : Nat) : List Nat := List.replicate n 46 ++ [13, 10]
noncomputable def txt (ls : List Nat) : List Nat := ls.flatMap zcz
theorem zzw {T : Array Nat} (n : Nat) : ∀ {s : Nat} {first : Bool} {seen : Sre.Seen} {r : List Nat}, Lay T s (zcz n ++ r) -> bol T s = false -> ∃ seen' k, k <= 2 * (n + 2) /\ Go k (A1 T s first seen) (A1 T (s + n + 2) false seen') /\ Lay T (s + n + 2) r /\ bol T (s + n + 2) = true := by
 induction n with
 | zero =>
  intro s first seen r h hb
  have h2 : Lay T s (13 :: 10 :: r) := h
  refine ⟨_, 4, by lia, (no1 hb (by rw [h2.size]; simp)).trans (no1 (by rw [h2.bol]; rfl) (by rw [h2.next.size]; simp)), h2.next.next, ?_⟩
  rw [h2.next.bol]; rfl
 | succ n IH =>
  intro s first seen r h hb
  have h2 : Lay T s (46 :: (zcz n ++ r)) := h
  obtain ⟨seen', k, hk, g, hl, hb'⟩ := IH (first := false) (seen := zi2 seen) h2.next (by rw [h2.bol]; rfl)
  have e : s + (n + 1) + 2 = s + 1 + n + 2 := by lia
  refine ⟨seen', 2 + k, by lia, ?_, e ▸ hl, e ▸ hb'⟩
  rw [e]
  exact (no1 hb (by rw [h2.size]; simp)).trans g
end
section
noncomputable abbrev C2 : Array Nat := #[14,9,4,1,2,16,10,16,13,0,7,7,16,13,16,10,15,18,5,16,10,15,13,11,16,13,5,5,0,16,10,1,15,2,0,1]
noncomputable def M2s (T : Array Nat) (s : Nat) (first : Bool) (seen : Sre.Seen) (pc pos handed : Nat) (deep : Nat) (o : Bool) (ans : Option Bool) (out : Option Sre.Outcome) : Sre.M := { code := C2, text := T, lim := T.size, start := s, lastStart := T.size, pc := pc, pos := pos, handed := handed, outermost := o, marks := #[], frames := match deep with | 0 => [] | 1 => [{ wait := .nextStart, pc := 10, pos := s, outermost := first }] | _ => [{ wait := .nextBranch, pc := 11, pos := s, outermost := first }, { wait := .nextStart, pc := 10, pos := s, outermost := first }], weight := deep, seen := seen, answer := ans, outcome := out }
noncomputable def S2 (T : Array Nat) (s : Nat) : Sre.M := M2s T s true (({} : Sre.Seen).add 14) 10 s s 0 true none none
noncomputable def ad2 (x : Sre.Seen) : Sre.Seen := ((x.add 16).add 16).add 0
section
variable {T : Array Nat} {s p h : Nat} {first o : Bool} {seen : Sre.Seen}
theorem adm46 (m : Sre.M) (fuel : Nat) (hc : m.code = C2) (hs : s < m.lim) (h : m.text.getD s 0 = 46) : Sre.M.admitted m (fuel + 1) s seen = Sre.M.admitted m fuel (s + 1) (ad2 seen) := by
 rw [Sre.M.admitted, if_neg (by lia), hc, h]
 rfl
theorem adm13 (m : Sre.M) (fuel : Nat) (hc : m.code = C2) (hs : s < m.lim) (h : m.text.getD s 0 = 13) : Sre.M.admitted m (fuel + 1) s seen = .ok (some s, (seen.add 16).add 16) := by
 rw [Sre.M.admitted, if_neg (by lia), hc, h]
 rfl
theorem zyt (m : Sre.M) (hc : m.code = C2) (n : Nat) : ∀ {s fuel : Nat} {seen : Sre.Seen} {r : List Nat}, m.lim = m.text.size -> Lay m.text s (zcz n ++ r) -> n < fuel -> ∃ seen', Sre.M.admitted m fuel s seen = .ok (some (s + n), seen') := by
 induction n with
 | zero =>
  intro s fuel seen r hm h hf
  obtain ⟨fuel, rfl⟩ : ∃ j, fuel = j + 1 := ⟨fuel - 1, by lia⟩
  have h2 : Lay m.text s (13 :: 10 :: r) := h
  exact ⟨_, adm13 m fuel hc (by rw [hm, h2.size]; simp) h2.get⟩
 | succ n IH =>
  intro s fuel seen r hm h hf
  obtain ⟨fuel, rfl⟩ : ∃ j, fuel = j + 1 := ⟨fuel - 1, by lia⟩
  have h2 : Lay m.text s (46 :: (zcz n ++ r)) := h
  obtain ⟨seen', e⟩ := IH (fuel := fuel) (seen := ad2 seen) hm h2.next (by lia)
  exact ⟨seen', by rw [adm46 m fuel hc (by rw [hm, h2.size]; simp) h2.get, e, show s + (n + 1) = s + 1 + n from by lia]⟩
theorem zzq : (M2s T s first seen 10 s s 1 first none none).step = M2s T s first (seen.add 7) 12 s s 2 first none none := by
 rfl
theorem zzp (hs : s < T.size) (hc : T.getD s 0 = 13) : (M2s T s first seen 12 s s 2 first none none).step = M2s T s first (seen.add 16) 14 (s + 1) s 2 first none none := by
 have e : (M2s T s first seen 12 s s 2 first none none).step = (if T.size <= s then M2s T s first (seen.add 16) 12 s s 2 first (some false) none else match (Except.ok (T.getD s 0 == 13, seen.add 16) : Except String (Bool × Sre.Seen)) with
  | .error why => M2s T s first (seen.add 16) 12 s s 2 first none (some (.stuck why))
  | .ok (false, x) => M2s T s first x 12 s s 2 first (some false) none
  | .ok (true, x) => M2s T s first x (12 + 2) (s + 1) s 2 first none none) := by rfl
 rw [e, if_neg (by lia), hc]; rfl
theorem zzo (hs : s + 1 < T.size) (hc : T.getD (s + 1) 0 = 10) : (M2s T s first seen 14 (s + 1) s 2 first none none).step = M2s T s first (seen.add 16) 16 (s + 2) s 2 first none none := by
 have e : (M2s T s first seen 14 (s + 1) s 2 first none none).step = (if T.size <= s + 1 then M2s T s first (seen.add 16) 14 (s + 1) s 2 first (some false) none else match (Except.ok (T.getD (s + 1) 0 == 10, seen.add 16) : Except String (Bool × Sre.Seen)) with
  | .error why => M2s T s first (seen.add 16) 14 (s + 1) s 2 first none (some (.stuck why))
  | .ok (false, x) => M2s T s first x 14 (s + 1) s 2 first (some false) none
  | .ok (true, x) => M2s T s first x (14 + 2) (s + 1 + 1) s 2 first none none) := by rfl
 rw [e, if_neg (by lia), hc]; rfl
theorem zzn : (M2s T s first seen 16 p s 2 first none none).step = M2s T s first (seen.add 15) 35 p s 2 first none none := by
 rfl
theorem zzm : (M2s T s first seen 35 p s 2 first none none).step = M2s T s first (seen.add 1) 35 p p 2 first (some true) none := by
 cases first <;> rfl
theorem zzl : (M2s T s first seen 35 p p 2 first (some true) none).step = M2s T s first seen 11 s p 1 first (some true) none := by
 rfl
theorem zzk : (M2s T s first seen 11 s p 1 first (some true) none).step = M2s T s first seen 10 s p 0 first (some true) none := by
 rfl
theorem zzj : (M2s T s first seen 10 s p 0 first (some true) none).step = M2s T s first seen 10 s p 0 first (some true) (some .matched) := by
 rfl
theorem yes2 (r : List Nat) (hl : Lay T s (13 :: 10 :: r)) : ∃ seen', Go 8 (M2s T s first seen 10 s s 1 first none none) (M2s T s first seen' 10 s (s + 2) 0 first (some true) (some .matched)) := by
 have hs := hl.size
 have hs2 := hl.next.size
 have h1 : Go 8 (M2s T s first seen 10 s s 1 first none none) (M2s T s first (((((seen.add 7).add 16).add 16).add 15).add 1) 10 s (s + 2) 0 first (some true) (some .matched)) := by
  refine .succ rfl ?_
  rw [zzq]
  refine .succ rfl ?_
  rw [zzp (by rw [hs]; simp) hl.get]
  refine .succ rfl ?_
  rw [zzo (by rw [hs2]; simp) hl.next.get]
  refine .succ rfl ?_
  rw [zzn]
  refine .succ rfl ?_
  rw [zzm]
  refine .succ rfl ?_
  rw [zzl]
  refine .succ rfl ?_
  rw [zzk]
  refine .succ rfl ?_
  rw [zzj]
  exact .zero _
 exact ⟨_, h1⟩
theorem zv3 (n : Nat) (r : List Nat) (hl : Lay T s (zcz n ++ r)) : ∃ seen', Go 8 (Sre.forSearch C2 T 0 s T.size false) (M2s T (s + n) true seen' 10 (s + n) (s + n + 2) 0 true (some true) (some .matched)) := by
 have hs := hl.size
 have h2 : Lay T (s + n) (13 :: 10 :: r) := by
  have : Lay T s (List.replicate n 46 ++ (13 :: 10 :: r)) := by simpa [zcz] using hl
  have := this.append
  rwa [List.length_replicate] at this
 have h3 := h2.size
 simp at h3
 have e : ∃ seen', Sre.forSearch C2 T 0 s T.size false = M2s T (s + n) true seen' 10 (s + n) (s + n) 1 true none none := by
  obtain ⟨seen', ea⟩ := zyt (S2 T s) rfl n (s := s) (fuel := T.size + 1 - s) (seen := ({} : Sre.Seen).add 14) rfl hl (by lia)
  refine ⟨seen', ?_⟩
  have e2 : Sre.forSearch C2 T 0 s T.size false = (if (decide (s > T.size) || decide (T.size - s < 1)) = true then { S2 T s with lastStart := 0, answer := some false } else match Sre.M.admitted (S2 T s) (T.size + 1 - s) s (({} : Sre.Seen).add 14) with
   | .ok (some s, seen) => M2s T s true seen 10 s s 1 true none none
   | .ok (none, seen) => { S2 T s with seen := seen, answer := some false }
   | .error why => Sre.M.stick (S2 T s) why) := by rfl
  rw [e2, if_neg (by simp; lia), ea]
 obtain ⟨seen', e⟩ := e
 rw [e]
 exact yes2 r h2
theorem none2 : ∃ m, Go 1 (Sre.forSearch C2 T 0 T.size T.size false) m /\ m.outcome = some .failed := by
 have e2 : Sre.forSearch C2 T 0 T.size T.size false = (if (decide (T.size > T.size) || decide (T.size - T.size < 1)) = true then { S2 T T.size with lastStart := 0, answer := some false } else match Sre.M.admitted (S2 T T.size) (T.size + 1 - T.size) T.size (({} : Sre.Seen).add 14) with
   | .ok (some s, seen) => M2s T s true seen 10 s s 1 true none none
   | .ok (none, seen) => { S2 T T.size with seen := seen, answer := some false }
   | .error why => Sre.M.stick (S2 T T.size) why) := by rfl
 rw [e2, if_pos (by simp)]
 exact ⟨_, .succ rfl (.zero _), rfl⟩
theorem zor (h : s < T.size) : Sre.forSearch C1 T 0 s T.size false = A1 T s true (({} : Sre.Seen).add 14) := by
 have e : Sre.forSearch C1 T 0 s T.size false = (if (decide (s > T.size) || decide (T.size - s < 1)) = true then { A1 T s true (({} : Sre.Seen).add 14) with lastStart := 0, frames := [], weight := 0, answer := some false } else A1 T s true (({} : Sre.Seen).add 14)) := by rfl
 rw [e, if_neg (by simp; lia)]
theorem zv4 (n m : Nat) (r : List Nat) (hl : Lay T s (zcz n ++ (zcz (m + 1) ++ r))) (hb : bol T s = false) : ∃ k f seen', k <= 2 * (n + 2) + 5 /\ Go k (Sre.forSearch C1 T 0 s T.size false) (M1s T (s + n + 2) f seen' 5 (s + n + 2) (s + n + 2 + 1) false (some true) (some .matched)) := by
 have hs := hl.size
 rw [zor (by rw [hs]; simp [zcz]; lia)]
 obtain ⟨seen', k, hk, g, hl', hb'⟩ := zzw n hl hb (first := true) (seen := ({} : Sre.Seen).add 14)
 have h3 : Lay T (s + n + 2) (46 :: (zcz m ++ r)) := hl'
 have h4 := h3.size
 exact ⟨k + 5, _, _, by lia, g.trans (yes1 hb' (by rw [h4]; simp) h3.get)⟩
theorem none1 (n : Nat) (hl : Lay T s (zcz n)) (hb : bol T s = false) : ∃ k m, k <= 2 * (n + 2) + 4 /\ Go k (Sre.forSearch C1 T 0 s T.size false) m /\ m.outcome = some .failed := by
 have hs := hl.size
 rw [zor (by rw [hs]; simp [zcz])]
 obtain ⟨seen', k, hk, g, hl', hb'⟩ := zzw n (r := []) (by rwa [List.append_nil]) hb (first := true) (seen := ({} : Sre.Seen).add 14)
 have h4 := hl'.size
 simp at h4
 rw [<- h4] at g
 obtain ⟨m, gm, ho⟩ := end1 (T := T) (first := false) (seen := seen')
 exact ⟨_, m, by split <;> lia, g.trans gm, ho⟩
theorem z1s (m : Nat) (r : List Nat) (hl : Lay T 0 (zcz (m + 1) ++ r)) : ∃ seen', Go 5 (Sre.forSearch C1 T 0 0 T.size false) (M1s T 0 true seen' 5 0 1 false (some true) (some .matched)) := by
 have h3 : Lay T 0 (46 :: (zcz m ++ r)) := hl
 have hs := h3.size
 rw [zor (by rw [hs]; simp)]
 exact ⟨_, yes1 rfl (by rw [hs]; simp) h3.get⟩
end
end
section
open PySem.Builtin.Re
noncomputable def cut (T : Array Nat) (d b : Nat) : List Str := if d < b then [⟨T.extract d b⟩] else []
inductive Finds (C T : Array Nat) (repl : Str) : Nat -> List Str -> Prop
 | stop {d k : Nat} {m : Sre.M} : Go k (Sre.forSearch C T 0 d T.size false) m -> k < 2 ^ 64 -> m.outcome = some .failed -> Finds C T repl d (cut T d T.size)
 | hit {d k b e : Nat} {m : Sre.M} {ps : List Str} : Go k (Sre.forSearch C T 0 d T.size false) m -> k < 2 ^ 64 -> m.outcome = some .matched -> m.start = b -> m.handed = e -> (e == b) = false -> Finds C T repl e ps -> Finds C T repl d (cut T d b ++ repl :: ps)
structure PatAt (h : Heap) (p : Addr) (C : Array Nat) : Prop where
 ex : ∃ o F ct oc its n, h.get? p = some o /\ o.cls = .type "re.Pattern" /\ o.data = .fields F /\ reRawNat (F.getD 6 .none) = 0 /\ reRawNat (F.getD 2 .none) = 0 /\ F.getD 5 .none = .ref ct /\ h.get? ct = some oc /\ oc.data = .seq its n /\ (its.map reRawOf).map (·.toNat) = C
theorem PatAt.keeps {h h' : Heap} {p : Addr} {C : Array Nat} (x : PatAt h p C) (k : ∀ b o, h.get? b = some o -> h'.get? b = some o) : PatAt h' p C := by
 obtain ⟨o, F, ct, oc, its, n, h1, h2, h3, h4, h5, h6, h7, r⟩ := x.ex
 exact ⟨⟨o, F, ct, oc, its, n, k _ _ h1, h2, h3, h4, h5, h6, k _ _ h7, r⟩⟩
theorem PatAt.typeIs {s : Shared} {p : Addr} {C : Array Nat} (x : PatAt s.heap p C) : s.TypeIs (.ref p) "re.Pattern" := by
 obtain ⟨o, F, ct, oc, its, n, h1, h2, r⟩ := x.ex
 exact ⟨o, h1, h2⟩
noncomputable def tgt (p : Addr) (v : Value) (C T : Array Nat) : ReTarget := { pattern := .ref p, string := v, code := C, text := T, kind := 0, groups := 0, pos := 0, lim := T.size }
section
variable {w : World} {A : Around} {E : Value -> Shared -> Prop} {s : Shared}
theorem zhr {p : Addr} {C T : Array Nat} {t : Tok} {Q : ReTarget -> Shared -> Prop} (hp : PatAt s.heap p C) (h : Q (tgt p (.str ⟨T⟩ t) C T) s) : wpAny (model pg w) A (reWholeTarget (.ref p) (.str ⟨T⟩ t)) Q E s := by
 obtain ⟨o, F, ct, oc, its, n, h1, h2, h3, h4, h5, h6, h7, h8, h9⟩ := hp.ex
 unfold reWholeTarget
 refine wpAny_bind (wpAny_fieldsOf h1 h3 ?_)
 show wpAny _ _ (reTextOf (.str ⟨T⟩ t) >>= _) _ _ _
 refine wpAny_bind (wpAny_pure ?_)
 dsimp only
 rw [h4]
 refine wpAny_bind (wpAny_pure ?_)
 rw [h5, h6]
 refine wpAny_bind ?_
 unfold reRawItems
 refine wpAny_bind (wpAny_seqItems h7 h8 ?_)
 refine wpAny_pure (wpAny_pure ?_)
 show Q { pattern := .ref p, string := .str ⟨T⟩ t, code := (its.map reRawOf).map (·.toNat), text := T, kind := 0, groups := 0, pos := 0, lim := T.size } s
 rw [h9]; exact h
theorem zto {p : Addr} {C T : Array Nat} {t : Tok} {d k : Nat} {m : Sre.M} {Q : Option Sre.M -> Shared -> Prop} (g : Go k (Sre.forSearch C T 0 d T.size false) m) (hk : k < 2 ^ 64) (ho : m.outcome = some .matched) (h : Q (some m) s) : wpAny (model pg w) A (reNextFound (tgt p (.str ⟨T⟩ t) C T) d false) Q E s :=
 zlk g hk ho h
theorem zpe {p : Addr} {C T : Array Nat} {t : Tok} {d k : Nat} {m : Sre.M} {Q : Option Sre.M -> Shared -> Prop} (g : Go k (Sre.forSearch C T 0 d T.size false) m) (hk : k < 2 ^ 64) (ho : m.outcome = some .failed) (h : Q none s) : wpAny (model pg w) A (reNextFound (tgt p (.str ⟨T⟩ t) C T) d false) Q E s :=
 zlk g hk ho h
end
section
variable {w : World} {A : Around} {R : Result -> Shared -> Prop}
theorem zfm {E : Value -> Shared -> Prop} {s : Shared} {L : Addr} {l : List (Str × Tok)} {n : Nat} {x : Str} {t : Tok} {Q : Unit -> Shared -> Prop} (hL : s.heap.get? L = some (zbz (strValues l) n)) (hz : l.length < sizeLine)
  (h : ∀ h' n', (∀ b o, b ≠ L -> s.heap.get? b = some o -> h'.get? b = some o) -> h'.get? L = some (zbz (strValues (l ++ [(x, t)])) n') -> Q () { s with heap := h' }) :
  wpAny (model pg w) A (updateSeq L (·.push (.str x t))) Q E s := by
 obtain ⟨n', e1⟩ : ∃ n', Obj.mapSeq (·.push (.str x t)) (zbz (strValues l) n) = zbz (strValues (l ++ [(x, t)])) n' := ⟨_, by rw [Obj.mapSeq_push_plain]; simp [strValues]; rfl⟩
 have hs : Heap.SameBut L s.heap (s.heap.update L (Obj.mapSeq (·.push (.str x t)))) := Heap.SameBut.update ..
 refine wpAny_updateSeq hL rfl (h _ n' (fun b o hb e => by rw [hs.2 b hb]; exact e) ?_) ?_ ?_
 ·rw [Heap.get?_update_self _ hL (by rw [e1]; rfl), e1]
 ·simp [strValues]; lia
 ·simp [strValues]; lia
theorem zez {α : Type} {M : Model} {E : Value -> Shared -> Prop} {s : Shared} {c : Prop} {i : Decidable c} {a b : Sem α} {Q : α -> Shared -> Prop} (hc : c) (h : wpAny M A a Q E s) : wpAny M A (@ite (Sem α) c i a b) Q E s := by
 rw [if_pos hc]; exact h
theorem zc5 {α : Type} {M : Model} {E : Value -> Shared -> Prop} {s : Shared} {c : Prop} {i : Decidable c} {a b : Sem α} {Q : α -> Shared -> Prop} (hc : ¬ c) (h : wpAny M A b Q E s) : wpAny M A (@ite (Sem α) c i a b) Q E s := by
 rw [if_neg hc]; exact h
theorem zhv {E : Value -> Shared -> Prop} {s : Shared} {T : Array Nat} {a b : Nat} {Q : Value -> Shared -> Prop} (hT : T.size <= 10000) (h : Q (.str ⟨T.extract a b⟩ s.toks) { s with toks := s.toks + 1 }) : wpAny (model pg w) A (reSlice T 0 a b) Q E s := by
 show wpAny _ _ (mkStr ⟨T.extract a b⟩) _ _ _
 refine wpAny_mkStr h ?_
 show (T.extract a b).size <= sizeLine
 have : (10000 : Nat) <= sizeLine := by decide
 rw [Array.size_extract]; lia
theorem zjf {E : Value -> Shared -> Prop} {s : Shared} {T : Array Nat} {L : Addr} {l : List (Str × Tok)} {n : Nat} {i : Int} {Q : Fin -> Shared -> Prop} (hT : T.size <= 10000) (hL : s.heap.get? L = some (zbz (strValues l) n)) (hl : l ≠ []) (hj : JoinOk (Str.mk #[]) (l.map (·.1)) = true)
  (h : ∀ tk tt, Q (.done (.ret (.str (Txt.join (Str.mk #[]) (l.map (·.1))) tt))) { s with toks := tk }) :
  wpAny (model pg w) A (do
   let joiner <- reSlice T 0 0 0
   let q <- seqItems? (Value.ref L)
   if (q.getD #[]).isEmpty = true then do
     let text <- pure joiner
     if false = true then do
       let y <-
        holding [text] do
          let z <- mkInt i
          newTuple [text, z]
       ret y
      else ret text
    else do
     let text <- call (Value.builtin (if (0 == 0) = true then "str.join" else "bytes.join")) [joiner, Value.ref L]
     if false = true then do
       let y <-
        holding [text] do
          let z <- mkInt i
          newTuple [text, z]
       ret y
      else ret text) Q E s := by
 refine wpAny_bind (zhv hT ?_)
 rw [Array.extract_zero]
 refine wpAny_bind (wpAny_seqItems (s := { s with toks := s.toks + 1 }) hL rfl ?_)
 rw [if_neg (by cases l with | nil => exact absurd rfl hl | cons a r => simp [strValues])]
 refine wpAny_bind ?_
 rw [if_pos (by rfl)]
 refine PySem.SC.join (l := l) ⟨_, hL, rfl, _, rfl⟩ rfl hj fun t' k => ?_
 rw [if_neg Bool.false_ne_true]
 exact wpAny_pure (h _ _)
theorem zwt {p : Addr} {C T : Array Nat} {repl : Str} {t1 t2 : Tok} {d : Nat} {ps : List Str} (hf : Finds C T repl d ps) (hT : T.size <= 10000) : ∀ (s : Shared) (L : Addr) (l : List (Str × Tok)) (n : Nat) (i : Int), PatAt s.heap p C -> (∀ h', (∀ b o, b ≠ L -> s.heap.get? b = some o -> h'.get? b = some o) -> PatAt h' p C) -> s.heap.get? L = some (zbz (strValues l) n) -> l.length + ps.length < 10000 -> (l ≠ [] ∨ d < T.size) -> JoinOk (Str.mk #[]) (l.map (·.1) ++ ps) = true ->
  (∀ h' tk tt, (∀ b o, b ≠ L -> s.heap.get? b = some o -> h'.get? b = some o) -> R (.ok (.ret (.str (Txt.join (Str.mk #[]) (l.map (·.1) ++ ps)) tt))) { s with heap := h', toks := tk }) ->
  codeAny (model pg w) A (.builtin "re.Pattern.sub.loop" ⟨[.ref p, .str ⟨T⟩ t1, .str repl t2, rawInt 0, rawInt 0, rawInt i, rawInt d, rawInt d, .bool false, .ref L, .bool false], []⟩) R s := by
 have big : (10000 : Nat) < sizeLine := by decide
 induction hf with
 | @stop d k m g hk ho =>
  intro s L l n i hp hpk hL hlen hne0 hj hR
  unfold cut at hlen hj hR
  refine codeAny_builtin zdv ?_
  rw [Around.under_plainId zbg _]
  refine wpAny_bind (zhr hp ?_)
  show wpAny _ _ (pure () >>= fun _ => _) _ _ _
  refine wpAny_bind (wpAny_pure ?_)
  show wpAny _ _ (reNextFound (tgt p (.str ⟨T⟩ t1) C T) d false >>= _) _ _ _
  refine wpAny_bind (zpe g hk ho ?_)
  dsimp only [tgt]
  simp only [Int.toNat_natCast]
  by_cases hd : d < T.size
  ·refine zez hd ?_
   rw [if_pos hd] at hlen hj hR
   refine wpAny_bind (zhv hT ?_)
   refine wpAny_bind (zfm (s := { s with toks := s.toks + 1 }) hL (by lia) fun h' n' hk' hL' => ?_)
   refine zjf (s := { s with heap := h', toks := s.toks + 1 }) hT hL' (by simp) (by rw [List.map_append]; exact hj) fun tk tt => ?_
   have := hR h' tk tt hk'
   rw [List.map_append]
   exact this
  ·refine zc5 hd ?_
   rw [if_neg hd, List.append_nil] at hj
   rw [if_neg hd] at hR
   refine zjf hT hL (hne0.resolve_right hd) hj fun tk tt => ?_
   have := hR s.heap tk tt (fun _ _ _ e => e)
   rw [List.append_nil] at this
   exact this
 | @hit d k b e m ps g hk ho hmb hme hne hf ih =>
  intro s L l n i hp hpk hL hlen hne0 hj hR
  subst hmb hme
  unfold cut at hlen hj hR
  refine codeAny_builtin zdv ?_
  rw [Around.under_plainId zbg _]
  refine wpAny_bind (zhr hp ?_)
  show wpAny _ _ (pure () >>= fun _ => _) _ _ _
  refine wpAny_bind (wpAny_pure ?_)
  show wpAny _ _ (reNextFound (tgt p (.str ⟨T⟩ t1) C T) d false >>= _) _ _ _
  refine wpAny_bind (zto g hk ho ?_)
  dsimp only [tgt]
  simp only [Int.toNat_natCast]
  by_cases hd : d < m.start
  ·refine zez hd ?_
   rw [if_pos hd] at hlen hj hR
   simp only [List.cons_append, List.nil_append, List.length_cons] at hlen hj hR
   refine wpAny_bind (zhv hT ?_)
   refine wpAny_bind (zfm (s := { s with toks := s.toks + 1 }) hL (by lia) fun h' n' hk' hL' => ?_)
   rw [if_pos (by rfl)]
   refine wpAny_bind (wpAny_pure ?_)
   rw [if_pos (by rfl)]
   refine wpAny_bind (zfm (s := { s with heap := h', toks := s.toks + 1 }) hL' (by simp; lia) fun h2 n2 hk2 hL2 => ?_)
   refine wpAny_pure ⟨plainId_quiet zbg _, ?_⟩
   rw [hne]
   have keep : ∀ b o, b ≠ L -> s.heap.get? b = some o -> h2.get? b = some o := fun b o hb e => hk2 b o hb (hk' b o hb e)
   refine ih { s with heap := h2, toks := s.toks + 1 } L _ n2 (i + 1) (hpk h2 keep) (fun h3 k3 => hpk h3 fun b o hb e => k3 b o hb (keep b o hb e)) hL2 (by simp; lia) (.inl (by simp)) (by simpa using hj) fun h3 tk tt k3 => ?_
   have := hR h3 tk tt (fun b o hb e => k3 b o hb (keep b o hb e))
   simpa using this
  ·refine zc5 hd ?_
   rw [if_neg hd] at hlen hj hR
   simp only [List.nil_append, List.length_cons] at hlen hj hR
   rw [if_pos (by rfl)]
   refine wpAny_bind (wpAny_pure ?_)
   rw [if_pos (by rfl)]
   refine wpAny_bind (zfm hL (by lia) fun h2 n2 hk2 hL2 => ?_)
   refine wpAny_pure ⟨plainId_quiet zbg _, ?_⟩
   rw [hne]
   refine ih { s with heap := h2 } L _ n2 (i + 1) (hpk h2 hk2) (fun h3 k3 => hpk h3 fun b o hb e => k3 b o hb (hk2 b o hb e)) hL2 (by simp; lia) (.inl (by simp)) (by simpa using hj) fun h3 tk tt k3 => ?_
   have := hR h3 tk tt (fun b o hb e => k3 b o hb (hk2 b o hb e))
   simpa using this
end
end
section
open PySem.Builtin.Re
noncomputable def flat (ps : List Str) : List Nat := ps.flatMap fun x => x.cps.toList
theorem zb6 (x : Str) (ps : List Str) : flat (x :: ps) = x.cps.toList ++ flat ps := by simp [flat]
theorem zge (a b : List Str) : flat (a ++ b) = flat a ++ flat b := by simp [flat]
theorem zha : ∀ ps : List Str, Str.join (Str.mk #[]) ps = ⟨(flat ps).toArray⟩
 | [] => rfl
 | [x] => by
  show x = _
  obtain ⟨c⟩ := x
  simp [flat]
 | x :: y :: r => by
  show x ++ (Str.mk #[]) ++ Str.join (Str.mk #[]) (y :: r) = _
  rw [zha (y :: r), zb6 x]
  obtain ⟨c⟩ := x
  show Str.mk ((c ++ #[]) ++ _) = _
  simp
theorem zf5 (ps : List Str) : (Txt.join (Str.mk #[]) ps) = ⟨(flat ps).toArray⟩ := by
 unfold Txt.join
 rw [StrLaws.glued_eq_join, zha]
theorem zqm (l : List Str) : ∀ (k : Nat), l.foldl (· + ·.length + (Str.mk #[]).length) k = k + (flat l).length := by
 induction l with
 | nil =>
  intro k
  exact rfl
 | cons x r IH =>
  intro k
  rw [List.foldl_cons, IH, zb6, List.length_append]
  show k + x.cps.size + 0 + _ = _
  rw [<- Array.length_toList]; lia
theorem zdz {ps : List Str} (h : (flat ps).length <= 20000) : JoinOk (Str.mk #[]) ps = true := by
 unfold JoinOk PySem.Builtin.Str.tooLong
 rw [<- Array.foldl_toList, zqm]
 have : (20000 : Nat) < sizeLine := by decide
 simp; lia
noncomputable abbrev crlf : Str := ⟨#[13, 10]⟩
noncomputable abbrev dd : Str := ⟨#[46, 46]⟩
theorem zbi (n : Nat) (ls : List Nat) : txt (n :: ls) = zcz n ++ txt ls := by simp [txt]
theorem za4 (n : Nat) : (zcz n).length = n + 2 := by simp [zcz]
theorem z1t {T : Array Nat} (ls : List Nat) : ∀ {s : Nat}, Lay T s (txt ls) -> ∃ ps, Finds C2 T crlf s ps /\ flat ps = txt ls /\ ps.length <= 2 * ls.length + 1 := by
 induction ls with
 | nil =>
  intro s hl
  have hs := hl.size
  simp [txt] at hs
  subst hs
  obtain ⟨m, g, ho⟩ := none2 (T := T)
  refine ⟨_, .stop g (by decide) ho, ?_, ?_⟩
  ·rw [cut, if_neg (Nat.lt_irrefl _)]; rfl
  ·rw [cut, if_neg (Nat.lt_irrefl _)]; simp
 | cons n ls IH =>
  intro s hl
  rw [zbi] at hl
  obtain ⟨seen', g⟩ := zv3 n (txt ls) hl
  have hl2 : Lay T (s + n + 2) (txt ls) := by
   have := Lay.append _ hl
   rwa [za4, <- Nat.add_assoc] at this
  obtain ⟨ps, hf, e, hlen⟩ := IH hl2
  have F := Finds.hit (b := s + n) (e := s + n + 2) g (by decide) rfl rfl rfl (by simp) hf
  refine ⟨_, F, ?_, ?_⟩
  ·rw [zge, zb6, e, zbi]
   cases n with
   | zero => rw [cut, if_neg (by lia)]; rfl
   | succ n =>
    rw [cut, if_pos (by lia)]
    have h3 : Lay T s (List.replicate (n + 1) 46 ++ ([13, 10] ++ txt ls)) := by
     have := hl
     unfold zcz at this
     rwa [List.append_assoc] at this
    have := h3.extract
    rw [List.length_replicate] at this
    rw [this]
    simp [flat, zcz]
  ·rw [cut]
   split <;> simp <;> lia
theorem z1u {T : Array Nat} (hT : T.size <= 10000) (ls : List Nat) : ∀ (n : Nat) {s : Nat}, Lay T s (zcz n ++ txt (ls.map (· + 1))) -> bol T s = false -> ∃ ps, Finds C1 T dd s ps /\ flat ps = zcz n ++ txt (ls.map (· + 2)) /\ ps.length <= 2 * ls.length + 1 := by
 induction ls with
 | nil =>
  intro n s hl hb
  have hl0 : Lay T s (zcz n) := by simpa [txt] using hl
  have hs := hl0.size
  rw [za4] at hs
  obtain ⟨k, m, hk, g, ho⟩ := none1 n hl0 hb
  refine ⟨_, .stop g (by lia) ho, ?_, ?_⟩
  ·rw [cut, if_pos (by lia)]
   have := (show Lay T s (zcz n ++ []) from by rwa [List.append_nil]).extract
   rw [za4, <- hs] at this
   rw [this]
   simp [flat, txt]
  ·rw [cut, if_pos (by lia)]; simp
 | cons a ls IH =>
  intro n s hl hb
  have hs := hl.size
  rw [List.length_append, za4] at hs
  rw [List.map_cons, zbi] at hl
  obtain ⟨k, f, seen', hk, g⟩ := zv4 n a _ hl hb
  have hl2 : Lay T (s + n + 2) (46 :: (zcz a ++ txt (ls.map (· + 1)))) := by
   have := Lay.append _ hl
   rwa [za4, <- Nat.add_assoc] at this
  obtain ⟨ps, hf, e, hlen⟩ := IH a hl2.next (by rw [hl2.bol]; rfl)
  have F := Finds.hit (b := s + n + 2) (e := s + n + 2 + 1) g (by lia) rfl rfl rfl (by simp) hf
  refine ⟨_, F, ?_, ?_⟩
  ·rw [cut, if_pos (by lia)]
   have := hl.extract
   rw [za4, <- Nat.add_assoc] at this
   rw [this, zge, zb6, zb6, e, List.map_cons, zbi]
   simp [flat, zcz, List.replicate_succ]
  ·rw [cut, if_pos (by lia)]
   simp; lia
theorem zxt {T : Array Nat} (hT : T.size <= 10000) (a : Nat) (ls : List Nat) (hl : Lay T 0 (txt ((a :: ls).map (· + 1)))) : ∃ ps, Finds C1 T dd 0 ps /\ flat ps = txt ((a :: ls).map (· + 2)) /\ ps.length <= 2 * ls.length + 2 := by
 rw [List.map_cons, zbi] at hl
 obtain ⟨seen', g⟩ := z1s a _ hl
 have hl2 : Lay T 0 (46 :: (zcz a ++ txt (ls.map (· + 1)))) := hl
 obtain ⟨ps, hf, e, hlen⟩ := z1u hT ls a hl2.next (by rw [hl2.bol]; rfl)
 have F := Finds.hit (b := 0) (e := 1) g (by decide) rfl rfl rfl (by simp) hf
 refine ⟨_, F, ?_, ?_⟩
 ·rw [cut, if_neg (Nat.lt_irrefl _), List.nil_append, zb6, e, List.map_cons, zbi]
  simp [zcz, List.replicate_succ]
 ·rw [cut, if_neg (Nat.lt_irrefl _)]
  simp; lia
end
section
open PySem.Builtin.Re
theorem zj8 : typeLookup (.type "str") "__call__" = pure none := by rw [typeLookup_type, builtinLookup_eq_fast]; kernel_rfl
theorem zph (a b : Value) : reNamed "re.Pattern.sub" "sub" ["repl", "string", "count"] 2 [a, b] [] = pure [some a, some b, none] := by
 unfold reNamed
 kernel_rfl
section
variable {w : World} {A : Around} {E : Value -> Shared -> Prop} {s : Shared}
theorem zul {p : Addr} {C T : Array Nat} {repl : Str} {t1 t2 : Tok} {ps : List Str} {Q : Value -> Shared -> Prop} (hr : repl.cps.contains 92 = false) (hp : PatAt s.heap p C) (hf : Finds C T repl 0 ps) (hT : T.size <= 10000) (hT0 : 0 < T.size) (hps : ps.length < 10000) (hfl : (flat ps).length <= 20000)
  (h : ∀ h' tk tt, (∀ b o, s.heap.get? b = some o -> h'.get? b = some o) -> Q (.str ⟨(flat ps).toArray⟩ tt) { s with heap := h', toks := tk }) :
  wpAny (model pg w) A (call (.builtin "re.Pattern.sub") [.ref p, .str repl t2, .str ⟨T⟩ t1]) Q E s := by
 refine wpAny_call (codeAny_call_builtin zc9.plain zh7 (zc9.check _ _ _ _ _ _ _ _ hp.typeIs (zju _ _ _) ?_))
 show wpAny _ _ (reSubstitute "re.Pattern.sub" "sub" false _) _ _ _
 unfold reSubstitute
 dsimp only
 refine wpAny_bind (wpAny_of_eq (zph _ _) ?_)
 dsimp only
 refine wpAny_bind (wpAny_pure ?_)
 refine wpAny_bind (wpAny_specialOf_val (T := "str") rfl zj8 ?_)
 show wpAny _ _ ((pure (some repl) : Sem (Option Str)) >>= _) _ _ _
 refine wpAny_bind (wpAny_pure ?_)
 dsimp only
 rw [hr]
 refine wpAny_bind (wpAny_pure ?_)
 refine wpAny_bind (wpAny_pure ?_)
 dsimp only
 refine wpAny_bind (wpAny_holding (zhr hp ?_))
 have k0 : ∀ b o, s.heap.get? b = some o -> (s.heap.push { cls := .type "list", data := .seq #[] }).get? b = some o := fun b o e => Heap.get?_push_of_some _ e
 have fresh : ∀ b o, s.heap.get? b = some o -> b ≠ s.heap.objs.size := fun b o e => Nat.ne_of_lt (Heap.lt_size e)
 have hp2 : ∀ h', (∀ b o, b ≠ s.heap.objs.size -> (s.heap.push { cls := .type "list", data := .seq #[] }).get? b = some o -> h'.get? b = some o) -> PatAt h' p C := fun h' k => hp.keeps fun b o e => k b o (fresh b o e) (k0 b o e)
 refine zc5 (by decide) ?_
 refine wpAny_bind (wpAny_newList ?_)
 refine wpAny_pure ⟨plainId_quiet zbg _, ?_⟩
 refine zwt hf hT { s with heap := s.heap.push { cls := .type "list", data := .seq #[] } } s.heap.objs.size [] 0 0 (hp.keeps k0) hp2 (Heap.get?_push_size _ rfl) (by simpa using hps) (.inr hT0) (zdz (by simpa using hfl)) fun h' tk tt k => ?_
 rw [List.map_nil, List.nil_append, zf5]
 exact h h' tk tt fun b o e => k b o (fresh b o e) (k0 b o e)
end
end
section
open PySem.Builtin.Re
theorem b191 (w : World) : ∃ p1 p2 p3 p4 p5 p6 p7 p8 p9 p10 : Pos, ∃ k, zay w 191 = [.Return (some (.Call (.Attribute (.Name "_twin_re_1" p1) "sub" p2) [.Constant (.str "..") k p3, .Call (.Attribute (.Name "_twin_re_2" p4) "sub" p5) [.Name "CRLF" p6, .Name "data" p7] [] p8] [] p9)) p10] /\ p2.endLine = p9.line /\ p5.endLine = p8.line := ⟨_, _, _, _, _, _, _, _, _, _, _, rfl, rfl, rfl⟩
noncomputable def zqa (o : Option Obj) (ct : Addr) : Bool := match o with
 | some o => o.cls == .type "re.Pattern" && o.dict == none && (match o.data with | .fields F => reRawNat (F.getD 6 .none) == 0 && reRawNat (F.getD 2 .none) == 0 && F.getD 5 .none == .ref ct | _ => false)
 | none => false
noncomputable def zp8 (g : Option Obj) (C : Array Nat) : Bool := match g with
 | some oc => (match oc.data with | .seq its n => (its.map reRawOf).map (·.toNat) == C | _ => false)
 | none => false
theorem pat1 (w : World) : zqa ((KK w).lookup 179) 178 = true := by kernel_rfl
theorem tab1 (w : World) : zp8 ((KK w).lookup 178) C1 = true := by kernel_rfl
theorem pat2 (w : World) : zqa ((KK w).lookup 184) 183 = true := by kernel_rfl
theorem tab2 (w : World) : zp8 ((KK w).lookup 183) C2 = true := by kernel_rfl
theorem gl_p1 (w : World) : nsIn (KK w) mainGlobals "_twin_re_1" = some (some (.ref 179)) := by kernel_rfl
theorem gl_p2 (w : World) : nsIn (KK w) mainGlobals "_twin_re_2" = some (some (.ref 184)) := by kernel_rfl
set_option tactic.hygienic true in
theorem zu7 {w : World} {mb : Str -> Option Value} {h : Heap} {p ct : Addr} {C : Array Nat} (B : Base w mb h) (h1 : zqa ((KK w).lookup p) ct = true) (h2 : zp8 ((KK w).lookup ct) C = true) : PatAt h p C /\ ∃ ob, h.get? p = some ob /\ ob.dict = none := by
 unfold zqa at h1
 unfold zp8 at h2
 split at h1
 ·rename_i o ho
  split at h2
  ·rename_i oc hoc
   simp only [Bool.and_eq_true, beq_iff_eq] at h1
   obtain ⟨⟨h11, h12⟩, h13⟩ := h1
   split at h13
   ·rename_i F hF
    split at h2
    ·rename_i its n hi
     simp only [Bool.and_eq_true, beq_iff_eq] at h13 h2
     exact ⟨⟨⟨o, F, ct, oc, its, n, B.k _ _ ho, h11, hF, h13.1.1, h13.1.2, h13.2, B.k _ _ hoc, hi, h2⟩⟩, o, B.k _ _ ho, h12⟩
    ·cases h2
   ·cases h13
  ·cases h2
 ·cases h1
section
variable {w : World} {mb : Str -> Option Value} {A : Around} {env : Env} {σ : List (Str × D)} {own : Option (Str × List D)} {X Y : List Addr} {s : Shared}
theorem zln (S : Sc env σ own X Y s.heap) (B : Base w mb s.heap) {g : Str} {p ct : Addr} {C T : Array Nat} {repl : Str} {ps : List Str} {e1 e2 : PySem.Expr} {p1 p2 p3 : Pos} (hk : env.kindOf g = some .globalImplicit) (hg : nsIn (KK w) mainGlobals g = some (some (.ref p))) (hd : (g == ("__debug__" : Str)) = false) (hpt : zqa ((KK w).lookup p) ct = true) (htb : zp8 ((KK w).lookup ct) C = true)
  (hp : p2.endLine = p3.line) (he1 : ∀ a b, e1 ≠ .Starred a b) (he2 : ∀ a b, e2 ≠ .Starred a b) (hr : repl.cps.contains 92 = false) (hf : Finds C T repl 0 ps) (hT : T.size <= 10000) (hT0 : 0 < T.size) (hps : ps.length < 10000) (hfl : (flat ps).length <= 20000)
  (h1 : Tot w mb A env.locals (eval e1 env) s fun v _ => ∃ t, v = .str repl t)
  (h2 : ∀ h' tk, Kp env.locals s.heap h' -> Base w mb h' -> Tot w mb A env.locals (eval e2 env) { s with heap := h', toks := tk } fun v _ => ∃ t, v = .str ⟨T⟩ t) :
  Tot w mb A env.locals (eval (.Call (.Attribute (.Name g p1) "sub" p2) [e1, e2] [] p3) env) s fun v _ => ∃ t, v = .str ⟨(flat ps).toArray⟩ t := by
 constructor
 have he : ∀ e' ∈ [e1, e2], ∀ a b, e' ≠ PySem.Expr.Starred a b := fun e' h => by
  rcases List.mem_cons.mp h with rfl | h
  ·exact he1
  ·rw [List.mem_singleton.mp h]; exact he2
 refine wpAny_Call_method (T := "re.Pattern") (id := "re.Pattern.sub") (za6 rfl) (zd1 he (by simp)) (by simp [hp]) zgw zc9 ziv ?_
 obtain ⟨P, ob, g1, g2⟩ := zu7 B hpt htb
 refine zd8 S.eok B hk hg hd ⟨P.typeIs, fun a e => ⟨ob, by cases e; exact g1, g2⟩, ?_⟩
 refine zbb (fun _ h => by cases h) (za0 he) (zas he ?_)
 refine wpAny_items_cons ?_ (zcm he1)
 refine h1.use fun v1 h1' tk1 k1 b1 r1 => ?_
 obtain ⟨t1, rfl⟩ := r1
 refine wpAny_items_cons ?_ (zcm he2)
 refine (h2 h1' tk1 k1 b1).use fun v2 h2' tk2 k2 b2 r2 => ?_
 obtain ⟨t2, rfl⟩ := r2
 refine Calls.spliced_nil ?_
 refine zul (s := { s with heap := h2', toks := tk2 }) hr (zu7 b2 hpt htb).1 hf hT hT0 hps hfl fun h3 tk3 tt k3 => ?_
 exact ⟨h3, tk3, rfl, (k1.trans k2).trans (.of k3), b2.keeps k3, tt, rfl⟩
noncomputable def zad (ls : List Nat) : Str := ⟨(txt ls).toArray⟩
theorem zcj : ∀ (ls : List Nat), (txt ls).length = ls.sum + 2 * ls.length
 | [] => rfl
 | n :: r => by rw [zbi, List.length_append, za4, zcj r, List.sum_cons, List.length_cons]; lia
theorem zcf (k : Nat) : ∀ (l : List Nat), (l.map (· + k)).sum = l.sum + k * l.length
 | [] => rfl
 | a :: r => by rw [List.map_cons, List.sum_cons, zcf k r, List.sum_cons, List.length_cons, Nat.mul_add]; lia
theorem zm3 {a : Nat} {ls : List Nat} (h1 : (a :: ls).sum <= 1000) (h2 : ls.length <= 1000) : zfi w mb 7 (.ref 191) [.str (zad ((a :: ls).map (· + 1)))] (.str (zad ((a :: ls).map (· + 2)))) := by
 intro A s X vs hA B hX hT ra
 refine wpAny_call (zed (K := 6) (z2c w) rfl hA B hX hT ra fun A' env X1 G1 tk1 hA' hk S1 B1 keep1 hX1 hvar hl hcd henv => ?_)
 obtain ⟨p1, p2, p3, p4, p5, p6, p7, p8, p9, p10, k, hb, hline, hcol⟩ := b191 w
 rw [hb]
 have kf1 : env.kindOf "_twin_re_1" = some .globalImplicit := by rw [hk]; kernel_rfl
 have kf2 : env.kindOf "_twin_re_2" = some .globalImplicit := by rw [hk]; kernel_rfl
 have L0 : Lay ((txt ((a :: ls).map (· + 1))).toArray) 0 (txt ((a :: ls).map (· + 1))) := ⟨Nat.zero_le _, rfl⟩
 have sz : ((txt ((a :: ls).map (· + 1))).toArray).size = (a :: ls).sum + 3 * (a :: ls).length := by
  rw [List.size_toArray, zcj, zcf, List.length_map]; lia
 rw [List.length_cons] at sz
 obtain ⟨ps2, f2, e2, l2⟩ := z1t _ L0
 obtain ⟨ps1, f1, e1, l1⟩ := zxt (by lia) a ls L0
 rw [List.length_map] at l2
 have x2 : (flat ps2).length = (a :: ls).sum + 3 * (ls.length + 1) := by rw [e2, <- sz, List.size_toArray]
 have x1 : (flat ps1).length = (a :: ls).sum + 4 * (ls.length + 1) := by
  rw [e1, zcj, zcf, List.length_map, List.length_cons]; lia
 rw [List.length_cons] at l2
 have hA6 : Rm A' 6 := hA'
 have kq : env.kindOf = zab w 191 := hk
 have eD : ((".." : Str)) = dd := by kernel_rfl
 have eC : (("\r\n" : Str)) = crlf := by kernel_rfl
 refine wpAny_execs_cons (wpAny_Return_some ?_)
 refine (zln (s := { s with heap := G1, toks := tk1 }) (ps := ps1) (T := (txt ((a :: ls).map (· + 1))).toArray) (repl := dd) S1 B1 kf1 (gl_p1 w) (by decide +kernel) (pat1 w) (tab1 w) hline (fun _ _ e => by cases e) (fun _ _ e => by cases e) (by decide +kernel) f1 (by lia) (by lia) (by lia) (by lia) ?_ ?_).use fun v G2 tk2 k2 b2 r2 => ?_
 ·refine ((zao (H0 w mb) 12).1 hA6 (d := .str "..") (k := .froz) S1 B1 (by rw [hk]; kernel_rfl)).mono fun v h' _ _ r => ?_
  exact (show ∃ t, v = .str ".." t from Rep.inv r).imp fun t e => eD ▸ e
 ·intro G3 tk3 k3 b3
  have S3 := S1.kp k3 b3
  refine (zln (s := { s with heap := G3, toks := tk3 }) (ps := ps2) (T := (txt ((a :: ls).map (· + 1))).toArray) (repl := crlf) S3 b3 kf2 (gl_p2 w) (by decide +kernel) (pat2 w) (tab2 w) hcol (fun _ _ e => by cases e) (fun _ _ e => by cases e) (by decide +kernel) f2 (by lia) (by lia) (by lia) (by lia) ?_ ?_).mono fun v h' _ _ r => ?_
  ·refine ((zao (H0 w mb) 12).1 hA6 (d := .str "\r\n") (k := .froz) S3 b3 (by rw [hk]; kernel_rfl)).mono fun v h' _ _ r => ?_
   exact (show ∃ t, v = .str "\r\n" t from Rep.inv r).imp fun t e => eC ▸ e
  ·intro G4 tk4 k4 b4
   have S4 := S3.kp k4 b4
   refine ((zao (H0 w mb) 12).1 hA6 (d := .str (zad ((a :: ls).map (· + 1)))) (k := .froz) S4 b4 (by rw [hk]; kernel_rfl)).mono fun v h' _ _ r => ?_
   exact Rep.inv r
  ·obtain ⟨t, rfl⟩ := r
   exact ⟨t, by rw [e2]⟩
 ·obtain ⟨t, rfl⟩ := r2
  refine ⟨G2, tk2, rfl, fun b o hb e => ?_, b2, ?_⟩
  ·exact k2.1 b o (fun q => by rw [q, hl] at e; cases e) hb (keep1 b o e)
  ·rw [e1]; exact .str ..
end
end
section
section
variable {O : Orc} {mv : List Str} {kf : Kf} {n : Nat} {c c' : Mine.St} {p q : Pos}
theorem zce {ev : Mine.St -> PySem.Stmt -> Option (Mine.St × Fl)} : zcc ev [] c = some (c, .next) := rfl
theorem zap {ev : Mine.St -> PySem.Stmt -> Option (Mine.St × Fl)} {st : PySem.Stmt} {r : List PySem.Stmt} {x : Mine.St × Fl} (h : ev c st = some (c', .next)) (h2 : zcc ev r c' = some x) : zcc ev (st :: r) c = some x := by
 unfold zcc; rw [h]; exact h2
theorem zn2 {t : PySem.Expr} {b o : List PySem.Stmt} {d : D} {k : Kd} {x : Mine.St × Fl} (h : zaa O n ⟨kf, c.σ, c.own⟩ t = some (d, k)) (ht : zan d = some true) (hx : zcc (zae O mv kf n) b c = some x) : zae O mv kf (n + 1) c (.If t b o p) = some x := by
 show (match zaa O n ⟨kf, c.σ, c.own⟩ t with | some (d, _) => (match zan d with | some true => zcc (zae O mv kf n) b c | some false => zcc (zae O mv kf n) o c | none => none) | none => none) = _
 rw [h]; dsimp only; rw [ht]; exact hx
theorem zn3 {t : PySem.Expr} {b o : List PySem.Stmt} {d : D} {k : Kd} {x : Mine.St × Fl} (h : zaa O n ⟨kf, c.σ, c.own⟩ t = some (d, k)) (ht : zan d = some false) (hx : zcc (zae O mv kf n) o c = some x) : zae O mv kf (n + 1) c (.If t b o p) = some x := by
 show (match zaa O n ⟨kf, c.σ, c.own⟩ t with | some (d, _) => (match zan d with | some true => zcc (zae O mv kf n) b c | some false => zcc (zae O mv kf n) o c | none => none) | none => none) = _
 rw [h]; dsimp only; rw [ht]; exact hx
theorem zyv {x : Str} {i e : PySem.Expr} {p1 p2 p3 : Pos} {ds : List D} {d : D} {kd k : Kd} {j : Int} (ho : c.own = some (x, ds)) (hn : zct e = true) (hl : c.σ.lookup x = none) (hx : zax x = true) (hi : zae.notSlice i = true) (he : zaa O n ⟨kf, c.σ, c.own⟩ e = some (d, kd)) (hk : kd ≠ .brw) (hj : zaa O n ⟨kf, c.σ, c.own⟩ i = some (.int j, k)) (h0 : 0 <= j) (h1 : j < ds.length) (h2 : j < 2 ^ 62) :
  zae O mv kf (n + 1) c (.Assign [.Subscript (.Name x p1) i p2] e p3) = some (⟨c.σ, some (x, ds.set j.toNat d)⟩, .next) := by
 have : zae O mv kf (n + 1) c (.Assign [.Subscript (.Name x p1) i p2] e p3) = (match c.own with
   | some (y, ds) => if x = y /\ zct e = true /\ c.σ.lookup x = none /\ zax x = true then (match zaa O n ⟨kf, c.σ, c.own⟩ e with
    | some (d, kd) => (match zaa O n ⟨kf, c.σ, c.own⟩ i with
     | some (.int j, _) => if kd ≠ Kd.brw /\ 0 <= j /\ j < ds.length /\ j < 2 ^ 62 /\ zae.notSlice i = true then some (⟨c.σ, some (y, ds.set j.toNat d)⟩, .next) else none
     | _ => none)
    | none => none) else none
   | none => none) := rfl
 rw [this, he, hj, ho]
 dsimp only
 rw [if_pos ⟨rfl, hn, hl, hx⟩, if_pos ⟨hk, h0, h1, h2, hi⟩]
theorem zrp {es : List PySem.Expr} {k : Nat} {p1 p2 : Pos} {e : PySem.Expr} {d : D} {kd : Kd} {σ' : List (Str × D)} (hn : zdt e = true) (he : zaa O n ⟨kf, c.σ, c.own⟩ e = some (d, kd)) (hk : kd ≠ .brw) (hb : za8 kf c.own c.σ (.Tuple es k p1) d = some σ') :
  zae O mv kf (n + 1) c (.Assign [.Tuple es k p1] e p2) = some (⟨σ', c.own⟩, .next) := by
 show (if zdt e = true then (match zaa O n ⟨kf, c.σ, c.own⟩ e with
   | some (d, kd) => if kd ≠ Kd.brw then (za8 kf c.own c.σ (.Tuple es k p1) d).map fun σ => ((⟨σ, c.own⟩ : Mine.St), Fl.next) else none
   | none => none) else none) = _
 rw [if_pos hn, he]; dsimp only; rw [if_pos hk, hb]; rfl
theorem zin {t iter : PySem.Expr} {body : List PySem.Stmt} {ds : List D} {x : Mine.St × Fl} (hi : zd9 (zaa O n) ⟨kf, c.σ, c.own⟩ iter = some ds) (h : zbu kf t (zcc (zae O mv kf n) body) ds c = some x) : zae O mv kf (n + 1) c (.For t iter body [] p) = some x := by
 show (match zd9 (zaa O n) ⟨kf, c.σ, c.own⟩ iter with | some ds => zbu kf t (zcc (zae O mv kf n) body) ds c | none => none) = _
 rw [hi]; exact h
theorem zcb {t : PySem.Expr} {body : Mine.St -> Option (Mine.St × Fl)} {d : D} {r : List D} {σ1 : List (Str × D)} {c2 : Mine.St} {x : Mine.St × Fl} (hb : za8 kf c.own c.σ t d = some σ1) (h1 : body ⟨σ1, c.own⟩ = some (c2, .next)) (h2 : zbu kf t body r c2 = some x) : zbu kf t body (d :: r) c = some x := by
 unfold zbu; rw [hb]; dsimp only; rw [h1]; exact h2
theorem zrs {x : Str} {d : D} {k : Kd} {ds : List D} {ev : Cx -> PySem.Expr -> Option (D × Kd)} {cx : Cx} (h : ev cx (.Name x p) = some (d, k)) (hk : k ≠ .brw) (hi : zeo d = some ds) : zd9 ev cx (.Name x p) = some ds := by
 show (match ev cx (.Name x p) with | some (d, k) => if k ≠ Kd.brw /\ ze4 (.Name x p) = true then zeo d else none | none => none) = _
 rw [h]; dsimp only; rw [if_pos ⟨hk, rfl⟩]; exact hi
noncomputable def zwh : PySem.Stmt -> Bool
 | .If .. => false
 | .Return .. => false
 | _ => true
theorem zah {m : Nat} {st : PySem.Stmt} {l : List PySem.Stmt} {r : List (List PySem.Stmt)} {d : D} (h : zae O mv kf n c st = some (c', .next)) (hf : zwh st = true) (h2 : zc3 O mv kf n m (l :: r) c' = some d) : zc3 O mv kf n (m + 1) ((st :: l) :: r) c = some d := by
 have : zc3 O mv kf n (m + 1) ((st :: l) :: r) c = (match zae O mv kf n c st with
   | some (c', .next) => zc3 O mv kf n m (l :: r) c'
   | some (_, .ret d) => some d
   | _ => none) := by
  cases st <;> first | rfl | cases hf
 rw [this, h]; exact h2
theorem zrr {m : Nat} {t : PySem.Expr} {b o : List PySem.Stmt} {l : List PySem.Stmt} {r : List (List PySem.Stmt)} {d e : D} {k : Kd} (h : zaa O n ⟨kf, c.σ, c.own⟩ t = some (e, k)) (ht : zan e = some true) (h2 : zc3 O mv kf n m (b :: l :: r) c = some d) : zc3 O mv kf n (m + 1) ((.If t b o p :: l) :: r) c = some d := by
 show (match zaa O n ⟨kf, c.σ, c.own⟩ t with | some (d, _) => (match zan d with | some z => cond z (zc3 O mv kf n m (b :: l :: r) c) (zc3 O mv kf n m (o :: l :: r) c) | none => none) | none => none) = _
 rw [h]; dsimp only; rw [ht]; exact h2
theorem zey {m : Nat} {t : PySem.Expr} {b o : List PySem.Stmt} {l : List PySem.Stmt} {r : List (List PySem.Stmt)} {d e : D} {k : Kd} (h : zaa O n ⟨kf, c.σ, c.own⟩ t = some (e, k)) (ht : zan e = some false) (h2 : zc3 O mv kf n m (o :: l :: r) c = some d) : zc3 O mv kf n (m + 1) ((.If t b o p :: l) :: r) c = some d := by
 show (match zaa O n ⟨kf, c.σ, c.own⟩ t with | some (d, _) => (match zan d with | some z => cond z (zc3 O mv kf n m (b :: l :: r) c) (zc3 O mv kf n m (o :: l :: r) c) | none => none) | none => none) = _
 rw [h]; dsimp only; rw [ht]; exact h2
theorem zg4 {m : Nat} {e : PySem.Expr} {l : List PySem.Stmt} {r : List (List PySem.Stmt)} {d : D} {k : Kd} (h : zaa O n ⟨kf, c.σ, c.own⟩ e = some (d, k)) : zc3 O mv kf n (m + 1) ((.Return (some e) p :: l) :: r) c = some d := by
 show (match zaa O n ⟨kf, c.σ, c.own⟩ e with | some (d, _) => some d | none => none) = _
 rw [h]
theorem zjv {m : Nat} {r : List (List PySem.Stmt)} {x : Option D} (h : zc3 O mv kf n m r c = x) : zc3 O mv kf n (m + 1) ([] :: r) c = x := h
end
end
section
theorem bilb (w : World) : ∃ (pp : Nat -> Pos) (kk : Nat -> Nat), ilb w = [.If (.Compare (.Name "ch" (pp 0)) [.Eq] [.Name "S" (pp 1)] (pp 2)) [.Assign [.Name "n" (pp 3)] (.BinOp (.Name "n" (pp 4)) .Add (.Constant (.int 1) (kk 0) (pp 5)) (pp 6)) (pp 7), .Assign [.Name "b" (pp 8)] (.BinOp (.Name "b" (pp 9)) .Add (.Constant (.int 1) (kk 1) (pp 10)) (pp 11)) (pp 12)] [.If (.Compare (.Name "ch" (pp 13)) [.Eq] [.Name "T" (pp 14)] (pp 15)) [.Assign [.Name "n" (pp 16)] (.BinOp (.Name "n" (pp 17)) .Add (.Constant (.int 1) (kk 2) (pp 18)) (pp 19)) (pp 20), .Assign [.Name "nt" (pp 21)] (.BinOp (.Name "nt" (pp 22)) .Add (.Constant (.int 1) (kk 3) (pp 23)) (pp 24)) (pp 25), .If (.Compare (.Name "b" (pp 26)) [.GtE] [.Call (.Name "len" (pp 27)) [.Name "count" (pp 28)] [] (pp 29)] (pp 30)) [.Assign [.Name "count" (pp 31)] (.BinOp (.Name "count" (pp 32)) .Add (.BinOp (.List [.Constant (.int 0) (kk 4) (pp 33)] (pp 34)) .Mult (.BinOp (.BinOp (.Name "b" (pp 35)) .Sub (.Call (.Name "len" (pp 36)) [.Name "count" (pp 37)] [] (pp 38)) (pp 39)) .Add (.Constant (.int 1) (kk 5) (pp 40)) (pp 41)) (pp 42)) (pp 43)) (pp 44)] [] (pp 45), .Assign [.Subscript (.Name "count" (pp 46)) (.Name "b" (pp 47)) (pp 48)] (.BinOp (.Subscript (.Name "count" (pp 49)) (.Name "b" (pp 50)) (pp 51)) .Add (.Constant (.int 1) (kk 6) (pp 52)) (pp 53)) (pp 54), .Assign [.Name "b" (pp 55)] (.Constant (.int 0) (kk 7) (pp 56)) (pp 57)] [.Break (pp 58)] (pp 59)] (pp 60)] :=
 ⟨fun i => [_, _, _, _, _, _, _, _, _, _, _, _, _, _, _, _, _, _, _, _, _, _, _, _, _, _, _, _, _, _, _, _, _, _, _, _, _, _, _, _, _, _, _, _, _, _, _, _, _, _, _, _, _, _, _, _, _, _, _, _, _].getD i default, fun i => [_, _, _, _, _, _, _, _].getD i 0, rfl⟩
noncomputable def wsT (cs : List Int) (b : Nat) : List Int :=
 let r := if cs.length <= b then cs ++ List.replicate (b + 1 - cs.length) 0 else cs
 r.set b (r.getD b 0 + 1)
noncomputable abbrev ctD (cs : List Int) : Option (Str × List D) := some ("count", cs.map .int)
theorem zej (cs : List Int) (b : Nat) : (wsT cs b).length = max cs.length (b + 1) := by
 unfold wsT
 dsimp only
 rw [List.length_set]
 split
 ·rw [List.length_append, List.length_replicate]; lia
 ·lia
variable {w : World} {x : Addr} {ws : Str}
theorem zuz {kf : Kf} {c c2 : Mine.St} {t : PySem.Expr} {body : Mine.St -> Option (Mine.St × Fl)} {d : D} {r : List D} {σ1 : List (Str × D)} (hb : za8 kf c.own c.σ t d = some σ1) (h1 : body ⟨σ1, c.own⟩ = some (c2, .next)) : zbu kf t body (d :: r) c = zbu kf t body r c2 := by
 rw [zbu, hb]; dsimp only; rw [h1]
noncomputable abbrev sp : D := .str ⟨#[32]⟩
noncomputable abbrev tb : D := .str ⟨#[9]⟩
noncomputable def wsB (w : World) (c : Mine.St) : Option (Mine.St × Fl) := zcc (zae O0 ["count"] (zab w 55) 12) (ilb w) c
theorem zow {b n nt : Int} {cs : List D} : wsB w ⟨σ5 x ws b n nt sp, some ("count", cs)⟩ = some (⟨σ5 x ws (b + 1) (n + 1) nt sp, some ("count", cs)⟩, .next) := by kernel_rfl
theorem zrx {b n nt : Int} {ch : D} {cs : List D} {r : List D} : zdd w (sp :: r) ⟨σ5 x ws b n nt ch, some ("count", cs)⟩ = zdd w r ⟨σ5 x ws (b + 1) (n + 1) nt sp, some ("count", cs)⟩ :=
 zuz (σ1 := σ5 x ws b n nt sp) (by kernel_rfl) zow
theorem zn8 {cs : List D} {r : List D} : zdd w (sp :: r) ⟨σ4 x ws, some ("count", cs)⟩ = zdd w r ⟨σ5 x ws 1 1 0 sp, some ("count", cs)⟩ :=
 zuz (σ1 := σ5 x ws 0 0 0 sp) (by kernel_rfl) zow
theorem zok {b : Nat} {n nt : Int} {cs : List Int} (h1 : cs.length <= 100) (h2 : b <= 100) : wsB w ⟨σ5 x ws b n nt tb, ctD cs⟩ = some (⟨σ5 x ws 0 (n + 1) (nt + 1) tb, ctD (wsT cs b)⟩, .next) := by
 unfold wsB
 obtain ⟨pp, kk, e⟩ := bilb w
 rw [e]
 have hz : (cs.map D.int).length <= sizeLine := by rw [List.length_map, sizeLine_eq]; lia
 have elen : ∀ (k : Nat) (a1 a2 a3 : Pos) {n nt : Int}, zaa O0 (k + 2) ⟨zab w 55, σ5 x ws b n nt tb, ctD cs⟩ (.Call (.Name "len" a1) [.Name "count" a2] [] a3) = some (.int cs.length, .froz) := by
  intro k a1 a2 a3 n nt
  have : zaa O0 (k + 2) ⟨zab w 55, σ5 x ws b n nt tb, ctD cs⟩ (.Call (.Name "len" a1) [.Name "count" a2] [] a3) = zbe (zbr [(.lst (cs.map .int), .brw)]) none := by kernel_rfl
  rw [this]
  unfold zbr
  dsimp only
  rw [if_pos hz, List.length_map]; rfl
 -- after the If: the list is long enough
 have grow : zae O0 ["count"] (zab w 55) 10 ⟨σ5 x ws b (n + 1) (nt + 1) tb, ctD cs⟩ (.If (.Compare (.Name "b" (pp 26)) [.GtE] [.Call (.Name "len" (pp 27)) [.Name "count" (pp 28)] [] (pp 29)] (pp 30)) [.Assign [.Name "count" (pp 31)] (.BinOp (.Name "count" (pp 32)) .Add (.BinOp (.List [.Constant (.int 0) (kk 4) (pp 33)] (pp 34)) .Mult (.BinOp (.BinOp (.Name "b" (pp 35)) .Sub (.Call (.Name "len" (pp 36)) [.Name "count" (pp 37)] [] (pp 38)) (pp 39)) .Add (.Constant (.int 1) (kk 5) (pp 40)) (pp 41)) (pp 42)) (pp 43)) (pp 44)] [] (pp 45))
   = some (⟨σ5 x ws b (n + 1) (nt + 1) tb, ctD (if cs.length <= b then cs ++ List.replicate (b + 1 - cs.length) 0 else cs)⟩, .next) := by
  have et : zaa O0 9 ⟨zab w 55, σ5 x ws b (n + 1) (nt + 1) tb, ctD cs⟩ (.Compare (.Name "b" (pp 26)) [.GtE] [.Call (.Name "len" (pp 27)) [.Name "count" (pp 28)] [] (pp 29)] (pp 30)) = some (.bool (decide ((b : Int) ≥ cs.length)), .froz) :=
   zfj (a := .int b) (k1 := .froz) (by kernel_rfl) (elen 6 _ _ _) rfl rfl
  by_cases hb : cs.length <= b
  ·rw [if_pos hb]
   refine zn2 et (by rw [decide_eq_true (by lia)]; rfl) (zap ?_ zce)
   refine zai (r := (.lst ((cs ++ List.replicate (b + 1 - cs.length) 0).map .int), .fresh)) (za3 (a := .lst (cs.map .int)) (k1 := .brw) (b := .lst ((List.replicate (b + 1 - cs.length) (0 : Int)).map .int)) (k2 := .fresh) (by kernel_rfl) (za3 (a := .lst [.int 0]) (k1 := .fresh) (b := .int ((b : Int) - cs.length + 1)) (k2 := .froz) (by kernel_rfl) (za3 (a := .int ((b : Int) - cs.length)) (k1 := .froz) (b := .int 1) (k2 := .froz) (za3 (a := .int b) (k1 := .froz) (by kernel_rfl) (elen 3 _ _ _) rfl) (by kernel_rfl) rfl) ?_) ?_) ?_
   ·show (if ([D.int 0] : List D).length <= 1000 /\ (b : Int) - cs.length + 1 <= 1000 /\ -1000 <= (b : Int) - cs.length + 1 then some (D.lst (List.replicate ((b : Int) - cs.length + 1).toNat [D.int 0]).flatten, Kd.fresh) else none) = _
    rw [if_pos ⟨by decide, by lia, by lia⟩, zlr, show ((b : Int) - cs.length + 1).toNat = b + 1 - cs.length from by lia]
   ·show (if (cs.map D.int).length + ((List.replicate (b + 1 - cs.length) (0 : Int)).map D.int).length <= sizeLine then some (D.lst (cs.map .int ++ (List.replicate (b + 1 - cs.length) (0 : Int)).map .int), Kd.fresh) else none) = _
    rw [if_pos (by rw [List.length_map, List.length_map, List.length_replicate, sizeLine_eq]; lia), List.map_append]
   ·kernel_rfl
  ·rw [if_neg hb]
   exact zn3 et (by rw [decide_eq_false (by lia)]; rfl) zce
 obtain ⟨L, hL⟩ : ∃ L, L = (if cs.length <= b then cs ++ List.replicate (b + 1 - cs.length) 0 else cs) := ⟨_, rfl⟩
 rw [<- hL] at grow
 have hbL : b < L.length := by
  rw [hL]; split
  ·rw [List.length_append, List.length_replicate]; lia
  ·lia
 have eT : wsT cs b = L.set b (L.getD b 0 + 1) := by rw [hL]; rfl
 refine zap (zn3 (d := .bool false) (k := .froz) (by kernel_rfl) rfl (zap (zn2 (d := .bool true) (k := .froz) (by kernel_rfl) rfl ?_) zce)) zce
 refine zap (c' := ⟨σ5 x ws b (n + 1) nt tb, ctD cs⟩) (by kernel_rfl) ?_
 refine zap (c' := ⟨σ5 x ws b (n + 1) (nt + 1) tb, ctD cs⟩) (by kernel_rfl) ?_
 refine zap grow ?_
 refine zap (c' := ⟨σ5 x ws b (n + 1) (nt + 1) tb, ctD (wsT cs b)⟩) ?_ (zap (c' := ⟨σ5 x ws 0 (n + 1) (nt + 1) tb, ctD (wsT cs b)⟩) (by kernel_rfl) zce)
 have ei : ∀ (k : Nat) (a1 a2 a3 : Pos), zaa O0 (k + 2) ⟨zab w 55, σ5 x ws b (n + 1) (nt + 1) tb, ctD L⟩ (.Subscript (.Name "count" a1) (.Name "b" a2) a3) = some (.int (L.getD b 0), .froz) := by
  intro k a1 a2 a3
  refine zfb (o := .lst (L.map .int)) (k1 := .brw) (i := .int b) (k2 := .froz) rfl (by kernel_rfl) (by kernel_rfl) ?_
  show zjy (L.map .int) b = _
  unfold zjy
  rw [if_pos (by lia), if_pos (by lia), Int.toNat_natCast, List.getElem?_map, List.getElem?_eq_getElem hbL, List.getD_eq_getElem?_getD, List.getElem?_eq_getElem hbL]
  rfl
 have := zyv (O := O0) (mv := ["count"]) (kf := zab w 55) (n := 9) (c := ⟨σ5 x ws b (n + 1) (nt + 1) tb, ctD L⟩) (x := "count") (p1 := (pp 46)) (p2 := (pp 48)) (p3 := (pp 54)) (i := .Name "b" (pp 47)) (e := .BinOp (.Subscript (.Name "count" (pp 49)) (.Name "b" (pp 50)) (pp 51)) .Add (.Constant (.int 1) (kk 6) (pp 52)) (pp 53)) (ds := L.map .int) (d := .int (L.getD b 0 + 1)) (kd := .froz) (k := .froz) (j := b) rfl rfl (by kernel_rfl) (by kernel_rfl) rfl (za3 (ei 6 _ _ _) (b := .int 1) (k2 := .froz) (by kernel_rfl) rfl) (by decide) (by kernel_rfl) (by lia) (by rw [List.length_map]; lia) (by lia)
 rw [this, Int.toNat_natCast, eT, <- List.map_set]
theorem zzb {b : Nat} {n nt : Int} {cs : List Int} {ch : D} {r : List D} (h1 : cs.length <= 100) (h2 : b <= 100) : zdd w (tb :: r) ⟨σ5 x ws b n nt ch, ctD cs⟩ = zdd w r ⟨σ5 x ws 0 (n + 1) (nt + 1) tb, ctD (wsT cs b)⟩ :=
 zuz (σ1 := σ5 x ws b n nt tb) (by kernel_rfl) (zok h1 h2)
theorem zvq {r : List D} : zdd w (tb :: r) ⟨σ4 x ws, ctD []⟩ = zdd w r ⟨σ5 x ws 0 1 1 tb, ctD (wsT [] 0)⟩ :=
 zuz (σ1 := σ5 x ws 0 0 0 tb) (by kernel_rfl) (zok (b := 0) (by decide) (by decide))
end
theorem zfu : ∀ l : List Int, zcl (l.map .int) = some (l.map .int)
 | [] => rfl
 | a :: r => by
  show (match ziq (.int a), zcl (r.map .int) with | some p, some q => some (p :: q) | _, _ => Option.none) = _
  rw [zfu r]; rfl
theorem ziw : ∀ l : List Str, zcl (l.map .str) = some (l.map .str)
 | [] => rfl
 | a :: r => by
  show (match ziq (.str a), zcl (r.map .str) with | some p, some q => some (p :: q) | _, _ => Option.none) = _
  rw [ziw r]; rfl
theorem zet : ∀ l : List Int, PyData.canLayAll0 (l.map .int) = true
 | [] => by simp [PyData.canLayAll0]
 | a :: r => by simp [PyData.canLayAll0, PyData.canLay0, zet r]
theorem zgg : ∀ l : List Int, PyData.depthAll (l.map .int) = 0
 | [] => by simp [PyData.depthAll]
 | a :: r => by simp [PyData.depthAll, PyData.depth, zgg r]
theorem zhm : ∀ l : List Str, (∀ x ∈ l, PyData.strOk x = true) -> PyData.canLayAll0 (l.map .str) = true
 | [], _ => by simp [PyData.canLayAll0]
 | a :: r, h => by simp [PyData.canLayAll0, PyData.canLay0, h a (.head _), zhm r fun x hx => h x (.tail _ hx)]
theorem zjp : ∀ l : List Str, PyData.depthAll (l.map .str) = 0
 | [] => by simp [PyData.depthAll]
 | a :: r => by simp [PyData.depthAll, PyData.depth, zjp r]
theorem zes : ∀ l r : List Int, PyData.eqvAll (l.map .int) (r.map .int) = (l == r)
 | [], [] => by simp [PyData.eqvAll]
 | [], b :: r => by simp [PyData.eqvAll]
 | a :: l, [] => by simp [PyData.eqvAll]
 | a :: l, b :: r => by simp [PyData.eqvAll, PyData.eqv, zes l r, List.cons_beq_cons]
theorem zhg : ∀ l r : List Str, PyData.eqvAll (l.map .str) (r.map .str) = (l == r)
 | [], [] => by simp [PyData.eqvAll]
 | [], b :: r => by simp [PyData.eqvAll]
 | a :: l, [] => by simp [PyData.eqvAll]
 | a :: l, b :: r => by simp [PyData.eqvAll, PyData.eqv, zhg l r, List.cons_beq_cons]
theorem zjm (l r : List Int) : zir (.lst (l.map .int)) (.lst (r.map .int)) = some (l == r) := by
 unfold zir
 have h : ∀ l : List Int, ziq (.lst (l.map .int)) = some (.list (l.map .int)) := fun l => by
  show (zcl (l.map .int)).map PyData.list = _
  rw [zfu]; rfl
 rw [h, h]
 dsimp only
 have s : ∀ l : List Int, SeqAt.shaped (.list (l.map .int)) = true := fun l => by
  simp [SeqAt.shaped, PyData.canLay0, PyData.depth, zet, zgg]
 rw [if_pos ⟨s _, s _⟩, PyData.eqv, zes]
theorem zqw {l r : List Str} (hl : ∀ x ∈ l, PyData.strOk x = true) (hr : ∀ x ∈ r, PyData.strOk x = true) : zir (.lst (l.map .str)) (.lst (r.map .str)) = some (l == r) := by
 unfold zir
 have h : ∀ l : List Str, ziq (.lst (l.map .str)) = some (.list (l.map .str)) := fun l => by
  show (zcl (l.map .str)).map PyData.list = _
  rw [ziw]; rfl
 rw [h, h]
 dsimp only
 have s : ∀ l : List Str, (∀ x ∈ l, PyData.strOk x = true) -> SeqAt.shaped (.list (l.map .str)) = true := fun l hl => by
  simp [SeqAt.shaped, PyData.canLay0, PyData.depth, zhm l hl, zjp]
 rw [if_pos ⟨s _ hl, s _ hr⟩, PyData.eqv, zhg]
theorem zk4 (l r : List Int) : znv .Eq (.lst (l.map .int)) (.lst (r.map .int)) = some (l == r) := by
 show (if (l.map D.int).length = (r.map D.int).length then zir (.lst (l.map .int)) (.lst (r.map .int)) else some false) = _
 by_cases h : (l.map D.int).length = (r.map D.int).length
 ·rw [if_pos h, zjm]
 ·rw [if_neg h]
  have : (l == r) = false := by
   rw [beq_eq_false_iff_ne]
   intro q; exact h (by rw [q])
  rw [this]
theorem zk3 (l r : List Int) : znv .NotEq (.lst (l.map .int)) (.lst (r.map .int)) = some (!(l == r)) := by
 show (zir (.lst (l.map .int)) (.lst (r.map .int))).map (!·) = _
 rw [zjm]; rfl
theorem zk2 {l r : List Str} (hl : ∀ x ∈ l, PyData.strOk x = true) (hr : ∀ x ∈ r, PyData.strOk x = true) : znv .NotEq (.lst (l.map .str)) (.lst (r.map .str)) = some (!(l == r)) := by
 show (zir (.lst (l.map .str)) (.lst (r.map .str))).map (!·) = _
 rw [zqw hl hr]; rfl
theorem zug (l r : List Int) (a b : Int) : znv .Eq (.tup [.tup (l.map .int), .int a]) (.tup [.tup (r.map .int), .int b]) = some (l == r && a == b) := by
 show zir (.tup [.tup (l.map .int), .int a]) (.tup [.tup (r.map .int), .int b]) = _
 unfold zir
 have h : ∀ (l : List Int) (a : Int), ziq (.tup [.tup (l.map .int), .int a]) = some (.tuple [.tuple (l.map .int), .int a]) := fun l a => by
  show (match (zcl (l.map .int)).map PyData.tuple, zcl [.int a] with | some p, some q => some (p :: q) | _, _ => Option.none).map PyData.tuple = _
  rw [zfu]; rfl
 rw [h, h]
 dsimp only
 have s : ∀ (l : List Int) (a : Int), SeqAt.shaped (.tuple [.tuple (l.map .int), .int a]) = true := fun l a => by
  simp [SeqAt.shaped, PyData.canLay0, PyData.canLayAll0, PyData.depth, PyData.depthAll, zet, zgg]
 rw [if_pos ⟨s _ _, s _ _⟩]
 simp [PyData.eqv, PyData.eqvAll, zes]
section
noncomputable def zfl (ns : List Nat) : List Nat := ns.flatMap fun n => List.replicate n 32 ++ [9]
noncomputable def zg7 (ns : List Nat) : Str := ⟨(zfl ns).toArray⟩
noncomputable def chD (c : Nat) : D := .str ⟨#[c]⟩
theorem zk6 (ns : List Nat) : zgn (zg7 ns) = (zfl ns).map chD := by
 unfold zgn zg7
 simp [chD]
theorem zc6 (n : Nat) (ns : List Nat) : zfl (n :: ns) = List.replicate n 32 ++ 9 :: zfl ns := by simp [zfl]
section
variable {w : World} {x : Addr} {ws : Str}
theorem zu1 {n : Nat} {k : Nat} : ∀ {b : Nat} {m nt : Int} {ch : D} {cs : List Int} {r : List D}, cs.length <= 100 -> b + k <= 100 -> zdd w ((List.replicate k 32 ++ [9]).map chD ++ r) ⟨σ5 x ws b m nt ch, ctD cs⟩ = zdd w r ⟨σ5 x ws 0 (m + k + 1) (nt + 1) tb, ctD (wsT cs (b + k))⟩ := by
 induction k with
 | zero =>
  intro b m nt ch cs r h1 h2
  have := zzb (w := w) (x := x) (ws := ws) (b := b) (n := m) (nt := nt) (ch := ch) (r := r) h1 h2
  rw [show m + ((0 : Nat) : Int) + 1 = m + 1 from by lia]
  exact this
 | succ k IH =>
  intro b m nt ch cs r h1 h2
  have e1 := zrx (w := w) (x := x) (ws := ws) (b := b) (n := m) (nt := nt) (ch := ch) (cs := cs.map .int) (r := (List.replicate k 32 ++ [9]).map chD ++ r)
  have e2 := IH (b := b + 1) (m := m + 1) (nt := nt) (ch := sp) (cs := cs) (r := r) h1 (by lia)
  rw [show (((b + 1 : Nat)) : Int) = (b : Int) + 1 from rfl] at e2
  rw [show m + ((k + 1 : Nat) : Int) + 1 = m + 1 + k + 1 from by lia, show b + (k + 1) = b + 1 + k from by lia]
  exact e1.trans e2
theorem zvs {ns : List Nat} : ∀ {m nt : Int} {ch : D} {cs : List Int}, cs.length <= 100 -> (∀ n ∈ ns, n < 100) -> zdd w ((zfl ns).map chD) ⟨σ5 x ws 0 m nt ch, ctD cs⟩ = some (⟨σ5 x ws 0 (m + (ns.sum : Nat) + ns.length) (nt + ns.length) (if ns.isEmpty then ch else tb), ctD (ns.foldl wsT cs)⟩, .next) := by
 induction ns with
 | nil =>
  intro m nt ch cs h1 h2
  show some (_, _) = _
  simp
 | cons n ns IH =>
  intro m nt ch cs h1 h2
  have hn := h2 n (.head _)
  have e := IH (m := m + n + 1) (nt := nt + 1) (ch := tb) (cs := wsT cs (0 + n)) (by rw [zej]; lia) fun k hk => h2 k (.tail _ hk)
  have := zu1 (w := w) (x := x) (ws := ws) (n := n) (k := n) (b := 0) (m := m) (nt := nt) (ch := ch) (cs := cs) (r := (zfl ns).map chD) h1 (by lia)
  rw [zc6, show List.replicate n 32 ++ 9 :: zfl ns = (List.replicate n 32 ++ [9]) ++ zfl ns from by simp, List.map_append, List.foldl_cons]
  rw [Nat.zero_add] at e this
  rw [show m + (((n :: ns).sum : Nat) : Int) + ((n :: ns).length : Nat) = m + n + 1 + ((ns.sum : Nat) : Int) + (ns.length : Nat) from by rw [List.sum_cons, List.length_cons]; lia, show nt + ((n :: ns).length : Nat) = nt + 1 + (ns.length : Nat) from by rw [List.length_cons]; lia]
  rw [show (if (n :: ns).isEmpty = true then ch else tb) = (if ns.isEmpty = true then tb else tb) from by simp]
  exact this.trans e
theorem zry {n : Nat} {ns : List Nat} (h2 : ∀ k ∈ n :: ns, k < 100) : zdd w ((zfl (n :: ns)).map chD) ⟨σ4 x ws, some ("count", [])⟩ = some (⟨σ5 x ws 0 ((n :: ns).sum + (n :: ns).length : Nat) ((n :: ns).length : Nat) tb, ctD ((n :: ns).foldl wsT [])⟩, .next) := by
 have hn := h2 n (.head _)
 have hrest : ∀ {m nt : Int}, zdd w ((zfl ns).map chD) ⟨σ5 x ws 0 m nt tb, ctD (wsT [] n)⟩ = some (⟨σ5 x ws 0 (m + (ns.sum : Nat) + ns.length) (nt + ns.length) tb, ctD (ns.foldl wsT (wsT [] n))⟩, .next) := fun {m nt} => by
  have := zvs (w := w) (x := x) (ws := ws) (ns := ns) (m := m) (nt := nt) (ch := tb) (cs := wsT [] n) (by rw [zej]; simp; lia) fun k hk => h2 k (.tail _ hk)
  rw [this]; simp
 rw [zc6, List.foldl_cons]
 have e1 : (((n :: ns).sum + (n :: ns).length : Nat) : Int) = (n : Int) + 1 + (ns.sum : Nat) + ns.length := by rw [List.sum_cons, List.length_cons]; lia
 have e2 : (((n :: ns).length : Nat) : Int) = 1 + ns.length := by rw [List.length_cons]; lia
 rw [e1, e2]
 cases n with
 | zero =>
  have := zvq (w := w) (x := x) (ws := ws) (r := (zfl ns).map chD)
  have h := hrest (m := 1) (nt := 1)
  exact this.trans h
 | succ k =>
  have a1 := zn8 (w := w) (x := x) (ws := ws) (cs := []) (r := (List.replicate k 32 ++ [9]).map chD ++ (zfl ns).map chD)
  have a2 := zu1 (w := w) (x := x) (ws := ws) (n := 0) (k := k) (b := 1) (m := 1) (nt := 0) (ch := sp) (cs := []) (r := (zfl ns).map chD) (by decide) (by lia)
  rw [show 1 + k = k + 1 from by lia] at a2
  have h := hrest (m := 1 + k + 1) (nt := 0 + 1)
  rw [show List.replicate (k + 1) 32 ++ 9 :: zfl ns = 32 :: ((List.replicate k 32 ++ [9]) ++ zfl ns) from by simp [List.replicate_succ], List.map_cons, List.map_append]
  rw [show ((k + 1 : Nat) : Int) + 1 + (ns.sum : Nat) + ns.length = 1 + k + 1 + (ns.sum : Nat) + ns.length from by lia, show (1 : Int) + ns.length = 0 + 1 + ns.length from by lia]
  exact a1.trans (a2.trans h)
noncomputable def zix (ns : List Nat) : List (Str × D) := wsD (zg7 ns) 0 ((ns.sum + ns.length : Nat)) (ns.length : Nat) ((ns.foldl wsT []).map .int)
theorem zts (ns : List Nat) : ∀ (cs : List Int), cs.length <= 100 -> (∀ k ∈ ns, k < 100) -> (ns.foldl wsT cs).length <= 100 := by
 induction ns with
 | nil =>
  intro cs h _
  exact h
 | cons n ns IH =>
  intro cs h h2
  exact IH (wsT cs n) (by rw [zej]; have := h2 n (.head _); lia) fun k hk => h2 k (.tail _ hk)
theorem zr4 {mb : Str -> Option Value} {n : Nat} {ns : List Nat} (h2 : ∀ k ∈ n :: ns, k < 100) : zfi w mb 8 (.ref 100) [.str (zg7 (n :: ns))] (.ins (zix (n :: ns))) := by
 refine zvr (b := 0) (ch := tb) (by rw [List.length_map, sizeLine_eq]; have := zts (n :: ns) [] (by decide) h2; lia) fun x => ?_
 rw [zk6]
 exact zry h2
end
set_option tactic.hygienic true in
theorem zvt (cs : List Int) (b j : Nat) : (wsT cs b).getD j 0 = cs.getD j 0 + if j = b then 1 else 0 := by
 unfold wsT
 dsimp only
 have e : ∀ j, (if cs.length <= b then cs ++ List.replicate (b + 1 - cs.length) 0 else cs).getD j 0 = cs.getD j 0 := by
  intro j
  split
  ·simp only [List.getD_eq_getElem?_getD, List.getElem?_append]
   split
   ·rfl
   ·rename_i h1 h2
    rw [List.getElem?_eq_none (by lia : cs.length <= j), List.getElem?_replicate]
    split <;> rfl
  ·rfl
 have hl : b < (if cs.length <= b then cs ++ List.replicate (b + 1 - cs.length) 0 else cs).length := by
  split
  ·rw [List.length_append, List.length_replicate]; lia
  ·lia
 by_cases h : j = b
 ·subst h
  rw [if_pos rfl, List.getD_eq_getElem?_getD, List.getElem?_set_self hl]
  simp only [Option.getD_some]
  rw [e]
 ·rw [if_neg h, Int.add_zero, List.getD_eq_getElem?_getD, List.getElem?_set_ne (Ne.symm h), <- List.getD_eq_getElem?_getD, e]
theorem ztu (ns : List Nat) : ∀ (cs : List Int) (j : Nat), (ns.foldl wsT cs).getD j 0 = cs.getD j 0 + ns.count j := by
 induction ns with
 | nil =>
  intro cs j
  simp
 | cons n ns IH =>
  intro cs j
  rw [List.foldl_cons, IH, zvt, List.count_cons]
  by_cases h : j = n
  ·subst h; simp; lia
  ·rw [if_neg h, if_neg (by simpa using Ne.symm h)]; lia
theorem zp1 {ns : List Nat} (h : ns.length = 12) : ((ns.foldl wsT [] == [0, 0, 12]) = decide (ns = List.replicate 12 2)) := by
 by_cases hd : ns = List.replicate 12 2
 ·rw [decide_eq_true hd, hd]; rfl
 ·rw [decide_eq_false hd, beq_eq_false_iff_ne]
  intro q
  apply hd
  have := ztu ns [] 2
  rw [q] at this
  simp at this
  have hc : ns.count 2 = ns.length := by lia
  rw [List.count_eq_length] at hc
  exact List.eq_replicate_iff.mpr ⟨h, fun b hb => (hc b hb).symm⟩
end
section
section
variable {w : World} {mb : Str -> Option Value} {K : Nat} {O : Orc}
theorem Hyps.up {K' : Nat} (H : Hyps w mb K O) (h : K <= K') : Hyps w mb K' O where
 six := Nat.le_trans H.six h
 fn := fun f args r e => let ⟨v, a, b, c⟩ := H.fn f args r e; ⟨v, a, b, c.mono h⟩
 me := fun m fs args r e => let ⟨v, a, b, c⟩ := H.me m fs args r e; ⟨v, a, b.mono h, c⟩
 bl := H.bl
 attr := H.attr
noncomputable def Orc.addFn (O : Orc) (name : Str) (F : List D -> Option D) : Orc := ⟨fun f args => if f = name then F args else O.fn f args, O.me, O.bl⟩
noncomputable def Orc.addMe (O : Orc) (name : Str) (F : List (Str × D) -> List D -> Option D) : Orc := ⟨O.fn, fun m fs args => if m = name then (if (fs.map (·.1)).contains m = true then none else F fs args) else O.me m fs args, O.bl⟩
noncomputable def Orc.addBl (O : Orc) (name : Str) (F : List (D × Kd) -> Option (D × Kd)) : Orc := ⟨O.fn, O.me, fun f l => if f = name then F l else O.bl f l⟩
theorem Hyps.addFn (H : Hyps w mb K O) {name : Str} {v : Value} {F : List D -> Option D} (g : nsIn (KK w) mainGlobals name = some (some v)) (hc : zjw w mb v) (hF : ∀ args r, F args = some r -> zfi w mb K v args r) : Hyps w mb K (O.addFn name F) where
 six := H.six
 fn := fun f args r e => by
  by_cases h : f = name
  ·subst h
   exact ⟨v, g, hc, hF args r (by rw [<- e]; exact (if_pos rfl).symm)⟩
  ·exact H.fn f args r (by rw [<- e]; exact (if_neg h).symm)
 me := H.me
 bl := H.bl
 attr := H.attr
theorem Hyps.addMe (H : Hyps w mb K O) {name : Str} {a : Addr} {F : List (Str × D) -> List D -> Option D} (g : findIn (KK w) (.ref 100) name = some (some (.ref a)) /\ typeIn (KK w) (.ref a) = some (.type "function")) (hc : zba w a = true) (hF : ∀ fs args r, F fs args = some r -> zfi w mb K (.ref a) (.ins fs :: args) r) : Hyps w mb K (O.addMe name F) where
 six := H.six
 fn := H.fn
 me := fun m fs args r e => by
  by_cases h : m = name
  ·subst h
   by_cases hm : (fs.map (·.1)).contains m = true
   ·have : (O.addMe m F).me m fs args = none := (if_pos rfl).trans (if_pos hm)
    rw [this] at e; cases e
   ·have : (O.addMe m F).me m fs args = F fs args := (if_pos rfl).trans (if_neg hm)
    rw [this] at e
    exact ⟨.ref a, zav hc, hF fs args r e, fun B r hq => zxm g.1 g.2 (Bool.not_eq_true _ ▸ hm) B r hq⟩
  ·exact H.me m fs args r (by rw [<- e]; exact (if_neg h).symm)
 bl := H.bl
 attr := H.attr
theorem Hyps.addBl (H : Hyps w mb K O) {name : Str} {F : List (D × Kd) -> Option (D × Kd)} (hF : ∀ l d k, F l = some (d, k) -> zcx w name l d k) : Hyps w mb K (O.addBl name F) where
 six := H.six
 fn := H.fn
 me := H.me
 bl := fun f l d k e => by
  by_cases h : f = name
  ·subst h; exact hF l d k (by rw [<- e]; exact (if_pos rfl).symm)
  ·exact H.bl f l d k (by rw [<- e]; exact (if_neg h).symm)
 attr := H.attr
end
noncomputable def zgu : List Nat -> Nat -> List Nat
 | [], _ => []
 | c :: r, b => if c = 9 then b :: zgu r 0 else zgu r (b + 1)
theorem zod (n : Nat) : ∀ (r : List Nat) (b : Nat), zgu (List.replicate n 32 ++ 9 :: r) b = (b + n) :: zgu r 0 := by
 induction n with
 | zero =>
  intro r b
  exact rfl
 | succ n IH =>
  intro r b
  rw [List.replicate_succ, List.cons_append, zgu, if_neg (by decide), IH r (b + 1), show b + 1 + n = b + (n + 1) from by lia]
theorem zg5 : ∀ ns : List Nat, zgu (zfl ns) 0 = ns
 | [] => rfl
 | n :: ns => by rw [zc6, zod, zg5 ns, Nat.zero_add]
noncomputable def strD : List D -> Option Str
 | [a] => match a with
  | .str x => some x
  | _ => none
 | _ => none
theorem zv0 {l : List D} {x : Str} (e : strD l = some x) : l = [.str x] := by
 cases l with
 | nil => exact zaf e
 | cons a l =>
  cases l with
  | cons => exact zaf e
  | nil =>
   cases a with
   | str y => exact Option.some.inj e ▸ rfl
   | _ => exact zaf e
noncomputable def wsT1 (x : Str) : List Nat -> Option D
 | [] => none
 | n :: ns => if x = zg7 (n :: ns) /\ ((n :: ns).all fun k => decide (k < 100)) = true then some (.ins (zix (n :: ns))) else none
noncomputable def wsF (l : List D) : Option D := match strD l with
 | some x => wsT1 x (zgu x.cps.toList 0)
 | none => none
theorem zlj {n : Nat} {ns : List Nat} (h : ∀ k ∈ n :: ns, k < 100) : wsF [.str (zg7 (n :: ns))] = some (.ins (zix (n :: ns))) := by
 show wsT1 (zg7 (n :: ns)) (zgu (zfl (n :: ns)) 0) = _
 rw [zg5]
 exact if_pos ⟨rfl, List.all_eq_true.mpr fun k hk => decide_eq_true (h k hk)⟩
theorem zzc {w : World} {mb : Str -> Option Value} {args : List D} {r : D} (e : wsF args = some r) : zfi w mb 8 (.ref 100) args r := by
 change (match strD args with | some x => wsT1 x (zgu x.cps.toList 0) | none => none) = _ at e
 cases h : strD args with
 | none => rw [h] at e; exact zaf e
 | some x =>
  rw [h] at e
  dsimp only at e
  rw [zv0 h]
  revert e
  generalize zgu x.cps.toList 0 = l
  intro e
  cases l with
  | nil => exact zaf e
  | cons n ns =>
   exact (show zac (wsT1 x (n :: ns)) (zfi w mb 8 (.ref 100) [.str x]) from .ite fun h => h.1 ▸ zr4 fun k hk => of_decide_eq_true (List.all_eq_true.mp h.2 k hk)) r e
noncomputable def zfr : List Nat -> Nat -> List Nat
 | [], _ => []
 | c :: r, b => if c = 46 then zfr r (b + 1) else if c = 10 then b :: zfr r 0 else zfr r b
theorem zoe (n : Nat) : ∀ (r : List Nat) (b : Nat), zfr (zcz n ++ r) b = (b + n) :: zfr r 0 := by
 induction n with
 | zero =>
  intro r b
  exact rfl
 | succ n IH =>
  intro r b
  show zfr (46 :: (zcz n ++ r)) b = _
  rw [zfr, if_pos rfl, IH r (b + 1), show b + 1 + n = b + (n + 1) from by lia]
theorem ziu : ∀ ls : List Nat, zfr (txt ls) 0 = ls
 | [] => rfl
 | n :: ls => by rw [zbi, zoe, ziu ls, Nat.zero_add]
noncomputable def z0c : List D -> Option D
 | [.str x] => match (zfr x.cps.toList 0).map (· - 1) with
  | [] => none
  | a :: ls => if x = zad ((a :: ls).map (· + 1)) /\ (a :: ls).sum <= 1000 /\ ls.length <= 1000 then some (.str (zad ((a :: ls).map (· + 2)))) else none
 | _ => none
theorem zo7 {a : Nat} {ls : List Nat} (h1 : (a :: ls).sum <= 1000) (h2 : ls.length <= 1000) : z0c [.str (zad ((a :: ls).map (· + 1)))] = some (.str (zad ((a :: ls).map (· + 2)))) := by
 have e : (zfr (txt ((a :: ls).map (· + 1))) 0).map (· - 1) = a :: ls := by
  rw [ziu, List.map_map]
  have : ((fun x : Nat => x - 1) ∘ fun x => x + 1) = id := by funext x; simp
  rw [this, List.map_id]
 show (match (zfr (txt ((a :: ls).map (· + 1))) 0).map (· - 1) with | [] => none | b :: ms => if zad ((a :: ls).map (· + 1)) = zad ((b :: ms).map (· + 1)) /\ (b :: ms).sum <= 1000 /\ ms.length <= 1000 then some (D.str (zad ((b :: ms).map (· + 2)))) else none) = _
 rw [e]
 exact if_pos ⟨rfl, h1, h2⟩
set_option tactic.hygienic true in
theorem zwg {w : World} {mb : Str -> Option Value} {args : List D} {r : D} (e : z0c args = some r) : zfi w mb 7 (.ref 191) args r := by
 unfold z0c at e
 split at e
 ·split at e
  ·cases e
  ·split at e
   ·rename_i h
    cases e
    rw [h.1]
    exact zm3 h.2.1 h.2.2
   ·cases e
 ·cases e
noncomputable def intD : D -> Option Int
 | .int i => some i
 | _ => none
theorem zw1 {d : D} {i : Int} (e : intD d = some i) : d = .int i := by
 cases d with
 | int j => exact Option.some.inj e ▸ rfl
 | _ => exact zaf e
noncomputable def two1 (f : D -> Int -> Option D) : List D -> Option D
 | [a, b] => match intD b with
  | some n => f a n
  | none => none
 | _ => none
theorem zof {f : D -> Int -> Option D} {Q : List D -> D -> Prop} (h : ∀ a n, zac (f a n) (Q [a, .int n])) : ∀ l, zac (two1 f l) (Q l) := fun l => by
 cases l with
 | nil => exact .no
 | cons a l =>
  cases l with
  | nil => exact .no
  | cons b l =>
   cases l with
   | cons => exact .no
   | nil =>
    show zac (match intD b with | some n => f a n | none => none) _
    cases e : intD b with
    | none => exact .no
    | some n => exact zw1 e ▸ h a n
noncomputable def i2dA : D -> Int -> Option D
 | .int a, n => if 0 < n /\ n <= 1000 /\ 0 <= a /\ a < 2 ^ 200 /\ zcd a n <= 20 /\ 0 <= zcd a n /\ (a = 0 ∨ 0 < zcd a n) then some (.lst ((zf8 a n).map .int)) else none
 | _, _ => none
noncomputable def zw6 : List D -> Option D := two1 i2dA
theorem zqh (a n : Int) : zw6 [.int a, .int n] = i2dA (.int a) n := rfl
theorem zw5 {w : World} {mb : Str -> Option Value} {args : List D} {r : D} (e : zw6 args = some r) : zfi w mb 28 (.ref 125) args r := by
 refine zof (Q := zfi w mb 28 (.ref 125)) (fun a n => ?_) args r e
 cases a with
 | int a => exact .ite fun h => ztb h.1 h.2.1 h.2.2.1 h.2.2.2.1 h.2.2.2.2.1 (fun q => h.2.2.2.2.2.2.resolve_left q) h.2.2.2.2.2.1
 | _ => exact .no
noncomputable def d2iA : D -> Int -> Option D
 | .lst ds, n => match zdp ds with
  | some l => if 0 <= n /\ l.length <= 20 /\ n.toNat * l.length <= 200 /\ (l.all fun d => decide (0 <= d /\ d < 2 ^ n.toNat)) = true then some (.int (zcy n.toNat l)) else none
  | none => none
 | _, _ => none
noncomputable def zza : List D -> Option D := two1 d2iA
theorem zt7 {ds : List D} : ∀ {l : List Int}, zdp ds = some l -> ds = l.map .int := by
 induction ds with
 | nil =>
  intro l e
  cases e; rfl
 | cons d r IH =>
  intro l e
  cases d with
  | int i =>
   simp only [zdp, Option.map_eq_some_iff] at e
   obtain ⟨q, e, rfl⟩ := e
   rw [IH e]; rfl
  | _ => cases e
theorem zx8 (l : List D) (n : Int) : zza [.lst l, .int n] = d2iA (.lst l) n := rfl
theorem zx7 {w : World} {mb : Str -> Option Value} {args : List D} {r : D} (e : zza args = some r) : zfi w mb 28 (.ref 132) args r := by
 refine zof (Q := zfi w mb 28 (.ref 132)) (fun a n => ?_) args r e
 cases a with
 | lst ds =>
  show zac (match zdp ds with | some l => _ | none => none) _
  cases hd : zdp ds with
  | none => exact .no
  | some l =>
   refine .ite fun h => ?_
   obtain ⟨m, rfl⟩ := Int.eq_ofNat_of_zero_le h.1
   rw [Int.toNat_natCast] at h ⊢
   exact zt7 hd ▸ zt8 h.2.1 h.2.2.1 fun d hd => of_decide_eq_true (List.all_eq_true.mp h.2.2.2 d hd)
 | _ => exact .no
end
noncomputable def OA (w : World) : Orc :=
 (((((((((((((O0.addBl "set" (zre w)).addBl "sorted" (zgo w)).addBl "dict" zrh).addFn "quotedata" z0c).addFn "_digits2int" zza).addFn "_int2digits" zw6).addFn "Whitespace" wsF).addMe "equal" fun fs args => zaw w O0 [] 76 ps_eqm (.ins fs :: args)).addMe "indent_level" fun fs args => zaw w O0 [] 69 ps_ind (.ins fs :: args)).addMe "longest_run_of_spaces" fun fs args => zaw w O0 [] 62 ps_lrs (.ins fs :: args)).addFn "_div2n1n" (zaw w O0 [] 111 ps_div2)).addFn "_v" (zaw w O0 [] 167 ps_vv)).addFn "rgb_to_hls" (zaw w O0 [] 153 ps_hls)).addFn "hsv_to_rgb" (zaw w O0 [] 174 ps_hsv)
theorem isfn (w : World) : zba w 191 = true /\ zba w 132 = true /\ zba w 125 = true /\ zba w 76 = true /\ zba w 69 = true /\ zba w 62 = true /\ zba w 111 = true /\ zba w 167 = true /\ zba w 153 = true /\ zba w 174 = true /\ zba w 160 = true /\ zba w 139 = true /\ zba w 83 = true /\ zba w 146 = true /\ zba w 215 = true /\ zba w 196 = true /\ zba w 201 = true /\ zba w 208 = true /\ zba w 222 = true :=
 ⟨by kernel_rfl, by kernel_rfl, by kernel_rfl, by kernel_rfl, by kernel_rfl, by kernel_rfl, by kernel_rfl, by kernel_rfl, by kernel_rfl, by kernel_rfl, by kernel_rfl, by kernel_rfl, by kernel_rfl, by kernel_rfl, by kernel_rfl, by kernel_rfl, by kernel_rfl, by kernel_rfl, by kernel_rfl⟩
theorem HA (w : World) (mb : Str -> Option Value) : Hyps w mb 28 (OA w) := by
 obtain ⟨f1, f2, f3, f4, f5, f6, f7, f8, f9, f10, _⟩ := isfn w
 have h0 : Hyps w mb 28 O0 := (H0 w mb).up (by decide)
 have up : ∀ {v : Value} {args : List D} {r : D}, zfi w mb 7 v args r -> zfi w mb 28 v args r := fun x => x.mono (by decide)
 refine Hyps.addFn (Hyps.addFn (Hyps.addFn (Hyps.addFn (Hyps.addMe (Hyps.addMe (Hyps.addMe (Hyps.addFn (Hyps.addFn (Hyps.addFn (Hyps.addFn (Hyps.addBl (Hyps.addBl (Hyps.addBl h0 fun l d k e => zyf e) fun l d k e => zny e) fun l d k e => zuq e) (z1g w) (zav f1) fun _ _ e => up (zwg e)) (z1m w) (zav f2) fun _ _ e => zx7 e) (z1j w) (zav f3) fun _ _ e => zw5 e) (glWs w) (znx (zl0 w)) fun _ _ e => (zzc e).mono (by decide)) (z0x w) f4 fun _ _ _ e => up (zaz (H0 w mb) (z2m w) e)) (z0w w) f5 fun _ _ _ e => up (zaz (H0 w mb) (z2i w) e)) (z0v w) f6 fun _ _ _ e => up (zaz (H0 w mb) (z2g w) e)) (zxl w) (zav f7) fun _ _ e => up (zaz (H0 w mb) (zyr w) e)) (gl_vv w) (zav f8) fun _ _ e => up (zaz (H0 w mb) (at_vv w) e)) (z1l w) (zav f9) fun _ _ e => up (zaz (H0 w mb) (z2l w) e)) (z1k w) (zav f10) fun _ _ e => up (zaz (H0 w mb) (z2k w) e)
noncomputable def OB (w : World) : Orc :=
 (((OA w).addMe "not_equal_witness" fun fs args => zaw w (OA w) ["a"] 83 ps_new (.ins fs :: args)).addFn "_divmod_pos" (zaw w (OA w) ["q_digits"] 139 ps_dpos)).addFn "hls_to_rgb" (zaw w (OA w) [] 160 ps_rgb)
theorem HB (w : World) (mb : Str -> Option Value) : Hyps w mb 29 (OB w) := by
 obtain ⟨f1, f2, f3, f4, f5, f6, f7, f8, f9, f10, f11, f12, f13, _⟩ := isfn w
 have hA := HA w mb
 refine Hyps.addFn (Hyps.addFn (Hyps.addMe (hA.up (Nat.le_succ 28)) (z0u w) f13 fun _ _ _ e => zaz hA (z2e w) e) (zxk w) (zav f12) fun _ _ e => zaz hA (zyq w) e) (z1f w) (zav f11) fun _ _ e => zaz hA (z2b w) e
noncomputable def OC (w : World) : Orc :=
 ((OB w).addFn "_law_witness" (zaw w (OB w) [] 215 ps_wit)).addFn "int_divmod" (zaw w (OB w) [] 146 ps_idiv)
theorem HC (w : World) (mb : Str -> Option Value) : Hyps w mb 30 (OC w) := by
 obtain ⟨f1, f2, f3, f4, f5, f6, f7, f8, f9, f10, f11, f12, f13, f14, f15, _⟩ := isfn w
 have hB := HB w mb
 refine Hyps.addFn (Hyps.addFn (hB.up (Nat.le_succ 29)) (z1e w) (zav f15) fun _ _ e => zaz hB (z2a w) e) (zxj w) (zav f14) fun _ _ e => zaz hB (zyp w) e
noncomputable def zff (m : Int) : List Int := ((List.range 12).map fun (i : Nat) => (i : Int) + 1).filter fun t => decide (t <= m) && (m % t == 0)
noncomputable def zu2 (m : Int) : D := .lst ((zff m).map fun t => .tup [.int t, .int (m + t), .int m])
noncomputable def all27 : List (Int × Int) := [2, 3, 4, 6, 12].flatMap fun (m : Int) => (List.range m.toNat).map fun (a : Nat) => (m, (a : Int))
noncomputable def clD (p : Int × Int) : D := .tup [.int p.1, .int p.2]
noncomputable def zbm (c : List (Int × Int)) : D := .lst (c.map clD)
structure Good (c : List (Int × Int)) : Prop where
 val : ∀ p ∈ c, p ∈ all27
 sum : (c.map fun p => 12 / p.1).sum = 24
 len : c.length <= 11
 tw : (c.filter fun p => p.1 == 12).length <= 6
theorem Good.ne {c : List (Int × Int)} (g : Good c) : c ≠ [] := fun h => by have := g.sum; rw [h] at this; cases this
noncomputable def zbf (c : List (Int × Int)) (k : Int) : Nat := (c.filter fun p => k % p.1 == p.2).length
theorem zgk (p : Int × Int) (c : List (Int × Int)) (k : Int) : zbf (p :: c) k = zbf c k + if k % p.1 == p.2 then 1 else 0 := by
 unfold zbf
 rw [List.filter_cons]
 split <;> simp
theorem zgj (c : List (Int × Int)) (k : Int) : zbf c k <= c.length := List.length_filter_le _ _
noncomputable def zg2 (kf : Kf) (t : PySem.Expr) (body : Mine.St -> Option (Mine.St × Fl)) (c : Mine.St) (d : D) (c2 : Mine.St) : Prop := ∃ σ1, za8 kf c.own c.σ t d = some σ1 /\ body ⟨σ1, c.own⟩ = some (c2, .next)
theorem zpv {α : Type} {kf : Kf} {t : PySem.Expr} {body : Mine.St -> Option (Mine.St × Fl)} {S0 : α -> Mine.St} {S : α -> Int × Int -> Mine.St} {f : α -> Int × Int -> α} {I : α -> List (Int × Int) -> Prop} (hI : ∀ acc p c, I acc (p :: c) -> I (f acc p) c)
  (h0 : ∀ acc p c, p ∈ all27 -> I acc (p :: c) -> zg2 kf t body (S0 acc) (clD p) (S (f acc p) p)) (h1 : ∀ acc p q c, p ∈ all27 -> I acc (p :: c) -> zg2 kf t body (S acc q) (clD p) (S (f acc p) p)) :
  ∀ (c : List (Int × Int)) (acc : α), c ≠ [] -> (∀ p ∈ c, p ∈ all27) -> I acc c -> ∃ q, zbu kf t body (c.map clD) (S0 acc) = some (S (c.foldl f acc) q, .next) := by
 have rest : ∀ (c : List (Int × Int)) (acc : α) (q : Int × Int), (∀ p ∈ c, p ∈ all27) -> I acc c -> ∃ q', zbu kf t body (c.map clD) (S acc q) = some (S (c.foldl f acc) q', .next) := by
  intro c
  induction c with
  | nil => intro acc q _ _; exact ⟨q, rfl⟩
  | cons p c ih =>
   intro acc q hv hi
   obtain ⟨σ1, hb, hx⟩ := h1 acc p q c (hv p (.head _)) hi
   obtain ⟨q', e⟩ := ih (f acc p) p (fun p hp => hv p (.tail _ hp)) (hI _ _ _ hi)
   exact ⟨q', zcb hb hx e⟩
 intro c acc hc hv hi
 cases c with
 | nil => exact absurd rfl hc
 | cons p c =>
  obtain ⟨σ1, hb, hx⟩ := h0 acc p c (hv p (.head _)) hi
  obtain ⟨q', e⟩ := rest c (f acc p) p (fun p hp => hv p (.tail _ hp)) (hI _ _ _ hi)
  exact ⟨q', zcb hb hx e⟩
noncomputable def znd {β : Type} (F : Int × Int -> β) : List (Int × Int) -> List β
 | [] => []
 | p :: r => F p :: znd F r
theorem zhz {β : Type} {F G : Int × Int -> β} {l : List (Int × Int)} (h : znd F l = l.map G) : ∀ p ∈ l, F p = G p := by
 induction l with
 | nil => exact fun p hp => nomatch hp
 | cons q r ih => exact fun p hp => (List.mem_cons.mp hp).elim (fun e => e ▸ (List.cons.inj h).1) (ih (List.cons.inj h).2 p)
theorem zg1 {β : Type} {F G : Int × Int -> β} (h : znd F all27 = all27.map G) : ∀ p ∈ all27, F p = G p := zhz h
theorem zk9 {β : Type} {A B : Int × Int -> β} {c : Int × Int -> Prop} [DecidablePred c] (h : znd (fun p => if c p then some (A p) else none) all27 = all27.map fun p => if c p then some (B p) else none) : ∀ p ∈ all27, c p -> A p = B p := fun p hp hc => by
 have := zhz h p hp
 rw [if_pos hc, if_pos hc] at this
 exact Option.some.inj this
noncomputable def zze (kf : Kf) (t : PySem.Expr) (body : Mine.St -> Option (Mine.St × Fl)) (c : Mine.St) (d : D) : Option (Mine.St × Fl) := match za8 kf c.own c.σ t d with
 | some σ1 => body ⟨σ1, c.own⟩
 | none => none
theorem zog {kf : Kf} {t : PySem.Expr} {body : Mine.St -> Option (Mine.St × Fl)} {c c2 : Mine.St} {d : D} (h : zze kf t body c d = some (c2, .next)) : zg2 kf t body c d c2 := by
 unfold zze at h
 cases hb : za8 kf c.own c.σ t d with
 | none => rw [hb] at h; exact zaf h
 | some σ1 => rw [hb] at h; exact ⟨σ1, hb, h⟩
noncomputable def stm (w : World) (a : Addr) (i : Nat) : PySem.Stmt := (zay w a).getD i (.Pass default)
noncomputable def zeb : PySem.Stmt -> List PySem.Stmt
 | .For _ _ b _ _ => b
 | _ => []
noncomputable def zoj (m : Int) : Int := (16 ^ 12 - 1) / (16 ^ m.toNat - 1)
noncomputable def zwm (acc : Int) (p : Int × Int) : Int := acc + zoj p.1 * 16 ^ p.2.toNat
theorem b208 (w : World) : ∃ (pp : Nat -> Pos) (kk : Nat -> Nat), zay w 208 = [stm w 208 0, .For (.Tuple [.Name "m" (pp 0), .Name "a" (pp 1)] (kk 0) (pp 2)) (.Name "classes" (pp 3)) (zeb (stm w 208 1)) [] (pp 4), .Return (some (.Name "number" (pp 5))) (pp 6)] := ⟨fun i => [_, _, _, _, _, _, _].getD i default, fun i => [_].getD i 0, rfl⟩
noncomputable abbrev N0 (cd : D) (acc : Int) : Mine.St := ⟨[("classes", cd), ("number", .int acc)], none⟩
noncomputable abbrev N1 (cd : D) (acc : Int) (p : Int × Int) : Mine.St := ⟨[("classes", cd), ("number", .int acc), ("m", .int p.1), ("a", .int p.2), ("told", .int (zoj p.1)), ("rest", .int 0)], none⟩
theorem num0 (w : World) (cd : D) (acc : Int) {p5 p6 : Pos} {k : Nat} {p8 : Pos} : ∀ p ∈ all27, zg2 (zab w 208) (.Tuple [.Name "m" p5, .Name "a" p6] k p8) (zcc (zae (OC w) [] (zab w 208) 39) (zeb (stm w 208 1))) (N0 cd acc) (clD p) (N1 cd (zwm acc p) p) :=
 fun p hp => zog (by revert p; exact zg1 (by kernel_rfl))
theorem num1 (w : World) (cd : D) (acc : Int) (q : Int × Int) {p5 p6 : Pos} {k : Nat} {p8 : Pos} : ∀ p ∈ all27, zg2 (zab w 208) (.Tuple [.Name "m" p5, .Name "a" p6] k p8) (zcc (zae (OC w) [] (zab w 208) 39) (zeb (stm w 208 1))) (N1 cd acc q) (clD p) (N1 cd (zwm acc p) p) :=
 fun p hp => zog (by revert p; exact zg1 (by kernel_rfl))
theorem za5 {w : World} {O : Orc} {mv : List Str} {a : Addr} {ps : List Str} {args : List D} {d : D} (hl : args.length = ps.length) (h : zc3 O mv (zab w a) 40 40 [zay w a] ⟨ps.zip args, none⟩ = some d) : zaw w O mv a ps args = some d := by
 unfold zaw; rw [if_pos hl]; exact h
theorem zpc (w : World) {c : List (Int × Int)} (hc : c ≠ []) (hv : ∀ p ∈ c, p ∈ all27) : zaw w (OC w) [] 208 ps_num [zbm c] = some (.int (c.foldl zwm 0)) := by
 obtain ⟨pp, kk, e⟩ := b208 w
 refine za5 rfl ?_
 rw [e]
 obtain ⟨q, hq⟩ := zpv (kf := zab w 208) (t := .Tuple [.Name "m" (pp 0), .Name "a" (pp 1)] (kk 0) (pp 2)) (body := zcc (zae (OC w) [] (zab w 208) 39) (zeb (stm w 208 1))) (S0 := N0 (zbm c)) (S := N1 (zbm c)) (f := zwm) (I := fun _ _ => True) (fun _ _ _ _ => trivial) (fun acc p _ hp _ => num0 w _ acc p hp) (fun acc p q _ hp _ => num1 w _ acc q p hp) c 0 hc hv trivial
 refine zah (c' := N0 (zbm c) 0) (by kernel_rfl) (by kernel_rfl) ?_
 refine zah (zin (ds := c.map clD) (zrs (d := zbm c) (k := .froz) (by kernel_rfl) (by decide) rfl) hq) rfl ?_
 exact zg4 (k := .froz) (by kernel_rfl)
noncomputable def hex (f : Int -> Int) : Int := f 0 + f 1 * 16 + f 2 * 16 ^ 2 + f 3 * 16 ^ 3 + f 4 * 16 ^ 4 + f 5 * 16 ^ 5 + f 6 * 16 ^ 6 + f 7 * 16 ^ 7 + f 8 * 16 ^ 8 + f 9 * 16 ^ 9 + f 10 * 16 ^ 10 + f 11 * 16 ^ 11
noncomputable def one (p : Int × Int) (k : Int) : Int := if k % p.1 == p.2 then 1 else 0
theorem zxd : ∀ p ∈ all27, zoj p.1 * 16 ^ p.2.toNat = hex (one p) := by decide +kernel
theorem zmf (p : Int × Int) (c : List (Int × Int)) (k : Int) : (zbf (p :: c) k : Int) = zbf c k + one p k := by
 rw [zgk]
 unfold one
 split <;> simp
noncomputable abbrev zu3 : List Int := [1, 2, 3, 4, 5, 6, 7, 8, 9, 10, 11]
noncomputable def ziz (u : Int -> Int) : Int := zu3.foldl (fun z k => z + u k) (u 0)
theorem zqp (u v : Int -> Int) (l : List Int) : ∀ (s t : Int), l.foldl (fun z k => z + (u k + v k)) (s + t) = l.foldl (fun z k => z + u k) s + l.foldl (fun z k => z + v k) t := by
 induction l with
 | nil =>
  intro s t
  exact rfl
 | cons k l IH =>
  intro s t
  rw [List.foldl_cons, List.foldl_cons, List.foldl_cons, <- IH]
  congr 1
  lia
theorem ziy (u v : Int -> Int) : ziz (fun k => u k + v k) = ziz u + ziz v := zqp u v zu3 (u 0) (v 0)
theorem zko (f : Int -> Int) : hex f = ziz fun k => f k * 16 ^ k.toNat := by
 have e : ziz (fun k => f k * 16 ^ k.toNat) = zu3.foldl (fun z k => z + f k * 16 ^ k.toNat) (f 0 * 1) := rfl
 rw [e, Int.mul_one]
 rfl
theorem zxe (f g : Int -> Int) : hex (fun k => f k + g k) = hex f + hex g := by
 rw [zko, zko, zko, <- ziy]
 exact congrArg ziz (funext fun k => Int.add_mul ..)
theorem zsj (c : List (Int × Int)) : ∀ (acc : Int), (∀ p ∈ c, p ∈ all27) -> c.foldl zwm acc = acc + hex fun k => zbf c k := by
 induction c with
 | nil =>
  intro acc _
  simp [hex, zbf]
 | cons p c IH =>
  intro acc hv
  rw [List.foldl_cons, IH _ fun p hp => hv p (.tail _ hp), zwm, zxd p (hv p (.head _)), show (fun k => ((zbf (p :: c) k : Nat) : Int)) = fun k => (zbf c k : Int) + one p k from funext fun k => zmf p c k, zxe]
  lia
theorem zm5 {c : List (Int × Int)} (hv : ∀ p ∈ c, p ∈ all27) : c.foldl zwm 0 = hex fun k => zbf c k := by rw [zsj c 0 hv]; lia
section
noncomputable def qf (x : Int) : UInt64 := znn x 128
noncomputable def r49 : List Int := (List.range 49).map fun (i : Nat) => (i : Int)
theorem zfz {i : Int} (h0 : 0 <= i) (h1 : i <= 48) : i ∈ r49 := List.mem_map.mpr ⟨i.toNat, List.mem_range.mpr (by lia), by lia⟩
theorem z2p {P : Int -> Int -> Bool} (h : (r49.all fun i => r49.all fun j => P i j) = true) {i j : Int} (h0 : 0 <= i) (h1 : i <= 48) (h2 : 0 <= j) (h3 : j <= 48) : P i j = true :=
 List.all_eq_true.mp (List.all_eq_true.mp h i (zfz h0 h1)) j (zfz h2 h3)
theorem ord49 : (r49.all fun i => r49.all fun j => Float64.cmp (qf i) (qf j) == some (compare i j)) = true := by kernel_rfl
noncomputable def satB (i j : Int) : Bool := if j < i then
  let rg := Float64.sub (qf i) (qf j)
  let sm := Float64.add (qf i) (qf j)
  let tt := Float64.sub (Float64.sub 4611686018427387904 (qf i)) (qf j)
  !Float64.isZero rg && !Float64.isZero sm && !Float64.isZero tt && (Float64.cmp (Float64.div rg sm) 0 != some Ordering.eq) && (Float64.cmp (Float64.div rg tt) 0 != some Ordering.eq)
 else true
theorem sat49 : (r49.all fun i => r49.all fun j => satB i j) = true := by kernel_rfl
theorem zk5 {i j : Int} (h0 : 0 <= i) (h1 : i <= 48) (h2 : 0 <= j) (h3 : j <= 48) : Float64.cmp (qf i) (qf j) = some (compare i j) := by
 have := z2p ord49 h0 h1 h2 h3
 simpa using this
noncomputable def mx (a b c : Int) : Int := if b > a then (if c > b then c else b) else (if c > a then c else a)
noncomputable def mn (a b c : Int) : Int := if b < a then (if c < b then c else b) else (if c < a then c else a)
theorem zkq (a b : Int) : (some (compare b a) == some Ordering.gt) = decide (b > a) := by
 by_cases h : b > a
 ·rw [decide_eq_true h, Int.compare_eq_gt.mpr h]; rfl
 ·rw [decide_eq_false h]
  have : compare b a ≠ .gt := fun q => h (Int.compare_eq_gt.mp q)
  cases hc : compare b a <;> first | rfl | exact absurd hc this
theorem zki (a b : Int) : (some (compare b a) == some Ordering.lt) = decide (b < a) := by
 by_cases h : b < a
 ·rw [decide_eq_true h, Int.compare_eq_lt.mpr h]; rfl
 ·rw [decide_eq_false h]
  have : compare b a ≠ .lt := fun q => h (Int.compare_eq_lt.mp q)
  cases hc : compare b a <;> first | rfl | exact absurd hc this
theorem zx3 (a b : Int) : (some (compare b a) == some Ordering.eq) = decide (b = a) := by
 by_cases h : b = a
 ·rw [decide_eq_true h, Int.compare_eq_eq.mpr h]; rfl
 ·rw [decide_eq_false h]
  have : compare b a ≠ .eq := fun q => h (Int.compare_eq_eq.mp q)
  cases hc : compare b a <;> first | rfl | exact absurd hc this
section
variable {a b c : Int}
theorem z0y (a0 : 0 <= a) (a1 : a <= 48) (b0 : 0 <= b) (b1 : b <= 48) (c0 : 0 <= c) (c1 : c <= 48) : zwp (qf a) (qf b) (qf c) = qf (mx a b c) := by
 unfold zwp mx
 rw [zk5 b0 b1 a0 a1, zk5 c0 c1 b0 b1, zk5 c0 c1 a0 a1, zkq, zkq, zkq]
 by_cases h1 : b > a <;> by_cases h2 : c > b <;> by_cases h3 : c > a <;> simp [h1, h2, h3]
theorem z0t (a0 : 0 <= a) (a1 : a <= 48) (b0 : 0 <= b) (b1 : b <= 48) (c0 : 0 <= c) (c1 : c <= 48) : zwo (qf a) (qf b) (qf c) = qf (mn a b c) := by
 unfold zwo mn
 rw [zk5 b0 b1 a0 a1, zk5 c0 c1 b0 b1, zk5 c0 c1 a0 a1, zki, zki, zki]
 by_cases h1 : b < a <;> by_cases h2 : c < b <;> by_cases h3 : c < a <;> simp [h1, h2, h3]
theorem mx_f : a <= mx a b c /\ b <= mx a b c /\ c <= mx a b c /\ (mx a b c = a ∨ mx a b c = b ∨ mx a b c = c) := by
 unfold mx
 by_cases h : b > a
 ·rw [if_pos h]
  by_cases g : c > b
  ·rw [if_pos g]; exact ⟨Int.le_of_lt (Int.lt_trans h g), Int.le_of_lt g, Int.le_refl _, .inr (.inr rfl)⟩
  ·rw [if_neg g]; exact ⟨Int.le_of_lt h, Int.le_refl _, Int.not_lt.mp g, .inr (.inl rfl)⟩
 ·rw [if_neg h]
  by_cases g : c > a
  ·rw [if_pos g]; exact ⟨Int.le_of_lt g, Int.le_trans (Int.not_lt.mp h) (Int.le_of_lt g), Int.le_refl _, .inr (.inr rfl)⟩
  ·rw [if_neg g]; exact ⟨Int.le_refl _, Int.not_lt.mp h, Int.not_lt.mp g, .inl rfl⟩
theorem mn_f : mn a b c <= a /\ mn a b c <= b /\ mn a b c <= c /\ (mn a b c = a ∨ mn a b c = b ∨ mn a b c = c) := by
 unfold mn
 by_cases h : b < a
 ·rw [if_pos h]
  by_cases g : c < b
  ·rw [if_pos g]; exact ⟨Int.le_of_lt (Int.lt_trans g h), Int.le_of_lt g, Int.le_refl _, .inr (.inr rfl)⟩
  ·rw [if_neg g]; exact ⟨Int.le_of_lt h, Int.le_refl _, Int.not_lt.mp g, .inr (.inl rfl)⟩
 ·rw [if_neg h]
  by_cases g : c < a
  ·rw [if_pos g]; exact ⟨Int.le_of_lt g, Int.le_trans (Int.le_of_lt g) (Int.not_lt.mp h), Int.le_refl _, .inr (.inr rfl)⟩
  ·rw [if_neg g]; exact ⟨Int.le_refl _, Int.not_lt.mp h, Int.not_lt.mp g, .inl rfl⟩
theorem mx_mn : (mn a b c = mx a b c ↔ a = b /\ b = c) /\ mn a b c <= mx a b c := by
 obtain ⟨m1, m2, m3, m4⟩ := mx_f (a := a) (b := b) (c := c)
 obtain ⟨n1, n2, n3, n4⟩ := mn_f (a := a) (b := b) (c := c)
 revert m1 m2 m3 m4 n1 n2 n3 n4
 generalize mx a b c = M
 generalize mn a b c = N
 intro m1 m2 m3 m4 n1 n2 n3 n4
 refine ⟨⟨fun e => ?_, fun e => ?_⟩, Int.le_trans n1 m1⟩
 ·have hb : b = M := Int.le_antisymm m2 (e ▸ n2)
  exact ⟨(Int.le_antisymm m1 (e ▸ n1)).trans hb.symm, hb.trans (Int.le_antisymm m3 (e ▸ n3)).symm⟩
 ·obtain ⟨rfl, rfl⟩ := e
  exact (n4.elim id (·.elim id id)).trans (m4.elim id (·.elim id id)).symm
theorem mx_r (a0 : 0 <= a) (a1 : a <= 48) (b0 : 0 <= b) (b1 : b <= 48) (c0 : 0 <= c) (c1 : c <= 48) : 0 <= mx a b c /\ mx a b c <= 48 /\ 0 <= mn a b c /\ mn a b c <= 48 :=
 have M := mx_f (a := a) (b := b) (c := c)
 have N := mn_f (a := a) (b := b) (c := c)
 ⟨Int.le_trans a0 M.1, M.2.2.2.elim (fun e => Int.le_trans (Int.le_of_eq e) a1) (·.elim (fun e => Int.le_trans (Int.le_of_eq e) b1) fun e => Int.le_trans (Int.le_of_eq e) c1), N.2.2.2.elim (fun e => Int.le_trans a0 (Int.le_of_eq e.symm)) (·.elim (fun e => Int.le_trans b0 (Int.le_of_eq e.symm)) fun e => Int.le_trans c0 (Int.le_of_eq e.symm)), Int.le_trans N.1 a1⟩
end
theorem dv {x y : UInt64} (h : Float64.isZero y = false) : zit .Div (.flt x) (.flt y) = some (.flt (Float64.div x y), .froz) := by
 show (if Float64.isZero y = true then none else some (D.flt (Float64.div x y))).map (·, Kd.froz) = _
 rw [if_neg (by rw [h]; decide)]; rfl
end
section
noncomputable def ifT : PySem.Stmt -> PySem.Expr
 | .If t _ _ _ => t
 | _ => .Constant .none 0 default
noncomputable def ifB : PySem.Stmt -> List PySem.Stmt
 | .If _ b _ _ => b
 | _ => []
noncomputable def ifO : PySem.Stmt -> List PySem.Stmt
 | .If _ _ o _ => o
 | _ => []
theorem b153 (w : World) : zay w 153 = [stm w 153 0, stm w 153 1, stm w 153 2, stm w 153 3, stm w 153 4, stm w 153 5, stm w 153 6, stm w 153 7, stm w 153 8, stm w 153 9, stm w 153 10, stm w 153 11, stm w 153 12] := by kernel_rfl
theorem z0a (w : World) : ∃ p, stm w 153 5 = .If (ifT (stm w 153 5)) (ifB (stm w 153 5)) [] p := ⟨_, rfl⟩
theorem zz9 (w : World) : ∃ (pp : Nat -> Pos) (X : _), stm w 153 6 = .If (ifT (stm w 153 6)) [.Assign [.Name "s" (pp 1)] (.BinOp (.Name "rangec" (pp 2)) .Div (.Name "sumc" (pp 3)) (pp 4)) (pp 5)] [.Assign [.Name "s" (pp 6)] (.BinOp (.Name "rangec" (pp 7)) .Div X (pp 8)) (pp 9)] (pp 0) /\
  ∀ (A B C M N S R L : UInt64), zaa O0 39 ⟨zab w 153, [("r", .flt A), ("g", .flt B), ("b", .flt C), ("maxc", .flt M), ("minc", .flt N), ("sumc", .flt S), ("rangec", .flt R), ("l", .flt L)], none⟩ X = some (.flt (Float64.sub (Float64.sub 4611686018427387904 M) N), .froz) :=
 ⟨fun i => [_, _, _, _, _, _, _, _, _, _].getD i default, _, rfl, fun A B C M N S R L => by kernel_rfl⟩
theorem zz8 (w : World) : ∃ (pp : Nat -> Pos) (X : _), stm w 153 7 = .Assign [.Name "rc" (pp 0)] (.BinOp X .Div (.Name "rangec" (pp 1)) (pp 2)) (pp 3) /\
  ∀ (A B C M N S R L Z : UInt64), zaa O0 39 ⟨zab w 153, [("r", .flt A), ("g", .flt B), ("b", .flt C), ("maxc", .flt M), ("minc", .flt N), ("sumc", .flt S), ("rangec", .flt R), ("l", .flt L), ("s", .flt Z)], none⟩ X = some (.flt (Float64.sub M A), .froz) :=
 ⟨fun i => [_, _, _, _].getD i default, _, rfl, fun A B C M N S R L Z => by kernel_rfl⟩
theorem zz7 (w : World) : ∃ (pp : Nat -> Pos) (X : _), stm w 153 8 = .Assign [.Name "gc" (pp 0)] (.BinOp X .Div (.Name "rangec" (pp 1)) (pp 2)) (pp 3) /\
  ∀ (A B C M N S R L Z RC : UInt64), zaa O0 39 ⟨zab w 153, [("r", .flt A), ("g", .flt B), ("b", .flt C), ("maxc", .flt M), ("minc", .flt N), ("sumc", .flt S), ("rangec", .flt R), ("l", .flt L), ("s", .flt Z), ("rc", .flt RC)], none⟩ X = some (.flt (Float64.sub M B), .froz) :=
 ⟨fun i => [_, _, _, _].getD i default, _, rfl, fun A B C M N S R L Z RC => by kernel_rfl⟩
theorem zz6 (w : World) : ∃ (pp : Nat -> Pos) (X : _), stm w 153 9 = .Assign [.Name "bc" (pp 0)] (.BinOp X .Div (.Name "rangec" (pp 1)) (pp 2)) (pp 3) /\
  ∀ (A B C M N S R L Z RC GC : UInt64), zaa O0 39 ⟨zab w 153, [("r", .flt A), ("g", .flt B), ("b", .flt C), ("maxc", .flt M), ("minc", .flt N), ("sumc", .flt S), ("rangec", .flt R), ("l", .flt L), ("s", .flt Z), ("rc", .flt RC), ("gc", .flt GC)], none⟩ X = some (.flt (Float64.sub M C), .froz) :=
 ⟨fun i => [_, _, _, _].getD i default, _, rfl, fun A B C M N S R L Z RC GC => by kernel_rfl⟩
theorem zwe (w : World) : ∃ p q, stm w 153 10 = .If (ifT (stm w 153 10)) (ifB (stm w 153 10)) [.If (ifT ((ifO (stm w 153 10)).getD 0 (.Pass default))) (ifB ((ifO (stm w 153 10)).getD 0 (.Pass default))) (ifO ((ifO (stm w 153 10)).getD 0 (.Pass default))) p] q := ⟨_, _, rfl⟩
noncomputable abbrev hσ (A B C M N S R L Z RC GC BC : UInt64) : List (Str × D) := [("r", .flt A), ("g", .flt B), ("b", .flt C), ("maxc", .flt M), ("minc", .flt N), ("sumc", .flt S), ("rangec", .flt R), ("l", .flt L), ("s", .flt Z), ("rc", .flt RC), ("gc", .flt GC), ("bc", .flt BC)]
variable (w : World) (A B C M N S R L Z RC GC BC H : UInt64)
theorem zti : ∃ h, zc3 O0 [] (zab w 153) 40 27 [[stm w 153 10, stm w 153 11, stm w 153 12]] ⟨hσ A B C M N S R L Z RC GC BC, none⟩ = some (.tup [.flt h, .flt L, .flt Z]) := by
 obtain ⟨p, q, e⟩ := zwe w
 have t1 : zaa O0 40 ⟨zab w 153, hσ A B C M N S R L Z RC GC BC, none⟩ (ifT (stm w 153 10)) = some (.bool (Float64.cmp A M == some Ordering.eq), .froz) := by kernel_rfl
 have t2 : zaa O0 40 ⟨zab w 153, hσ A B C M N S R L Z RC GC BC, none⟩ (ifT ((ifO (stm w 153 10)).getD 0 (.Pass default))) = some (.bool (Float64.cmp B M == some Ordering.eq), .froz) := by kernel_rfl
 rw [e]
 cases h1 : Float64.cmp A M == some Ordering.eq with
 | true =>
  rw [h1] at t1
  refine ⟨(Float64.divmod (Float64.div (Float64.sub BC GC) 4618441417868443648) 4607182418800017408).snd, zrr t1 rfl ?_⟩
  kernel_rfl
 | false =>
  rw [h1] at t1
  cases h2 : Float64.cmp B M == some Ordering.eq with
  | true =>
   rw [h2] at t2
   refine ⟨(Float64.divmod (Float64.div (Float64.sub (Float64.add 4611686018427387904 RC) BC) 4618441417868443648) 4607182418800017408).snd, zey t1 rfl (zrr t2 rfl ?_)⟩
   kernel_rfl
  | false =>
   rw [h2] at t2
   refine ⟨(Float64.divmod (Float64.div (Float64.sub (Float64.add 4616189618054758400 GC) RC) 4618441417868443648) 4607182418800017408).snd, zey t1 rfl (zey t2 rfl ?_)⟩
   kernel_rfl
theorem zxc {A B C M N : UInt64} {eqq : Bool} (hmax : zwp A B C = M) (hmin : zwo A B C = N) (hq : (Float64.cmp N M == some Ordering.eq) = eqq)
  (h1 : eqq = false -> Float64.isZero (Float64.sub M N) = false /\ Float64.isZero (Float64.add M N) = false /\ Float64.isZero (Float64.sub (Float64.sub 4611686018427387904 M) N) = false /\ (Float64.cmp (Float64.div (Float64.sub M N) (Float64.add M N)) 0 == some Ordering.eq) = false /\ (Float64.cmp (Float64.div (Float64.sub M N) (Float64.sub (Float64.sub 4611686018427387904 M) N)) 0 == some Ordering.eq) = false) :
  ∃ h l s, zc3 O0 [] (zab w 153) 40 40 [zay w 153] ⟨[("r", .flt A), ("g", .flt B), ("b", .flt C)], none⟩ = some (.tup [.flt h, .flt l, .flt s]) /\ (Float64.cmp s 0 == some Ordering.eq) = eqq := by
 rw [b153]
 have x0 : zae O0 [] (zab w 153) 40 ⟨[("r", .flt A), ("g", .flt B), ("b", .flt C)], none⟩ (stm w 153 0) = some (⟨[("r", .flt A), ("g", .flt B), ("b", .flt C), ("maxc", .flt (zwp A B C))], none⟩, .next) := by kernel_rfl
 rw [hmax] at x0
 have x1 : zae O0 [] (zab w 153) 40 ⟨[("r", .flt A), ("g", .flt B), ("b", .flt C), ("maxc", .flt M)], none⟩ (stm w 153 1) = some (⟨[("r", .flt A), ("g", .flt B), ("b", .flt C), ("maxc", .flt M), ("minc", .flt (zwo A B C))], none⟩, .next) := by kernel_rfl
 rw [hmin] at x1
 have x2 : zae O0 [] (zab w 153) 40 ⟨[("r", .flt A), ("g", .flt B), ("b", .flt C), ("maxc", .flt M), ("minc", .flt N)], none⟩ (stm w 153 2) = some (⟨[("r", .flt A), ("g", .flt B), ("b", .flt C), ("maxc", .flt M), ("minc", .flt N), ("sumc", .flt (Float64.add M N))], none⟩, .next) := by kernel_rfl
 have x3 : zae O0 [] (zab w 153) 40 ⟨[("r", .flt A), ("g", .flt B), ("b", .flt C), ("maxc", .flt M), ("minc", .flt N), ("sumc", .flt (Float64.add M N))], none⟩ (stm w 153 3) = some (⟨[("r", .flt A), ("g", .flt B), ("b", .flt C), ("maxc", .flt M), ("minc", .flt N), ("sumc", .flt (Float64.add M N)), ("rangec", .flt (Float64.sub M N))], none⟩, .next) := by kernel_rfl
 obtain ⟨S, hS⟩ : ∃ S, S = Float64.add M N := ⟨_, rfl⟩
 obtain ⟨R, hR⟩ : ∃ R, R = Float64.sub M N := ⟨_, rfl⟩
 obtain ⟨L, hL⟩ : ∃ L, L = Float64.div S 4611686018427387904 := ⟨_, rfl⟩
 rw [<- hS] at x2 x3
 rw [<- hR] at x3
 rw [<- hR, <- hS] at h1
 have x4 : zae O0 [] (zab w 153) 40 ⟨[("r", .flt A), ("g", .flt B), ("b", .flt C), ("maxc", .flt M), ("minc", .flt N), ("sumc", .flt S), ("rangec", .flt R)], none⟩ (stm w 153 4) = some (⟨[("r", .flt A), ("g", .flt B), ("b", .flt C), ("maxc", .flt M), ("minc", .flt N), ("sumc", .flt S), ("rangec", .flt R), ("l", .flt L)], none⟩, .next) := by rw [hL]; kernel_rfl
 have t5 : zaa O0 40 ⟨zab w 153, [("r", .flt A), ("g", .flt B), ("b", .flt C), ("maxc", .flt M), ("minc", .flt N), ("sumc", .flt S), ("rangec", .flt R), ("l", .flt L)], none⟩ (ifT (stm w 153 5)) = some (.bool (Float64.cmp N M == some Ordering.eq), .froz) := by kernel_rfl
 have t6 : zaa O0 40 ⟨zab w 153, [("r", .flt A), ("g", .flt B), ("b", .flt C), ("maxc", .flt M), ("minc", .flt N), ("sumc", .flt S), ("rangec", .flt R), ("l", .flt L)], none⟩ (ifT (stm w 153 6)) = some (.bool (Float64.cmp L 4602678819172646912 == some Ordering.lt || Float64.cmp L 4602678819172646912 == some Ordering.eq), .froz) := by kernel_rfl
 rw [hq] at t5
 obtain ⟨p, e5⟩ := z0a w
 obtain ⟨pp, X, e6, eX⟩ := zz9 w
 cases eqq with
 | true =>
  refine ⟨0, L, 0, ?_, by decide +kernel⟩
  refine zah x0 (by kernel_rfl) (zah x1 (by kernel_rfl) (zah x2 (by kernel_rfl) (zah x3 (by kernel_rfl) (zah x4 (by kernel_rfl) ?_))))
  rw [e5]
  refine zrr t5 rfl ?_
  kernel_rfl
 | false =>
  obtain ⟨z1, z2, z3, z4, z5⟩ := h1 rfl
  have tail : ∀ Z, ∃ h, zc3 O0 [] (zab w 153) 40 30 [[stm w 153 7, stm w 153 8, stm w 153 9, stm w 153 10, stm w 153 11, stm w 153 12]] ⟨[("r", .flt A), ("g", .flt B), ("b", .flt C), ("maxc", .flt M), ("minc", .flt N), ("sumc", .flt S), ("rangec", .flt R), ("l", .flt L), ("s", .flt Z)], none⟩ = some (.tup [.flt h, .flt L, .flt Z]) := by
   intro Z
   obtain ⟨pp2, X7, e7, eX7⟩ := zz8 w
   obtain ⟨pp3, X8, e8, eX8⟩ := zz7 w
   obtain ⟨pp4, X9, e9, eX9⟩ := zz6 w
   rw [e7, e8, e9]
   obtain ⟨h, hh⟩ := zti w A B C M N S R L Z (Float64.div (Float64.sub M A) R) (Float64.div (Float64.sub M B) R) (Float64.div (Float64.sub M C) R)
   refine ⟨h, ?_⟩
   refine zah (c' := ⟨[("r", .flt A), ("g", .flt B), ("b", .flt C), ("maxc", .flt M), ("minc", .flt N), ("sumc", .flt S), ("rangec", .flt R), ("l", .flt L), ("s", .flt Z), ("rc", .flt (Float64.div (Float64.sub M A) R))], none⟩) (zai (za3 (eX7 A B C M N S R L Z) (b := .flt R) (k2 := .froz) (by kernel_rfl) (dv z1)) (by kernel_rfl)) rfl ?_
   refine zah (c' := ⟨[("r", .flt A), ("g", .flt B), ("b", .flt C), ("maxc", .flt M), ("minc", .flt N), ("sumc", .flt S), ("rangec", .flt R), ("l", .flt L), ("s", .flt Z), ("rc", .flt (Float64.div (Float64.sub M A) R)), ("gc", .flt (Float64.div (Float64.sub M B) R))], none⟩) (zai (za3 (eX8 A B C M N S R L Z _) (b := .flt R) (k2 := .froz) (by kernel_rfl) (dv z1)) (by kernel_rfl)) rfl ?_
   refine zah (c' := ⟨[("r", .flt A), ("g", .flt B), ("b", .flt C), ("maxc", .flt M), ("minc", .flt N), ("sumc", .flt S), ("rangec", .flt R), ("l", .flt L), ("s", .flt Z), ("rc", .flt (Float64.div (Float64.sub M A) R)), ("gc", .flt (Float64.div (Float64.sub M B) R)), ("bc", .flt (Float64.div (Float64.sub M C) R))], none⟩) (zai (za3 (eX9 A B C M N S R L Z _ _) (b := .flt R) (k2 := .froz) (by kernel_rfl) (dv z1)) (by kernel_rfl)) rfl ?_
   exact hh
  cases hl : (Float64.cmp L 4602678819172646912 == some Ordering.lt || Float64.cmp L 4602678819172646912 == some Ordering.eq) with
  | true =>
   rw [hl] at t6
   obtain ⟨h, hh⟩ := tail (Float64.div R S)
   refine ⟨h, L, _, ?_, z4⟩
   refine zah x0 (by kernel_rfl) (zah x1 (by kernel_rfl) (zah x2 (by kernel_rfl) (zah x3 (by kernel_rfl) (zah x4 (by kernel_rfl) ?_))))
   rw [e5]
   refine zey t5 rfl (zjv ?_)
   rw [e6]
   refine zrr t6 rfl ?_
   refine zah (c' := ⟨[("r", .flt A), ("g", .flt B), ("b", .flt C), ("maxc", .flt M), ("minc", .flt N), ("sumc", .flt S), ("rangec", .flt R), ("l", .flt L), ("s", .flt (Float64.div R S))], none⟩) (zai (za3 (a := .flt R) (k1 := .froz) (by kernel_rfl) (b := .flt S) (k2 := .froz) (by kernel_rfl) (dv z2)) (by kernel_rfl)) rfl (zjv ?_)
   exact hh
  | false =>
   rw [hl] at t6
   obtain ⟨h, hh⟩ := tail (Float64.div R (Float64.sub (Float64.sub 4611686018427387904 M) N))
   refine ⟨h, L, _, ?_, z5⟩
   refine zah x0 (by kernel_rfl) (zah x1 (by kernel_rfl) (zah x2 (by kernel_rfl) (zah x3 (by kernel_rfl) (zah x4 (by kernel_rfl) ?_))))
   rw [e5]
   refine zey t5 rfl (zjv ?_)
   rw [e6]
   refine zey t6 rfl ?_
   refine zah (c' := ⟨[("r", .flt A), ("g", .flt B), ("b", .flt C), ("maxc", .flt M), ("minc", .flt N), ("sumc", .flt S), ("rangec", .flt R), ("l", .flt L), ("s", .flt (Float64.div R (Float64.sub (Float64.sub 4611686018427387904 M) N)))], none⟩) (zai (za3 (a := .flt R) (k1 := .froz) (by kernel_rfl) (eX A B C M N S R L) (dv z3)) (by kernel_rfl)) rfl (zjv ?_)
   exact hh
theorem z1a {a b c : Int} (a0 : 0 <= a) (a1 : a <= 48) (b0 : 0 <= b) (b1 : b <= 48) (c0 : 0 <= c) (c1 : c <= 48) : ∃ h l s, zaw w O0 [] 153 ps_hls [.flt (qf a), .flt (qf b), .flt (qf c)] = some (.tup [.flt h, .flt l, .flt s]) /\ (Float64.cmp s 0 == some Ordering.eq) = decide (a = b /\ b = c) := by
 obtain ⟨m0, m1, n0, n1⟩ := mx_r a0 a1 b0 b1 c0 c1
 obtain ⟨heq, hle⟩ := mx_mn (a := a) (b := b) (c := c)
 have hcmp : (Float64.cmp (qf (mn a b c)) (qf (mx a b c)) == some Ordering.eq) = decide (a = b /\ b = c) := by
  rw [zk5 n0 n1 m0 m1, zx3]; exact decide_eq_decide.mpr heq
 have hsat := z2p sat49 m0 m1 n0 n1
 obtain ⟨h, l, s, q, r⟩ := zxc w (z0y a0 a1 b0 b1 c0 c1) (z0t a0 a1 b0 b1 c0 c1) hcmp fun hf => by
  have hne : ¬ (a = b /\ b = c) := of_decide_eq_false hf
  have hlt : mn a b c < mx a b c := by
   rcases Int.lt_or_eq_of_le hle with h | h
   ·exact h
   ·exact absurd (heq.mp h) hne
  unfold satB at hsat
  rw [if_pos hlt] at hsat
  simp only [Bool.and_eq_true, Bool.not_eq_true', bne, Bool.not_eq_eq_eq_not, Bool.not_true] at hsat
  obtain ⟨⟨⟨⟨y1, y2⟩, y3⟩, y4⟩, y5⟩ := hsat
  exact ⟨y1, y2, y3, y4, y5⟩
 exact ⟨h, l, s, za5 rfl q, r⟩
end
noncomputable def zie : List ((Int × Int) × (UInt64 × UInt64 × UInt64)) := [((2, 0), 4607182418800017408, 0, 0), ((2, 1), 0, 4607182418800017408, 4607182418800017408), ((4, 0), 4607182418800017408, 0, 0), ((4, 1), 0, 4607182418800017408, 4607182418800017408), ((4, 2), 4607182418800017408, 0, 0), ((4, 3), 0, 4607182418800017408, 4607182418800017408), ((6, 0), 4607182418800017408, 0, 0), ((6, 1), 0, 4607182418800017408, 4607182418800017408), ((6, 2), 4607182418800017408, 0, 0), ((6, 3), 0, 4607182418800017408, 4607182418800017408), ((6, 4), 4607182418800017408, 0, 0), ((6, 5), 0, 4607182418800017408, 4607182418800017408), ((12, 0), 4607182418800017408, 0, 0), ((12, 1), 0, 4607182418800017408, 4607182418800017408), ((12, 2), 4607182418800017408, 0, 0), ((12, 3), 0, 4607182418800017408, 4607182418800017408), ((12, 4), 4607182418800017408, 0, 0), ((12, 5), 0, 4607182418800017408, 4607182418800017408), ((12, 6), 4607182418800017408, 0, 0), ((12, 7), 0, 4607182418800017408, 4607182418800017408), ((12, 8), 4607182418800017408, 0, 0), ((12, 9), 0, 4607182418800017408, 4607182418800017408), ((12, 10), 4607182418800017408, 0, 0), ((12, 11), 0, 4607182418800017408, 4607182418800017408)]
noncomputable def zb3 : List ((Int × Int) × (Int × Int × Int)) := [((2, 0), 12, 0, 0), ((2, 1), 0, 12, 12), ((4, 0), 6, 0, 0), ((4, 1), 0, 6, 6), ((4, 2), 6, 0, 0), ((4, 3), 0, 6, 6), ((6, 0), 4, 0, 0), ((6, 1), 0, 4, 4), ((6, 2), 4, 0, 0), ((6, 3), 0, 4, 4), ((6, 4), 4, 0, 0), ((6, 5), 0, 4, 4), ((12, 0), 2, 0, 0), ((12, 1), 0, 2, 2), ((12, 2), 2, 0, 0), ((12, 3), 0, 2, 2), ((12, 4), 2, 0, 0), ((12, 5), 0, 2, 2), ((12, 6), 2, 0, 0), ((12, 7), 0, 2, 2), ((12, 8), 2, 0, 0), ((12, 9), 0, 2, 2), ((12, 10), 2, 0, 0), ((12, 11), 0, 2, 2)]
noncomputable def zid : List ((Int × Int) × (UInt64 × UInt64 × UInt64)) := [((3, 0), 4607182418800017408, 0, 0), ((3, 1), 0, 4607182418800017408, 0), ((3, 2), 0, 0, 4607182418800017408), ((6, 0), 4607182418800017408, 0, 0), ((6, 1), 0, 4607182418800017408, 0), ((6, 2), 0, 0, 4607182418800017408), ((6, 3), 4607182418800017408, 0, 0), ((6, 4), 0, 4607182418800017408, 0), ((6, 5), 0, 0, 4607182418800017408), ((12, 0), 4607182418800017408, 0, 0), ((12, 1), 0, 4607182418800017408, 0), ((12, 2), 0, 0, 4607182418800017408), ((12, 3), 4607182418800017408, 0, 0), ((12, 4), 0, 4607182418800017408, 0), ((12, 5), 0, 0, 4607182418800017408), ((12, 6), 4607182418800017408, 0, 0), ((12, 7), 0, 4607182418800017408, 0), ((12, 8), 0, 0, 4607182418800017408), ((12, 9), 4607182418800017408, 0, 0), ((12, 10), 0, 4607182418800017408, 0), ((12, 11), 0, 0, 4607182418800017408)]
noncomputable def zbp : List ((Int × Int) × (Int × Int × Int)) := [((3, 0), 8, 0, 0), ((3, 1), 0, 8, 0), ((3, 2), 0, 0, 8), ((6, 0), 4, 0, 0), ((6, 1), 0, 4, 0), ((6, 2), 0, 0, 4), ((6, 3), 4, 0, 0), ((6, 4), 0, 4, 0), ((6, 5), 0, 0, 4), ((12, 0), 2, 0, 0), ((12, 1), 0, 2, 0), ((12, 2), 0, 0, 2), ((12, 3), 2, 0, 0), ((12, 4), 0, 2, 0), ((12, 5), 0, 0, 2), ((12, 6), 2, 0, 0), ((12, 7), 0, 2, 0), ((12, 8), 0, 0, 2), ((12, 9), 2, 0, 0), ((12, 10), 0, 2, 0), ((12, 11), 0, 0, 2)]
noncomputable def zic : List ((Int × Int) × (UInt64 × UInt64 × UInt64)) := [((4, 0), 4607182418800017408, 0, 0), ((4, 1), 4602678819172646912, 4607182418800017408, 0), ((4, 2), 0, 4607182418800017408, 4607182418800017408), ((4, 3), 4602678819172646912, 0, 4607182418800017408), ((12, 0), 4607182418800017408, 0, 0), ((12, 1), 4602678819172646912, 4607182418800017408, 0), ((12, 2), 0, 4607182418800017408, 4607182418800017408), ((12, 3), 4602678819172646912, 0, 4607182418800017408), ((12, 4), 4607182418800017408, 0, 0), ((12, 5), 4602678819172646912, 4607182418800017408, 0), ((12, 6), 0, 4607182418800017408, 4607182418800017408), ((12, 7), 4602678819172646912, 0, 4607182418800017408), ((12, 8), 4607182418800017408, 0, 0), ((12, 9), 4602678819172646912, 4607182418800017408, 0), ((12, 10), 0, 4607182418800017408, 4607182418800017408), ((12, 11), 4602678819172646912, 0, 4607182418800017408)]
noncomputable def zb2 : List ((Int × Int) × (Int × Int × Int)) := [((4, 0), 6, 0, 0), ((4, 1), 3, 6, 0), ((4, 2), 0, 6, 6), ((4, 3), 3, 0, 6), ((12, 0), 2, 0, 0), ((12, 1), 1, 2, 0), ((12, 2), 0, 2, 2), ((12, 3), 1, 0, 2), ((12, 4), 2, 0, 0), ((12, 5), 1, 2, 0), ((12, 6), 0, 2, 2), ((12, 7), 1, 0, 2), ((12, 8), 2, 0, 0), ((12, 9), 1, 2, 0), ((12, 10), 0, 2, 2), ((12, 11), 1, 0, 2)]
noncomputable def zib : List ((Int × Int) × (UInt64 × UInt64 × UInt64)) := [((6, 0), 4607182418800017408, 0, 0), ((6, 1), 4607182418800017408, 4607182418800017408, 0), ((6, 2), 0, 4607182418800017408, 0), ((6, 3), 0, 4607182418800017408, 4607182418800017408), ((6, 4), 0, 0, 4607182418800017408), ((6, 5), 4607182418800017408, 0, 4607182418800017408), ((12, 0), 4607182418800017408, 0, 0), ((12, 1), 4607182418800017408, 4607182418800017408, 0), ((12, 2), 0, 4607182418800017408, 0), ((12, 3), 0, 4607182418800017408, 4607182418800017408), ((12, 4), 0, 0, 4607182418800017408), ((12, 5), 4607182418800017408, 0, 4607182418800017408), ((12, 6), 4607182418800017408, 0, 0), ((12, 7), 4607182418800017408, 4607182418800017408, 0), ((12, 8), 0, 4607182418800017408, 0), ((12, 9), 0, 4607182418800017408, 4607182418800017408), ((12, 10), 0, 0, 4607182418800017408), ((12, 11), 4607182418800017408, 0, 4607182418800017408)]
noncomputable def zb1 : List ((Int × Int) × (Int × Int × Int)) := [((6, 0), 4, 0, 0), ((6, 1), 4, 4, 0), ((6, 2), 0, 4, 0), ((6, 3), 0, 4, 4), ((6, 4), 0, 0, 4), ((6, 5), 4, 0, 4), ((12, 0), 2, 0, 0), ((12, 1), 2, 2, 0), ((12, 2), 0, 2, 0), ((12, 3), 0, 2, 2), ((12, 4), 0, 0, 2), ((12, 5), 2, 0, 2), ((12, 6), 2, 0, 0), ((12, 7), 2, 2, 0), ((12, 8), 0, 2, 0), ((12, 9), 0, 2, 2), ((12, 10), 0, 0, 2), ((12, 11), 2, 0, 2)]
noncomputable def zgi : List ((Int × Int) × (UInt64 × UInt64 × UInt64)) := [((12, 0), 4607182418800017408, 0, 0), ((12, 1), 4607182418800017408, 4602678819172646912, 0), ((12, 2), 4607182418800017408, 4607182418800017408, 0), ((12, 3), 4602678819172646912, 4607182418800017408, 0), ((12, 4), 0, 4607182418800017408, 0), ((12, 5), 0, 4607182418800017408, 4602678819172646912), ((12, 6), 0, 4607182418800017408, 4607182418800017408), ((12, 7), 0, 4602678819172646912, 4607182418800017408), ((12, 8), 0, 0, 4607182418800017408), ((12, 9), 4602678819172646912, 0, 4607182418800017408), ((12, 10), 4607182418800017408, 0, 4607182418800017408), ((12, 11), 4607182418800017408, 0, 4602678819172646912)]
noncomputable def zbh : List ((Int × Int) × (Int × Int × Int)) := [((12, 0), 2, 0, 0), ((12, 1), 2, 1, 0), ((12, 2), 2, 2, 0), ((12, 3), 1, 2, 0), ((12, 4), 0, 2, 0), ((12, 5), 0, 2, 1), ((12, 6), 0, 2, 2), ((12, 7), 0, 1, 2), ((12, 8), 0, 0, 2), ((12, 9), 1, 0, 2), ((12, 10), 2, 0, 2), ((12, 11), 2, 0, 1)]
noncomputable def zb7 : List ((Int × Int) × (UInt64 × UInt64 × UInt64)) := [((12, 0), 4607182418800017408, 0, 0), ((12, 1), 0, 4602678819172646904, 4607182418800017408), ((12, 2), 4607182418800017406, 4607182418800017408, 0), ((12, 3), 4602678819172646920, 0, 4607182418800017408), ((12, 4), 0, 4607182418800017408, 0), ((12, 5), 4607182418800017408, 0, 4602678819172646926), ((12, 6), 0, 4607182418800017406, 4607182418800017400), ((12, 7), 4607182418800017408, 4602678819172646880, 0), ((12, 8), 0, 0, 4607182418800017408), ((12, 9), 4602678819172646926, 4607182418800017408, 0), ((12, 10), 4607182418800017376, 0, 4607182418800017406), ((12, 11), 0, 4607182418800017408, 4602678819172646944)]
noncomputable def zau : List ((Int × Int) × (Int × Int × Int)) := [((12, 0), 2, 0, 0), ((12, 1), 0, 1, 2), ((12, 2), 2, 2, 0), ((12, 3), 1, 0, 2), ((12, 4), 0, 2, 0), ((12, 5), 2, 0, 1), ((12, 6), 0, 2, 2), ((12, 7), 2, 1, 0), ((12, 8), 0, 0, 2), ((12, 9), 1, 2, 0), ((12, 10), 2, 0, 2), ((12, 11), 0, 2, 1)]
noncomputable abbrev ConT := List ((Int × Int) × (UInt64 × UInt64 × UInt64))
noncomputable abbrev Acc := UInt64 × UInt64 × UInt64
theorem zh0 {kf : Kf} {t : PySem.Expr} {body : Mine.St -> Option (Mine.St × Fl)} {Inv : List (Int × Int) -> Mine.St -> Prop} (h : ∀ p c s, p ∈ all27 -> Inv (p :: c) s -> ∃ s', zg2 kf t body s (clD p) s' /\ Inv c s') :
  ∀ (c : List (Int × Int)) (s : Mine.St), (∀ p ∈ c, p ∈ all27) -> Inv c s -> ∃ s', zbu kf t body (c.map clD) s = some (s', .next) /\ Inv [] s'
 | [], s, _, hi => ⟨s, rfl, hi⟩
 | p :: c, s, hv, hi => by
  obtain ⟨s1, ⟨σ1, hb, hx⟩, h2⟩ := h p c s (hv p (.head _)) hi
  obtain ⟨s', e, h3⟩ := zh0 h c s1 (fun p hp => hv p (.tail _ hp)) h2
  exact ⟨s', zcb hb hx e, h3⟩
noncomputable def wgt (m : Int) (x : UInt64) : UInt64 := Float64.mul x (Float64.ofInt (Int.fdiv 12 m))
noncomputable def zen (T : ConT) (acc : Acc) (p : Int × Int) : Acc := match T.lookup p with
 | some (r, g, b) => (Float64.add acc.1 (wgt p.1 r), Float64.add acc.2.1 (wgt p.1 g), Float64.add acc.2.2 (wgt p.1 b))
 | none => acc
noncomputable abbrev X0 (cd : D) (sz : List (Int × D)) (d t : Int) (acc : Acc) : List (Str × D) := [("classes", cd), ("sizes", .dic sz), ("d", .int d), ("times", .int t), ("red", .flt acc.1), ("green", .flt acc.2.1), ("blue", .flt acc.2.2)]
noncomputable abbrev X1 (cd : D) (sz : List (Int × D)) (d t : Int) (acc : Acc) (p : Int × Int) : List (Str × D) := [("classes", cd), ("sizes", .dic sz), ("d", .int d), ("times", .int t), ("red", .flt acc.1), ("green", .flt acc.2.1), ("blue", .flt acc.2.2), ("m", .int p.1), ("a", .int p.2)]
noncomputable abbrev X2 (cd : D) (sz : List (Int × D)) (d t : Int) (acc : Acc) (p : Int × Int) (o : Acc) : List (Str × D) := [("classes", cd), ("sizes", .dic sz), ("d", .int d), ("times", .int t), ("red", .flt acc.1), ("green", .flt acc.2.1), ("blue", .flt acc.2.2), ("m", .int p.1), ("a", .int p.2), ("r", .flt o.1), ("g", .flt o.2.1), ("b", .flt o.2.2)]
theorem b222 (w : World) : ∃ (pp : Nat -> Pos) (kk : Nat -> Nat), zay w 222 = [stm w 222 0, stm w 222 1, stm w 222 2, .For (.Tuple [.Name "m" (pp 0), .Name "a" (pp 1)] (kk 0) (pp 2)) (.Name "classes" (pp 3)) (zeb (stm w 222 3)) [] (pp 4), stm w 222 4] := ⟨fun i => [_, _, _, _, _].getD i default, fun i => [_].getD i 0, rfl⟩
noncomputable def zy3 (w : World) : List PySem.Stmt := ifB ((zeb (stm w 222 3)).getD 0 (.Pass default))
theorem f222 (w : World) : ∃ (pp : Nat -> Pos), zeb (stm w 222 3) = [.If (.Compare (.Name "d" (pp 0)) [.In] [.Subscript (.Name "sizes" (pp 1)) (.Name "m" (pp 2)) (pp 3)] (pp 4)) (zy3 w) [] (pp 5)] := ⟨fun i => [_, _, _, _, _, _].getD i default, rfl⟩
noncomputable def zg3 (w : World) (T : ConT) (d t : Int) (p : Int × Int) : Prop := ∀ (cd : D) (sz : List (Int × D)) (acc o : Acc), (T.lookup p).isSome = true /\
 zcc (zae (OC w) [] (zab w 222) 38) (zy3 w) ⟨X1 cd sz d t acc p, none⟩ = some (⟨X2 cd sz d t (zen T acc p) p ((T.lookup p).getD (0, 0, 0)), none⟩, .next) /\
 zcc (zae (OC w) [] (zab w 222) 38) (zy3 w) ⟨X2 cd sz d t acc p o, none⟩ = some (⟨X2 cd sz d t (zen T acc p) p ((T.lookup p).getD (0, 0, 0)), none⟩, .next)
theorem zhc {w : World} {T : ConT} {d t : Int} (h : ∀ (cd : D) (sz : List (Int × D)) (acc o : Acc), znd (fun p => if Int.fmod p.1 d = 0 then some ((T.lookup p).isSome, zcc (zae (OC w) [] (zab w 222) 38) (zy3 w) ⟨X1 cd sz d t acc p, none⟩, zcc (zae (OC w) [] (zab w 222) 38) (zy3 w) ⟨X2 cd sz d t acc p o, none⟩) else none) all27 =
  all27.map fun p => if Int.fmod p.1 d = 0 then some (true, some (⟨X2 cd sz d t (zen T acc p) p ((T.lookup p).getD (0, 0, 0)), none⟩, .next), some (⟨X2 cd sz d t (zen T acc p) p ((T.lookup p).getD (0, 0, 0)), none⟩, .next)) else none) : ∀ p ∈ all27, Int.fmod p.1 d = 0 -> zg3 w T d t p := fun p hp h0 cd sz acc o =>
 have e := zk9 (h cd sz acc o) p hp h0
 ⟨congrArg (·.1) e, congrArg (·.2.1) e, congrArg (·.2.2) e⟩
theorem zpm (w : World) : ∀ p ∈ all27, Int.fmod p.1 2 = 0 -> zg3 w zie 2 1 p := zhc fun cd sz acc o => by kernel_rfl
theorem zpl (w : World) : ∀ p ∈ all27, Int.fmod p.1 3 = 0 -> zg3 w zid 3 1 p := zhc fun cd sz acc o => by kernel_rfl
theorem zpk (w : World) : ∀ p ∈ all27, Int.fmod p.1 4 = 0 -> zg3 w zic 4 1 p := zhc fun cd sz acc o => by kernel_rfl
theorem zpj (w : World) : ∀ p ∈ all27, Int.fmod p.1 6 = 0 -> zg3 w zib 6 1 p := zhc fun cd sz acc o => by kernel_rfl
theorem zna (w : World) : ∀ p ∈ all27, Int.fmod p.1 12 = 0 -> zg3 w zgi 12 1 p := zhc fun cd sz acc o => by kernel_rfl
theorem zm9 (w : World) : ∀ p ∈ all27, Int.fmod p.1 12 = 0 -> zg3 w zb7 12 7 p := zhc fun cd sz acc o => by kernel_rfl
section
theorem z05 (w : World) : zab w 222 "round" = some .globalImplicit /\ zab w 222 "rgb_to_hls" = some .globalImplicit := ⟨by kernel_rfl, by kernel_rfl⟩
theorem z0o (w : World) (args : List D) : (OC w).fn "rgb_to_hls" args = zaw w O0 [] 153 ps_hls args := by kernel_rfl
theorem zsi (w : World) (args : List D) : (OC w).fn "round" args = none := by kernel_rfl
theorem fin49 : (r49.all fun i => !Float64.isInf (qf i)) = true := by kernel_rfl
theorem z14 {X : Int} (h0 : 0 <= X) (h1 : X <= 48) : zit .Div (.int X) (.int 128) = some (.flt (qf X), .froz) := by
 have := List.all_eq_true.mp fin49 X (zfz h0 h1)
 simp only [Bool.not_eq_true'] at this
 show (if (128 : Int) ≠ 0 /\ ¬ Float64.isInf (znn X 128) = true then some (D.flt (znn X 128)) else none).map (·, Kd.froz) = _
 rw [if_pos ⟨by decide, by rw [show znn X 128 = qf X from rfl, this]; decide⟩]; rfl
structure Rnd (r : UInt64) (X : Int) : Prop where
 eq : zdk (Float64.mul (Float64.ofInt 2) r) = some (.int X, .froz)
 lo : 0 <= X
 hi : X <= 48
theorem zkv {w : World} {σ : List (Str × D)} {x : Str} {r : UInt64} {X : Int} {n : Nat} {p1 p3 p4 p5 p6 p8 p9 : Pos} {p2 p7 : Nat} (hx : zax x = true) (h : σ.lookup x = some (.flt r)) (R : Rnd r X) :
  zaa (OC w) (n + 5) ⟨zab w 222, σ, none⟩ (.BinOp (.Call (.Name "round" p1) [.BinOp (.Constant (.int 2) p2 p3) .Mult (.Name x p4) p5] [] p6) .Div (.Constant (.int 128) p7 p8) p9) = some (.flt (qf X), .froz) := by
 refine za3 (a := .int X) (k1 := .froz) (b := .int 128) (k2 := .froz) ?_ (za9 rfl) (z14 R.lo R.hi)
 refine zio (l := [(.flt (Float64.mul (Float64.ofInt 2) r), .froz)]) (z05 w).1 (by decide +kernel) (zaj (za3 (a := .int 2) (k1 := .froz) (b := .flt r) (k2 := .froz) (za9 rfl) (zal (za2 hx h)) ?_) zbc) (zsi w _) ?_
 ·kernel_rfl
 ·have : zis "round" [(.flt (Float64.mul (Float64.ofInt 2) r), .froz)] = zdk (Float64.mul (Float64.ofInt 2) r) := by kernel_rfl
  rw [this, R.eq]; rfl
theorem zz5 (w : World) : ∃ (pp : Nat -> Pos) (kk : Nat -> Nat), stm w 222 4 = .Return (some (.Call (.Name "rgb_to_hls" (pp 0)) [.BinOp (.Call (.Name "round" (pp 1)) [.BinOp (.Constant (.int 2) (kk 0) (pp 2)) .Mult (.Name "red" (pp 3)) (pp 4)] [] (pp 5)) .Div (.Constant (.int 128) (kk 1) (pp 6)) (pp 7), .BinOp (.Call (.Name "round" (pp 8)) [.BinOp (.Constant (.int 2) (kk 2) (pp 9)) .Mult (.Name "green" (pp 10)) (pp 11)] [] (pp 12)) .Div (.Constant (.int 128) (kk 3) (pp 13)) (pp 14), .BinOp (.Call (.Name "round" (pp 15)) [.BinOp (.Constant (.int 2) (kk 4) (pp 16)) .Mult (.Name "blue" (pp 17)) (pp 18)] [] (pp 19)) .Div (.Constant (.int 128) (kk 5) (pp 20)) (pp 21)] [] (pp 22))) (pp 23) :=
 ⟨fun i => [_, _, _, _, _, _, _, _, _, _, _, _, _, _, _, _, _, _, _, _, _, _, _, _].getD i default, fun i => [_, _, _, _, _, _].getD i 0, rfl⟩
inductive Shape (cd : D) (sz : List (Int × D)) (d t : Int) (acc : Acc) : Mine.St -> Prop
 | zero : Shape cd sz d t acc ⟨X0 cd sz d t acc, none⟩
 | one (p : Int × Int) : Shape cd sz d t acc ⟨X1 cd sz d t acc p, none⟩
 | two (p : Int × Int) (o : Acc) : Shape cd sz d t acc ⟨X2 cd sz d t acc p o, none⟩
section
variable {w : World} {cd : D} {sz : List (Int × D)} {d t : Int} {acc : Acc} {T : ConT}
theorem zlx {p : Int × Int} {σ : List (Str × D)} {l : List Int} {p1 p2 p3 p4 p5 : Pos} (h1 : σ.lookup ("d" : Str) = some (.int d)) (h2 : σ.lookup ("sizes" : Str) = some (.dic sz)) (h3 : σ.lookup ("m" : Str) = some (.int p.1)) (hsz : sz.lookup p.1 = some (.lst (l.map .int))) :
  zaa (OC w) 38 ⟨zab w 222, σ, none⟩ (.Compare (.Name "d" p1) [.In] [.Subscript (.Name "sizes" p2) (.Name "m" p3) p4] p5) = some (.bool (l.any (· == d)), .froz) := by
 refine zfj (a := .int d) (k1 := .froz) (b := .lst (l.map .int)) (k2 := .froz) (zal (za2 (by decide +kernel) h1)) (zfb (o := .dic sz) (i := .int p.1) (k1 := .froz) (k2 := .froz) rfl (zal (za2 (by decide +kernel) h2)) (zal (za2 (by decide +kernel) h3)) hsz) rfl ?_
 show (zdp (l.map .int)).map (fun ns => ns.any (· == d)) = _
 rw [zbo]; rfl
theorem zso (hok : ∀ p ∈ all27, Int.fmod p.1 d = 0 -> zg3 w T d t p) (hno : ∀ p ∈ all27, Int.fmod p.1 d ≠ 0 -> T.lookup p = none) (hdv : ∀ p ∈ all27, (zff p.1).any (· == d) = decide (Int.fmod p.1 d = 0))
  {p5 p6 : Pos} {k : Nat} {p8 : Pos} {p : Int × Int} (hp : p ∈ all27) (hsz : sz.lookup p.1 = some (.lst ((zff p.1).map .int))) {s : Mine.St} (hs : Shape cd sz d t acc s) :
  ∃ s', zg2 (zab w 222) (.Tuple [.Name "m" p5, .Name "a" p6] k p8) (zcc (zae (OC w) [] (zab w 222) 39) (zeb (stm w 222 3))) s (clD p) s' /\ Shape cd sz d t (zen T acc p) s' := by
 obtain ⟨pp, e⟩ := f222 w
 rw [e]
 have key : ∀ s1, (s1 = ⟨X1 cd sz d t acc p, none⟩ ∨ ∃ o, s1 = ⟨X2 cd sz d t acc p o, none⟩) -> ∃ s', zcc (zae (OC w) [] (zab w 222) 39) [.If (.Compare (.Name "d" (pp 0)) [.In] [.Subscript (.Name "sizes" (pp 1)) (.Name "m" (pp 2)) (pp 3)] (pp 4)) (zy3 w) [] (pp 5)] s1 = some (s', .next) /\ Shape cd sz d t (zen T acc p) s' := by
  intro s1 h1
  have ht : zaa (OC w) 38 ⟨zab w 222, s1.σ, s1.own⟩ (.Compare (.Name "d" (pp 0)) [.In] [.Subscript (.Name "sizes" (pp 1)) (.Name "m" (pp 2)) (pp 3)] (pp 4)) = some (.bool ((zff p.1).any (· == d)), .froz) := by
   rcases h1 with rfl | ⟨o, rfl⟩
   ·exact zlx rfl rfl rfl hsz
   ·exact zlx rfl rfl rfl hsz
  rw [hdv p hp] at ht
  by_cases hd : Int.fmod p.1 d = 0
  ·rw [decide_eq_true hd] at ht
   rcases h1 with rfl | ⟨o, rfl⟩
   ·obtain ⟨a1, a2, a3⟩ := hok p hp hd cd sz acc acc
    exact ⟨_, zap (zn2 ht rfl a2) zce, .two _ _⟩
   ·obtain ⟨a1, a2, a3⟩ := hok p hp hd cd sz acc o
    exact ⟨_, zap (zn2 ht rfl a3) zce, .two _ _⟩
  ·rw [decide_eq_false hd] at ht
   have em : zen T acc p = acc := by unfold zen; rw [hno p hp hd]
   rw [em]
   rcases h1 with rfl | ⟨o, rfl⟩
   ·exact ⟨_, zap (zn3 ht rfl zce) zce, .one _⟩
   ·exact ⟨_, zap (zn3 ht rfl zce) zce, .two _ _⟩
 cases hs with
 | zero =>
  obtain ⟨s', e1, e2⟩ := key _ (.inl rfl)
  exact ⟨s', ⟨X1 cd sz d t acc p, by kernel_rfl, e1⟩, e2⟩
 | one p0 =>
  obtain ⟨s', e1, e2⟩ := key _ (.inl rfl)
  exact ⟨s', ⟨X1 cd sz d t acc p, by kernel_rfl, e1⟩, e2⟩
 | two p0 o =>
  obtain ⟨s', e1, e2⟩ := key _ (.inr ⟨o, rfl⟩)
  exact ⟨s', ⟨X2 cd sz d t acc p o, by kernel_rfl, e1⟩, e2⟩
theorem zva (hok : ∀ p ∈ all27, Int.fmod p.1 d = 0 -> zg3 w T d t p) (hno : ∀ p ∈ all27, Int.fmod p.1 d ≠ 0 -> T.lookup p = none) (hdv : ∀ p ∈ all27, (zff p.1).any (· == d) = decide (Int.fmod p.1 d = 0))
  {c : List (Int × Int)} (hv : ∀ p ∈ c, p ∈ all27) (hsz : ∀ p ∈ c, sz.lookup p.1 = some (.lst ((zff p.1).map .int))) {X Y Z : Int} (hX : Rnd (c.foldl (zen T) (0, 0, 0)).1 X) (hY : Rnd (c.foldl (zen T) (0, 0, 0)).2.1 Y) (hZ : Rnd (c.foldl (zen T) (0, 0, 0)).2.2 Z) :
  ∃ h l s, zaw w (OC w) [] 222 ps_mix [zbm c, .dic sz, .int d, .int t] = some (.tup [.flt h, .flt l, .flt s]) /\ (Float64.cmp s 0 == some Ordering.eq) = decide (X = Y /\ Y = Z) := by
 obtain ⟨pp, kk, e⟩ := b222 w
 obtain ⟨pp2, kk2, e4⟩ := zz5 w
 obtain ⟨h, l, s, hc, hg⟩ := z1a w hX.lo hX.hi hY.lo hY.hi hZ.lo hZ.hi
 refine ⟨h, l, s, za5 rfl ?_, hg⟩
 rw [e, e4]
 obtain ⟨s', hq, _, acc', hs', hf⟩ := zh0 (kf := zab w 222) (t := .Tuple [.Name "m" (pp 0), .Name "a" (pp 1)] (kk 0) (pp 2)) (body := zcc (zae (OC w) [] (zab w 222) 39) (zeb (stm w 222 3)))
  (Inv := fun rest s => (∀ p ∈ rest, sz.lookup p.1 = some (.lst ((zff p.1).map .int))) /\ ∃ acc, Shape (zbm c) sz d t acc s /\ rest.foldl (zen T) acc = c.foldl (zen T) (0, 0, 0)) (fun p r s hp ⟨h1, acc, h2, h3⟩ => by
   obtain ⟨s', a, b⟩ := zso hok hno hdv hp (h1 p (.head _)) h2 (p5 := (pp 0)) (p6 := (pp 1)) (k := (kk 0)) (p8 := (pp 2))
   exact ⟨s', a, fun p hp => h1 p (.tail _ hp), _, b, h3⟩) c ⟨X0 (zbm c) sz d t (0, 0, 0), none⟩ hv ⟨hsz, _, .zero, rfl⟩
 refine zah (c' := ⟨[("classes", zbm c), ("sizes", .dic sz), ("d", .int d), ("times", .int t), ("red", .flt 0)], none⟩) (by kernel_rfl) (by kernel_rfl) ?_
 refine zah (c' := ⟨[("classes", zbm c), ("sizes", .dic sz), ("d", .int d), ("times", .int t), ("red", .flt 0), ("green", .flt 0)], none⟩) (by kernel_rfl) (by kernel_rfl) ?_
 refine zah (c' := ⟨X0 (zbm c) sz d t (0, 0, 0), none⟩) (by kernel_rfl) (by kernel_rfl) ?_
 refine zah (zin (ds := c.map clD) (zrs (d := zbm c) (k := .froz) (by kernel_rfl) (by decide) rfl) hq) rfl ?_
 have hf' : acc' = c.foldl (zen T) (0, 0, 0) := hf
 subst hf'
 obtain ⟨l1, l2, l3, l4⟩ : s'.own = none /\ s'.σ.lookup ("red" : Str) = some (.flt (c.foldl (zen T) (0, 0, 0)).1) /\ s'.σ.lookup ("green" : Str) = some (.flt (c.foldl (zen T) (0, 0, 0)).2.1) /\ s'.σ.lookup ("blue" : Str) = some (.flt (c.foldl (zen T) (0, 0, 0)).2.2) := by
  cases hs' <;> exact ⟨rfl, rfl, rfl, rfl⟩
 obtain ⟨σ', own'⟩ := s'
 dsimp only at l1 l2 l3 l4
 subst l1
 refine zg4 (k := .froz) (zmo (l := [(.flt (qf X), .froz), (.flt (qf Y), .froz), (.flt (qf Z), .froz)]) (z05 w).2 (by decide +kernel) ?_ ((z0o w _).trans hc) (.inl rfl))
 exact zaj (zkv (n := 34) (by decide +kernel) l2 hX) (zaj (zkv (n := 34) (by decide +kernel) l3 hY) (zaj (zkv (n := 34) (by decide +kernel) l4 hZ) zbc))
end
end
noncomputable abbrev LevT := List (List Nat)
noncomputable abbrev B64 : Nat := 18446744073709551616
noncomputable def zsu : LevT := [[0], [0, 23049422892882198536, 23049422892882198542, 41500670566219120608, 41500670566219120638, 41500670566219120640], [0, 23049422892882198536, 23049422892882198542, 41500670566219120608, 41500670566219120638, 41500670566219120640, 41500670566219120648, 41500670566219120651, 41500670566219120654, 59949666439742357492, 59949666439742357495, 59949666439742357507, 59949666439742357508, 59949666439742357510, 59949666439742357511, 78398662313265594336, 78398662313265594351, 78398662313265594352, 78398662313265594366, 78398662313265594367, 78398662313265594368], [0, 23049422892882198536, 23049422892882198542, 41500670566219120608, 41500670566219120638, 41500670566219120640, 41500670566219120648, 41500670566219120651, 41500670566219120654, 59949666439742357492, 59949666439742357495, 59949666439742357507, 59949666439742357508, 59949666439742357510, 59949666439742357511, 59949666439742357516, 59949666439742357519, 59949666439742357522, 59949666439742357525, 78398662313265594336, 78398662313265594351, 78398662313265594352, 78398662313265594360, 78398662313265594363, 78398662313265594366, 78398662313265594367, 78398662313265594368, 78398662313265594372, 78398662313265594373, 78398662313265594374, 78398662313265594375, 96846532286881988594, 96846532286881988596, 96846532286881988602, 96846532286881988603, 96846532286881988604, 96846532286881988609, 96846532286881988610, 96846532286881988611, 96846532286881988612, 115294402260498382824, 115294402260498382832, 115294402260498382839, 115294402260498382840, 115294402260498382846, 115294402260498382847, 115294402260498382848], [0, 23049422892882198536, 23049422892882198542, 41500670566219120608, 41500670566219120638, 41500670566219120640, 41500670566219120648, 41500670566219120651, 41500670566219120654, 59949666439742357492, 59949666439742357495, 59949666439742357507, 59949666439742357508, 59949666439742357510, 59949666439742357511, 59949666439742357516, 59949666439742357519, 59949666439742357522, 59949666439742357525, 78398662313265594336, 78398662313265594351, 78398662313265594352, 78398662313265594360, 78398662313265594363, 78398662313265594366, 78398662313265594367, 78398662313265594368, 78398662313265594372, 78398662313265594373, 78398662313265594374, 78398662313265594375, 78398662313265594376, 78398662313265594378, 78398662313265594379, 78398662313265594380, 78398662313265594382, 96846532286881988594, 96846532286881988596, 96846532286881988602, 96846532286881988603, 96846532286881988604, 96846532286881988606, 96846532286881988608, 96846532286881988609, 96846532286881988610, 96846532286881988611, 96846532286881988612, 96846532286881988614, 96846532286881988615, 96846532286881988616, 96846532286881988617, 96846532286881988618, 115294402260498382824, 115294402260498382832, 115294402260498382836, 115294402260498382838, 115294402260498382839, 115294402260498382840, 115294402260498382844, 115294402260498382845, 115294402260498382846, 115294402260498382847, 115294402260498382848, 115294402260498382851, 115294402260498382852, 115294402260498382853, 115294402260498382854, 115294402260498382855, 115294402260498382856, 133742272234114777066, 133742272234114777068, 133742272234114777074, 133742272234114777075, 133742272234114777076, 133742272234114777081, 133742272234114777082, 133742272234114777083, 133742272234114777084, 133742272234114777088, 133742272234114777089, 133742272234114777090, 133742272234114777091, 133742272234114777092, 152190142207731171296, 152190142207731171304, 152190142207731171311, 152190142207731171312, 152190142207731171318, 152190142207731171319, 152190142207731171320, 152190142207731171326, 152190142207731171327, 152190142207731171328], [0, 23049422892882198536, 23049422892882198542, 41500670566219120608, 41500670566219120638, 41500670566219120640, 41500670566219120648, 41500670566219120651, 41500670566219120654, 59949666439742357492, 59949666439742357495, 59949666439742357507, 59949666439742357508, 59949666439742357510, 59949666439742357511, 59949666439742357516, 59949666439742357519, 59949666439742357522, 59949666439742357525, 78398662313265594336, 78398662313265594351, 78398662313265594352, 78398662313265594360, 78398662313265594363, 78398662313265594366, 78398662313265594367, 78398662313265594368, 78398662313265594372, 78398662313265594373, 78398662313265594374, 78398662313265594375, 78398662313265594376, 78398662313265594378, 78398662313265594379, 78398662313265594380, 78398662313265594382, 96846532286881988594, 96846532286881988596, 96846532286881988602, 96846532286881988603, 96846532286881988604, 96846532286881988606, 96846532286881988608, 96846532286881988609, 96846532286881988610, 96846532286881988611, 96846532286881988612, 96846532286881988614, 96846532286881988615, 96846532286881988616, 96846532286881988617, 96846532286881988618, 96846532286881988620, 96846532286881988621, 96846532286881988622, 96846532286881988624, 96846532286881988626, 115294402260498382824, 115294402260498382832, 115294402260498382836, 115294402260498382838, 115294402260498382839, 115294402260498382840, 115294402260498382844, 115294402260498382845, 115294402260498382846, 115294402260498382847, 115294402260498382848, 115294402260498382850, 115294402260498382851, 115294402260498382852, 115294402260498382853, 115294402260498382854, 115294402260498382855, 115294402260498382856, 115294402260498382857, 115294402260498382858, 115294402260498382859, 115294402260498382860, 115294402260498382862, 133742272234114777066, 133742272234114777068, 133742272234114777074, 133742272234114777075, 133742272234114777076, 133742272234114777078, 133742272234114777080, 133742272234114777081, 133742272234114777082, 133742272234114777083, 133742272234114777084, 133742272234114777086, 133742272234114777087, 133742272234114777088, 133742272234114777089, 133742272234114777090, 133742272234114777091, 133742272234114777092, 133742272234114777093, 133742272234114777094, 133742272234114777095, 133742272234114777096, 133742272234114777097, 133742272234114777098, 133742272234114777100, 152190142207731171296, 152190142207731171304, 152190142207731171308, 152190142207731171310, 152190142207731171311, 152190142207731171312, 152190142207731171316, 152190142207731171317, 152190142207731171318, 152190142207731171319, 152190142207731171320, 152190142207731171323, 152190142207731171324, 152190142207731171325, 152190142207731171326, 152190142207731171327, 152190142207731171328, 152190142207731171329, 152190142207731171330, 152190142207731171331, 152190142207731171332, 170637449231394144241, 170637449231394144242, 170637449231394144245, 170637449231394144246, 170637449231394144248, 170637449231394144249, 170637449231394144250, 170637449231394144252, 170637449231394144253, 170637449231394144254, 170637449231394144256, 170637449231394144257, 170637449231394144258, 189084756255057117164, 189084756255057117168, 189084756255057117172, 189084756255057117175, 189084756255057117176, 189084756255057117179, 189084756255057117180, 189084756255057117183, 189084756255057117184], [0, 23049422892882198536, 23049422892882198542, 41500670566219120608, 41500670566219120638, 41500670566219120640, 41500670566219120648, 41500670566219120651, 41500670566219120654, 59949666439742357492, 59949666439742357495, 59949666439742357507, 59949666439742357508, 59949666439742357510, 59949666439742357511, 59949666439742357516, 59949666439742357519, 59949666439742357522, 59949666439742357525, 78398662313265594336, 78398662313265594351, 78398662313265594352, 78398662313265594360, 78398662313265594363, 78398662313265594366, 78398662313265594367, 78398662313265594368, 78398662313265594372, 78398662313265594373, 78398662313265594374, 78398662313265594375, 78398662313265594376, 78398662313265594378, 78398662313265594379, 78398662313265594380, 78398662313265594382, 96846532286881988594, 96846532286881988596, 96846532286881988602, 96846532286881988603, 96846532286881988604, 96846532286881988606, 96846532286881988608, 96846532286881988609, 96846532286881988610, 96846532286881988611, 96846532286881988612, 96846532286881988614, 96846532286881988615, 96846532286881988616, 96846532286881988617, 96846532286881988618, 96846532286881988620, 96846532286881988621, 96846532286881988622, 96846532286881988624, 96846532286881988626, 115294402260498382824, 115294402260498382832, 115294402260498382836, 115294402260498382838, 115294402260498382839, 115294402260498382840, 115294402260498382844, 115294402260498382845, 115294402260498382846, 115294402260498382847, 115294402260498382848, 115294402260498382850, 115294402260498382851, 115294402260498382852, 115294402260498382853, 115294402260498382854, 115294402260498382855, 115294402260498382856, 115294402260498382857, 115294402260498382858, 115294402260498382859, 115294402260498382860, 115294402260498382862, 115294402260498382863, 115294402260498382864, 115294402260498382866, 115294402260498382868, 115294402260498382870, 133742272234114777066, 133742272234114777068, 133742272234114777074, 133742272234114777075, 133742272234114777076, 133742272234114777078, 133742272234114777080, 133742272234114777081, 133742272234114777082, 133742272234114777083, 133742272234114777084, 133742272234114777086, 133742272234114777087, 133742272234114777088, 133742272234114777089, 133742272234114777090, 133742272234114777091, 133742272234114777092, 133742272234114777093, 133742272234114777094, 133742272234114777095, 133742272234114777096, 133742272234114777097, 133742272234114777098, 133742272234114777099, 133742272234114777100, 133742272234114777101, 133742272234114777102, 133742272234114777104, 133742272234114777106, 152190142207731171296, 152190142207731171304, 152190142207731171308, 152190142207731171310, 152190142207731171311, 152190142207731171312, 152190142207731171316, 152190142207731171317, 152190142207731171318, 152190142207731171319, 152190142207731171320, 152190142207731171322, 152190142207731171323, 152190142207731171324, 152190142207731171325, 152190142207731171326, 152190142207731171327, 152190142207731171328, 152190142207731171329, 152190142207731171330, 152190142207731171331, 152190142207731171332, 152190142207731171333, 152190142207731171334, 152190142207731171335, 152190142207731171336, 170637449231394144241, 170637449231394144242, 170637449231394144245, 170637449231394144246, 170637449231394144247, 170637449231394144248, 170637449231394144249, 170637449231394144250, 170637449231394144251, 170637449231394144252, 170637449231394144253, 170637449231394144254, 170637449231394144255, 170637449231394144256, 170637449231394144257, 170637449231394144258, 170637449231394144259, 170637449231394144260, 170637449231394144261, 170637449231394144262, 189084756255057117164, 189084756255057117168, 189084756255057117170, 189084756255057117171, 189084756255057117172, 189084756255057117174, 189084756255057117175, 189084756255057117176, 189084756255057117177, 189084756255057117178, 189084756255057117179, 189084756255057117180, 189084756255057117181, 189084756255057117182, 189084756255057117183, 189084756255057117184, 189084756255057117185, 189084756255057117186, 189084756255057117187, 189084756255057117188, 207532063278720090093, 207532063278720090094, 207532063278720090097, 207532063278720090098, 207532063278720090100, 207532063278720090101, 207532063278720090102, 207532063278720090104, 207532063278720090105, 207532063278720090106, 207532063278720090108, 207532063278720090109, 207532063278720090110, 207532063278720090112, 207532063278720090113, 207532063278720090114, 225979370302383063016, 225979370302383063020, 225979370302383063024, 225979370302383063027, 225979370302383063028, 225979370302383063031, 225979370302383063032, 225979370302383063035, 225979370302383063036, 225979370302383063039, 225979370302383063040]]
noncomputable def cs7r : List (UInt64 × Nat) := [(0, 0), (4602678819172646920, 1), (4602678819172646926, 1), (4607182418800017376, 2), (4607182418800017406, 2), (4607182418800017408, 2)]
noncomputable def zsv : LevT := [[0], [0, 23049422892882198496, 23049422892882198520, 41500670566219120638, 41500670566219120640], [0, 23049422892882198496, 23049422892882198520, 41500670566219120608, 41500670566219120620, 41500670566219120632, 41500670566219120638, 41500670566219120640, 59949666439742357495, 59949666439742357496, 59949666439742357501, 59949666439742357502, 78398662313265594366, 78398662313265594367, 78398662313265594368], [0, 23049422892882198496, 23049422892882198520, 41500670566219120608, 41500670566219120620, 41500670566219120632, 41500670566219120638, 41500670566219120640, 59949666439742357480, 59949666439742357486, 59949666439742357492, 59949666439742357495, 59949666439742357496, 59949666439742357498, 59949666439742357501, 59949666439742357502, 78398662313265594351, 78398662313265594352, 78398662313265594357, 78398662313265594358, 78398662313265594363, 78398662313265594364, 78398662313265594366, 78398662313265594367, 78398662313265594368, 96846532286881988603, 96846532286881988604, 96846532286881988606, 96846532286881988607, 115294402260498382846, 115294402260498382847, 115294402260498382848], [0, 23049422892882198496, 23049422892882198520, 41500670566219120608, 41500670566219120620, 41500670566219120632, 41500670566219120638, 41500670566219120640, 59949666439742357480, 59949666439742357486, 59949666439742357492, 59949666439742357495, 59949666439742357496, 59949666439742357498, 59949666439742357501, 59949666439742357502, 78398662313265594336, 78398662313265594342, 78398662313265594348, 78398662313265594351, 78398662313265594352, 78398662313265594354, 78398662313265594357, 78398662313265594358, 78398662313265594360, 78398662313265594363, 78398662313265594364, 78398662313265594366, 78398662313265594367, 78398662313265594368, 96846532286881988596, 96846532286881988598, 96846532286881988599, 96846532286881988602, 96846532286881988603, 96846532286881988604, 96846532286881988605, 96846532286881988606, 96846532286881988607, 115294402260498382839, 115294402260498382840, 115294402260498382842, 115294402260498382843, 115294402260498382845, 115294402260498382846, 115294402260498382847, 115294402260498382848, 133742272234114777082, 133742272234114777083, 133742272234114777084, 133742272234114777085, 133742272234114777086, 133742272234114777087, 152190142207731171326, 152190142207731171327, 152190142207731171328], [0, 23049422892882198496, 23049422892882198520, 41500670566219120608, 41500670566219120620, 41500670566219120632, 41500670566219120638, 41500670566219120640, 59949666439742357480, 59949666439742357486, 59949666439742357492, 59949666439742357495, 59949666439742357496, 59949666439742357498, 59949666439742357501, 59949666439742357502, 78398662313265594336, 78398662313265594342, 78398662313265594348, 78398662313265594351, 78398662313265594352, 78398662313265594354, 78398662313265594357, 78398662313265594358, 78398662313265594360, 78398662313265594363, 78398662313265594364, 78398662313265594366, 78398662313265594367, 78398662313265594368, 96846532286881988588, 96846532286881988591, 96846532286881988594, 96846532286881988596, 96846532286881988597, 96846532286881988598, 96846532286881988599, 96846532286881988600, 96846532286881988602, 96846532286881988603, 96846532286881988604, 96846532286881988605, 96846532286881988606, 96846532286881988607, 115294402260498382832, 115294402260498382834, 115294402260498382835, 115294402260498382837, 115294402260498382838, 115294402260498382839, 115294402260498382840, 115294402260498382841, 115294402260498382842, 115294402260498382843, 115294402260498382844, 115294402260498382845, 115294402260498382846, 115294402260498382847, 115294402260498382848, 133742272234114777075, 133742272234114777076, 133742272234114777078, 133742272234114777079, 133742272234114777081, 133742272234114777082, 133742272234114777083, 133742272234114777084, 133742272234114777085, 133742272234114777086, 133742272234114777087, 152190142207731171318, 152190142207731171319, 152190142207731171320, 152190142207731171321, 152190142207731171322, 152190142207731171323, 152190142207731171324, 152190142207731171325, 152190142207731171326, 152190142207731171327, 152190142207731171328, 170637449231394144253, 170637449231394144254, 170637449231394144255, 170637449231394144256, 189084756255057117183, 189084756255057117184], [0, 23049422892882198496, 23049422892882198520, 41500670566219120608, 41500670566219120620, 41500670566219120632, 41500670566219120638, 41500670566219120640, 59949666439742357480, 59949666439742357486, 59949666439742357492, 59949666439742357495, 59949666439742357496, 59949666439742357498, 59949666439742357501, 59949666439742357502, 78398662313265594336, 78398662313265594342, 78398662313265594348, 78398662313265594351, 78398662313265594352, 78398662313265594354, 78398662313265594357, 78398662313265594358, 78398662313265594360, 78398662313265594363, 78398662313265594364, 78398662313265594366, 78398662313265594367, 78398662313265594368, 96846532286881988588, 96846532286881988591, 96846532286881988594, 96846532286881988596, 96846532286881988597, 96846532286881988598, 96846532286881988599, 96846532286881988600, 96846532286881988602, 96846532286881988603, 96846532286881988604, 96846532286881988605, 96846532286881988606, 96846532286881988607, 115294402260498382824, 115294402260498382827, 115294402260498382830, 115294402260498382832, 115294402260498382833, 115294402260498382834, 115294402260498382835, 115294402260498382836, 115294402260498382837, 115294402260498382838, 115294402260498382839, 115294402260498382840, 115294402260498382841, 115294402260498382842, 115294402260498382843, 115294402260498382844, 115294402260498382845, 115294402260498382846, 115294402260498382847, 115294402260498382848, 133742272234114777068, 133742272234114777070, 133742272234114777071, 133742272234114777073, 133742272234114777074, 133742272234114777075, 133742272234114777076, 133742272234114777077, 133742272234114777078, 133742272234114777079, 133742272234114777080, 133742272234114777081, 133742272234114777082, 133742272234114777083, 133742272234114777084, 133742272234114777085, 133742272234114777086, 133742272234114777087, 152190142207731171311, 152190142207731171312, 152190142207731171314, 152190142207731171315, 152190142207731171316, 152190142207731171317, 152190142207731171318, 152190142207731171319, 152190142207731171320, 152190142207731171321, 152190142207731171322, 152190142207731171323, 152190142207731171324, 152190142207731171325, 152190142207731171326, 152190142207731171327, 152190142207731171328, 170637449231394144249, 170637449231394144250, 170637449231394144251, 170637449231394144252, 170637449231394144253, 170637449231394144254, 170637449231394144255, 170637449231394144256, 189084756255057117179, 189084756255057117180, 189084756255057117181, 189084756255057117182, 189084756255057117183, 189084756255057117184, 207532063278720090109, 207532063278720090110, 207532063278720090111, 207532063278720090112, 225979370302383063039, 225979370302383063040]]
noncomputable def cs7g : List (UInt64 × Nat) := [(0, 0), (4602678819172646880, 1), (4602678819172646904, 1), (4607182418800017406, 2), (4607182418800017408, 2)]
noncomputable def zsw : LevT := [[0], [0, 23049422892882198542, 23049422892882198560, 41500670566219120632, 41500670566219120638, 41500670566219120640], [0, 23049422892882198542, 23049422892882198560, 41500670566219120632, 41500670566219120638, 41500670566219120640, 41500670566219120654, 41500670566219120663, 41500670566219120672, 59949666439742357507, 59949666439742357510, 59949666439742357511, 59949666439742357516, 59949666439742357519, 59949666439742357520, 78398662313265594360, 78398662313265594363, 78398662313265594364, 78398662313265594366, 78398662313265594367, 78398662313265594368], [0, 23049422892882198542, 23049422892882198560, 41500670566219120632, 41500670566219120638, 41500670566219120640, 41500670566219120654, 41500670566219120663, 41500670566219120672, 59949666439742357507, 59949666439742357510, 59949666439742357511, 59949666439742357516, 59949666439742357519, 59949666439742357520, 59949666439742357525, 59949666439742357534, 59949666439742357543, 59949666439742357552, 78398662313265594360, 78398662313265594363, 78398662313265594364, 78398662313265594366, 78398662313265594367, 78398662313265594368, 78398662313265594373, 78398662313265594374, 78398662313265594375, 78398662313265594378, 78398662313265594379, 78398662313265594380, 78398662313265594382, 78398662313265594384, 96846532286881988608, 96846532286881988609, 96846532286881988610, 96846532286881988611, 96846532286881988612, 96846532286881988614, 96846532286881988615, 96846532286881988616, 115294402260498382842, 115294402260498382844, 115294402260498382845, 115294402260498382846, 115294402260498382847, 115294402260498382848], [0, 23049422892882198542, 23049422892882198560, 41500670566219120632, 41500670566219120638, 41500670566219120640, 41500670566219120654, 41500670566219120663, 41500670566219120672, 59949666439742357507, 59949666439742357510, 59949666439742357511, 59949666439742357516, 59949666439742357519, 59949666439742357520, 59949666439742357525, 59949666439742357534, 59949666439742357543, 59949666439742357552, 78398662313265594360, 78398662313265594363, 78398662313265594364, 78398662313265594366, 78398662313265594367, 78398662313265594368, 78398662313265594373, 78398662313265594374, 78398662313265594375, 78398662313265594378, 78398662313265594379, 78398662313265594380, 78398662313265594382, 78398662313265594384, 78398662313265594386, 78398662313265594391, 78398662313265594396, 78398662313265594400, 96846532286881988608, 96846532286881988609, 96846532286881988610, 96846532286881988611, 96846532286881988612, 96846532286881988614, 96846532286881988615, 96846532286881988616, 96846532286881988618, 96846532286881988621, 96846532286881988622, 96846532286881988623, 96846532286881988624, 96846532286881988626, 96846532286881988627, 96846532286881988628, 96846532286881988630, 96846532286881988632, 115294402260498382842, 115294402260498382844, 115294402260498382845, 115294402260498382846, 115294402260498382847, 115294402260498382848, 115294402260498382851, 115294402260498382852, 115294402260498382853, 115294402260498382854, 115294402260498382855, 115294402260498382856, 115294402260498382857, 115294402260498382858, 115294402260498382859, 115294402260498382860, 115294402260498382862, 115294402260498382863, 115294402260498382864, 133742272234114777086, 133742272234114777087, 133742272234114777088, 133742272234114777089, 133742272234114777090, 133742272234114777091, 133742272234114777092, 133742272234114777093, 133742272234114777094, 133742272234114777095, 133742272234114777096, 152190142207731171320, 152190142207731171322, 152190142207731171323, 152190142207731171324, 152190142207731171325, 152190142207731171326, 152190142207731171327, 152190142207731171328], [0, 23049422892882198542, 23049422892882198560, 41500670566219120632, 41500670566219120638, 41500670566219120640, 41500670566219120654, 41500670566219120663, 41500670566219120672, 59949666439742357507, 59949666439742357510, 59949666439742357511, 59949666439742357516, 59949666439742357519, 59949666439742357520, 59949666439742357525, 59949666439742357534, 59949666439742357543, 59949666439742357552, 78398662313265594360, 78398662313265594363, 78398662313265594364, 78398662313265594366, 78398662313265594367, 78398662313265594368, 78398662313265594373, 78398662313265594374, 78398662313265594375, 78398662313265594378, 78398662313265594379, 78398662313265594380, 78398662313265594382, 78398662313265594384, 78398662313265594386, 78398662313265594391, 78398662313265594396, 78398662313265594400, 96846532286881988608, 96846532286881988609, 96846532286881988610, 96846532286881988611, 96846532286881988612, 96846532286881988614, 96846532286881988615, 96846532286881988616, 96846532286881988618, 96846532286881988621, 96846532286881988622, 96846532286881988623, 96846532286881988624, 96846532286881988626, 96846532286881988627, 96846532286881988628, 96846532286881988630, 96846532286881988632, 96846532286881988634, 96846532286881988639, 96846532286881988640, 96846532286881988644, 96846532286881988648, 115294402260498382842, 115294402260498382844, 115294402260498382845, 115294402260498382846, 115294402260498382847, 115294402260498382848, 115294402260498382851, 115294402260498382852, 115294402260498382853, 115294402260498382854, 115294402260498382855, 115294402260498382856, 115294402260498382857, 115294402260498382858, 115294402260498382859, 115294402260498382860, 115294402260498382862, 115294402260498382863, 115294402260498382864, 115294402260498382866, 115294402260498382868, 115294402260498382869, 115294402260498382870, 115294402260498382871, 115294402260498382872, 115294402260498382874, 115294402260498382875, 115294402260498382876, 115294402260498382878, 115294402260498382880, 133742272234114777086, 133742272234114777087, 133742272234114777088, 133742272234114777089, 133742272234114777090, 133742272234114777091, 133742272234114777092, 133742272234114777093, 133742272234114777094, 133742272234114777095, 133742272234114777096, 133742272234114777098, 133742272234114777099, 133742272234114777100, 133742272234114777101, 133742272234114777102, 133742272234114777103, 133742272234114777104, 133742272234114777105, 133742272234114777106, 133742272234114777107, 133742272234114777108, 133742272234114777110, 133742272234114777111, 133742272234114777112, 152190142207731171320, 152190142207731171322, 152190142207731171323, 152190142207731171324, 152190142207731171325, 152190142207731171326, 152190142207731171327, 152190142207731171328, 152190142207731171329, 152190142207731171330, 152190142207731171331, 152190142207731171332, 152190142207731171333, 152190142207731171334, 152190142207731171335, 152190142207731171336, 170637449231394144254, 170637449231394144255, 170637449231394144256, 170637449231394144257, 170637449231394144258, 170637449231394144259, 170637449231394144260, 189084756255057117179, 189084756255057117180, 189084756255057117181, 189084756255057117182, 189084756255057117183, 189084756255057117184], [0, 23049422892882198542, 23049422892882198560, 41500670566219120632, 41500670566219120638, 41500670566219120640, 41500670566219120654, 41500670566219120663, 41500670566219120672, 59949666439742357507, 59949666439742357510, 59949666439742357511, 59949666439742357516, 59949666439742357519, 59949666439742357520, 59949666439742357525, 59949666439742357534, 59949666439742357543, 59949666439742357552, 78398662313265594360, 78398662313265594363, 78398662313265594364, 78398662313265594366, 78398662313265594367, 78398662313265594368, 78398662313265594373, 78398662313265594374, 78398662313265594375, 78398662313265594378, 78398662313265594379, 78398662313265594380, 78398662313265594382, 78398662313265594384, 78398662313265594386, 78398662313265594391, 78398662313265594396, 78398662313265594400, 96846532286881988608, 96846532286881988609, 96846532286881988610, 96846532286881988611, 96846532286881988612, 96846532286881988614, 96846532286881988615, 96846532286881988616, 96846532286881988618, 96846532286881988621, 96846532286881988622, 96846532286881988623, 96846532286881988624, 96846532286881988626, 96846532286881988627, 96846532286881988628, 96846532286881988630, 96846532286881988632, 96846532286881988634, 96846532286881988639, 96846532286881988640, 96846532286881988644, 96846532286881988648, 115294402260498382842, 115294402260498382844, 115294402260498382845, 115294402260498382846, 115294402260498382847, 115294402260498382848, 115294402260498382851, 115294402260498382852, 115294402260498382853, 115294402260498382854, 115294402260498382855, 115294402260498382856, 115294402260498382857, 115294402260498382858, 115294402260498382859, 115294402260498382860, 115294402260498382862, 115294402260498382863, 115294402260498382864, 115294402260498382866, 115294402260498382868, 115294402260498382869, 115294402260498382870, 115294402260498382871, 115294402260498382872, 115294402260498382874, 115294402260498382875, 115294402260498382876, 115294402260498382878, 115294402260498382880, 115294402260498382882, 115294402260498382884, 115294402260498382887, 115294402260498382888, 115294402260498382892, 115294402260498382896, 133742272234114777086, 133742272234114777087, 133742272234114777088, 133742272234114777089, 133742272234114777090, 133742272234114777091, 133742272234114777092, 133742272234114777093, 133742272234114777094, 133742272234114777095, 133742272234114777096, 133742272234114777098, 133742272234114777099, 133742272234114777100, 133742272234114777101, 133742272234114777102, 133742272234114777103, 133742272234114777104, 133742272234114777105, 133742272234114777106, 133742272234114777107, 133742272234114777108, 133742272234114777110, 133742272234114777111, 133742272234114777112, 133742272234114777114, 133742272234114777116, 133742272234114777117, 133742272234114777118, 133742272234114777119, 133742272234114777120, 133742272234114777122, 133742272234114777123, 133742272234114777124, 133742272234114777126, 133742272234114777128, 152190142207731171320, 152190142207731171322, 152190142207731171323, 152190142207731171324, 152190142207731171325, 152190142207731171326, 152190142207731171327, 152190142207731171328, 152190142207731171329, 152190142207731171330, 152190142207731171331, 152190142207731171332, 152190142207731171333, 152190142207731171334, 152190142207731171335, 152190142207731171336, 152190142207731171337, 152190142207731171338, 152190142207731171339, 152190142207731171340, 152190142207731171341, 152190142207731171342, 152190142207731171343, 152190142207731171344, 170637449231394144254, 170637449231394144255, 170637449231394144256, 170637449231394144257, 170637449231394144258, 170637449231394144259, 170637449231394144260, 170637449231394144261, 170637449231394144262, 170637449231394144263, 170637449231394144264, 170637449231394144265, 170637449231394144266, 170637449231394144267, 170637449231394144268, 189084756255057117179, 189084756255057117180, 189084756255057117181, 189084756255057117182, 189084756255057117183, 189084756255057117184, 189084756255057117185, 189084756255057117186, 189084756255057117187, 189084756255057117188, 189084756255057117189, 189084756255057117190, 189084756255057117191, 189084756255057117192, 207532063278720090109, 207532063278720090110, 207532063278720090111, 207532063278720090112, 207532063278720090113, 207532063278720090114, 207532063278720090115, 207532063278720090116, 225979370302383063034, 225979370302383063035, 225979370302383063036, 225979370302383063037, 225979370302383063038, 225979370302383063039, 225979370302383063040]]
noncomputable def cs7b : List (UInt64 × Nat) := [(0, 0), (4602678819172646926, 1), (4602678819172646944, 1), (4607182418800017400, 2), (4607182418800017406, 2), (4607182418800017408, 2)]
noncomputable def zvf (x : Nat) (f : Nat -> Bool) : Bool := @Nat.rec (fun _ => Bool) (f 0) (fun k _ => f (k + 1)) x
theorem zql (x : Nat) (f : Nat -> Bool) : zvf x f = f x := by cases x <;> rfl
noncomputable def zu9 (l : List Nat) (e : Nat) (c : UInt64 × Nat) : Bool := zvf ((Float64.add (UInt64.ofNat (e % B64)) c.1).toNat + B64 * (e / B64 + c.2)) fun z => l.any (Nat.beq z)
noncomputable def zih (L : LevT) (cs : List (UInt64 × Nat)) : Bool := (List.range 6).all fun n => (L.getD n []).all fun e => cs.all (zu9 (L.getD (n + 1) []) e)
noncomputable def zs7 (r : UInt64) (x : Int) : Bool := match Float64.decode (Float64.mul (Float64.ofInt 2) r) with
 | .fin sg m e => Float64.nearestOf sg m e == x
 | _ => false
noncomputable def rnd7 (L : LevT) : Bool := (List.range 7).all fun n => (L.getD n []).all fun e => zs7 (UInt64.ofNat (e % B64)) ((e / B64 : Nat) : Int) && Nat.blt (e / B64) 49
theorem cl7r : zih zsu cs7r = true := by kernel_rfl
theorem cl7g : zih zsv cs7g = true := by kernel_rfl
theorem cl7b : zih zsw cs7b = true := by kernel_rfl
theorem rn7r : rnd7 zsu = true := by kernel_rfl
theorem rn7g : rnd7 zsv = true := by kernel_rfl
theorem rn7b : rnd7 zsw = true := by kernel_rfl
noncomputable def In7 (L : LevT) (n : Nat) (r : UInt64) (x : Int) : Prop := ∃ e ∈ L.getD n [], r = UInt64.ofNat (e % B64) /\ x = (e / B64 : Nat)
set_option tactic.hygienic true in
theorem zu6 {r : UInt64} {x : Int} (h : zs7 r x = true) (h0 : 0 <= x) (h1 : x <= 48) : Rnd r x := by
 refine ⟨?_, h0, h1⟩
 unfold zs7 at h
 unfold zdk
 split at h
 ·rename_i sg m e he
  first | rw [he] | skip
  try dsimp only
  rw [beq_iff_eq.mp h]
 ·cases h
theorem In7.rnd {L : LevT} {n : Nat} {r : UInt64} {x : Int} (hL : rnd7 L = true) (hn : n < 7) (h : In7 L n r x) : Rnd r x := by
 obtain ⟨e, he, rfl, rfl⟩ := h
 have := List.all_eq_true.mp (List.all_eq_true.mp hL n (List.mem_range.mpr hn)) e he
 rw [Bool.and_eq_true] at this
 have h2 := Nat.blt_eq.mp this.2
 exact zu6 this.1 (by lia) (by lia)
theorem In7.next {L : LevT} {cs : List (UInt64 × Nat)} {n : Nat} {r c : UInt64} {x : Int} {y : Nat} (hL : zih L cs = true) (hn : n < 6) (h : In7 L n r x) (hc : (c, y) ∈ cs) : In7 L (n + 1) (Float64.add r c) (x + y) := by
 obtain ⟨e, he, rfl, rfl⟩ := h
 have := List.all_eq_true.mp (List.all_eq_true.mp (List.all_eq_true.mp hL n (List.mem_range.mpr hn)) e he) _ hc
 unfold zu9 at this
 rw [zql] at this
 obtain ⟨z, hz, e2⟩ := List.any_eq_true.mp this
 have e3 := Nat.eq_of_beq_eq_true e2
 have hlt : (Float64.add (UInt64.ofNat (e % B64)) c).toNat < B64 := UInt64.toNat_lt _
 refine ⟨z, hz, ?_, ?_⟩
 ·rw [<- e3, Nat.add_mul_mod_self_left, Nat.mod_eq_of_lt hlt]; exact (UInt64.ofNat_toNat).symm
 ·rw [<- e3, Nat.add_mul_div_left _ _ (by decide), Nat.div_eq_of_lt hlt, Nat.zero_add]; rfl
noncomputable def hvT : List UInt64 := [0, 4602678819172646912, 4607182418800017408, 4609434218613702656, 4611686018427387904, 4612811918334230528, 4613937818241073152, 4615063718147915776, 4616189618054758400, 4616752568008179712, 4617315517961601024, 4617878467915022336, 4618441417868443648, 4619004367821864960, 4619567317775286272, 4620130267728707584, 4620693217682128896, 4620974692658839552, 4621256167635550208, 4621537642612260864, 4621819117588971520, 4622100592565682176, 4622382067542392832, 4622663542519103488, 4622945017495814144, 4623226492472524800, 4623507967449235456, 4623789442425946112, 4624070917402656768, 4624352392379367424, 4624633867356078080, 4624915342332788736, 4625196817309499392, 4625337554797854720, 4625478292286210048, 4625619029774565376, 4625759767262920704, 4625900504751276032, 4626041242239631360, 4626181979727986688, 4626322717216342016, 4626463454704697344, 4626604192193052672, 4626744929681408000, 4626885667169763328, 4627026404658118656, 4627167142146473984, 4627307879634829312, 4627448617123184640]
noncomputable def hv (i : Int) : UInt64 := hvT.getD i.toNat 0
noncomputable def js : List Int := [0, 1, 2, 3, 4, 6, 8, 12]
theorem addHv : (r49.all fun i => js.all fun j => decide (48 < i + j) || Float64.add (hv i) (hv j) == hv (i + j)) = true := by kernel_rfl
theorem rndHv : (r49.all fun i => zs7 (hv i) i) = true := by kernel_rfl
noncomputable abbrev ConI := List ((Int × Int) × (Int × Int × Int))
noncomputable def val (I : ConI) (p : Int × Int) : Int × Int × Int := (I.lookup p).getD (0, 0, 0)
noncomputable def zch (f : Int × Int -> Int) (c : List (Int × Int)) : Int := (c.map f).sum
noncomputable def zvg (T : ConT) (I : ConI) (p : Int × Int) : Bool := match T.lookup p with
 | none => val I p == (0, 0, 0)
 | some (r, g, b) => wgt p.1 r == hv (val I p).1 && wgt p.1 g == hv (val I p).2.1 && wgt p.1 b == hv (val I p).2.2 && js.contains (val I p).1 && js.contains (val I p).2.1 && js.contains (val I p).2.2
noncomputable def cap (I : ConI) (p : Int × Int) : Bool := decide (0 <= (val I p).1) && decide ((val I p).1 <= 2 * (12 / p.1)) && decide (0 <= (val I p).2.1) && decide ((val I p).2.1 <= 2 * (12 / p.1)) && decide (0 <= (val I p).2.2) && decide ((val I p).2.2 <= 2 * (12 / p.1))
theorem zxs : (all27.all (zvg zie zb3)) = true := by kernel_rfl
theorem zxr : (all27.all (zvg zid zbp)) = true := by kernel_rfl
theorem zxq : (all27.all (zvg zic zb2)) = true := by kernel_rfl
theorem zxp : (all27.all (zvg zib zb1)) = true := by kernel_rfl
theorem ztx : (all27.all (zvg zgi zbh)) = true := by kernel_rfl
theorem zye : (all27.all (cap zb3)) = true := by kernel_rfl
theorem zyd : (all27.all (cap zbp)) = true := by kernel_rfl
theorem zyc : (all27.all (cap zb2)) = true := by kernel_rfl
theorem zyb : (all27.all (cap zb1)) = true := by kernel_rfl
theorem zuj : (all27.all (cap zbh)) = true := by kernel_rfl
theorem zrn {i j : Int} (h0 : 0 <= i) (hj : j ∈ js) (h0' : 0 <= j) (h1 : i + j <= 48) : Float64.add (hv i) (hv j) = hv (i + j) := by
 have := List.all_eq_true.mp (List.all_eq_true.mp addHv i (zfz h0 (by lia))) j hj
 rw [Bool.or_eq_true] at this
 rcases this with h | h
 ·have := of_decide_eq_true h; lia
 ·exact beq_iff_eq.mp h
theorem zdw {I : ConI} (h : all27.all (cap I) = true) {p : Int × Int} (hp : p ∈ all27) : (0 <= (val I p).1 /\ (val I p).1 <= 2 * (12 / p.1)) /\ (0 <= (val I p).2.1 /\ (val I p).2.1 <= 2 * (12 / p.1)) /\ 0 <= (val I p).2.2 /\ (val I p).2.2 <= 2 * (12 / p.1) := by
 have := List.all_eq_true.mp h p hp
 simp only [cap, Bool.and_eq_true, decide_eq_true_eq] at this
 obtain ⟨⟨⟨⟨⟨a, b⟩, c⟩, d⟩, e⟩, f⟩ := this
 exact ⟨⟨a, b⟩, ⟨c, d⟩, e, f⟩
theorem zak (f : Int × Int -> Int) (p : Int × Int) (c : List (Int × Int)) : zch f (p :: c) = f p + zch f c := by simp [zch]
theorem zbt {f : Int × Int -> Int} {c : List (Int × Int)} : (∀ p ∈ c, 0 <= f p) -> 0 <= zch f c := by
 induction c with
 | nil =>
  intro _
  simp [zch]
 | cons p c IH =>
  intro h
  have := IH fun p hp => h p (.tail _ hp)
  have := h p (.head _)
  rw [zak]; lia
theorem zvy {f g : Int × Int -> Int} {c : List (Int × Int)} : (∀ p ∈ c, f p <= g p) -> zch f c <= zch g c := by
 induction c with
 | nil =>
  intro _
  simp [zch]
 | cons p c IH =>
  intro h
  have := IH fun p hp => h p (.tail _ hp)
  have := h p (.head _)
  rw [zak, zak]; lia
set_option tactic.hygienic true in
theorem zxo {T : ConT} {I : ConI} (h1 : all27.all (zvg T I) = true) (h2 : all27.all (cap I) = true) (c : List (Int × Int)) : ∀ (X Y Z : Int), (∀ p ∈ c, p ∈ all27) -> 0 <= X -> 0 <= Y -> 0 <= Z -> X + zch (fun p => (val I p).1) c <= 48 -> Y + zch (fun p => (val I p).2.1) c <= 48 -> Z + zch (fun p => (val I p).2.2) c <= 48 ->
  c.foldl (zen T) (hv X, hv Y, hv Z) = (hv (X + zch (fun p => (val I p).1) c), hv (Y + zch (fun p => (val I p).2.1) c), hv (Z + zch (fun p => (val I p).2.2) c)) := by
 induction c with
 | nil =>
  intro X Y Z _ _ _ _ _ _ _
  simp [zch]
 | cons p c IH =>
  intro X Y Z hv' x0 y0 z0 hx hy hz
  have hp := hv' p (.head _)
  obtain ⟨⟨a1, a2⟩, ⟨b1, b2⟩, c1, c2⟩ := zdw h2 hp
  have hc : ∀ p ∈ c, p ∈ all27 := fun p hp => hv' p (.tail _ hp)
  have n1 := zbt (f := fun p => (val I p).1) fun p hp => (zdw h2 (hc p hp)).1.1
  have n2 := zbt (f := fun p => (val I p).2.1) fun p hp => (zdw h2 (hc p hp)).2.1.1
  have n3 := zbt (f := fun p => (val I p).2.2) fun p hp => (zdw h2 (hc p hp)).2.2.1
  rw [zak] at hx hy hz
  rw [List.foldl_cons, zak, zak, zak]
  have e : zen T (hv X, hv Y, hv Z) p = (hv (X + (val I p).1), hv (Y + (val I p).2.1), hv (Z + (val I p).2.2)) := by
   have hf := List.all_eq_true.mp h1 p hp
   unfold zvg at hf
   unfold zen
   split at hf
   ·rename_i hT
    rw [hT]
    have := beq_iff_eq.mp hf
    rw [this]; simp
   ·rename_i r g b hT
    rw [hT]
    simp only [Bool.and_eq_true, beq_iff_eq, List.contains_eq_mem, decide_eq_true_eq] at hf
    obtain ⟨⟨⟨⟨⟨e1, e2⟩, e3⟩, m1⟩, m2⟩, m3⟩ := hf
    dsimp only
    rw [e1, e2, e3, zrn x0 m1 a1 (by lia), zrn y0 m2 b1 (by lia), zrn z0 m3 c1 (by lia)]
  rw [e, IH _ _ _ hc (by lia) (by lia) (by lia) (by lia) (by lia) (by lia)]
  rw [Int.add_assoc, Int.add_assoc, Int.add_assoc]
theorem zo5 {x : Int} (h0 : 0 <= x) (h1 : x <= 48) : Rnd (hv x) x := zu6 (List.all_eq_true.mp rndHv x (zfz h0 h1)) h0 h1
noncomputable def fit7 (p : Int × Int) : Bool := match zb7.lookup p with
 | none => val zau p == (0, 0, 0) && !(p.1 == 12)
 | some (r, g, b) => p.1 == 12 && cs7r.any (fun q => q.1 == wgt p.1 r && (q.2 : Int) == (val zau p).1) && cs7g.any (fun q => q.1 == wgt p.1 g && (q.2 : Int) == (val zau p).2.1) && cs7b.any (fun q => q.1 == wgt p.1 b && (q.2 : Int) == (val zau p).2.2)
theorem ztw : all27.all fit7 = true := by kernel_rfl
noncomputable def twN (c : List (Int × Int)) : Nat := (c.filter fun p => p.1 == 12).length
theorem zfk (p : Int × Int) (c : List (Int × Int)) : twN (p :: c) = twN c + if p.1 == 12 then 1 else 0 := by
 unfold twN; rw [List.filter_cons]; split <;> simp
theorem zlg {cs : List (UInt64 × Nat)} {x : UInt64} {y : Int} (h : cs.any (fun q => q.1 == x && (q.2 : Int) == y) = true) : ∃ n : Nat, (x, n) ∈ cs /\ y = n := by
 obtain ⟨⟨a, n⟩, hq, h2⟩ := List.any_eq_true.mp h
 rw [Bool.and_eq_true, beq_iff_eq, beq_iff_eq] at h2
 obtain ⟨rfl, rfl⟩ := h2
 exact ⟨n, hq, rfl⟩
set_option tactic.hygienic true in
theorem z1p (c : List (Int × Int)) : ∀ (n : Nat) (r g b : UInt64) (X Y Z : Int), (∀ p ∈ c, p ∈ all27) -> n + twN c <= 6 -> In7 zsu n r X -> In7 zsv n g Y -> In7 zsw n b Z ->
  In7 zsu (n + twN c) (c.foldl (zen zb7) (r, g, b)).1 (X + zch (fun p => (val zau p).1) c) /\ In7 zsv (n + twN c) (c.foldl (zen zb7) (r, g, b)).2.1 (Y + zch (fun p => (val zau p).2.1) c) /\ In7 zsw (n + twN c) (c.foldl (zen zb7) (r, g, b)).2.2 (Z + zch (fun p => (val zau p).2.2) c) := by
 induction c with
 | nil =>
  intro n r g b X Y Z _ _ h1 h2 h3
  simpa [zch, twN] using ⟨h1, h2, h3⟩
 | cons p c IH =>
  intro n r g b X Y Z hv' hn h1 h2 h3
  have hf := List.all_eq_true.mp ztw p (hv' p (.head _))
  have hc : ∀ p ∈ c, p ∈ all27 := fun p hp => hv' p (.tail _ hp)
  rw [zfk] at hn ⊢
  rw [List.foldl_cons, zak, zak, zak]
  unfold fit7 at hf
  split at hf
  ·rename_i hT
   simp only [Bool.and_eq_true, beq_iff_eq, Bool.not_eq_true'] at hf
   have e : zen zb7 (r, g, b) p = (r, g, b) := by unfold zen; rw [hT]
   rw [e, hf.1, hf.2]
   simp only [Bool.false_eq_true, if_false, Nat.add_zero, Int.zero_add]
   rw [hf.2] at hn
   exact IH n r g b X Y Z hc (by simpa using hn) h1 h2 h3
  ·rename_i r1 g1 b1 hT
   simp only [Bool.and_eq_true] at hf
   obtain ⟨⟨⟨e1, e2⟩, e3⟩, e4⟩ := hf
   obtain ⟨y1, m1, v1⟩ := zlg e2
   obtain ⟨y2, m2, v2⟩ := zlg e3
   obtain ⟨y3, m3, v3⟩ := zlg e4
   have e : zen zb7 (r, g, b) p = (Float64.add r (wgt p.1 r1), Float64.add g (wgt p.1 g1), Float64.add b (wgt p.1 b1)) := by unfold zen; rw [hT]
   rw [e, e1, v1, v2, v3]
   rw [e1] at hn
   simp only [if_true] at hn ⊢
   have hn6 : n < 6 := by lia
   have := IH (n + 1) _ _ _ (X + y1) (Y + y2) (Z + y3) hc (by lia) (h1.next cl7r hn6 m1) (h2.next cl7g hn6 m2) (h3.next cl7b hn6 m3)
   rw [show n + (twN c + 1) = n + 1 + twN c from by lia, <- Int.add_assoc, <- Int.add_assoc, <- Int.add_assoc]
   exact this
noncomputable def lin (f g : Int -> Int) : Int := f 0 * g 0 + f 1 * g 1 + f 2 * g 2 + f 3 * g 3 + f 4 * g 4 + f 5 * g 5 + f 6 * g 6 + f 7 * g 7 + f 8 * g 8 + f 9 * g 9 + f 10 * g 10 + f 11 * g 11
noncomputable def f1 (I : ConI) (k : Int) : Int := (val I (12, k)).1 - (val I (12, k)).2.1
noncomputable def f2 (I : ConI) (k : Int) : Int := (val I (12, k)).2.1 - (val I (12, k)).2.2
noncomputable def zrv (I : ConI) (p : Int × Int) : Bool := (val I p).1 - (val I p).2.1 == lin (f1 I) (one p) && (val I p).2.1 - (val I p).2.2 == lin (f2 I) (one p)
theorem zpz : all27.all (zrv zb3) = true := by kernel_rfl
theorem zpy : all27.all (zrv zbp) = true := by kernel_rfl
theorem zpx : all27.all (zrv zb2) = true := by kernel_rfl
theorem zpw : all27.all (zrv zb1) = true := by kernel_rfl
theorem zl3 : all27.all (zrv zbh) = true := by kernel_rfl
theorem zst : all27.all (zrv zau) = true := by kernel_rfl
theorem zkk (f g : Int -> Int) : lin f g = ziz fun k => f k * g k := rfl
theorem zh2 (f : Int -> Int) (p : Int × Int) (c : List (Int × Int)) : lin f (fun k => zbf (p :: c) k) = lin f (fun k => zbf c k) + lin f (one p) := by
 rw [zkk, zkk, zkk, <- ziy]
 exact congrArg ziz (funext fun k => by rw [zmf, Int.mul_add])
theorem zia {I : ConI} (h : all27.all (zrv I) = true) (c : List (Int × Int)) : (∀ p ∈ c, p ∈ all27) ->
  zch (fun p => (val I p).1) c - zch (fun p => (val I p).2.1) c = lin (f1 I) (fun k => zbf c k) /\ zch (fun p => (val I p).2.1) c - zch (fun p => (val I p).2.2) c = lin (f2 I) (fun k => zbf c k) := by
 induction c with
 | nil =>
  intro _
  simp [zch, lin, zbf]
 | cons p c IH =>
  intro hv'
  obtain ⟨i1, i2⟩ := IH fun p hp => hv' p (.tail _ hp)
  have := List.all_eq_true.mp h p (hv' p (.head _))
  simp only [zrv, Bool.and_eq_true, beq_iff_eq] at this
  rw [zh2, zh2, zak, zak, zak, <- i1, <- i2, <- this.1, <- this.2]
  lia
theorem zq1 (c : List (Int × Int)) : (∀ p ∈ c, p ∈ all27) -> (c.map fun p => 12 / p.1).sum = lin (fun _ => 1) (fun k => zbf c k) := by
 induction c with
 | nil =>
  intro _
  simp [lin, zbf]
 | cons p c IH =>
  intro hv'
  have e : ∀ p ∈ all27, 12 / p.1 = lin (fun _ => 1) (one p) := by decide +kernel
  rw [List.map_cons, List.sum_cons, IH fun p hp => hv' p (.tail _ hp), zh2, e p (hv' p (.head _))]
  lia
section
theorem zxb : ∀ p ∈ all27, Int.fmod p.1 2 ≠ 0 -> zie.lookup p = none := zk9 (by kernel_rfl)
theorem zxa : ∀ p ∈ all27, Int.fmod p.1 3 ≠ 0 -> zid.lookup p = none := zk9 (by kernel_rfl)
theorem zw9 : ∀ p ∈ all27, Int.fmod p.1 4 ≠ 0 -> zic.lookup p = none := zk9 (by kernel_rfl)
theorem zw8 : ∀ p ∈ all27, Int.fmod p.1 6 ≠ 0 -> zib.lookup p = none := zk9 (by kernel_rfl)
theorem zth : ∀ p ∈ all27, Int.fmod p.1 12 ≠ 0 -> zgi.lookup p = none := zk9 (by kernel_rfl)
theorem ztg : ∀ p ∈ all27, Int.fmod p.1 12 ≠ 0 -> zb7.lookup p = none := zk9 (by kernel_rfl)
theorem hdv_2 : ∀ p ∈ all27, (zff p.1).any (· == 2) = decide (Int.fmod p.1 2 = 0) := zg1 (by kernel_rfl)
theorem hdv_3 : ∀ p ∈ all27, (zff p.1).any (· == 3) = decide (Int.fmod p.1 3 = 0) := zg1 (by kernel_rfl)
theorem hdv_4 : ∀ p ∈ all27, (zff p.1).any (· == 4) = decide (Int.fmod p.1 4 = 0) := zg1 (by kernel_rfl)
theorem hdv_6 : ∀ p ∈ all27, (zff p.1).any (· == 6) = decide (Int.fmod p.1 6 = 0) := zg1 (by kernel_rfl)
theorem zvd : ∀ p ∈ all27, (zff p.1).any (· == 12) = decide (Int.fmod p.1 12 = 0) := zg1 (by kernel_rfl)
section
variable {w : World} {c : List (Int × Int)} {sz : List (Int × D)}
noncomputable abbrev cI (c : List (Int × Int)) : Int -> Int := fun k => zbf c k
theorem zj7 {f : Int × Int -> Int} (g : Good c) (h : ∀ p ∈ c, f p <= 2 * (12 / p.1)) : zch f c <= 48 := by
 have h1 := zvy (f := f) (g := fun p => 2 * (12 / p.1)) h
 have h2 : ∀ c : List (Int × Int), zch (fun p => 2 * (12 / p.1)) c = 2 * (c.map fun p => 12 / p.1).sum := by
  intro c
  induction c with
  | nil => rfl
  | cons p c ih => rw [zak, ih, List.map_cons, List.sum_cons]; lia
 rw [h2, g.sum] at h1
 lia
theorem ze7 {X Y Z a b : Int} (h1 : X - Y = a) (h2 : Y - Z = b) : decide (X = Y /\ Y = Z) = decide (a = 0 /\ b = 0) := decide_eq_decide.mpr (by lia)
theorem zdb {T : ConT} {I : ConI} {d t : Int} (hok : ∀ p ∈ all27, Int.fmod p.1 d = 0 -> zg3 w T d t p) (hno : ∀ p ∈ all27, Int.fmod p.1 d ≠ 0 -> T.lookup p = none) (hdv : ∀ p ∈ all27, (zff p.1).any (· == d) = decide (Int.fmod p.1 d = 0)) (hfit : all27.all (zvg T I) = true) (hcap : all27.all (cap I) = true) (hlin : all27.all (zrv I) = true)
  (g : Good c) (hsz : ∀ p ∈ c, sz.lookup p.1 = some (.lst ((zff p.1).map .int))) : ∃ h l s, zaw w (OC w) [] 222 ps_mix [zbm c, .dic sz, .int d, .int t] = some (.tup [.flt h, .flt l, .flt s]) /\ (Float64.cmp s 0 == some Ordering.eq) = decide (lin (f1 I) (cI c) = 0 /\ lin (f2 I) (cI c) = 0) := by
 have n1 := zbt (f := fun p => (val I p).1) (c := c) fun p hp => (zdw hcap (g.val p hp)).1.1
 have n2 := zbt (f := fun p => (val I p).2.1) (c := c) fun p hp => (zdw hcap (g.val p hp)).2.1.1
 have n3 := zbt (f := fun p => (val I p).2.2) (c := c) fun p hp => (zdw hcap (g.val p hp)).2.2.1
 have m1 := zj7 (f := fun p => (val I p).1) g fun p hp => (zdw hcap (g.val p hp)).1.2
 have m2 := zj7 (f := fun p => (val I p).2.1) g fun p hp => (zdw hcap (g.val p hp)).2.1.2
 have m3 := zj7 (f := fun p => (val I p).2.2) g fun p hp => (zdw hcap (g.val p hp)).2.2.2
 have hf := zxo hfit hcap c 0 0 0 g.val (by decide) (by decide) (by decide) (by lia) (by lia) (by lia)
 rw [show hv 0 = 0 from by decide +kernel] at hf
 simp only [Int.zero_add] at hf
 obtain ⟨d1, d2⟩ := zia hlin c g.val
 obtain ⟨h, l, s, q, r⟩ := zva (w := w) hok hno hdv g.val hsz (X := zch (fun p => (val I p).1) c) (Y := zch (fun p => (val I p).2.1) c) (Z := zch (fun p => (val I p).2.2) c) (by rw [hf]; exact zo5 n1 m1) (by rw [hf]; exact zo5 n2 m2) (by rw [hf]; exact zo5 n3 m3)
 exact ⟨h, l, s, q, r.trans (ze7 d1 d2)⟩
theorem znb (g : Good c) (hsz : ∀ p ∈ c, sz.lookup p.1 = some (.lst ((zff p.1).map .int))) : ∃ h l s, zaw w (OC w) [] 222 ps_mix [zbm c, .dic sz, .int 12, .int 7] = some (.tup [.flt h, .flt l, .flt s]) /\ (Float64.cmp s 0 == some Ordering.eq) = decide (lin (f1 zau) (cI c) = 0 /\ lin (f2 zau) (cI c) = 0) := by
 have z : ∀ {L : LevT}, (L.getD 0 []).any (Nat.beq 0) = true -> In7 L 0 0 0 := by
  intro L h
  obtain ⟨e, he, h2⟩ := List.any_eq_true.mp h
  have h2 := Nat.eq_of_beq_eq_true h2
  exact ⟨e, he, by rw [<- h2]; rfl, by rw [<- h2]; rfl⟩
 have tw : twN c <= 6 := g.tw
 obtain ⟨a1, a2, a3⟩ := z1p c 0 0 0 0 0 0 0 g.val (by lia) (z (by kernel_rfl)) (z (by kernel_rfl)) (z (by kernel_rfl))
 rw [Int.zero_add] at a1 a2 a3
 obtain ⟨d1, d2⟩ := zia zst c g.val
 obtain ⟨h, l, s, q, r⟩ := zva (w := w) (zm9 w) ztg zvd g.val hsz (a1.rnd rn7r (by lia)) (a2.rnd rn7g (by lia)) (a3.rnd rn7b (by lia))
 exact ⟨h, l, s, q, r.trans (ze7 d1 d2)⟩
end
theorem ztr (a : Int) (f r g : Int -> Int) (l : List Int) : ∀ (s t : Int), l.foldl (fun z k => z + (a * f k + r k) * g k) (a * s + t) = a * l.foldl (fun z k => z + f k * g k) s + l.foldl (fun z k => z + r k * g k) t := by
 induction l with
 | nil =>
  intro s t
  exact rfl
 | cons k l IH =>
  intro s t
  rw [List.foldl_cons, List.foldl_cons, List.foldl_cons, <- IH, Int.add_mul, Int.mul_add, Int.mul_assoc]
  congr 1
  lia
theorem zl2 (a : Int) (f r g : Int -> Int) : lin (fun j => a * f j + r j) g = a * lin f g + lin r g := by
 have := ztr a f r g zu3 (f 0 * g 0) (r 0 * g 0)
 rw [<- Int.mul_assoc, <- Int.add_mul] at this
 exact this
noncomputable def z16 : List (Int × (Int -> Int)) -> Int -> Int
 | [] => fun _ => 0
 | p :: r => fun j => p.1 * p.2 j + z16 r j
theorem zq0 {g : Int -> Int} {l : List (Int × (Int -> Int))} : (∀ p ∈ l, lin p.2 g = 0) -> lin (z16 l) g = 0 := by
 induction l with
 | nil =>
  intro _
  simp [z16, lin]
 | cons p r IH =>
  intro h
  show lin (fun j => p.1 * p.2 j + z16 r j) g = 0
  rw [zl2, h p (.head _), IH fun p hp => h p (.tail _ hp), Int.mul_zero]; rfl
theorem zqo (k : Int) (g : Int -> Int) (l : List Int) : ∀ (s : Int), l.Nodup -> l.foldl (fun z j => z + (if j = k then 24 else 0) * g j) s = s + if k ∈ l then 24 * g k else 0 := by
 induction l with
 | nil =>
  intro s _
  simp
 | cons j l IH =>
  intro s h
  rw [List.foldl_cons, IH _ (List.nodup_cons.mp h).2]
  by_cases e : j = k
  ·subst e
   rw [if_pos rfl, if_neg (List.nodup_cons.mp h).1, if_pos (.head _), Int.add_zero]
  ·rw [if_neg e, Int.zero_mul, Int.add_zero]
   simp only [List.mem_cons, Ne.symm e, false_or]
noncomputable def zxn : List (Int -> Int) := [f1 zb3, f2 zb3, f1 zbp, f2 zbp, f1 zb2, f2 zb2, f1 zb1, f2 zb1, f1 zbh, f2 zbh, f1 zau, f2 zau]
theorem zn5 {g : Int -> Int} (h : lin (fun _ => 1) g = 24) (hz : ∀ f ∈ zxn, lin f g = 0) (cs : List Int) (k : Int) (hk : k ∈ (0 :: zu3)) (hF : lin (fun j => 2 * 1 + z16 (cs.zip zxn) j) g = lin (fun j => if j = k then 24 else 0) g) : g k = 2 := by
 rw [zl2 2 (fun _ => 1), h, zq0 fun p hp => hz _ (List.of_mem_zip hp).2] at hF
 have e : lin (fun j => if j = k then 24 else 0) g = 0 + if k ∈ (0 :: zu3) then 24 * g k else 0 := (show lin (fun j => if j = k then 24 else 0) g = (0 :: zu3).foldl (fun z j => z + (if j = k then 24 else 0) * g j) 0 from by rw [List.foldl_cons, Int.zero_add]; rfl).trans (zqo k g (0 :: zu3) 0 (by decide))
 rw [e, if_pos hk] at hF
 lia
theorem zqj (g : Int -> Int) (h : lin (fun _ => 1) g = 24) : ((lin (f1 zb3) g = 0 /\ lin (f2 zb3) g = 0) /\ (lin (f1 zbp) g = 0 /\ lin (f2 zbp) g = 0) /\ (lin (f1 zb2) g = 0 /\ lin (f2 zb2) g = 0) /\ (lin (f1 zb1) g = 0 /\ lin (f2 zb1) g = 0) /\ (lin (f1 zbh) g = 0 /\ lin (f2 zbh) g = 0) /\ (lin (f1 zau) g = 0 /\ lin (f2 zau) g = 0)) ↔ (g 0 = 2 /\ g 1 = 2 /\ g 2 = 2 /\ g 3 = 2 /\ g 4 = 2 /\ g 5 = 2 /\ g 6 = 2 /\ g 7 = 2 /\ g 8 = 2 /\ g 9 = 2 /\ g 10 = 2 /\ g 11 = 2) := by
 constructor
 ·intro b
  have hz : ∀ f ∈ zxn, lin f g = 0 := List.forall_mem_cons.mpr ⟨b.1.1, List.forall_mem_cons.mpr ⟨b.1.2, List.forall_mem_cons.mpr ⟨b.2.1.1, List.forall_mem_cons.mpr ⟨b.2.1.2, List.forall_mem_cons.mpr ⟨b.2.2.1.1, List.forall_mem_cons.mpr ⟨b.2.2.1.2, List.forall_mem_cons.mpr ⟨b.2.2.2.1.1, List.forall_mem_cons.mpr ⟨b.2.2.2.1.2, List.forall_mem_cons.mpr ⟨b.2.2.2.2.1.1, List.forall_mem_cons.mpr ⟨b.2.2.2.2.1.2, List.forall_mem_cons.mpr ⟨b.2.2.2.2.2.1, List.forall_mem_cons.mpr ⟨b.2.2.2.2.2.2, fun _ q => nomatch q⟩⟩⟩⟩⟩⟩⟩⟩⟩⟩⟩⟩
  clear b
  exact ⟨zn5 h hz [1, 0, 2, 1, 2, 1, 2, 1, 2, 1, 2, 1] 0 (by decide) (by kernel_rfl), zn5 h hz [-1, 0, -1, 1, 0, 2, 1, 2, 2, 2, -2, -2] 1 (by decide) (by kernel_rfl), zn5 h hz [1, 0, -1, -2, -2, -1, -1, 1, 1, 2, 1, 2] 2 (by decide) (by kernel_rfl), zn5 h hz [-1, 0, 2, 1, 0, -2, -2, -1, 0, 2, 0, -2] 3 (by decide) (by kernel_rfl), zn5 h hz [1, 0, -1, 1, 2, 1, -1, -2, -1, 1, -1, 1] 4 (by decide) (by kernel_rfl), zn5 h hz [-1, 0, -1, -2, 0, 2, 1, -1, -2, 0, 2, 0] 5 (by decide) (by kernel_rfl), zn5 h hz [1, 0, 2, 1, -2, -1, 2, 1, -2, -1, -2, -1] 6 (by decide) (by kernel_rfl), zn5 h hz [-1, 0, -1, 1, 0, -2, 1, 2, -2, -2, 2, 2] 7 (by decide) (by kernel_rfl), zn5 h hz [1, 0, -1, -2, 2, 1, -1, 1, -1, -2, -1, -2] 8 (by decide) (by kernel_rfl), zn5 h hz [-1, 0, 2, 1, 0, 2, -2, -1, 0, -2, 0, 2] 9 (by decide) (by kernel_rfl), zn5 h hz [1, 0, -1, 1, -2, -1, -1, -2, 1, -1, 1, -1] 10 (by decide) (by kernel_rfl), zn5 h hz [-1, 0, -1, -2, 0, -2, 1, -1, 2, 0, -2, 0] 11 (by decide) (by kernel_rfl)⟩
 ·rintro ⟨h0, h1, h2, h3, h4, h5, h6, h7, h8, h9, h10, h11⟩
  have e : ∀ f, lin f g = lin f fun _ => 2 := fun f => by
   unfold lin
   rw [h0, h1, h2, h3, h4, h5, h6, h7, h8, h9, h10, h11]
  clear h0 h1 h2 h3 h4 h5 h6 h7 h8 h9 h10 h11 h
  exact ⟨⟨(e _).trans (by kernel_rfl), (e _).trans (by kernel_rfl)⟩, ⟨(e _).trans (by kernel_rfl), (e _).trans (by kernel_rfl)⟩, ⟨(e _).trans (by kernel_rfl), (e _).trans (by kernel_rfl)⟩, ⟨(e _).trans (by kernel_rfl), (e _).trans (by kernel_rfl)⟩, ⟨(e _).trans (by kernel_rfl), (e _).trans (by kernel_rfl)⟩, (e _).trans (by kernel_rfl), (e _).trans (by kernel_rfl)⟩
end
theorem zcs (k : Nat) : (0 : Int) < 2 ^ k := Int.pow_pos (by decide)
theorem zpu {x : Int} {a b n : Nat} (h : a + n <= b) : (x % 2 ^ b) / 2 ^ a % 2 ^ n = x / 2 ^ a % 2 ^ n := by
 obtain ⟨c, rfl⟩ : ∃ c, b = a + n + c := ⟨b - (a + n), (Nat.add_sub_of_le h).symm⟩
 have e : x / 2 ^ a = x % 2 ^ (a + n + c) / 2 ^ a + 2 ^ n * (2 ^ c * (x / 2 ^ (a + n + c))) := by
  have h1 := Int.mul_ediv_add_emod x (2 ^ (a + n + c))
  conv => lhs; rw [<- h1]
  rw [Int.pow_add, Int.pow_add, Int.mul_assoc, Int.mul_assoc, Int.mul_assoc, Int.add_comm, Int.add_mul_ediv_left _ _ (Int.ne_of_gt (zcs a))]
 rw [e, Int.add_mul_emod_self_left]
theorem zpp {L R m : Nat} (h : L + 1 < R) (hm : R - L <= m + 1) : L < (L + R) / 2 /\ (L + R) / 2 < R /\ R - (L + R) / 2 <= m /\ (L + R) / 2 - L <= m := by
 have a : L < (L + R) / 2 := (Nat.le_div_iff_mul_le (by decide)).mpr (by lia)
 have b : (L + R) / 2 < R := (Nat.div_lt_iff_lt_mul (by decide)).mpr (by lia)
 revert a b
 generalize (L + R) / 2 = M
 intro a b
 exact ⟨a, b, by lia, by lia⟩
theorem zs9 (n : Nat) (m : Nat) : ∀ (x : Int) (L R : Nat) (ds : List Int), R - L <= m -> L < R -> R <= ds.length -> 0 <= x -> x < 2 ^ (n * (R - L)) -> ∀ j : Nat, (zjx n m x L R ds).getD j 0 = if L <= j /\ j < R then x / 2 ^ (n * (j - L)) % 2 ^ n else ds.getD j 0 := by
 induction m with
 | zero => exact fun x L R ds hm hl => absurd hl (Nat.not_lt.mpr (Nat.sub_eq_zero_iff_le.mp (Nat.le_zero.mp hm)))
 | succ m ih =>
  intro x L R ds hm hl hr hx hx2 j
  unfold zjx
  by_cases h1 : (L : Int) + 1 = R
  ·rw [if_pos h1, Int.toNat_natCast]
   obtain rfl : L + 1 = R := Int.ofNat_inj.mp h1
   rw [List.getD_eq_getElem?_getD, List.getElem?_set]
   by_cases hj : j = L
   ·subst hj
    rw [Nat.add_sub_cancel_left, Nat.mul_one] at hx2
    rw [if_pos rfl, if_pos (Nat.lt_of_succ_le hr), if_pos ⟨Nat.le_refl _, Nat.lt_succ_self _⟩, Nat.sub_self, Nat.mul_zero, Option.getD_some, Int.pow_zero, Int.ediv_one, Int.emod_eq_of_lt hx hx2]
   ·rw [if_neg (Ne.symm hj), if_neg (fun q => hj (Nat.le_antisymm (Nat.le_of_lt_succ q.2) q.1)), List.getD_eq_getElem?_getD]
  ·obtain ⟨hLM, hMR, r1, r2⟩ := zpp (Nat.lt_of_le_of_ne hl fun q => h1 (congrArg Nat.cast q)) hm
   rw [if_neg h1, show ((L : Int) + R).fdiv 2 = (((L + R) / 2 : Nat) : Int) from Int.fdiv_eq_ediv_of_nonneg _ (by decide)]
   revert hLM hMR r1 r2
   generalize (L + R) / 2 = M
   intro hLM hMR r1 r2
   have lLM := Nat.le_of_lt hLM
   have es : (((M : Int) - L) * n).toNat = n * (M - L) := by
    rw [<- Int.ofNat_sub lLM, <- Int.natCast_mul, Int.toNat_natCast, Nat.mul_comm]
   have esum : n * (R - L) = n * (R - M) + n * (M - L) := by rw [<- Nat.mul_add, Nat.sub_add_sub_cancel (Nat.le_of_lt hMR) lLM]
   rw [esum, Int.pow_add] at hx2
   rw [es, zn7 hx, Int.fdiv_eq_ediv_of_nonneg _ (Int.le_of_lt (zcs _)), ih _ M R _ r1 hMR (by rw [zcg]; exact hr) (Int.ediv_nonneg hx (Int.le_of_lt (zcs _))) (Int.ediv_lt_of_lt_mul (zcs _) hx2) j,
    ih _ L M ds r2 hLM (Nat.le_trans (Nat.le_of_lt hMR) hr) (Int.emod_nonneg _ (Int.ne_of_gt (zcs _))) (Int.emod_lt_of_pos _ (zcs _)) j]
   by_cases c1 : M <= j /\ j < R
   ·rw [if_pos c1, if_pos ⟨Nat.le_trans lLM c1.1, c1.2⟩, Int.ediv_ediv_of_nonneg (Int.le_of_lt (zcs _)), <- Int.pow_add, <- Nat.mul_add, Nat.add_comm, Nat.sub_add_sub_cancel c1.1 lLM]
   ·rw [if_neg c1]
    by_cases c2 : L <= j /\ j < M
    ·rw [if_pos c2, if_pos ⟨c2.1, Nat.lt_trans c2.2 hMR⟩, zpu]
     rw [<- Nat.mul_succ]
     exact Nat.mul_le_mul_left n (Nat.sub_lt_sub_right c2.1 c2.2)
    ·rw [if_neg c2, if_neg fun q => (Nat.lt_or_ge j M).elim (fun h => c2 ⟨q.1, h⟩) fun h => c1 ⟨h, q.2⟩]
set_option tactic.hygienic true in
theorem zkj {a : Nat} : a < 2 ^ Builtin.Int.intBits (a : Int) := by
 unfold Builtin.Int.intBits
 split
 ·rename_i h
  rw [Int.ofNat_eq_zero.mp (beq_iff_eq.mp h)]; exact Nat.one_pos
 ·rw [Int.natAbs_natCast]; exact Nat.lt_log2_self
theorem zh5 {n : Nat} {a : Nat} {K : Nat} (hn : 0 < n) (hK : zcd a n = K) (j : Nat) : (zf8 a n).getD j 0 = if j < K then (a : Int) / 2 ^ (n * j) % 2 ^ n else 0 := by
 unfold zf8
 rw [hK, Int.toNat_natCast]
 by_cases h0 : (a : Int) = 0
 ·rw [if_pos h0, h0]
  simp only [Int.zero_ediv, Int.zero_emod, List.getD_eq_getElem?_getD, List.getElem?_replicate]
  split <;> simp
 ·rw [if_neg h0]
  have hb : a < 2 ^ (n * K) := by
   have h1 := zkj (a := a)
   have h2 : Builtin.Int.intBits (a : Int) <= n * K := by
    have hk : ((Builtin.Int.intBits a : Int) + n - 1).fdiv n = K := hK
    rw [Int.fdiv_eq_ediv_of_nonneg _ (by lia)] at hk
    have h3 := Int.lt_mul_ediv_self_add (x := (Builtin.Int.intBits a : Int) + n - 1) (k := n) (by lia)
    rw [hk] at h3
    have : (n : Int) * K = ((n * K : Nat) : Int) := by push_cast; rfl
    lia
   exact Nat.lt_of_lt_of_le h1 (Nat.pow_le_pow_right (by decide) h2)
  have hK0 : 0 < K := by
   rcases Nat.eq_zero_or_pos K with h | h
   ·subst h; simp at hb; lia
   ·exact h
  have := zs9 n K (a : Int) 0 K (List.replicate K 0) (Nat.le_refl _) hK0 (by rw [List.length_replicate]; exact Nat.le_refl _) (Int.natCast_nonneg a) (by rw [Nat.sub_zero]; exact_mod_cast hb) j
  rw [show ((0 : Nat) : Int) = 0 from rfl] at this
  rw [this, Nat.sub_zero]
  by_cases hj : j < K
  ·rw [if_pos ⟨Nat.zero_le _, hj⟩, if_pos hj]
  ·rw [if_neg (fun q => hj q.2), if_neg hj, List.getD_eq_getElem?_getD, List.getElem?_replicate, if_neg hj]; rfl
theorem zd0 {n : Nat} {a : Int} {K : Nat} (hK : zcd a n = K) : (zf8 a n).length = K := by
 unfold zf8
 rw [hK, Int.toNat_natCast]
 split
 ·exact List.length_replicate ..
 ·rw [zcg, List.length_replicate]
section
noncomputable abbrev B0 : Int := 18764998447377
theorem s111 (w : World) : ∃ E p q, zay w 111 = .If (ifT (stm w 111 0)) [.Return (some E) p] [] q :: (zay w 111).tail /\ ∀ a b n : Int, zaa O0 40 ⟨zab w 111, [("a", .int a), ("b", .int b), ("n", .int n)], none⟩ E = zbe (zdh [(.int a, .froz), (.int b, .froz)]) none :=
 ⟨_, _, _, rfl, fun a b n => by kernel_rfl⟩
theorem zx5 (w : World) {a : Int} (h : a.natAbs < 2 ^ 200) : zaw w O0 [] 111 ps_div2 [.int a, .int B0, .int 45] = some (.tup [.int (a.fdiv B0), .int (a.fmod B0)]) := by
 obtain ⟨E, p, q, e, hE⟩ := s111 w
 refine za5 rfl ?_
 rw [e]
 have ht : zaa O0 40 ⟨zab w 111, [("a", .int a), ("b", .int B0), ("n", .int 45)], none⟩ (ifT (stm w 111 0)) = some (.bool (decide ((Builtin.Int.intBits a : Int) - 45 <= 4000)), .froz) := by kernel_rfl
 have hb := zeu h
 rw [decide_eq_true (by lia)] at ht
 refine zrr ht rfl (zg4 (k := .froz) ?_)
 have := hE a B0 45
 refine this.trans ?_
 unfold zdh
 dsimp only
 rw [if_pos ⟨by decide, PyProof.noPylong_of_log2 (by decide +kernel)⟩]; rfl
theorem I_Rev {kf : Kf} {ev : Cx -> PySem.Expr -> Option (D × Kd)} {σ : List (Str × D)} {own : Option (Str × List D)} {a : PySem.Expr} {p q : Pos} {l : List D} {k : Kd} (h : ev ⟨kf, σ, own⟩ a = some (.lst l, k)) (hk : k ≠ .brw) (hg : kf "reversed" = some .globalImplicit) : zd9 ev ⟨kf, σ, own⟩ (.Call (.Name "reversed" p) [a] [] q) = some l.reverse := by
 show (if ("reversed" : Str) = ("reversed" : Str) then (if kf "reversed" = some .globalImplicit then (match ev ⟨kf, σ, own⟩ a with
   | some (.lst l, k) => if k ≠ Kd.brw then some l.reverse else none
   | _ => none) else none) else (match ev ⟨kf, σ, own⟩ (.Call (.Name "reversed" p) [a] [] q) with
   | some (d, k) => if k ≠ Kd.brw then zeo d else none
   | none => none)) = _
 rw [if_pos rfl, if_pos hg, h]
 exact if_pos hk
theorem zzx {r : Int} (h : Builtin.Int.intBits r <= 60) : zit .LShift (.int r) (.int 45) = some (.int (r * 2 ^ 45), .froz) := by
 have e : zn1 .LShift r 45 = some (.int (r * 2 ^ 45)) := by
  unfold zn1
  have h2 : ((0 : Int) <= 45 /\ (Builtin.Int.intBits r : Int) + 45 <= 2 ^ 27) := ⟨by decide, by lia⟩
  dsimp only
  rw [if_pos h2]; rfl
 show (zn1 .LShift r 45).map (·, Kd.froz) = _
 rw [e]; rfl
theorem zs0 (w : World) : zab w 139 "reversed" = some .globalImplicit /\ zab w 139 "_div2n1n" = some .globalImplicit /\ zab w 139 "_int2digits" = some .globalImplicit /\ zab w 139 "_digits2int" = some .globalImplicit := ⟨by kernel_rfl, by kernel_rfl, by kernel_rfl, by kernel_rfl⟩
theorem s139 (w : World) : ∃ (pp : Nat -> Pos), zay w 139 = [stm w 139 0, .Assign [.Name "a_digits" (pp 0)] (.Call (.Name "_int2digits" (pp 1)) [.Name "a" (pp 2), .Name "n" (pp 3)] [] (pp 4)) (pp 5), stm w 139 2, stm w 139 3, .For (.Name "a_digit" (pp 6)) (.Call (.Name "reversed" (pp 7)) [.Name "a_digits" (pp 8)] [] (pp 9)) (zeb (stm w 139 4)) [] (pp 10), stm w 139 5, .Assign [.Name "q" (pp 11)] (.Call (.Name "_digits2int" (pp 12)) [.Name "q_digits" (pp 13), .Name "n" (pp 14)] [] (pp 15)) (pp 16), stm w 139 7] :=
 ⟨fun i => [_, _, _, _, _, _, _, _, _, _, _, _, _, _, _, _, _].getD i default, rfl⟩
theorem f139 (w : World) : ∃ (pp : Nat -> Pos) (kk : Nat -> Nat), zeb (stm w 139 4) = [.Assign [.Tuple [.Name "q_digit" (pp 0), .Name "r" (pp 1)] (kk 0) (pp 2)] (.Call (.Name "_div2n1n" (pp 3)) [.BinOp (.BinOp (.Name "r" (pp 4)) .LShift (.Name "n" (pp 5)) (pp 6)) .Add (.Name "a_digit" (pp 7)) (pp 8), .Name "b" (pp 9), .Name "n" (pp 10)] [] (pp 11)) (pp 12), (zeb (stm w 139 4)).getD 1 (.Pass default)] :=
 ⟨fun i => [_, _, _, _, _, _, _, _, _, _, _, _, _].getD i default, fun i => [_].getD i 0, rfl⟩
theorem zwl (w : World) (args : List D) : (OA w).fn "_div2n1n" args = zaw w O0 [] 111 ps_div2 args := by kernel_rfl
theorem z0q (w : World) (args : List D) : (OA w).fn "_int2digits" args = zw6 args := by kernel_rfl
theorem z0r (w : World) (args : List D) : (OA w).fn "_digits2int" args = zza args := by kernel_rfl
noncomputable abbrev G0 (a : Int) (ds : List D) (r : Int) : List (Str × D) := [("a", .int a), ("b", .int B0), ("n", .int 45), ("a_digits", .lst ds), ("r", .int r)]
noncomputable abbrev G1 (a : Int) (ds : List D) (r x : Int) : List (Str × D) := [("a", .int a), ("b", .int B0), ("n", .int 45), ("a_digits", .lst ds), ("r", .int r), ("a_digit", .int x)]
noncomputable abbrev G2 (a : Int) (ds : List D) (r x q : Int) : List (Str × D) := [("a", .int a), ("b", .int B0), ("n", .int 45), ("a_digits", .lst ds), ("r", .int r), ("a_digit", .int x), ("q_digit", .int q)]
noncomputable abbrev qO (qs : List D) : Option (Str × List D) := some ("q_digits", qs)
variable {w : World} {a r x : Int} {ds qs : List D}
theorem zhx {σ σ' : List (Str × D)} (hr : 0 <= r /\ r < 2 ^ 60) (hx : 0 <= x /\ x < 2 ^ 60) (hz : qs.length <= 100) (h1 : σ.lookup ("r" : Str) = some (.int r)) (h2 : σ.lookup ("n" : Str) = some (.int 45)) (h3 : σ.lookup ("a_digit" : Str) = some (.int x)) (h4 : σ.lookup ("b" : Str) = some (.int B0))
  (hb : ∀ p23 p24 p25 p26, za8 (zab w 139) (qO qs) σ (.Tuple [.Name "q_digit" p23, .Name "r" p24] p25 p26) (.tup [.int ((r * 2 ^ 45 + x).fdiv B0), .int ((r * 2 ^ 45 + x).fmod B0)]) = some σ')
  (ha : ∀ n, n = 38 -> zae (OA w) ["q_digits"] (zab w 139) (n + 1) ⟨σ', qO qs⟩ ((zeb (stm w 139 4)).getD 1 (.Pass default)) = some (⟨σ', qO (qs ++ [.int ((r * 2 ^ 45 + x).fdiv B0)])⟩, .next)) :
  zcc (zae (OA w) ["q_digits"] (zab w 139) 39) (zeb (stm w 139 4)) ⟨σ, qO qs⟩ = some (⟨σ', qO (qs ++ [.int ((r * 2 ^ 45 + x).fdiv B0)])⟩, .next) := by
 obtain ⟨pp, kk, e⟩ := f139 w
 rw [e]
 refine zap (zrp (d := .tup [.int ((r * 2 ^ 45 + x).fdiv B0), .int ((r * 2 ^ 45 + x).fmod B0)]) (kd := .froz) rfl ?_ (by decide) (hb _ _ _ _)) (zap (ha 38 rfl) zce)
 refine zmo (l := [(.int (r * 2 ^ 45 + x), .froz), (.int B0, .froz), (.int 45, .froz)]) (zs0 w).2.1 (by decide +kernel) (zaj (za3 (a := .int (r * 2 ^ 45)) (k1 := .froz) (b := .int x) (k2 := .froz) (za3 (a := .int r) (k1 := .froz) (b := .int 45) (k2 := .froz) (zal (za2 (by decide +kernel) h1)) (zal (za2 (by decide +kernel) h2)) ?_) (zal (za2 (by decide +kernel) h3)) rfl) (zaj (zal (za2 (by decide +kernel) h4)) (zaj (zal (za2 (by decide +kernel) h2)) zbc))) ((zwl w _).trans (zx5 w ?_)) (.inl rfl)
 ·exact zzx (zeu (by lia))
 ·lia
end
section
theorem zh6 {l r : List Int} (hl : l.length = r.length) (h : ∀ j, j < r.length -> l.getD j 0 = r.getD j 0) : l = r := by
 apply List.ext_getElem hl
 intro j h1 h2
 have := h j h2
 rw [List.getD_eq_getElem?_getD, List.getD_eq_getElem?_getD, List.getElem?_eq_getElem h1, List.getElem?_eq_getElem h2] at this
 exact this
theorem zvj {N : Nat} (h0 : 0 < N) (h1 : N < 2 ^ 48) : (zcd N 45 = 1 /\ N < 2 ^ 45 /\ zf8 N 45 = [(N : Int)]) ∨ (zcd N 45 = 2 /\ zf8 N 45 = [(N : Int) % 2 ^ 45, (N : Int) / 2 ^ 45]) := by
 have hb := zeu (a := (N : Int)) (k := 48) (by rw [Int.natAbs_natCast]; exact h1)
 have hl := zkj (a := N)
 have hn : zcd N 45 = ((Builtin.Int.intBits (N : Int) : Int) + 44) / 45 := by
  unfold zcd
  rw [Int.fdiv_eq_ediv_of_nonneg _ (by decide), Int.add_sub_assoc]; rfl
 have hb0 : 0 < Builtin.Int.intBits (N : Int) := by
  rcases Nat.eq_zero_or_pos (Builtin.Int.intBits (N : Int)) with h | h
  ·rw [h] at hl; simp at hl; lia
  ·exact h
 by_cases hc : Builtin.Int.intBits (N : Int) <= 45
 ·have hK : zcd N 45 = 1 := by rw [hn]; lia
  have hN : N < 2 ^ 45 := Nat.lt_of_lt_of_le hl (Nat.pow_le_pow_right (by decide) hc)
  refine .inl ⟨hK, hN, zh6 (zd0 (K := 1) hK) fun j hj => ?_⟩
  have hj0 : j = 0 := by simpa using hj
  subst hj0
  have e := zh5 (n := 45) (a := N) (K := 1) (by decide) hK 0
  refine e.trans ?_
  rw [if_pos (by decide)]
  show (N : Int) / 2 ^ 0 % 2 ^ 45 = N
  lia
 ·have hK : zcd N 45 = 2 := by rw [hn]; lia
  refine .inr ⟨hK, zh6 (zd0 (K := 2) hK) fun j hj => ?_⟩
  have e := zh5 (n := 45) (a := N) (K := 2) (by decide) hK j
  refine e.trans ?_
  rw [if_pos (by simpa using hj)]
  have hj2 : j = 0 ∨ j = 1 := Nat.le_one_iff_eq_zero_or_eq_one.mp (Nat.le_of_lt_succ (by simpa using hj))
  rcases hj2 with rfl | rfl
  ·show (N : Int) / 2 ^ 0 % 2 ^ 45 = N % 2 ^ 45
   lia
  ·show (N : Int) / 2 ^ 45 % 2 ^ 45 = N / 2 ^ 45
   lia
variable {w : World}
theorem zo9 {N r x q1 : Int} {ds : List D} {qs : List Int} {p47 p48 p49 p50 p51 p52 : Pos} {m : Nat} (hd : zza [.lst (qs.map .int), .int 45] = some (.int (zcy 45 qs))) :
  zc3 (OA w) ["q_digits"] (zab w 139) 40 (m + 3) [[.Assign [.Name "q" p47] (.Call (.Name "_digits2int" p48) [.Name "q_digits" p49, .Name "n" p50] [] p51) p52, stm w 139 7]] ⟨G2 N ds r x q1, qO (qs.map .int)⟩ = some (.tup [.int (zcy 45 qs), .int r]) := by
 refine zah (c' := ⟨G2 N ds r x q1 ++ [(("q" : Str), D.int (zcy 45 qs))], qO (qs.map .int)⟩) (zai (r := (.int (zcy 45 qs), .froz)) (zmo (l := [(.lst (qs.map .int), .brw), (.int 45, .froz)]) (zs0 w).2.2.2 (by decide +kernel) (zaj (zal (zn4 (by decide +kernel) (by kernel_rfl) rfl)) (zaj (zal (za2 (by decide +kernel) (by kernel_rfl))) zbc)) ((z0r w _).trans hd) (.inr rfl)) (by kernel_rfl)) rfl ?_
 kernel_rfl
theorem zmd {qs : List Int} (h1 : qs.length <= 4) (h : ∀ d ∈ qs, 0 <= d /\ d < 2 ^ 45) : zza [.lst (qs.map .int), .int 45] = some (.int (zcy 45 qs)) := by
 rw [zx8]
 unfold d2iA
 dsimp only
 rw [zbo]
 dsimp only
 have : (45 : Int).toNat = 45 := rfl
 rw [this]
 rw [if_pos ⟨by decide, by lia, by lia, List.all_eq_true.mpr fun d hd => decide_eq_true (h d hd)⟩]
theorem zh9 {N : Nat} (h0 : 0 < N) (h1 : N < 2 ^ 48) : zaw w (OA w) ["q_digits"] 139 ps_dpos [.int N, .int B0] = some (.tup [.int ((N : Int).fdiv B0), .int ((N : Int).fmod B0)]) := by
 obtain ⟨pp, e⟩ := s139 w
 refine za5 rfl ?_
 rw [e]
 have hB : ∀ y : Int, y.fdiv B0 = y / 18764998447377 := fun y => Int.fdiv_eq_ediv_of_nonneg _ (by decide)
 have hM : ∀ y : Int, y.fmod B0 = y % 18764998447377 := fun y => Int.fmod_eq_emod_of_nonneg _ (by decide)
 have hK : 0 < zcd N 45 /\ zcd N 45 <= 2 := by
  rcases zvj h0 h1 with ⟨h, _⟩ | ⟨h, _⟩ <;> lia
 have hi : zw6 [.int N, .int 45] = some (.lst ((zf8 N 45).map .int)) := by
  rw [zqh]
  unfold i2dA
  dsimp only
  rw [if_pos ⟨by decide, by decide, by lia, by lia, by lia, by lia, .inr hK.1⟩]
 refine zah (c' := ⟨[("a", .int N), ("b", .int B0), ("n", .int 45)], none⟩) (by kernel_rfl) (by kernel_rfl) ?_
 refine zah (c' := ⟨[("a", .int N), ("b", .int B0), ("n", .int 45), ("a_digits", .lst ((zf8 N 45).map .int))], none⟩) (zai (r := (.lst ((zf8 N 45).map .int), .froz)) (zmo (l := [(.int N, .froz), (.int 45, .froz)]) (zs0 w).2.2.1 (by decide +kernel) (zaj (by kernel_rfl) (zaj (by kernel_rfl) zbc)) ((z0q w _).trans hi) (.inl rfl)) (by kernel_rfl)) rfl ?_
 obtain ⟨ds, hds⟩ : ∃ ds, ds = (zf8 N 45).map D.int := ⟨_, rfl⟩
 rw [<- hds]
 refine zah (c' := ⟨G0 N ds 0, none⟩) (by kernel_rfl) (by kernel_rfl) ?_
 refine zah (c' := ⟨G0 N ds 0, qO []⟩) (by kernel_rfl) (by kernel_rfl) ?_
 have hrev : zd9 (zaa (OA w) 39) ⟨zab w 139, G0 N ds 0, qO []⟩ (.Call (.Name "reversed" (pp 7)) [.Name "a_digits" (pp 8)] [] (pp 9)) = some ds.reverse := I_Rev (k := .froz) (by kernel_rfl) (by decide) (zs0 w).1
 have bT : ∀ {N r x q r' : Int} {ds qs : List D}, ∀ p23 p24 p25 p26, za8 (zab w 139) (qO qs) (G1 N ds r x) (.Tuple [.Name "q_digit" p23, .Name "r" p24] p25 p26) (.tup [.int q, .int r']) = some (G2 N ds r' x q) := fun _ _ _ _ => by kernel_rfl
 have bT2 : ∀ {N r x q q' r' : Int} {ds qs : List D}, ∀ p23 p24 p25 p26, za8 (zab w 139) (qO qs) (G2 N ds r x q) (.Tuple [.Name "q_digit" p23, .Name "r" p24] p25 p26) (.tup [.int q', .int r']) = some (G2 N ds r' x q') := fun _ _ _ _ => by kernel_rfl
 have aT : ∀ {N r x q : Int} {ds : List D}, ∀ n, n = 38 -> zae (OA w) ["q_digits"] (zab w 139) (n + 1) ⟨G2 N ds r x q, qO []⟩ ((zeb (stm w 139 4)).getD 1 (.Pass default)) = some (⟨G2 N ds r x q, qO ([] ++ [.int q])⟩, .next) := by rintro N r x q ds _ rfl; kernel_rfl
 have aT2 : ∀ {N r x q q0 : Int} {ds : List D}, ∀ n, n = 38 -> zae (OA w) ["q_digits"] (zab w 139) (n + 1) ⟨G2 N ds r x q, qO [.int q0]⟩ ((zeb (stm w 139 4)).getD 1 (.Pass default)) = some (⟨G2 N ds r x q, qO ([.int q0] ++ [.int q])⟩, .next) := by rintro N r x q q0 ds _ rfl; kernel_rfl
 rcases zvj h0 h1 with ⟨_, hN, hd⟩ | ⟨_, hd⟩
 ·rw [hd] at hds
  have hds' : ds.reverse = [.int N] := by rw [hds]; rfl
  rw [hds'] at hrev
  have t1 := zhx (w := w) (σ := G1 N ds 0 N) (r := 0) (x := N) (qs := []) (by decide) (by lia) (by decide) rfl rfl rfl rfl bT aT
  rw [show (0 : Int) * 2 ^ 45 + N = N from by lia] at t1
  refine zah (zin hrev (zcb (σ1 := G1 N ds 0 N) (by kernel_rfl) t1 rfl)) rfl ?_
  refine zah (c' := ⟨G2 N ds ((N : Int).fmod B0) N ((N : Int).fdiv B0), qO ([(N : Int).fdiv B0].map .int)⟩) (by kernel_rfl) (by kernel_rfl) ?_
  have := zo9 (w := w) (N := N) (r := (N : Int).fmod B0) (x := N) (q1 := (N : Int).fdiv B0) (ds := ds) (qs := [(N : Int).fdiv B0]) (p47 := (pp 11)) (p48 := (pp 12)) (p49 := (pp 13)) (p50 := (pp 14)) (p51 := (pp 15)) (p52 := (pp 16)) (m := 31) (zmd (by simp) fun d hd => by
   rw [List.mem_singleton.mp hd, hB]; lia)
  refine this.trans ?_
  simp [zcy]
 ·rw [hd] at hds
  have hds' : ds.reverse = [.int ((N : Int) / 2 ^ 45), .int ((N : Int) % 2 ^ 45)] := by rw [hds]; rfl
  rw [hds'] at hrev
  have hhi : (N : Int) / 2 ^ 45 < 8 := by lia
  have t1 := zhx (w := w) (σ := G1 N ds 0 ((N : Int) / 2 ^ 45)) (r := 0) (x := (N : Int) / 2 ^ 45) (qs := []) (by decide) (by lia) (by decide) rfl rfl rfl rfl bT aT
  have z1 : (0 : Int) * 2 ^ 45 + (N : Int) / 2 ^ 45 = (N : Int) / 2 ^ 45 := by lia
  have z2 : Int.fdiv ((N : Int) / 2 ^ 45) B0 = 0 := by rw [hB]; lia
  have z3 : Int.fmod ((N : Int) / 2 ^ 45) B0 = (N : Int) / 2 ^ 45 := by rw [hM]; lia
  rw [z1, z2, z3] at t1
  have t2 := zhx (w := w) (σ := G2 N ds ((N : Int) / 2 ^ 45) ((N : Int) % 2 ^ 45) 0) (r := (N : Int) / 2 ^ 45) (x := (N : Int) % 2 ^ 45) (qs := [.int 0]) (by lia) (by lia) (by decide) rfl rfl rfl rfl bT2 aT2
  rw [show (N : Int) / 2 ^ 45 * 2 ^ 45 + (N : Int) % 2 ^ 45 = N from by lia] at t2
  refine zah (zin hrev (zcb (σ1 := G1 N ds 0 ((N : Int) / 2 ^ 45)) (by kernel_rfl) t1 (zcb (σ1 := G2 N ds ((N : Int) / 2 ^ 45) ((N : Int) % 2 ^ 45) 0) (by kernel_rfl) t2 rfl))) rfl ?_
  refine zah (c' := ⟨G2 N ds ((N : Int).fmod B0) ((N : Int) % 2 ^ 45) ((N : Int).fdiv B0), qO ([(N : Int).fdiv B0, 0].map .int)⟩) (by kernel_rfl) (by kernel_rfl) ?_
  have := zo9 (w := w) (N := N) (r := (N : Int).fmod B0) (x := (N : Int) % 2 ^ 45) (q1 := (N : Int).fdiv B0) (ds := ds) (qs := [(N : Int).fdiv B0, 0]) (p47 := (pp 11)) (p48 := (pp 12)) (p49 := (pp 13)) (p50 := (pp 14)) (p51 := (pp 15)) (p52 := (pp 16)) (m := 31) (zmd (by simp) fun d hd => by
   rcases List.mem_cons.mp hd with rfl | hd
   ·rw [hB]; lia
   ·rw [List.mem_singleton.mp hd]; decide)
  refine this.trans ?_
  simp [zcy]
end
section
noncomputable def els (w : World) (a : Addr) : Nat -> PySem.Stmt
 | 0 => stm w a 0
 | n + 1 => (ifO (els w a n)).getD 0 (.Pass default)
theorem s146 (w : World) : ∃ (pp : Nat -> Pos), zay w 146 = [.If (ifT (els w 146 0)) (ifB (els w 146 0)) [.If (ifT (els w 146 1)) (ifB (els w 146 1)) [.If (ifT (els w 146 2)) (ifB (els w 146 2)) [.Return (some (.Call (.Name "_divmod_pos" (pp 0)) [.Name "a" (pp 1), .Name "b" (pp 2)] [] (pp 3))) (pp 4)] (pp 7)] (pp 6)] (pp 5)] :=
 ⟨fun i => [_, _, _, _, _, _, _, _].getD i default, rfl⟩
theorem kf146 (w : World) : zab w 146 "_divmod_pos" = some .globalImplicit := by kernel_rfl
theorem z0p (w : World) (args : List D) : (OB w).fn "_divmod_pos" args = zaw w (OA w) ["q_digits"] 139 ps_dpos args := by kernel_rfl
variable {w : World}
theorem zw3 {N : Nat} (h0 : 0 < N) (h1 : N < 2 ^ 48) : zaw w (OB w) [] 146 ps_idiv [.int N, .int B0] = some (.tup [.int ((N : Int).fdiv B0), .int ((N : Int).fmod B0)]) := by
 obtain ⟨pp, e⟩ := s146 w
 refine za5 rfl ?_
 rw [e]
 have t1 : ∀ a : Int, zaa (OB w) 40 ⟨zab w 146, [("a", .int a), ("b", .int B0)], none⟩ (ifT (els w 146 0)) = some (.bool false, .froz) := fun a => by kernel_rfl
 have t2 : ∀ a : Int, zaa (OB w) 40 ⟨zab w 146, [("a", .int a), ("b", .int B0)], none⟩ (ifT (els w 146 1)) = some (.bool false, .froz) := fun a => by kernel_rfl
 have t3 : ∀ a : Int, zaa (OB w) 40 ⟨zab w 146, [("a", .int a), ("b", .int B0)], none⟩ (ifT (els w 146 2)) = some (.bool (decide (a < 0)), .froz) := fun a => by kernel_rfl
 have t3' := t3 N
 rw [decide_eq_false (by lia)] at t3'
 refine zey (t1 N) rfl (zey (t2 N) rfl (zey t3' rfl (zg4 (k := .froz) ?_)))
 exact zmo (l := [(.int N, .froz), (.int B0, .froz)]) (kf146 w) (by decide +kernel) (zaj (by kernel_rfl) (zaj (by kernel_rfl) zbc)) ((z0p w _).trans (zh9 h0 h1)) (.inl rfl)
structure Cnt (f : Int -> Int) : Prop where
 b0 : 0 <= f 0 /\ f 0 < 16
 b1 : 0 <= f 1 /\ f 1 < 16
 b2 : 0 <= f 2 /\ f 2 < 16
 b3 : 0 <= f 3 /\ f 3 < 16
 b4 : 0 <= f 4 /\ f 4 < 16
 b5 : 0 <= f 5 /\ f 5 < 16
 b6 : 0 <= f 6 /\ f 6 < 16
 b7 : 0 <= f 7 /\ f 7 < 16
 b8 : 0 <= f 8 /\ f 8 < 16
 b9 : 0 <= f 9 /\ f 9 < 16
 b10 : 0 <= f 10 /\ f 10 < 16
 b11 : 0 <= f 11 /\ f 11 < 16
noncomputable abbrev zbs (f : Int -> Int) : List Int := [f 0, f 1, f 2, f 3, f 4, f 5, f 6, f 7, f 8, f 9, f 10, f 11]
noncomputable def zjz : List Int -> Int
 | [] => 0
 | d :: r => d + 16 * zjz r
noncomputable abbrev Digs (l : List Int) : Prop := ∀ d ∈ l, 0 <= d /\ d < 16
theorem zfo {f : Int -> Int} (h : Cnt f) : Digs (zbs f) :=
 List.forall_mem_cons.mpr ⟨h.b0, List.forall_mem_cons.mpr ⟨h.b1, List.forall_mem_cons.mpr ⟨h.b2, List.forall_mem_cons.mpr ⟨h.b3, List.forall_mem_cons.mpr ⟨h.b4, List.forall_mem_cons.mpr ⟨h.b5, List.forall_mem_cons.mpr ⟨h.b6, List.forall_mem_cons.mpr ⟨h.b7, List.forall_mem_cons.mpr ⟨h.b8, List.forall_mem_cons.mpr ⟨h.b9, List.forall_mem_cons.mpr ⟨h.b10, List.forall_mem_cons.mpr ⟨h.b11, fun _ q => nomatch q⟩⟩⟩⟩⟩⟩⟩⟩⟩⟩⟩⟩
theorem znl (a b c d e f g h i j k l : Int) : a + b * 16 + c * 16 ^ 2 + d * 16 ^ 3 + e * 16 ^ 4 + f * 16 ^ 5 + g * 16 ^ 6 + h * 16 ^ 7 + i * 16 ^ 8 + j * 16 ^ 9 + k * 16 ^ 10 + l * 16 ^ 11 = zjz [a, b, c, d, e, f, g, h, i, j, k, l] := by
 simp only [zjz]; lia
theorem zea (f : Int -> Int) : hex f = zjz (zbs f) := znl ..
theorem zkp : ∀ {l : List Int}, Digs l -> 0 <= zjz l /\ zjz l < 16 ^ l.length
 | [], _ => ⟨by decide, by decide⟩
 | d :: r, h => by
  have h1 := zkp (l := r) fun d hd => h d (.tail _ hd)
  have h2 := h d (.head _)
  rw [List.length_cons, Int.pow_succ]
  show 0 <= d + 16 * zjz r /\ d + 16 * zjz r < _
  lia
theorem zl8 : ∀ {l : List Int}, Digs l -> l.sum <= zjz l
 | [], _ => by decide
 | d :: r, h => by
  have h1 := zl8 (l := r) fun d hd => h d (.tail _ hd)
  have h2 := zkp (l := r) fun d hd => h d (.tail _ hd)
  rw [List.sum_cons]
  show _ <= d + 16 * zjz r
  lia
theorem zep : ∀ {l : List Int} (j : Nat), Digs l -> zjz l / 2 ^ (4 * j) % 2 ^ 4 = l.getD j 0
 | [], j, _ => by simp [zjz]
 | d :: r, 0, h => by
  have h2 := h d (.head _)
  show (d + 16 * zjz r) / 1 % 16 = d
  lia
 | d :: r, j + 1, h => by
  have h1 := zep (l := r) j fun d hd => h d (.tail _ hd)
  have h2 := h d (.head _)
  rw [List.getD_cons_succ, <- h1, show (2 : Int) ^ (4 * (j + 1)) = 16 * 2 ^ (4 * j) from by rw [Nat.mul_succ, Int.pow_add, Int.mul_comm]; rfl, <- Int.ediv_ediv_of_nonneg (by decide), show zjz (d :: r) / 16 = zjz r from by show (d + 16 * zjz r) / 16 = _; lia]
theorem zqi {f : Int -> Int} (h : Cnt f) {N : Nat} (hN : (N : Int) = hex f) : ∀ j, j < 12 -> (N : Int) / 2 ^ (4 * j) % 2 ^ 4 = (zbs f).getD j 0 := fun j _ => by
 have := zep j (zfo h)
 rw [<- zea, <- hN] at this
 exact this
theorem zji {f : Int -> Int} (h : Cnt f) : 0 <= hex f /\ hex f < 2 ^ 48 := by
 have := zkp (zfo h)
 rw [<- zea, show (16 : Int) ^ (zbs f).length = 2 ^ 48 from by show (16 : Int) ^ 12 = 2 ^ 48; decide] at this
 exact this
theorem zjo {f : Int -> Int} (h : Cnt f) {N : Nat} (hN : (N : Int) = hex f) : zw6 [.int N, .int 4] = some (.lst ((zf8 N 4).map .int)) /\ (zf8 N 4).length <= 12 /\ zf8 N 4 ++ List.replicate (12 - (zf8 N 4).length) 0 = zbs f := by
 have hr := zji h
 have hlt : N < 2 ^ 48 := by lia
 have hb := zeu (a := (N : Int)) (k := 48) (by rw [Int.natAbs_natCast]; exact hlt)
 have hl := zkj (a := N)
 have hn : zcd N 4 = ((Builtin.Int.intBits (N : Int) : Int) + 3) / 4 := by
  unfold zcd
  rw [Int.fdiv_eq_ediv_of_nonneg _ (by decide), Int.add_sub_assoc]; rfl
 obtain ⟨K, hK⟩ : ∃ K : Nat, zcd N 4 = K := ⟨(zcd N 4).toNat, by lia⟩
 have hK12 : K <= 12 := by lia
 have hlen : (zf8 N 4).length = K := zd0 hK
 refine ⟨?_, by lia, ?_⟩
 ·have hq : (N : Int) = 0 ∨ 0 < zcd N 4 := by
   rcases Nat.eq_zero_or_pos N with h | h
   ·exact .inl (by lia)
   ·refine .inr ?_
    have : 0 < Builtin.Int.intBits (N : Int) := by
     rcases Nat.eq_zero_or_pos (Builtin.Int.intBits (N : Int)) with h2 | h2
     ·rw [h2] at hl; simp at hl; lia
     ·exact h2
    lia
  rw [zqh]
  unfold i2dA
  dsimp only
  exact if_pos ⟨by decide, by decide, by lia, by lia, by lia, by lia, hq⟩
 ·refine zh6 (by rw [List.length_append, List.length_replicate, hlen]; show K + (12 - K) = 12; lia) fun j hj => ?_
  have hj : j < 12 := hj
  rw [<- zqi h hN j hj]
  have e := zh5 (n := 4) (a := N) (K := K) (by decide) hK j
  rw [List.getD_eq_getElem?_getD, List.getElem?_append, hlen]
  by_cases hjK : j < K
  ·rw [if_pos hjK, <- List.getD_eq_getElem?_getD]
   refine e.trans (if_pos hjK)
  ·rw [if_neg hjK, List.getElem?_replicate]
   have hz : (N : Int) / 2 ^ (4 * j) = 0 := by
    have h1 : N < 2 ^ (4 * j) := Nat.lt_of_lt_of_le hl (Nat.pow_le_pow_right (by decide) (by lia))
    exact Int.ediv_eq_zero_of_lt (by lia) (by exact_mod_cast h1)
   rw [hz]
   split <;> rfl
theorem ztk {f : Int -> Int} (h : Cnt f) : (hex f = 2 * B0) ↔ (f 0 = 2 /\ f 1 = 2 /\ f 2 = 2 /\ f 3 = 2 /\ f 4 = 2 /\ f 5 = 2 /\ f 6 = 2 /\ f 7 = 2 /\ f 8 = 2 /\ f 9 = 2 /\ f 10 = 2 /\ f 11 = 2) := by
 constructor
 ·intro q
  have d : ∀ j, j < 12 -> (zbs f).getD j 0 = 2 * B0 / 2 ^ (4 * j) % 2 ^ 4 := fun j hj => by
   have := zep j (zfo h)
   rw [<- zea, q] at this
   exact this.symm
  clear q h
  exact ⟨(d 0 (by decide)).trans (by decide), (d 1 (by decide)).trans (by decide), (d 2 (by decide)).trans (by decide), (d 3 (by decide)).trans (by decide), (d 4 (by decide)).trans (by decide), (d 5 (by decide)).trans (by decide), (d 6 (by decide)).trans (by decide), (d 7 (by decide)).trans (by decide), (d 8 (by decide)).trans (by decide), (d 9 (by decide)).trans (by decide), (d 10 (by decide)).trans (by decide), (d 11 (by decide)).trans (by decide)⟩
 ·rintro ⟨h0, h1, h2, h3, h4, h5, h6, h7, h8, h9, h10, h11⟩
  rw [zea]
  unfold zbs
  rw [h0, h1, h2, h3, h4, h5, h6, h7, h8, h9, h10, h11]
  decide
end
noncomputable def zde (n : Nat) : Str := ⟨(List.replicate n 46).toArray⟩
noncomputable def ze8 : List Nat -> Nat -> List Nat
 | [], _ => []
 | n :: r, s => (s + n) :: ze8 r (s + n + 2)
theorem zvk {T : Array Nat} {i : Nat} {l : List Nat} (h : Lay T i l) : StrLaws.At ⟨T⟩ crlf T.size i ↔ l.take 2 = [13, 10] := by
 have hs := h.size
 have he : T.extract i (i + 2) = (l.take 2).toArray := by
  apply Array.toList_inj.1
  rw [Array.toList_extract, List.extract_eq_take_drop, h.2, Nat.add_sub_cancel_left]
 unfold StrLaws.At Builtin.Str.subAt
 show i + 2 <= T.size /\ (T.extract i (i + 2) == #[13, 10]) = true ↔ _
 rw [he]
 constructor
 ·rintro ⟨_, h2⟩
  have := congrArg Array.toList (beq_iff_eq.mp h2)
  simpa using this
 ·intro h2
  refine ⟨?_, by rw [h2]; rfl⟩
  have := congrArg List.length h2
  rw [List.length_take] at this
  have : 2 <= l.length := by simp at this; lia
  lia
theorem zl4 {T : Array Nat} {s : Nat} {n : Nat} {r : List Nat} (h : Lay T s (zcz n ++ r)) : ∀ j, j <= n -> Lay T (s + j) (zcz (n - j) ++ r) := by
 intro j hj
 have e : zcz n ++ r = List.replicate j 46 ++ (zcz (n - j) ++ r) := by
  unfold zcz
  have : List.replicate n 46 = List.replicate j 46 ++ List.replicate (n - j) 46 := by rw [List.replicate_append_replicate]; congr 1; lia
  rw [this, List.append_assoc, List.append_assoc, List.append_assoc]
 rw [e] at h
 have := h.append
 rwa [List.length_replicate] at this
theorem zx9 {T : Array Nat} (ls : List Nat) : ∀ (s : Nat) (cuts : List Nat) (f : Nat), Lay T s (txt ls) -> StrLaws.ChainG ⟨T⟩ crlf T.size s cuts f -> (∀ k, f <= k -> ¬ StrLaws.At ⟨T⟩ crlf T.size k) -> cuts = ze8 ls s := by
 induction ls with
 | nil =>
  intro s cuts f hl hc hf
  have hs := hl.size
  simp [txt] at hs
  cases cuts with
  | nil => rfl
  | cons c r =>
   obtain ⟨h1, h2, _⟩ := hc
   have : c + 2 <= T.size := h2.1
   lia
 | cons n ls IH =>
  intro s cuts f hl hc hf
  rw [zbi] at hl
  have hA : StrLaws.At ⟨T⟩ crlf T.size (s + n) := by
   rw [zvk (zl4 hl n (Nat.le_refl _)), Nat.sub_self]; rfl
  have hN : ∀ j, j < n -> ¬ StrLaws.At ⟨T⟩ crlf T.size (s + j) := by
   intro j hj q
   rw [zvk (zl4 hl j (by lia))] at q
   obtain ⟨m, hm⟩ : ∃ m, n - j = m + 1 := ⟨n - j - 1, by lia⟩
   rw [hm] at q
   cases m <;> cases q
  cases cuts with
  | nil =>
   have : f = s := hc
   exact absurd hA (hf _ (by lia))
  | cons c r =>
   obtain ⟨h1, h2, h3, h4⟩ := hc
   have e : c = s + n := by
    rcases Nat.lt_trichotomy c (s + n) with h | h | h
    ·have := hN (c - s) (by lia)
     rw [show s + (c - s) = c from by lia] at this
     exact absurd h2 this
    ·exact h
    ·exact absurd hA (h3 _ (by lia) h)
   subst e
   have hl2 := Lay.append _ hl
   rw [za4, <- Nat.add_assoc] at hl2
   rw [ze8, IH (s + n + 2) r f hl2 h4 hf]
theorem zsg {T : Array Nat} (ls : List Nat) : ∀ (s : Nat), Lay T s (txt ls) -> (((s :: (ze8 ls s).map (· + 2)).zip (ze8 ls s ++ [T.size])).map fun p => Builtin.Str.strSub ⟨T⟩ p.1 p.2) = ls.map zde ++ [⟨#[]⟩] := by
 induction ls with
 | nil =>
  intro s hl
  have hs := hl.size
  simp [txt] at hs
  subst hs
  simp [ze8, Builtin.Str.strSub]
 | cons n ls IH =>
  intro s hl
  rw [zbi] at hl
  have hl2 := Lay.append _ hl
  rw [za4, <- Nat.add_assoc] at hl2
  have := IH (s + n + 2) hl2
  rw [ze8]
  simp only [List.map_cons, List.cons_append, List.zip_cons_cons] at this ⊢
  rw [this]
  congr 1
  have h3 : Lay T s (List.replicate n 46 ++ ([13, 10] ++ txt ls)) := by
   have := hl
   unfold zcz at this
   rwa [List.append_assoc] at this
  have h4 := h3.extract
  rw [List.length_replicate] at h4
  show Str.mk (T.extract s (s + n)) = _
  rw [h4]; rfl
theorem zlu (ls : List Nat) : Builtin.Str.occurrences (zad ls) crlf 0 (zad ls).length ((zad ls).length + 1) = ze8 ls 0 := by
 obtain ⟨f, h1, h2⟩ := StrLaws.occ_tight (zad ls) crlf (by decide)
 exact zx9 ls 0 _ f ⟨Nat.zero_le _, rfl⟩ h1 h2
theorem zg9 (ls : List Nat) : ze1 (zad ls) crlf = ls.map zde ++ [⟨#[]⟩] := by
 unfold ze1
 rw [zlu]
 unfold Builtin.Str.partsBetween
 exact zsg ls 0 ⟨Nat.zero_le _, rfl⟩
theorem zh8 (ls : List Nat) : (zad ls).length = ls.sum + 2 * ls.length := by
 show (txt ls).toArray.size = _
 rw [List.size_toArray, zcj]
theorem zuk {n : Nat} {ls : List Nat} (h : (n :: ls).sum <= 5000) (h2 : ls.length <= 1000) : zcw (zad (n :: ls)) crlf = true := by
 have hl := zh8 (n :: ls)
 have hc : crlf.length = 2 := rfl
 rw [List.length_cons] at hl
 unfold zcw
 rw [zlu, zg9]
 have hk : ¬ Builtin.Str.strKind (zad (n :: ls)) < Builtin.Str.strKind crlf := by
  have : Builtin.Str.strKind crlf = 1 := by decide +kernel
  rw [this]
  unfold Builtin.Str.strKind
  split
  ·lia
  ·split <;> lia
 rw [decide_eq_false hk, decide_eq_false (by lia : ¬ (zad (n :: ls)).length < crlf.length), hc, decide_eq_true (by rw [hl, sizeLine_eq]; lia), decide_eq_true (by simp [sizeLine_eq]; lia)]
 rfl
theorem b201 (w : World) : ∃ (pp : Nat -> Pos) (kk : Nat -> Nat), zay w 201 = [stm w 201 0, .For (.Tuple [.Name "m" (pp 0), .Name "a" (pp 1)] (kk 0) (pp 2)) (.Name "classes" (pp 3)) (zeb (stm w 201 1)) [] (pp 4), .Return (some (.Name "rows" (pp 5))) (pp 6)] := ⟨fun i => [_, _, _, _, _, _, _].getD i default, fun i => [_].getD i 0, rfl⟩
noncomputable def mb (w : World) (i : Nat) : PySem.Stmt := (zeb (stm w 201 1)).getD i (.Pass default)
theorem f201 (w : World) : zeb (stm w 201 1) = [mb w 0, mb w 1, mb w 2] := by kernel_rfl
noncomputable abbrev zbj (r : Nat -> Str) : List D := [.str (r 0), .str (r 1), .str (r 2), .str (r 3), .str (r 4), .str (r 5), .str (r 6), .str (r 7), .str (r 8), .str (r 9), .str (r 10), .str (r 11)]
noncomputable abbrev rO (R : List D) : Option (Str × List D) := some ("rows", R)
noncomputable abbrev T0s (cd : D) (p : Int × Int) : List (Str × D) := [("classes", cd), ("m", .int p.1), ("a", .int p.2)]
noncomputable abbrev T1s (cd : D) (p : Int × Int) (s q j : D) : List (Str × D) := [("classes", cd), ("m", .int p.1), ("a", .int p.2), ("sent", s), ("parts", q), ("j", j)]
noncomputable abbrev T2s (cd : D) (p : Int × Int) (s q : D) : List (Str × D) := [("classes", cd), ("m", .int p.1), ("a", .int p.2), ("sent", s), ("parts", q)]
noncomputable def zy8 (p : Int × Int) : List Nat := (List.range (12 / p.1).toNat).map fun i => p.2.toNat + p.1.toNat * i
theorem z01 (w : World) : ∃ (pp : Nat -> Pos) (kk : Nat -> Nat) (CE : _), mb w 0 = .Assign [.Name "sent" (pp 0)] (.Call (.Name "quotedata" (pp 1)) [.Call (.Attribute (.Constant (.str "") (kk 0) (pp 2)) "join" (pp 3)) [CE] [] (pp 4)] [] (pp 5)) (pp 6) /\ (pp 3).endLine = (pp 4).line /\
  (∀ p ∈ all27, ∀ (cd : D) (r : Nat -> Str) (s q j : D), zaa (OC w) 37 ⟨zab w 201, T0s cd p, rO (zbj r)⟩ CE = some (.lst ((zy8 p).map fun i => .str (r i)), .fresh) /\ zaa (OC w) 37 ⟨zab w 201, T1s cd p s q j, rO (zbj r)⟩ CE = some (.lst ((zy8 p).map fun i => .str (r i)), .fresh)) :=
 ⟨fun i => [_, _, _, _, _, _, _].getD i default, fun i => [_].getD i 0, _, rfl, rfl, fun p hp cd r s q j => ⟨by revert p; exact zg1 (by kernel_rfl), by revert p; exact zg1 (by kernel_rfl)⟩⟩
theorem z00 (w : World) : ∃ (pp : Nat -> Pos) (kk : Nat -> Nat), mb w 1 = .Assign [.Name "parts" (pp 0)] (.Call (.Attribute (.Name "sent" (pp 1)) "split" (pp 2)) [.Constant (.str "\r\n") (kk 0) (pp 3)] [] (pp 4)) (pp 5) /\ (pp 2).endLine = (pp 4).line :=
 ⟨fun i => [_, _, _, _, _, _].getD i default, fun i => [_].getD i 0, rfl, rfl⟩
theorem z0z (w : World) : ∃ (pp : Nat -> Pos) (kk : Nat -> Nat) (RE : _), mb w 2 = .For (.Name "j" (pp 0)) RE [.Assign [.Subscript (.Name "rows" (pp 1)) (.BinOp (.Name "a" (pp 2)) .Add (.BinOp (.Name "m" (pp 3)) .Mult (.Name "j" (pp 4)) (pp 5)) (pp 6)) (pp 7)] (.BinOp (.Subscript (.Name "parts" (pp 8)) (.Name "j" (pp 9)) (pp 10)) .Add (.Constant (.str "\r\n") (kk 0) (pp 11)) (pp 12)) (pp 13)] [] (pp 14) /\
  (∀ p ∈ all27, ∀ (cd : D) (R : List D) (s q j : D), zd9 (zaa (OC w) 38) ⟨zab w 201, T2s cd p s q, rO R⟩ RE = some ((List.range' 0 (12 / p.1).toNat).map fun i => .int (i : Nat)) /\ zd9 (zaa (OC w) 38) ⟨zab w 201, T1s cd p s q j, rO R⟩ RE = some ((List.range' 0 (12 / p.1).toNat).map fun i => .int (i : Nat))) :=
 ⟨fun i => [_, _, _, _, _, _, _, _, _, _, _, _, _, _, _].getD i default, fun i => [_].getD i 0, _, rfl, fun p hp cd R s q j => ⟨by revert p; exact zg1 (by kernel_rfl), by revert p; exact zg1 (by kernel_rfl)⟩⟩
section
theorem zhh (n : Nat) : zde n ++ crlf = zad [n] := by
 show Str.mk ((List.replicate n 46).toArray ++ #[13, 10]) = Str.mk (txt [n]).toArray
 simp [txt, zcz]
theorem zgd : ∀ l : List Nat, flat (l.map fun n => zad [n]) = txt l
 | [] => rfl
 | n :: l => by
  rw [List.map_cons, zb6, zgd l, zbi]
  show (txt [n]).toArray.toList ++ _ = _
  simp [txt]
theorem zp7 (l : List Nat) : Txt.join (Str.mk #[]) (l.map fun n => zad [n]) = zad l := by
 rw [zf5, zgd]; rfl
theorem zgh : ∀ l : List Str, zfg (l.map .str) = some l
 | [] => rfl
 | x :: l => by
  show (match zfg (l.map .str) with | some l => some (x :: l) | none => none) = _
  rw [zgh l]
theorem kf201 (w : World) : zab w 201 "quotedata" = some .globalImplicit := by kernel_rfl
theorem z0m (w : World) (args : List D) : (OC w).fn "quotedata" args = z0c args := by kernel_rfl
theorem zmb : ("" : Str) = Str.mk #[] := by kernel_rfl
theorem zk0 : ("\r\n" : Str) = crlf := by kernel_rfl
section
variable {w : World} {cd : D} {p : Int × Int}
theorem zps {σ : List (Str × D)} {R : List D} {a : Nat} {ls : List Nat} {p18 p20 p21 p34 p35 : Pos} {p19 : Nat} {CE : PySem.Expr} (hp : p21.endLine = p34.line) (hC : zaa (OC w) 37 ⟨zab w 201, σ, rO R⟩ CE = some (.lst ((a :: ls).map fun n => .str (zad [n + 1])), .fresh)) (hs : (a :: ls).sum <= 1000) (hl : ls.length <= 100) :
  zaa (OC w) 39 ⟨zab w 201, σ, rO R⟩ (.Call (.Name "quotedata" p18) [.Call (.Attribute (.Constant (.str "") p19 p20) "join" p21) [CE] [] p34] [] p35) = some (.str (zad ((a :: ls).map (· + 2))), .froz) := by
 have hj : zaa (OC w) 38 ⟨zab w 201, σ, rO R⟩ (.Call (.Attribute (.Constant (.str "") p19 p20) "join" p21) [CE] [] p34) = some (.str (zad ((a :: ls).map (· + 1))), .froz) := by
  refine zmn (d := .str "") (k := .froz) (l := [(.lst ((a :: ls).map fun n => .str (zad [n + 1])), .fresh)]) hp (by simp) rfl (za9 rfl) (fun fs e => by cases e) (zaj hC zbc) rfl ?_
  have e1 : ((a :: ls).map fun n => D.str (zad [n + 1])) = (((a :: ls).map (· + 1)).map fun n => zad [n]).map .str := by rw [List.map_map, List.map_map]; rfl
  show (match zfg ((a :: ls).map fun n => D.str (zad [n + 1])) with
   | some ss => if JoinOk ("" : Str) ss = true then some (D.str (Txt.join ("" : Str) ss)) else none
   | none => none) = _
  rw [e1, zgh, zmb]
  dsimp only
  rw [if_pos (zdz (by rw [zgd, zcj, zcf, List.length_map, List.length_cons]; lia)), zp7]
 exact zmo (l := [(.str (zad ((a :: ls).map (· + 1))), .froz)]) (kf201 w) (by decide +kernel) (zaj hj zbc) ((z0m w _).trans (zo7 hs (by lia))) (.inl rfl)
theorem znf {σ : List (Str × D)} {R : List D} {a : Nat} {ls : List Nat} {p38 p39 p41 p42 : Pos} {p40 : Nat} (hp : p39.endLine = p42.line) (hs : (a :: ls).sum <= 5000) (hl : ls.length <= 100) (h : σ.lookup ("sent" : Str) = some (.str (zad (a :: ls)))) :
  zaa (OC w) 39 ⟨zab w 201, σ, rO R⟩ (.Call (.Attribute (.Name "sent" p38) "split" p39) [.Constant (.str "\r\n") p40 p41] [] p42) = some (.lst (((a :: ls).map zde ++ [Str.mk #[]]).map .str), .froz) := by
 refine zmn (d := .str (zad (a :: ls))) (k := .froz) (l := [(.str "\r\n", .froz)]) hp (by simp) rfl (zal (za2 (by decide +kernel) h)) (fun fs e => by cases e) (zaj (za9 rfl) zbc) rfl ?_
 show (if zcw (zad (a :: ls)) ("\r\n" : Str) = true then some (D.lst ((ze1 (zad (a :: ls)) ("\r\n" : Str)).map .str)) else none) = _
 rw [zk0, if_pos (zuk hs (by lia)), zg9]
theorem zhd {s : D} {q : List Str} {m a : Nat} (hm : 0 < m /\ m <= 12) (ha : a < 12) {v : Nat -> Nat} {p44 p51 p52 p53 p54 p55 p56 p57 p58 p59 p60 p62 p63 p64 : Pos} {p61 : Nat} :
  ∀ (k i : Nat) (R : List D) (j : D), R.length = 12 -> (∀ t, i <= t -> t < i + k -> a + m * t < 12 /\ q[t]? = some (zde (v t)) /\ v t <= 1000) -> ∃ j', zbu (zab w 201) (.Name "j" p44) (zcc (zae (OC w) ["rows"] (zab w 201) 38) [.Assign [.Subscript (.Name "rows" p51) (.BinOp (.Name "a" p52) .Add (.BinOp (.Name "m" p53) .Mult (.Name "j" p54) p55) p56) p57] (.BinOp (.Subscript (.Name "parts" p58) (.Name "j" p59) p60) .Add (.Constant (.str "\r\n") p61 p62) p63) p64])
   ((List.range' i k).map fun i => .int (i : Nat)) ⟨T1s cd ((m : Int), (a : Int)) s (.lst (q.map .str)) j, rO R⟩ = some (⟨T1s cd ((m : Int), (a : Int)) s (.lst (q.map .str)) j', rO ((List.range' i k).foldl (fun R t => R.set (a + m * t) (.str (zad [v t]))) R)⟩, .next)
 | 0, i, R, j, hR, h => ⟨j, rfl⟩
 | k + 1, i, R, j, hR, h => by
  obtain ⟨h1, h2, h3⟩ := h i (Nat.le_refl _) (by lia)
  obtain ⟨j', e⟩ := zhd hm ha k (i + 1) (R.set (a + m * i) (.str (zad [v i]))) (.int i) (by rw [List.length_set]; exact hR) (fun t t1 t2 => h t (by lia) (by lia)) (s := s) (q := q) (v := v) (p44 := p44) (p51 := p51) (p52 := p52) (p53 := p53) (p54 := p54) (p55 := p55) (p56 := p56) (p57 := p57) (p58 := p58) (p59 := p59) (p60 := p60) (p61 := p61) (p62 := p62) (p63 := p63) (p64 := p64)
  refine ⟨j', ?_⟩
  rw [List.range'_succ, List.map_cons, List.foldl_cons]
  refine zcb (σ1 := T1s cd ((m : Int), (a : Int)) s (.lst (q.map .str)) (.int i)) (by kernel_rfl) (zap (c' := ⟨T1s cd ((m : Int), (a : Int)) s (.lst (q.map .str)) (.int i), rO (R.set (a + m * i) (.str (zad [v i])))⟩) ?_ zce) e
  have hidx : ((a : Int) + m * i).toNat = a + m * i := by
   rw [show (a : Int) + m * i = ((a + m * i : Nat) : Int) from by push_cast; rfl, Int.toNat_natCast]
  have hmi : (m : Int) * i = ((m * i : Nat) : Int) := by push_cast; rfl
  have hmul : zit .Mult (.int m) (.int i) = some (.int ((m : Int) * i), .froz) := by
   show (if Builtin.Int.intBits (m : Int) <= 64 then some (D.int ((m : Int) * i)) else none).map (·, Kd.froz) = _
   have := zeu (a := (m : Int)) (k := 4) (by rw [Int.natAbs_natCast]; lia)
   rw [if_pos (by lia)]; rfl
  have hput := zyv (O := OC w) (mv := ["rows"]) (kf := zab w 201) (n := 37) (c := ⟨T1s cd ((m : Int), (a : Int)) s (.lst (q.map .str)) (.int i), rO R⟩) (x := "rows") (p1 := p51) (p2 := p57) (p3 := p64) (i := .BinOp (.Name "a" p52) .Add (.BinOp (.Name "m" p53) .Mult (.Name "j" p54) p55) p56) (e := .BinOp (.Subscript (.Name "parts" p58) (.Name "j" p59) p60) .Add (.Constant (.str "\r\n") p61 p62) p63) (ds := R) (d := .str (zad [v i])) (kd := .froz) (k := .froz) (j := (a : Int) + m * i) rfl rfl (by kernel_rfl) (by kernel_rfl) rfl
   (za3 (a := .str (zde (v i))) (k1 := .froz) (b := .str "\r\n") (k2 := .froz) (zfb (o := .lst (q.map .str)) (i := .int i) (k1 := .froz) (k2 := .froz) rfl (by kernel_rfl) (by kernel_rfl) (by
    show zjy (q.map .str) (i : Int) = _
    unfold zjy
    have hi : (i : Int) < 2 ^ 62 := by
     have : i <= m * i := Nat.le_mul_of_pos_left i hm.1
     lia
    rw [if_pos (by lia), if_pos hi, Int.toNat_natCast, List.getElem?_map, h2]; rfl)) (za9 rfl) (by
    show (if (zde (v i)).length + ("\r\n" : Str).length <= sizeLine then some (D.str (zde (v i) ++ ("\r\n" : Str)), Kd.froz) else none) = _
    rw [zk0, if_pos ?_, zhh]
    have e1 : (zde (v i)).length = v i := by show (List.replicate (v i) 46).toArray.size = _; simp
    have e2 : crlf.length = 2 := rfl
    rw [e1, e2, sizeLine_eq]; lia)) (by decide)
   (za3 (a := .int a) (k1 := .froz) (b := .int ((m : Int) * i)) (k2 := .froz) (by kernel_rfl) (za3 (a := .int m) (k1 := .froz) (b := .int i) (k2 := .froz) (by kernel_rfl) (by kernel_rfl) hmul) rfl) (by lia) (by rw [hR]; lia) (by lia)
  rw [hidx] at hput
  exact hput
end
end
section
noncomputable def zu8 (p : Int × Int) (k : Nat) : Nat := if (k : Int) % p.1 == p.2 then 1 else 0
theorem zpt : ∀ p ∈ all27, ∀ n : Nat -> Nat, (List.range' 0 (12 / p.1).toNat).foldl (fun R t => R.set (p.2.toNat + p.1.toNat * t) (.str (zad [n (p.2.toNat + p.1.toNat * t) + 2]))) (zbj fun k => zad [n k + 1]) = zbj (fun k => zad [n k + zu8 p k + 1]) := fun p hp n => by revert p; exact zg1 (by kernel_rfl)
theorem zqe : ∀ p ∈ all27, 0 < p.1.toNat /\ p.1.toNat <= 12 /\ p.2.toNat < 12 /\ p = ((p.1.toNat : Int), (p.2.toNat : Int)) /\ (12 / p.1).toNat <= 6 /\ 0 < (12 / p.1).toNat /\ ∀ t, t < (12 / p.1).toNat -> p.2.toNat + p.1.toNat * t < 12 := by decide +kernel
inductive MShape (cd : D) (R : List D) : Mine.St -> Prop
 | zero : MShape cd R ⟨[("classes", cd)], rO R⟩
 | one (p : Int × Int) (s q j : D) : MShape cd R ⟨T1s cd p s q j, rO R⟩
section
variable {w : World} {cd : D}
theorem zpq {p12 p13 : Pos} {k : Nat} {p15 : Pos} {p : Int × Int} (hp : p ∈ all27) {n : Nat -> Nat} (hn : ∀ k, k < 12 -> n k <= 24) {s0 : Mine.St} (hs : MShape cd (zbj fun k => zad [n k + 1]) s0) :
  ∃ s', zg2 (zab w 201) (.Tuple [.Name "m" p12, .Name "a" p13] k p15) (zcc (zae (OC w) ["rows"] (zab w 201) 39) (zeb (stm w 201 1))) s0 (clD p) s' /\ MShape cd (zbj fun k => zad [n k + zu8 p k + 1]) s' := by
 obtain ⟨f1, f2, f3, f4, f5, f6, f7⟩ := zqe p hp
 obtain ⟨pp, kk, CE, e0, hp0, hC⟩ := z01 w
 obtain ⟨pp2, kk2, e1, hp1⟩ := z00 w
 obtain ⟨pp3, kk3, RE, e2, hR⟩ := z0z w
 rw [f201, e0, e1, e2]
 obtain ⟨C, hCC⟩ : ∃ C, C = (12 / p.1).toNat := ⟨_, rfl⟩
 -- the chosen rows
 have hsel : (zy8 p).map n = (List.range C).map fun i => n (p.2.toNat + p.1.toNat * i) := by
  unfold zy8; rw [List.map_map, hCC]; rfl
 obtain ⟨C', hC'⟩ : ∃ C', C = C' + 1 := ⟨C - 1, by lia⟩
 obtain ⟨a, ls, hal⟩ : ∃ a ls, (zy8 p).map n = a :: ls := by
  rw [hsel, hC', List.range_succ_eq_map]; exact ⟨_, _, rfl⟩
 have hlen : (a :: ls).length = C := by rw [<- hal, hsel, List.length_map, List.length_range]
 have hmem : ∀ x ∈ a :: ls, x <= 24 := by
  intro x hx
  rw [<- hal, hsel] at hx
  obtain ⟨i, hi, rfl⟩ := List.mem_map.mp hx
  exact hn _ (f7 i (by rw [<- hCC]; exact List.mem_range.mp hi))
 have hsum : ∀ l : List Nat, (∀ x ∈ l, x <= 24) -> l.sum <= 24 * l.length := by
  intro l
  induction l with
  | nil => intro _; simp
  | cons x l ih => intro h; have := ih fun y hy => h y (.tail _ hy); have := h x (.head _); rw [List.sum_cons, List.length_cons]; lia
 have hS := hsum _ hmem
 rw [hlen] at hS
 rw [List.length_cons] at hlen
 have selD : (zy8 p).map (fun i => D.str (zad [n i + 1])) = (a :: ls).map fun x => .str (zad [x + 1]) := by rw [<- hal, List.map_map]; rfl
 have hget : ∀ t, t < C -> (((a :: ls).map (· + 2)).map zde ++ [Str.mk #[]])[t]? = some (zde (n (p.2.toNat + p.1.toNat * t) + 2)) := by
  intro t ht
  rw [List.getElem?_append_left (by rw [List.length_map, List.length_map, List.length_cons]; lia), <- hal, hsel]
  simp [ht]
 have key : ∀ σ, (σ = T0s cd p ∨ ∃ s q j, σ = T1s cd p s q j) -> ∃ s', zcc (zae (OC w) ["rows"] (zab w 201) 39) [.Assign [.Name "sent" (pp 0)] (.Call (.Name "quotedata" (pp 1)) [.Call (.Attribute (.Constant (.str "") (kk 0) (pp 2)) "join" (pp 3)) [CE] [] (pp 4)] [] (pp 5)) (pp 6), .Assign [.Name "parts" (pp2 0)] (.Call (.Attribute (.Name "sent" (pp2 1)) "split" (pp2 2)) [.Constant (.str "\r\n") (kk2 0) (pp2 3)] [] (pp2 4)) (pp2 5), .For (.Name "j" (pp3 0)) RE [.Assign [.Subscript (.Name "rows" (pp3 1)) (.BinOp (.Name "a" (pp3 2)) .Add (.BinOp (.Name "m" (pp3 3)) .Mult (.Name "j" (pp3 4)) (pp3 5)) (pp3 6)) (pp3 7)] (.BinOp (.Subscript (.Name "parts" (pp3 8)) (.Name "j" (pp3 9)) (pp3 10)) .Add (.Constant (.str "\r\n") (kk3 0) (pp3 11)) (pp3 12)) (pp3 13)] [] (pp3 14)] ⟨σ, rO (zbj fun k => zad [n k + 1])⟩ = some (s', .next) /\ MShape cd (zbj fun k => zad [n k + zu8 p k + 1]) s' := by
  intro σ hσ
  have hcomp : zaa (OC w) 37 ⟨zab w 201, σ, rO (zbj fun k => zad [n k + 1])⟩ CE = some (.lst ((a :: ls).map fun x => .str (zad [x + 1])), .fresh) := by
   rw [<- selD]
   rcases hσ with rfl | ⟨s, q, j, rfl⟩
   ·exact (hC p hp cd (fun k => zad [n k + 1]) .none .none .none).1
   ·exact (hC p hp cd (fun k => zad [n k + 1]) s q j).2
  have hsent := zps (w := w) (p18 := (pp 1)) (p20 := (pp 2)) (p35 := (pp 5)) (p19 := (kk 0)) hp0 hcomp (by lia) (by lia)
  obtain ⟨S, hSd⟩ : ∃ S : D, S = .str (zad ((a :: ls).map (· + 2))) := ⟨_, rfl⟩
  obtain ⟨Q, hQd⟩ : ∃ Q : List Str, Q = ((a :: ls).map (· + 2)).map zde ++ [Str.mk #[]] := ⟨_, rfl⟩
  have hparts : ∀ σ' : List (Str × D), σ'.lookup ("sent" : Str) = some S -> zaa (OC w) 39 ⟨zab w 201, σ', rO (zbj fun k => zad [n k + 1])⟩ (.Call (.Attribute (.Name "sent" (pp2 1)) "split" (pp2 2)) [.Constant (.str "\r\n") (kk2 0) (pp2 3)] [] (pp2 4)) = some (.lst (Q.map .str), .froz) := by
   intro σ' h'
   rw [hSd] at h'
   rw [hQd]
   have := znf (w := w) (R := zbj fun k => zad [n k + 1]) (a := a + 2) (ls := ls.map (· + 2)) (p38 := (pp2 1)) (p41 := (pp2 3)) (p40 := (kk2 0)) hp1 (by
    have := zcf 2 (a :: ls)
    rw [List.map_cons] at this
    rw [this, List.length_cons]; lia) (by rw [List.length_map]; lia) h'
   exact this
  rw [<- hSd] at hsent
  have hq : ∀ t, 0 <= t -> t < 0 + C -> p.2.toNat + p.1.toNat * t < 12 /\ Q[t]? = some (zde (n (p.2.toNat + p.1.toNat * t) + 2)) /\ n (p.2.toNat + p.1.toNat * t) + 2 <= 1000 := by
   intro t _ ht
   have h12 := f7 t (by lia)
   have := hn _ h12
   refine ⟨h12, ?_, by lia⟩
   rw [hQd]; exact hget t (by lia)
  have hst : ∀ j, ∃ j', zbu (zab w 201) (.Name "j" (pp3 0)) (zcc (zae (OC w) ["rows"] (zab w 201) 38) [.Assign [.Subscript (.Name "rows" (pp3 1)) (.BinOp (.Name "a" (pp3 2)) .Add (.BinOp (.Name "m" (pp3 3)) .Mult (.Name "j" (pp3 4)) (pp3 5)) (pp3 6)) (pp3 7)] (.BinOp (.Subscript (.Name "parts" (pp3 8)) (.Name "j" (pp3 9)) (pp3 10)) .Add (.Constant (.str "\r\n") (kk3 0) (pp3 11)) (pp3 12)) (pp3 13)])
    ((List.range' 0 (12 / p.1).toNat).map fun i => .int (i : Nat)) ⟨T1s cd p S (.lst (Q.map .str)) j, rO (zbj fun k => zad [n k + 1])⟩ = some (⟨T1s cd p S (.lst (Q.map .str)) j', rO (zbj fun k => zad [n k + zu8 p k + 1])⟩, .next) := by
   intro j
   obtain ⟨j', e⟩ := zhd (w := w) (cd := cd) (s := S) (q := Q) (m := p.1.toNat) (a := p.2.toNat) ⟨f1, f2⟩ f3 (v := fun t => n (p.2.toNat + p.1.toNat * t) + 2) C 0 (zbj fun k => zad [n k + 1]) j rfl hq (p44 := (pp3 0)) (p51 := (pp3 1)) (p52 := (pp3 2)) (p53 := (pp3 3)) (p54 := (pp3 4)) (p55 := (pp3 5)) (p56 := (pp3 6)) (p57 := (pp3 7)) (p58 := (pp3 8)) (p59 := (pp3 9)) (p60 := (pp3 10)) (p61 := (kk3 0)) (p62 := (pp3 11)) (p63 := (pp3 12)) (p64 := (pp3 13))
   rw [<- f4, hCC, zpt p hp n] at e
   exact ⟨j', e⟩
  rcases hσ with rfl | ⟨s, q, j, rfl⟩
  ·obtain ⟨j', e⟩ := hst .none
   refine ⟨_, zap (c' := ⟨T0s cd p ++ [(("sent" : Str), S)], rO (zbj fun k => zad [n k + 1])⟩) (zai hsent (by kernel_rfl)) (zap (c' := ⟨T2s cd p S (.lst (Q.map .str)), rO (zbj fun k => zad [n k + 1])⟩) (zai (hparts _ (by kernel_rfl)) (by kernel_rfl)) (zap (zin ((hR p hp cd _ S (.lst (Q.map .str)) .none).1) (x := (⟨T1s cd p S (.lst (Q.map .str)) j', rO (zbj fun k => zad [n k + zu8 p k + 1])⟩, .next)) ?_) zce)), .one _ _ _ _⟩
   rw [<- e]
   obtain ⟨C2, hC2⟩ : ∃ C2, (12 / p.1).toNat = C2 + 1 := ⟨C', by lia⟩
   rw [hC2, List.range'_succ, List.map_cons]
   have a1 : za8 (zab w 201) (rO (zbj fun k => zad [n k + 1])) (T2s cd p S (.lst (Q.map .str))) (.Name "j" (pp3 0)) (.int (0 : Nat)) = some (T1s cd p S (.lst (Q.map .str)) (.int (0 : Nat))) := by kernel_rfl
   have a2 : za8 (zab w 201) (rO (zbj fun k => zad [n k + 1])) (T1s cd p S (.lst (Q.map .str)) .none) (.Name "j" (pp3 0)) (.int (0 : Nat)) = some (T1s cd p S (.lst (Q.map .str)) (.int (0 : Nat))) := by kernel_rfl
   rw [zbu, zbu, a1, a2]
  ·obtain ⟨j', e⟩ := hst j
   exact ⟨_, zap (c' := ⟨T1s cd p S q j, rO (zbj fun k => zad [n k + 1])⟩) (zai hsent (by kernel_rfl)) (zap (c' := ⟨T1s cd p S (.lst (Q.map .str)) j, rO (zbj fun k => zad [n k + 1])⟩) (zai (hparts _ (by kernel_rfl)) (by kernel_rfl)) (zap (zin ((hR p hp cd _ S (.lst (Q.map .str)) j).2) e) zce)), .one _ _ _ _⟩
 cases hs with
 | zero =>
  obtain ⟨s', e, h⟩ := key _ (.inl rfl)
  exact ⟨s', ⟨T0s cd p, by kernel_rfl, e⟩, h⟩
 | one p0 s q j =>
  obtain ⟨s', e, h⟩ := key _ (.inr ⟨s, q, j, rfl⟩)
  exact ⟨s', ⟨T1s cd p s q j, by kernel_rfl, e⟩, h⟩
end
end
theorem zkc {r r' : Nat -> Str} (h : ∀ k, k < 12 -> r k = r' k) : zbj r = zbj r' := by
 show [_, _, _, _, _, _, _, _, _, _, _, _] = [_, _, _, _, _, _, _, _, _, _, _, _]
 rw [h 0 (by decide), h 1 (by decide), h 2 (by decide), h 3 (by decide), h 4 (by decide), h 5 (by decide), h 6 (by decide), h 7 (by decide), h 8 (by decide), h 9 (by decide), h 10 (by decide), h 11 (by decide)]
theorem zws (w : World) {c : List (Int × Int)} (hv : ∀ p ∈ c, p ∈ all27) (hl : c.length <= 20) : zaw w (OC w) ["rows"] 201 ps_mail [zbm c] = some (.lst (zbj fun k => zad [zbf c k + 1])) := by
 obtain ⟨pp, kk, e⟩ := b201 w
 refine za5 rfl ?_
 rw [e]
 obtain ⟨s', hq, n, hn, hs⟩ := zh0 (kf := zab w 201) (t := .Tuple [.Name "m" (pp 0), .Name "a" (pp 1)] (kk 0) (pp 2)) (body := zcc (zae (OC w) ["rows"] (zab w 201) 39) (zeb (stm w 201 1)))
  (Inv := fun rest s => ∃ n : Nat -> Nat, (∀ k : Nat, k < 12 -> n k + zbf rest k = zbf c k) /\ MShape (zbm c) (zbj fun k => zad [n k + 1]) s) (fun p r s hp ⟨n, h1, h2⟩ => by
   obtain ⟨s', a, b⟩ := zpq (w := w) (p12 := (pp 0)) (p13 := (pp 1)) (k := (kk 0)) (p15 := (pp 2)) hp (n := n) (fun k hk => by have := h1 k hk; have := zgj c k; lia) h2
   refine ⟨s', a, fun k => n k + zu8 p k, fun k hk => ?_, b⟩
   have := h1 k hk
   rw [zgk] at this
   show n k + zu8 p k + zbf r k = zbf c k
   unfold zu8
   lia) c ⟨[("classes", zbm c)], rO (zbj fun k => zad [0 + 1])⟩ hv ⟨fun _ => 0, fun k hk => Nat.zero_add _, .zero⟩
 refine zah (c' := ⟨[("classes", zbm c)], rO (zbj fun k => zad [0 + 1])⟩) (by kernel_rfl) (by kernel_rfl) ?_
 refine zah (zin (ds := c.map clD) (zrs (d := zbm c) (k := .froz) (by kernel_rfl) (by decide) rfl) hq) rfl ?_
 have hr : zbj (fun k => zad [n k + 1]) = zbj (fun k => zad [zbf c k + 1]) := zkc fun k hk => by
  have := hn k hk
  rw [show zbf [] (k : Int) = 0 from rfl, Nat.add_zero] at this
  rw [this]
 rw [hr] at hs
 cases hs with
 | zero => exact zg4 (k := .brw) (by kernel_rfl)
 | one p s q j => exact zg4 (k := .brw) (by kernel_rfl)
noncomputable def qOf (m h : Int) : Int := if 12 % (m * h) ≠ 0 then 5 - h else h
noncomputable def zbd (p : Int × Int) (h : Int) : Option (List (Int × Int)) := if 12 % (p.1 * qOf p.1 h) = 0 then some ((List.range (qOf p.1 h).toNat).map fun (j : Nat) => (p.1 * qOf p.1 h, p.2 + p.1 * j)) else none
theorem zhu {β : Type} {A B : Int × Int -> List (Int × Int) -> β} {h : Int} (e : znd (fun p => match zbd p h with | some fs => some (A p fs) | none => none) all27 = all27.map fun p => match zbd p h with | some fs => some (B p fs) | none => none) : ∀ p ∈ all27, ∀ fs, zbd p h = some fs -> A p fs = B p fs := fun p hp fs hs => by
 have := zhz e p hp
 rw [hs] at this
 exact Option.some.inj this
theorem zlp {Q : Int × Int -> List (Int × Int) -> Prop} [∀ p fs, Decidable (Q p fs)] (e : (all27.all fun p => [(2 : Int), 3].all fun h => match zbd p h with | some fs => decide (Q p fs) | none => true) = true) : ∀ p ∈ all27, ∀ h, h = 2 ∨ h = 3 -> ∀ fs, zbd p h = some fs -> Q p fs := fun p hp h hh fs hs => by
 have := List.all_eq_true.mp (List.all_eq_true.mp e p hp) h (hh.elim (fun q => q ▸ .head _) fun q => q ▸ .tail _ (.head _))
 rw [hs] at this
 exact of_decide_eq_true this
noncomputable def cb (w : World) (i : Nat) : PySem.Stmt := (zeb (stm w 196 3)).getD i (.Pass default)
noncomputable def ce (w : World) (i : Nat) : PySem.Stmt := (zeb (stm w 196 4)).getD i (.Pass default)
theorem f196 (w : World) : zeb (stm w 196 3) = [cb w 0, cb w 1, cb w 2, cb w 3, cb w 4] /\ zeb (stm w 196 4) = [ce w 0, ce w 1, ce w 2] := ⟨by kernel_rfl, by kernel_rfl⟩
noncomputable abbrev cO (cs : List D) : Option (Str × List D) := some ("classes", cs)
noncomputable abbrev K1 (sc dr : D) (x k m a p : Int) : List (Str × D) := [("script", sc), ("drawn", dr), ("x", .int x), ("k", .int k), ("m", .int m), ("a", .int a), ("p", .int p)]
noncomputable abbrev K2 (sc dr : D) (x k m a p : Int) (f : D) : List (Str × D) := [("script", sc), ("drawn", dr), ("x", .int x), ("k", .int k), ("m", .int m), ("a", .int a), ("p", .int p), ("finer", f)]
theorem z18 (w : World) : ∀ p ∈ all27, ∀ (sc dr f : D) (x k : Int) (cs : List D), 
  (zae (OC w) ["classes"] (zab w 196) 39 ⟨K1 sc dr x k p.1 p.2 2, cO cs⟩ (cb w 3) = some (⟨K1 sc dr x k p.1 p.2 (qOf p.1 2), cO cs⟩, .next) /\ zae (OC w) ["classes"] (zab w 196) 39 ⟨K1 sc dr x k p.1 p.2 3, cO cs⟩ (cb w 3) = some (⟨K1 sc dr x k p.1 p.2 (qOf p.1 3), cO cs⟩, .next)) /\
  zae (OC w) ["classes"] (zab w 196) 39 ⟨K2 sc dr x k p.1 p.2 2 f, cO cs⟩ (cb w 3) = some (⟨K2 sc dr x k p.1 p.2 (qOf p.1 2) f, cO cs⟩, .next) /\ zae (OC w) ["classes"] (zab w 196) 39 ⟨K2 sc dr x k p.1 p.2 3 f, cO cs⟩ (cb w 3) = some (⟨K2 sc dr x k p.1 p.2 (qOf p.1 3) f, cO cs⟩, .next) :=
 fun p hp sc dr f x k cs => ⟨⟨by revert p; exact zg1 (by kernel_rfl), by revert p; exact zg1 (by kernel_rfl)⟩, by revert p; exact zg1 (by kernel_rfl), by revert p; exact zg1 (by kernel_rfl)⟩
theorem zui (w : World) : ∀ p ∈ all27, ∀ (sc dr f : D) (x k : Int) (cs : List D), 
  (zaa (OC w) 38 ⟨zab w 196, K1 sc dr x k p.1 p.2 (qOf p.1 2), cO cs⟩ (ifT (cb w 4)) = some (.bool (zbd p 2).isSome, .froz) /\ zaa (OC w) 38 ⟨zab w 196, K1 sc dr x k p.1 p.2 (qOf p.1 3), cO cs⟩ (ifT (cb w 4)) = some (.bool (zbd p 3).isSome, .froz)) /\
  zaa (OC w) 38 ⟨zab w 196, K2 sc dr x k p.1 p.2 (qOf p.1 2) f, cO cs⟩ (ifT (cb w 4)) = some (.bool (zbd p 2).isSome, .froz) /\ zaa (OC w) 38 ⟨zab w 196, K2 sc dr x k p.1 p.2 (qOf p.1 3) f, cO cs⟩ (ifT (cb w 4)) = some (.bool (zbd p 3).isSome, .froz) :=
 fun p hp sc dr f x k cs => ⟨⟨by revert p; exact zg1 (by kernel_rfl), by revert p; exact zg1 (by kernel_rfl)⟩, by revert p; exact zg1 (by kernel_rfl), by revert p; exact zg1 (by kernel_rfl)⟩
theorem zq7 (w : World) : ∃ (pp : Nat -> Pos) (kk : Nat -> Nat) (F : _), cb w 4 = .If (ifT (cb w 4)) [F, .Assign [.Name "classes" (pp 0)] (.BinOp (.BinOp (.Subscript (.Name "classes" (pp 1)) (.Slice none (some (.Name "k" (pp 2))) none (pp 3)) (pp 4)) .Add (.Name "finer" (pp 5)) (pp 6)) .Add (.Subscript (.Name "classes" (pp 7)) (.Slice (some (.BinOp (.Name "k" (pp 8)) .Add (.Constant (.int 1) (kk 0) (pp 9)) (pp 10))) none none (pp 11)) (pp 12)) (pp 13)) (pp 14)] [] (pp 15) /\
  ∀ p ∈ all27, ∀ (sc dr f : D) (x k : Int) (cs : List D) (h : Int) (fs : List (Int × Int)), h = 2 ∨ h = 3 -> zbd p h = some fs -> zae (OC w) ["classes"] (zab w 196) 38 ⟨K1 sc dr x k p.1 p.2 (qOf p.1 h), cO cs⟩ F = some (⟨K2 sc dr x k p.1 p.2 (qOf p.1 h) (zbm fs), cO cs⟩, .next) /\ zae (OC w) ["classes"] (zab w 196) 38 ⟨K2 sc dr x k p.1 p.2 (qOf p.1 h) f, cO cs⟩ F = some (⟨K2 sc dr x k p.1 p.2 (qOf p.1 h) (zbm fs), cO cs⟩, .next) :=
 ⟨fun i => [_, _, _, _, _, _, _, _, _, _, _, _, _, _, _, _].getD i default, fun i => [_].getD i 0, _, rfl, fun p hp sc dr f x k cs h fs hh hs => by
  rcases hh with rfl | rfl
  ·exact ⟨by revert fs p; exact zhu (by kernel_rfl), by revert fs p; exact zhu (by kernel_rfl)⟩
  ·exact ⟨by revert fs p; exact zhu (by kernel_rfl), by revert fs p; exact zhu (by kernel_rfl)⟩⟩
section
theorem kf196 (w : World) : zab w 196 "len" = some .globalImplicit := by kernel_rfl
theorem z0n (w : World) (args : List D) : (OC w).fn "len" args = none := by kernel_rfl
theorem zq9 (w : World) : ∃ (pp : Nat -> Pos), cb w 0 = .Assign [.Name "k" (pp 0)] (.BinOp (.Name "x" (pp 1)) .Mod (.Call (.Name "len" (pp 2)) [.Name "classes" (pp 3)] [] (pp 4)) (pp 5)) (pp 6) := ⟨fun i => [_, _, _, _, _, _, _].getD i default, rfl⟩
theorem zq6 (w : World) : ∃ (pp : Nat -> Pos), ce w 0 = .Assign [.Name "k" (pp 0)] (.BinOp (.Name "x" (pp 1)) .Mod (.Call (.Name "len" (pp 2)) [.Name "classes" (pp 3)] [] (pp 4)) (pp 5)) (pp 6) := ⟨fun i => [_, _, _, _, _, _, _].getD i default, rfl⟩
theorem zq8 (w : World) : ∃ (pp : Nat -> Pos) (kk : Nat -> Nat), cb w 1 = .Assign [.Tuple [.Name "m" (pp 0), .Name "a" (pp 1)] (kk 0) (pp 2)] (.Subscript (.Name "classes" (pp 3)) (.Name "k" (pp 4)) (pp 5)) (pp 6) := ⟨fun i => [_, _, _, _, _, _, _].getD i default, fun i => [_].getD i 0, rfl⟩
theorem zq5 (w : World) : ∃ (pp : Nat -> Pos) (kk : Nat -> Nat), ce w 1 = .Assign [.Tuple [.Name "m" (pp 0), .Name "a" (pp 1)] (kk 0) (pp 2)] (.Subscript (.Name "classes" (pp 3)) (.Name "k" (pp 4)) (pp 5)) (pp 6) := ⟨fun i => [_, _, _, _, _, _, _].getD i default, fun i => [_].getD i 0, rfl⟩
section
variable {w : World} {σ σ' : List (Str × D)} {c : List (Int × Int)}
theorem zvi {n : Nat} {p76 p77 p78 : Pos} (hl : c.length <= 100) (hno : σ.lookup ("classes" : Str) = none) : zaa (OC w) (n + 2) ⟨zab w 196, σ, cO (c.map clD)⟩ (.Call (.Name "len" p76) [.Name "classes" p77] [] p78) = some (.int c.length, .froz) := by
 refine zio (l := [(.lst (c.map clD), .brw)]) (kf196 w) (by decide +kernel) (zaj (zal (zn4 (by decide +kernel) hno rfl)) zbc) (z0n w _) ?_
 rw [show zis "len" = zbr from funext fun l => if_pos rfl]
 unfold zbr
 dsimp only
 rw [if_pos (by rw [List.length_map, sizeLine_eq]; lia), List.length_map]; rfl
theorem zvh {n : Nat} {x : Int} {p75 p76 p77 p78 p79 : Pos} (hc : c ≠ []) (hl : c.length <= 100) (hno : σ.lookup ("classes" : Str) = none) (hx : σ.lookup ("x" : Str) = some (.int x)) : zaa (OC w) (n + 3) ⟨zab w 196, σ, cO (c.map clD)⟩ (.BinOp (.Name "x" p75) .Mod (.Call (.Name "len" p76) [.Name "classes" p77] [] p78) p79) = some (.int (x.fmod c.length), .froz) := by
 refine za3 (a := .int x) (k1 := .froz) (zal (za2 (by decide +kernel) hx)) (zvi hl hno) ?_
 show (if (c.length : Int) ≠ 0 then some (D.int (x.fmod c.length)) else none).map (·, Kd.froz) = _
 have : 0 < c.length := List.length_pos_iff.mpr hc
 rw [if_pos (by lia)]; rfl
theorem z1w {n : Nat} {i : Nat} {p : Int × Int} {p85 p86 p87 : Pos} (hi : c[i]? = some p) (hl : c.length <= 100) (hno : σ.lookup ("classes" : Str) = none) (hk : σ.lookup ("k" : Str) = some (.int i)) : zaa (OC w) (n + 2) ⟨zab w 196, σ, cO (c.map clD)⟩ (.Subscript (.Name "classes" p85) (.Name "k" p86) p87) = some (clD p, .froz) := by
 have hlt : i < c.length := (List.getElem?_eq_some_iff.mp hi).1
 refine zfb (o := .lst (c.map clD)) (k1 := .brw) (i := .int i) (k2 := .froz) rfl (zal (zn4 (by decide +kernel) hno rfl)) (zal (za2 (by decide +kernel) hk)) ?_
 show zjy (c.map clD) (i : Int) = _
 unfold zjy
 rw [if_pos (by lia), if_pos (by lia), Int.toNat_natCast, List.getElem?_map, hi]; rfl
theorem zl9 {x : Int} (hc : c ≠ []) : ∃ (i : Nat) (p : Int × Int), x.fmod c.length = i /\ c[i]? = some p /\ p ∈ c := by
 have h0 : 0 < c.length := List.length_pos_iff.mpr hc
 have e : x.fmod c.length = x % c.length := Int.fmod_eq_emod_of_nonneg _ (by lia)
 have h1 := Int.emod_nonneg x (show (c.length : Int) ≠ 0 by lia)
 have h2 := Int.emod_lt_of_pos x (show (0 : Int) < c.length by lia)
 have hlt : (x % c.length).toNat < c.length := by lia
 exact ⟨(x % c.length).toNat, c[(x % c.length).toNat], by rw [e]; lia, List.getElem?_eq_getElem hlt, List.getElem_mem hlt⟩
theorem z1v {n : Nat} {i : Nat} {fs : List (Int × Int)} {p145 p146 p147 p148 p149 p150 p151 p152 p154 p155 p156 p157 p158 : Pos} {p153 : Nat} (hl : c.length <= 100) (hf : fs.length <= 100) (hno : σ.lookup ("classes" : Str) = none) (hk : σ.lookup ("k" : Str) = some (.int i)) (hfi : σ.lookup ("finer" : Str) = some (zbm fs)) :
  zaa (OC w) (n + 5) ⟨zab w 196, σ, cO (c.map clD)⟩ (.BinOp (.BinOp (.Subscript (.Name "classes" p145) (.Slice none (some (.Name "k" p146)) none p147) p148) .Add (.Name "finer" p149) p150) .Add (.Subscript (.Name "classes" p151) (.Slice (some (.BinOp (.Name "k" p152) .Add (.Constant (.int 1) p153 p154) p155)) none none p156) p157) p158) = some (.lst ((c.take i ++ fs ++ c.drop (i + 1)).map clD), .fresh) := by
 have hz : (c.map clD).length <= sizeLine := by rw [List.length_map, sizeLine_eq]; lia
 have own : ∀ {m : Nat} {q : Pos}, zaa (OC w) (m + 1) ⟨zab w 196, σ, cO (c.map clD)⟩ (.Name "classes" q) = some (.lst (c.map clD), .brw) := zal (zn4 (by decide +kernel) hno rfl)
 refine za3 (a := .lst ((c.take i ++ fs).map clD)) (k1 := .fresh) (b := .lst ((c.drop (i + 1)).map clD)) (k2 := .fresh) (za3 (a := .lst ((c.take i).map clD)) (k1 := .fresh) (b := .lst (fs.map clD)) (k2 := .froz) (zmm (j := i) (k2 := .froz) own (zal (za2 (by decide +kernel) hk)) ?_) (zal (za2 (by decide +kernel) hfi)) ?_) (zu0 (j := ((i + 1 : Nat) : Int)) (k2 := .froz) own (za3 (a := .int i) (k1 := .froz) (b := .int 1) (k2 := .froz) (zal (za2 (by decide +kernel) hk)) (za9 rfl) rfl) ?_) ?_
 ·show zds (c.map clD) none (some (i : Int)) = _
  unfold zds
  rw [if_pos hz]; dsimp only; rw [if_pos (by lia), Int.toNat_natCast, List.map_take]
 ·show (if ((c.take i).map clD).length + (fs.map clD).length <= sizeLine then some (D.lst ((c.take i).map clD ++ fs.map clD), Kd.fresh) else none) = _
  rw [if_pos (by rw [List.length_map, List.length_map, List.length_take, sizeLine_eq]; lia), List.map_append]
 ·show zds (c.map clD) (some ((i + 1 : Nat) : Int)) none = _
  unfold zds
  rw [if_pos hz]; dsimp only; rw [if_pos (by lia), Int.toNat_natCast, List.map_drop]
 ·show (if ((c.take i ++ fs).map clD).length + ((c.drop (i + 1)).map clD).length <= sizeLine then some (D.lst ((c.take i ++ fs).map clD ++ (c.drop (i + 1)).map clD), Kd.fresh) else none) = _
  rw [if_pos (by rw [List.length_map, List.length_map, List.length_append, List.length_take, List.length_drop, sizeLine_eq]; lia), <- List.map_append]
end
end
section
inductive KShape (sc dr : D) : List (Str × D) -> Prop
 | zero : KShape sc dr [("script", sc), ("drawn", dr)]
 | one (x k m a p : Int) : KShape sc dr (K1 sc dr x k m a p)
 | two (x k m a p : Int) (f : D) : KShape sc dr (K2 sc dr x k m a p f)
noncomputable def zim (c c' : List (Int × Int)) : Prop := c' = c ∨ ∃ i p h fs, c[i]? = some p /\ (h = 2 ∨ h = 3) /\ zbd p h = some fs /\ c' = c.take i ++ fs ++ c.drop (i + 1)
theorem zov : ∀ p ∈ all27, ∀ h, h = 2 ∨ h = 3 -> ∀ fs, zbd p h = some fs -> fs.length <= 3 := zlp (by kernel_rfl)
section
variable {w : World} {sc dr : D} {c : List (Int × Int)}
theorem zmx {p : Int × Int} (hp : p ∈ all27) {i : Nat} (hi : c[i]? = some p) (hl : c.length <= 100) {x h : Int} (hh : h = 2 ∨ h = 3) {σ : List (Str × D)} (hσ : σ = K1 sc dr x i p.1 p.2 h ∨ ∃ f, σ = K2 sc dr x i p.1 p.2 h f) :
  ∃ σ' c', zcc (zae (OC w) ["classes"] (zab w 196) 39) [cb w 3, cb w 4] ⟨σ, cO (c.map clD)⟩ = some (⟨σ', cO (c'.map clD)⟩, .next) /\ KShape sc dr σ' /\ zim c c' := by
 obtain ⟨pp, kk, F, e4, hF⟩ := zq7 w
 have h3 : ∀ f, zae (OC w) ["classes"] (zab w 196) 39 ⟨K1 sc dr x i p.1 p.2 h, cO (c.map clD)⟩ (cb w 3) = some (⟨K1 sc dr x i p.1 p.2 (qOf p.1 h), cO (c.map clD)⟩, .next) /\ zae (OC w) ["classes"] (zab w 196) 39 ⟨K2 sc dr x i p.1 p.2 h f, cO (c.map clD)⟩ (cb w 3) = some (⟨K2 sc dr x i p.1 p.2 (qOf p.1 h) f, cO (c.map clD)⟩, .next) := by
  intro f
  obtain ⟨⟨a1, a2⟩, a3, a4⟩ := z18 w p hp sc dr f x i (c.map clD)
  rcases hh with rfl | rfl
  ·exact ⟨a1, a3⟩
  ·exact ⟨a2, a4⟩
 have ht : ∀ f, zaa (OC w) 38 ⟨zab w 196, K1 sc dr x i p.1 p.2 (qOf p.1 h), cO (c.map clD)⟩ (ifT (cb w 4)) = some (.bool (zbd p h).isSome, .froz) /\ zaa (OC w) 38 ⟨zab w 196, K2 sc dr x i p.1 p.2 (qOf p.1 h) f, cO (c.map clD)⟩ (ifT (cb w 4)) = some (.bool (zbd p h).isSome, .froz) := by
  intro f
  obtain ⟨⟨a1, a2⟩, a3, a4⟩ := zui w p hp sc dr f x i (c.map clD)
  rcases hh with rfl | rfl
  ·exact ⟨a1, a3⟩
  ·exact ⟨a2, a4⟩
 rw [e4]
 rw [show ifT (cb w 4) = ifT (cb w 4) from rfl] at ht
 cases hs : zbd p h with
 | none =>
  rw [hs] at ht
  rcases hσ with rfl | ⟨f, rfl⟩
  ·exact ⟨_, c, zap (h3 .none).1 (zap (zn3 (ht .none).1 rfl zce) zce), .one .., .inl rfl⟩
  ·exact ⟨_, c, zap (h3 f).2 (zap (zn3 (ht f).2 rfl zce) zce), .two .., .inl rfl⟩
 | some fs =>
  rw [hs] at ht
  have hfl := zov p hp h hh fs hs
  have cut : ∀ σ' : List (Str × D), σ' = K2 sc dr x i p.1 p.2 (qOf p.1 h) (zbm fs) -> zae (OC w) ["classes"] (zab w 196) 38 ⟨σ', cO (c.map clD)⟩ (.Assign [.Name "classes" (pp 0)] (.BinOp (.BinOp (.Subscript (.Name "classes" (pp 1)) (.Slice none (some (.Name "k" (pp 2))) none (pp 3)) (pp 4)) .Add (.Name "finer" (pp 5)) (pp 6)) .Add (.Subscript (.Name "classes" (pp 7)) (.Slice (some (.BinOp (.Name "k" (pp 8)) .Add (.Constant (.int 1) (kk 0) (pp 9)) (pp 10))) none none (pp 11)) (pp 12)) (pp 13)) (pp 14)) = some (⟨K2 sc dr x i p.1 p.2 (qOf p.1 h) (zbm fs), cO ((c.take i ++ fs ++ c.drop (i + 1)).map clD)⟩, .next) := by
   rintro σ' rfl
   exact zai (z1v (n := 33) (i := i) (fs := fs) hl (by lia) (by kernel_rfl) (by kernel_rfl) (by kernel_rfl)) (by kernel_rfl)
  obtain ⟨b1, b2⟩ := hF p hp sc dr .none x i (c.map clD) h fs hh hs
  rcases hσ with rfl | ⟨f, rfl⟩
  ·exact ⟨_, _, zap (h3 .none).1 (zap (zn2 (ht .none).1 rfl (zap b1 (zap (cut _ rfl) zce))) zce), .two .., .inr ⟨i, p, h, fs, hi, hh, hs, rfl⟩⟩
  ·obtain ⟨b1, b2⟩ := hF p hp sc dr f x i (c.map clD) h fs hh hs
   exact ⟨_, _, zap (h3 f).2 (zap (zn2 (ht f).2 rfl (zap b2 (zap (cut _ rfl) zce))) zce), .two .., .inr ⟨i, p, h, fs, hi, hh, hs, rfl⟩⟩
end
end
section
section
variable {w : World} {sc dr : D} {c : List (Int × Int)}
theorem zxg (x : Int) : (2 : Int) + (x.fdiv 10).fmod 2 = 2 ∨ (2 : Int) + (x.fdiv 10).fmod 2 = 3 := by
 have h1 : (x.fdiv 10).fmod 2 = (x.fdiv 10) % 2 := Int.fmod_eq_emod_of_nonneg _ (by decide)
 rw [h1]; lia
theorem zek (hc : c ≠ []) (hv : ∀ p ∈ c, p ∈ all27) (hl : c.length <= 100) {σ : List (Str × D)} (hs : KShape sc dr σ) (x : Int) {p68 : Pos} :
  ∃ σ' c', zg2 (zab w 196) (.Name "x" p68) (zcc (zae (OC w) ["classes"] (zab w 196) 39) (zeb (stm w 196 3))) ⟨σ, cO (c.map clD)⟩ (.int x) ⟨σ', cO (c'.map clD)⟩ /\ KShape sc dr σ' /\ zim c c' := by
 obtain ⟨i, p, e1, e2, hpc⟩ := zl9 (x := x) hc
 have hp := hv p hpc
 obtain ⟨pp, s0⟩ := zq9 w
 obtain ⟨pp2, kk2, s1⟩ := zq8 w
 rw [(f196 w).1, s0, s1]
 have key : ∀ σ1 σ2 σ3 σ4 : List (Str × D), σ1.lookup ("classes" : Str) = none -> σ1.lookup ("x" : Str) = some (.int x) -> zsb ["classes"] (zab w 196) ⟨σ1, cO (c.map clD)⟩ "k" (.int i, .froz) = some ⟨σ2, cO (c.map clD)⟩ ->
   σ2.lookup ("classes" : Str) = none -> σ2.lookup ("k" : Str) = some (.int i) -> za8 (zab w 196) (cO (c.map clD)) σ2 (.Tuple [.Name "m" (pp2 0), .Name "a" (pp2 1)] (kk2 0) (pp2 2)) (clD p) = some σ3 ->
   zae (OC w) ["classes"] (zab w 196) 39 ⟨σ3, cO (c.map clD)⟩ (cb w 2) = some (⟨σ4, cO (c.map clD)⟩, .next) -> (σ4 = K1 sc dr x i p.1 p.2 (2 + (x.fdiv 10).fmod 2) ∨ ∃ f, σ4 = K2 sc dr x i p.1 p.2 (2 + (x.fdiv 10).fmod 2) f) ->
   ∃ σ' c', zcc (zae (OC w) ["classes"] (zab w 196) 39) [.Assign [.Name "k" (pp 0)] (.BinOp (.Name "x" (pp 1)) .Mod (.Call (.Name "len" (pp 2)) [.Name "classes" (pp 3)] [] (pp 4)) (pp 5)) (pp 6), .Assign [.Tuple [.Name "m" (pp2 0), .Name "a" (pp2 1)] (kk2 0) (pp2 2)] (.Subscript (.Name "classes" (pp2 3)) (.Name "k" (pp2 4)) (pp2 5)) (pp2 6), cb w 2, cb w 3, cb w 4] ⟨σ1, cO (c.map clD)⟩ = some (⟨σ', cO (c'.map clD)⟩, .next) /\ KShape sc dr σ' /\ zim c c' := by
  intro σ1 σ2 σ3 σ4 a1 a2 a3 a4 a5 a6 a7 a8
  obtain ⟨σ', c', h1, h2, h3⟩ := zmx (w := w) hp e2 hl (zxg x) a8
  refine ⟨σ', c', ?_, h2, h3⟩
  have hm := zvh (w := w) (n := 36) (p75 := (pp 1)) (p76 := (pp 2)) (p77 := (pp 3)) (p78 := (pp 4)) (p79 := (pp 5)) hc hl a1 a2
  rw [e1] at hm
  exact zap (zai hm a3) (zap (zrp rfl (z1w (n := 36) e2 hl a4 a5) (by decide) a6) (zap a7 h1))
 cases hs with
 | zero =>
  obtain ⟨σ', c', h1, h2, h3⟩ := key [("script", sc), ("drawn", dr), ("x", .int x)] [("script", sc), ("drawn", dr), ("x", .int x), ("k", .int i)] [("script", sc), ("drawn", dr), ("x", .int x), ("k", .int i), ("m", .int p.1), ("a", .int p.2)] (K1 sc dr x i p.1 p.2 (2 + (x.fdiv 10).fmod 2)) (by kernel_rfl) (by kernel_rfl) (by kernel_rfl) (by kernel_rfl) (by kernel_rfl) (by kernel_rfl) (by kernel_rfl) (.inl rfl)
  exact ⟨σ', c', ⟨_, by kernel_rfl, h1⟩, h2, h3⟩
 | one x0 k m a q =>
  obtain ⟨σ', c', h1, h2, h3⟩ := key (K1 sc dr x k m a q) (K1 sc dr x i m a q) (K1 sc dr x i p.1 p.2 q) (K1 sc dr x i p.1 p.2 (2 + (x.fdiv 10).fmod 2)) (by kernel_rfl) (by kernel_rfl) (by kernel_rfl) (by kernel_rfl) (by kernel_rfl) (by kernel_rfl) (by kernel_rfl) (.inl rfl)
  exact ⟨σ', c', ⟨_, by kernel_rfl, h1⟩, h2, h3⟩
 | two x0 k m a q f =>
  obtain ⟨σ', c', h1, h2, h3⟩ := key (K2 sc dr x k m a q f) (K2 sc dr x i m a q f) (K2 sc dr x i p.1 p.2 q f) (K2 sc dr x i p.1 p.2 (2 + (x.fdiv 10).fmod 2) f) (by kernel_rfl) (by kernel_rfl) (by kernel_rfl) (by kernel_rfl) (by kernel_rfl) (by kernel_rfl) (by kernel_rfl) (.inr ⟨f, rfl⟩)
  exact ⟨σ', c', ⟨_, by kernel_rfl, h1⟩, h2, h3⟩
end
end
section
noncomputable abbrev K4 (sc dr : D) (x k m a : Int) : List (Str × D) := [("script", sc), ("drawn", dr), ("x", .int x), ("k", .int k), ("m", .int m), ("a", .int a)]
inductive VShape (sc dr : D) : List (Str × D) -> Prop
 | zero : VShape sc dr [("script", sc), ("drawn", dr)]
 | four (x k m a : Int) : VShape sc dr (K4 sc dr x k m a)
 | one (x k m a p : Int) : VShape sc dr (K1 sc dr x k m a p)
 | two (x k m a p : Int) (f : D) : VShape sc dr (K2 sc dr x k m a p f)
theorem KShape.v {sc dr : D} {σ : List (Str × D)} (h : KShape sc dr σ) : VShape sc dr σ := by
 cases h
 ·exact .zero
 ·exact .one ..
 ·exact .two ..
noncomputable def zrq (c c' : List (Int × Int)) : Prop := ∃ (i : Nat) (p : Int × Int) (y : Int), c[i]? = some p /\ c' = c.set i (p.1, (p.2 + y).fmod p.1)
theorem zq4 (w : World) : ∃ (pp : Nat -> Pos) (kk : Nat -> Nat), ce w 2 = .Assign [.Subscript (.Name "classes" (pp 0)) (.Name "k" (pp 1)) (pp 2)] (.Tuple [.Name "m" (pp 3), .BinOp (.BinOp (.Name "a" (pp 4)) .Add (.BinOp (.Name "x" (pp 5)) .FloorDiv (.Call (.Name "len" (pp 6)) [.Name "classes" (pp 7)] [] (pp 8)) (pp 9)) (pp 10)) .Mod (.Name "m" (pp 11)) (pp 12)] (kk 0) (pp 13)) (pp 14) :=
 ⟨fun i => [_, _, _, _, _, _, _, _, _, _, _, _, _, _, _].getD i default, fun i => [_].getD i 0, rfl⟩
section
variable {w : World} {sc dr : D} {c : List (Int × Int)}
theorem zjb (hc : c ≠ []) (hv : ∀ p ∈ c, p ∈ all27) (hl : c.length <= 100) {σ : List (Str × D)} (hs : VShape sc dr σ) (x : Int) {p68 : Pos} :
  ∃ σ' c', zg2 (zab w 196) (.Name "x" p68) (zcc (zae (OC w) ["classes"] (zab w 196) 39) (zeb (stm w 196 4))) ⟨σ, cO (c.map clD)⟩ (.int x) ⟨σ', cO (c'.map clD)⟩ /\ VShape sc dr σ' /\ zrq c c' := by
 obtain ⟨i, p, e1, e2, hpc⟩ := zl9 (x := x) hc
 have hp := hv p hpc
 have hlt : i < c.length := (List.getElem?_eq_some_iff.mp e2).1
 have hm0 : p.1 ≠ 0 := by
  have : ∀ p ∈ all27, p.1 ≠ 0 := by decide +kernel
  exact this p hp
 obtain ⟨pp, s0⟩ := zq6 w
 obtain ⟨pp2, kk2, s1⟩ := zq5 w
 obtain ⟨pp3, kk3, s2⟩ := zq4 w
 rw [(f196 w).2, s0, s1, s2]
 have key : ∀ σ1 σ2 σ3 : List (Str × D), σ1.lookup ("classes" : Str) = none -> σ1.lookup ("x" : Str) = some (.int x) -> zsb ["classes"] (zab w 196) ⟨σ1, cO (c.map clD)⟩ "k" (.int i, .froz) = some ⟨σ2, cO (c.map clD)⟩ ->
   σ2.lookup ("classes" : Str) = none -> σ2.lookup ("k" : Str) = some (.int i) -> za8 (zab w 196) (cO (c.map clD)) σ2 (.Tuple [.Name "m" (pp2 0), .Name "a" (pp2 1)] (kk2 0) (pp2 2)) (clD p) = some σ3 ->
   σ3.lookup ("classes" : Str) = none -> σ3.lookup ("k" : Str) = some (.int i) -> σ3.lookup ("m" : Str) = some (.int p.1) -> σ3.lookup ("a" : Str) = some (.int p.2) -> σ3.lookup ("x" : Str) = some (.int x) -> VShape sc dr σ3 ->
   ∃ σ' c', zcc (zae (OC w) ["classes"] (zab w 196) 39) [.Assign [.Name "k" (pp 0)] (.BinOp (.Name "x" (pp 1)) .Mod (.Call (.Name "len" (pp 2)) [.Name "classes" (pp 3)] [] (pp 4)) (pp 5)) (pp 6), .Assign [.Tuple [.Name "m" (pp2 0), .Name "a" (pp2 1)] (kk2 0) (pp2 2)] (.Subscript (.Name "classes" (pp2 3)) (.Name "k" (pp2 4)) (pp2 5)) (pp2 6), .Assign [.Subscript (.Name "classes" (pp3 0)) (.Name "k" (pp3 1)) (pp3 2)] (.Tuple [.Name "m" (pp3 3), .BinOp (.BinOp (.Name "a" (pp3 4)) .Add (.BinOp (.Name "x" (pp3 5)) .FloorDiv (.Call (.Name "len" (pp3 6)) [.Name "classes" (pp3 7)] [] (pp3 8)) (pp3 9)) (pp3 10)) .Mod (.Name "m" (pp3 11)) (pp3 12)] (kk3 0) (pp3 13)) (pp3 14)] ⟨σ1, cO (c.map clD)⟩ = some (⟨σ', cO (c'.map clD)⟩, .next) /\ VShape sc dr σ' /\ zrq c c' := by
  intro σ1 σ2 σ3 a1 a2 a3 a4 a5 a6 b1 b2 b3 b4 b5 b6
  have hm := zvh (w := w) (n := 36) (p75 := (pp 1)) (p76 := (pp 2)) (p77 := (pp 3)) (p78 := (pp 4)) (p79 := (pp 5)) hc hl a1 a2
  rw [e1] at hm
  refine ⟨σ3, c.set i (p.1, (p.2 + x.fdiv c.length).fmod p.1), zap (zai hm a3) (zap (zrp rfl (z1w (n := 36) e2 hl a4 a5) (by decide) a6) (zap ?_ zce)), b6, i, p, x.fdiv c.length, e2, rfl⟩
  have hput := zyv (O := OC w) (mv := ["classes"]) (kf := zab w 196) (n := 38) (c := ⟨σ3, cO (c.map clD)⟩) (x := "classes") (p1 := (pp3 0)) (p2 := (pp3 2)) (p3 := (pp3 14)) (i := .Name "k" (pp3 1)) (e := .Tuple [.Name "m" (pp3 3), .BinOp (.BinOp (.Name "a" (pp3 4)) .Add (.BinOp (.Name "x" (pp3 5)) .FloorDiv (.Call (.Name "len" (pp3 6)) [.Name "classes" (pp3 7)] [] (pp3 8)) (pp3 9)) (pp3 10)) .Mod (.Name "m" (pp3 11)) (pp3 12)] (kk3 0) (pp3 13)) (ds := c.map clD) (d := clD (p.1, (p.2 + x.fdiv c.length).fmod p.1)) (kd := .froz) (k := .froz) (j := i) rfl rfl b1 (by decide +kernel) rfl
   (zrt (l := [(.int p.1, .froz), (.int ((p.2 + x.fdiv c.length).fmod p.1), .froz)]) (zaj (zal (za2 (by decide +kernel) b3)) (zaj (za3 (a := .int (p.2 + x.fdiv c.length)) (k1 := .froz) (b := .int p.1) (k2 := .froz) (za3 (a := .int p.2) (k1 := .froz) (b := .int (x.fdiv c.length)) (k2 := .froz) (zal (za2 (by decide +kernel) b4)) (za3 (a := .int x) (k1 := .froz) (b := .int c.length) (k2 := .froz) (zal (za2 (by decide +kernel) b5)) (zvi hl b1) (by
    show (if (c.length : Int) ≠ 0 /\ (c.length : Int).natAbs < 1073741824 then some (D.int (x.fdiv c.length)) else none).map (·, Kd.froz) = _
    rw [if_pos ⟨by lia, by lia⟩]; rfl)) rfl) (zal (za2 (by decide +kernel) b3)) (by
    show (if p.1 ≠ 0 then some (D.int ((p.2 + x.fdiv c.length).fmod p.1)) else none).map (·, Kd.froz) = _
    rw [if_pos hm0]; rfl)) zbc)) rfl (by rw [sizeLine_eq]; exact Nat.le_of_ble_eq_true rfl)) (by decide) (zal (za2 (by decide +kernel) b2)) (by lia) (by rw [List.length_map]; lia) (by lia)
  rw [Int.toNat_natCast, <- List.map_set] at hput
  exact hput
 cases hs with
 | zero =>
  obtain ⟨σ', c', h1, h2, h3⟩ := key [("script", sc), ("drawn", dr), ("x", .int x)] [("script", sc), ("drawn", dr), ("x", .int x), ("k", .int i)] (K4 sc dr x i p.1 p.2) (by kernel_rfl) (by kernel_rfl) (by kernel_rfl) (by kernel_rfl) (by kernel_rfl) (by kernel_rfl) (by kernel_rfl) (by kernel_rfl) (by kernel_rfl) (by kernel_rfl) (by kernel_rfl) (.four ..)
  exact ⟨σ', c', ⟨_, by kernel_rfl, h1⟩, h2, h3⟩
 | four x0 k m a =>
  obtain ⟨σ', c', h1, h2, h3⟩ := key (K4 sc dr x k m a) (K4 sc dr x i m a) (K4 sc dr x i p.1 p.2) (by kernel_rfl) (by kernel_rfl) (by kernel_rfl) (by kernel_rfl) (by kernel_rfl) (by kernel_rfl) (by kernel_rfl) (by kernel_rfl) (by kernel_rfl) (by kernel_rfl) (by kernel_rfl) (.four ..)
  exact ⟨σ', c', ⟨_, by kernel_rfl, h1⟩, h2, h3⟩
 | one x0 k m a q =>
  obtain ⟨σ', c', h1, h2, h3⟩ := key (K1 sc dr x k m a q) (K1 sc dr x i m a q) (K1 sc dr x i p.1 p.2 q) (by kernel_rfl) (by kernel_rfl) (by kernel_rfl) (by kernel_rfl) (by kernel_rfl) (by kernel_rfl) (by kernel_rfl) (by kernel_rfl) (by kernel_rfl) (by kernel_rfl) (by kernel_rfl) (.one ..)
  exact ⟨σ', c', ⟨_, by kernel_rfl, h1⟩, h2, h3⟩
 | two x0 k m a q f =>
  obtain ⟨σ', c', h1, h2, h3⟩ := key (K2 sc dr x k m a q f) (K2 sc dr x i m a q f) (K2 sc dr x i p.1 p.2 q f) (by kernel_rfl) (by kernel_rfl) (by kernel_rfl) (by kernel_rfl) (by kernel_rfl) (by kernel_rfl) (by kernel_rfl) (by kernel_rfl) (by kernel_rfl) (by kernel_rfl) (by kernel_rfl) (.two ..)
  exact ⟨σ', c', ⟨_, by kernel_rfl, h1⟩, h2, h3⟩
end
end
structure Stg (c : List (Int × Int)) (n t : Nat) : Prop where
 val : ∀ p ∈ c, p ∈ all27
 sum : (c.map fun p => 12 / p.1).sum = 24
 len : c.length <= n
 tw : twN c <= t
theorem zka : ∀ p ∈ all27, ∀ h, h = 2 ∨ h = 3 -> ∀ fs, zbd p h = some fs -> (∀ q ∈ fs, q ∈ all27) /\ (fs.map fun p => 12 / p.1).sum = 12 / p.1 /\ twN fs <= 3 /\ fs.length <= 3 /\ (p.1 <= 3 -> twN fs = 0) := zlp (by kernel_rfl)
theorem zck (a b : List (Int × Int)) : twN (a ++ b) = twN a + twN b := by unfold twN; simp
theorem zlt {c : List (Int × Int)} {i : Nat} {p : Int × Int} (h : c[i]? = some p) : c = c.take i ++ p :: c.drop (i + 1) := by
 have hlt := (List.getElem?_eq_some_iff.mp h).1
 have e := (List.getElem?_eq_some_iff.mp h).2
 rw [<- e, List.getElem_cons_drop, List.take_append_drop]
theorem Stg.split {c c' : List (Int × Int)} {n t t' : Nat} (S : Stg c n t) (h : zim c c') (ht : t + 3 <= t' ∨ (t = 0 /\ ∀ p ∈ c, p.1 <= 3)) : Stg c' (n + 2) t' := by
 rcases h with rfl | ⟨i, p, h, fs, hi, hh, hs, rfl⟩
 ·exact ⟨S.val, S.sum, Nat.le_trans S.len (by lia), by have := S.tw; lia⟩
 ·have hp := S.val p (List.mem_of_getElem? hi)
  obtain ⟨f1, f2, f3, f4, f5⟩ := zka p hp h hh fs hs
  have e := zlt hi
  have es := S.sum
  have el := S.len
  have et := S.tw
  have ev := S.val
  rw [e] at es el et ev
  rw [zck, zfk] at et
  simp only [List.map_append, List.map_cons, List.sum_append, List.sum_cons, List.length_append, List.length_cons] at es el
  refine ⟨?_, ?_, ?_, ?_⟩
  ·intro q hq
   rcases List.mem_append.mp hq with hq | hq
   ·rcases List.mem_append.mp hq with hq | hq
    ·exact ev q (List.mem_append_left _ hq)
    ·exact f1 q hq
   ·exact ev q (List.mem_append_right _ (.tail _ hq))
  ·simp only [List.map_append, List.sum_append]; lia
  ·simp only [List.length_append]; lia
  ·rw [zck, zck]
   rcases ht with ht | ⟨ht, h3⟩
   ·lia
   ·have := f5 (h3 p (List.mem_of_getElem? hi))
    lia
theorem zm8 : ∀ p ∈ all27, ∀ y : Int, (p.1, (p.2 + y).fmod p.1) ∈ all27 := by
 have key : ∀ m ∈ [(2 : Int), 3, 4, 6, 12], ∀ a : Int, 0 <= a -> a < m -> (m, a) ∈ all27 := by
  intro m hm a h0 h1
  refine List.mem_flatMap.mpr ⟨m, hm, List.mem_map.mpr ⟨a.toNat, List.mem_range.mpr (by lia), by rw [Int.toNat_of_nonneg h0]⟩⟩
 have hm : ∀ p ∈ all27, p.1 ∈ [(2 : Int), 3, 4, 6, 12] /\ 0 < p.1 := by decide +kernel
 intro p hp y
 obtain ⟨h1, h2⟩ := hm p hp
 have e : (p.2 + y).fmod p.1 = (p.2 + y) % p.1 := Int.fmod_eq_emod_of_nonneg _ (by lia)
 rw [e]
 exact key p.1 h1 _ (Int.emod_nonneg _ (by lia)) (Int.emod_lt_of_pos _ h2)
theorem Stg.move {c c' : List (Int × Int)} {n t : Nat} (S : Stg c n t) (h : zrq c c') : Stg c' n t := by
 obtain ⟨i, p, y, hi, rfl⟩ := h
 have hp := S.val p (List.mem_of_getElem? hi)
 have hlt := (List.getElem?_eq_some_iff.mp hi).1
 have e := zlt hi
 have es := S.sum
 have el := S.len
 have et := S.tw
 have ev := S.val
 have e2 : c.set i (p.1, (p.2 + y).fmod p.1) = c.take i ++ (p.1, (p.2 + y).fmod p.1) :: c.drop (i + 1) := by rw [List.set_eq_take_append_cons_drop, if_pos hlt]
 rw [e] at es el et ev
 rw [e2]
 rw [zck, zfk] at et
 simp only [List.map_append, List.map_cons, List.sum_append, List.sum_cons, List.length_append, List.length_cons] at es el
 refine ⟨?_, ?_, ?_, ?_⟩
 ·intro q hq
  rcases List.mem_append.mp hq with hq | hq
  ·exact ev q (List.mem_append_left _ hq)
  ·rcases List.mem_cons.mp hq with rfl | hq
   ·exact zm8 p hp y
   ·exact ev q (List.mem_append_right _ (.tail _ hq))
 ·simp only [List.map_append, List.map_cons, List.sum_append, List.sum_cons]; exact es
 ·simp only [List.length_append, List.length_cons]; exact el
 ·rw [zck, zfk]; exact et
theorem Stg.good {c : List (Int × Int)} (S : Stg c 11 6) : Good c := ⟨S.val, S.sum, S.len, S.tw⟩
theorem b196 (w : World) : ∃ (pp : Nat -> Pos) (kk : Nat -> Nat), zay w 196 = [stm w 196 0, stm w 196 1, stm w 196 2, .For (.Name "x" (pp 0)) (.Subscript (.Name "drawn" (pp 1)) (.Slice none (some (.Constant (.int 3) (kk 0) (pp 2))) none (pp 3)) (pp 4)) (zeb (stm w 196 3)) [] (pp 5), .For (.Name "x" (pp 6)) (.Subscript (.Name "drawn" (pp 7)) (.Slice (some (.Constant (.int 3) (kk 1) (pp 8))) none none (pp 9)) (pp 10)) (zeb (stm w 196 4)) [] (pp 11), .Return (some (.Name "classes" (pp 12))) (pp 13)] :=
 ⟨fun i => [_, _, _, _, _, _, _, _, _, _, _, _, _, _].getD i default, fun i => [_, _].getD i 0, rfl⟩
theorem zou (w : World) : ∃ (pp : Nat -> Pos) (kk : Nat -> Nat) (sc : _), stm w 196 0 = .Assign [.Name "drawn" (pp 0)] (.ListComp (.BinOp (.Name "x" (pp 1)) .Mod (.Constant (.int 60) (kk 0) (pp 2)) (pp 3)) [⟨.Name "x" (pp 4), .Subscript (.Name "script" (pp 5)) (.Slice none (some (.Constant (.int 5) (kk 1) (pp 6))) none (pp 7)) (pp 8), [], 0⟩] sc (pp 9)) (pp 10) /\
  ∀ (d : D) (a b c e f : Int), zbq (zab w 196) sc (.Name "x" (pp 4)) (zb9 sc [("script", d)]) = true /\ zbw (zdo (zaa (OC w) 39) (fun x => (za7 (zab w 196) sc.names).lookup x) (zb9 sc [("script", d)]) (zcq sc none) (.Name "x" (pp 4)) (.BinOp (.Name "x" (pp 1)) .Mod (.Constant (.int 60) (kk 0) (pp 2)) (pp 3)) []) [.int a, .int b, .int c, .int e, .int f] = some [.int (a.fmod 60), .int (b.fmod 60), .int (c.fmod 60), .int (e.fmod 60), .int (f.fmod 60)] :=
 ⟨fun i => [_, _, _, _, _, _, _, _, _, _, _].getD i default, fun i => [_, _].getD i 0, _, rfl, fun d a b c e f => ⟨by kernel_rfl, by kernel_rfl⟩⟩
noncomputable abbrev zks (y0 y1 y2 y3 y4 : Int) : D := .lst [.int y0, .int y1, .int y2, .int y3, .int y4]
theorem zt5 (w : World) (ns : List Int) (hl : ns.length <= 63) : ∃ (d1 : D) (y0 y1 y2 y3 y4 : Int), zae (OC w) ["classes"] (zab w 196) 40 ⟨[("script", .rev (ns.map .int))], none⟩ (stm w 196 0) = some (⟨[("script", .rev (ns.map .int)), ("drawn", d1)], none⟩, .next) /\
  zae (OC w) ["classes"] (zab w 196) 40 ⟨[("script", .rev (ns.map .int)), ("drawn", d1)], none⟩ (stm w 196 1) = some (⟨[("script", .rev (ns.map .int)), ("drawn", zks y0 y1 y2 y3 y4)], none⟩, .next) := by
 match ns, hl with
 | [], _ => exact ⟨.lst [], 1, 15, 5, 0, 0, by kernel_rfl, by kernel_rfl⟩
 | [a], _ => exact ⟨.lst [.int (a.fmod 60)], a.fmod 60, 15, 5, 0, 0, by kernel_rfl, by kernel_rfl⟩
 | [a, b], _ => exact ⟨.lst [.int (a.fmod 60), .int (b.fmod 60)], a.fmod 60, b.fmod 60, 5, 0, 0, by kernel_rfl, by kernel_rfl⟩
 | [a, b, c], _ => exact ⟨.lst [.int (a.fmod 60), .int (b.fmod 60), .int (c.fmod 60)], a.fmod 60, b.fmod 60, c.fmod 60, 0, 0, by kernel_rfl, by kernel_rfl⟩
 | [a, b, c, e], _ => exact ⟨.lst [.int (a.fmod 60), .int (b.fmod 60), .int (c.fmod 60), .int (e.fmod 60)], a.fmod 60, b.fmod 60, c.fmod 60, e.fmod 60, 0, by kernel_rfl, by kernel_rfl⟩
 | a :: b :: c :: e :: f :: r, hl =>
  obtain ⟨pp, kk, sc, e0, h0⟩ := zou w
  refine ⟨zks (a.fmod 60) (b.fmod 60) (c.fmod 60) (e.fmod 60) (f.fmod 60), a.fmod 60, b.fmod 60, c.fmod 60, e.fmod 60, f.fmod 60, ?_, by kernel_rfl⟩
  rw [e0]
  obtain ⟨h1, h2⟩ := h0 (.rev ((a :: b :: c :: e :: f :: r).map .int)) a b c e f
  refine zai (r := (zks (a.fmod 60) (b.fmod 60) (c.fmod 60) (e.fmod 60) (f.fmod 60), .fresh)) (zdx (d := .lst [.int a, .int b, .int c, .int e, .int f]) (k := .fresh) (ds := [.int a, .int b, .int c, .int e, .int f]) (zmm (o := .rev ((a :: b :: c :: e :: f :: r).map .int)) (k1 := .froz) (j := 5) (k2 := .froz) (zal (za2 (by decide +kernel) rfl)) (za9 rfl) ?_) rfl (by decide) (by rw [sizeLine_eq]; exact Nat.le_of_ble_eq_true rfl) rfl h1 h2) (by kernel_rfl)
  show zds ((a :: b :: c :: e :: f :: r).map .int) none (some 5) = _
  unfold zds
  rw [if_pos (by rw [List.length_map, sizeLine_eq]; lia)]
  rfl
noncomputable def cl0 : List (Int × Int) := [(2, 0), (2, 1), (3, 0), (3, 1), (3, 2)]
theorem stg0 : Stg cl0 5 0 /\ ∀ p ∈ cl0, p.1 <= 3 := ⟨⟨by decide +kernel, by decide, by decide, by decide⟩, by decide⟩
theorem Stg.ne {c : List (Int × Int)} {n t : Nat} (S : Stg c n t) : c ≠ [] := fun h => by have := S.sum; rw [h] at this; cases this
theorem zvm {kf : Kf} {t : PySem.Expr} {body : Mine.St -> Option (Mine.St × Fl)} {c : Mine.St} : zbu kf t body [] c = some (c, .next) := rfl
theorem iter3 (w : World) {sc : D} {y0 y1 y2 y3 y4 : Int} {p69 p71 p72 p73 : Pos} {k70 : Nat} {cs : List D} : zd9 (zaa (OC w) 39) ⟨zab w 196, [("script", sc), ("drawn", zks y0 y1 y2 y3 y4)], cO cs⟩ (.Subscript (.Name "drawn" p69) (.Slice none (some (.Constant (.int 3) k70 p71)) none p72) p73) = some [.int y0, .int y1, .int y2] := by kernel_rfl
theorem iter2 (w : World) {sc : D} {σ : List (Str × D)} {y0 y1 y2 y3 y4 : Int} {p69 p71 p72 p73 : Pos} {k70 : Nat} {cs : List D} (h : VShape sc (zks y0 y1 y2 y3 y4) σ) : zd9 (zaa (OC w) 39) ⟨zab w 196, σ, cO cs⟩ (.Subscript (.Name "drawn" p69) (.Slice (some (.Constant (.int 3) k70 p71)) none none p72) p73) = some [.int y3, .int y4] := by
 cases h <;> kernel_rfl
theorem znw (w : World) (ns : List Int) (hl : ns.length <= 63) : ∃ c, Good c /\ zaw w (OC w) ["classes"] 196 ps_cls [.rev (ns.map .int)] = some (zbm c) := by
 obtain ⟨pp, kk, e⟩ := b196 w
 obtain ⟨d1, y0, y1, y2, y3, y4, e0, e1⟩ := zt5 w ns hl
 obtain ⟨sc, hsc⟩ : ∃ sc, sc = D.rev (ns.map .int) := ⟨_, rfl⟩
 rw [<- hsc] at e0 e1
 obtain ⟨S0, h3⟩ := stg0
 obtain ⟨σ1, c1, t1, k1, m1⟩ := zek (w := w) (sc := sc) (dr := zks y0 y1 y2 y3 y4) S0.ne S0.val (Nat.le_trans S0.len (by decide)) (.zero) y0 (p68 := (pp 0))
 have S1 := S0.split m1 (t' := 0) (.inr ⟨rfl, h3⟩)
 obtain ⟨σ2, c2, t2, k2, m2⟩ := zek (w := w) S1.ne S1.val (Nat.le_trans S1.len (by decide)) k1 y1 (p68 := (pp 0))
 have S2 := S1.split m2 (t' := 3) (.inl (by decide))
 obtain ⟨σ3, c3, t3, k3, m3⟩ := zek (w := w) S2.ne S2.val (Nat.le_trans S2.len (by decide)) k2 y2 (p68 := (pp 0))
 have S3 := S2.split m3 (t' := 6) (.inl (by decide))
 obtain ⟨σ4, c4, t4, k4, m4⟩ := zjb (w := w) S3.ne S3.val (Nat.le_trans S3.len (by decide)) k3.v y3 (p68 := (pp 6))
 have S4 := S3.move m4
 obtain ⟨σ5, c5, t5, k5, m5⟩ := zjb (w := w) S4.ne S4.val (Nat.le_trans S4.len (by decide)) k4 y4 (p68 := (pp 6))
 have S5 := S4.move m5
 refine ⟨c5, S5.good, za5 rfl ?_⟩
 rw [e, <- hsc]
 refine zah e0 (by kernel_rfl) (zah e1 (by kernel_rfl) ?_)
 refine zah (c' := ⟨[("script", sc), ("drawn", zks y0 y1 y2 y3 y4)], cO (cl0.map clD)⟩) (by kernel_rfl) (by kernel_rfl) ?_
 obtain ⟨x1, u1, v1⟩ := t1
 obtain ⟨x2, u2, v2⟩ := t2
 obtain ⟨x3, u3, v3⟩ := t3
 obtain ⟨x4, u4, v4⟩ := t4
 obtain ⟨x5, u5, v5⟩ := t5
 have hl1 := zin (p := (pp 5)) (iter3 w (p69 := (pp 1)) (p71 := (pp 2)) (p72 := (pp 3)) (p73 := (pp 4)) (k70 := (kk 0))) (zcb u1 v1 (zcb u2 v2 (zcb u3 v3 zvm)))
 refine zah hl1 rfl ?_
 have hl2 := zin (p := (pp 11)) (iter2 w k3.v (p69 := (pp 7)) (p71 := (pp 8)) (p72 := (pp 9)) (p73 := (pp 10)) (k70 := (kk 1))) (zcb u4 v4 (zcb u5 v5 zvm))
 refine zah hl2 rfl ?_
 cases k5 <;> exact zg4 (k := .brw) (by kernel_rfl)
noncomputable def OD (w : World) : Orc :=
 ((((OC w).addFn "_law_classes" (zaw w (OC w) ["classes"] 196 ps_cls)).addFn "_law_mail" (zaw w (OC w) ["rows"] 201 ps_mail)).addFn "_law_number" (zaw w (OC w) [] 208 ps_num)).addFn "_law_mix" (zaw w (OC w) [] 222 ps_mix)
theorem HD (w : World) (mb : Str -> Option Value) : Hyps w mb 31 (OD w) := by
 obtain ⟨f1, f2, f3, f4, f5, f6, f7, f8, f9, f10, f11, f12, f13, f14, f15, f16, f17, f18, f19⟩ := isfn w
 have hC := HC w mb
 refine Hyps.addFn (Hyps.addFn (Hyps.addFn (Hyps.addFn (hC.up (Nat.le_succ 30)) (z1n w) (zav f16) fun _ _ e => zaz hC (z2o w) e) (zxi w) (zav f17) fun _ _ e => zaz hC (zyn w) e) (z1h w) (zav f18) fun _ _ e => zaz hC (z2d w) e) (z1i w) (zav f19) fun _ _ e => zaz hC (z2f w) e
theorem z0k (w : World) (args : List D) : (OD w).fn "_law_classes" args = zaw w (OC w) ["classes"] 196 ps_cls args := by kernel_rfl
theorem zwj (w : World) (args : List D) : (OD w).fn "_law_mail" args = zaw w (OC w) ["rows"] 201 ps_mail args := by kernel_rfl
theorem z0f (w : World) (args : List D) : (OD w).fn "_law_number" args = zaw w (OC w) [] 208 ps_num args := by kernel_rfl
theorem z0g (w : World) (args : List D) : (OD w).fn "_law_mix" args = zaw w (OC w) [] 222 ps_mix args := by kernel_rfl
theorem zwk (w : World) (args : List D) : (OD w).fn "int_divmod" args = zaw w (OB w) [] 146 ps_idiv args := by kernel_rfl
theorem z0h (w : World) (args : List D) : (OD w).fn "_int2digits" args = zw6 args := by kernel_rfl
theorem z0e (w : World) (args : List D) : (OD w).fn "Whitespace" args = wsF args := by kernel_rfl
theorem law_runs {w : World} {mb : Str -> Option Value} {args : List D} {r : D} (h : zaw w (OD w) [] 227 ps_law args = some r) : zfi w mb 60 (.ref 227) args r := (zaz (HD w mb) (z2h w) h).mono (by decide)
theorem zsz (w : World) : zab w 227 "len" = some .globalImplicit /\ zab w 227 "set" = some .globalImplicit /\ zab w 227 "sorted" = some .globalImplicit := ⟨by kernel_rfl, by kernel_rfl, by kernel_rfl⟩
noncomputable def mapN {β : Type} (F : Nat -> β) : Nat -> List β
 | 0 => []
 | n + 1 => F n :: mapN F n
theorem zwq {β : Type} {F G : Nat -> β} {m : Nat} (h : mapN F m = (List.range m).reverse.map G) : ∀ k, k < m -> F k = G k := by
 induction m with
 | zero => exact fun k hk => absurd hk (Nat.not_lt_zero k)
 | succ m ih =>
  rw [List.range_succ, List.reverse_append, List.reverse_singleton, List.singleton_append, List.map_cons] at h
  exact fun k hk => (Nat.lt_succ_iff_lt_or_eq.mp hk).elim (ih (List.cons.inj h).2 k) fun e => e ▸ (List.cons.inj h).1
theorem by27k {β : Type} {F G : Nat -> β} (h : mapN F 12 = (List.range 12).reverse.map G) : ∀ k, k < 12 -> F k = G k := zwq h
noncomputable def zp5 (k : Int) (p : Int × Int) : Option D := if k % p.1 == p.2 then some (.int p.1) else none
theorem zz3 (w : World) : ∃ (pp : Nat -> Pos) (kk : Nat -> Nat) (IT : _) (sc19 : _) (RG : _) (sc27 : _), stm w 227 1 = .Assign [.Name "counts" (pp 0)] (.ListComp (.Call (.Name "len" (pp 1)) [.ListComp (.Name "m" (pp 2)) [⟨.Tuple [.Name "m" (pp 3), .Name "a" (pp 4)] (kk 0) (pp 5), .Name "classes" (pp 6), [IT], 0⟩] sc19 (pp 7)] [] (pp 8)) [⟨.Name "k" (pp 9), RG, [], 0⟩] sc27 (pp 10)) (pp 11) /\
  (∀ (sc cd : D), zaa (OD w) 39 ⟨zab w 227, [("script", sc), ("classes", cd)], none⟩ RG = some (.rng 0 12 1, .froz) /\ ze4 RG = true /\ zbq (zab w 227) sc27 (.Name "k" (pp 9)) (zb9 sc27 [("script", sc), ("classes", cd)]) = true /\
   ∀ k : Int, za8 (fun x => (za7 (zab w 227) sc27.names).lookup x) (zcq sc27 none) (zb9 sc27 [("script", sc), ("classes", cd)]) (.Name "k" (pp 9)) (.int k) = some ([(("classes" : Str), cd), (("k" : Str), D.int k)] : List (Str × D)) /\
    (za7 (zab w 227) sc27.names).lookup ("len" : Str) = some NameKind.globalImplicit /\ zcq sc27 none = none /\ zb9 sc19 ([(("classes" : Str), cd), (("k" : Str), D.int k)] : List (Str × D)) = ([(("k" : Str), D.int k)] : List (Str × D)) /\ zcq sc19 none = none /\ zbq (fun x => (za7 (zab w 227) sc27.names).lookup x) sc19 (.Tuple [.Name "m" (pp 3), .Name "a" (pp 4)] (kk 0) (pp 5)) [("k", .int k)] = true) /\
  (∀ k, k < 12 -> ∀ p ∈ all27, zdo (zaa (OD w) 37) (fun x => (za7 (fun x => (za7 (zab w 227) sc27.names).lookup x) sc19.names).lookup x) [("k", .int (k : Nat))] none (.Tuple [.Name "m" (pp 3), .Name "a" (pp 4)] (kk 0) (pp 5)) (.Name "m" (pp 2)) [IT] (clD p) = some (zp5 (k : Nat) p)) :=
 ⟨fun i => [_, _, _, _, _, _, _, _, _, _, _, _].getD i default, fun i => [_].getD i 0, _, _, _, _, rfl, fun sc cd => ⟨by kernel_rfl, by kernel_rfl, by kernel_rfl, fun k => ⟨by kernel_rfl, by kernel_rfl, by kernel_rfl, by kernel_rfl, by kernel_rfl, by kernel_rfl⟩⟩, fun k hk => zg1 (by revert k; exact by27k (by kernel_rfl))⟩
theorem zhj {step : D -> Option (Option D)} {g : Int × Int -> Option D} {c : List (Int × Int)} : (∀ p ∈ c, step (clD p) = some (g p)) -> zbw step (c.map clD) = some (c.filterMap g) := by
 induction c with
 | nil =>
  intro _
  exact rfl
 | cons p c IH =>
  intro h
  have ih := IH fun p hp => h p (.tail _ hp)
  have hp := h p (.head _)
  rw [List.map_cons, zbw, hp, List.filterMap_cons]
  cases g p with
  | none => exact ih
  | some e => dsimp only; rw [ih]
theorem zdf {α : Type} {step : D -> Option (Option D)} {f : α -> D} {g : α -> D} {l : List α} : (∀ a ∈ l, step (f a) = some (some (g a))) -> zbw step (l.map f) = some (l.map g) := by
 induction l with
 | nil =>
  intro _
  exact rfl
 | cons a l IH =>
  intro h
  have ih := IH fun a ha => h a (.tail _ ha)
  have hp := h a (.head _)
  rw [List.map_cons, zbw, hp]
  dsimp only
  rw [ih]; rfl
theorem zl5 (k : Int) : ∀ c : List (Int × Int), (c.filterMap (zp5 k)).length = zbf c k
 | [] => rfl
 | p :: c => by
  rw [zgk, List.filterMap_cons]
  have ih := zl5 k c
  unfold zp5 at ih ⊢
  by_cases h : (k % p.1 == p.2) = true
  ·rw [if_pos h, if_pos h]; dsimp only; rw [List.length_cons, ih]
  ·rw [if_neg h, if_neg h]; dsimp only; rw [ih]; rfl
theorem zpb (w : World) (args : List D) : (OD w).fn "len" args = none := by kernel_rfl
noncomputable def zig (c : List (Int × Int)) : List Int := (List.range 12).map fun k => (zbf c (k : Nat) : Int)
theorem zgl (c : List (Int × Int)) : zig c = zbs (cI c) := by kernel_rfl
theorem zqy (w : World) {sc : D} {c : List (Int × Int)} (hv : ∀ p ∈ c, p ∈ all27) (hl : c.length <= 100) : zae (OD w) [] (zab w 227) 40 ⟨[("script", sc), ("classes", zbm c)], none⟩ (stm w 227 1) = some (⟨[("script", sc), ("classes", zbm c), ("counts", .lst ((zig c).map .int))], none⟩, .next) := by
 obtain ⟨pp, kk, IT, sc19, RG, sc27, e, h1, h2⟩ := zz3 w
 rw [e]
 obtain ⟨a1, a0, a2, a3⟩ := h1 sc (zbm c)
 refine zai (r := (.lst ((zig c).map .int), .fresh)) (zdx (d := .rng 0 12 1) (k := .froz) (ds := (List.range 12).map fun (k : Nat) => D.int (k : Nat)) a1 (by kernel_rfl) (by decide) (by rw [sizeLine_eq]; exact Nat.le_of_ble_eq_true rfl) a0 a2 ?_) (by kernel_rfl)
 unfold zig
 rw [List.map_map]
 refine zdf fun k hk => ?_
 obtain ⟨b1, b2, b3, b4, b5, b6⟩ := a3 (k : Nat)
 unfold zdo
 rw [b1]
 dsimp only [zd4]
 have hin : zaa (OD w) 38 ⟨fun x => (za7 (zab w 227) sc27.names).lookup x, [("classes", zbm c), ("k", .int (k : Nat))], zcq sc27 none⟩ (.ListComp (.Name "m" (pp 2)) [⟨.Tuple [.Name "m" (pp 3), .Name "a" (pp 4)] (kk 0) (pp 5), .Name "classes" (pp 6), [IT], 0⟩] sc19 (pp 7)) = some (.lst (c.filterMap (zp5 (k : Nat))), .fresh) := by
  rw [b3]
  refine zdx (d := zbm c) (k := .froz) (ds := c.map clD) (zal (za2 (by decide +kernel) (by kernel_rfl))) rfl (by decide) (by rw [List.length_map, sizeLine_eq]; lia) rfl ?_ ?_
  ·dsimp only; rw [b4]; exact b6
  ·dsimp only
   rw [b4, b5]
   exact zhj fun p hp => h2 k (List.mem_range.mp hk) p (hv p hp)
 have hel : zaa (OD w) 39 ⟨fun x => (za7 (zab w 227) sc27.names).lookup x, [("classes", zbm c), ("k", .int (k : Nat))], zcq sc27 none⟩ (.Call (.Name "len" (pp 1)) [.ListComp (.Name "m" (pp 2)) [⟨.Tuple [.Name "m" (pp 3), .Name "a" (pp 4)] (kk 0) (pp 5), .Name "classes" (pp 6), [IT], 0⟩] sc19 (pp 7)] [] (pp 8)) = some (.int (zbf c (k : Nat)), .froz) := by
  refine zio (l := [(.lst (c.filterMap (zp5 (k : Nat))), .fresh)]) b2 (by decide +kernel) (zaj hin zbc) (zpb w _) ?_
  rw [show zis "len" = zbr from funext fun l => if_pos rfl]
  unfold zbr
  dsimp only
  have := zgj c (k : Nat)
  rw [zl5, if_pos (by rw [sizeLine_eq]; lia)]; rfl
 rw [hel]
 rfl
theorem ztq (ch : Nat) (n : Nat) : ∀ (acc : Array Nat), (List.replicate n #[ch]).foldl (· ++ ·) acc = acc ++ (List.replicate n ch).toArray := by
 induction n with
 | zero =>
  intro acc
  simp
 | succ n IH =>
  intro acc
  rw [List.replicate_succ, List.foldl_cons, IH, List.replicate_succ]
  apply Array.toList_inj.1
  simp
theorem zlw (ch n : Nat) : Txt.mul ⟨#[ch]⟩ (n : Int) = ⟨(List.replicate n ch).toArray⟩ := by
 unfold Txt.mul
 by_cases h0 : (n : Int) < 1
 ·rw [if_pos h0, show n = 0 from by lia]; rfl
 ·rw [if_neg h0]
  by_cases h1 : n = 1
  ·subst h1; rfl
  ·rw [if_neg (by
    have : ((n : Int) == 1) = false := by rw [beq_eq_false_iff_ne]; lia
    rw [this]
    show ¬ (false || (1 == 0)) = true
    decide), Int.toNat_natCast, ztq]
   simp
theorem z13 : ("." : Str) = ⟨#[46]⟩ := by kernel_rfl
theorem sp_is : (" " : Str) = ⟨#[32]⟩ := by kernel_rfl
theorem zzf : ("\t" : Str) = ⟨#[9]⟩ := by kernel_rfl
theorem zz2 (w : World) : ∃ (pp : Nat -> Pos) (kk : Nat -> Nat) (p16 : Scope), stm w 227 2 = .If (.Compare (.Call (.Name "_law_mail" (pp 0)) [.Name "classes" (pp 1)] [] (pp 2)) [.NotEq] [.ListComp (.BinOp (.BinOp (.Constant (.str ".") (kk 0) (pp 3)) .Mult (.BinOp (.Constant (.int 1) (kk 1) (pp 4)) .Add (.Name "n" (pp 5)) (pp 6)) (pp 7)) .Add (.Constant (.str "\r\n") (kk 2) (pp 8)) (pp 9)) [⟨.Name "n" (pp 10), .Name "counts" (pp 11), [], 0⟩] p16 (pp 12)] (pp 13)) (ifB (stm w 227 2)) [] (pp 14) /\
  ∀ (sc cd : D) (l : List D), zbq (zab w 227) p16 (.Name "n" (pp 10)) (zb9 p16 [("script", sc), ("classes", cd), ("counts", .lst l)]) = true /\ ∀ n : Int, za8 (fun x => (za7 (zab w 227) p16.names).lookup x) (zcq p16 none) (zb9 p16 [("script", sc), ("classes", cd), ("counts", .lst l)]) (.Name "n" (pp 10)) (.int n) = some [(("n" : Str), D.int n)] :=
 ⟨fun i => [_, _, _, _, _, _, _, _, _, _, _, _, _, _, _].getD i default, fun i => [_, _, _].getD i 0, _, rfl, fun sc cd l => ⟨by kernel_rfl, fun n => by kernel_rfl⟩⟩
theorem z03 (w : World) : zab w 227 "_law_mail" = some .globalImplicit := by kernel_rfl
theorem zr7 {l : List Nat} (h : ∀ x ∈ l, x < 1114112) : PyData.strOk ⟨l.toArray⟩ = true := by
 unfold PyData.strOk
 rw [<- Array.all_toList]
 exact List.all_eq_true.mpr fun x hx => decide_eq_true (h x hx)
theorem ze6 (n : Nat) : PyData.strOk (zad [n]) = true := by
 refine zr7 fun x hx => ?_
 rw [zbi] at hx
 simp [zcz, txt] at hx
 lia
theorem zo3 (r : Nat -> Str) : zbj r = ((List.range 12).map r).map .str := by kernel_rfl
theorem zpr (w : World) {sc : D} {c : List (Int × Int)} (hv : ∀ p ∈ c, p ∈ all27) (hl : c.length <= 20) : ∃ p22, stm w 227 2 = .If (ifT (stm w 227 2)) (ifB (stm w 227 2)) [] p22 /\ zaa (OD w) 40 ⟨zab w 227, [("script", sc), ("classes", zbm c), ("counts", .lst ((zig c).map .int))], none⟩ (ifT (stm w 227 2)) = some (.bool false, .froz) := by
 obtain ⟨pp, kk, p16, e, h⟩ := zz2 w
 obtain ⟨a1, a2⟩ := h sc (zbm c) ((zig c).map .int)
 rw [e]
 refine ⟨(pp 14), rfl, ?_⟩
 show zaa (OD w) 40 _ (.Compare _ _ _ _) = _
 have hm : zaa (OD w) 39 ⟨zab w 227, [("script", sc), ("classes", zbm c), ("counts", .lst ((zig c).map .int))], none⟩ (.Call (.Name "_law_mail" (pp 0)) [.Name "classes" (pp 1)] [] (pp 2)) = some (.lst (zbj fun k => zad [zbf c k + 1]), .froz) :=
  zmo (l := [(zbm c, .froz)]) (z03 w) (by decide +kernel) (zaj (by kernel_rfl) zbc) ((zwj w _).trans (zws w hv hl)) (.inl rfl)
 have hr : zaa (OD w) 39 ⟨zab w 227, [("script", sc), ("classes", zbm c), ("counts", .lst ((zig c).map .int))], none⟩ (.ListComp (.BinOp (.BinOp (.Constant (.str ".") (kk 0) (pp 3)) .Mult (.BinOp (.Constant (.int 1) (kk 1) (pp 4)) .Add (.Name "n" (pp 5)) (pp 6)) (pp 7)) .Add (.Constant (.str "\r\n") (kk 2) (pp 8)) (pp 9)) [⟨.Name "n" (pp 10), .Name "counts" (pp 11), [], 0⟩] p16 (pp 12)) = some (.lst ((List.range 12).map fun k => .str (zad [zbf c (k : Nat) + 1])), .fresh) := by
  refine zdx (d := .lst ((zig c).map .int)) (k := .froz) (ds := (List.range 12).map fun (k : Nat) => D.int (zbf c (k : Nat))) (by kernel_rfl) (by unfold zig; rw [List.map_map]; rfl) (by decide) (by rw [List.length_map, List.length_range, sizeLine_eq]; lia) rfl a1 ?_
  refine zdf fun k hk => ?_
  unfold zdo
  rw [a2]
  dsimp only [zd4]
  have hle := zgj c (k : Nat)
  have e1 : zaa (OD w) 38 ⟨fun x => (za7 (zab w 227) p16.names).lookup x, [(("n" : Str), D.int (zbf c (k : Nat)))], zcq p16 none⟩ (.BinOp (.BinOp (.Constant (.str ".") (kk 0) (pp 3)) .Mult (.BinOp (.Constant (.int 1) (kk 1) (pp 4)) .Add (.Name "n" (pp 5)) (pp 6)) (pp 7)) .Add (.Constant (.str "\r\n") (kk 2) (pp 8)) (pp 9)) = some (.str (zad [zbf c (k : Nat) + 1]), .froz) := by
   refine za3 (a := .str (zde (zbf c (k : Nat) + 1))) (k1 := .froz) (b := .str "\r\n") (k2 := .froz) (za3 (a := .str ".") (k1 := .froz) (b := .int ((1 : Int) + zbf c (k : Nat))) (k2 := .froz) (za9 rfl) (za3 (a := .int 1) (k1 := .froz) (b := .int (zbf c (k : Nat))) (k2 := .froz) (za9 rfl) (zal (za2 (by decide +kernel) (by kernel_rfl))) rfl) ?_) (za9 rfl) ?_
   ·show (if ("." : Str).length <= 1000 /\ (1 : Int) + zbf c (k : Nat) <= 1000 /\ -1000 <= (1 : Int) + zbf c (k : Nat) then some (D.str (Txt.mul ("." : Str) ((1 : Int) + zbf c (k : Nat))), Kd.froz) else none) = _
    rw [if_pos ⟨by decide +kernel, by lia, by lia⟩, z13, show (1 : Int) + zbf c (k : Nat) = ((zbf c (k : Nat) + 1 : Nat) : Int) from by lia, zlw]; rfl
   ·show (if (zde (zbf c (k : Nat) + 1)).length + ("\r\n" : Str).length <= sizeLine then some (D.str (zde (zbf c (k : Nat) + 1) ++ ("\r\n" : Str)), Kd.froz) else none) = _
    have e1 : (zde (zbf c (k : Nat) + 1)).length = zbf c (k : Nat) + 1 := by show (List.replicate _ 46).toArray.size = _; simp
    have e2 : crlf.length = 2 := rfl
    rw [zk0, if_pos (by rw [e1, e2, sizeLine_eq]; lia), zhh]
  rw [e1]
  rfl
 refine zfj hm hr rfl ?_
 rw [zo3, show ((List.range 12).map fun k => D.str (zad [zbf c (k : Nat) + 1])) = ((List.range 12).map fun k => zad [zbf c (k : Nat) + 1]).map .str from by rw [List.map_map]; rfl]
 rw [zk2]
 ·simp
 ·intro x hx
  obtain ⟨k, _, rfl⟩ := List.mem_map.mp hx
  exact ze6 _
 ·intro x hx
  obtain ⟨k, _, rfl⟩ := List.mem_map.mp hx
  exact ze6 _
noncomputable def zfc : List (List Int) := five.foldr (fun x l => l ++ l.map (x :: ·)) [[]]
theorem zmu (b : Bool) : ((zat b).all fun q => zfc.contains (zgv q.1.toList)) = true := by cases b <;> kernel_rfl
theorem zmv (b : Bool) : ((zat b).all fun q => five.all fun v => five.all fun x => (stepS q v).1.contains x == (x == v || q.1.contains x)) = true := by cases b <;> kernel_rfl
theorem ztt {b : Bool} {x : Int} (hx : x ∈ five) (ns : List Int) : ∀ (q : Array Int × SetTable), (∀ n ∈ ns, n ∈ five) -> q ∈ zat b -> (ns.foldl stepS q).1.contains x = (ns.contains x || q.1.contains x) := by
 induction ns with
 | nil =>
  intro q _ _
  simp
 | cons n r IH =>
  intro q h hq
  have hn := h n (.head _)
  have := List.all_eq_true.mp (List.all_eq_true.mp (List.all_eq_true.mp (zmv b) q hq) n hn) x hx
  rw [beq_iff_eq] at this
  rw [List.foldl_cons, IH _ (fun m hm => h m (.tail _ hm)) (zht hq hn), this, List.contains_cons]
  cases x == n <;> cases r.contains x <;> cases q.1.contains x <;> rfl
theorem zkg (led : Bool) {ns : List Int} (h : ∀ n ∈ ns, n ∈ five) : zgv (zgb led ns).1.toList ∈ zfc /\ ∀ x ∈ five, (x ∈ zgv (zgb led ns).1.toList ↔ x ∈ ns) := by
 have hq := zjk (led := led) h
 refine ⟨?_, fun x hx => ?_⟩
 ·have := List.all_eq_true.mp (zmu led) _ hq
  exact List.contains_iff_mem.mp this
 ·have e : (zgb led ns).1.contains x = (ns.contains x || (#[] : Array Int).contains x) := ztt hx ns (#[], .fresh 0 0 led) h (zdy led)
  rw [(zel _).mem_iff]
  simp at e
  simpa using e
theorem zfw {f : Int × Int -> Int} {P : Int × Int -> Bool} {c : List (Int × Int)} : (∀ p ∈ c, P p = false -> f p = 0) -> zch f c = zch f (c.filter P) := by
 induction c with
 | nil =>
  intro _
  exact rfl
 | cons p c IH =>
  intro h
  have ih := IH fun p hp => h p (.tail _ hp)
  rw [List.filter_cons, zak]
  cases e : P p with
  | true => rw [if_pos rfl, zak, ih]
  | false => rw [if_neg (by decide), h p (.head _) e, ih]; lia
theorem zhs {f g : Int × Int -> Int} : ∀ c : List (Int × Int), zch (fun p => f p - g p) c = zch f c - zch g c
 | [] => rfl
 | p :: c => by rw [zak, zak, zak, zhs c]; lia
noncomputable def d1 (I : ConI) (p : Int × Int) : Int := (val I p).1 - (val I p).2.1
noncomputable def d2 (I : ConI) (p : Int × Int) : Int := (val I p).2.1 - (val I p).2.2
theorem zd2 {I : ConI} {m : Int} {c : List (Int × Int)} (hlin : all27.all (zrv I) = true) (hv : ∀ p ∈ c, p ∈ all27) (he : ∀ k ∈ List.range 12, zbf c (k : Nat) = 2) (h0 : (all27.all fun p => !decide (p.1 < m) || (d1 I p == 0 && d2 I p == 0)) = true) (hm : ∀ p ∈ c, p.1 <= m) (hz : lin (f1 I) (fun _ => 2) = 0 /\ lin (f2 I) (fun _ => 2) = 0) :
  zch (d1 I) (c.filter fun p => p.1 == m) = 0 /\ zch (d2 I) (c.filter fun p => p.1 == m) = 0 := by
 obtain ⟨e1, e2⟩ := zia hlin c hv
 have h2 : ∀ f : Int -> Int, lin f (fun k => zbf c k) = lin f fun _ => 2 := by
  intro f
  have g : ∀ k : Nat, k < 12 -> (zbf c (k : Int) : Int) = 2 := fun k hk => by rw [he k (List.mem_range.mpr hk)]; rfl
  have g0 := g 0 (by decide)
  have g1 := g 1 (by decide)
  have g2 := g 2 (by decide)
  have g3 := g 3 (by decide)
  have g4 := g 4 (by decide)
  have g5 := g 5 (by decide)
  have g6 := g 6 (by decide)
  have g7 := g 7 (by decide)
  have g8 := g 8 (by decide)
  have g9 := g 9 (by decide)
  have g10 := g 10 (by decide)
  have g11 := g 11 (by decide)
  unfold lin
  show f 0 * ((zbf c ((0 : Nat) : Int) : Nat) : Int) + f 1 * ((zbf c ((1 : Nat) : Int) : Nat) : Int) + f 2 * ((zbf c ((2 : Nat) : Int) : Nat) : Int) + f 3 * ((zbf c ((3 : Nat) : Int) : Nat) : Int) + f 4 * ((zbf c ((4 : Nat) : Int) : Nat) : Int) + f 5 * ((zbf c ((5 : Nat) : Int) : Nat) : Int) + f 6 * ((zbf c ((6 : Nat) : Int) : Nat) : Int) + f 7 * ((zbf c ((7 : Nat) : Int) : Nat) : Int) + f 8 * ((zbf c ((8 : Nat) : Int) : Nat) : Int) + f 9 * ((zbf c ((9 : Nat) : Int) : Nat) : Int) + f 10 * ((zbf c ((10 : Nat) : Int) : Nat) : Int) + f 11 * ((zbf c ((11 : Nat) : Int) : Nat) : Int) = _
  rw [g0, g1, g2, g3, g4, g5, g6, g7, g8, g9, g10, g11]
 rw [h2, hz.1] at e1
 rw [h2, hz.2] at e2
 have q : ∀ p ∈ c, (p.1 == m) = false -> d1 I p = 0 /\ d2 I p = 0 := fun p hp h => by
  have h1 := hm p hp
  have h' : p.1 ≠ m := by simpa using h
  have h2 : p.1 < m := by lia
  have := List.all_eq_true.mp h0 p (hv p hp)
  simpa [h2] using this
 constructor
 ·rw [<- zfw fun p hp h => (q p hp h).1]
  show zch (fun p => (val I p).1 - (val I p).2.1) c = 0
  rw [zhs]; exact e1
 ·rw [<- zfw fun p hp h => (q p hp h).2]
  show zch (fun p => (val I p).2.1 - (val I p).2.2) c = 0
  rw [zhs]; exact e2
theorem zf4 {I : ConI} {m : Int} (h : (all27.all fun p => p.1 != m || !(d1 I p == 0 && d2 I p == 0)) = true) {l : List (Int × Int)} (hv : ∀ p ∈ l, p ∈ all27 /\ p.1 = m) (hs : zch (d1 I) l = 0 /\ zch (d2 I) l = 0) (hne : l ≠ []) : 2 <= l.length := by
 match l, hne with
 | [p], _ =>
  have := List.all_eq_true.mp h p (hv p (.head _)).1
  rw [zak, zak] at hs
  have h1 : d1 I p = 0 := by have := hs.1; simp only [zch, List.map_nil, List.sum_nil] at this; lia
  have h2 : d2 I p = 0 := by have := hs.2; simp only [zch, List.map_nil, List.sum_nil] at this; lia
  rw [(hv p (.head _)).2, h1, h2] at this
  simp at this
 | p :: q :: r, _ => simp
theorem zwu {I : ConI} {m : Int} (h : (all27.all fun p => all27.all fun q => p.1 != m || q.1 != m || !(d1 I p + d1 I q == 0 && d2 I p + d2 I q == 0)) = true) {l : List (Int × Int)} (hv : ∀ p ∈ l, p ∈ all27 /\ p.1 = m) (hs : zch (d1 I) l = 0 /\ zch (d2 I) l = 0) (h2 : 2 <= l.length) : 3 <= l.length := by
 match l, h2 with
 | [p, q], _ =>
  have := List.all_eq_true.mp (List.all_eq_true.mp h p (hv p (.head _)).1) q (hv q (.tail _ (.head _))).1
  rw [zak, zak, zak, zak] at hs
  have h1 : d1 I p + d1 I q = 0 := by have := hs.1; simp only [zch, List.map_nil, List.sum_nil] at this; lia
  have h2 : d2 I p + d2 I q = 0 := by have := hs.2; simp only [zch, List.map_nil, List.sum_nil] at this; lia
  rw [(hv p (.head _)).2, (hv q (.tail _ (.head _))).2, h1, h2] at this
  simp at this
 | p :: q :: r :: t, _ => simp
theorem zkl {c : List (Int × Int)} (hv : ∀ p ∈ c, p ∈ all27) (he : ∀ k ∈ List.range 12, zbf c (k : Nat) = 2) {m : Int} (hm : ∃ p ∈ c, p.1 = m) (hx : ∀ p ∈ c, p.1 <= m) : ∃ q : Int, (zff m)[1]? = some q /\ q <= (c.filter fun p => p.1 == m).length := by
 obtain ⟨p0, hp0, h0⟩ := hm
 have hl : ∀ p ∈ c.filter (fun p => p.1 == m), p ∈ all27 /\ p.1 = m := fun p hp => by
  rw [List.mem_filter] at hp
  exact ⟨hv p hp.1, by simpa using hp.2⟩
 have hne : c.filter (fun p => p.1 == m) ≠ [] := List.ne_nil_of_mem (List.mem_filter.mpr ⟨hp0, by simpa using h0⟩)
 have h5 : ∀ p ∈ all27, p.1 = 2 ∨ p.1 = 3 ∨ p.1 = 4 ∨ p.1 = 6 ∨ p.1 = 12 := by decide +kernel
 have h5' := h5 p0 (hv p0 hp0)
 rw [h0] at h5'
 rcases h5' with rfl | rfl | rfl | rfl | rfl
 ·have := zf4 (I := zb3) (by kernel_rfl) hl (zd2 zpz hv he (by kernel_rfl) hx ⟨by kernel_rfl, by kernel_rfl⟩) hne
  exact ⟨2, by kernel_rfl, by lia⟩
 ·have g := zd2 zpy hv he (by kernel_rfl) hx ⟨by kernel_rfl, by kernel_rfl⟩
  have := zwu (I := zbp) (by kernel_rfl) hl g (zf4 (I := zbp) (by kernel_rfl) hl g hne)
  exact ⟨3, by kernel_rfl, by lia⟩
 ·have := zf4 (I := zb2) (by kernel_rfl) hl (zd2 zpx hv he (by kernel_rfl) hx ⟨by kernel_rfl, by kernel_rfl⟩) hne
  exact ⟨2, by kernel_rfl, by lia⟩
 ·have := zf4 (I := zb1) (by kernel_rfl) hl (zd2 zpw hv he (by kernel_rfl) hx ⟨by kernel_rfl, by kernel_rfl⟩) hne
  exact ⟨2, by kernel_rfl, by lia⟩
 ·have := zf4 (I := zbh) (by kernel_rfl) hl (zd2 zl3 hv he (by kernel_rfl) hx ⟨by kernel_rfl, by kernel_rfl⟩) hne
  exact ⟨2, by kernel_rfl, by lia⟩
noncomputable abbrev Γ (l : List D) : List (Str × D) := (["script", "classes", "counts", "moduli", "told", "sizes", "wheels", "mixes", "grey", "number", "digits", "lead", "level", "even", "greatest"] : List Str).zip l
theorem z19 {P : Int -> Prop} (h2 : P 2) (h3 : P 3) (h4 : P 4) (h6 : P 6) (h12 : P 12) : ∀ m ∈ five, P m := by
 intro m hm
 simp only [List.mem_cons, List.not_mem_nil, or_false] at hm
 rcases hm with rfl | rfl | rfl | rfl | rfl
 ·exact h2
 ·exact h3
 ·exact h4
 ·exact h6
 ·exact h12
noncomputable def mapL {α β : Type} (F : α -> β) : List α -> List β
 | [] => []
 | p :: r => F p :: mapL F r
theorem zwr {α β : Type} {F G : α -> β} {l : List α} (h : mapL F l = l.map G) : ∀ p ∈ l, F p = G p := by
 induction l with
 | nil => exact fun p hp => nomatch hp
 | cons q r ih => exact fun p hp => (List.mem_cons.mp hp).elim (fun e => e ▸ (List.cons.inj h).1) (ih (List.cons.inj h).2 p)
theorem by32 {β : Type} {F G : List Int -> β} (h : mapL F zfc = zfc.map G) : ∀ p ∈ zfc, F p = G p := zwr h
theorem zz1 (w : World) : ∃ (pp : Nat -> Pos) (kk : Nat -> Nat) (p10 : Scope), stm w 227 3 = .Assign [.Name "moduli" (pp 0)] (.Call (.Name "sorted" (pp 1)) [.Call (.Name "set" (pp 2)) [.ListComp (.Name "m" (pp 3)) [⟨.Tuple [.Name "m" (pp 4), .Name "a" (pp 5)] (kk 0) (pp 6), .Name "classes" (pp 7), [], 0⟩] p10 (pp 8)] [] (pp 9)] [] (pp 10)) (pp 11) /\ ∀ sc cd cn : D, zbq (zab w 227) p10 (.Tuple [.Name "m" (pp 4), .Name "a" (pp 5)] (kk 0) (pp 6)) (zb9 p10 (Γ [sc, cd, cn])) = true /\ ∀ a b : Int, zdo (zaa (OD w) 37) (fun x => (za7 (zab w 227) p10.names).lookup x) (zb9 p10 (Γ [sc, cd, cn])) (zcq p10 none) (.Tuple [.Name "m" (pp 4), .Name "a" (pp 5)] (kk 0) (pp 6)) (.Name "m" (pp 3)) [] (.tup [.int a, .int b]) = some (some (.int a)) :=
 ⟨fun i => [_, _, _, _, _, _, _, _, _, _, _, _].getD i default, fun i => [_].getD i 0, _, rfl, fun sc cd cn => ⟨by kernel_rfl, fun a b => by kernel_rfl⟩⟩
theorem z0l (w : World) (l : List (D × Kd)) : zbe (zis "set" l) ((OD w).bl "set" l) = zre w l /\ zbe (zis "sorted" l) ((OD w).bl "sorted" l) = zgo w l := ⟨by kernel_rfl, by kernel_rfl⟩
theorem z0i (w : World) (l : List D) : (OD w).fn "set" l = none /\ (OD w).fn "sorted" l = none := ⟨by kernel_rfl, by kernel_rfl⟩
theorem zpi (w : World) {sc cn : D} {c : List (Int × Int)} (hv : ∀ p ∈ c, p ∈ all27) (hl : c.length <= 20) : ∃ M ∈ zfc, (∀ x ∈ five, x ∈ M ↔ ∃ p ∈ c, p.1 = x) /\ zae (OD w) [] (zab w 227) 40 ⟨Γ [sc, zbm c, cn], none⟩ (stm w 227 3) = some (⟨Γ [sc, zbm c, cn, .lst (M.map .int)], none⟩, .next) := by
 obtain ⟨pp, kk, p10, e, h⟩ := zz1 w
 obtain ⟨h1, h2⟩ := h sc (zbm c) cn
 have h5 : ∀ n ∈ c.map (·.1), n ∈ five := by
  intro n hn
  obtain ⟨p, hp, rfl⟩ := List.mem_map.mp hn
  have : ∀ p ∈ all27, p.1 ∈ five := by decide +kernel
  exact this p (hv p hp)
 obtain ⟨m1, m2⟩ := zkg (!byT w) h5
 refine ⟨_, m1, fun x hx => (m2 x hx).trans (by simp), ?_⟩
 rw [e]
 have hc : zaa (OD w) 38 ⟨zab w 227, Γ [sc, zbm c, cn], none⟩ (.ListComp (.Name "m" (pp 3)) [⟨.Tuple [.Name "m" (pp 4), .Name "a" (pp 5)] (kk 0) (pp 6), .Name "classes" (pp 7), [], 0⟩] p10 (pp 8)) = some (.lst ((c.map (·.1)).map .int), .fresh) := by
  refine zdx (d := zbm c) (k := .froz) (ds := c.map clD) (zal (za2 (by decide +kernel) (by kernel_rfl))) rfl (by decide) (by rw [List.length_map, sizeLine_eq]; lia) rfl h1 ?_
  rw [List.map_map]
  exact zdf fun p hp => h2 p.1 p.2
 have hs : zaa (OD w) 39 ⟨zab w 227, Γ [sc, zbm c, cn], none⟩ (.Call (.Name "set" (pp 2)) [.ListComp (.Name "m" (pp 3)) [⟨.Tuple [.Name "m" (pp 4), .Name "a" (pp 5)] (kk 0) (pp 6), .Name "classes" (pp 7), [], 0⟩] p10 (pp 8)] [] (pp 9)) = some (.set (zgb (!byT w) (c.map (·.1))).1.toList (byT w), .froz) := by
  refine zio (l := [(.lst ((c.map (·.1)).map .int), .fresh)]) (zsz w).2.1 (by decide +kernel) (zaj hc zbc) (z0i w _).1 ((z0l w _).1.trans ?_)
  show (match zdp ((c.map (·.1)).map .int) with
   | some ns => if ns.all (fun n => five.contains n) = true then some (D.set (zgb (!byT w) ns).1.toList (byT w), Kd.froz) else none
   | none => none) = _
  rw [zbo]
  dsimp only
  rw [if_pos (List.all_eq_true.mpr fun n hn => List.contains_iff_mem.mpr (h5 n hn))]
 have ho : zaa (OD w) 40 ⟨zab w 227, Γ [sc, zbm c, cn], none⟩ (.Call (.Name "sorted" (pp 1)) [.Call (.Name "set" (pp 2)) [.ListComp (.Name "m" (pp 3)) [⟨.Tuple [.Name "m" (pp 4), .Name "a" (pp 5)] (kk 0) (pp 6), .Name "classes" (pp 7), [], 0⟩] p10 (pp 8)] [] (pp 9)] [] (pp 10)) = some (.lst ((zgv (zgb (!byT w) (c.map (·.1))).1.toList).map .int), .froz) := by
  refine zio (l := [(.set (zgb (!byT w) (c.map (·.1))).1.toList (byT w), .froz)]) (zsz w).2.2 (by decide +kernel) (zaj hs zbc) (z0i w _).2 ((z0l w _).2.trans ?_)
  exact if_pos rfl
 exact zai ho (by kernel_rfl)
theorem zz0 (w : World) : ∃ (pp : Nat -> Pos) (p7 : Scope), stm w 227 4 = .Assign [.Name "told" (pp 0)] (.ListComp (.Call (.Name "_law_witness" (pp 1)) [.Name "m" (pp 2)] [] (pp 3)) [⟨.Name "m" (pp 4), .Name "moduli" (pp 5), [], 0⟩] p7 (pp 6)) (pp 7) /\ ∀ sc cd cn mo : D, zbq (zab w 227) p7 (.Name "m" (pp 4)) (zb9 p7 (Γ [sc, cd, cn, mo])) = true /\ ∀ m ∈ five, zdo (zaa (OD w) 39) (fun x => (za7 (zab w 227) p7.names).lookup x) (zb9 p7 (Γ [sc, cd, cn, mo])) (zcq p7 none) (.Name "m" (pp 4)) (.Call (.Name "_law_witness" (pp 1)) [.Name "m" (pp 2)] [] (pp 3)) [] (.int m) = some (some (zu2 m)) :=
 ⟨fun i => [_, _, _, _, _, _, _, _].getD i default, _, rfl, fun sc cd cn mo => ⟨by kernel_rfl, by apply z19 <;> kernel_rfl⟩⟩
theorem zon : (zfc.all fun M => M.all (five.contains ·) && decide (M.length <= 5)) = true := by kernel_rfl
theorem zlm {M : List Int} (hM : M ∈ zfc) : (∀ m ∈ M, m ∈ five) /\ M.length <= 5 := by
 have := List.all_eq_true.mp zon M hM
 simpa using this
theorem zvx (w : World) {sc cd cn : D} {M : List Int} (hM : M ∈ zfc) : zae (OD w) [] (zab w 227) 40 ⟨Γ [sc, cd, cn, .lst (M.map .int)], none⟩ (stm w 227 4) = some (⟨Γ [sc, cd, cn, .lst (M.map .int), .lst (M.map zu2)], none⟩, .next) := by
 obtain ⟨pp, p7, e, h⟩ := zz0 w
 obtain ⟨h1, h2⟩ := h sc cd cn (.lst (M.map .int))
 obtain ⟨f1, f2⟩ := zlm hM
 rw [e]
 refine zai (r := (.lst (M.map zu2), .fresh)) (zdx (d := .lst (M.map .int)) (k := .froz) (ds := M.map .int) (zal (za2 (by decide +kernel) (by kernel_rfl))) rfl (by decide) (by rw [List.length_map, sizeLine_eq]; lia) rfl h1 (zdf fun m hm => h2 m (f1 m hm))) (by kernel_rfl)
noncomputable def szL (M : List Int) : List (Int × D) := M.map fun m => (m, D.lst ((zff m).map .int))
theorem zms (w : World) : ∃ p, stm w 227 5 = .If (ifT (stm w 227 5)) (ifB (stm w 227 5)) [] p := ⟨_, rfl⟩
theorem zoi (w : World) {sc cd cn : D} : ∀ M ∈ zfc, zaa (OD w) 40 ⟨zab w 227, Γ [sc, cd, cn, .lst (M.map .int), .lst (M.map zu2)], none⟩ (ifT (stm w 227 5)) = some (.bool false, .froz) := by32 (by kernel_rfl)
theorem zsa (w : World) {sc cd cn : D} : ∀ M ∈ zfc, zae (OD w) [] (zab w 227) 40 ⟨Γ [sc, cd, cn, .lst (M.map .int), .lst (M.map zu2)], none⟩ (stm w 227 6) = some (⟨Γ [sc, cd, cn, .lst (M.map .int), .lst (M.map zu2), .dic (szL M)], none⟩, .next) := by32 (by kernel_rfl)
noncomputable def whD : D := .tup ([(2, 1), (3, 1), (4, 1), (6, 1), (12, 1), (12, 7)].map fun (p : Int × Int) => .tup [.int p.1, .int p.2])
theorem zoa (w : World) {sc cd cn mo to sz : D} : zae (OD w) [] (zab w 227) 40 ⟨Γ [sc, cd, cn, mo, to, sz], none⟩ (stm w 227 7) = some (⟨Γ [sc, cd, cn, mo, to, sz, whD], none⟩, .next) := by kernel_rfl
theorem zzz (w : World) : ∃ (pp : Nat -> Pos) (kk : Nat -> Nat) (p13 : Scope), stm w 227 8 = .Assign [.Name "mixes" (pp 0)] (.ListComp (.Call (.Name "_law_mix" (pp 1)) [.Name "classes" (pp 2), .Name "sizes" (pp 3), .Name "d" (pp 4), .Name "times" (pp 5)] [] (pp 6)) [⟨.Tuple [.Name "d" (pp 7), .Name "times" (pp 8)] (kk 0) (pp 9), .Name "wheels" (pp 10), [], 0⟩] p13 (pp 11)) (pp 12) /\ ∀ sc cd cn mo to sz : D, zbq (zab w 227) p13 (.Tuple [.Name "d" (pp 7), .Name "times" (pp 8)] (kk 0) (pp 9)) (zb9 p13 (Γ [sc, cd, cn, mo, to, sz, whD])) = true /\ (fun x => (za7 (zab w 227) p13.names).lookup x) ("_law_mix" : Str) = some NameKind.globalImplicit /\ zcq p13 none = none /\ ∀ d t : Int, za8 (fun x => (za7 (zab w 227) p13.names).lookup x) none (zb9 p13 (Γ [sc, cd, cn, mo, to, sz, whD])) (.Tuple [.Name "d" (pp 7), .Name "times" (pp 8)] (kk 0) (pp 9)) (.tup [.int d, .int t]) = some ([("classes", cd), ("sizes", sz), ("d", .int d), ("times", .int t)] : List (Str × D)) :=
 ⟨fun i => [_, _, _, _, _, _, _, _, _, _, _, _, _].getD i default, fun i => [_].getD i 0, _, rfl, fun sc cd cn mo to sz => ⟨by kernel_rfl, by kernel_rfl, by kernel_rfl, fun d t => by kernel_rfl⟩⟩
theorem zcr {step : D -> Option (Option D)} {d e : D} {ds es : List D} (h : step d = some (some e)) (hs : zbw step ds = some es) : zbw step (d :: ds) = some (e :: es) := by
 rw [zbw, h]; dsimp only; rw [hs]
noncomputable abbrev zf2 (q : UInt64 × UInt64 × UInt64) : D := .tup [.flt q.1, .flt q.2.1, .flt q.2.2]
theorem zsn (w : World) {sc cd cn mo to sz : D} {a b c d e f : UInt64 × UInt64 × UInt64} (ha : zaw w (OC w) [] 222 ps_mix [cd, sz, .int 2, .int 1] = some (zf2 a)) (hb : zaw w (OC w) [] 222 ps_mix [cd, sz, .int 3, .int 1] = some (zf2 b)) (hc : zaw w (OC w) [] 222 ps_mix [cd, sz, .int 4, .int 1] = some (zf2 c)) (hd : zaw w (OC w) [] 222 ps_mix [cd, sz, .int 6, .int 1] = some (zf2 d)) (he : zaw w (OC w) [] 222 ps_mix [cd, sz, .int 12, .int 1] = some (zf2 e)) (hf : zaw w (OC w) [] 222 ps_mix [cd, sz, .int 12, .int 7] = some (zf2 f)) :
  zae (OD w) [] (zab w 227) 40 ⟨Γ [sc, cd, cn, mo, to, sz, whD], none⟩ (stm w 227 8) = some (⟨Γ [sc, cd, cn, mo, to, sz, whD, .lst ([a, b, c, d, e, f].map zf2)], none⟩, .next) := by
 obtain ⟨pp, kk, p13, e8, h⟩ := zzz w
 obtain ⟨h1, h2, h3, h4⟩ := h sc cd cn mo to sz
 rw [e8]
 have st : ∀ (x t : Int) (q : UInt64 × UInt64 × UInt64), zaw w (OC w) [] 222 ps_mix [cd, sz, .int x, .int t] = some (zf2 q) -> zdo (zaa (OD w) 39) (fun x => (za7 (zab w 227) p13.names).lookup x) (zb9 p13 (Γ [sc, cd, cn, mo, to, sz, whD])) (zcq p13 none) (.Tuple [.Name "d" (pp 7), .Name "times" (pp 8)] (kk 0) (pp 9)) (.Call (.Name "_law_mix" (pp 1)) [.Name "classes" (pp 2), .Name "sizes" (pp 3), .Name "d" (pp 4), .Name "times" (pp 5)] [] (pp 6)) [] (.tup [.int x, .int t]) = some (some (zf2 q)) := by
  intro x t q hq
  unfold zdo
  rw [h3, h4]
  dsimp only [zd4]
  have : zaa (OD w) 39 ⟨(fun x => (za7 (zab w 227) p13.names).lookup x), [("classes", cd), ("sizes", sz), ("d", .int x), ("times", .int t)], none⟩ (.Call (.Name "_law_mix" (pp 1)) [.Name "classes" (pp 2), .Name "sizes" (pp 3), .Name "d" (pp 4), .Name "times" (pp 5)] [] (pp 6)) = some (zf2 q, .froz) :=
   zmo (l := [(cd, .froz), (sz, .froz), (.int x, .froz), (.int t, .froz)]) h2 (by decide +kernel) (zaj (by kernel_rfl) (zaj (by kernel_rfl) (zaj (by kernel_rfl) (zaj (by kernel_rfl) zbc)))) ((z0g w _).trans hq) (.inl rfl)
  rw [this]; rfl
 exact zai (r := (.lst ([a, b, c, d, e, f].map zf2), .fresh)) (zdx (d := whD) (k := .froz) (ds := [(2, 1), (3, 1), (4, 1), (6, 1), (12, 1), (12, 7)].map fun (p : Int × Int) => .tup [.int p.1, .int p.2]) (zal (za2 (by decide +kernel) (by kernel_rfl))) rfl (by decide) (by rw [sizeLine_eq]; exact Nat.le_of_ble_eq_true rfl) rfl h1 (zcr (st _ _ _ ha) (zcr (st _ _ _ hb) (zcr (st _ _ _ hc) (zcr (st _ _ _ hd) (zcr (st _ _ _ he) (zcr (st _ _ _ hf) rfl))))))) (by kernel_rfl)
noncomputable abbrev isG (q : UInt64 × UInt64 × UInt64) : Bool := Float64.cmp q.2.2 0 == some Ordering.eq
noncomputable def zkr (q : UInt64 × UInt64 × UInt64) : Option D := if isG q = true then none else some (zf2 q)
theorem zzy (w : World) : ∃ (pp : Nat -> Pos) (kk : Nat -> Nat) (p12 : Scope), stm w 227 9 = .Assign [.Name "grey" (pp 0)] (.Compare (.ListComp (.Name "mix" (pp 1)) [⟨.Name "mix" (pp 2), .Name "mixes" (pp 3), [.Compare (.Subscript (.Name "mix" (pp 4)) (.Constant (.int 2) (kk 0) (pp 5)) (pp 6)) [.NotEq] [.Constant (.float 0) (kk 1) (pp 7)] (pp 8)], 0⟩] p12 (pp 9)) [.Eq] [.List [] (pp 10)] (pp 11)) (pp 12) /\ ∀ sc cd cn mo to sz wh mx : D, zbq (zab w 227) p12 (.Name "mix" (pp 2)) (zb9 p12 (Γ [sc, cd, cn, mo, to, sz, wh, mx])) = true /\ zcq p12 none = none /\ ∀ q : UInt64 × UInt64 × UInt64, za8 (fun x => (za7 (zab w 227) p12.names).lookup x) none (zb9 p12 (Γ [sc, cd, cn, mo, to, sz, wh, mx])) (.Name "mix" (pp 2)) (zf2 q) = some ([("mix", zf2 q)] : List (Str × D)) /\ zaa (OD w) 38 ⟨(fun x => (za7 (zab w 227) p12.names).lookup x), [("mix", zf2 q)], none⟩ (.Compare (.Subscript (.Name "mix" (pp 4)) (.Constant (.int 2) (kk 0) (pp 5)) (pp 6)) [.NotEq] [.Constant (.float 0) (kk 1) (pp 7)] (pp 8)) = some (.bool (!isG q), .froz) :=
 ⟨fun i => [_, _, _, _, _, _, _, _, _, _, _, _, _].getD i default, fun i => [_, _].getD i 0, _, rfl, fun sc cd cn mo to sz wh mx => ⟨by kernel_rfl, by kernel_rfl, fun q => ⟨by kernel_rfl, by kernel_rfl⟩⟩⟩
theorem zue {α : Type} {step : D -> Option (Option D)} {f : α -> D} {g : α -> Option D} {l : List α} : (∀ a ∈ l, step (f a) = some (g a)) -> zbw step (l.map f) = some (l.filterMap g) := by
 induction l with
 | nil =>
  intro _
  exact rfl
 | cons a l IH =>
  intro h
  have ih := IH fun a ha => h a (.tail _ ha)
  have hp := h a (.head _)
  rw [List.map_cons, zbw, hp, List.filterMap_cons]
  cases g a with
  | none => exact ih
  | some e => dsimp only; rw [ih]
theorem ztl (l : List (UInt64 × UInt64 × UInt64)) : znv .Eq (.lst (l.filterMap zkr)) (.lst []) = some (l.all isG) := by
 cases h : l.all isG with
 | true =>
  have : l.filterMap zkr = [] := List.filterMap_eq_nil_iff.mpr fun a ha => if_pos (List.all_eq_true.mp h a ha)
  rw [this]; kernel_rfl
 | false =>
  show (if (l.filterMap zkr).length = ([] : List D).length then zir (.lst (l.filterMap zkr)) (.lst []) else some false) = _
  rw [if_neg]
  intro q
  have q' := List.filterMap_eq_nil_iff.mp (List.length_eq_zero_iff.mp q)
  have : l.all isG = true := List.all_eq_true.mpr fun a ha => by
   have := q' a ha
   unfold zkr at this
   cases e : isG a with
   | true => rfl
   | false => rw [e] at this; cases this
  rw [this] at h; cases h
theorem zxh (w : World) {sc cd cn mo to sz wh : D} {l : List (UInt64 × UInt64 × UInt64)} (hl : l.length <= 100) : zae (OD w) [] (zab w 227) 40 ⟨Γ [sc, cd, cn, mo, to, sz, wh, .lst (l.map zf2)], none⟩ (stm w 227 9) = some (⟨Γ [sc, cd, cn, mo, to, sz, wh, .lst (l.map zf2), .bool (l.all isG)], none⟩, .next) := by
 obtain ⟨pp, kk, p12, e9, h⟩ := zzy w
 obtain ⟨h1, h2, h3⟩ := h sc cd cn mo to sz wh (.lst (l.map zf2))
 rw [e9]
 have hc : zaa (OD w) 39 ⟨zab w 227, Γ [sc, cd, cn, mo, to, sz, wh, .lst (l.map zf2)], none⟩ (.ListComp (.Name "mix" (pp 1)) [⟨.Name "mix" (pp 2), .Name "mixes" (pp 3), [.Compare (.Subscript (.Name "mix" (pp 4)) (.Constant (.int 2) (kk 0) (pp 5)) (pp 6)) [.NotEq] [.Constant (.float 0) (kk 1) (pp 7)] (pp 8)], 0⟩] p12 (pp 9)) = some (.lst (l.filterMap zkr), .fresh) := by
  refine zdx (d := .lst (l.map zf2)) (k := .froz) (ds := l.map zf2) (zal (za2 (by decide +kernel) (by kernel_rfl))) rfl (by decide) (by rw [List.length_map, sizeLine_eq]; lia) rfl h1 (zue fun q _ => ?_)
  obtain ⟨h4, h5⟩ := h3 q
  unfold zdo zkr
  rw [h2, h4]
  dsimp only [zd4]
  rw [h5]
  cases isG q <;> kernel_rfl
 exact zai (r := (.bool (l.all isG), .froz)) (zfj hc (zru zbc rfl (Nat.zero_le _)) rfl (ztl l)) (by kernel_rfl)
theorem zjd (w : World) : zab w 227 "_law_number" = some .globalImplicit /\ zab w 227 "_int2digits" = some .globalImplicit /\ zab w 227 "Whitespace" = some .globalImplicit /\ zab w 227 "int_divmod" = some .globalImplicit := ⟨by kernel_rfl, by kernel_rfl, by kernel_rfl, by kernel_rfl⟩
theorem zwd (w : World) : ∃ (pp : Nat -> Pos), stm w 227 10 = .Assign [.Name "number" (pp 0)] (.Call (.Name "_law_number" (pp 1)) [.Name "classes" (pp 2)] [] (pp 3)) (pp 4) :=
 ⟨fun i => [_, _, _, _, _].getD i default, rfl⟩
theorem zwc (w : World) : ∃ (pp : Nat -> Pos) (kk : Nat -> Nat), stm w 227 11 = .Assign [.Name "digits" (pp 0)] (.Call (.Name "_int2digits" (pp 1)) [.Name "number" (pp 2), .Constant (.int 4) (kk 0) (pp 3)] [] (pp 4)) (pp 5) :=
 ⟨fun i => [_, _, _, _, _, _].getD i default, fun i => [_].getD i 0, rfl⟩
theorem zwb (w : World) : ∃ (pp : Nat -> Pos) (kk : Nat -> Nat), stm w 227 12 = .If (.Compare (.BinOp (.Name "digits" (pp 0)) .Add (.BinOp (.List [.Constant (.int 0) (kk 0) (pp 1)] (pp 2)) .Mult (.BinOp (.Constant (.int 12) (kk 1) (pp 3)) .Sub (.Call (.Name "len" (pp 4)) [.Name "digits" (pp 5)] [] (pp 6)) (pp 7)) (pp 8)) (pp 9)) [.NotEq] [.Name "counts" (pp 10)] (pp 11)) [.Return (some (.Constant (.bool false) (kk 2) (pp 12))) (pp 13)] [] (pp 14) :=
 ⟨fun i => [_, _, _, _, _, _, _, _, _, _, _, _, _, _, _].getD i default, fun i => [_, _, _].getD i 0, rfl⟩
theorem zm6 (w : World) {sc cn mo to sz wh mx gr : D} {c : List (Int × Int)} (g : Good c) {N : Nat} (hN : (N : Int) = hex (cI c)) : zae (OD w) [] (zab w 227) 40 ⟨Γ [sc, zbm c, cn, mo, to, sz, wh, mx, gr], none⟩ (stm w 227 10) = some (⟨Γ [sc, zbm c, cn, mo, to, sz, wh, mx, gr, .int N], none⟩, .next) := by
 obtain ⟨pp, e⟩ := zwd w
 rw [e]
 have hn := zpc w g.ne g.val
 rw [zm5 g.val, <- hN] at hn
 exact zai (r := (.int N, .froz)) (zmo (l := [(zbm c, .froz)]) (zjd w).1 (by decide +kernel) (zaj (by kernel_rfl) zbc) ((z0f w _).trans hn) (.inl rfl)) (by kernel_rfl)
theorem znr (w : World) {sc cd cn mo to sz wh mx gr : D} {f : Int -> Int} (h : Cnt f) {N : Nat} (hN : (N : Int) = hex f) : zae (OD w) [] (zab w 227) 40 ⟨Γ [sc, cd, cn, mo, to, sz, wh, mx, gr, .int N], none⟩ (stm w 227 11) = some (⟨Γ [sc, cd, cn, mo, to, sz, wh, mx, gr, .int N, .lst ((zf8 N 4).map .int)], none⟩, .next) := by
 obtain ⟨pp, kk, e⟩ := zwc w
 rw [e]
 exact zai (r := (.lst ((zf8 N 4).map .int), .froz)) (zmo (l := [(.int N, .froz), (.int 4, .froz)]) (zjd w).2.1 (by decide +kernel) (zaj (by kernel_rfl) (zaj (za9 rfl) zbc)) ((z0h w _).trans (zjo h hN).1) (.inl rfl)) (by kernel_rfl)
theorem zky (w : World) {sc cd mo to sz wh mx gr : D} {f : Int -> Int} (h : Cnt f) {N : Nat} (hN : (N : Int) = hex f) : ∃ p, stm w 227 12 = .If (ifT (stm w 227 12)) (ifB (stm w 227 12)) [] p /\ zaa (OD w) 40 ⟨zab w 227, Γ [sc, cd, .lst ((zbs f).map .int), mo, to, sz, wh, mx, gr, .int N, .lst ((zf8 N 4).map .int)], none⟩ (ifT (stm w 227 12)) = some (.bool false, .froz) := by
 obtain ⟨pp, kk, e⟩ := zwb w
 obtain ⟨_, d2, d3⟩ := zjo h hN
 rw [e]
 refine ⟨(pp 14), rfl, ?_⟩
 show zaa (OD w) 40 _ (.Compare _ _ _ _) = _
 generalize hD : zf8 N 4 = ds at d2 d3
 have hd : ∀ n q, zaa (OD w) (n + 1) ⟨zab w 227, Γ [sc, cd, .lst ((zbs f).map .int), mo, to, sz, wh, mx, gr, .int N, .lst ((ds).map .int)], none⟩ (.Name "digits" q) = some (.lst (ds.map .int), .froz) := fun n q => zal (za2 (by decide +kernel) (by kernel_rfl))
 have hlen : zaa (OD w) 36 ⟨zab w 227, Γ [sc, cd, .lst ((zbs f).map .int), mo, to, sz, wh, mx, gr, .int N, .lst ((ds).map .int)], none⟩ (.Call (.Name "len" (pp 4)) [.Name "digits" (pp 5)] [] (pp 6)) = some (.int ds.length, .froz) := by
  refine zio (l := [(.lst (ds.map .int), .froz)]) (zsz w).1 (by decide +kernel) (zaj (hd 34 (pp 5)) zbc) (zpb w _) ?_
  rw [show zis "len" = zbr from funext fun l => if_pos rfl]
  unfold zbr
  dsimp only
  rw [List.length_map, if_pos (by rw [sizeLine_eq]; lia)]; rfl
 have hpad : zaa (OD w) 38 ⟨zab w 227, Γ [sc, cd, .lst ((zbs f).map .int), mo, to, sz, wh, mx, gr, .int N, .lst ((ds).map .int)], none⟩ (.BinOp (.List [.Constant (.int 0) (kk 0) (pp 1)] (pp 2)) .Mult (.BinOp (.Constant (.int 12) (kk 1) (pp 3)) .Sub (.Call (.Name "len" (pp 4)) [.Name "digits" (pp 5)] [] (pp 6)) (pp 7)) (pp 8)) = some (.lst ((List.replicate (12 - ds.length) 0).map .int), .fresh) := by
  refine za3 (a := .lst [.int 0]) (k1 := .fresh) (b := .int (12 - (ds.length : Int))) (k2 := .froz) (zru (zaj (za9 rfl) zbc) rfl (by rw [sizeLine_eq]; exact Nat.le_of_ble_eq_true rfl)) (za3 (a := .int 12) (k1 := .froz) (b := .int ds.length) (k2 := .froz) (za9 rfl) hlen rfl) ?_
  show (if ([.int 0] : List D).length <= 1000 /\ (12 : Int) - ds.length <= 1000 /\ -1000 <= (12 : Int) - ds.length then some (D.lst (List.replicate ((12 : Int) - ds.length).toNat [.int 0]).flatten, Kd.fresh) else none) = _
  rw [if_pos ⟨by decide, by lia, by lia⟩, show ((12 : Int) - ds.length).toNat = 12 - ds.length from by lia]
  simp
 refine zfj (a := .lst ((zbs f).map .int)) (k1 := .fresh) (b := .lst ((zbs f).map .int)) (k2 := .froz) (za3 (hd 37 (pp 0)) hpad ?_) (zal (za2 (by decide +kernel) (by kernel_rfl))) rfl ?_
 ·show (if (ds.map D.int).length + ((List.replicate (12 - ds.length) 0).map D.int).length <= sizeLine then some (D.lst (ds.map .int ++ (List.replicate (12 - ds.length) 0).map .int), Kd.fresh) else none) = _
  rw [if_pos (by rw [List.length_map, List.length_map, List.length_replicate, sizeLine_eq]; lia), <- List.map_append, d3]
 ·rw [zk3]; simp
theorem zr5 (n : Nat) : (⟨(List.replicate n 32).toArray⟩ : Str) ++ (⟨#[9]⟩ : Str) = zg7 [n] := by
 show Str.mk ((List.replicate n 32).toArray ++ #[9]) = Str.mk (zfl [n]).toArray
 refine congrArg Str.mk (Array.toList_inj.1 ?_)
 simp [zfl]
theorem zgc : ∀ l : List Nat, flat (l.map fun n => zg7 [n]) = zfl l
 | [] => rfl
 | n :: l => by
  rw [List.map_cons, zb6, zgc l, zc6]
  show (zfl [n]).toArray.toList ++ _ = _
  simp [zfl]
theorem zp6 (l : List Nat) : Txt.join (Str.mk #[]) (l.map fun n => zg7 [n]) = zg7 l := by
 rw [zf5, zgc]; rfl
theorem zj5 {l : List Nat} : (∀ k ∈ l, k < 100) -> (zfl l).length <= 100 * l.length := by
 induction l with
 | nil =>
  intro _
  exact Nat.zero_le _
 | cons n l IH =>
  intro h
  have := IH fun k hk => h k (.tail _ hk)
  have hn := h n (.head _)
  rw [zc6, List.length_append, List.length_replicate, List.length_cons, List.length_cons]
  lia
theorem zwa (w : World) : ∃ (pp : Nat -> Pos) (kk : Nat -> Nat) (p15 : Scope), stm w 227 13 = .Assign [.Name "lead" (pp 0)] (.Call (.Name "Whitespace" (pp 1)) [.Call (.Attribute (.Constant (.str "") (kk 0) (pp 2)) "join" (pp 3)) [.ListComp (.BinOp (.BinOp (.Constant (.str " ") (kk 1) (pp 4)) .Mult (.Name "n" (pp 5)) (pp 6)) .Add (.Constant (.str "\t") (kk 2) (pp 7)) (pp 8)) [⟨.Name "n" (pp 9), .Name "counts" (pp 10), [], 0⟩] p15 (pp 11)] [] (pp 12)] [] (pp 13)) (pp 14) /\ (pp 3).endLine = (pp 12).line /\ ∀ sc cd cn mo to sz wh mx gr nu di : D, zbq (zab w 227) p15 (.Name "n" (pp 9)) (zb9 p15 (Γ [sc, cd, cn, mo, to, sz, wh, mx, gr, nu, di])) = true /\ ∀ n : Int, za8 (fun x => (za7 (zab w 227) p15.names).lookup x) (zcq p15 none) (zb9 p15 (Γ [sc, cd, cn, mo, to, sz, wh, mx, gr, nu, di])) (.Name "n" (pp 9)) (.int n) = some ([("n", .int n)] : List (Str × D)) :=
 ⟨fun i => [_, _, _, _, _, _, _, _, _, _, _, _, _, _, _].getD i default, fun i => [_, _, _].getD i 0, _, rfl, rfl, fun sc cd cn mo to sz wh mx gr nu di => ⟨by kernel_rfl, fun n => by kernel_rfl⟩⟩
theorem zsy (w : World) {sc cd mo to sz wh mx gr nu di : D} {ns : List Nat} (h12 : ns.length = 12) (hb : ∀ k ∈ ns, k < 100) : zae (OD w) [] (zab w 227) 40 ⟨Γ [sc, cd, .lst ((ns.map Int.ofNat).map .int), mo, to, sz, wh, mx, gr, nu, di], none⟩ (stm w 227 13) = some (⟨Γ [sc, cd, .lst ((ns.map Int.ofNat).map .int), mo, to, sz, wh, mx, gr, nu, di, .ins (zix ns)], none⟩, .next) := by
 obtain ⟨pp, kk, p15, e, hp, h⟩ := zwa w
 obtain ⟨h1, h2⟩ := h sc cd (.lst ((ns.map Int.ofNat).map .int)) mo to sz wh mx gr nu di
 rw [e]
 have hC : zaa (OD w) 38 ⟨zab w 227, Γ [sc, cd, .lst ((ns.map Int.ofNat).map .int), mo, to, sz, wh, mx, gr, nu, di], none⟩ (.ListComp (.BinOp (.BinOp (.Constant (.str " ") (kk 1) (pp 4)) .Mult (.Name "n" (pp 5)) (pp 6)) .Add (.Constant (.str "\t") (kk 2) (pp 7)) (pp 8)) [⟨.Name "n" (pp 9), .Name "counts" (pp 10), [], 0⟩] p15 (pp 11)) = some (.lst ((ns.map fun n => zg7 [n]).map .str), .fresh) := by
  rw [show (ns.map fun n => zg7 [n]).map D.str = ns.map fun n => D.str (zg7 [n]) from by rw [List.map_map]; rfl]
  refine zdx (d := .lst ((ns.map Int.ofNat).map .int)) (k := .froz) (ds := ns.map fun n => D.int (Int.ofNat n)) (zal (za2 (by decide +kernel) (by kernel_rfl))) (by rw [List.map_map]; rfl) (by decide) (by rw [List.length_map, h12, sizeLine_eq]; exact Nat.le_of_ble_eq_true rfl) rfl h1 (zdf fun n hn => ?_)
  have hn := hb n hn
  unfold zdo
  rw [h2]
  dsimp only [zd4]
  have e1 : zaa (OD w) 37 ⟨(fun x => (za7 (zab w 227) p15.names).lookup x), [(("n" : Str), D.int (Int.ofNat n))], zcq p15 none⟩ (.BinOp (.BinOp (.Constant (.str " ") (kk 1) (pp 4)) .Mult (.Name "n" (pp 5)) (pp 6)) .Add (.Constant (.str "\t") (kk 2) (pp 7)) (pp 8)) = some (.str (zg7 [n]), .froz) := by
   refine za3 (a := .str ⟨(List.replicate n 32).toArray⟩) (k1 := .froz) (b := .str "\t") (k2 := .froz) (za3 (a := .str " ") (k1 := .froz) (b := .int (Int.ofNat n)) (k2 := .froz) (za9 rfl) (zal (za2 (by decide +kernel) (by kernel_rfl))) ?_) (za9 rfl) ?_
   ·show (if (" " : Str).length <= 1000 /\ (Int.ofNat n) <= 1000 /\ -1000 <= (Int.ofNat n) then some (D.str (Txt.mul (" " : Str) (Int.ofNat n)), Kd.froz) else none) = _
    rw [if_pos ⟨by decide +kernel, by show (n : Int) <= 1000; lia, by show -1000 <= (n : Int); lia⟩, sp_is, show Int.ofNat n = (n : Int) from rfl, zlw]
   ·show (if (⟨(List.replicate n 32).toArray⟩ : Str).length + ("\t" : Str).length <= sizeLine then some (D.str ((⟨(List.replicate n 32).toArray⟩ : Str) ++ ("\t" : Str)), Kd.froz) else none) = _
    have e1 : (⟨(List.replicate n 32).toArray⟩ : Str).length = n := by show (List.replicate _ 32).toArray.size = _; simp
    have e2 : (⟨#[9]⟩ : Str).length = 1 := rfl
    rw [zzf, if_pos (by rw [e1, e2, sizeLine_eq]; lia), zr5]
  rw [e1]
  rfl
 have hj : zaa (OD w) 39 ⟨zab w 227, Γ [sc, cd, .lst ((ns.map Int.ofNat).map .int), mo, to, sz, wh, mx, gr, nu, di], none⟩ (.Call (.Attribute (.Constant (.str "") (kk 0) (pp 2)) "join" (pp 3)) [.ListComp (.BinOp (.BinOp (.Constant (.str " ") (kk 1) (pp 4)) .Mult (.Name "n" (pp 5)) (pp 6)) .Add (.Constant (.str "\t") (kk 2) (pp 7)) (pp 8)) [⟨.Name "n" (pp 9), .Name "counts" (pp 10), [], 0⟩] p15 (pp 11)] [] (pp 12)) = some (.str (zg7 ns), .froz) := by
  refine zmn (d := .str "") (k := .froz) (l := [(.lst ((ns.map fun n => zg7 [n]).map .str), .fresh)]) hp (by simp) rfl (za9 rfl) (fun fs e => by cases e) (zaj hC zbc) rfl ?_
  show (match zfg ((ns.map fun n => zg7 [n]).map .str) with
   | some ss => if JoinOk ("" : Str) ss = true then some (D.str (Txt.join ("" : Str) ss)) else none
   | none => none) = _
  rw [zgh, zmb]
  dsimp only
  have := zj5 hb
  rw [if_pos (zdz (by rw [zgc]; lia)), zp6]
 refine zai (r := (.ins (zix ns), .froz)) (zmo (l := [(.str (zg7 ns), .froz)]) (zjd w).2.2.1 (by decide +kernel) (zaj hj zbc) ?_ (.inl rfl)) (by kernel_rfl)
 refine (z0e w _).trans ?_
 match ns, h12, hb with
 | a :: l, _, hb => exact zlj hb
theorem b76 (w : World) : ∃ (pp : Nat -> Pos), zay w 76 = [.Return (some (.Compare (.Attribute (.Name "self" (pp 0)) "norm" (pp 1)) [.Eq] [.Attribute (.Name "other" (pp 2)) "norm" (pp 3)] (pp 4))) (pp 5)] := ⟨fun i => [_, _, _, _, _, _].getD i default, rfl⟩
theorem zt3 (w : World) (a b : List Nat) : zaw w O0 [] 76 ps_eqm [.ins (zix a), .ins (zix b)] = some (.bool (a.foldl wsT [] == b.foldl wsT [])) := by
 obtain ⟨pp, e⟩ := b76 w
 refine za5 rfl ?_
 rw [e]
 refine zg4 (k := .froz) (zfj (a := .tup [.tup ((a.foldl wsT []).map .int), .int 0]) (k1 := .froz) (b := .tup [.tup ((b.foldl wsT []).map .int), .int 0]) (k2 := .froz) (zvo (fs := zix a) (by kernel_rfl) (by decide +kernel) (by decide +kernel) (by kernel_rfl)) (zvo (fs := zix b) (by kernel_rfl) (by decide +kernel) (by decide +kernel) (by kernel_rfl)) rfl ?_)
 rw [zug]; simp
theorem z0j (w : World) (a : List Nat) (args : List D) : (OD w).me "equal" (zix a) args = zaw w O0 [] 76 ps_eqm (.ins (zix a) :: args) := by kernel_rfl
theorem zr0 (w : World) (n : Nat) (σ : List (Str × D)) {p4 p6 p8 p9 p10 : Pos} {p5 p7 : Nat} : zaa (OD w) (n + 4) ⟨zab w 227, σ, none⟩ (.Call (.Name "Whitespace" p4) [.BinOp (.Constant (.str "  \t") p5 p6) .Mult (.Constant (.int 12) p7 p8) p9] [] p10) = some (.ins (zix (List.replicate 12 2)), .froz) := by
 refine zmo (l := [(.str (zg7 (List.replicate 12 2)), .froz)]) (zjd w).2.2.1 (by decide +kernel) (zaj (by kernel_rfl) zbc) ((z0e w _).trans ?_) (.inl rfl)
 exact zlj (n := 2) (ns := List.replicate 11 2) (by decide)
theorem zv9 (w : World) : ∃ (pp : Nat -> Pos) (kk : Nat -> Nat), stm w 227 14 = .Assign [.Name "level" (pp 0)] (.Call (.Attribute (.Name "lead" (pp 1)) "equal" (pp 2)) [.Call (.Name "Whitespace" (pp 3)) [.BinOp (.Constant (.str "  \t") (kk 0) (pp 4)) .Mult (.Constant (.int 12) (kk 1) (pp 5)) (pp 6)] [] (pp 7)] [] (pp 8)) (pp 9) /\ (pp 2).endLine = (pp 8).line :=
 ⟨fun i => [_, _, _, _, _, _, _, _, _, _].getD i default, fun i => [_, _].getD i 0, rfl, rfl⟩
theorem zp0 (w : World) {sc cd cn mo to sz wh mx gr nu di : D} {ns : List Nat} (h12 : ns.length = 12) : zae (OD w) [] (zab w 227) 40 ⟨Γ [sc, cd, cn, mo, to, sz, wh, mx, gr, nu, di, .ins (zix ns)], none⟩ (stm w 227 14) = some (⟨Γ [sc, cd, cn, mo, to, sz, wh, mx, gr, nu, di, .ins (zix ns), .bool (decide (ns = List.replicate 12 2))], none⟩, .next) := by
 obtain ⟨pp, kk, e, hp⟩ := zv9 w
 rw [e]
 refine zai (r := (.bool (decide (ns = List.replicate 12 2)), .froz)) (E_Me (fs := zix ns) (k := .froz) (l := [(.ins (zix (List.replicate 12 2)), .froz)]) hp (by simp) rfl (zal (za2 (by decide +kernel) (by kernel_rfl))) (zaj (zr0 w 35 _) zbc) rfl ?_) (by kernel_rfl)
 rw [z0j, List.map_cons, List.map_nil, zt3, <- zp1 h12]
 rfl
theorem zv8 (w : World) : ∃ (pp : Nat -> Pos) (kk : Nat -> Nat), stm w 227 15 = .Assign [.Name "even" (pp 0)] (.Compare (.Name "counts" (pp 1)) [.Eq] [.BinOp (.List [.Constant (.int 2) (kk 0) (pp 2)] (pp 3)) .Mult (.Constant (.int 12) (kk 1) (pp 4)) (pp 5)] (pp 6)) (pp 7) :=
 ⟨fun i => [_, _, _, _, _, _, _, _].getD i default, fun i => [_, _].getD i 0, rfl⟩
theorem ztz (w : World) {sc cd mo to sz wh mx gr nu di le lv : D} {cs : List Int} : zae (OD w) [] (zab w 227) 40 ⟨Γ [sc, cd, .lst (cs.map .int), mo, to, sz, wh, mx, gr, nu, di, le, lv], none⟩ (stm w 227 15) = some (⟨Γ [sc, cd, .lst (cs.map .int), mo, to, sz, wh, mx, gr, nu, di, le, lv, .bool (cs == List.replicate 12 2)], none⟩, .next) := by
 obtain ⟨pp, kk, e⟩ := zv8 w
 rw [e]
 exact zai (r := (.bool (cs == List.replicate 12 2), .froz)) (zfj (a := .lst (cs.map .int)) (k1 := .froz) (b := .lst ((List.replicate 12 2).map .int)) (k2 := .fresh) (zal (za2 (by decide +kernel) (by kernel_rfl))) (by kernel_rfl) rfl (zk4 _ _)) (by kernel_rfl)
theorem zv7 (w : World) : ∃ (pp : Nat -> Pos) (kk : Nat -> Nat), stm w 227 16 = .If (.Compare (.List [.Name "grey" (pp 0), .Name "level" (pp 1), .Compare (.Call (.Name "int_divmod" (pp 2)) [.Name "number" (pp 3), .BinOp (.BinOp (.Constant (.int 16) (kk 0) (pp 4)) .Pow (.Constant (.int 12) (kk 1) (pp 5)) (pp 6)) .FloorDiv (.Constant (.int 15) (kk 2) (pp 7)) (pp 8)] [] (pp 9)) [.Eq] [.Tuple [.Constant (.int 2) (kk 3) (pp 10), .Constant (.int 0) (kk 4) (pp 11)] (kk 5) (pp 12)] (pp 13)] (pp 14)) [.NotEq] [.List [.Name "even" (pp 15), .Name "even" (pp 16), .Name "even" (pp 17)] (pp 18)] (pp 19)) [.Return (some (.Constant (.bool false) (kk 6) (pp 20))) (pp 21)] [] (pp 22) :=
 ⟨fun i => [_, _, _, _, _, _, _, _, _, _, _, _, _, _, _, _, _, _, _, _, _, _, _].getD i default, fun i => [_, _, _, _, _, _, _].getD i 0, rfl⟩
theorem zuf (a b : Int) : znv .Eq (.tup [.int a, .int b]) (.tup [.int 2, .int 0]) = some (a == 2 && b == 0) := by
 show zir (.tup [.int a, .int b]) (.tup [.int 2, .int 0]) = _
 unfold zir
 have h : ∀ a b : Int, ziq (.tup [.int a, .int b]) = some (.tuple [.int a, .int b]) := fun a b => rfl
 rw [h, h]
 dsimp only
 have s : ∀ a b : Int, SeqAt.shaped (.tuple [.int a, .int b]) = true := fun a b => by
  simp [SeqAt.shaped, PyData.canLay0, PyData.canLayAll0, PyData.depth, PyData.depthAll]
 rw [if_pos ⟨s _ _, s _ _⟩]
 simp [PyData.eqv, PyData.eqvAll]
theorem zp2 (w : World) {sc cd cn mo to sz wh mx di le : D} {b : Bool} {N : Nat} (h0 : 0 < N) (h1 : N < 2 ^ 48) (hb : ((N : Int).fdiv B0 == 2 && (N : Int).fmod B0 == 0) = b) : ∃ p, stm w 227 16 = .If (ifT (stm w 227 16)) (ifB (stm w 227 16)) [] p /\ zaa (OD w) 40 ⟨zab w 227, Γ [sc, cd, cn, mo, to, sz, wh, mx, .bool b, .int N, di, le, .bool b, .bool b], none⟩ (ifT (stm w 227 16)) = some (.bool false, .froz) := by
 obtain ⟨pp, kk, e⟩ := zv7 w
 rw [e]
 refine ⟨(pp 22), rfl, ?_⟩
 show zaa (OD w) 40 _ (.Compare _ _ _ _) = _
 have hq : zaa (OD w) 38 ⟨zab w 227, Γ [sc, cd, cn, mo, to, sz, wh, mx, .bool b, .int N, di, le, .bool b, .bool b], none⟩ (.Compare (.Call (.Name "int_divmod" (pp 2)) [.Name "number" (pp 3), .BinOp (.BinOp (.Constant (.int 16) (kk 0) (pp 4)) .Pow (.Constant (.int 12) (kk 1) (pp 5)) (pp 6)) .FloorDiv (.Constant (.int 15) (kk 2) (pp 7)) (pp 8)] [] (pp 9)) [.Eq] [.Tuple [.Constant (.int 2) (kk 3) (pp 10), .Constant (.int 0) (kk 4) (pp 11)] (kk 5) (pp 12)] (pp 13)) = some (.bool b, .froz) := by
  rw [<- hb]
  refine zfj (a := .tup [.int ((N : Int).fdiv B0), .int ((N : Int).fmod B0)]) (k1 := .froz) (b := .tup [.int 2, .int 0]) (k2 := .froz) (zmo (l := [(.int N, .froz), (.int B0, .froz)]) (zjd w).2.2.2 (by decide +kernel) (zaj (by kernel_rfl) (zaj (by kernel_rfl) zbc)) ((zwk w _).trans (zw3 h0 h1)) (.inl rfl)) (by kernel_rfl) rfl (zuf _ _)
 refine zfj (a := .lst [.bool b, .bool b, .bool b]) (k1 := .fresh) (b := .lst [.bool b, .bool b, .bool b]) (k2 := .fresh) (zru (l := [(.bool b, .froz), (.bool b, .froz), (.bool b, .froz)]) (zaj (by kernel_rfl) (zaj (by kernel_rfl) (zaj hq zbc))) rfl (by rw [sizeLine_eq]; exact Nat.le_of_ble_eq_true rfl)) (by kernel_rfl) rfl ?_
 cases b <;> kernel_rfl
theorem zv6 (w : World) : ∃ (pp : Nat -> Pos) (kk : Nat -> Nat) (p15 : Scope), stm w 227 17 = .Assign [.Name "greatest" (pp 0)] (.ListComp (.Name "m" (pp 1)) [⟨.Tuple [.Name "m" (pp 2), .Name "a" (pp 3)] (kk 0) (pp 4), .Name "classes" (pp 5), [.Compare (.Name "m" (pp 6)) [.Eq] [.Subscript (.Name "moduli" (pp 7)) (.UnaryOp .USub (.Constant (.int 1) (kk 1) (pp 8)) (pp 9)) (pp 10)] (pp 11)], 0⟩] p15 (pp 12)) (pp 13) /\ ∀ sc cd cn mo to sz wh mx gr nu di le lv ev : D, zbq (zab w 227) p15 (.Tuple [.Name "m" (pp 2), .Name "a" (pp 3)] (kk 0) (pp 4)) (zb9 p15 (Γ [sc, cd, cn, mo, to, sz, wh, mx, gr, nu, di, le, lv, ev])) = true /\ zcq p15 none = none /\ ∀ m a : Int, za8 (fun x => (za7 (zab w 227) p15.names).lookup x) none (zb9 p15 (Γ [sc, cd, cn, mo, to, sz, wh, mx, gr, nu, di, le, lv, ev])) (.Tuple [.Name "m" (pp 2), .Name "a" (pp 3)] (kk 0) (pp 4)) (.tup [.int m, .int a]) = some ([("moduli", mo), ("m", .int m), ("a", .int a)] : List (Str × D)) :=
 ⟨fun i => [_, _, _, _, _, _, _, _, _, _, _, _, _, _].getD i default, fun i => [_, _].getD i 0, _, rfl, fun sc cd cn mo to sz wh mx gr nu di le lv ev => ⟨by kernel_rfl, by kernel_rfl, fun m a => by kernel_rfl⟩⟩
noncomputable def zr1 (x : Int) (p : Int × Int) : Option D := if p.1 == x then some (.int p.1) else none
theorem zj4 (x : Int) : ∀ c : List (Int × Int), (c.filterMap (zr1 x)).length = (c.filter fun p => p.1 == x).length
 | [] => rfl
 | p :: c => by
  have ih := zj4 x c
  rw [List.filterMap_cons, List.filter_cons]
  unfold zr1 at ih ⊢
  cases h : p.1 == x with
  | true => rw [if_pos rfl, if_pos rfl]; dsimp only; rw [List.length_cons, List.length_cons, ih]
  | false => rw [if_neg (by decide), if_neg (by decide)]; exact ih
theorem zp3 {M : List Int} {x : Int} (h5 : M.length <= 5) (hx : M.getLast? = some x) : zh4 (.lst (M.map .int)) (.int (-1)) = some (.int x) := by
 show zjy (M.map .int) (-1) = _
 unfold zjy
 have hne : M ≠ [] := fun h => by rw [h] at hx; cases hx
 have hl := List.length_pos_iff.mpr hne
 rw [if_neg (by decide), if_pos ⟨by rw [List.length_map]; lia, by decide⟩, List.length_map, List.getElem?_map, show (-1 + (M.length : Int)).toNat = M.length - 1 from by lia, <- List.getLast?_eq_getElem?, hx]; rfl
theorem zvn {w : World} {n : Nat} {kf : Kf} {σ : List (Str × D)} {M : List Int} {x : Int} {p9 p11 p12 p13 : Pos} {p10 : Nat} (hm : zaa (OD w) (n + 2) ⟨kf, σ, none⟩ (.Name "moduli" p9) = some (.lst (M.map .int), .froz)) (h5 : M.length <= 5) (hx : M.getLast? = some x) : zaa (OD w) (n + 3) ⟨kf, σ, none⟩ (.Subscript (.Name "moduli" p9) (.UnaryOp .USub (.Constant (.int 1) p10 p11) p12) p13) = some (.int x, .froz) :=
 zfb (o := .lst (M.map .int)) (i := .int (-1)) (k1 := .froz) (k2 := .froz) rfl hm (E_Neg (k := .froz) (za9 rfl)) (zp3 h5 hx)
theorem zjj (w : World) {sc cn to sz wh mx gr nu di le lv : D} {b : Bool} {c : List (Int × Int)} (hl : c.length <= 100) {M : List Int} {x : Int} (h5 : M.length <= 5) (hx : M.getLast? = some x) : zae (OD w) [] (zab w 227) 40 ⟨Γ [sc, zbm c, cn, .lst (M.map .int), to, sz, wh, mx, gr, nu, di, le, lv, .bool b], none⟩ (stm w 227 17) = some (⟨Γ [sc, zbm c, cn, .lst (M.map .int), to, sz, wh, mx, gr, nu, di, le, lv, .bool b, .lst (c.filterMap (zr1 x))], none⟩, .next) := by
 obtain ⟨pp, kk, p15, e, h⟩ := zv6 w
 obtain ⟨h1, h2, h3⟩ := h sc (zbm c) cn (.lst (M.map .int)) to sz wh mx gr nu di le lv (.bool b)
 rw [e]
 refine zai (r := (.lst (c.filterMap (zr1 x)), .fresh)) (zdx (d := zbm c) (k := .froz) (ds := c.map clD) (zal (za2 (by decide +kernel) (by kernel_rfl))) rfl (by decide) (by rw [List.length_map, sizeLine_eq]; lia) rfl h1 (zhj fun p _ => ?_)) (by kernel_rfl)
 unfold zdo
 rw [h2, show clD p = .tup [.int p.1, .int p.2] from rfl, h3]
 have ht : zaa (OD w) 39 ⟨(fun x => (za7 (zab w 227) p15.names).lookup x), [("moduli", .lst (M.map .int)), ("m", .int p.1), ("a", .int p.2)], none⟩ (.Compare (.Name "m" (pp 6)) [.Eq] [.Subscript (.Name "moduli" (pp 7)) (.UnaryOp .USub (.Constant (.int 1) (kk 1) (pp 8)) (pp 9)) (pp 10)] (pp 11)) = some (.bool (p.1 == x), .froz) :=
  zfj (a := .int p.1) (k1 := .froz) (b := .int x) (k2 := .froz) (zal (za2 (by decide +kernel) (by kernel_rfl))) (zvn (n := 35) (zal (za2 (by decide +kernel) (by kernel_rfl))) h5 hx) rfl rfl
 dsimp only [zd4]
 rw [ht]
 unfold zr1
 cases p.1 == x <;> kernel_rfl
theorem zv5 (w : World) : ∃ (pp : Nat -> Pos) (kk : Nat -> Nat), stm w 227 18 = .Return (some (.BoolOp .Or [.UnaryOp .Not (.Name "even" (pp 0)) (pp 1), .Compare (.Call (.Name "len" (pp 2)) [.Name "greatest" (pp 3)] [] (pp 4)) [.GtE] [.Subscript (.Subscript (.Name "sizes" (pp 5)) (.Subscript (.Name "moduli" (pp 6)) (.UnaryOp .USub (.Constant (.int 1) (kk 0) (pp 7)) (pp 8)) (pp 9)) (pp 10)) (.Constant (.int 1) (kk 1) (pp 11)) (pp 12)] (pp 13)] (pp 14))) (pp 15) :=
 ⟨fun i => [_, _, _, _, _, _, _, _, _, _, _, _, _, _, _, _].getD i default, fun i => [_, _].getD i 0, rfl⟩
theorem zfv {x : Int} : ∀ {M : List Int}, x ∈ M -> (szL M).lookup x = some (.lst ((zff x).map .int))
 | m :: M, h => by
  show ((m, D.lst ((zff m).map .int)) :: szL M).lookup x = _
  rw [List.lookup_cons]
  cases e : x == m with
  | true => rw [beq_iff_eq.mp e]
  | false =>
   rcases List.mem_cons.mp h with rfl | h
   ·simp at e
   ·exact zfv h
theorem answer (w : World) {sc cn to wh mx gr nu di le lv : D} {b : Bool} {c : List (Int × Int)} (hl : c.length <= 100) {M : List Int} {x : Int} (h5 : M.length <= 5) (hx : M.getLast? = some x) (hb : b = true -> ∃ q : Int, (zff x)[1]? = some q /\ q <= (c.filter fun p => p.1 == x).length) {m : Nat} :
  zc3 (OD w) [] (zab w 227) 40 (m + 1) [[stm w 227 18]] ⟨Γ [sc, zbm c, cn, .lst (M.map .int), to, .dic (szL M), wh, mx, gr, nu, di, le, lv, .bool b, .lst (c.filterMap (zr1 x))], none⟩ = some (.bool true) := by
 obtain ⟨pp, kk, e⟩ := zv5 w
 rw [e]
 cases b with
 | false => exact zg4 (k := .froz) (E_OrT (z2r (a := .bool false) (k := .froz) (by kernel_rfl) rfl) rfl)
 | true =>
  obtain ⟨q, q1, q2⟩ := hb rfl
  refine zg4 (k := .froz) (E_OrF (a := .bool false) (k := .froz) (z2r (a := .bool true) (k := .froz) (b := true) (by kernel_rfl) rfl) rfl ?_)
  refine zfj (q := true) (a := .int (c.filterMap (zr1 x)).length) (k1 := .froz) (b := .int q) (k2 := .froz) (zio (l := [(.lst (c.filterMap (zr1 x)), .froz)]) (zsz w).1 (by decide +kernel) (zaj (zal (za2 (by decide +kernel) (by kernel_rfl))) zbc) (zpb w _) ?_) (zfb (o := .lst ((zff x).map .int)) (i := .int 1) (k1 := .froz) (k2 := .froz) rfl (zfb (o := .dic (szL M)) (i := .int x) (k1 := .froz) (k2 := .froz) rfl (zal (za2 (by decide +kernel) (by kernel_rfl))) (zvn (n := 33) (zal (za2 (by decide +kernel) (by kernel_rfl))) h5 hx) (zfv (List.mem_of_getLast? hx))) (za9 rfl) ?_) rfl ?_
  ·rw [show zis "len" = zbr from funext fun l => if_pos rfl]
   unfold zbr
   dsimp only
   have : (c.filter fun p => p.1 == x).length <= c.length := List.length_filter_le _ _
   rw [if_pos (by rw [zj4, sizeLine_eq]; lia)]; rfl
  ·show zjy ((zff x).map .int) 1 = _
   unfold zjy
   rw [if_pos (by decide), if_pos (by decide), List.getElem?_map]
   show ((zff x)[1]?).map D.int = _
   rw [q1]; rfl
  ·show some (decide (((c.filterMap (zr1 x)).length : Int) ≥ q)) = _
   rw [zj4]
   exact congrArg some (decide_eq_true q2)
theorem zz4 (w : World) : ∃ (pp : Nat -> Pos), stm w 227 0 = .Assign [.Name "classes" (pp 0)] (.Call (.Name "_law_classes" (pp 1)) [.Name "script" (pp 2)] [] (pp 3)) (pp 4) :=
 ⟨fun i => [_, _, _, _, _].getD i default, rfl⟩
theorem b227 (w : World) : zay w 227 = [stm w 227 0, stm w 227 1, stm w 227 2, stm w 227 3, stm w 227 4, stm w 227 5, stm w 227 6, stm w 227 7, stm w 227 8, stm w 227 9, stm w 227 10, stm w 227 11, stm w 227 12, stm w 227 13, stm w 227 14, stm w 227 15, stm w 227 16, stm w 227 17, stm w 227 18] := by kernel_rfl
theorem z04 (w : World) : zab w 227 "_law_classes" = some .globalImplicit := by kernel_rfl
noncomputable abbrev zyz (f : Int -> Int) : Prop := f 0 = 2 /\ f 1 = 2 /\ f 2 = 2 /\ f 3 = 2 /\ f 4 = 2 /\ f 5 = 2 /\ f 6 = 2 /\ f 7 = 2 /\ f 8 = 2 /\ f 9 = 2 /\ f 10 = 2 /\ f 11 = 2
theorem beqD {α : Type} [BEq α] [LawfulBEq α] [DecidableEq α] (a b : α) : (a == b) = decide (a = b) := by
 by_cases h : a = b <;> simp [h]
theorem zif {c : List (Int × Int)} (g : Good c) : Cnt (cI c) := by
 have h : ∀ k : Int, 0 <= cI c k /\ cI c k < 16 := fun k => by
  have := zgj c k
  have := g.len
  show 0 <= ((zbf c k : Nat) : Int) /\ ((zbf c k : Nat) : Int) < 16
  lia
 exact ⟨h 0, h 1, h 2, h 3, h 4, h 5, h 6, h 7, h 8, h 9, h 10, h 11⟩
theorem zkf {c : List (Int × Int)} (g : Good c) : ∃ N : Nat, (N : Int) = hex (cI c) /\ 0 < N /\ N < 2 ^ 48 := by
 have C := zif g
 have hr := zji C
 have hs := (zq1 c g.val).symm.trans g.sum
 have hp := zl8 (zfo C)
 rw [<- zea, show (zbs (cI c)).sum = 24 from hs ▸ by simp [lin, Int.add_assoc]] at hp
 clear C hs
 generalize hex (cI c) = x at *
 exact ⟨x.toNat, by lia, by lia, by lia⟩
theorem zgf (c : List (Int × Int)) : (zig c == List.replicate 12 2) = decide (zyz (cI c)) := by
 rw [zgl, show (zbs (cI c) == List.replicate 12 2) = decide (zbs (cI c) = List.replicate 12 2) from beqD ..]
 exact decide_eq_decide.mpr (by simp [zbs, List.replicate])
noncomputable def zya (c : List (Int × Int)) : List Nat := (List.range 12).map fun k => zbf c (k : Nat)
theorem zmg (c : List (Int × Int)) : (zya c).map Int.ofNat = zig c := by
 unfold zya zig
 rw [List.map_map]; rfl
theorem znp (c : List (Int × Int)) : decide (zya c = List.replicate 12 2) = decide (zyz (cI c)) := by
 rw [<- zgf, show (zig c == List.replicate 12 2) = decide (zig c = List.replicate 12 2) from beqD .., <- zmg]
 refine decide_eq_decide.mpr ⟨fun h => by rw [h]; rfl, fun h => ?_⟩
 have e : (List.replicate 12 2 : List Int) = (List.replicate 12 2 : List Nat).map Int.ofNat := rfl
 rw [e] at h
 exact List.map_inj_right (fun a b q => Int.ofNat.inj q) |>.mp h
theorem zku {c : List (Int × Int)} (g : Good c) {N : Nat} (hN : (N : Int) = hex (cI c)) : ((N : Int).fdiv B0 == 2 && (N : Int).fmod B0 == 0) = decide (zyz (cI c)) := by
 have h := ztk (zif g)
 rw [<- hN] at h
 rw [Int.fdiv_eq_ediv_of_nonneg _ (by decide), Int.fmod_eq_emod_of_nonneg _ (by decide)]
 rw [show (((N : Int) / B0 == 2 && (N : Int) % B0 == 0)) = decide ((N : Int) / B0 = 2 /\ (N : Int) % B0 = 0) from by rw [beqD, beqD, Bool.decide_and]]
 refine decide_eq_decide.mpr (Iff.trans ?_ h)
 have e : B0 = 18764998447377 := rfl
 rw [e]
 lia
theorem zqt {c : List (Int × Int)} (g : Good c) {q1 q2 q3 q4 q5 q6 : UInt64 × UInt64 × UInt64} (r1 : isG q1 = decide (lin (f1 zb3) (cI c) = 0 /\ lin (f2 zb3) (cI c) = 0)) (r2 : isG q2 = decide (lin (f1 zbp) (cI c) = 0 /\ lin (f2 zbp) (cI c) = 0)) (r3 : isG q3 = decide (lin (f1 zb2) (cI c) = 0 /\ lin (f2 zb2) (cI c) = 0)) (r4 : isG q4 = decide (lin (f1 zb1) (cI c) = 0 /\ lin (f2 zb1) (cI c) = 0)) (r5 : isG q5 = decide (lin (f1 zbh) (cI c) = 0 /\ lin (f2 zbh) (cI c) = 0)) (r6 : isG q6 = decide (lin (f1 zau) (cI c) = 0 /\ lin (f2 zau) (cI c) = 0)) : [q1, q2, q3, q4, q5, q6].all isG = decide (zyz (cI c)) := by
 have h := zqj (cI c) ((zq1 c g.val).symm.trans g.sum)
 show (isG q1 && (isG q2 && (isG q3 && (isG q4 && (isG q5 && (isG q6 && true)))))) = _
 rw [r1, r2, r3, r4, r5, r6, Bool.and_true, <- Bool.decide_and, <- Bool.decide_and, <- Bool.decide_and, <- Bool.decide_and, <- Bool.decide_and]
 exact decide_eq_decide.mpr h
theorem zr6 : (zfc.all fun M => M.all fun y => match M.getLast? with | some x => decide (y <= x) | none => false) = true := by kernel_rfl
theorem law_ok (w : World) (ns : List Int) (hl : ns.length <= 63) : zaw w (OD w) [] 227 ps_law [.rev (ns.map .int)] = some (.bool true) := by
 obtain ⟨c, g, hc⟩ := znw w ns hl
 generalize D.rev (ns.map .int) = sc at hc
 have hlen := g.len
 obtain ⟨pp, e0⟩ := zz4 w
 obtain ⟨p22, e2, t2⟩ := zpr w (sc := sc) g.val (by lia)
 obtain ⟨M, hM, hmem, s3⟩ := zpi w (sc := sc) (cn := .lst ((zig c).map .int)) g.val (by lia)
 obtain ⟨q5, e5⟩ := zms w
 have m5 := zlm hM
 have h5 : ∀ p ∈ c, p.1 ∈ five := by
  have : ∀ p ∈ all27, p.1 ∈ five := by decide +kernel
  exact fun p hp => this p (g.val p hp)
 have inM : ∀ p ∈ c, p.1 ∈ M := fun p hp => (hmem p.1 (h5 p hp)).mpr ⟨p, hp, rfl⟩
 obtain ⟨x, hx⟩ : ∃ x, M.getLast? = some x := by
  cases h : M.getLast? with
  | some x => exact ⟨x, rfl⟩
  | none =>
   rw [List.getLast?_eq_none_iff] at h
   subst h
   cases c with
   | nil => exact absurd rfl g.ne
   | cons p c => cases inM p (.head _)
 have top : ∀ p ∈ c, p.1 <= x := fun p hp => by
  have := List.all_eq_true.mp (List.all_eq_true.mp zr6 M hM) p.1 (inM p hp)
  rw [hx] at this
  simpa using this
 have hsz : ∀ p ∈ c, (szL M).lookup p.1 = some (.lst ((zff p.1).map .int)) := fun p hp => zfv (inM p hp)
 obtain ⟨ha1, la1, sa1, ca1, ra1⟩ := zdb (zpm w) zxb hdv_2 zxs zye zpz g hsz
 obtain ⟨ha2, la2, sa2, ca2, ra2⟩ := zdb (zpl w) zxa hdv_3 zxr zyd zpy g hsz
 obtain ⟨ha3, la3, sa3, ca3, ra3⟩ := zdb (zpk w) zw9 hdv_4 zxq zyc zpx g hsz
 obtain ⟨ha4, la4, sa4, ca4, ra4⟩ := zdb (zpj w) zw8 hdv_6 zxp zyb zpw g hsz
 obtain ⟨ha5, la5, sa5, ca5, ra5⟩ := zdb (zna w) zth zvd ztx zuj zl3 g hsz
 obtain ⟨ha6, la6, sa6, ca6, ra6⟩ := znb (w := w) g hsz
 obtain ⟨N, hN, n0, n1⟩ := zkf g
 have C := zif g
 have eg := zqt g (q1 := (ha1, la1, sa1)) (q2 := (ha2, la2, sa2)) (q3 := (ha3, la3, sa3)) (q4 := (ha4, la4, sa4)) (q5 := (ha5, la5, sa5)) (q6 := (ha6, la6, sa6)) ra1 ra2 ra3 ra4 ra5 ra6
 have el := znp c
 have en := zku g hN
 have ec := zgf c
 have hbb : decide (zyz (cI c)) = true -> ∃ q : Int, (zff x)[1]? = some q /\ q <= (c.filter fun p => p.1 == x).length := fun h => by
  have E : zyz (cI c) := of_decide_eq_true h
  have xm : x ∈ M := List.mem_of_getLast? hx
  refine zkl g.val (fun k hk => ?_) ((hmem x (m5.1 x xm)).mp xm) top
  obtain ⟨E0, E1, E2, E3, E4, E5, E6, E7, E8, E9, E10, E11⟩ := E
  have hk := List.mem_range.mp hk
  match k, hk with
  | 0, _ => exact Int.ofNat.inj E0
  | 1, _ => exact Int.ofNat.inj E1
  | 2, _ => exact Int.ofNat.inj E2
  | 3, _ => exact Int.ofNat.inj E3
  | 4, _ => exact Int.ofNat.inj E4
  | 5, _ => exact Int.ofNat.inj E5
  | 6, _ => exact Int.ofNat.inj E6
  | 7, _ => exact Int.ofNat.inj E7
  | 8, _ => exact Int.ofNat.inj E8
  | 9, _ => exact Int.ofNat.inj E9
  | 10, _ => exact Int.ofNat.inj E10
  | 11, _ => exact Int.ofNat.inj E11
  | n + 12, h => exact absurd h (by lia)
 have h12 : (zya c).length = 12 := by unfold zya; rw [List.length_map, List.length_range]
 have hb : ∀ k ∈ zya c, k < 100 := fun k hk => by
  obtain ⟨i, _, rfl⟩ := List.mem_map.mp hk
  have := zgj c (i : Nat)
  lia
 generalize decide (zyz (cI c)) = b at eg el en ec hbb
 have s9 := fun (cn mo to sz wh : D) => zxh w (sc := sc) (cd := zbm c) (cn := cn) (mo := mo) (to := to) (sz := sz) (wh := wh) (l := [(ha1, la1, sa1), (ha2, la2, sa2), (ha3, la3, sa3), (ha4, la4, sa4), (ha5, la5, sa5), (ha6, la6, sa6)]) (by simp)
 rw [eg] at s9
 have s13 := fun (mo to sz wh mx gr nu di : D) => zsy w (sc := sc) (cd := zbm c) (mo := mo) (to := to) (sz := sz) (wh := wh) (mx := mx) (gr := gr) (nu := nu) (di := di) h12 hb
 have s14 := fun (cn mo to sz wh mx gr nu di : D) => zp0 w (sc := sc) (cd := zbm c) (cn := cn) (mo := mo) (to := to) (sz := sz) (wh := wh) (mx := mx) (gr := gr) (nu := nu) (di := di) h12
 rw [el] at s14
 rw [zmg] at s13
 have s15 := fun (mo to sz wh mx gr nu di le lv : D) => ztz w (sc := sc) (cd := zbm c) (mo := mo) (to := to) (sz := sz) (wh := wh) (mx := mx) (gr := gr) (nu := nu) (di := di) (le := le) (lv := lv) (cs := zig c)
 rw [ec] at s15
 refine za5 rfl ?_
 rw [b227, e0, e2, e5]
 refine zah (c' := ⟨Γ [sc, zbm c], none⟩) (zai (r := (zbm c, .froz)) (zmo (l := [(sc, .froz)]) (z04 w) (by decide +kernel) (zaj (by kernel_rfl) zbc) ((z0k w _).trans hc) (.inl rfl)) (by kernel_rfl)) rfl ?_
 refine zah (c' := ⟨Γ [sc, zbm c, .lst ((zig c).map .int)], none⟩) (zqy w g.val (by lia)) (by kernel_rfl) ?_
 refine zey t2 rfl (zjv ?_)
 refine zah s3 (by kernel_rfl) ?_
 refine zah (zvx w hM) (by kernel_rfl) ?_
 refine zey (zoi w M hM) rfl (zjv ?_)
 refine zah (zsa w M hM) (by kernel_rfl) ?_
 refine zah (zoa w) (by kernel_rfl) ?_
 refine zah (zsn w (a := (ha1, la1, sa1)) (b := (ha2, la2, sa2)) (c := (ha3, la3, sa3)) (d := (ha4, la4, sa4)) (e := (ha5, la5, sa5)) (f := (ha6, la6, sa6)) ca1 ca2 ca3 ca4 ca5 ca6) (by kernel_rfl) ?_
 refine zah (s9 _ _ _ _ _) (by kernel_rfl) ?_
 refine zah (zm6 w g hN) (by kernel_rfl) ?_
 refine zah (znr w C hN) (by kernel_rfl) ?_
 obtain ⟨p12, e12, t12⟩ := zky w (sc := sc) (cd := zbm c) (mo := .lst (M.map .int)) (to := .lst (M.map zu2)) (sz := .dic (szL M)) (wh := whD) (mx := .lst ([(ha1, la1, sa1), (ha2, la2, sa2), (ha3, la3, sa3), (ha4, la4, sa4), (ha5, la5, sa5), (ha6, la6, sa6)].map zf2)) (gr := .bool b) C hN
 rw [e12]
 rw [<- zgl] at t12
 refine zey t12 rfl (zjv ?_)
 refine zah (s13 _ _ _ _ _ _ _ _) (by kernel_rfl) ?_
 refine zah (s14 _ _ _ _ _ _ _ _ _) (by kernel_rfl) ?_
 refine zah (s15 _ _ _ _ _ _ _ _ _ _) (by kernel_rfl) ?_
 obtain ⟨p16, e16, t16⟩ := zp2 w (sc := sc) (cd := zbm c) (cn := .lst ((zig c).map .int)) (mo := .lst (M.map .int)) (to := .lst (M.map zu2)) (sz := .dic (szL M)) (wh := whD) (mx := .lst ([(ha1, la1, sa1), (ha2, la2, sa2), (ha3, la3, sa3), (ha4, la4, sa4), (ha5, la5, sa5), (ha6, la6, sa6)].map zf2)) (di := .lst ((zf8 N 4).map .int)) (le := .ins (zix (zya c))) n0 n1 en
 rw [e16]
 refine zey t16 rfl (zjv ?_)
 refine zah (zjj w (by lia) m5.2 hx) (by kernel_rfl) ?_
 exact answer w (by lia) m5.2 hx hbb
section
set_option maxHeartbeats 8000000
theorem zl7 {X : List Addr} {h : Heap} : ∀ {vs : List Value} {ns : List Int}, IntsAre vs ns -> RepA X h vs (ns.map .int)
 | _, _, .nil => .nil
 | _, _, .cons n t r => .cons (.int n t) (zl7 r)
theorem tab0 {h : Heap} {c P : Addr} {line col : Nat} {q : Str} (x : CodeHd h c P) (e : h.get? P = some (tabObj #[])) : zro h c P line col q := ⟨x, #[], e, .inl rfl⟩
set_option tactic.hygienic true in
theorem join (H : ∀ (w : World) (mb : Str -> Option Value) (ns : List Int), ns.length <= 63 -> zfi w mb 60 (.ref 227) [.rev (ns.map .int)] (.bool true)) : PySem.Challenge.rw_sh0055_01.Holds := by
 refine hd ?_
 k_fill
 intro w s₀ s₁ mg mb G Y fa o pm cd doc dV kV ho hd' hcd hD hmg hg args vals as hpre hlay hrd hwl hlo
 have KX : (KK w).In s₁.heap := PySem.W.km_in_of Y
 have KT := PySem.W.km_tabs_of Y
 refine Ground.open G ?_
 intro T B D TE TW
 clear hd' hcd hD
 have hfa : fa = 227 := by
  have e := mg_of KX T.g (n := "law") (v := .ref 227) (by kernel_rfl)
  have e2 : mg "law" = some (.ref fa) := hmg
  rw [e2] at e
  exact Value.ref.inj (Option.some.inj e)
 subst hfa
 clear hmg
 have BB : Base w mb s₁.heap := {
  k := KX
  b := T.b
  mb := T.builtins
  lim := T.nolimit
  bo := by
   obtain ⟨bm, ob, b1, b2, b3, b4, b5, b6⟩ := T.bmain
   have e := mg_of KX T.g (n := "__builtins__") (v := .ref 4) (by kernel_rfl)
   rw [b1] at e
   cases e
   exact ⟨ob, b3, b4, b5, b6⟩
  t1 := tab0 (codeHd_of_K KX (by kernel_rfl)) (KT 120 (by decide))
  t2 := tab0 (codeHd_of_K KX (by kernel_rfl)) (KT 127 (by decide)) }
 wrow_args hpre hlay hrd hwl hlo
 rename_i ns _ _ _ _ _ _ _ la vs _ hL _ _ _ hI _ hlen _
 have hlen' : ns.length <= 63 := by lia
 have hr := H w mb ns hlen' callerA s₁ TT [.ref la] ⟨rfl, by decide +kernel, by decide +kernel⟩ BB (fun a ha => by
  rcases List.mem_cons.mp ha with rfl | ha
  ·exact ⟨_, KT _ (.head _)⟩
  ·exact ⟨_, KT a (.tail _ ha)⟩) (fun a ha => ha) ?_
 ·refine wpAny_mono hr (fun v s' x => ?_) (fun _ _ f => f.elim)
  obtain ⟨h', tk, rfl, hk, B', r⟩ := x
  obtain rfl : v = .bool true := r.inv
  refine ⟨.inl ⟨_, .bool true, [], rfl, raisesW_false (by wrow_none_raised), .bool _, by wrow_post, fun _ => ⟨List.nodup_nil, fun a h => by cases h⟩⟩, ?_, rfl, AllBare.of_eq hg⟩
  have tt : ∀ b ∈ TT, ∀ o, s₁.heap.get? b = some o -> asItWas s₁.heap h' b o /\ ∃ o', h'.get? b = some o' := by
   intro b hb o e
   rcases List.mem_cons.mp hb with rfl | hb
   ·obtain ⟨c2, ps, e2, _⟩ := B'.t2
    rw [KT 127 (by decide)] at e; cases e
    exact ⟨.inr (.inl ⟨(CodeHd.tab BB.t2.1 (KT 127 (by decide))).isCodeTable, rfl, #[], ps, rfl, by rw [Array.empty_append]; exact e2⟩), _, e2⟩
   ·rcases List.mem_cons.mp hb with rfl | hb
    ·obtain ⟨c2, ps, e2, _⟩ := B'.t1
     rw [KT 120 (by decide)] at e; cases e
     exact ⟨.inr (.inl ⟨(CodeHd.tab BB.t1.1 (KT 120 (by decide))).isCodeTable, rfl, #[], ps, rfl, by rw [Array.empty_append]; exact e2⟩), _, e2⟩
    ·cases hb
  refine ⟨fun b o e => ?_, fun b o e => ?_⟩
  ·by_cases hb : b ∈ TT
   ·exact (tt b hb o e).1
   ·exact .inl (hk b o hb e)
  ·by_cases hb : b ∈ TT
   ·exact (tt b hb o e).2
   ·exact ⟨o, hk b o hb e⟩
 ·obtain ⟨o, e1, e2, n, e3⟩ := hL
  refine .cons (.rev (fun q => ?_) e1 e2 e3 (zl7 hI)) .nil
  rcases List.mem_cons.mp q with rfl | q
  ·rw [KT 127 (by decide)] at e1; cases e1; cases e2
  ·rcases List.mem_cons.mp q with rfl | q
   ·rw [KT 120 (by decide)] at e1; cases e1; cases e2
   ·cases q
end
end Mine
theorem PySem.Challenge.cw_sh0055_01_holds : PySem.Challenge.rw_sh0055_01.Holds :=
 Mine.join fun w mb ns hl => Mine.law_runs (Mine.law_ok w ns hl)
