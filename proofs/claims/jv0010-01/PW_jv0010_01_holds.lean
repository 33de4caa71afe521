import PyProof.Rows.All
import Wide.All
import OpenK.AllK
import Wide.FinOn
import Lean
import PySem.Challenge.RW_jv0010_01
open PySem PySem.W PyProof.Rows
set_option Elab.async false
set_option linter.all false
set_option maxRecDepth 100000
set_option maxHeartbeats 8000000
namespace Mine
open_top hd for PySem.Challenge.rw_jv0010_01
theorem entry_pow : entryFor table "pow" = some Builtin.«pow» := entryFor_of_tree (by kernel_rfl)
theorem kind_pow : builtinKind "pow" = none := by kernel_rfl
theorem plain_pow : plainId "pow" = true := by decide +kernel
theorem args_pow (a b c : Value) : argsOk "pow" ⟨[a, b, c], []⟩ := by unfold argsOk; kernel_rfl
theorem args_int_pow3 (a b c : Value) : argsOk "int.__pow__" ⟨[a, b, c], []⟩ := by unfold argsOk; kernel_rfl
section
variable {prog : Program} {w : World} {A : Around} {E : Value → Shared → Prop} {s : Shared} {Q : Value → Shared → Prop} {a e m : Int} {t u v : Tok}
theorem call_int_pow3 (he : 0 ≤ e) (hm : 1 < m) (h : Q (.int ((Builtin.powMod (a % m).toNat e.natAbs m.natAbs : Nat) : Int) s.toks) { s with toks := s.toks + 1 }) :
    wpAny (model prog w) A (call (.builtin "int.__pow__") [.int a t, .int e u, .int m v]) (fun v s' => v ≠ .notImplemented ∧ Q v s') E s := by
  refine wpAny_call_entry slot_int_pow (typeIs_int s a t) entry_int_pow ?_ (args_int_pow3 _ _ _)
  have hn : (m.natAbs : Int) = m := by omega
  have c1 : (m == 0) = false := by simp; omega
  have c2 : (m.natAbs == 1) = false := by simp; omega
  show wpAny _ _ (if (m == 0) = true then _ else _) _ _ s
  rw [c1]
  simp only [Bool.false_eq_true, if_false]
  show wpAny _ _ (if (m.natAbs == 1) = true then _ else _) _ _ s
  rw [c2]
  simp only [Bool.false_eq_true, if_false]
  show wpAny _ _ (if e < 0 then _ else _) _ _ s
  rw [if_neg (by omega)]
  repeat (first | refine wpAny_pure ?_ | refine wpAny_mkInt ?_ | refine wpAny_rule ?_ | refine wpAny_bind ?_)
  have c3 : decide (m < 0) = false := decide_eq_false (by omega)
  refine ⟨_, rfl, by simp, ?_⟩
  rw [c3, hn]
  simp only [Bool.false_and, Bool.false_eq_true, if_false]
  exact h
theorem call_pow3 (he : 0 ≤ e) (hm : 1 < m) (h : ∀ t' tk', Q (.int ((Builtin.powMod (a % m).toNat e.natAbs m.natAbs : Nat) : Int) t') { s with toks := tk' }) :
    wpAny (model prog w) A (call (.builtin "pow") [.int a t, .int e u, .int m v]) Q E s := by
  refine Calls.call_function_entry kind_pow plain_pow entry_pow (args_pow _ _ _) ?_
  unfold Builtin.«pow»
  refine wpAny_bind (m := Builtin.Builtins.bindParams "pow" ["base", "exp", "mod"] 2 _) (wpAny_pure ?_)
  dsimp only [List.map, List.toArray, Option.getD]
  refine wpAny_bind (wpAny_rule ?_)
  refine wpAny_bind (wpAny_mono (show wpAny (model prog w) A.in1 (typeOf (.int a t)) (fun r s' => r = .type "int" ∧ s' = s) E s from wpAny_pure ⟨rfl, rfl⟩) ?_ fun _ _ h => h)
  rintro _ _ ⟨rfl, rfl⟩
  dsimp only
  refine wpAny_bind ?_
  rw [show typeLookup (.type "int") (Str.ofString "__pow__") = pure (some (.builtin "int.__pow__")) from slot_int_pow.lookup]
  refine wpAny_pure ?_
  dsimp only
  refine wpAny_bind (wpAny_callSpecial?_slot (typeIs_int _ a t) slot_int_pow (wpAny_mono (call_int_pow3 (Q := fun v s' => Q v s') he hm (h _ _)) ?_ fun _ _ h => h))
  rintro r s' ⟨hr, hq⟩
  dsimp only
  rw [if_pos (by simpa using hr)]
  exact wpAny_pure ⟨_, rfl, hq⟩
end
theorem powMod_loop (b e m : Nat) : ∀ k : Nat, (List.range k).reverse.foldl (fun p i => if e.testBit i then p * p % m * b % m else p * p % m) (b ^ (e >>> k) % m) = b ^ e % m := by
  intro k
  induction k with
  | zero => simp
  | succ k ih =>
    rw [List.range_succ, List.reverse_append]
    simp only [List.reverse_cons, List.reverse_nil, List.nil_append, List.cons_append, List.foldl_cons]
    have hs : e >>> k = 2 * (e >>> (k + 1)) + (e.testBit k).toNat := by
      have h1 : e >>> (k + 1) = (e >>> k) / 2 := by rw [Nat.shiftRight_succ]
      have h2 : (e.testBit k).toNat = (e >>> k) % 2 := by
        rw [Nat.testBit, Nat.and_comm, Nat.and_one_is_mod]
        rcases Nat.mod_two_eq_zero_or_one (e >>> k) with h | h <;> rw [h] <;> rfl
      omega
    have hp : b ^ (e >>> (k + 1)) % m * (b ^ (e >>> (k + 1)) % m) % m = b ^ (2 * (e >>> (k + 1))) % m := by
      rw [← Nat.mul_mod, ← Nat.pow_add, ← Nat.two_mul]
    have step : (if e.testBit k = true then b ^ (e >>> (k + 1)) % m * (b ^ (e >>> (k + 1)) % m) % m * b % m else b ^ (e >>> (k + 1)) % m * (b ^ (e >>> (k + 1)) % m) % m) = b ^ (e >>> k) % m := by
      rw [hp]
      cases hb : e.testBit k with
      | true =>
        rw [hb] at hs
        simp only [if_true]
        rw [hs, Nat.pow_add, Nat.mod_mul_mod]
        simp
      | false =>
        rw [hb] at hs
        simp only [Bool.false_eq_true, if_false]
        rw [hs]
        simp
    rw [step]
    exact ih
theorem powMod_eq (b e m : Nat) : Builtin.powMod b e m = b ^ e % m := by
  have h : e >>> Builtin.Int.intBits e = 0 := by
    rw [Nat.shiftRight_eq_div_pow]
    exact Nat.div_eq_of_lt (by have := (intBits_le_iff (x := (e : Int)) (m := Builtin.Int.intBits e)).mp (Nat.le_refl _); simpa using this)
  have := powMod_loop b e m (Builtin.Int.intBits e)
  rw [h, Nat.pow_zero] at this
  exact this

noncomputable abbrev pP : Int := 115792089237316195423570985008687907853269984665640564039457584007908834671663
noncomputable abbrev pN : Int := 115792089237316195423570985008687907852837564279074904382605163141518161494337
noncomputable abbrev Led := List (Addr × Obj)

/-- a contract: what a call of f upon vs gives back, from any state -/
noncomputable def Ct (w : World) (mean : ExcName → Option Value) (mg mb : Str → Option Value) (f : Addr) (dn un' : Nat) (news : Led) (vs : List Value) (Post : Value → Led → Prop) : Prop :=
  ∀ (dp un : Nat) (gd : Option (List Code)) (cn : Str) (cs : Scope) (a : Addr) (ccd : Value) (cl : List (Str × Addr)) (outer : List Env) (A₀ : Around) (base h₀ : Heap) (L : Addr) (m : Str → Option Value) (s : Shared)
    (Q E : Value → Shared → Prop),
    Below A₀ base outer h₀ → Fr h₀ L s.heap m → (Mine.hd.heap_39 w.params).In h₀ → News h₀ L s.heap news → Top Mine.hd.view_39 (looseW Mine.hd.view_39 []) mean mg mb h₀ → cs.kind = .function → dp + dn < recursionLimit → un + un' < cLine →
    (∀ v news' h' tk', Fr h₀ L h' m → News h₀ L h' news' → Post v news' → Q v { s with heap := h', toks := tk' }) →
    wpAny (model PySem.Challenge.rw_jv0010_01.row.prog w) (ktrTop dp un gd cn cs L a ccd cl outer) (call (.ref f) vs) Q E s

theorem Ct.use {w : World} {mean : ExcName → Option Value} {mg mb : Str → Option Value} {f : Addr} {dn un' : Nat} {news : Led} {vs : List Value} {Post : Value → Led → Prop}
    {dp un : Nat} {gd : Option (List Code)} {cn : Str} {cs : Scope} {a : Addr} {ccd : Value} {cl : List (Str × Addr)} {outer : List Env} {A₀ : Around} {base h₀ : Heap} {L : Addr} {m : Str → Option Value} {s : Shared} {Q E : Value → Shared → Prop}
    (B : Below A₀ base outer h₀) (F : Fr h₀ L s.heap m) (X : (Mine.hd.heap_39 w.params).In h₀) (N : News h₀ L s.heap news) (T : Top Mine.hd.view_39 (looseW Mine.hd.view_39 []) mean mg mb h₀) (hk : cs.kind = .function)
    (C : Ct w mean mg mb f dn un' news vs Post) (hd : dp + dn < recursionLimit) (hu : un + un' < cLine)
    (ret : ∀ v news' h' tk', Fr h₀ L h' m → News h₀ L h' news' → Post v news' → Q v { s with heap := h', toks := tk' }) :
    wpAny (model PySem.Challenge.rw_jv0010_01.row.prog w) (ktrTop dp un gd cn cs L a ccd cl outer) (call (.ref f) vs) Q E s :=
  C _ _ _ _ _ _ _ _ _ _ _ _ _ _ _ _ _ B F X N T hk hd hu ret

theorem int_eq {x y : Int} {t : Tok} (e : x = y) : Value.int y t = Value.int x t := by rw [e]
theorem bool_eq {x y : Bool} (e : x = y) : Value.bool y = Value.bool x := by rw [e]
noncomputable def Stop (P : Prop) : Prop := P
theorem stop_here {P : Prop} (h : Stop P) : P := h

/-- the ledger stays (a pure call) -/
noncomputable def Sup (news news' : Led) : Prop := ∀ p ∈ news, p ∈ news'
/-- all but the ledger's lists stay -/
noncomputable def Sub (news news' : Led) : Prop := ∀ p ∈ news, p.2.cls ≠ .type "list" → p ∈ news'
/-- the ledger's tuples stay -/
noncomputable def TS (news news' : Led) : Prop := ∀ p ∈ news, p.2.cls = .type "tuple" → p ∈ news'
/-- the ledger's tuples and lists stay -/
noncomputable def Keep (news news' : Led) : Prop := ∀ p ∈ news, p.2.cls = .type "tuple" ∨ p.2.cls = .type "list" → p ∈ news'
/-- the ledger's tuples and lists stay, and what stood at first -/
noncomputable def KeepN (first news news' : Led) : Prop := ∀ p ∈ news, p.2.cls = .type "tuple" ∨ p.2.cls = .type "list" ∨ p ∈ first → p ∈ news'
theorem tup_ne_list : Value.type "tuple" ≠ Value.type "list" := by simp
theorem Sub.ts {a b : Led} (h : Sub a b) : TS a b := fun p hp e => h p hp (by rw [e]; exact tup_ne_list)
theorem Keep.ts {a b : Led} (h : Keep a b) : TS a b := fun p hp e => h p hp (.inl e)
theorem KeepN.keep {f a b : Led} (h : KeepN f a b) : Keep a b := fun p hp e => h p hp (e.elim .inl fun x => .inr (.inl x))
theorem KeepN.sup {f a b : Led} (h : KeepN f a b) (hs : Sup f a) : Sup f b := fun p hp => h p (hs p hp) (.inr (.inr hp))
theorem Sup.keepN {f a b : Led} (h : Sup a b) : KeepN f a b := fun p hp _ => h p hp
theorem Sup.ts {a b : Led} (h : Sup a b) : TS a b := fun p hp _ => h p hp
theorem Sup.keep {a b : Led} (h : Sup a b) : Keep a b := fun p hp _ => h p hp
theorem Sup.rfl {news : Led} : Sup news news := fun _ h => h
theorem Sup.cons {news news' : Led} {q : Addr × Obj} (h : Sup news news') : Sup news (q :: news') := fun p hp => .tail _ (h p hp)
theorem Sup.trans {a b c : Led} (h : Sup a b) (h' : Sup b c) : Sup a c := fun p hp => h' p (h p hp)
theorem Sup.sub {a b : Led} (h : Sup a b) : Sub a b := fun p hp _ => h p hp
theorem Sub.rfl {news : Led} : Sub news news := fun _ h _ => h
theorem Sub.cons {news news' : Led} {q : Addr × Obj} (h : Sub news news') : Sub news (q :: news') := fun p hp e => .tail _ (h p hp e)
theorem Sub.trans {a b c : Led} (h : Sub a b) (h' : Sub b c) : Sub a c := fun p hp e => h' p (h p hp e) e
theorem Sup.use {l l' : Led} {p : Addr × Obj} (h : Sup l l') (hm : p ∈ l) : p ∈ l' := h p hm
theorem Sub.use {l l' : Led} {p : Addr × Obj} (h : Sub l l') (e : p.2.cls ≠ .type "list") (hm : p ∈ l) : p ∈ l' := h p hm e

noncomputable abbrev tup3 (x y z : Int) (t1 t2 t3 : Tok) (c : Nat) : Obj := { cls := .type "tuple", data := .seq #[.int x t1, .int y t2, .int z t3] c }
noncomputable abbrev tup2 (x y : Int) (t1 t2 : Tok) (c : Nat) : Obj := { cls := .type "tuple", data := .seq #[.int x t1, .int y t2] c }
noncomputable abbrev Tri := Int × Int × Int
noncomputable abbrev Pnt := Option (Int × Int)

/-- v is a triple of ints, made by the call -/
noncomputable def T3 (news : Led) (v : Value) (p : Tri) : Prop := ∃ a t1 t2 t3 c, v = .ref a ∧ (a, tup3 p.1 p.2.1 p.2.2 t1 t2 t3 c) ∈ news
/-- a is a pair of ints: made by the call, or the top's own -/
noncomputable def T2a (w : World) (news : Led) (a : Addr) (p : Int × Int) : Prop := ∃ t1 t2 c, ((a, tup2 p.1 p.2 t1 t2 c) ∈ news ∨ (Mine.hd.heap_39 w.params).lookup a = some (tup2 p.1 p.2 t1 t2 c))
noncomputable def T2 (w : World) (news : Led) (v : Value) (p : Int × Int) : Prop := ∃ a, v = .ref a ∧ T2a w news a p
noncomputable def Pt (w : World) (news : Led) (v : Value) : Pnt → Prop
  | none => v = .none
  | some p => T2 w news v p
theorem T3.mono {news news' v p} (hs : TS news news') (h : T3 news v p) : T3 news' v p := let ⟨a, t1, t2, t3, c, e, hm⟩ := h; ⟨a, t1, t2, t3, c, e, hs _ hm _root_.rfl⟩
theorem T2a.mono {w news news' v p} (hs : TS news news') (h : T2a w news v p) : T2a w news' v p := let ⟨t1, t2, c, hm⟩ := h; ⟨t1, t2, c, hm.imp (fun h => hs _ h _root_.rfl) id⟩
theorem T2.mono {w news news' v p} (hs : TS news news') (h : T2 w news v p) : T2 w news' v p := let ⟨a, e, hm⟩ := h; ⟨a, e, hm.mono hs⟩
theorem Pt.mono {w news news' v} {p : Pnt} (hs : TS news news') (h : Pt w news v p) : Pt w news' v p := by
  cases p with
  | none => exact h
  | some p => exact T2.mono hs h
theorem Pt.mono' {w news news' v} {p : Pnt} (h : Pt w news v p) (hs : TS news news') : Pt w news' v p := Pt.mono hs h
theorem T2a.mono' {w news news' v p} (h : T2a w news v p) (hs : TS news news') : T2a w news' v p := T2a.mono hs h
theorem T3.mono' {news news' v p} (h : T3 news v p) (hs : TS news news') : T3 news' v p := T3.mono hs h
theorem T3.mk {news : Led} {a t1 t2 t3 c x y z} {p : Tri} (e : p = (x, y, z)) (hm : (a, tup3 x y z t1 t2 t3 c) ∈ news) : T3 news (.ref a) p := by
  subst e; exact ⟨a, t1, t2, t3, c, rfl, hm⟩
theorem T3.mk' {news : Led} {a t1 t2 t3 c} {p : Tri} (hm : (a, tup3 p.1 p.2.1 p.2.2 t1 t2 t3 c) ∈ news) : T3 news (.ref a) p := ⟨a, t1, t2, t3, c, rfl, hm⟩
theorem T2.mk {w : World} {news : Led} {a t1 t2 c x y} {p : Int × Int} (e : p = (x, y)) (hm : (a, tup2 x y t1 t2 c) ∈ news) : T2 w news (.ref a) p := by
  subst e; exact ⟨a, rfl, t1, t2, c, .inl hm⟩

theorem T2a.isTup {w : World} {newsA news : Led} {a : Addr} {p : Int × Int} {h₀ h : Heap} {L : Addr} {m : Str → Option Value} (H : T2a w newsA a p) (hs : TS newsA news) (F : Fr h₀ L h m) (X : (Mine.hd.heap_39 w.params).In h₀) (N : News h₀ L h news) :
    ∃ t1 t2, IsTup h a #[.int p.1 t1, .int p.2 t2] := by
  obtain ⟨t1, t2, c, hm⟩ := H
  rcases hm with hm | hm
  · exact ⟨t1, t2, _, N.get (hs _ hm rfl), rfl, c, rfl⟩
  · exact ⟨t1, t2, _, F.keep _ _ (X _ _ hm), rfl, c, rfl⟩
section
variable {prog : Program} {w : World} {A : Around} {E : Value → Shared → Prop} {s : Shared} {a : Addr} {u : Tok} {Q : Value → Shared → Prop} {newsA news : Led} {p : Int × Int} {h₀ : Heap} {L : Addr} {m : Str → Option Value} {value slice : PySem.Expr}
theorem t2_item0 (H : T2a w newsA a p) (F : Fr h₀ L s.heap m) (X : (Mine.hd.heap_39 w.params).In h₀) (N : News h₀ L s.heap news) (hs : TS newsA news) (h : ∀ t, Q (.int p.1 t) s)
    (hs' : subscripted slice false (.ref a) (.int 0 u) = operate [.ref a, .int 0 u] (getItem (.ref a) (.int 0 u)) := by with_unfolding_all rfl) : wpAny (model prog w) A (subscriptTail value slice (.ref a) (.int 0 u)) Q E s :=
  let ⟨t1, _, ht⟩ := H.isTup hs F X N
  item_tupleT ht (by decide) (by decide) rfl rfl (h t1) hs'
theorem t2_item1 (H : T2a w newsA a p) (F : Fr h₀ L s.heap m) (X : (Mine.hd.heap_39 w.params).In h₀) (N : News h₀ L s.heap news) (hs : TS newsA news) (h : ∀ t, Q (.int p.2 t) s)
    (hs' : subscripted slice false (.ref a) (.int 1 u) = operate [.ref a, .int 1 u] (getItem (.ref a) (.int 1 u)) := by with_unfolding_all rfl) : wpAny (model prog w) A (subscriptTail value slice (.ref a) (.int 1 u)) Q E s :=
  let ⟨_, t2, ht⟩ := H.isTup hs F X N
  item_tupleT ht (by decide) (by decide) rfl rfl (h t2) hs'
end
theorem News.same {h₀ h : Heap} {L a : Addr} {news : Led} {o o' : Obj} (N : News h₀ L h news) (h1 : (a, o) ∈ news) (h2 : (a, o') ∈ news) : o = o' := Option.some.inj ((N.get h1).symm.trans (N.get h2))
/-- all but what is at B stays -/
noncomputable def But (B : Addr) (news news' : Led) : Prop := ∀ p ∈ news, p.1 ≠ B → p ∈ news'
theorem But.use {B : Addr} {l l' : Led} {p : Addr × Obj} (h : But B l l') (e : p.1 ≠ B) (hm : p ∈ l) : p ∈ l' := h p hm e
/-- one object of the ledger is turned -/
theorem news_turn {h₀ h h' : Heap} {L D : Addr} {m : Str → Option Value} {news : Led} {o o' : Obj} (F : Fr h₀ L h m) (N : News h₀ L h news) (hm : (D, o) ∈ news) (hc : o.cls = .type "list") (hs : Heap.SameBut D h h') (ho' : h'.get? D = some o') :
    ∃ news', Fr h₀ L h' m ∧ News h₀ L h' news' ∧ (D, o') ∈ news' ∧ Sub news news' ∧ But D news news' := by
  refine ⟨_, F.update N hm hs, N.update hm hs ho', List.mem_map.mpr ⟨_, hm, by simp⟩, fun p hp e => ?_, fun p hp e => List.mem_map.mpr ⟨p, hp, by rw [if_neg e]⟩⟩
  refine List.mem_map.mpr ⟨p, hp, if_neg fun e' => e ?_⟩
  obtain ⟨a, b⟩ := p
  dsimp only at e e'
  subst e'
  rw [← News.same N hm hp]
  exact hc
/-- the box of the script: [script, place] -/
noncomputable def Bx (news : Led) (B S : Addr) (ns : List Int) (i : Int) : Prop :=
  ∃ vs cb cs t, IntsAre vs ns ∧ (B, W.listOf #[.ref S, .int i t] cb) ∈ news ∧ (S, W.listOf vs.toArray cs) ∈ news ∧ B ≠ S ∧ 0 ≤ i ∧ i ≤ 60 ∧ ns.length ≤ 60
theorem Bx.mono {news news' B S ns i} (hs : Keep news news') (h : Bx news B S ns i) : Bx news' B S ns i :=
  let ⟨vs, cb, cs, t, h1, h2, h3, h4, h5, h6, h7⟩ := h; ⟨vs, cb, cs, t, h1, hs _ h2 (.inr rfl), hs _ h3 (.inr rfl), h4, h5, h6, h7⟩
theorem Bx.mono' {news news' B S ns i} (h : Bx news B S ns i) (hs : Sup news news') : Bx news' B S ns i := Bx.mono hs.keep h
theorem fr_pin {h₀ h : Heap} {L : Addr} {m : Str → Option Value} (ps : List (Str × Value)) (hp : ∀ p ∈ ps, m p.1 = some p.2) (F : Fr h₀ L h m) : Fr h₀ L h (kstB m ps) := by
  have e : kstB m ps = m := funext fun z => kstB_eq hp fun _ => rfl
  rw [e]; exact F
/-- a turn of a loop over a range: what is left behind it -/
noncomputable def RgPost (h₀ : Heap) (L : Addr) (J : (Str → Option Value) → Led → Prop) (I : Addr) (o : Obj) (s : Shared) (Q : Flow → Shared → Prop) (f : Flow) (s₂ : Shared) : Prop :=
  match f with
  | .ret v => Q (.ret v) s₂
  | .brk => Q .next s₂
  | _ => ∃ h' tk m' news', s₂ = { s with heap := h', toks := tk } ∧ Fr h₀ L h' m' ∧ News h₀ L h' news' ∧ (I, o) ∈ news' ∧ J m' news'
section
variable {prog : Program} {w : World} {A : Around} {E : Value → Shared → Prop} {s : Shared} {env : Env} {h₀ : Heap} {x : Str} {body : List Stmt} {Q : Flow → Shared → Prop}
theorem my_range {r : Addr} {a₀ b₀ : Int} {t₀ u₀ v₀ : Tok} {n : Nat} {m₀ : Str → Option Value} {news : Led} (J : Nat → (Str → Option Value) → Led → Prop)
    (hJ : ∀ i m l l', KeepN news l l' → J i m l → J i m l')
    (hh : A.handled = none) (hr : IsRange s.heap r a₀ b₀ 1 t₀ u₀ v₀) (hsmall : Builtin.Range.small a₀ b₀ 1 = true) (hn : Builtin.Range.rangeSize a₀ b₀ 1 = (n : Int)) (F : Fr h₀ env.locals s.heap m₀) (N : News h₀ env.locals s.heap news) (h0 : J 0 m₀ news)
    (turn : ∀ (i : Nat) t m₁ news₁ h tk I o, i < n → o.cls ≠ .type "list" → (I, o) ∈ news₁ → J i m₁ news₁ → Fr h₀ env.locals h (fun y => if y = x then some (.int (a₀ + (i : Int)) t) else m₁ y) → News h₀ env.locals h news₁ →
      wpAny (model prog w) A (execs body env) (RgPost h₀ env.locals (J (i + 1)) I o { s with heap := h, toks := tk } Q) E { s with heap := h, toks := tk })
    (done : ∀ m₁ news₁ h tk, J n m₁ news₁ → Fr h₀ env.locals h m₁ → News h₀ env.locals h news₁ → Q .next { s with heap := h, toks := tk }) :
    wpAny (model prog w) A (pyIter (.ref r)) (fun it s₂ => LoopAtV prog w A h₀ env x body Q E it s₂) E s := by
  refine wpAny_pyIter_range hr hsmall ?_
  have W : Walks prog w A s.heap.objs.size [s.heap.objs.size] [s.heap.objs.size] n (fun i v => i < n ∧ ∃ t, v = .int (a₀ + i * 1) t)
      (fun i h => IsRangeIter h s.heap.objs.size (a₀ + (i : Nat) * 1) ((n : Int) - (i : Nat)) 1) := (Walks.range hh _ a₀ 1 n).bound
  refine ⟨_, _, _, n, _, _, m₀, news, J, rfl, W, ?_, ?_, ?_, (by show IsRangeIter _ _ _ _ _; rw [hn]; simpa using Heap.get?_push_size _ rfl), F.push _, (fun p hp => ⟨Heap.get?_push_of_some _ (N p hp).1, (N p hp).2⟩), h0, ?_, ?_⟩
  · intro hm
    exact absurd F.ns.lt ((List.mem_singleton.mp hm) ▸ Nat.lt_irrefl _)
  · intro b hb
    rw [List.mem_singleton.mp hb]
    exact next_is_new F
  · intro p hp hI
    exact absurd (Heap.lt_size (N p hp).1) ((List.mem_singleton.mp hI) ▸ Nat.lt_irrefl _)
  · rintro i v m₁ nx s₁ own ⟨h, tk, rfl⟩ hi ⟨_, t, rfl⟩ hJ₁ hoff hown hget hall hst F₁ N₁
    have e1 : a₀ + (i : Int) * 1 = a₀ + (i : Int) := by omega
    rw [e1] at F₁
    obtain ⟨o, ho, hcls⟩ : ∃ o, h.get? s.heap.objs.size = some o ∧ o.cls = .type "range_iterator" := ⟨_, hst, rfl⟩
    have hmem : (s.heap.objs.size, o) ∈ own := hall _ (.head _) (next_is_new F) o ho
    have hne : o.cls ≠ .type "list" := by rw [hcls]; simp
    refine wpAny_mono (turn i t m₁ (own ++ nx) h tk s.heap.objs.size o hi hne (List.mem_append_left _ hmem) (hJ _ _ _ _ (fun p hp _ => List.mem_append_right _ hp) hJ₁) F₁ N₁) (fun f s₂ p => ?_) fun _ _ x => x
    have fin : (∃ h' tk' m' news', s₂ = { s with heap := h', toks := tk' } ∧ Fr h₀ env.locals h' m' ∧ News h₀ env.locals h' news' ∧ (s.heap.objs.size, o) ∈ news' ∧ J (i + 1) m' news') →
        LoopStepU h₀ env.locals [s.heap.objs.size] own (J (i + 1)) { s with heap := h, toks := tk } .next s₂ := by
      rintro ⟨h', tk', m', news', rfl, F', N', hI, hJ'⟩
      refine ⟨rfl, h', tk', m', news'.filter (fun p => p.1 ≠ s.heap.objs.size), rfl, F', fun p hp => ?_, fun p hp hq => ?_, hJ _ _ _ _ (fun p hp hc => ?_) hJ'⟩
      · rcases List.mem_append.mp hp with hp | hp
        · have e2 := List.mem_singleton.mp (hown p hp)
          have e3 := hget p hp
          rw [e2] at e3
          have e4 : p.2 = o := Option.some.inj (e3.symm.trans ho)
          have e5 : p = (s.heap.objs.size, o) := Prod.ext e2 e4
          rw [e5]
          exact N' _ hI
        · exact N' p (List.mem_filter.mp hp).1
      · have := (List.mem_filter.mp hp).2
        simp only [ne_eq, decide_not, Bool.not_eq_true', decide_eq_false_iff_not] at this
        exact this (List.mem_singleton.mp hq)
      · refine List.mem_filter.mpr ⟨hp, ?_⟩
        simp only [ne_eq, decide_not, Bool.not_eq_true', decide_eq_false_iff_not]
        intro e2
        obtain ⟨a, b⟩ := p
        dsimp only at e2 hc
        subst e2
        have e3 := News.same N' hp hI
        rw [e3] at hc
        rcases hc with hc | hc | hc
        · rw [hcls] at hc; simp at hc
        · rw [hcls] at hc; simp at hc
        · exact absurd (Heap.lt_size (N _ hc).1) (Nat.lt_irrefl _)
    cases f with
    | ret v => exact .ret p
    | brk => exact .brk p
    | next => exact .next (fin p)
    | cont => exact .cont (fin p)
  · rintro h' tk m' news' F' N' _ hJ'
    exact done m' news' h' tk hJ' F' N'
end
section
variable {prog : Program} {w : World} {A : Around} {E : Value → Shared → Prop} {s : Shared} {h₀ : Heap} {L D : Addr} {m : Str → Option Value} {news : Led} {items : Array Value} {n : Nat} {k : Int} {t : Tok} {v : Value}
theorem my_setItem {Q : Unit → Shared → Prop} (F : Fr h₀ L s.heap m) (N : News h₀ L s.heap news) (hm : (D, W.listOf items n) ∈ news) (h0 : 0 ≤ k) (h1 : k < items.size) (hfit : k < 2 ^ 63)
    (h : ∀ h' news', Fr h₀ L h' m → News h₀ L h' news' → (∃ n', (D, W.listOf (items.setIfInBounds k.toNat v) n') ∈ news') → Sub news news' → But D news news' → Q () { s with heap := h' }) :
    wpAny (model prog w) A (setItem (.ref D) (.int k t) v) Q E s := by
  refine ki_setAt (N.get hm) h0 hfit h1 ?_
  have hg := PySem.IsL.update (N.get hm) (fun x : Array Value => x.setIfInBounds k.toNat v)
  obtain ⟨news', F', N', a, b, c⟩ := news_turn F N hm rfl (Heap.SameBut.update ..) hg
  exact h _ _ F' N' ⟨_, a⟩ b c
end
theorem my_set1 {prog : Program} {w : World} {A : Around} {E : Value → Shared → Prop} {s : Shared} {h₀ : Heap} {L D : Addr} {m : Str → Option Value} {news : Led} {n : Nat} {t : Tok} {a b v : Value} {Q : Unit → Shared → Prop} (F : Fr h₀ L s.heap m) (N : News h₀ L s.heap news) (hm : (D, W.listOf #[a, b] n) ∈ news)
    (h : ∀ h' news' n', Fr h₀ L h' m → News h₀ L h' news' → (D, W.listOf #[a, v] n') ∈ news' → Sub news news' → But D news news' → Q () { s with heap := h' }) :
    wpAny (model prog w) A (setItem (.ref D) (.int 1 t) v) Q E s :=
  my_setItem F N hm (by decide) (by show (1 : Int) < 2; decide) (by decide) fun h' news' F' N' ⟨n', hm'⟩ hs hk => h h' news' n' F' N' hm' hs hk
section
variable {prog : Program} {w : World} {A : Around} {E : Value → Shared → Prop} {s : Shared} {h₀ : Heap} {L D : Addr} {news : Led} {items : Array Value} {n : Nat} {k : Int} {u : Tok} {v : Value} {Q : Value → Shared → Prop} {value slice : PySem.Expr}
theorem my_item (N : News h₀ L s.heap news) (hm : (D, W.listOf items n) ∈ news) (h0 : 0 ≤ k) (hfit : k < 2 ^ 63) (hx : items[k.toNat]? = some v) (h : Q v s)
    (hs : subscripted slice false (.ref D) (.int k u) = operate [.ref D, .int k u] (getItem (.ref D) (.int k u)) := by with_unfolding_all rfl) :
    wpAny (model prog w) A (subscriptTail value slice (.ref D) (.int k u)) Q E s :=
  tail_any (N.isList hm).typeIs slot_list_getitem.lookup (wpAny_getItem_list (N.isList hm) h0 hfit hx h) hs
theorem my_item0 {a b : Value} (N : News h₀ L s.heap news) (hm : (D, W.listOf #[a, b] n) ∈ news) (h : Q a s)
    (hs : subscripted slice false (.ref D) (.int 0 u) = operate [.ref D, .int 0 u] (getItem (.ref D) (.int 0 u)) := by with_unfolding_all rfl) :
    wpAny (model prog w) A (subscriptTail value slice (.ref D) (.int 0 u)) Q E s := my_item N hm (by decide) (by decide) rfl h hs
theorem my_item1 {a b : Value} (N : News h₀ L s.heap news) (hm : (D, W.listOf #[a, b] n) ∈ news) (h : Q b s)
    (hs : subscripted slice false (.ref D) (.int 1 u) = operate [.ref D, .int 1 u] (getItem (.ref D) (.int 1 u)) := by with_unfolding_all rfl) :
    wpAny (model prog w) A (subscriptTail value slice (.ref D) (.int 1 u)) Q E s := my_item N hm (by decide) (by decide) rfl h hs
theorem my_len_ints {vs : List Value} {ns : List Int} (N : News h₀ L s.heap news) (hm : (D, W.listOf vs.toArray n) ∈ news) (hi : IntsAre vs ns) (hl : ns.length ≤ 60) (h : ∀ t' tk', Q (.int ns.length t') { s with toks := tk' }) :
    wpAny (model prog w) A (call (.builtin "len") [.ref D]) Q E s := by
  have e : vs.toArray.size = ns.length := by rw [List.size_toArray]; exact hi.length
  refine len_list (N.isList hm) (by omega) ?_
  rw [e]
  exact h _ _
end
/-- all parts lie below the prime -/
noncomputable def InR (p : Tri) : Prop := (0 ≤ p.1 ∧ p.1 < pP) ∧ (0 ≤ p.2.1 ∧ p.2.1 < pP) ∧ (0 ≤ p.2.2 ∧ p.2.2 < pP)
noncomputable def InR2 (p : Int × Int) : Prop := (0 ≤ p.1 ∧ p.1 < pP) ∧ (0 ≤ p.2 ∧ p.2 < pP)
noncomputable def InRP : Pnt → Prop
  | none => True
  | some p => InR2 p

section
variable {prog : Program} {w : World} {A : Around} {E : Value → Shared → Prop} {s : Shared} {a : Int} {t u : Tok} {Q : Value → Shared → Prop}
theorem bits_of_lt {r : Int} (h0 : 0 ≤ r) (h1 : r < pP) : Builtin.Int.intBits r ≤ 256 := intBits_le_iff.mpr (by
  have : (2 : Nat) ^ 256 = 115792089237316195423570985008687907853269984665640564039457584007913129639936 := by decide
  rw [this]; unfold pP at h1; omega)
theorem bits_of_R {r : Int} (h : 0 ≤ r ∧ r < pP) : Builtin.Int.intBits r ≤ 256 := bits_of_lt h.1 h.2
theorem my_mod_P (h : ∀ r t' tk', r = a % pP → 0 ≤ r → r < pP → Builtin.Int.intBits r ≤ 256 → Q (.int r t') { s with toks := tk' }) :
    wpAny (model prog w) A (binaryOp .Mod (.int a t) (.int 115792089237316195423570985008687907853269984665640564039457584007908834671663 u)) Q E s :=
  mod_int' (by decide) (by
    have h0 := Int.emod_nonneg a (show pP ≠ 0 by decide)
    have h1 := Int.emod_lt_of_pos a (show 0 < pP by decide)
    have e : a.fmod 115792089237316195423570985008687907853269984665640564039457584007908834671663 = a % pP := Int.fmod_eq_emod_of_nonneg _ (by decide)
    rw [e]
    exact h _ _ _ rfl h0 h1 (bits_of_lt h0 h1))
theorem my_mod {n : Int} (hn : 0 < n) (h : ∀ r t' tk', r = a % n → 0 ≤ r → r < n → Q (.int r t') { s with toks := tk' }) :
    wpAny (model prog w) A (binaryOp .Mod (.int a t) (.int n u)) Q E s :=
  mod_int' (by omega) (by
    have h0 := Int.emod_nonneg a (show n ≠ 0 by omega)
    have h1 := Int.emod_lt_of_pos a hn
    rw [Int.fmod_eq_emod_of_nonneg _ (by omega)]
    exact h _ _ _ rfl h0 h1)
theorem my_fdiv {n : Int} {m : Nat} (hn : 0 < n) (hb : Builtin.Int.intBits n ≤ m) (hm : m ≤ 9000) (h : ∀ r t' tk', r = a / n → Q (.int r t') { s with toks := tk' }) :
    wpAny (model prog w) A (binaryOp .FloorDiv (.int a t) (.int n u)) Q E s :=
  floordiv_int (by omega) (by
    rw [Int.fdiv_eq_ediv_of_nonneg _ (by omega)]
    exact h _ _ _ rfl) (.inl (PyProof.noPylong_of_log2 (by
      have := intBits_le_iff.mp hb
      have h2 : n.natAbs < 2 ^ 9000 := Nat.lt_of_lt_of_le this (Nat.pow_le_pow_right (by decide) hm)
      exact (Nat.log2_lt (by omega)).mpr h2)))
theorem my_fdivB {n : Int} {k m : Nat} (hn : 0 < n) (hb : Builtin.Int.intBits n ≤ m) (hm : m ≤ 9000) (ha : Builtin.Int.intBits a ≤ k) (h : ∀ r t' tk', r = a / n → Builtin.Int.intBits r ≤ k → Q (.int r t') { s with toks := tk' }) :
    wpAny (model prog w) A (binaryOp .FloorDiv (.int a t) (.int n u)) Q E s :=
  my_fdiv hn hb hm fun r t' tk' hr => h r t' tk' hr (by rw [hr, ← Int.fdiv_eq_ediv_of_nonneg _ (by omega : 0 ≤ n)]; exact intBits_fdiv_le ha)
theorem my_pow2 {m : Nat} (hb : Builtin.Int.intBits a ≤ m) (hm : m ≤ 10000) (h : ∀ t' tk', Q (.int (a ^ 2) t') { s with toks := tk' }) : wpAny (model prog w) A (binaryOp .Pow (.int a t) (.int 2 u)) Q E s :=
  pow_int (by decide) (by have : (2:Int) ^ 27 = 134217728 := by decide
                          rw [this]; omega) (h _ _)
theorem my_pow3 {m : Nat} (hb : Builtin.Int.intBits a ≤ m) (hm : m ≤ 10000) (h : ∀ t' tk', Q (.int (a ^ 3) t') { s with toks := tk' }) : wpAny (model prog w) A (binaryOp .Pow (.int a t) (.int 3 u)) Q E s :=
  pow_int (by decide) (by have : (2:Int) ^ 27 = 134217728 := by decide
                          rw [this]; omega) (h _ _)
theorem my_pow4 {m : Nat} (hb : Builtin.Int.intBits a ≤ m) (hm : m ≤ 10000) (h : ∀ t' tk', Q (.int (a ^ 4) t') { s with toks := tk' }) : wpAny (model prog w) A (binaryOp .Pow (.int a t) (.int 4 u)) Q E s :=
  pow_int (by decide) (by have : (2:Int) ^ 27 = 134217728 := by decide
                          rw [this]; omega) (h _ _)
theorem my_mul {b : Int} {m n : Nat} (ha : Builtin.Int.intBits a ≤ m) (hb : Builtin.Int.intBits b ≤ n) (hs : m + n ≤ 100000) (h : ∀ t' tk', Q (.int (a * b) t') { s with toks := tk' }) : wpAny (model prog w) A (binaryOp .Mult (.int a t) (.int b u)) Q E s :=
  mul_int (h _ _) (IntMulOk.of_le ha hb (by omega))
theorem bits_small {x : Int} (h0 : 0 ≤ x) (h1 : x < 65536) : Builtin.Int.intBits x ≤ 16 := intBits_le_iff.mpr (by
  have : (2 : Nat) ^ 16 = 65536 := by decide
  rw [this]; omega)
theorem bits_pow2 {m : Nat} (ha : Builtin.Int.intBits a ≤ m) : Builtin.Int.intBits (a ^ 2) ≤ m * 2 + 1 := intBits_pow_le ha 2
theorem bits_pow3 {m : Nat} (ha : Builtin.Int.intBits a ≤ m) : Builtin.Int.intBits (a ^ 3) ≤ m * 3 + 1 := intBits_pow_le ha 3
theorem bits_pow4 {m : Nat} (ha : Builtin.Int.intBits a ≤ m) : Builtin.Int.intBits (a ^ 4) ≤ m * 4 + 1 := intBits_pow_le ha 4
end

theorem InR.bits {p : Tri} (h : InR p) : Builtin.Int.intBits p.1 ≤ 256 ∧ Builtin.Int.intBits p.2.1 ≤ 256 ∧ Builtin.Int.intBits p.2.2 ≤ 256 := ⟨bits_of_R h.1, bits_of_R h.2.1, bits_of_R h.2.2⟩
theorem InR2.bits {p : Int × Int} (h : InR2 p) : Builtin.Int.intBits p.1 ≤ 256 ∧ Builtin.Int.intBits p.2 ≤ 256 := ⟨bits_of_R h.1, bits_of_R h.2⟩
noncomputable def jDouble (p : Tri) : Tri :=
  if p.2.1 = 0 then (0, 0, 0) else
  let ysq := p.2.1 ^ 2 % pP
  let S := 4 * p.1 * ysq % pP
  let M := (3 * p.1 ^ 2 + 0 * p.2.2 ^ 4) % pP
  let nx := (M ^ 2 - 2 * S) % pP
  let ny := (M * (S - nx) - 8 * ysq ^ 2) % pP
  let nz := 2 * p.2.1 * p.2.2 % pP
  (nx, ny, nz)
noncomputable def jAdd (p q : Tri) : Tri :=
  if p.2.1 = 0 then q else
  if q.2.1 = 0 then p else
  let U1 := p.1 * q.2.2 ^ 2 % pP
  let U2 := q.1 * p.2.2 ^ 2 % pP
  let S1 := p.2.1 * q.2.2 ^ 3 % pP
  let S2 := q.2.1 * p.2.2 ^ 3 % pP
  if U1 = U2 then (if S1 = S2 then jDouble p else (0, 0, 1)) else
  let H := U2 - U1
  let R := S2 - S1
  let H2 := H * H % pP
  let H3 := H * H2 % pP
  let U1H2 := U1 * H2 % pP
  let nx := (R ^ 2 - H3 - 2 * U1H2) % pP
  let ny := (R * (U1H2 - nx) - S1 * H3) % pP
  let nz := H * p.2.2 * q.2.2 % pP
  (nx, ny, nz)
theorem pmod0 (a : Int) : 0 ≤ a % pP := Int.emod_nonneg a (by decide)
theorem pmod1 (a : Int) : a % pP < pP := Int.emod_lt_of_pos a (by decide)
theorem pmod (a : Int) : 0 ≤ a % pP ∧ a % pP < pP := ⟨pmod0 a, pmod1 a⟩
theorem inR_000 : InR (0, 0, 0) := ⟨by decide, by decide, by decide⟩
theorem inR_001 : InR (0, 0, 1) := ⟨by decide, by decide, by decide⟩
theorem jDouble_R (p : Tri) : InR (jDouble p) := by
  unfold jDouble
  split
  · exact inR_000
  · exact ⟨pmod _, pmod _, pmod _⟩
theorem jAdd_R {p q : Tri} (hp : InR p) (hq : InR q) : InR (jAdd p q) := by
  unfold jAdd
  split
  · exact hq
  · split
    · exact hp
    · dsimp only
      split
      · split
        · exact jDouble_R p
        · exact inR_001
      · exact ⟨pmod _, pmod _, pmod _⟩

theorem inv_dec {low high : Int} (h : 1 < low) : (high - low * (high / low)).toNat < low.toNat := by
  have h1 := Int.emod_add_mul_ediv high low
  have h2 := Int.emod_lt_of_pos high (show 0 < low by omega)
  omega
noncomputable def invLoop (lm low hm high : Int) : Int :=
  if 1 < low then invLoop (hm - lm * (high / low)) (high - low * (high / low)) lm low else lm
termination_by low.toNat
decreasing_by exact inv_dec (by assumption)
noncomputable def pyInv (a n : Int) : Int := if a = 0 then 0 else (invLoop 1 (a % n) 0 n) % n
theorem pyInv_range (a : Int) {n : Int} (hn : 0 < n) : 0 ≤ pyInv a n ∧ pyInv a n < n := by
  unfold pyInv
  split
  · exact ⟨Int.le_refl _, hn⟩
  · exact ⟨Int.emod_nonneg _ (by omega), Int.emod_lt_of_pos _ hn⟩
theorem bits_pyInv (a : Int) : Builtin.Int.intBits (pyInv a 115792089237316195423570985008687907853269984665640564039457584007908834671663) ≤ 256 := bits_of_R (pyInv_range a (by decide))
noncomputable def pInv (a : Int) : Int := ((Builtin.powMod (a % pP).toNat (pP - 2).natAbs pP.natAbs : Nat) : Int)
theorem pInv_range (a : Int) : 0 ≤ pInv a ∧ pInv a < pP := by
  unfold pInv
  rw [powMod_eq]
  have h : pP.natAbs = 115792089237316195423570985008687907853269984665640564039457584007908834671663 := rfl
  have := Nat.mod_lt ((a % pP).toNat ^ (pP - 2).natAbs) (show 0 < pP.natAbs by rw [h]; decide)
  refine ⟨Int.natCast_nonneg _, ?_⟩
  have h3 : pP = ((pP.natAbs : Nat) : Int) := by decide
  rw [h3]
  exact Int.ofNat_lt.mpr this
theorem powP_range (b e : Nat) : 0 ≤ ((Builtin.powMod b e pP.natAbs : Nat) : Int) ∧ ((Builtin.powMod b e pP.natAbs : Nat) : Int) < pP := by
  rw [powMod_eq]
  have h : pP.natAbs = 115792089237316195423570985008687907853269984665640564039457584007908834671663 := rfl
  have := Nat.mod_lt (b ^ e) (show 0 < pP.natAbs by rw [h]; decide)
  refine ⟨Int.natCast_nonneg _, ?_⟩
  have h3 : pP = ((pP.natAbs : Nat) : Int) := by decide
  conv => rhs; rw [h3]
  exact Int.ofNat_lt.mpr this
theorem call_powP {prog : Program} {w : World} {A : Around} {E : Value → Shared → Prop} {s : Shared} {Q : Value → Shared → Prop} {a e : Int} {t u v : Tok} (he : 0 ≤ e)
    (h : ∀ r t' tk', r = ((Builtin.powMod (a % pP).toNat e.natAbs pP.natAbs : Nat) : Int) → 0 ≤ r → r < pP → Q (.int r t') { s with toks := tk' }) :
    wpAny (model prog w) A (call (.builtin "pow") [.int a t, .int e u, .int 115792089237316195423570985008687907853269984665640564039457584007908834671663 v]) Q E s :=
  call_pow3 he (by decide) fun t' tk' => h _ t' tk' rfl (powP_range _ _).1 (powP_range _ _).2
noncomputable def lSum : Pnt → Pnt → Pnt
  | none, q => q
  | some p, none => some p
  | some p, some q =>
    if p.1 = q.1 then
      if (p.2 + q.2) % pP = 0 then none else
      let s := 3 * p.1 * p.1 * pInv (2 * p.2) % pP
      let x := (s * s - p.1 - q.1) % pP
      some (x, (s * (p.1 - x) - p.2) % pP)
    else
      let s := (q.2 - p.2) * pInv ((q.1 - p.1) % pP) % pP
      let x := (s * s - p.1 - q.1) % pP
      some (x, (s * (p.1 - x) - p.2) % pP)
theorem lSum_R {p q : Pnt} (hp : InRP p) (hq : InRP q) : InRP (lSum p q) := by
  unfold lSum
  split
  · exact hq
  · exact hp
  · split
    · split
      · trivial
      · exact ⟨⟨Int.emod_nonneg _ (by decide), Int.emod_lt_of_pos _ (by decide)⟩, ⟨Int.emod_nonneg _ (by decide), Int.emod_lt_of_pos _ (by decide)⟩⟩
    · exact ⟨⟨Int.emod_nonneg _ (by decide), Int.emod_lt_of_pos _ (by decide)⟩, ⟨Int.emod_nonneg _ (by decide), Int.emod_lt_of_pos _ (by decide)⟩⟩
noncomputable def lLoop (f p : Pnt) (k : Nat) : Pnt := if h : k = 0 then f else lLoop (if k % 2 = 1 then lSum f p else f) (lSum p p) (k / 2)
termination_by k
decreasing_by omega
noncomputable def lTimes (p : Pnt) (k : Nat) : Pnt := lLoop none p k
theorem lLoop_R : ∀ (k : Nat) {f p : Pnt}, InRP f → InRP p → InRP (lLoop f p k) := by
  intro k
  induction k using Nat.strongRecOn with
  | ind k ih =>
    intro f p hf hp
    unfold lLoop
    split
    · exact hf
    · refine ih _ (by omega) ?_ (lSum_R hp hp)
      split
      · exact lSum_R hf hp
      · exact hf
theorem lTimes_R {p : Pnt} (k : Nat) (hp : InRP p) : InRP (lTimes p k) := lLoop_R k trivial hp
theorem lLoop0 (f p : Pnt) : lLoop f p 0 = f := by unfold lLoop; rfl
theorem lLoop_odd {f p : Pnt} {k r q : Int} (h0 : 0 < k) (hq : q = k % 2) (he : q = 1) (hr : r = k / 2) : lLoop f p k.toNat = lLoop (lSum f p) (lSum p p) r.toNat := by
  have e : r.toNat = k.toNat / 2 := by omega
  rw [e]
  conv => lhs; unfold lLoop
  rw [dif_neg (by omega), if_pos (by omega)]
theorem lLoop_even {f p : Pnt} {k r q : Int} (h0 : 0 < k) (hq : q = k % 2) (he : q ≠ 1) (hr : r = k / 2) : lLoop f p k.toNat = lLoop f (lSum p p) r.toNat := by
  have e : r.toNat = k.toNat / 2 := by omega
  rw [e]
  conv => lhs; unfold lLoop
  rw [dif_neg (by omega), if_neg (by omega)]
noncomputable def formJ : Pnt → Int → Int → Tri
  | none, _, z => (0, 0, z)
  | some p, f, _ => (p.1 * (f * f % pP) % pP, p.2 * (f * f % pP) * f % pP, f)
noncomputable def pairP : Pnt → Int × Int
  | none => (0, 0)
  | some p => p
noncomputable def toJ (p : Int × Int) : Tri := (p.1, p.2, 1)
noncomputable def fromJ (p : Tri) : Int × Int := (p.1 * pyInv p.2.2 pP ^ 2 % pP, p.2.1 * pyInv p.2.2 pP ^ 3 % pP)
noncomputable def jMul (a : Tri) (n : Nat) : Tri :=
  if h : n < 2 then (if a.2.1 = 0 ∨ n = 0 then (0, 0, 1) else a) else
  if a.2.1 = 0 then (0, 0, 1) else
  if n % 2 = 0 then jDouble (jMul a (n / 2)) else jAdd (jDouble (jMul a (n / 2))) a
theorem jMul_R {a : Tri} (ha : InR a) : ∀ n, InR (jMul a n) := by
  intro n
  induction n using Nat.strongRecOn with
  | ind n ih =>
    unfold jMul
    split
    · split
      · exact inR_001
      · exact ha
    · split
      · exact inR_001
      · split
        · exact jDouble_R _
        · exact jAdd_R (jDouble_R _) ha
local macro_rules | `(tactic| walk_at "binaryOp Mod int int") => `(tactic| k_extra "m binaryOp Mod int int")
local macro_rules | `(tactic| walk_at "binaryOp FloorDiv int int") => `(tactic| k_extra "m binaryOp FloorDiv int int")
local macro_rules | `(tactic| walk_at "binaryOp Pow int int") => `(tactic| k_extra "m binaryOp Pow int int")
local macro_rules | `(tactic| walk_at "binaryOp Mult int int") => `(tactic| k_extra "m binaryOp Mult int int")
local macro_rules | `(tactic| walk_at "subscriptTail") => `(tactic| k_extra "m subscriptTail")
local macro_rules | `(tactic| walk_at "call builtin:len") => `(tactic| k_extra "m call builtin:len")
local macro_rules | `(tactic| walk_at "setItem ref int") => `(tactic| k_extra "m setItem ref int")
local macro_rules | `(tactic| walk_at "call builtin:pow") => `(tactic| k_extra "m call builtin:pow")
theorem words_0 : True := by
  k_with "mine bits" => (first
  | with_reducible assumption
  | ((with_reducible show Builtin.Int.intBits (_ * _) ≤ _); exact intBits_mul_le (by k_extra "mine bits") (by k_extra "mine bits"))
  | ((with_reducible show Builtin.Int.intBits (_ + _) ≤ _); exact intBits_add_le (by k_extra "mine bits") (by k_extra "mine bits"))
  | ((with_reducible show Builtin.Int.intBits (_ - _) ≤ _); exact intBits_sub_le (by k_extra "mine bits") (by k_extra "mine bits"))
  | ((with_reducible show Builtin.Int.intBits (_ ^ 2) ≤ _); exact bits_pow2 (by k_extra "mine bits"))
  | ((with_reducible show Builtin.Int.intBits (_ ^ 3) ≤ _); exact bits_pow3 (by k_extra "mine bits"))
  | ((with_reducible show Builtin.Int.intBits (_ ^ 4) ≤ _); exact bits_pow4 (by k_extra "mine bits"))
  | ((with_reducible show Builtin.Int.intBits (pyInv _ _) ≤ _); exact bits_pyInv _)
  | ((with_reducible show Builtin.Int.intBits (pInv _) ≤ _); exact bits_of_R (pInv_range _))
  | (with_reducible exact bits_of_R (by with_reducible assumption))
  | (with_reducible exact bits_of_lt (by with_reducible assumption) (by with_reducible assumption))
  | exact bits_small (by decide) (by decide))
  k_with "m binaryOp Mod int int" => ((with_reducible refine my_mod (by first | decide | omega) ?_; intro r' t' tk' hr' h0' h1'))
  k_with "m binaryOp Mod int int" => ((with_reducible refine my_mod_P ?_; intro r' t' tk' hr' h0' h1' hb'))
  k_with "m binaryOp FloorDiv int int" => ((with_reducible refine my_fdiv (by first | decide | omega) (by k_extra "mine bits") (by decide) ?_; intro r' t' tk' hr'))
  k_with "m binaryOp FloorDiv int int" => ((with_reducible refine my_fdivB (by first | decide | omega) (by k_extra "mine bits") (by decide) (by k_extra "mine bits") ?_; intro r' t' tk' hr' hb'))
  k_with "m binaryOp Pow int int" => (((first
  | with_reducible refine my_pow2 (by k_extra "mine bits") (by decide) ?_
  | with_reducible refine my_pow3 (by k_extra "mine bits") (by decide) ?_
  | with_reducible refine my_pow4 (by k_extra "mine bits") (by decide) ?_); intro t' tk'))
  k_with "m binaryOp Mult int int" => ((with_reducible refine my_mul (by k_extra "mine bits") (by k_extra "mine bits") (by decide) ?_; intro t' tk'))
  k_with "m subscriptTail" => ((k_here; (with_reducible show wpAny _ _ (subscriptTail _ _ (Value.ref _) (Value.int 0 _)) _ _ _); (refine my_item0 (by k_asm) (by k_mem) ?_ (by with_unfolding_all rfl))))
  k_with "m subscriptTail" => ((k_here; (with_reducible show wpAny _ _ (subscriptTail _ _ (Value.ref _) (Value.int 1 _)) _ _ _); (refine my_item1 (by k_asm) (by k_mem) ?_ (by with_unfolding_all rfl))))
  k_with "m call builtin:len" => ((k_here; (with_reducible show wpAny _ _ (call (Value.builtin "len") [Value.ref _]) _ _ _); (refine my_len_ints (by k_asm) (by k_mem) (by with_reducible assumption) (by with_reducible assumption) ?_); intro t' tk'))
  k_with "m setItem ref int" => ((k_here; (with_reducible show wpAny _ _ (setItem (Value.ref _) (Value.int 1 _) _) _ _ _); (refine my_set1 (by k_asm) (by k_asm) (by k_mem) ?_); intro h' n' c' F' N' hm' hs' hk'; (try k_sweep)))
  k_with "m call builtin:pow" => ((k_here; (refine call_powP (by first | decide | omega) ?_); intro r' t' tk' hr' h0' h1'))
  k_with "mine mem" => (first
  | with_reducible assumption
  | with_reducible exact List.mem_cons_self
  | (with_reducible refine List.mem_cons_of_mem _ ?_; k_extra "mine mem")
  | (refine But.use (by with_reducible assumption) (by with_reducible assumption) ?_; k_extra "mine mem")
  | (refine Sub.use (by with_reducible assumption) tup_ne_list ?_; k_extra "mine mem")
  | (refine Sup.use (by with_reducible assumption) ?_; k_extra "mine mem"))
  trivial
local macro_rules | `(tactic| k_mem) => `(tactic| k_extra "mine mem")



theorem words_1 : True := by
  k_with "mine Bx" => (first | with_reducible assumption | exact Bx.mono' (by with_reducible assumption) (by k_extra "mine sup"))
  k_with "mine sup" => (first | with_reducible exact Sup.rfl | with_reducible assumption | (with_reducible refine Sup.cons ?_; k_extra "mine sup") | (refine Sup.trans ?_ (by with_reducible assumption); k_extra "mine sup"))
  k_with "mine sub" => (first | with_reducible exact Sub.rfl | with_reducible assumption | (with_reducible refine Sub.cons ?_; k_extra "mine sub") | (refine Sub.trans ?_ (by with_reducible assumption); k_extra "mine sub") | (refine Sub.trans ?_ (Sup.sub (by with_reducible assumption)); k_extra "mine sub"))
  k_with "m subscriptTail" => ((k_here; (with_reducible show wpAny _ _ (subscriptTail _ _ (Value.ref _) (Value.int 0 _)) _ _ _); (with_reducible refine t2_item0 (by with_reducible assumption) (by k_asm) (by k_asm) (by k_asm) (Sub.ts (by k_extra "mine sub")) ?_ (by with_unfolding_all rfl)); intro t'))
  k_with "m subscriptTail" => ((k_here; (with_reducible show wpAny _ _ (subscriptTail _ _ (Value.ref _) (Value.int 1 _)) _ _ _); (with_reducible refine t2_item1 (by with_reducible assumption) (by k_asm) (by k_asm) (by k_asm) (Sub.ts (by k_extra "mine sub")) ?_ (by with_unfolding_all rfl)); intro t'))
  k_with "mine T2" => (first | exact T2.mk rfl (by k_mem) | exact ⟨_, rfl, T2a.mono' (by with_reducible assumption) (Sub.ts (by k_extra "mine sub"))⟩)
  k_with "mine Pt" => (first | exact Pt.mono' (by with_reducible assumption) (Sub.ts (by k_extra "mine sub")) | (show T2 _ _ _ _; k_extra "mine T2") | exact rfl)
  k_with "mine T3" => (first | exact T3.mono' (by with_reducible assumption) (Sub.ts (by k_extra "mine sub")) | exact T3.mk' (by k_mem) | exact T3.mk rfl (by k_mem))
  k_with "mine ite" => (repeat (first | rw [if_pos (by first | with_reducible assumption | exact Eq.symm (by with_reducible assumption))] | rw [if_neg (by first | with_reducible assumption | exact Ne.symm (by with_reducible assumption))]))
  k_with "mine end3" => ((subst_vars; refine ⟨by k_extra "mine sup", ?_⟩; k_extra "tree"; (try dsimp only); k_extra "mine ite"; k_extra "mine T3"))
  k_with "mine val" => (first | rfl | (subst_vars; (try dsimp only at *); k_extra "mine ite"; first | done | rfl))
  k_with "mine use" => ((
  (case B => k_asm); (case F => k_asm); (case X => k_asm); (case N => k_asm); (case T => k_asm); (case hk => first | exact rfl | assumption)))
  k_with "mine rangeP" => (first | with_reducible assumption | exact True.intro | (exact lSum_R (by k_extra "mine rangeP") (by k_extra "mine rangeP")) | (exact lTimes_R _ (by k_extra "mine rangeP")))
  k_with "mine range" => (first | with_reducible assumption | exact jDouble_R _ | exact inR_000 | exact inR_001 | (exact jMul_R (by k_extra "mine range") _) | (exact jAdd_R (by k_extra "mine range") (by k_extra "mine range")))
  trivial
/-- the triple stands for the point -/
noncomputable def Stands (t : Tri) : Pnt → Prop
  | none => t = (0, 0, 0) ∨ t = (0, 0, 1)
  | some p => InR t ∧ InR2 p ∧ t.2.1 ≠ 0 ∧ t.2.2 ≠ 0 ∧ t.1 = p.1 * (t.2.2 * t.2.2 % pP) % pP ∧ t.2.1 = p.2 * (t.2.2 * t.2.2 % pP) * t.2.2 % pP
noncomputable def NoRoot : Prop := ∀ x : Int, (x * x * x + 7) % pP ≠ 0

noncomputable def OnC : Pnt → Prop
  | none => True
  | some p => InR2 p ∧ p.2 * p.2 % pP = (p.1 * p.1 * p.1 + 7) % pP
noncomputable def negP : Pnt → Pnt
  | none => none
  | some p => some (p.1, pP - p.2)
noncomputable def Good (t : Tri) (p : Pnt) : Prop := Stands t p ∧ OnC p
theorem Stands.inR {t : Tri} {p : Pnt} (h : Stands t p) : InR t := by
  cases p with
  | none => rcases h with rfl | rfl; exact inR_000; exact inR_001
  | some p => exact h.1
theorem OnC.inR {p : Pnt} (h : OnC p) : InRP p := by
  cases p with
  | none => trivial
  | some p => exact h.1
/-- what the law leans on -/
structure Maths : Prop where
  root : NoRoot
  inv : ∀ a n : Int, 2 ≤ n → 0 ≤ a → a ≠ 0 → Int.gcd a n = 1 → pyInv a n * a % n = 1
  dbl : ∀ {t p}, Good t p → Stands (jDouble t) (lSum p p)
  add : ∀ {t p u q}, Good t p → Good u q → Stands (jAdd t u) (lSum p q)
  sum : ∀ {p q}, OnC p → OnC q → OnC (lSum p q)
  mul : ∀ {t p} (n : Nat), Good t p → Stands (jMul t n) (lTimes p n)
  times : ∀ {p} (n : Nat), OnC p → OnC (lTimes p n)
  form : ∀ {p} {f z : Int}, OnC p → 0 < f → f < pP → (z = 0 ∨ z = 1) → Stands (formJ p f z) p
  neg : ∀ {t p u}, Good t p → Stands u (negP p) → Stands (jAdd u t) none
  negOn : ∀ {p}, OnC p → OnC (negP p)
  aff : ∀ {t p}, Good t p → fromJ t = pairP p
  pair : ∀ {p}, OnC p → Stands (toJ (pairP p)) p
noncomputable abbrev pair2 (tv pv : Value) (c : Nat) : Obj := { cls := .type "tuple", data := .seq #[tv, pv] c }
/-- an item of the list: a triple and its point -/
noncomputable def Item (w : World) (l : Led) (v : Value) : Prop := ∃ e c tv pv t p, v = .ref e ∧ (e, pair2 tv pv c) ∈ l ∧ T3 l tv t ∧ Pt w l pv p ∧ Good t p
theorem Item.mono {w l l' v} (hs : TS l l') (h : Item w l v) : Item w l' v :=
  let ⟨e, c, tv, pv, t, p, h1, h2, h3, h4, h5⟩ := h; ⟨e, c, tv, pv, t, p, h1, hs _ h2 rfl, h3.mono hs, h4.mono hs, h5⟩
noncomputable def There (w : World) (l : Led) (D : Addr) : Prop := ∃ (items : Array Value) (n : Nat), (D, W.listOf items n) ∈ l ∧ 0 < items.size ∧ items.size ≤ 20 ∧ ∀ k (h : k < items.size), Item w l items[k]
theorem There.mono {w l l' D} (hs : Keep l l') (h : There w l D) : There w l' D :=
  let ⟨items, n, h1, h2, h3, h4⟩ := h; ⟨items, n, hs _ h1 (.inr rfl), h2, h3, fun k hk => (h4 k hk).mono hs.ts⟩
section
variable {prog : Program} {w : World} {A : Around} {E : Value → Shared → Prop} {s : Shared} {h₀ : Heap} {L D : Addr} {news newsA : Led} {items : Array Value} {n : Nat} {k : Int} {u : Tok} {Q : Value → Shared → Prop} {value slice : PySem.Expr}
theorem my_len (N : News h₀ L s.heap news) (hm : (D, W.listOf items n) ∈ news) (hl : items.size ≤ 20) (h : ∀ t' tk', Q (.int items.size t') { s with toks := tk' }) :
    wpAny (model prog w) A (call (.builtin "len") [.ref D]) Q E s := len_list (N.isList hm) (by omega) (h _ _)
theorem my_there (hI : ∀ k (h : k < items.size), Item w newsA items[k]) (N : News h₀ L s.heap news) (hm : (D, W.listOf items n) ∈ news) (hs : TS newsA news) (h0 : 0 ≤ k) (h1 : k < items.size) (hl : items.size ≤ 20)
    (h : ∀ e c tv pv t p, (e, pair2 tv pv c) ∈ news → T3 news tv t → Pt w news pv p → Good t p → InR t → OnC p → InRP p → Q (.ref e) s)
    (hs' : subscripted slice false (.ref D) (.int k u) = operate [.ref D, .int k u] (getItem (.ref D) (.int k u)) := by with_unfolding_all rfl) :
    wpAny (model prog w) A (subscriptTail value slice (.ref D) (.int k u)) Q E s := by
  have hk : k.toNat < items.size := by omega
  obtain ⟨e, c, tv, pv, t, p, h1', h2, h3, h4, h5⟩ := (hI k.toNat hk).mono hs
  refine my_item N hm h0 (by omega) (v := .ref e) ?_ (h e c tv pv t p h2 h3 h4 h5 h5.1.inR h5.2 h5.2.inR) hs'
  rw [← h1']
  exact Array.getElem?_eq_getElem hk
end
theorem ct_double {w mean mg mb} {news : Led} {v : Value} {p : Tri} (hv : T3 news v p) (hp : InR p) :
    Ct w mean mg mb 39 2 20 news [v] (fun r news' => Sup news news' ∧ T3 news' r (jDouble p)) := by
  unfold Ct
  k_fill
  intro dp un gd cn cs ad ccd cl outer A₀ base h₀ L m s Q E B F X N T hk hd hu hret
  obtain ⟨a, t1, t2, t3, c, rfl, hm⟩ := hv
  obtain ⟨bx, bY, bz⟩ := hp.bits
  refine wpAny_call ?_
  k_dflt ktr_enter
  k_steps
  all_goals exact hret _ _ _ _ (by k_asm) (by k_asm) (by subst_vars; refine ⟨by k_extra "mine sup", ?_⟩; unfold jDouble; dsimp only; k_extra "mine ite"; k_extra "mine T3")
local macro_rules | `(tactic| walk_at "call ref") => `(tactic| k_extra "m call ref")

theorem words_2 : True := by
  k_with "m call ref" => ((k_here; k_dflt (
   (refine' Ct.use ?B ?F ?X ?N ?T ?hk (ct_double ?jv ?jp) ?jd ?ju ?_);
   (case B => k_asm); (case F => k_asm); (case X => k_asm); (case N => k_asm); (case T => k_asm); (case hk => first | exact rfl | assumption);
   (case jv => k_extra "mine T3"); (case jp => k_extra "mine range");
   (case jd => ktr_room); (case ju => ktr_units); intro v' n' h' tk' F' N' hP'; obtain ⟨hs', a', t1', t2', t3', c', hv', hm'⟩ := hP'; subst hv'; (try k_sweep); (try dsimp only); (try k_fold))))
  trivial
theorem ct_add {w mean mg mb} {news : Led} {v u : Value} {p q : Tri} (hv : T3 news v p) (hu : T3 news u q) (hp : InR p) (hq : InR q) :
    Ct w mean mg mb 46 3 40 news [v, u] (fun r news' => Sup news news' ∧ T3 news' r (jAdd p q)) := by
  unfold Ct
  k_fill
  intro dp un gd cn cs ad ccd cl outer A₀ base h₀ L m s Q E B F X N T hk hd hun hret
  obtain ⟨a, t1, t2, t3, c, rfl, hm⟩ := hv
  obtain ⟨b, s1, s2, s3, d, rfl, hn⟩ := hu
  obtain ⟨bx, bY, bz⟩ := hp.bits
  obtain ⟨cx, cY, cz⟩ := hq.bits
  refine wpAny_call ?_
  k_dflt ktr_enter
  k_steps
  all_goals exact hret _ _ _ _ (by k_asm) (by k_asm) (by subst_vars; refine ⟨by k_extra "mine sup", ?_⟩; unfold jAdd; dsimp only; k_extra "mine ite"; k_extra "mine T3")

open Builtin.Int (intBits) in
noncomputable abbrev InvI (a n lm low hm high : Int) : Prop := 0 ≤ low ∧ low < high ∧ high ≤ n ∧ lm.natAbs * high.natAbs + hm.natAbs * low.natAbs ≤ n.natAbs ∧ invLoop lm low hm high = invLoop 1 (a % n) 0 n ∧
  intBits lm ≤ 256 ∧ intBits low ≤ 256 ∧ intBits hm ≤ 257 ∧ intBits high ≤ 256
theorem bits_natAbs {x : Int} {n : Int} (h : x.natAbs ≤ n.natAbs) (hn : Builtin.Int.intBits n ≤ 256) : Builtin.Int.intBits x ≤ 256 := intBits_le_of_natAbs h hn
theorem bits_le_P {n : Int} (h0 : 0 ≤ n) (h1 : n ≤ pP) : Builtin.Int.intBits n ≤ 256 := intBits_le_iff.mpr (by
  have : (2 : Nat) ^ 256 = 115792089237316195423570985008687907853269984665640564039457584007913129639936 := by decide
  rw [this]; unfold pP at h1; omega)
theorem inv_start {a n : Int} (hn : 2 ≤ n) (hn' : n ≤ pP) : InvI a n 1 (a % n) 0 n := by
  have h1 := Int.emod_nonneg a (show n ≠ 0 by omega)
  have h2 := Int.emod_lt_of_pos a (show 0 < n by omega)
  exact ⟨h1, h2, Int.le_refl _, by simp, rfl, by decide, bits_le_P h1 (by omega), by decide, bits_le_P (by omega) hn'⟩
theorem inv_mod {high low r : Int} (hr : r = high / low) : high - low * r = high % low := by
  have := Int.emod_add_mul_ediv high low
  rw [hr]; omega
theorem inv_step {a n lm low hm high r : Int} (hn : 2 ≤ n) (hn' : n ≤ pP) (h1 : 0 ≤ low) (h2 : low < high) (h3 : high ≤ n) (h4 : lm.natAbs * high.natAbs + hm.natAbs * low.natAbs ≤ n.natAbs) (h5 : invLoop lm low hm high = invLoop 1 (a % n) 0 n)
    (hl : 1 < low) (hr : r = high / low) : InvI a n (hm - lm * r) (high - low * r) lm low := by
  have e := inv_mod hr
  have m1 := Int.emod_nonneg high (show low ≠ 0 by omega)
  have m2 := Int.emod_lt_of_pos high (show 0 < low by omega)
  have r0 : 0 ≤ r := by rw [hr]; exact Int.ediv_nonneg (by omega) (by omega)
  have key : (hm - lm * r).natAbs * low.natAbs + lm.natAbs * (high - low * r).natAbs ≤ n.natAbs := by
    have a1 : (hm - lm * r).natAbs ≤ hm.natAbs + lm.natAbs * r.natAbs := by
      rw [← Int.natAbs_mul]; omega
    have a2 : high.natAbs = (high - low * r).natAbs + low.natAbs * r.natAbs := by
      rw [← Int.natAbs_mul]
      have : 0 ≤ low * r := Int.mul_nonneg h1 r0
      omega
    calc (hm - lm * r).natAbs * low.natAbs + lm.natAbs * (high - low * r).natAbs
        ≤ (hm.natAbs + lm.natAbs * r.natAbs) * low.natAbs + lm.natAbs * (high - low * r).natAbs := Nat.add_le_add_right (Nat.mul_le_mul_right _ a1) _
      _ = lm.natAbs * ((high - low * r).natAbs + low.natAbs * r.natAbs) + hm.natAbs * low.natAbs := by
        rw [Nat.add_mul, Nat.mul_add, Nat.mul_assoc, Nat.mul_comm r.natAbs low.natAbs]; omega
      _ = lm.natAbs * high.natAbs + hm.natAbs * low.natAbs := by rw [← a2]
      _ ≤ n.natAbs := h4
  have bn := bits_le_P (show 0 ≤ n by omega) hn'
  have p1 : (hm - lm * r).natAbs ≤ n.natAbs := by
    have : (hm - lm * r).natAbs * 1 ≤ (hm - lm * r).natAbs * low.natAbs := Nat.mul_le_mul_left _ (by omega)
    omega
  have p2 : lm.natAbs ≤ n.natAbs := by
    have : lm.natAbs * 1 ≤ lm.natAbs * high.natAbs := Nat.mul_le_mul_left _ (by omega)
    omega
  refine ⟨by omega, by omega, by omega, key, ?_, bits_natAbs p1 bn, bits_le_P (by omega) (by omega), Nat.le_trans (bits_natAbs p2 bn) (by decide), bits_le_P (by omega) (by omega)⟩
  rw [← h5]
  conv => rhs; unfold invLoop
  rw [if_pos hl, ← hr]
theorem inv_meas {low high r : Int} (hl : 1 < low) (hr : r = high / low) : (high - low * r).toNat < low.toNat := by
  have e := inv_mod hr
  have m2 := Int.emod_lt_of_pos high (show 0 < low by omega)
  have m1 := Int.emod_nonneg high (show low ≠ 0 by omega)
  omega
theorem inv_end {a n lm low hm high r : Int} (h5 : invLoop lm low hm high = invLoop 1 (a % n) 0 n) (hl : ¬ 1 < low) (ha : a ≠ 0) (hr : r = lm % n) : pyInv a n = r := by
  unfold pyInv
  rw [if_neg ha, ← h5, hr]
  unfold invLoop
  rw [if_neg hl]

theorem ct_inv {w mean mg mb} {news : Led} (a n : Int) (ta tn : Tok) (hn : 2 ≤ n) (hn' : n ≤ pP) :
    Ct w mean mg mb 25 2 20 news [.int a ta, .int n tn] (fun v news' => Sup news news' ∧ ∃ t, v = .int (pyInv a n) t) := by
  unfold Ct
  k_fill
  intro dp un gd cn cs ad ccd cl outer A₀ base h₀ L m s Q E B F X N T hk hd hu hret
  refine wpAny_call ?_
  k_dflt ktr_enter
  k_with "state" => first | exact inv_start (by assumption) (by assumption) | exact inv_step (by assumption) (by assumption) (by assumption) (by assumption) (by assumption) (by assumption) (by assumption) (by omega) (by assumption) | (subst_vars; exact inv_start (by assumption) (by assumption))
  k_with "measure" => exact inv_meas (by omega) (by assumption)
  k_with "exec While Compare cons nil" => k_while (fun (_ : List Int) lm low hm high => InvI a n lm low hm high) (fun _ lm low hm high => low.toNat) "lm" "low" "hm" "high"
  k_steps
  · exact hret _ _ _ _ (by k_asm) (by k_asm) ⟨by k_extra "mine sup", _, int_eq (by unfold pyInv; exact if_pos (by assumption))⟩
  · exact hret _ _ _ _ (by k_asm) (by k_asm) ⟨by k_extra "mine sup", _, int_eq (inv_end (by assumption) (by omega) (by assumption) (by assumption))⟩



theorem ct_take {w mean mg mb} {news : Led} {B S : Addr} {ns : List Int} {i : Int} (many : Int) (tm : Tok) (hb : Bx news B S ns i) (hm : 0 < many) :
    Ct w mean mg mb 89 4 40 news [.ref B, .int many tm] (fun r news' => ∃ x i' t, r = .int x t ∧ 0 ≤ x ∧ x < many ∧ Bx news' B S ns i' ∧ Sub news news' ∧ But B news news') := by
  unfold Ct
  k_fill
  intro dp un gd cn cs ad ccd cl outer A₀ base h₀ L m s Q E BB F X N T hk hd hun hret
  have hb0 := hb
  obtain ⟨vs, cb, cs', ti, hi, hB, hS, hne, h0, h1, hl⟩ := hb0
  refine wpAny_call ?_
  k_dflt ktr_enter
  k_steps
  · exact hret _ _ _ _ (by k_asm) (by k_asm) ⟨0, i, _, rfl, by decide, hm, hb, Sub.rfl, fun _ h _ => h⟩
  ·
    exact hret _ _ _ _ (by k_asm) (by k_asm) ⟨_, i + 1, _, rfl, by with_reducible assumption, by with_reducible assumption, ⟨vs, _, _, _, hi, by with_reducible assumption, But.use (by with_reducible assumption) hne.symm hS, hne, by omega, by omega, hl⟩, by with_reducible assumption, by with_reducible assumption⟩



theorem reads_tri {h : Heap} {a : Addr} {x y z : Int} {t1 t2 t3 : Tok} {c : Nat} (ho : h.get? a = some (tup3 x y z t1 t2 t3 c)) : Reads h (.ref a) (.tuple [.int x, .int y, .int z]) [] :=
  reads_tuple_at ho rfl rfl (ReadsAll.cons (.int _ _) (ReadsAll.cons (.int _ _) (ReadsAll.cons (.int _ _) .nil)))
theorem isId_val (x y z : Int) : ([PyData.tuple [.int 0, .int 0, .int 0], .tuple [.int 0, .int 0, .int 1]].any fun u => PyData.eqv u (.tuple [.int x, .int y, .int z])) = decide ((x, y, z) = ((0, 0, 0) : Tri) ∨ (x, y, z) = ((0, 0, 1) : Tri)) := by
  simp only [List.any_cons, List.any_nil, PyData.eqv, PyData.eqvAll, Bool.or_false, Bool.and_true]
  by_cases hx : x = 0 <;> by_cases hy : y = 0 <;> by_cases hz : z = 0 <;> by_cases hz1 : z = 1 <;> simp [hx, hy, hz, hz1] <;> first | omega | (intro; omega) | skip
theorem ids_depth (d : PyData) (u : Nat) (hu : u + 65 < cLine) : u + 1 + min (PyData.depthAll [PyData.tuple [.int 0, .int 0, .int 0], .tuple [.int 0, .int 0, .int 1]]) d.depth < cLine := by
  have h1 : min (PyData.depthAll [PyData.tuple [.int 0, .int 0, .int 0], .tuple [.int 0, .int 0, .int 1]]) d.depth ≤ PyData.depthAll [PyData.tuple [.int 0, .int 0, .int 0], .tuple [.int 0, .int 0, .int 1]] := Nat.min_le_left _ _
  have h2 : PyData.depthAll [PyData.tuple [.int 0, .int 0, .int 0], .tuple [.int 0, .int 0, .int 1]] ≤ 8 := by decide
  omega
theorem in_ids {w : World} {A : Around} {prog : Program} {s : Shared} {c : Value} {a : Addr} {x y z : Int} {t1 t2 t3 : Tok} {n : Nat} {as : List Addr} {Q E : Value → Shared → Prop} (ho : s.heap.get? a = some (tup3 x y z t1 t2 t3 n))
    (rc : Reads s.heap c (.tuple [.tuple [.int 0, .int 0, .int 0], .tuple [.int 0, .int 0, .int 1]]) as) (hu : A.units + 65 < cLine)
    (h : Q (.bool (decide ((x, y, z) = ((0, 0, 0) : Tri) ∨ (x, y, z) = ((0, 0, 1) : Tri)))) s) : wpAny (model prog w) A (compareOp .In (.ref a) c) Q E s :=
  PySem.SeqAt.in_tuple_reads rc (reads_tri ho) (by decide) (by rfl) (ids_depth _ _ hu) (by rw [isId_val]; exact h)
local macro_rules | `(tactic| walk_at "compareOp In") => `(tactic| k_extra "m compareOp In")
theorem words_3 : True := by
  k_with "m compareOp In" => ((k_here; (with_reducible show wpAny _ _ (compareOp CmpOp.In (Value.ref _) (Value.ref 18)) _ _ _); k_dflt (
  (refine in_ids (News.get (by k_asm) (by k_mem)) (reads_tuple_at (Fr.keep (by k_asm) _ _ ((by assumption : Frag.In _ _) _ _ (by k_is))) rfl rfl (ReadsAll.cons (reads_tuple_at (Fr.keep (by k_asm) _ _ ((by assumption : Frag.In _ _) _ _ (by k_is))) rfl rfl (ReadsAll.cons (.int _ _) (ReadsAll.cons (.int _ _) (ReadsAll.cons (.int _ _) .nil)))) (ReadsAll.cons (reads_tuple_at (Fr.keep (by k_asm) _ _ ((by assumption : Frag.In _ _) _ _ (by k_is))) rfl rfl (ReadsAll.cons (.int _ _) (ReadsAll.cons (.int _ _) (ReadsAll.cons (.int _ _) .nil)))) .nil))) (by ktr_units) ?_))))
  trivial
theorem ct_isId {w mean mg mb} {news : Led} {v : Value} {p : Tri} (hv : T3 news v p) :
    Ct w mean mg mb 81 4 90 news [v] (fun r news' => Sup news news' ∧ r = .bool (decide (p = (0, 0, 0) ∨ p = (0, 0, 1)))) := by
  unfold Ct
  k_fill
  intro dp un gd cn cs ad ccd cl outer A₀ base h₀ L m s Q E B F X N T hk hd hun hret
  obtain ⟨a, t1, t2, t3, c, rfl, hm⟩ := hv
  refine wpAny_call ?_
  k_dflt ktr_enter
  k_steps
  all_goals exact hret _ _ _ _ (by k_asm) (by k_asm) ⟨by k_extra "mine sup", rfl⟩



theorem ct_sum {w mean mg mb} {news : Led} {v u : Value} {p q : Pnt} (hv : Pt w news v p) (hu : Pt w news u q) (hp : InRP p) (hq : InRP q) :
    Ct w mean mg mb 96 2 40 news [v, u] (fun r news' => Sup news news' ∧ Pt w news' r (lSum p q)) := by
  unfold Ct
  k_fill
  intro dp un gd cn cs ad ccd cl outer A₀ base h₀ L m s Q E B F X N T hk hd hun hret
  cases p with
  | none =>
    have hv' : v = .none := hv
    subst hv'
    refine wpAny_call ?_
    k_dflt ktr_enter
    k_steps
    all_goals exact hret _ _ _ _ (by k_asm) (by k_asm) ⟨by k_extra "mine sup", by unfold lSum; exact hu⟩
  | some p =>
    cases q with
    | none =>
      have hu' : u = .none := hu
      subst hu'
      obtain ⟨a, rfl, ha⟩ := hv
      refine wpAny_call ?_
      k_dflt ktr_enter
      k_steps
      all_goals exact hret _ _ _ _ (by k_asm) (by k_asm) ⟨by k_extra "mine sup", by unfold lSum; exact ⟨_, rfl, by assumption⟩⟩
    | some q =>
      obtain ⟨a, rfl, ha⟩ := hv
      obtain ⟨b, rfl, hb⟩ := hu
      obtain ⟨bx, bY⟩ := (show InR2 p from hp).bits
      obtain ⟨cx, cY⟩ := (show InR2 q from hq).bits
      refine wpAny_call ?_
      k_dflt ktr_enter
      k_steps
      · exact hret _ _ _ _ (by k_asm) (by k_asm) (by subst_vars; exact ⟨by k_extra "mine sup", by unfold lSum; dsimp only; k_extra "mine ite"; exact rfl⟩)
      all_goals exact hret _ _ _ _ (by k_asm) (by k_asm) (by subst_vars; exact ⟨by k_extra "mine sup", by unfold lSum pInv; dsimp only; k_extra "mine ite"; k_extra "mine Pt"⟩)



theorem ct_form {w mean mg mb} {news : Led} {v : Value} {p : Pnt} {f z : Int} (tf tz : Tok) (hv : Pt w news v p) (hp : InRP p) (hf : 0 ≤ f ∧ f < pP) :
    Ct w mean mg mb 117 2 20 news [v, .int f tf, .int z tz] (fun r news' => Sup news news' ∧ T3 news' r (formJ p f z)) := by
  unfold Ct
  k_fill
  intro dp un gd cn cs ad ccd cl outer A₀ base h₀ L m s Q E B F X N T hk hd hun hret
  have bf := bits_of_R hf
  cases p with
  | none =>
    have hv' : v = .none := hv
    subst hv'
    refine wpAny_call ?_
    k_dflt ktr_enter
    k_steps
    all_goals exact hret _ _ _ _ (by k_asm) (by k_asm) ⟨by k_extra "mine sup", by unfold formJ; k_extra "mine T3"⟩
  | some p =>
    obtain ⟨a, rfl, ha⟩ := hv
    obtain ⟨bx, bY⟩ := (show InR2 p from hp).bits
    refine wpAny_call ?_
    k_dflt ktr_enter
    k_steps
    all_goals exact hret _ _ _ _ (by k_asm) (by k_asm) (by subst_vars; exact ⟨by k_extra "mine sup", by unfold formJ; k_extra "mine T3"⟩)

theorem ct_pair {w mean mg mb} {news : Led} {v : Value} {p : Pnt} (hv : Pt w news v p) :
    Ct w mean mg mb 129 2 20 news [v] (fun r news' => Sup news news' ∧ T2 w news' r (pairP p)) := by
  unfold Ct
  k_fill
  intro dp un gd cn cs ad ccd cl outer A₀ base h₀ L m s Q E B F X N T hk hd hun hret
  cases p with
  | none =>
    have hv' : v = .none := hv
    subst hv'
    refine wpAny_call ?_
    k_dflt ktr_enter
    k_steps
    all_goals exact hret _ _ _ _ (by k_asm) (by k_asm) ⟨by k_extra "mine sup", by unfold pairP; k_extra "mine T2"⟩
  | some p =>
    obtain ⟨a, rfl, ha⟩ := hv
    refine wpAny_call ?_
    k_dflt ktr_enter
    k_steps
    all_goals exact hret _ _ _ _ (by k_asm) (by k_asm) ⟨by k_extra "mine sup", by unfold pairP; k_extra "mine T2"⟩



section
variable {prog : Program} {w : World} {A : Around} {E : Value → Shared → Prop} {s : Shared} {h₀ : Heap} {L : Addr} {m : Str → Option Value} {env : Env}
open LCg
theorem tuple_st {ax I : Addr} {its : Array Value} {o₀ : Obj} (hc : o₀.cls = .type "tuple") {n : Nat} (hd : o₀.data = .seq its n) : ∀ i (h h' : Heap) (o : Obj) (nw : List (Addr × Obj)), (h.IsTupleIter I ax i ∧ h.IsTuple ax its) → h.get? I = some o → h'.get? I = some o → (∀ b o, h₀.get? b = some o → h'.get? b = some o) → News h₀ L h' nw → (ax, o₀) ∈ nw → (h'.IsTupleIter I ax i ∧ h'.IsTuple ax its) :=
  fun i h h' o nw st e e' k N S => ⟨by obtain ⟨o', q, r⟩ := st.1; rw [e] at q; cases q; exact ⟨o, e', r⟩, ⟨o₀, N.get S, hc, n, hd⟩⟩
theorem ListComp_T {elt iter : PySem.Expr} {x : Str} {px : Pos} {scope : Scope} {cl : List (Str × Addr)} {pos : Pos} {Q : Value → Shared → Prop} (F₀ : Fr h₀ L s.heap m)
    (hclos : closureFor scope env = pure cl) (hcell : ∀ y ∈ scope.names, y.2 ≠ .cell) (hkind : scope.kind = .function)
    (hnames : ∀ y ∈ scope.names, y.2 = .local → scope.names.lookup y.1 = some .local) (hx : scope.names.lookup x = some .local)
    (h : wpAny (model prog w) A (eval iter env) (fun xv s₁ => ∃ (ax : Addr) (o₀ : Obj) (its : Array Value) (n : Nat) (news : List (Addr × Obj)), xv = .ref ax ∧ A.handled = none ∧ Fr h₀ L s₁.heap m ∧ News h₀ L s₁.heap news ∧ (ax, o₀) ∈ news ∧ o₀.cls = .type "tuple" ∧ o₀.data = .seq its n ∧ its.size ≤ sizeLine ∧
      ∀ g : Heap, CompRest prog w A h₀ L m env elt x scope cl { s₁ with heap := g } (fun nw => (ax, o₀) ∈ nw) (fun i v => its[i]? = some v) (FinE h₀ L m { s₁ with heap := g } Q) its.size 0 [] news) E s)
    (hs : ∀ x, foldedSetIterable iter env x = pure x := by intro _; rfl) :
    wpAny (model prog w) A (eval (.ListComp elt [⟨.Name x px, iter, [], 0⟩] scope pos) env) Q E s := by
  rw [eval_ListComp]
  refine wpAny_comprehension_free (use := none) rfl hs hclos hkind hnames (wpAny_mono h (fun xv s₁ h₁ => ?_) fun _ _ e => e)
  obtain ⟨ax, o₀, its, n, news, rfl, hh, F, N, S, hc, hd, hsz, R⟩ := h₁
  have hl : s₁.heap.IsTuple ax its := ⟨o₀, N.get S, hc, n, hd⟩
  have hlt : ax < s₁.heap.objs.size := by obtain ⟨_, e, _⟩ := hl; exact Heap.lt_size e
  refine wpAny_pyIter_tuple hl ?_
  have up : ∀ b o, s₁.heap.get? b = some o → (s₁.heap.push { cls := .type "tuple_iterator", data := .fields #[.ref ax, .int 0 0] }).get? b = some o := fun b o e => Heap.get?_push_of_some _ e
  refine block_U (Walks.tuple hh s₁.heap.objs.size ax (Nat.ne_of_lt hlt) its) hsz (fun i h st => by obtain ⟨o, e, _⟩ := st.1; exact ⟨o, e⟩) (tuple_st hc hd) hcell hkind hx ⟨⟨_, Heap.get?_push_size _ rfl, rfl, rfl⟩, hl.at (up ax)⟩ (fun b hb => ?_)
      (F.keeps up) (N.grown up) (Nat.ne_of_lt F.ns.lt) (next_is_new F) (fun p hp => Nat.ne_of_lt (Heap.lt_size (N p hp).1)) S (R _) ?_
  · show b < (s₁.heap.push _).objs.size
    rw [Heap.size_push]
    rcases List.mem_cons.mp hb with rfl | hb
    · exact Nat.lt_succ_self _
    · rw [List.mem_singleton.mp hb]; exact Nat.lt_succ_of_lt hlt
  · intro D C h tk m' ys news' F' N' o1 hn hC₀ hD₀ hCL hDL hCD offC fin
    refine ⟨m', hn, fun h'' hs'' => fin D h'' tk (F'.change hs'' hCL hC₀) (fun p hp => ?_) o1⟩
    refine ⟨hs''.extBut _ _ ?_ (N' p hp).1, (N' p hp).2⟩
    rcases List.mem_cons.mp hp with rfl | hp
    · exact Ne.symm hCD
    · exact offC p hp
theorem ListComp_T3 {elt iter : PySem.Expr} {x : Str} {px : Pos} {scope : Scope} {cl : List (Str × Addr)} {pos : Pos} {Q : Value → Shared → Prop} (F₀ : Fr h₀ L s.heap m)
    (hclos : closureFor scope env = pure cl) (hcell : ∀ y ∈ scope.names, y.2 ≠ .cell) (hkind : scope.kind = .function)
    (hnames : ∀ y ∈ scope.names, y.2 = .local → scope.names.lookup y.1 = some .local) (hx : scope.names.lookup x = some .local)
    (h : wpAny (model prog w) A (eval iter env) (fun xv s₁ => ∃ (ax : Addr) (a b c : Value) (n : Nat) (news : List (Addr × Obj)), xv = .ref ax ∧ A.handled = none ∧ Fr h₀ L s₁.heap m ∧ News h₀ L s₁.heap news ∧ (ax, ({ cls := .type "tuple", data := .seq #[a, b, c] n } : Obj)) ∈ news ∧
      ∀ (g : Heap) (S : List (Addr × Obj) → Prop), (S = fun nw => (ax, ({ cls := .type "tuple", data := .seq #[a, b, c] n } : Obj)) ∈ nw) → CompRest prog w A h₀ L m env elt x scope cl { s₁ with heap := g } S (fun i v => (#[a, b, c] : Array Value)[i]? = some v) (FinE h₀ L m { s₁ with heap := g } Q) 3 0 [] news) E s)
    (hs : ∀ x, foldedSetIterable iter env x = pure x := by intro _; rfl) :
    wpAny (model prog w) A (eval (.ListComp elt [⟨.Name x px, iter, [], 0⟩] scope pos) env) Q E s :=
  ListComp_T F₀ hclos hcell hkind hnames hx (wpAny_mono h (fun xv s₁ ⟨ax, a, b, c, n, news, e1, hh, F, N, hm, r⟩ => ⟨ax, _, #[a, b, c], n, news, e1, hh, F, N, hm, rfl, rfl, (by show 3 ≤ sizeLine; decide), fun g => r g _ rfl⟩) fun _ _ e => e) hs
end
section
variable {prog : Program} {w : World} {A : Around} {E : Value → Shared → Prop} {s : Shared}
theorem sliceApplied_to2 {sl : Addr} {u : Tok} {Q : Int × Int × Nat → Shared → Prop} (hs : s.heap.IsSliceOf sl .none (.int 2 u) .none) (h : Q ((0 : Int), 1, 2) s) :
    wpAny (model prog w) A (Builtin.Slice.sliceApplied (.ref sl) (pure (3 : Int))) Q E s := by
  obtain ⟨os, hos, hcs, hds⟩ := id hs
  unfold Builtin.Slice.sliceApplied Builtin.Slice.sliceFields
  refine wpAny_bind (wpAny_bind (wpAny_field hos hds (x := .none) rfl (wpAny_bind (wpAny_field hos hds (x := .int 2 u) rfl (wpAny_bind (wpAny_field hos hds (x := .none) rfl (wpAny_pure ?_)))))))
  refine wpAny_bind (slicePart_none ?_)
  show wpAny _ _ (if ((1 : Int) == 0) = true then _ else _) _ _ s
  rw [if_neg (by decide)]
  refine wpAny_bind (slicePart_none (wpAny_bind (slicePart_int (wpAny_bind (wpAny_pure ?_)))))
  show wpAny _ _ (match Builtin.Slice.sliceAdjust none (some (2 : Int)) 1 (3 : Int) with | (lo, hi) => pure (lo, (1 : Int), Builtin.Slice.slicePlaces lo hi 1)) _ _ s
  rw [show Builtin.Slice.sliceAdjust none (some (2 : Int)) 1 (3 : Int) = (0, 2) from by decide]
  show wpAny _ _ (pure ((0 : Int), (1 : Int), Builtin.Slice.slicePlaces (0 : Int) (2 : Int) 1)) _ _ s
  rw [show Builtin.Slice.slicePlaces (0 : Int) (2 : Int) 1 = 2 from by decide]
  exact wpAny_pure h
theorem getItem_tuple_to2 {t sl : Addr} {a b c : Value} {u : Tok} {Q : Value → Shared → Prop} (ht : IsTup s.heap t #[a, b, c]) (hs : s.heap.IsSliceOf sl .none (.int 2 u) .none)
    (h : Q (.ref s.heap.objs.size) { s with heap := s.heap.push { cls := .type "tuple", data := .seq #[a, b] } }) : wpAny (model prog w) A (getItem (.ref t) (.ref sl)) Q E s := by
  have hdrop : sizeOk (.seq #[a, b]) := by
    show (2 : Nat) ≤ sizeLine
    decide
  obtain ⟨os, hos, hcs, hds⟩ := id hs
  have hTs : s.TypeIs (.ref sl) "slice" := ⟨os, hos, hcs⟩
  unfold getItem
  try with_reducible refine wpAny_holding ?_
  first | refine wpAny_bind (wpAny_pure ?_) | skip
  refine wpAny_bind (wpAny_sequenceKey ht.typeIs (by decide) ?_)
  refine wpAny_bind (wpAny_callSpecial?_slot (name := Str.ofString "__getitem__") ht.typeIs slot_tuple_getitem
    (wpAny_call_entry slot_tuple_getitem ht.typeIs entry_tuple_getitem ?_ (args_tuple_getitem _ _)))
  show wpAny _ _ (Builtin.Tuple.tupleItemsOf (.ref t) >>= _) _ _ s
  refine wpAny_bind (tupleItemsOf_ ht ?_)
  refine wpAny_bind (wpAny_typeOf hTs ?_)
  rw [if_pos (by decide)]
  refine wpAny_bind (sliceApplied_to2 hs ?_)
  show wpAny _ _ (if ((0 : Int) == 0 && (1 : Int) == 1 && ((2 : Nat) == 3)) = true then _ else _) _ _ s
  rw [if_neg (by decide)]
  show wpAny _ _ (Builtin.Tuple.tupleExact #[a, b] >>= _) _ _ s
  first
    | exact wpAny_bind (m := Builtin.Tuple.tupleExact _) (wpAny_newObj_type (wpAny_pure ⟨_, rfl, wpAny_pure h⟩) hdrop)
    | exact wpAny_bind (m := Builtin.Tuple.tupleExact _) (wpAny_newObj_type (wpAny_bind (wpAny_pure (wpAny_pure ⟨_, rfl, wpAny_pure h⟩))) hdrop)
    | exact wpAny_bind (wpAny_bind (m := Builtin.Tuple.tupleExact _) (wpAny_newObj_type (wpAny_pure (wpAny_pure ⟨_, rfl, wpAny_pure h⟩)) hdrop))
    | exact wpAny_bind (wpAny_bind (m := Builtin.Tuple.tupleExact _) (wpAny_newObj_type (wpAny_pure ⟨_, rfl, wpAny_pure h⟩) hdrop))
theorem slice_tup2 {h₀ h : Heap} {L : Addr} {m : Str → Option Value} {news : Led} {value slice : PySem.Expr} {t : Addr} {a b c : Value} {u : Tok} {n : Nat} {Q : Value → Shared → Prop}
    (F : Fr h₀ L h m) (N : News h₀ L h news) (ht : (t, ({ cls := .type "tuple", data := .seq #[a, b, c] n } : Obj)) ∈ news)
    (hq : ∀ D h', Fr h₀ L h' m → News h₀ L h' ((D, { cls := .type "tuple", data := .seq #[a, b] }) :: news) → Q (.ref D) { s with heap := h' })
    (hs : subscripted slice false (.ref t) (.ref h.objs.size) = operate [.ref h.objs.size, .ref t] (getItem (.ref t) (.ref h.objs.size)) := by with_unfolding_all rfl)
    (hg : ∀ r, letTemporaryGo value (.ref t) r = pure () := by intro _; with_unfolding_all rfl) :
    wpAny (model prog w) A (subscriptTail value slice (.ref t) (.ref h.objs.size)) Q E { s with heap := h.push { cls := .type "slice", data := .fields #[.none, .int 2 u, .none] } } := by
  have ht' : IsTup (h.push { cls := .type "slice", data := .fields #[.none, .int 2 u, .none] }) t #[a, b, c] := (News.isTup N ht).keeps fun _ _ e => Heap.get?_push_of_some _ e
  refine subscriptTail_ops (s := { s with heap := h.push { cls := .type "slice", data := .fields #[.none, .int 2 u, .none] } }) ht'.typeIs slot_tuple_getitem.lookup
    (getItem_tuple_to2 ht' (Heap.IsSliceOf.new ..) ?_) hs hg
  have N1 := News.push (F.push { cls := .type "slice", data := .fields #[.none, .int 2 u, .none] }) (N.grown fun _ _ e => Heap.get?_push_of_some _ e) { cls := .type "tuple", data := .seq #[a, b] }
  exact hq _ _ ((F.push _).push _) N1
end



theorem gcd_step {a b g : Int} (ha : 0 ≤ a) (hb : 0 < b) (h : (Int.gcd a b : Int) = g) : (Int.gcd b (a % b) : Int) = g := by
  rw [← h]
  obtain ⟨x, rfl⟩ := Int.eq_ofNat_of_zero_le ha
  obtain ⟨y, rfl⟩ := Int.eq_ofNat_of_zero_le (Int.le_of_lt hb)
  congr 1
  show Nat.gcd y ((x : Int) % (y : Int)).natAbs = Nat.gcd x y
  rw [show ((x : Int) % (y : Int)).natAbs = x % y by omega, Nat.gcd_comm x y, Nat.gcd_rec y x, Nat.gcd_comm]
theorem gcd_end {a b g : Int} (h : (Int.gcd a b : Int) = g) (ha : 0 ≤ a) (hb : 0 ≤ b) (hb' : ¬ 0 < b) : a = g := by
  rw [← h, show b = 0 by omega, Int.gcd_zero_right]; omega
theorem ct_common {w mean mg mb} {news : Led} (a b : Int) (ta tb : Tok) (ha : 0 ≤ a) (hb : 0 ≤ b) :
    Ct w mean mg mb 150 2 20 news [.int a ta, .int b tb] (fun v news' => Sup news news' ∧ ∃ t, v = .int (Int.gcd a b) t) := by
  unfold Ct
  k_fill
  intro dp un gd cn cs ad ccd cl outer A₀ base h₀ L m s Q E B F X N T hk hd hu hret
  refine wpAny_call ?_
  k_dflt ktr_enter
  k_with "state" => first | (refine And.intro (by omega) (And.intro (by omega) ?_); first | exact gcd_step (by omega) (by omega) (by assumption) | (subst_vars; exact gcd_step (by omega) (by omega) (by assumption)) | rfl) | omega
  k_with "measure" => omega
  k_with "exec While Compare cons nil" => k_while (fun (_ : List Int) x y => 0 ≤ x ∧ 0 ≤ y ∧ (Int.gcd x y : Int) = (Int.gcd a b : Int)) (fun _ x y => y.toNat) "a" "b"
  k_steps
  all_goals exact hret _ _ _ _ (by k_asm) (by k_asm) ⟨by k_extra "mine sup", _, int_eq (gcd_end (by with_reducible assumption) (by with_reducible assumption) (by with_reducible assumption) (by omega)).symm⟩



theorem words_4 : True := by
  k_with "m call ref" => ((k_here; k_dflt (
   (refine' Ct.use ?B ?F ?X ?N ?T ?hk (ct_add ?jv ?ju ?jp ?jq) ?jd ?jn ?_);
   (case B => k_asm); (case F => k_asm); (case X => k_asm); (case N => k_asm); (case T => k_asm); (case hk => first | exact rfl | assumption);
   (case jv => k_extra "mine T3"); (case ju => k_extra "mine T3"); (case jp => k_extra "mine range"); (case jq => k_extra "mine range");
   (case jd => ktr_room); (case jn => ktr_units); intro v' n' h' tk' F' N' hP'; obtain ⟨hs', a', t1', t2', t3', c', hv', hm'⟩ := hP'; subst hv'; (try k_sweep); (try dsimp only); (try k_fold))))
  k_with "m call ref" => (((with_reducible show wpAny _ _ (call (Value.ref 60) _) _ _ _); refine stop_here ?_))
  trivial
theorem jMul_even {p : Tri} {n r q : Int} (hy : p.2.1 ≠ 0) (h : n ≠ 0) (h1 : n ≠ 1) (h0 : 0 ≤ n) (hr : r = n / 2) (hq : q = n % 2) (he : q = 0) : jMul p n.toNat = jDouble (jMul p r.toNat) := by
  have e : r.toNat = n.toNat / 2 := by omega
  rw [e]
  conv => lhs; unfold jMul
  rw [dif_neg (by omega), if_neg hy, if_pos (by omega)]
theorem jMul_odd {p : Tri} {n r q : Int} (hy : p.2.1 ≠ 0) (h : n ≠ 0) (h1 : n ≠ 1) (h0 : 0 ≤ n) (hr : r = n / 2) (hq : q = n % 2) (he : q = 1) : jMul p n.toNat = jAdd (jDouble (jMul p r.toNat)) p := by
  have e : r.toNat = n.toNat / 2 := by omega
  rw [e]
  conv => lhs; unfold jMul
  rw [dif_neg (by omega), if_neg hy, if_neg (by omega)]
theorem jMul_y0 {p : Tri} (n : Nat) (hy : p.2.1 = 0) : jMul p n = (0, 0, 1) := by
  unfold jMul
  by_cases h : n < 2
  · rw [dif_pos h, if_pos (.inl hy)]
  · rw [dif_neg h, if_pos hy]
theorem jMul_n0 (p : Tri) : jMul p 0 = (0, 0, 1) := by
  unfold jMul
  rw [dif_pos (by decide), if_pos (.inr rfl)]
theorem jMul_n1 {p : Tri} (hy : p.2.1 ≠ 0) : jMul p 1 = p := by
  unfold jMul
  rw [dif_pos (by decide), if_neg (by simp [hy])]
theorem lt_half {n r : Int} {k : Nat} (hk : n.toNat < 2 ^ k) (h : n ≠ 0) (h1 : n ≠ 1) (h0 : 0 ≤ n) (hr : r = n / 2) : 1 ≤ k ∧ r.toNat < 2 ^ (k - 1) := by
  cases k with
  | zero => simp at hk; omega
  | succ k => rw [Nat.pow_succ] at hk; simp only [Nat.add_sub_cancel]; omega

theorem ct_mul {w mean mg mb} : ∀ (k : Nat) {news : Led} {v : Value} {p : Tri} (n : Int) (tn : Tok) (hv : T3 news v p) (hp : InR p) (h0 : 0 ≤ n) (h1 : n < pN) (hk : n.toNat < 2 ^ k),
    Ct w mean mg mb 60 (5 + k) (60 + 20 * k) news [v, .int n tn] (fun r news' => Sup news news' ∧ T3 news' r (jMul p n.toNat)) := by
  intro k
  induction k using Nat.strongRecOn with
  | ind k ih =>
    intro news v p n tn hv hp h0 h1 hk1
    unfold Ct
    k_fill
    intro dp un gd cn cs ad ccd cl outer A₀ base h₀ L m s Q E B F X N T hk hd hun hret
    obtain ⟨a, t1, t2, t3, c, rfl, hm⟩ := hv
    obtain ⟨bx, bY, bz⟩ := hp.bits
    have bn : Builtin.Int.intBits n ≤ 256 := bits_of_lt h0 (by unfold pP; unfold pN at h1; omega)
    refine wpAny_call ?_
    k_dflt ktr_enter
    k_steps
    · exact hret _ _ _ _ (by k_asm) (by k_asm) ⟨by k_extra "mine sup", by rw [jMul_y0 _ (by assumption)]; k_extra "mine T3"⟩
    · exact hret _ _ _ _ (by k_asm) (by k_asm) ⟨by k_extra "mine sup", by subst_vars; rw [show (0 : Int).toNat = 0 from rfl, jMul_n0]; k_extra "mine T3"⟩
    · exact hret _ _ _ _ (by k_asm) (by k_asm) ⟨by k_extra "mine sup", by subst_vars; rw [show (1 : Int).toNat = 1 from rfl, jMul_n1 (by assumption)]; k_extra "mine T3"⟩
    · exfalso; unfold pN at h1; omega
    · unfold Stop
      have hlt := lt_half (r := n / 2) hk1 (by assumption) (by assumption) h0 rfl
      k_dflt (refine' Ct.use ?jB ?jF ?jX ?jN ?jT ?jhk (ih (k - 1) (by omega) _ _ ?jv hp ?jh0 ?jh1 ?jhk1) ?jd ?jn ?_)
      (case jB => k_asm)
      (case jF => k_asm)
      (case jX => k_asm)
      (case jN => k_asm)
      (case jT => k_asm)
      (case jhk => exact rfl)
      (case jv => k_extra "mine T3")
      (case jh0 => omega)
      (case jh1 => omega)
      (case jhk1 => subst_vars; exact hlt.2)
      (case jd => ktr_room)
      (case jn => ktr_units)
      intro v' n' h' tk' F' N' hP'; obtain ⟨hs', a', t1', t2', t3', c', hv', hm'⟩ := hP'; subst hv'; (try k_sweep); (try dsimp only); (try k_fold)
      k_steps
      all_goals exact hret _ _ _ _ (by k_asm) (by k_asm) ⟨by k_extra "mine sup", by rw [jMul_even (by assumption) (by assumption) (by assumption) h0 (by assumption) (by assumption) (by assumption)]; k_extra "mine T3"⟩
    · unfold Stop
      have hlt := lt_half (r := n / 2) hk1 (by assumption) (by assumption) h0 rfl
      k_dflt (refine' Ct.use ?iB ?iF ?iX ?iN ?iT ?ihk (ih (k - 1) (by omega) _ _ ?iv hp ?ih0 ?ih1 ?ihk1) ?id ?ii ?_)
      (case iB => k_asm)
      (case iF => k_asm)
      (case iX => k_asm)
      (case iN => k_asm)
      (case iT => k_asm)
      (case ihk => exact rfl)
      (case iv => k_extra "mine T3")
      (case ih0 => omega)
      (case ih1 => omega)
      (case ihk1 => subst_vars; exact hlt.2)
      (case id => ktr_room)
      (case ii => ktr_units)
      intro v' n' h' tk' F' N' hP'; obtain ⟨hs', a', t1', t2', t3', c', hv', hm'⟩ := hP'; subst hv'; (try k_sweep); (try dsimp only); (try k_fold)
      k_steps
      all_goals exact hret _ _ _ _ (by k_asm) (by k_asm) ⟨by k_extra "mine sup", by rw [jMul_odd (by assumption) (by assumption) (by assumption) h0 (by assumption) (by assumption) (by assumption)]; k_extra "mine T3"⟩
    · exfalso; omega

theorem ct_mulN {w mean mg mb} (k : Nat) {news : Led} {v : Value} {p : Tri} (n r : Int) (tn : Tok) (hv : T3 news v p) (hp : InR p) (h0 : pN ≤ n) (h1 : n < pN + 100) (hr : r = n - pN) (hk : r.toNat < 2 ^ k) :
    Ct w mean mg mb 60 (6 + k) (80 + 20 * k) news [v, .int n tn] (fun r' news' => Sup news news' ∧ T3 news' r' (jMul p r.toNat)) := by
  unfold Ct
  k_fill
  intro dp un gd cn cs ad ccd cl outer A₀ base h₀ L m s Q E B F X N T hk' hd hun hret
  have hv0 := hv
  obtain ⟨a, t1, t2, t3, c, rfl, hm⟩ := hv
  obtain ⟨bx, bY, bz⟩ := hp.bits
  have hN : pN = 115792089237316195423570985008687907852837564279074904382605163141518161494337 := rfl
  have bn : Builtin.Int.intBits n ≤ 257 := intBits_le_iff.mpr (by
    have : (2 : Nat) ^ 257 = 231584178474632390847141970017375815706539969331281128078915168015826259279872 := by decide
    rw [this]; omega)
  refine wpAny_call ?_
  k_dflt ktr_enter
  k_steps
  · exact hret _ _ _ _ (by k_asm) (by k_asm) ⟨by k_extra "mine sup", by rw [jMul_y0 _ (by assumption)]; k_extra "mine T3"⟩
  · exfalso; omega
  · exfalso; omega
  · exfalso; omega
  · unfold Stop
    k_dflt (refine' Ct.use ?jB ?jF ?jX ?jN ?jT ?jhk (ct_mul k _ _ ?jv hp ?jh0 ?jh1 ?jhk1) ?jd ?jn ?_)
    (case jB => k_asm)
    (case jF => k_asm)
    (case jX => k_asm)
    (case jN => k_asm)
    (case jT => k_asm)
    (case jhk => exact rfl)
    (case jv => k_extra "mine T3")
    (case jh0 => omega)
    (case jh1 => omega)
    (case jhk1 => (have e : r = n % 115792089237316195423570985008687907852837564279074904382605163141518161494337 := (by omega); subst_vars; rw [← e]; exact hk))
    (case jd => ktr_room)
    (case jn => ktr_units)
    intro v' n' h' tk' F' N' hP'; obtain ⟨hs', a', t1', t2', t3', c', hv', hm'⟩ := hP'; subst hv'; (try k_sweep); (try dsimp only); (try k_fold)
    k_steps
    all_goals exact hret _ _ _ _ (by k_asm) (by k_asm) ⟨by k_extra "mine sup", by (have e : r = n % 115792089237316195423570985008687907852837564279074904382605163141518161494337 := by omega); rw [e]; clear e; subst_vars; k_extra "mine T3"⟩
  all_goals (exfalso; omega)



local macro_rules | `(tactic| walk_at "exec While Compare cons nil") => `(tactic| k_extra "m exec While Compare cons nil")
theorem words_5 : True := by
  k_with "m call ref" => ((k_here; k_dflt (
   (refine' Ct.use ?B ?F ?X ?N ?T ?hk (ct_sum ?jv ?ju ?jp ?jq) ?jd ?jn ?_);
   (case B => k_asm); (case F => k_asm); (case X => k_asm); (case N => k_asm); (case T => k_asm); (case hk => first | exact rfl | assumption);
   (case jv => k_extra "mine Pt"); (case ju => k_extra "mine Pt"); (case jp => k_extra "mine rangeP"); (case jq => k_extra "mine rangeP");
   (case jd => ktr_room); (case jn => ktr_units); intro v' n' h' tk' F' N' hP'; obtain ⟨hs', hv'⟩ := hP'; (try k_sweep); (try dsimp only); (try k_fold))))
  k_with "m exec While Compare cons nil" => (refine stop_here ?_)
  trivial
theorem ct_times {w mean mg mb} {news : Led} {v : Value} {p : Pnt} {n : Int} (tn : Tok) (hv : Pt w news v p) (hp : InRP p) (h0 : 0 ≤ n) (h1 : n < pP) :
    Ct w mean mg mb 103 4 80 news [v, .int n tn] (fun r news' => Sup news news' ∧ Pt w news' r (lTimes p n.toNat)) := by
  unfold Ct
  k_fill
  intro dp un gd cn cs ad ccd cl outer A₀ base h₀ L m s Q E B F X N T hk hd hun hret
  refine wpAny_call ?_
  k_dflt ktr_enter
  k_steps
  unfold Stop
  refine While_inv2 (fun c m' l => Sup news l ∧ ∃ (f q : Pnt) (vf vq : Value) (k : Int) (tk : Tok), m' (Str.ofString "found") = some vf ∧ m' (Str.ofString "point") = some vq ∧ m' (Str.ofString "many") = some (.int k tk) ∧ Pt w l vf f ∧ Pt w l vq q ∧ InRP f ∧ InRP q ∧ 0 ≤ k ∧ k < pP ∧ c = k.toNat ∧ lLoop f q k.toNat = lTimes p n.toNat) (n₀ := n.toNat) (by k_asm) (by k_asm) ⟨by k_extra "mine sup", none, p, .none, v, n, tn, rfl, rfl, rfl, rfl, by k_extra "mine Pt", trivial, hp, h0, h1, rfl, rfl⟩ ?_
  rintro c m₁ l h₁ tk₁ F₁ N₁ ⟨hs, f, q, vf, vq, k, tk, e1, e2, e3, hvf, hvq, hf, hq, hk0, hk1, rfl, hl⟩
  have F₂ := fr_pin [(Str.ofString "found", vf), (Str.ofString "point", vq), (Str.ofString "many", .int k tk)] (by simp [e1, e2, e3]) F₁
  clear F₁
  have bk := bits_of_lt hk0 hk1
  k_steps
  · refine ⟨_, _, _, _, _, rfl, by k_asm, by k_asm, ?_, by k_extra "mine sup", _, _, _, _, _, _, rfl, rfl, rfl, by k_extra "mine Pt", by k_extra "mine Pt", by k_extra "mine rangeP", by k_extra "mine rangeP", ?_, ?_, rfl, ?_⟩
    · omega
    · omega
    · omega
    · rw [← hl]; exact (lLoop_odd (by omega) (by with_reducible assumption) (by with_reducible assumption) (by with_reducible assumption)).symm
  · refine ⟨_, _, _, _, _, rfl, by k_asm, by k_asm, ?_, by k_extra "mine sup", _, _, _, _, _, _, rfl, rfl, rfl, by k_extra "mine Pt", by k_extra "mine Pt", by k_extra "mine rangeP", by k_extra "mine rangeP", ?_, ?_, rfl, ?_⟩
    · omega
    · omega
    · omega
    · rw [← hl]; exact (lLoop_even (by omega) (by with_reducible assumption) (by with_reducible assumption) (by with_reducible assumption)).symm
  · exact hret _ _ _ _ (by k_asm) (by k_asm) ⟨by k_extra "mine sup", by rw [← hl, show k.toNat = 0 by omega, lLoop0]; k_extra "mine Pt"⟩



noncomputable abbrev gG : Int × Int := (55066263022277343669578718895168534326250603453777594175500187360389116729240, 32670510020758816978083085130507043184471273380659243275938904335757337482424)
theorem gG_on : gG.2 * gG.2 % pP = (gG.1 * gG.1 * gG.1 + 7) % pP := by decide +kernel
theorem gG_R : InR2 gG := ⟨⟨by decide, by decide⟩, ⟨by decide, by decide⟩⟩
theorem lift_eq {y k r1 r4 : Int} (h4 : r4 = (k * k * k + 7) % pP) (h1 : r1 = y * y % pP) (ha : r1 = r4) : y * y % pP = (k * k * k + 7) % pP := by rw [← h1, ha, h4]
theorem neg_sq (y : Int) : (pP - y) * (pP - y) % pP = y * y % pP := by
  have : (pP - y) * (pP - y) = y * y + pP * (pP - 2 * y) := by
    rw [Int.sub_mul, Int.mul_sub, Int.mul_sub, Int.mul_sub, Int.mul_comm y pP]
    have : pP * (2 * y) = 2 * (pP * y) := by rw [Int.mul_left_comm]
    rw [this]; omega
  rw [this, Int.add_mul_emod_self_left]
theorem lift_neg {y k r1 r4 : Int} (h4 : r4 = (k * k * k + 7) % pP) (h1 : r1 = y * y % pP) (ha : r1 = r4) : (pP - y) * (pP - y) % pP = (k * k * k + 7) % pP := by rw [neg_sq, lift_eq h4 h1 ha]
theorem ne_of_lit {a b : Str} (h : (a == b) = false) : ¬ a = b := by simpa using h
local macro_rules | `(tactic| walk_at "pyIter ref") => `(tactic| k_extra "m pyIter ref")
theorem words_6 : True := by
  k_with "m pyIter ref" => (refine stop_here ?_)
  trivial
theorem ct_lifted {w mean mg mb} {news : Led} {x odd : Int} (tx to : Tok) (hroot : NoRoot) (hx : 0 ≤ x ∧ x < pP) :
    Ct w mean mg mb 110 4 80 news [.int x tx, .int odd to] (fun r news' => Sup news news' ∧ ∃ q, T2 w news' r q ∧ InR2 q ∧ q.2 * q.2 % pP = (q.1 * q.1 * q.1 + 7) % pP) := by
  unfold Ct
  k_fill
  intro dp un gd cn cs ad ccd cl outer A₀ base h₀ L m s Q E B F X N T hk hd hun hret
  refine wpAny_call ?_
  k_dflt ktr_enter
  k_steps
  unfold Stop
  have onc : ∀ k : Int, ∀ y : Int, y * y % pP = (k * k * k + 7) % pP → 0 ≤ y → y < pP → 0 < y := by
    intro k y h h0 h1
    rcases Int.lt_or_eq_of_le h0 with h2 | h2
    · exact h2
    · exfalso
      rw [← h2] at h
      exact hroot k h.symm
  rename IsRange _ _ _ _ _ _ _ _ => rgX
  with_unfolding_all refine my_range (n := 12) (fun i m' l => Sup news l ∧ ∃ (k : Int) (tk tk2 : Tok), m' (Str.ofString "x") = some (.int k tk) ∧ m' (Str.ofString "odd") = some (.int odd tk2) ∧ 0 ≤ k ∧ k < pP) ?_ (by rfl) rgX (by decide) (by rfl) (by k_asm) (by k_asm) ?_ ?_ ?_
  · rintro i m' l l' hk ⟨hs, r⟩
    exact ⟨hk.sup hs, r⟩
  · exact ⟨by k_extra "mine sup", _, _, _, rfl, rfl, hx.1, hx.2⟩
  · rintro i t m₁ l h₁ tk₁ I o hi ho hI ⟨hs, k, tk, tk2, e1, e2, hk0, hk1⟩ F₁ N₁
    have F₂ := fr_pin [(Str.ofString "x", .int k tk), (Str.ofString "odd", .int odd tk2)] (List.forall_mem_cons.mpr ⟨(if_neg (ne_of_lit rfl)).trans e1, List.forall_mem_cons.mpr ⟨(if_neg (ne_of_lit rfl)).trans e2, List.forall_mem_nil _⟩⟩) F₁
    clear F₁ rgX
    have bk := bits_of_lt hk0 hk1
    k_steps
    · dsimp only [RgPost]
      k_steps
      all_goals exact hret _ _ _ _ (by k_asm) (by k_asm) ⟨by k_extra "mine sup", (k, _), T2.mk rfl (List.Mem.head _), ⟨⟨hk0, hk1⟩, by with_reducible assumption, by with_reducible assumption⟩, lift_eq (by with_reducible assumption) (by with_reducible assumption) (by with_reducible assumption)⟩
    · dsimp only [RgPost]
      k_steps
      all_goals exact hret _ _ _ _ (by k_asm) (by k_asm) ⟨by k_extra "mine sup", (k, _), T2.mk rfl (List.Mem.head _), ⟨⟨hk0, hk1⟩, (by have h9 := onc k _ (lift_eq (by with_reducible assumption) (by with_reducible assumption) (by with_reducible assumption)) (by with_reducible assumption) (by with_reducible assumption); dsimp only; omega)⟩, lift_neg (by with_reducible assumption) (by with_reducible assumption) (by with_reducible assumption)⟩
    · dsimp only [RgPost]
      exact ⟨_, _, _, _, rfl, by k_asm, by k_asm, by k_mem, by k_extra "mine sup", _, _, _, rfl, rfl, by with_reducible assumption, by with_reducible assumption⟩
  · rintro m₁ l h₁ tk₁ ⟨hs, k, tk, tk2, e1, e2, hk0, hk1⟩ F₁ N₁
    k_steps
    all_goals exact hret _ _ _ _ (by k_asm) (by k_asm) ⟨by k_extra "mine sup", gG, ⟨82, rfl, _, _, _, .inr (by k_is)⟩, gG_R, gG_on⟩



theorem ct_isIdT {w mean mg mb} {news : Led} {v : Value} {p : Tri} (hv : T3 news v p) (hp : p = (0, 0, 0) ∨ p = (0, 0, 1)) :
    Ct w mean mg mb 81 4 90 news [v] (fun r news' => Sup news news' ∧ r = .bool true) := by
  have := ct_isId (w := w) (mean := mean) (mg := mg) (mb := mb) hv
  rw [decide_eq_true hp] at this
  exact this
theorem ct_isIdF {w mean mg mb} {news : Led} {v : Value} {p : Tri} (hv : T3 news v p) (hp : ¬ (p = (0, 0, 0) ∨ p = (0, 0, 1))) :
    Ct w mean mg mb 81 4 90 news [v] (fun r news' => Sup news news' ∧ r = .bool false) := by
  have := ct_isId (w := w) (mean := mean) (mg := mg) (mb := mb) hv
  rw [decide_eq_false hp] at this
  exact this

local macro_rules | `(tactic| walk_at "subscriptTail Name Slice ref ref") => `(tactic| k_extra "m subscriptTail Name Slice ref ref")
local macro_rules | `(tactic| walk_at "eval ListComp") => `(tactic| k_extra "m eval ListComp")
theorem words_7 : True := by
  k_with "m call ref" => ((k_here; k_dflt (first | ((refine' Ct.use ?B ?F ?X ?N ?T ?hk (ct_isIdT ?jv ?jp) ?jd ?jn ?_); (case B => k_asm); (case F => k_asm); (case X => k_asm); (case N => k_asm); (case T => k_asm); (case hk => first | exact rfl | assumption); (case jv => k_extra "mine T3"); (case jp => with_reducible assumption); (case jd => ktr_room); (case jn => ktr_units); intro v' n' h' tk' F' N' hP'; obtain ⟨hs', hv'⟩ := hP'; subst hv'; (try k_sweep); (try dsimp only); (try k_fold)) | ((refine' Ct.use ?B ?F ?X ?N ?T ?hk (ct_isIdF ?jv ?jp) ?jd ?jn ?_); (case B => k_asm); (case F => k_asm); (case X => k_asm); (case N => k_asm); (case T => k_asm); (case hk => first | exact rfl | assumption); (case jv => k_extra "mine T3"); (case jp => with_reducible assumption); (case jd => ktr_room); (case jn => ktr_units); intro v' n' h' tk' F' N' hP'; obtain ⟨hs', hv'⟩ := hP'; subst hv'; (try k_sweep); (try dsimp only); (try k_fold)))))
  k_with "m subscriptTail Name Slice ref ref" => ((k_here; k_dflt (refine slice_tup2 (by k_asm) (by k_asm) (by k_mem) ?_ (by with_unfolding_all rfl) (by intro _; with_unfolding_all rfl)); intro D' h' F' N'; (try k_sweep)))
  k_with "m eval ListComp" => (refine stop_here ?_)
  trivial
theorem ct_stands0 {w mean mg mb} {news : Led} {v : Value} {t : Tri} (hv : T3 news v t) (ht : t = (0, 0, 0) ∨ t = (0, 0, 1)) :
    Ct w mean mg mb 122 8 130 news [v, .none] (fun r news' => Sup news news' ∧ r = .bool true) := by
  unfold Ct
  k_fill
  intro dp un gd cn cs ad ccd cl outer A₀ base h₀ L m s Q E B F X N T hk hd hun hret
  obtain ⟨a, t1, t2, t3, c, rfl, hm⟩ := hv
  refine wpAny_call ?_
  k_dflt ktr_enter
  k_steps
  all_goals exact hret _ _ _ _ (by k_asm) (by k_asm) ⟨by k_extra "mine sup", by rcases ht with rfl | rfl <;> rfl⟩
theorem stand_y {ty z r2 r q : Int} (ey : ty = q * (z * z % pP) * z % pP) (h2 : r2 = z * z % pP) (h : r = q * r2 * z % pP) : ty = r := by rw [h, h2, ey]
theorem stand_x {tx z r2 r q : Int} (ex : tx = q * (z * z % pP) % pP) (h2 : r2 = z * z % pP) (h : r = q * r2 % pP) : tx = r := by rw [h, h2, ex]
theorem ct_stands1 {w mean mg mb} {news : Led} {v u : Value} {t : Tri} {p : Int × Int} (hv : T3 news v t) (hu : T2 w news u p) (ht : Stands t (some p)) :
    Ct w mean mg mb 122 8 130 news [v, u] (fun r news' => Sup news news' ∧ r = .bool true) := by
  unfold Ct
  k_fill
  intro dp un gd cn cs ad ccd cl outer A₀ base h₀ L m s Q E B F X N T hk hd hun hret
  obtain ⟨a, t1, t2, t3, c, rfl, hm⟩ := hv
  obtain ⟨b, rfl, hb⟩ := hu
  obtain ⟨ht0, hp, hy, hz, ex, ey⟩ := ht
  have hid : ¬ (t = (0, 0, 0) ∨ t = (0, 0, 1)) := by rintro (h | h) <;> (rw [h] at hy; exact hy rfl)
  obtain ⟨bx, bY, bz⟩ := ht0.bits
  obtain ⟨cx, cY⟩ := hp.bits
  obtain ⟨⟨x0, x1⟩, ⟨y0, y1⟩, z0, z1⟩ := ht0
  refine wpAny_call ?_
  k_dflt ktr_enter
  k_steps
  unfold Stop
  k_dflt (refine ListComp_T3 (by k_asm) (by rfl) (by decide) (by rfl) (by decide) (by rfl) ?_)
  walk1
  refine ⟨_, _, _, _, _, _, rfl, rfl, by k_asm, by k_asm, by k_mem, ?_⟩
  intro g S hS
  refine LCg.CompRest.succ ?_
  intro v I oI C oC D m₂ h tk E' hv hC hx F' N' off ne
  obtain rfl : v = .int t.1 t1 := (Option.some.inj hv).symm
  k_steps
  rw [decide_eq_true x1]
  refine LCg.CompEnd.intro (by assumption) N' _ (fun p hp => hp) off (by rw [hS]; k_mem) ?_
  clear hv hC hx F' N' off ne h
  refine LCg.CompRest.succ ?_
  intro v I oI C oC D m₂ h tk E' hv hC hx F' N' off ne
  obtain rfl : v = .int t.2.1 t2 := (Option.some.inj hv).symm
  k_steps
  rw [decide_eq_true y1]
  refine LCg.CompEnd.intro (by assumption) N' _ (fun p hp => hp) off (by rw [hS]; k_mem) ?_
  clear hv hC hx F' N' off ne h
  refine LCg.CompRest.succ ?_
  intro v I oI C oC D m₂ h tk E' hv hC hx F' N' off ne
  obtain rfl : v = .int t.2.2 t3 := (Option.some.inj hv).symm
  k_steps
  rw [decide_eq_true z1]
  refine LCg.CompEnd.intro (by assumption) N' _ (fun p hp => hp) off (by rw [hS]; k_mem) ?_
  clear hv hC hx F' N' off ne h
  refine LCg.CompRest.zero ?_
  unfold LCg.FinE
  intro D h' tk F' N' off
  k_steps
  · exact absurd (by assumption) hz
  · exact hret _ _ _ _ (by k_asm) (by k_asm) ⟨by k_extra "mine sup", congrArg Value.bool (beq_iff_eq.mpr (stand_y ey (by with_reducible assumption) (by with_reducible assumption)))⟩
  · exact absurd (stand_x ex (by with_reducible assumption) (by with_reducible assumption)) (by with_reducible assumption)


theorem inv_of {v : Value} {x n : Int} {t : Tok} (_h : v = .int (pyInv x n) t) (h2 : 2 ≤ n) (h3 : n ≤ pP) : 0 ≤ pyInv x n ∧ pyInv x n < n ∧ Builtin.Int.intBits (pyInv x n) ≤ 256 :=
  have h := pyInv_range x (show 0 < n by omega)
  ⟨h.1, h.2, bits_of_lt h.1 (by omega)⟩
theorem pyInv_zero (n : Int) : pyInv 0 n = 0 := if_pos rfl
theorem bits_3n {x n : Int} (h1 : x < 3 * n) (h0 : 0 ≤ x) (hn : n ≤ pP) : Builtin.Int.intBits x ≤ 258 := intBits_le_iff.mpr (by
  have : (2 : Nat) ^ 258 = 463168356949264781694283940034751631413079938662562256157830336031652518559744 := by decide
  rw [this]; unfold pP at hn; omega)

theorem words_8 : True := by
  k_with "m call ref" => ((k_here; k_dflt (((refine' Ct.use ?B ?F ?X ?N ?T ?hk (ct_inv _ _ _ _ ?h0 ?h1) ?jd ?jn ?_); (case B => k_asm); (case F => k_asm); (case X => k_asm); (case N => k_asm); (case T => k_asm); (case hk => first | exact rfl | assumption); (case h0 => first | decide | omega); (case h1 => first | decide | omega); (case jd => ktr_room); (case jn => ktr_units); intro v' n' h' tk' F' N' hP'; (obtain ⟨hs', t', hv'⟩ := hP'); (have hf' := inv_of hv' (by first | decide | omega) (by first | decide | omega)); (obtain ⟨hf1', hf2', hf3'⟩ := hf'); subst hv'; (try k_sweep); (try dsimp only); (try k_fold)))))
  k_with "mine bits" => (exact bits_3n (by with_reducible assumption) (by with_reducible assumption) (by with_reducible assumption))
  k_with "m call ref" => ((k_here; k_dflt (((refine' Ct.use ?B ?F ?X ?N ?T ?hk (ct_take _ _ ?h0 ?h1) ?jd ?jn ?_); (case B => k_asm); (case F => k_asm); (case X => k_asm); (case N => k_asm); (case T => k_asm); (case hk => first | exact rfl | assumption); (case h0 => k_extra "mine Bx"); (case h1 => first | decide | omega); (case jd => ktr_room); (case jn => ktr_units); intro v' n' h' tk' F' N' hP'; obtain ⟨x', i', t', hv', hx0', hx1', hb', hs', hk'⟩ := hP'; subst hv'; (try k_sweep); (try dsimp only); (try k_fold)))))
  k_with "m call ref" => ((k_here; k_dflt (((refine' Ct.use ?B ?F ?X ?N ?T ?hk (ct_common _ _ _ _ ?h0 ?h1) ?jd ?jn ?_); (case B => k_asm); (case F => k_asm); (case X => k_asm); (case N => k_asm); (case T => k_asm); (case hk => first | exact rfl | assumption); (case h0 => first | decide | omega); (case h1 => first | decide | omega); (case jd => ktr_room); (case jn => ktr_units); intro v' n' h' tk' F' N' hP'; obtain ⟨hs', t', hv'⟩ := hP'; subst hv'; (try k_sweep); (try dsimp only); (try k_fold)))))
  trivial
theorem my_pick6 {prog : Program} {w : World} {A : Around} {E : Value → Shared → Prop} {s : Shared} {h₀ : Heap} {L D : Addr} {news : Led} {c : Nat} {k : Int} {u : Tok} {Q : Value → Shared → Prop} {value slice : PySem.Expr} {a0 a1 a2 a3 a4 a5 : Int} {t0 t1 t2 t3 t4 t5 : Tok}
    (N : News h₀ L s.heap news) (hm : (D, W.listOf #[.int a0 t0, .int a1 t1, .int a2 t2, .int a3 t3, .int a4 t4, .int a5 t5] c) ∈ news) (h0 : 0 ≤ k) (h1 : k < 6)
    (h : ∀ n t, (n = a0 ∨ n = a1 ∨ n = a2 ∨ n = a3 ∨ n = a4 ∨ n = a5) → Q (.int n t) s)
    (hs : subscripted slice false (.ref D) (.int k u) = operate [.ref D, .int k u] (getItem (.ref D) (.int k u)) := by with_unfolding_all rfl) :
    wpAny (model prog w) A (subscriptTail value slice (.ref D) (.int k u)) Q E s := by
  have hc : k = 0 ∨ k = 1 ∨ k = 2 ∨ k = 3 ∨ k = 4 ∨ k = 5 := by omega
  rcases hc with rfl | rfl | rfl | rfl | rfl | rfl
  · exact my_item N hm (by decide) (by decide) rfl (h a0 t0 (by simp)) hs
  · exact my_item N hm (by decide) (by decide) rfl (h a1 t1 (by simp)) hs
  · exact my_item N hm (by decide) (by decide) rfl (h a2 t2 (by simp)) hs
  · exact my_item N hm (by decide) (by decide) rfl (h a3 t3 (by simp)) hs
  · exact my_item N hm (by decide) (by decide) rfl (h a4 t4 (by simp)) hs
  · exact my_item N hm (by decide) (by decide) rfl (h a5 t5 (by simp)) hs
theorem pick_range {n x : Int} (h : n = 115792089237316195423570985008687907853269984665640564039457584007908834671663 ∨ n = 115792089237316195423570985008687907852837564279074904382605163141518161494337 ∨ n = 97 ∨ n = 36 ∨ n = 1000000007 ∨ n = 2 + x) (h0 : 0 ≤ x) (h1 : x < 10 ^ Int.toNat 9) : 2 ≤ n ∧ n ≤ pP := by
  have e : (10 : Int) ^ Int.toNat 9 = 1000000000 := by decide
  rw [e] at h1
  unfold pP
  omega
theorem Bx.ne {news : Led} {B S l : Addr} {ns : List Int} {i : Int} (hl : ∀ p ∈ news, p.1 < l) (h : Bx news B S ns i) : l ≠ B :=
  let ⟨_, _, _, _, _, h2, _⟩ := h; Nat.ne_of_gt (hl _ h2)
theorem words_9 : True := by
  k_with "m subscriptTail" => ((k_here; (with_reducible show wpAny _ _ (subscriptTail _ _ (Value.ref _) (Value.int _ _)) _ _ _); (refine my_pick6 (by k_asm) (But.use (by with_reducible assumption) (Bx.ne (by with_reducible assumption) (by with_reducible assumption)) (List.Mem.head _)) (by omega) (by omega) ?_ (by with_unfolding_all rfl)); intro n' t' hn'; (have hn2' := pick_range hn' (by with_reducible assumption) (by with_reducible assumption)); obtain ⟨hn3', hn4'⟩ := hn2'; (have hn5' := bits_le_P (by omega) hn4')))
  trivial
theorem inv_one {x n r : Int} (hr : r = pyInv x n * x % n) (hinv : ∀ a n : Int, 2 ≤ n → 0 ≤ a → a ≠ 0 → Int.gcd a n = 1 → pyInv a n * a % n = 1) (hg : ¬ 1 < ((Int.gcd x n : Nat) : Int)) (hx : x ≠ 0) (h0 : 0 ≤ x) (h2 : 2 ≤ n) : r = 1 := by
  rw [hr]
  refine hinv x n h2 h0 hx ?_
  have : Int.gcd x n ≠ 0 := fun e => hx (Int.gcd_eq_zero_iff.mp e).1
  omega
theorem ct_invfine {w mean mg mb} {news : Led} {B S : Addr} {ns : List Int} {i : Int} (hb : Bx news B S ns i) (hinv : ∀ a n : Int, 2 ≤ n → 0 ≤ a → a ≠ 0 → Int.gcd a n = 1 → pyInv a n * a % n = 1) :
    Ct w mean mg mb 157 8 90 news [.ref B] (fun r _ => r = .bool true) := by
  unfold Ct
  k_fill
  intro dp un gd cn cs ad ccd cl outer A₀ base h₀ L m s Q E BB F X N T hk hd hun hret
  refine wpAny_call ?_
  k_dflt ktr_enter
  k_steps
  · exact absurd (pyInv_zero _) (by with_reducible assumption)
  · exact hret _ _ _ _ (by k_asm) (by k_asm) rfl
  · exact hret _ _ _ _ (by k_asm) (by k_asm) rfl
  · exact hret _ _ _ _ (by k_asm) (by k_asm) (congrArg Value.bool (beq_iff_eq.mpr (inv_one (by with_reducible assumption) hinv (by with_reducible assumption) (by with_reducible assumption) (by with_reducible assumption) (by with_reducible assumption))))




theorem words_10 : True := by
  k_with "m call ref" => ((k_here; k_dflt (
   (refine' Ct.use ?B ?F ?X ?N ?T ?hk (ct_inv _ _ _ _ ?j1 ?j2) ?jd ?jn ?_);
   (case B => k_asm); (case F => k_asm); (case X => k_asm); (case N => k_asm); (case T => k_asm); (case hk => first | exact rfl | assumption);
   (case j1 => first | decide | omega); (case j2 => first | decide | omega);
   (case jd => ktr_room); (case jn => ktr_units); intro v' n' h' tk' F' N' hP'; obtain ⟨hs', t', hv'⟩ := hP'; subst hv'; (try k_sweep); (try dsimp only); (try k_fold))))
  trivial
theorem ct_toJ {w mean mg mb} {news : Led} {v : Value} {p : Int × Int} (hv : T2 w news v p) :
    Ct w mean mg mb 32 2 20 news [v] (fun r news' => Sup news news' ∧ T3 news' r (toJ p)) := by
  unfold Ct
  k_fill
  intro dp un gd cn cs ad ccd cl outer A₀ base h₀ L m s Q E B F X N T hk hd hun hret
  obtain ⟨a, rfl, ha⟩ := hv
  refine wpAny_call ?_
  k_dflt ktr_enter
  k_steps
  all_goals exact hret _ _ _ _ (by k_asm) (by k_asm) ⟨by k_extra "mine sup", by k_extra "mine T3"⟩

theorem ct_fromJ {w mean mg mb} {news : Led} {v : Value} {p : Tri} (hv : T3 news v p) (hp : InR p) :
    Ct w mean mg mb 53 4 40 news [v] (fun r news' => Sup news news' ∧ T2 w news' r (fromJ p)) := by
  unfold Ct
  k_fill
  intro dp un gd cn cs ad ccd cl outer A₀ base h₀ L m s Q E B F X N T hk hd hun hret
  obtain ⟨a, t1, t2, t3, c, rfl, hm⟩ := hv
  obtain ⟨bx, bY, bz⟩ := hp.bits
  refine wpAny_call ?_
  k_dflt ktr_enter
  k_steps
  all_goals exact hret _ _ _ _ (by k_asm) (by k_asm) ⟨by k_extra "mine sup", by subst_vars; k_extra "mine T2"⟩



theorem words_11 : True := by
  k_with "m call ref" => ((k_here; k_dflt (((refine' Ct.use ?B ?F ?X ?N ?T ?hk (ct_take _ _ ?h0 ?h1) ?jd ?jn ?_); (case B => k_asm); (case F => k_asm); (case X => k_asm); (case N => k_asm); (case T => k_asm); (case hk => first | exact rfl | assumption); (case h0 => k_extra "mine Bx"); (case h1 => first | decide | omega); (case jd => ktr_room); (case jn => ktr_units); intro v' n' h' tk' F' N' hP'; obtain ⟨x', i', t', hv', hx0', hx1', hb', hs', hk'⟩ := hP'; subst hv'; (try k_sweep); (try dsimp only); (try k_fold)))))
  k_with "m call ref" => ((k_here; k_dflt (((refine' Ct.use ?B ?F ?X ?N ?T ?hk (ct_double ?h0 ?h1) ?jd ?jn ?_); (case B => k_asm); (case F => k_asm); (case X => k_asm); (case N => k_asm); (case T => k_asm); (case hk => first | exact rfl | assumption); (case h0 => k_extra "mine T3"); (case h1 => k_extra "mine range"); (case jd => ktr_room); (case jn => ktr_units); intro v' n' h' tk' F' N' hP'; obtain ⟨hs', a', t1', t2', t3', c', hv', hm'⟩ := hP'; subst hv'; (try k_sweep); (try dsimp only); (try k_fold)))))
  k_with "m call ref" => ((k_here; k_dflt (((refine' Ct.use ?B ?F ?X ?N ?T ?hk (ct_add ?h0 ?h1 ?h2 ?h3) ?jd ?jn ?_); (case B => k_asm); (case F => k_asm); (case X => k_asm); (case N => k_asm); (case T => k_asm); (case hk => first | exact rfl | assumption); (case h0 => k_extra "mine T3"); (case h1 => k_extra "mine T3"); (case h2 => k_extra "mine range"); (case h3 => k_extra "mine range"); (case jd => ktr_room); (case jn => ktr_units); intro v' n' h' tk' F' N' hP'; obtain ⟨hs', a', t1', t2', t3', c', hv', hm'⟩ := hP'; subst hv'; (try k_sweep); (try dsimp only); (try k_fold)))))
  k_with "m call ref" => ((k_here; k_dflt (((refine' Ct.use ?B ?F ?X ?N ?T ?hk (ct_mul 9 _ _ ?h0 ?h1 ?h2 ?h3 ?h4) ?jd ?jn ?_); (case B => k_asm); (case F => k_asm); (case X => k_asm); (case N => k_asm); (case T => k_asm); (case hk => first | exact rfl | assumption); (case h0 => k_extra "mine T3"); (case h1 => k_extra "mine range"); (case h2 => omega); (case h3 => first | decide | omega | (unfold pN; omega)); (case h4 => (show _ < 512); omega); (case jd => ktr_room); (case jn => ktr_units); intro v' n' h' tk' F' N' hP'; obtain ⟨hs', a', t1', t2', t3', c', hv', hm'⟩ := hP'; subst hv'; (try k_sweep); (try dsimp only); (try k_fold)))))
  k_with "m call ref" => ((k_here; k_dflt (((refine' Ct.use ?B ?F ?X ?N ?T ?hk (ct_sum ?h0 ?h1 ?h2 ?h3) ?jd ?jn ?_); (case B => k_asm); (case F => k_asm); (case X => k_asm); (case N => k_asm); (case T => k_asm); (case hk => first | exact rfl | assumption); (case h0 => k_extra "mine Pt"); (case h1 => k_extra "mine Pt"); (case h2 => k_extra "mine rangeP"); (case h3 => k_extra "mine rangeP"); (case jd => ktr_room); (case jn => ktr_units); intro v' n' h' tk' F' N' hP'; obtain ⟨hs', hv'⟩ := hP'; (try k_sweep); (try dsimp only); (try k_fold)))))
  k_with "m call ref" => ((k_here; k_dflt (((refine' Ct.use ?B ?F ?X ?N ?T ?hk (ct_times _ ?h0 ?h1 ?h2 ?h3) ?jd ?jn ?_); (case B => k_asm); (case F => k_asm); (case X => k_asm); (case N => k_asm); (case T => k_asm); (case hk => first | exact rfl | assumption); (case h0 => k_extra "mine Pt"); (case h1 => k_extra "mine rangeP"); (case h2 => omega); (case h3 => first | omega | (unfold pP; omega)); (case jd => ktr_room); (case jn => ktr_units); intro v' n' h' tk' F' N' hP'; obtain ⟨hs', hv'⟩ := hP'; (try k_sweep); (try dsimp only); (try k_fold)))))
  k_with "m call ref" => ((k_here; k_dflt (((refine' Ct.use ?B ?F ?X ?N ?T ?hk (ct_form _ _ ?h0 ?h1 ?h2) ?jd ?jn ?_); (case B => k_asm); (case F => k_asm); (case X => k_asm); (case N => k_asm); (case T => k_asm); (case hk => first | exact rfl | assumption); (case h0 => k_extra "mine Pt"); (case h1 => k_extra "mine rangeP"); (case h2 => first | with_reducible assumption | decide | omega | (constructor <;> first | omega | (unfold pP; omega))); (case jd => ktr_room); (case jn => ktr_units); intro v' n' h' tk' F' N' hP'; obtain ⟨hs', a', t1', t2', t3', c', hv', hm'⟩ := hP'; subst hv'; (try k_sweep); (try dsimp only); (try k_fold)))))
  trivial
theorem n_sub (r : Int) : r = 115792089237316195423570985008687907852837564279074904382605163141518161494337 + r - pN := by unfold pN; omega

theorem words_12 : True := by
  k_with "m call ref" => ((k_here; k_dflt ((with_reducible show wpAny _ _ (call (Value.ref 60) [_, Value.int (115792089237316195423570985008687907852837564279074904382605163141518161494337 + _) _]) _ _ _); ((refine' Ct.use ?B ?F ?X ?N ?T ?hk (ct_mulN 9 _ _ _ ?h0 ?h1 ?h2 ?h3 ?h4 ?h5) ?jd ?jn ?_); (case B => k_asm); (case F => k_asm); (case X => k_asm); (case N => k_asm); (case T => k_asm); (case hk => first | exact rfl | assumption); (case h0 => k_extra "mine T3"); (case h1 => k_extra "mine range"); (case h2 => (unfold pN; omega)); (case h3 => (unfold pN; omega)); (case h4 => exact n_sub _); (case h5 => (show _ < 512); omega); (case jd => ktr_room); (case jn => ktr_units); intro v' n' h' tk' F' N' hP'; obtain ⟨hs', a', t1', t2', t3', c', hv', hm'⟩ := hP'; subst hv'; (try k_sweep); (try dsimp only); (try k_fold)))))
  k_with "m call builtin:len" => ((k_here; (with_reducible show wpAny _ _ (call (Value.builtin "len") [Value.ref _]) _ _ _); (refine my_len (by k_asm) (by k_mem) (by with_reducible assumption) ?_); intro t' tk'))
  k_with "m subscriptTail" => ((k_here; (with_reducible show wpAny _ _ (subscriptTail _ _ (Value.ref _) (Value.int _ _)) _ _ _); (refine my_there (by with_reducible assumption) (by k_asm) (by k_mem) (Sub.ts (by k_extra "mine sub")) (by omega) (by omega) (by with_reducible assumption) ?_ (by with_unfolding_all rfl)); intro e' c' tv' pv' t' p' hm' ht' hp' hg' hR' hC' hP'))
  trivial
theorem formJ_R {p : Pnt} {f z : Int} (hf : 0 ≤ f ∧ f < pP) (hz : 0 ≤ z ∧ z < pP) : InR (formJ p f z) := by
  cases p with
  | none => exact ⟨(by decide : (0 : Int) ≤ 0 ∧ (0 : Int) < pP), (by decide : (0 : Int) ≤ 0 ∧ (0 : Int) < pP), hz⟩
  | some p => exact ⟨pmod _, pmod _, hf⟩
theorem words_13 : True := by
  k_with "mine range" => (exact formJ_R (by constructor <;> first | omega | (unfold pP; omega)) (by decide))
  trivial
theorem But.rfl {B : Addr} {l : Led} : But B l l := fun _ h _ => h
theorem But.cons {B : Addr} {l l' : Led} {q : Addr × Obj} (h : But B l l') : But B l (q :: l') := fun p hp e => .tail _ (h p hp e)
theorem But.trans {B : Addr} {a b c : Led} (h : But B a b) (h' : But B b c) : But B a c := fun p hp e => h' p (h p hp e) e
theorem Sup.but {B : Addr} {a b : Led} (h : Sup a b) : But B a b := fun p hp _ => h p hp
theorem words_14 : True := by
  k_with "mine but" => (first | with_reducible exact But.rfl | with_reducible assumption | (with_reducible refine But.cons ?_; k_extra "mine but") | (refine But.trans ?_ (by with_reducible assumption); k_extra "mine but") | (refine But.trans ?_ (Sup.but (by with_reducible assumption)); k_extra "mine but"))
  trivial
theorem neg0 (M : Maths) {t : Tri} {f : Int} (hg : Good t none) (hf : 0 < f) (hf' : f < pP) : Good (jAdd (formJ none f 1) t) none := ⟨M.neg (p := none) hg (M.form (p := none) trivial hf hf' (.inr rfl)), trivial⟩
theorem neg1 (M : Maths) {t : Tri} {q : Int × Int} {f : Int} (hg : Good t (some q)) (hf : 0 < f) (hf' : f < pP) : Good (jAdd (formJ (some (q.1, pP - q.2)) f 1) t) none := ⟨M.neg (p := some q) hg (M.form (p := some (q.1, pP - q.2)) (M.negOn (p := some q) hg.2) hf hf' (.inr rfl)), trivial⟩
theorem pt_none {w : World} {l : Led} : Pt w l .none none := rfl
theorem Pt.ofT2 {w : World} {l : Led} {v : Value} {p : Int × Int} (h : T2 w l v p) : Pt w l v (some p) := h
theorem words_15 : True := by
  k_with "mine Pt" => (((with_reducible show Pt _ _ (Value.ref _) _); exact Pt.ofT2 (by k_extra "mine T2")))
  trivial
theorem pt_cases {w : World} {l : Led} {pv : Value} {p : Pnt} {G : Prop} (h : Pt w l pv p) (h1 : pv = .none → p = none → G) (h2 : ∀ a q, pv = .ref a → T2a w l a q → p = some q → G) : G := by
  cases p with
  | none => exact h1 h rfl
  | some q => obtain ⟨a, e, ha⟩ := h; exact h2 a q e ha rfl
theorem ct_deed {w mean mg mb} {news : Led} {B S D : Addr} {ns : List Int} {i : Int} (M : Maths) (hb : Bx news B S ns i) (hT : There w news D) (hDB : D ≠ B) :
    Ct w mean mg mb 136 20 300 news [.ref B, .ref D] (fun r news' => Item w news' r ∧ (∃ i', Bx news' B S ns i') ∧ Sub news news' ∧ But B news news') := by
  unfold Ct
  k_fill
  intro dp un gd cn cs ad ccd cl outer A₀ base h₀ L m s Q E BB F X N T hk hd hun hret
  obtain ⟨items, n, hD, hz, hl, hI⟩ := hT
  refine wpAny_call ?_
  k_dflt ktr_enter
  k_steps
  · exact hret _ _ _ _ (by k_asm) (by k_asm) ⟨⟨_, _, _, _, _, _, rfl, List.Mem.head _, by k_extra "mine T3", by k_extra "mine Pt", ⟨M.dbl (by with_reducible assumption), M.sum (by with_reducible assumption) (by with_reducible assumption)⟩⟩, ⟨_, by k_extra "mine Bx"⟩, by k_extra "mine sub", by k_extra "mine but"⟩
  · exact hret _ _ _ _ (by k_asm) (by k_asm) ⟨⟨_, _, _, _, _, _, rfl, List.Mem.head _, by k_extra "mine T3", by k_extra "mine Pt", ⟨M.add (by with_reducible assumption) (by with_reducible assumption), M.sum (by with_reducible assumption) (by with_reducible assumption)⟩⟩, ⟨_, by k_extra "mine Bx"⟩, by k_extra "mine sub", by k_extra "mine but"⟩
  · exact hret _ _ _ _ (by k_asm) (by k_asm) ⟨⟨_, _, _, _, _, _, rfl, List.Mem.head _, by k_extra "mine T3", by k_extra "mine Pt", ⟨M.add (by with_reducible assumption) ⟨M.form (by with_reducible assumption) (by omega) (by unfold pP; omega) (.inl rfl), (by with_reducible assumption)⟩, M.sum (by with_reducible assumption) (by with_reducible assumption)⟩⟩, ⟨_, by k_extra "mine Bx"⟩, by k_extra "mine sub", by k_extra "mine but"⟩
  · refine pt_cases (by with_reducible assumption) (fun e1 e2 => ?_) (fun a q e1 ha e2 => ?_)
    · subst e1 e2
      k_steps
      all_goals exact hret _ _ _ _ (by k_asm) (by k_asm) ⟨⟨_, _, _, _, _, _, rfl, List.Mem.head _, by k_extra "mine T3", pt_none, neg0 M (by with_reducible assumption) (by omega) (by unfold pP; omega)⟩, ⟨_, by k_extra "mine Bx"⟩, by k_extra "mine sub", by k_extra "mine but"⟩
    · subst e1 e2
      have hneg : OnC (some (q.1, pP - q.2)) := M.negOn (p := some q) (by with_reducible assumption)
      have hnR : InRP (some (q.1, pP - q.2)) := hneg.inR
      have hqR : InRP (some q) := by with_reducible assumption
      obtain ⟨cx, cY⟩ := (show InR2 q from hqR).bits
      k_steps
      all_goals exact hret _ _ _ _ (by k_asm) (by k_asm) ⟨⟨_, _, _, _, _, _, rfl, List.Mem.head _, by k_extra "mine T3", pt_none, neg1 M (by with_reducible assumption) (by omega) (by unfold pP; omega)⟩, ⟨_, by k_extra "mine Bx"⟩, by k_extra "mine sub", by k_extra "mine but"⟩
  · exact hret _ _ _ _ (by k_asm) (by k_asm) ⟨⟨_, _, _, _, _, _, rfl, List.Mem.head _, by k_extra "mine T3", by k_extra "mine Pt", ⟨M.mul _ (by with_reducible assumption), M.times _ (by with_reducible assumption)⟩⟩, ⟨_, by k_extra "mine Bx"⟩, by k_extra "mine sub", by k_extra "mine but"⟩
  · subst_vars
    exact hret _ _ _ _ (by k_asm) (by k_asm) ⟨⟨_, _, _, _, _, _, rfl, List.Mem.head _, by k_extra "mine T3", by k_extra "mine Pt", ⟨M.mul _ (by with_reducible assumption), M.times _ (by with_reducible assumption)⟩⟩, ⟨_, by k_extra "mine Bx"⟩, by k_extra "mine sub", by k_extra "mine but"⟩



theorem words_16 : True := by
  k_with "m call ref" => ((k_here; k_dflt (((refine' Ct.use ?B ?F ?X ?N ?T ?hk (ct_toJ ?h0) ?jd ?jn ?_); (case B => k_asm); (case F => k_asm); (case X => k_asm); (case N => k_asm); (case T => k_asm); (case hk => first | exact rfl | assumption); (case h0 => k_extra "mine T2"); (case jd => ktr_room); (case jn => ktr_units); intro v' n' h' tk' F' N' hP'; obtain ⟨hs', a', t1', t2', t3', c', hv', hm'⟩ := hP'; subst hv'; (try k_sweep); (try dsimp only); (try k_fold)))))
  k_with "m call ref" => ((k_here; k_dflt (((refine' Ct.use ?B ?F ?X ?N ?T ?hk (ct_add ?h0 ?h1 ?h2 ?h3) ?jd ?jn ?_); (case B => k_asm); (case F => k_asm); (case X => k_asm); (case N => k_asm); (case T => k_asm); (case hk => first | exact rfl | assumption); (case h0 => k_extra "mine T3"); (case h1 => k_extra "mine T3"); (case h2 => k_extra "mine range"); (case h3 => k_extra "mine range"); (case jd => ktr_room); (case jn => ktr_units); intro v' n' h' tk' F' N' hP'; obtain ⟨hs', a', t1', t2', t3', c', hv', hm'⟩ := hP'; subst hv'; (try k_sweep); (try dsimp only); (try k_fold)))))
  k_with "m call ref" => ((k_here; k_dflt (((refine' Ct.use ?B ?F ?X ?N ?T ?hk (ct_fromJ ?h0 ?h1) ?jd ?jn ?_); (case B => k_asm); (case F => k_asm); (case X => k_asm); (case N => k_asm); (case T => k_asm); (case hk => first | exact rfl | assumption); (case h0 => k_extra "mine T3"); (case h1 => k_extra "mine range"); (case jd => ktr_room); (case jn => ktr_units); intro v' n' h' tk' F' N' hP'; obtain ⟨hs', a', hv', ha'⟩ := hP'; subst hv'; (try k_sweep); (try dsimp only); (try k_fold)))))
  k_with "m call ref" => ((k_here; k_dflt (((refine' Ct.use ?B ?F ?X ?N ?T ?hk (ct_mul 9 _ _ ?h0 ?h1 ?h2 ?h3 ?h4) ?jd ?jn ?_); (case B => k_asm); (case F => k_asm); (case X => k_asm); (case N => k_asm); (case T => k_asm); (case hk => first | exact rfl | assumption); (case h0 => k_extra "mine T3"); (case h1 => k_extra "mine range"); (case h2 => omega); (case h3 => first | decide | omega | (unfold pN; omega)); (case h4 => (show _ < 512); omega); (case jd => ktr_room); (case jn => ktr_units); intro v' n' h' tk' F' N' hP'; obtain ⟨hs', a', t1', t2', t3', c', hv', hm'⟩ := hP'; subst hv'; (try k_sweep); (try dsimp only); (try k_fold)))))
  trivial
theorem ct_fmul {w mean mg mb} {news : Led} {v : Value} {p : Int × Int} {n : Int} (tn : Tok) (hv : T2 w news v p) (hp : InR2 p) (h0 : 0 ≤ n) (h1 : n < 512) :
    Ct w mean mg mb 67 16 290 news [v, .int n tn] (fun r news' => Sup news news' ∧ T2 w news' r (fromJ (jMul (toJ p) n.toNat))) := by
  unfold Ct
  k_fill
  intro dp un gd cn cs ad ccd cl outer A₀ base h₀ L m s Q E B F X N T hk hd hun hret
  obtain ⟨a1, rfl, ha1⟩ := hv
  have hR : InR (toJ p) := ⟨hp.1, hp.2, (by decide : (0 : Int) ≤ 1 ∧ (1 : Int) < pP)⟩
  refine wpAny_call ?_
  k_dflt ktr_enter
  k_steps
  all_goals exact hret _ _ _ _ (by k_asm) (by k_asm) ⟨by k_extra "mine sup", by k_extra "mine T2"⟩
theorem ct_fadd {w mean mg mb} {news : Led} {v u : Value} {p q : Int × Int} (hv : T2 w news v p) (hu : T2 w news u q) (hp : InR2 p) (hq : InR2 q) :
    Ct w mean mg mb 74 8 90 news [v, u] (fun r news' => Sup news news' ∧ T2 w news' r (fromJ (jAdd (toJ p) (toJ q)))) := by
  unfold Ct
  k_fill
  intro dp un gd cn cs ad ccd cl outer A₀ base h₀ L m s Q E B F X N T hk hd hun hret
  obtain ⟨a1, rfl, ha1⟩ := hv
  have hR : InR (toJ p) := ⟨hp.1, hp.2, (by decide : (0 : Int) ≤ 1 ∧ (1 : Int) < pP)⟩
  obtain ⟨a2, rfl, ha2⟩ := hu
  have hR' : InR (toJ q) := ⟨hq.1, hq.2, (by decide : (0 : Int) ≤ 1 ∧ (1 : Int) < pP)⟩
  refine wpAny_call ?_
  k_dflt ktr_enter
  k_steps
  all_goals exact hret _ _ _ _ (by k_asm) (by k_asm) ⟨by k_extra "mine sup", by k_extra "mine T2"⟩



theorem pairP_R {p : Pnt} (h : InRP p) : InR2 (pairP p) := by
  cases p with
  | none => exact ⟨by decide, by decide⟩
  | some p => exact h
theorem fadd_eq (M : Maths) {p q : Pnt} (hp : OnC p) (hq : OnC q) : fromJ (jAdd (toJ (pairP p)) (toJ (pairP q))) = pairP (lSum p q) :=
  M.aff ⟨M.add ⟨M.pair hp, hp⟩ ⟨M.pair hq, hq⟩, M.sum hp hq⟩
theorem fmul_eq (M : Maths) {p : Pnt} {n : Nat} (hp : OnC p) : fromJ (jMul (toJ (pairP p)) n) = pairP (lTimes p n) :=
  M.aff ⟨M.mul n ⟨M.pair hp, hp⟩, M.times n hp⟩
section
variable {prog : Program} {w : World} {A : Around} {E : Value → Shared → Prop} {s : Shared} {h₀ : Heap} {L a b : Addr} {m : Str → Option Value} {news n1 n2 : Led} {p q : Int × Int} {Q : Value → Shared → Prop}
theorem T2a.reads {h : Heap} (H : T2a w n1 a p) (F : Fr h₀ L h m) (X : (Mine.hd.heap_39 w.params).In h₀) (N : News h₀ L h news) (hs : TS n1 news) : Reads h (.ref a) (.tuple [.int p.1, .int p.2]) [] := by
  obtain ⟨t1, t2, o, ho, hc, n, hd⟩ := H.isTup hs F X N
  exact reads_tuple_at ho hc hd (ReadsAll.cons (.int _ _) (ReadsAll.cons (.int _ _) .nil))
theorem my_ne2 (H1 : T2a w n1 a p) (H2 : T2a w n2 b q) (F : Fr h₀ L s.heap m) (X : (Mine.hd.heap_39 w.params).In h₀) (N : News h₀ L s.heap news) (s1 : TS n1 news) (s2 : TS n2 news) (e : p = q) (hu : A.units + 64 < cLine)
    (h : Q (.bool false) s) : wpAny (model prog w) A (compareOp .NotEq (.ref a) (.ref b)) Q E s := by
  refine ne_dataH (H1.reads F X N s1) (H2.reads F X N s2) (by rfl) (by rfl) hu ?_
  subst e
  simpa [PyData.eqv, PyData.eqvAll] using h
theorem my_eq2 (H1 : T2a w n1 a p) (H2 : T2a w n2 b q) (F : Fr h₀ L s.heap m) (X : (Mine.hd.heap_39 w.params).In h₀) (N : News h₀ L s.heap news) (s1 : TS n1 news) (s2 : TS n2 news) (e : p = q) (hu : A.units + 64 < cLine)
    (h : Q (.bool true) s) : wpAny (model prog w) A (compareOp .Eq (.ref a) (.ref b)) Q E s := by
  refine eq_dataH (H1.reads F X N s1) (H2.reads F X N s2) (by rfl) (by rfl) hu ?_
  subst e
  simpa [PyData.eqv, PyData.eqvAll] using h
theorem my_ne3 {x y z x' y' z' : Int} {t1 t2 t3 u1 u2 u3 : Tok} {c d : Nat} (N : News h₀ L s.heap news) (H1 : (a, tup3 x y z t1 t2 t3 c) ∈ news) (H2 : (b, tup3 x' y' z' u1 u2 u3 d) ∈ news) (e : x = x' ∧ y = y' ∧ z = z') (hu : A.units + 64 < cLine)
    (h : Q (.bool false) s) : wpAny (model prog w) A (compareOp .NotEq (.ref a) (.ref b)) Q E s := by
  refine ne_dataH (reads_tuple_at (N.get H1) rfl rfl (ReadsAll.cons (.int _ _) (ReadsAll.cons (.int _ _) (ReadsAll.cons (.int _ _) .nil)))) (reads_tuple_at (N.get H2) rfl rfl (ReadsAll.cons (.int _ _) (ReadsAll.cons (.int _ _) (ReadsAll.cons (.int _ _) .nil)))) (by rfl) (by rfl) hu ?_
  obtain ⟨rfl, rfl, rfl⟩ := e
  simpa [PyData.eqv, PyData.eqvAll] using h
theorem my_tadd {D : Addr} {t : Tok} {c : Nat} (H1 : T2a w n1 a p) (F : Fr h₀ L s.heap m) (X : (Mine.hd.heap_39 w.params).In h₀) (N : News h₀ L s.heap news) (s1 : TS n1 news) (H2 : (D, ({ cls := .type "tuple", data := .seq #[.int 1 t] c } : Obj)) ∈ news)
    (h : ∀ h' b t1 t2, Fr h₀ L h' m → News h₀ L h' ((b, tup3 p.1 p.2 1 t1 t2 t 0) :: news) → Q (.ref b) { s with heap := h' }) : wpAny (model prog w) A (binaryOp .Add (.ref a) (.ref D)) Q E s := by
  obtain ⟨t1, t2, ht⟩ := H1.isTup s1 F X N
  exact add_tuples (vs := [.int p.1 t1, .int p.2 t2]) (ws := [.int 1 t]) F N ht (N.isTup H2) (fun e => nomatch e) (fun _ e => nomatch e) (fun _ _ h' F' N' => h h' _ t1 t2 F' N') (by show 3 ≤ sizeLine; decide)
end

local macro_rules | `(tactic| walk_at "compareOp NotEq ref ref") => `(tactic| k_extra "m compareOp NotEq ref ref")
local macro_rules | `(tactic| walk_at "compareOp Eq ref ref") => `(tactic| k_extra "m compareOp Eq ref ref")
local macro_rules | `(tactic| walk_at "binaryOp Add ref ref") => `(tactic| k_extra "m binaryOp Add ref ref")
theorem words_17 : True := by
  k_with "m call ref" => ((k_here; k_dflt (((refine' Ct.use ?B ?F ?X ?N ?T ?hk (ct_take _ _ ?h0 ?h1) ?jd ?jn ?_); (case B => k_asm); (case F => k_asm); (case X => k_asm); (case N => k_asm); (case T => k_asm); (case hk => first | exact rfl | assumption); (case h0 => k_extra "mine Bx"); (case h1 => first | decide | omega); (case jd => ktr_room); (case jn => ktr_units); intro v' n' h' tk' F' N' hP'; obtain ⟨x', i', t', hv', hx0', hx1', hb', hs', hk'⟩ := hP'; subst hv'; (try k_sweep); (try dsimp only); (try k_fold)))))
  k_with "m call ref" => ((k_here; k_dflt (((refine' Ct.use ?B ?F ?X ?N ?T ?hk (ct_fromJ ?h0 ?h1) ?jd ?jn ?_); (case B => k_asm); (case F => k_asm); (case X => k_asm); (case N => k_asm); (case T => k_asm); (case hk => first | exact rfl | assumption); (case h0 => k_extra "mine T3"); (case h1 => k_extra "mine range"); (case jd => ktr_room); (case jn => ktr_units); intro v' n' h' tk' F' N' hP'; obtain ⟨hs', a', hv', ha'⟩ := hP'; subst hv'; (try k_sweep); (try dsimp only); (try k_fold)))))
  k_with "m call ref" => ((k_here; k_dflt (((refine' Ct.use ?B ?F ?X ?N ?T ?hk (ct_toJ ?h0) ?jd ?jn ?_); (case B => k_asm); (case F => k_asm); (case X => k_asm); (case N => k_asm); (case T => k_asm); (case hk => first | exact rfl | assumption); (case h0 => k_extra "mine T2"); (case jd => ktr_room); (case jn => ktr_units); intro v' n' h' tk' F' N' hP'; obtain ⟨hs', a', t1', t2', t3', c', hv', hm'⟩ := hP'; subst hv'; (try k_sweep); (try dsimp only); (try k_fold)))))
  k_with "m call ref" => ((k_here; k_dflt (((refine' Ct.use ?B ?F ?X ?N ?T ?hk (ct_pair ?h0) ?jd ?jn ?_); (case B => k_asm); (case F => k_asm); (case X => k_asm); (case N => k_asm); (case T => k_asm); (case hk => first | exact rfl | assumption); (case h0 => k_extra "mine Pt"); (case jd => ktr_room); (case jn => ktr_units); intro v' n' h' tk' F' N' hP'; obtain ⟨hs', a', hv', ha'⟩ := hP'; subst hv'; (try k_sweep); (try dsimp only); (try k_fold)))))
  k_with "m call ref" => ((k_here; k_dflt (((refine' Ct.use ?B ?F ?X ?N ?T ?hk (ct_fadd ?h0 ?h1 ?h2 ?h3) ?jd ?jn ?_); (case B => k_asm); (case F => k_asm); (case X => k_asm); (case N => k_asm); (case T => k_asm); (case hk => first | exact rfl | assumption); (case h0 => k_extra "mine T2"); (case h1 => k_extra "mine T2"); (case h2 => exact pairP_R (by with_reducible assumption)); (case h3 => exact pairP_R (by with_reducible assumption)); (case jd => ktr_room); (case jn => ktr_units); intro v' n' h' tk' F' N' hP'; obtain ⟨hs', a', hv', ha'⟩ := hP'; subst hv'; (try k_sweep); (try dsimp only); (try k_fold)))))
  k_with "m call ref" => ((k_here; k_dflt (((refine' Ct.use ?B ?F ?X ?N ?T ?hk (ct_fmul _ ?h0 ?h1 ?h2 ?h3) ?jd ?jn ?_); (case B => k_asm); (case F => k_asm); (case X => k_asm); (case N => k_asm); (case T => k_asm); (case hk => first | exact rfl | assumption); (case h0 => k_extra "mine T2"); (case h1 => exact pairP_R (by with_reducible assumption)); (case h2 => omega); (case h3 => omega); (case jd => ktr_room); (case jn => ktr_units); intro v' n' h' tk' F' N' hP'; obtain ⟨hs', a', hv', ha'⟩ := hP'; subst hv'; (try k_sweep); (try dsimp only); (try k_fold)))))
  k_with "m call ref" => ((k_here; k_dflt (((refine' Ct.use ?B ?F ?X ?N ?T ?hk (ct_sum ?h0 ?h1 ?h2 ?h3) ?jd ?jn ?_); (case B => k_asm); (case F => k_asm); (case X => k_asm); (case N => k_asm); (case T => k_asm); (case hk => first | exact rfl | assumption); (case h0 => k_extra "mine Pt"); (case h1 => k_extra "mine Pt"); (case h2 => k_extra "mine rangeP"); (case h3 => k_extra "mine rangeP"); (case jd => ktr_room); (case jn => ktr_units); intro v' n' h' tk' F' N' hP'; obtain ⟨hs', hv'⟩ := hP'; (try k_sweep); (try dsimp only); (try k_fold)))))
  k_with "m call ref" => ((k_here; k_dflt (((refine' Ct.use ?B ?F ?X ?N ?T ?hk (ct_times _ ?h0 ?h1 ?h2 ?h3) ?jd ?jn ?_); (case B => k_asm); (case F => k_asm); (case X => k_asm); (case N => k_asm); (case T => k_asm); (case hk => first | exact rfl | assumption); (case h0 => k_extra "mine Pt"); (case h1 => k_extra "mine rangeP"); (case h2 => omega); (case h3 => first | omega | (unfold pP; omega)); (case jd => ktr_room); (case jn => ktr_units); intro v' n' h' tk' F' N' hP'; obtain ⟨hs', hv'⟩ := hP'; (try k_sweep); (try dsimp only); (try k_fold)))))
  k_with "m call builtin:len" => ((k_here; (with_reducible show wpAny _ _ (call (Value.builtin "len") [Value.ref _]) _ _ _); (refine my_len (by k_asm) (by k_mem) (by with_reducible assumption) ?_); intro t' tk'))
  k_with "m subscriptTail" => ((k_here; (with_reducible show wpAny _ _ (subscriptTail _ _ (Value.ref _) (Value.int _ _)) _ _ _); (refine my_there (by with_reducible assumption) (by k_asm) (by k_mem) (Sub.ts (by k_extra "mine sub")) (by omega) (by omega) (by with_reducible assumption) ?_ (by with_unfolding_all rfl)); intro e' c' tv' pv' t' p' hm' ht' hp' hg' hR' hC' hP'))
  k_with "mine eq2" => (first | exact Maths.aff (by with_reducible assumption) (by with_reducible assumption) | exact fadd_eq (by with_reducible assumption) (by with_reducible assumption) (by with_reducible assumption) | exact fmul_eq (by with_reducible assumption) (by with_reducible assumption))
  k_with "m compareOp NotEq ref ref" => ((k_here; first
  | (refine my_ne2 (by with_reducible assumption) (by with_reducible assumption) (by k_asm) (by k_asm) (by k_asm) (Sub.ts (by k_extra "mine sub")) (Sub.ts (by k_extra "mine sub")) (by k_extra "mine eq2") (by ktr_units) ?_)
  | (refine my_ne3 (by k_asm) (by k_mem) (by k_mem) (by exact ⟨rfl, rfl, rfl⟩) (by ktr_units) ?_)))
  k_with "m compareOp Eq ref ref" => ((k_here; refine my_eq2 (by with_reducible assumption) (by with_reducible assumption) (by k_asm) (by k_asm) (by k_asm) (Sub.ts (by k_extra "mine sub")) (Sub.ts (by k_extra "mine sub")) (by k_extra "mine eq2") (by ktr_units) ?_))
  k_with "m binaryOp Add ref ref" => ((k_here; (refine my_tadd (by with_reducible assumption) (by k_asm) (by k_asm) (by k_asm) (Sub.ts (by k_extra "mine sub")) (by k_mem) ?_); intro h' b' t1' t2' F' N'; (try k_sweep)))
  trivial
theorem ct_pairs {w mean mg mb} {news : Led} {B S D : Addr} {ns : List Int} {i : Int} (M : Maths) (hb : Bx news B S ns i) (hT : There w news D) (hDB : D ≠ B) :
    Ct w mean mg mb 143 30 500 news [.ref B, .ref D] (fun r news' => r = .bool true ∧ (∃ i', Bx news' B S ns i')) := by
  unfold Ct
  k_fill
  intro dp un gd cn cs ad ccd cl outer A₀ base h₀ L m s Q E BB F X N T hk hd hun hret
  obtain ⟨items, n, hD, hz, hl, hI⟩ := hT
  refine wpAny_call ?_
  k_dflt ktr_enter
  k_steps
  all_goals exact hret _ _ _ _ (by k_asm) (by k_asm) ⟨rfl, _, by k_extra "mine Bx"⟩

theorem law_start {h₀ h : Heap} {L D B S : Addr} {p1 p2 : Addr × Obj} {t : Tok} {vs : List Value} {ns : List Int} {k : Nat} (N : News h₀ L h [(D, W.listOf #[] 0), p1, p2, (B, W.listOf #[.ref S, .int 0 t] 0), (S, W.listOf vs.toArray 0)])
    (l1 : p1.1 < D ∧ p2.1 < D ∧ B < D ∧ S < D) (l2 : S < B) (hI : IntsAre vs ns) (hC : ns.length = min 60 k) :
    ∀ l : Led, l = [(D, W.listOf #[] 0), p1, p2, (B, W.listOf #[.ref S, .int 0 t] 0), (S, W.listOf vs.toArray 0)] → ∃ (D' B' S' : Addr) (ns' : List Int), D' = D ∧ B' = B ∧ S' = S ∧ Bx l B S ns' 0 ∧ (D, W.listOf #[] 0) ∈ l ∧ D ≠ B ∧ D ≠ S ∧ B ≠ S := by
  rintro l rfl
  exact ⟨D, B, S, ns, rfl, rfl, rfl, ⟨_, _, _, _, hI, .tail _ (.tail _ (.tail _ (.head _))), .tail _ (.tail _ (.tail _ (.tail _ (.head _)))), Nat.ne_of_gt l2, by decide, by decide, by omega⟩, .head _, Nat.ne_of_gt l1.2.2.1, Nat.ne_of_gt l1.2.2.2, Nat.ne_of_gt l2⟩
theorem Bx.but {l l' : Led} {B S D : Addr} {ns : List Int} {i : Int} (h : Bx l B S ns i) (hk : But D l l') (hB : D ≠ B) (hS : D ≠ S) : Bx l' B S ns i :=
  let ⟨vs, cb, cs, t, h1, h2, h3, h4⟩ := h; ⟨vs, cb, cs, t, h1, hk _ h2 (Ne.symm hB), hk _ h3 (Ne.symm hS), h4⟩
theorem no_item {w l} : ∀ k (h : k < (#[] : Array Value).size), Item w l (#[] : Array Value)[k] := fun _ h => absurd h (Nat.not_lt_zero _)
noncomputable def Lst (w : World) (l : Led) (D : Addr) (k : Nat) : Prop := ∃ (items : Array Value) (n : Nat), (D, W.listOf items n) ∈ l ∧ items.size = k ∧ ∀ k (h : k < items.size), Item w l items[k]
theorem Lst.mono {w l l' D k} (hs : Keep l l') (h : Lst w l D k) : Lst w l' D k :=
  let ⟨items, n, h1, h2, h4⟩ := h; ⟨items, n, hs _ h1 (.inr rfl), h2, fun k hk => (h4 k hk).mono hs.ts⟩
theorem Lst.but {w l l' D B k} (h : Lst w l D k) (hs : Sub l l') (hk : But B l l') (hn : D ≠ B) : Lst w l' D k :=
  let ⟨items, n, h1, h2, h4⟩ := h; ⟨items, n, hk _ h1 hn, h2, fun k hk => (h4 k hk).mono hs.ts⟩
theorem Lst.sup {w l l' D k} (h : Lst w l D k) (hs : Sup l l') : Lst w l' D k := h.mono hs.keep
theorem Lst.nil {l D} (h : (D, W.listOf #[] 0) ∈ l) (w : World) : Lst w l D 0 := ⟨#[], 0, h, rfl, no_item⟩
theorem Lst.there {w l D k} (h : Lst w l D k) (h0 : 0 < k) (h1 : k ≤ 20) : There w l D :=
  let ⟨items, n, h1', h2, h4⟩ := h; ⟨items, n, h1', by omega, by omega, h4⟩
section
variable {prog : Program} {w : World} {A : Around} {E : Value → Shared → Prop} {s : Shared} {h₀ : Heap} {L D : Addr} {m : Str → Option Value} {news : Led} {x : Value} {Q : Value → Shared → Prop} {k : Nat}
theorem my_append (hk : k ≤ 100) (F : Fr h₀ L s.heap m) (N : News h₀ L s.heap news) (hL : Lst w news D k) (hx : Item w news x)
    (h : ∀ h' news', Fr h₀ L h' m → News h₀ L h' news' → Lst w news' D (k + 1) → Sub news news' → But D news news' → Q .none { s with heap := h' }) :
    wpAny (model prog w) A (call (.builtin "list.append") [.ref D, x]) Q E s := by
  obtain ⟨items, n, hm, hz, hI⟩ := hL
  refine append_at (hsz := by unfold sizeLine; omega) (N.get hm) fun h' hs ho' => ?_
  obtain ⟨news', F', N', a, b, c⟩ := news_turn F N hm rfl hs ho'
  refine h _ _ F' N' ⟨_, _, a, by rw [Array.size_push, hz], fun j hj => ?_⟩ b c
  rw [Array.getElem_push]
  split
  · exact (hI _ _).mono b.ts
  · exact hx.mono b.ts
end
theorem my_getAppend {prog : Program} {w : World} {A : Around} {E : Value → Shared → Prop} {s : Shared} {h₀ : Heap} {L D : Addr} {news : Led} {k : Nat} {pl : Sem Bool} {Q : Value × List Value → Shared → Prop} (N : News h₀ L s.heap news) (hL : Lst w news D k)
    (h : Q (.builtin "list.append", [.ref D]) s) : wpAny (model prog w) A (getMethod (.ref D) (Str.ofString "append") pl) Q E s :=
  let ⟨_, _, hm, _⟩ := hL
  listMethod_K N hm PySem.F.slot_list_append PySem.F.type_list_append h
theorem Item.mk {w : World} {l : Led} {e : Addr} {c : Nat} {tv pv : Value} {t : Tri} {p : Pnt} (h1 : (e, pair2 tv pv c) ∈ l) (h2 : T3 l tv t) (h3 : Pt w l pv p) (h4 : Good t p) : Item w l (.ref e) := ⟨e, c, tv, pv, t, p, rfl, h1, h2, h3, h4⟩
theorem small_r {x : Int} (h0 : 0 ≤ x) (h1 : x < 3) : Builtin.Range.small 0 (1 + x) 1 = true := by
  have : x = 0 ∨ x = 1 ∨ x = 2 := by omega
  rcases this with rfl | rfl | rfl <;> decide
theorem size_r {x : Int} : Builtin.Range.rangeSize 0 (1 + x) 1 = (((1 + x).toNat : Nat) : Int) := by
  rw [rangeSize_nat]; congr 2; omega
theorem Sub.to {l l' : Led} {I : Addr} {o : Obj} (hI : (I, o) ∈ l) (ho : o.cls ≠ .type "list") (hs : Sub l l') : (I, o) ∈ l' := hs _ hI ho
theorem Lst.cons {w l D k} {q : Addr × Obj} (h : Lst w l D k) : Lst w (q :: l) D k := h.sup fun _ hp => .tail _ hp
noncomputable def J1 (w : World) (B S D : Addr) (ns : List Int) (i : Nat) (m : Str → Option Value) (l : Led) : Prop := m (Str.ofString "box") = some (.ref B) ∧ m (Str.ofString "there") = some (.ref D) ∧ (∃ i', Bx l B S ns i') ∧ Lst w l D i
theorem J1.mono {w B S D ns i m l l'} (hk : Keep l l') (h : J1 w B S D ns i m l) : J1 w B S D ns i m l' := let ⟨a, b, ⟨i', c⟩, d⟩ := h; ⟨a, b, ⟨i', c.mono hk⟩, d.mono hk⟩
theorem fr_pin1 {h₀ h : Heap} {L : Addr} {m : Str → Option Value} {k : Str} {v : Value} (e : m k = some v) (F : Fr h₀ L h m) : Fr h₀ L h (fun y => if y = k then some v else m y) := by
  have e : (fun y => if y = k then some v else m y) = m := funext fun z => by
    by_cases h : z = k
    · rw [if_pos h, h, e]
    · rw [if_neg h]
  rw [e]; exact F
theorem on_g : OnC (some gG) := ⟨gG_R, gG_on⟩
theorem in_g : InRP (some gG) := gG_R
local macro_rules | `(tactic| walk_at "call type:range") => `(tactic| k_extra "m call type:range")
theorem words_18 : True := by
  k_with "m call type:range" => ((k_here; (with_unfolding_all refine range1_rows (by k_asm) (by k_asm) ?_); intro _ _ _ _ _ _ _ _ _))
  k_with "mine Lst" => (first | with_reducible assumption | ((with_reducible refine' Lst.cons ?zh); (case zh => k_extra "mine Lst")) | ((refine' Lst.but ?zh (by with_reducible assumption) (by with_reducible assumption) (by with_reducible assumption)); (case zh => k_extra "mine Lst")) | ((refine' Lst.sup ?zh (by with_reducible assumption)); (case zh => k_extra "mine Lst")))
  trivial
theorem Bx.cons {l : Led} {B S : Addr} {ns : List Int} {i : Int} {q : Addr × Obj} (h : Bx l B S ns i) : Bx (q :: l) B S ns i := h.mono' fun _ hp => .tail _ hp
local macro_rules | `(tactic| walk_at "getMethod ref") => `(tactic| k_extra "m getMethod ref")
local macro_rules | `(tactic| walk_at "call builtin:list.append") => `(tactic| k_extra "m call builtin:list.append")



theorem words_19 : True := by
  k_with "mine Bx" => (first | with_reducible assumption | ((with_reducible refine' Bx.cons ?zb); (case zb => k_extra "mine Bx")) | ((refine' Bx.but ?zb (by with_reducible assumption) (by with_reducible assumption) (by with_reducible assumption)); (case zb => k_extra "mine Bx")) | exact Bx.mono' (by with_reducible assumption) (by k_extra "mine sup"))
  k_with "mine Good" => (first | with_reducible assumption | exact ⟨Maths.form (by with_reducible assumption) (by with_reducible assumption) (by omega) (by unfold pP; omega) (.inl rfl), by with_reducible assumption⟩ | exact ⟨.inr rfl, trivial⟩ | exact ⟨.inl rfl, trivial⟩)
  k_with "m getMethod ref" => ((k_here; (with_reducible show wpAny _ _ (getMethod (Value.ref _) (PySem.Str.ofString "append") _) _ _ _); (refine my_getAppend (by k_asm) (by k_extra "mine Lst") ?_)))
  k_with "m call builtin:list.append" => ((k_here; (refine my_append ?hk (by k_asm) (by k_asm) (by k_extra "mine Lst") (Item.mk (by k_mem) (by k_extra "mine T3") (by k_extra "mine Pt") (by k_extra "mine Good")) ?_); (case hk => omega); intro h' n' F' N' hL' hs' hk'; (try k_sweep)))
  k_with "m pyIter ref" => (refine stop_here ?_)
  k_with "m call ref" => (((with_reducible show wpAny _ _ (call (Value.ref 89) _) _ _ _); refine stop_here ?_))
  trivial
theorem reads_g {h₀ h : Heap} {a : Addr} {x y : Int} {t1 t2 : Tok} {c : Nat} (hk : ∀ b o, h₀.get? b = some o → h.get? b = some o) (e : h₀.get? a = some (tup2 x y t1 t2 c)) : Reads h (.ref a) (.tuple [.int x, .int y]) [] :=
  reads_tuple_at (hk _ _ e) rfl rfl (ReadsAll.cons (.int _ _) (ReadsAll.cons (.int _ _) .nil))
theorem my_neG {w : World} {A : Around} {prog : Program} {s : Shared} {h₀ : Heap} {L a b g1 g2 : Addr} {m : Str → Option Value} {news : Led} {x y gx gy : Int} {t1 t2 t3 t4 u1 u2 u3 u4 : Tok} {c d c1 c2 : Nat} {Q E : Value → Shared → Prop}
    (F : Fr h₀ L s.heap m) (X : (Mine.hd.heap_39 w.params).In h₀) (N : News h₀ L s.heap news)
    (H1 : (a, ({ cls := .type "tuple", data := .seq #[.int x t1, .int y t2, .ref g1] c } : Obj)) ∈ news) (H2 : (b, ({ cls := .type "tuple", data := .seq #[.int x t3, .int y t4, .ref g2] d } : Obj)) ∈ news)
    (e1 : (Mine.hd.heap_39 w.params).lookup g1 = some (tup2 gx gy u1 u2 c1)) (e2 : (Mine.hd.heap_39 w.params).lookup g2 = some (tup2 gx gy u3 u4 c2)) (hu : A.units + 64 < cLine)
    (h : Q (.bool false) s) : wpAny (model prog w) A (compareOp .NotEq (.ref a) (.ref b)) Q E s := by
  refine ne_dataH (reads_tuple_at (N.get H1) rfl rfl (ReadsAll.cons (.int _ _) (ReadsAll.cons (.int _ _) (ReadsAll.cons (reads_g F.keep (X _ _ e1)) .nil)))) (reads_tuple_at (N.get H2) rfl rfl (ReadsAll.cons (.int _ _) (ReadsAll.cons (.int _ _) (ReadsAll.cons (reads_g F.keep (X _ _ e2)) .nil)))) (by rfl) (by rfl) hu ?_
  simpa [PyData.eqv, PyData.eqvAll] using h

theorem words_20 : True := by
  k_with "m compareOp NotEq ref ref" => ((k_here; refine my_neG (by k_asm) (by k_asm) (by k_asm) (by k_mem) (by k_mem) (by k_is) (by k_is) (by first | ktr_units | decide) ?_))
  k_with "m call ref" => ((k_here; k_dflt (((refine' Ct.use ?B ?F ?X ?N ?T ?hk (ct_take _ _ ?h0 ?h1) ?jd ?jn ?_); (case B => k_asm); (case F => k_asm); (case X => k_asm); (case N => k_asm); (case T => k_asm); (case hk => first | exact rfl | assumption); (case h0 => k_extra "mine Bx"); (case h1 => first | decide | omega); (case jd => ktr_room); (case jn => ktr_units); intro v' n' h' tk' F' N' hP'; obtain ⟨x', i', t', hv', hx0', hx1', hb', hs', hk'⟩ := hP'; subst hv'; (try k_sweep); (try dsimp only); (try k_fold)))))
  k_with "m call ref" => ((k_here; k_dflt (((refine' Ct.use ?B ?F ?X ?N ?T ?hk (ct_lifted _ _ ?h0 ?h1) ?jd ?jn ?_); (case B => k_asm); (case F => k_asm); (case X => k_asm); (case N => k_asm); (case T => k_asm); (case hk => first | exact rfl | assumption); (case h0 => with_reducible assumption); (case h1 => first | with_reducible assumption | decide | omega | (constructor <;> first | omega | (unfold pP; omega))); (case jd => ktr_room); (case jn => ktr_units); intro v' n' h' tk' F' N' hP'; obtain ⟨hs', q', ⟨a', hv', ha'⟩, hq', he'⟩ := hP'; (have hC' : OnC (some q') := ⟨hq', he'⟩); (have hR' : InRP (some q') := hq'); subst hv'; (try k_sweep); (try dsimp only); (try k_fold)))))
  k_with "m call ref" => ((k_here; k_dflt (((refine' Ct.use ?B ?F ?X ?N ?T ?hk (ct_form _ _ ?h0 ?h1 ?h2) ?jd ?jn ?_); (case B => k_asm); (case F => k_asm); (case X => k_asm); (case N => k_asm); (case T => k_asm); (case hk => first | exact rfl | assumption); (case h0 => k_extra "mine Pt"); (case h1 => k_extra "mine rangeP"); (case h2 => first | with_reducible assumption | decide | omega | (constructor <;> first | omega | (unfold pP; omega))); (case jd => ktr_room); (case jn => ktr_units); intro v' n' h' tk' F' N' hP'; obtain ⟨hs', a', t1', t2', t3', c', hv', hm'⟩ := hP'; subst hv'; (try k_sweep); (try dsimp only); (try k_fold)))))
  trivial
theorem Good.st {t : Tri} {p : Pnt} (h : Good t p) : Stands t p := h.1
theorem ct_stands {w mean mg mb} {news : Led} {v u : Value} {t : Tri} {p : Pnt} (hv : T3 news v t) (hu : Pt w news u p) (ht : Stands t p) :
    Ct w mean mg mb 122 8 130 news [v, u] (fun r news' => Sup news news' ∧ r = .bool true) := by
  cases p with
  | none =>
    obtain rfl : u = .none := hu
    exact ct_stands0 hv ht
  | some q => exact ct_stands1 hv hu ht
noncomputable def J2 (w : World) (B S D : Addr) (ns : List Int) (i : Nat) (m : Str → Option Value) (l : Led) : Prop := m (Str.ofString "box") = some (.ref B) ∧ m (Str.ofString "there") = some (.ref D) ∧ (∃ i', Bx l B S ns i') ∧ ∃ k, Lst w l D k ∧ 0 < k ∧ k ≤ 5 + i
theorem J2.mono {w B S D ns i m l l'} (hk : Keep l l') (h : J2 w B S D ns i m l) : J2 w B S D ns i m l' := let ⟨a, b, ⟨i', c⟩, k, d, e⟩ := h; ⟨a, b, ⟨i', c.mono hk⟩, k, d.mono hk, e⟩

theorem words_21 : True := by
  k_with "mine There" => (((refine' Lst.there ?zt (by omega) (by omega)); (case zt => k_extra "mine Lst")))
  k_with "m call ref" => ((k_here; k_dflt (((refine' Ct.use ?B ?F ?X ?N ?T ?hk (ct_deed ?h3 ?h0 ?h1 ?h2) ?jd ?jn ?_); (case B => k_asm); (case F => k_asm); (case X => k_asm); (case N => k_asm); (case T => k_asm); (case hk => first | exact rfl | assumption); (case h3 => with_reducible assumption); (case h0 => k_extra "mine Bx"); (case h1 => k_extra "mine There"); (case h2 => with_reducible assumption); (case jd => ktr_room); (case jn => ktr_units); intro v' n' h' tk' F' N' hP'; (obtain ⟨⟨e', c', tv', pv', t', p', hv', hm', ht', hp', hg'⟩, ⟨i', hb'⟩, hs', hk'⟩ := hP'); (have hR' := hg'.1.inR); (have hC' := hg'.2); subst hv'; (try k_sweep); (try dsimp only); (try k_fold)))))
  k_with "m call ref" => ((k_here; k_dflt (((refine' Ct.use ?B ?F ?X ?N ?T ?hk (ct_stands ?h0 ?h1 ?h2) ?jd ?jn ?_); (case B => k_asm); (case F => k_asm); (case X => k_asm); (case N => k_asm); (case T => k_asm); (case hk => first | exact rfl | assumption); (case h0 => k_extra "mine T3"); (case h1 => k_extra "mine Pt"); (case h2 => exact Good.st (by with_reducible assumption)); (case jd => ktr_room); (case jn => ktr_units); intro v' n' h' tk' F' N' hP'; obtain ⟨hs', hv'⟩ := hP'; subst hv'; (try k_sweep); (try dsimp only); (try k_fold)))))
  k_with "m call ref" => ((k_here; k_dflt (((refine' Ct.use ?B ?F ?X ?N ?T ?hk (ct_pairs ?h3 ?h0 ?h1 ?h2) ?jd ?jn ?_); (case B => k_asm); (case F => k_asm); (case X => k_asm); (case N => k_asm); (case T => k_asm); (case hk => first | exact rfl | assumption); (case h3 => with_reducible assumption); (case h0 => k_extra "mine Bx"); (case h1 => k_extra "mine There"); (case h2 => with_reducible assumption); (case jd => ktr_room); (case jn => ktr_units); intro v' n' h' tk' F' N' hP'; (obtain ⟨hv', i', hb'⟩ := hP'); subst hv'; (try k_sweep); (try dsimp only); (try k_fold)))))
  k_with "m call ref" => ((k_here; k_dflt (((refine' Ct.use ?B ?F ?X ?N ?T ?hk (ct_invfine ?h0 ?h1) ?jd ?jn ?_); (case B => k_asm); (case F => k_asm); (case X => k_asm); (case N => k_asm); (case T => k_asm); (case hk => first | exact rfl | assumption); (case h0 => k_extra "mine Bx"); (case h1 => exact Maths.inv (by with_reducible assumption)); (case jd => ktr_room); (case jn => ktr_units); intro v' n' h' tk' F' N' hP'; subst hP'; (try k_sweep); (try dsimp only); (try k_fold)))))
  trivial
theorem good0 : Good (0, 0, 0) none := ⟨Or.inl rfl, trivial⟩
theorem good1 : Good (0, 0, 1) none := ⟨Or.inr rfl, trivial⟩
theorem words_22 : True := by
  k_with "mine Pt" => (exact pt_none)
  k_with "mine Good" => (first | exact good0 | exact good1)
  trivial
theorem law_walk (M : Maths) : PySem.Challenge.rw_jv0010_01.Holds := hd (by
  k_go0
  (all_goals try k_fold)
  k_steps
  unfold Stop
  have hI0 := ‹IntsAre _ (List.take _ _)›
  have hC0 := ‹List.length (List.take _ _) = min _ _›
  rename News _ _ _ _ => N0
  obtain ⟨D, B, S, ns, eD, eB, eS, hb0, hD0, hDB, hDS, hBS⟩ := law_start N0 ‹_› ‹_› hI0 hC0 _ rfl
  subst eD
  subst eB
  subst eS
  have hL0 := Lst.nil hD0
  k_steps
  unfold Stop
  rename World => w0
  rename Sub _ _ => hs1
  rename But _ _ _ => hk1
  have hL1 := Lst.but (hL0 w0) hs1 hk1 hDB
  rename Bx _ _ _ _ _ => hb1
  rename IsRange _ _ _ _ _ _ _ _ => rgX
  rename _ < (3 : Int) => hx3
  rename (0 : Int) ≤ _ => hx0
  clear hb0 hD0 hL0 hs1 hk1
  have hG : ∀ l, T2a w0 l 82 gG := fun l => ⟨_, _, _, .inr (by k_is)⟩
  with_unfolding_all refine my_range (n := _) (J1 w0 B S D ns) ?_ (by rfl) rgX (small_r hx0 hx3) size_r (by k_asm) (by k_asm) ?_ ?_ ?_
  · intro i m l l' hk h
    exact h.mono hk.keep
  · exact ⟨rfl, rfl, ⟨_, hb1⟩, hL1⟩
  · rintro i t m₁ l h₁ tk₁ I o hi ho hI ⟨e1, e2, ⟨i', hb⟩, hL⟩ F₁ N₁
    have F₂ := fr_pin1 (k := Str.ofString "box") (v := .ref B) ((if_neg (ne_of_lit rfl)).trans ((if_neg (ne_of_lit rfl)).trans e1)) (fr_pin1 (k := Str.ofString "there") (v := .ref D) ((if_neg (ne_of_lit rfl)).trans e2) F₁)
    have hroot := M.root
    have hG2 := hG l
    have hoG := on_g
    have hiG := in_g
    have hi3 : i < 3 := by omega
    clear F₁ rgX
    k_steps
    all_goals dsimp only [RgPost]
    all_goals exact ⟨_, _, _, _, rfl, by k_asm, by k_asm, Sub.to hI ho (by k_extra "mine sub"), ⟨by rfl, by rfl, ⟨_, by k_extra "mine Bx"⟩, by k_extra "mine Lst"⟩⟩
  · rintro m₁ l h₁ tk₁ ⟨e1, e2, ⟨i', hb⟩, hL⟩ F₁ N₁
    have F₂ := fr_pin1 (k := Str.ofString "box") (v := .ref B) ((if_neg (ne_of_lit rfl)).trans e1) (fr_pin1 (k := Str.ofString "there") (v := .ref D) e2 F₁)
    clear rgX F₁
    k_steps
    unfold Stop
    rename IsRange _ _ _ _ _ _ _ _ => rgX
    with_unfolding_all refine my_range (n := 10) (J2 w0 B S D ns) ?_ (by rfl) rgX (by decide) (by decide) (by k_asm) (by k_asm) ?_ ?_ ?_
    · intro i m l l' hk h
      exact h.mono hk.keep
    · exact ⟨by rfl, by rfl, ⟨_, by k_extra "mine Bx"⟩, _, by k_extra "mine Lst", by omega, by omega⟩
    · (try clear hb); (try clear hL); (try clear hL1); (try clear hb1); (try clear e1); (try clear e2)
      rintro i t m₁ l h₁ tk₁ I o hi ho hI ⟨e1, e2, ⟨i', hb⟩, k, hL, hk0, hk1⟩ F₁ N₁
      have F₂ := fr_pin1 (k := Str.ofString "box") (v := .ref B) ((if_neg (ne_of_lit rfl)).trans ((if_neg (ne_of_lit rfl)).trans e1)) (fr_pin1 (k := Str.ofString "there") (v := .ref D) ((if_neg (ne_of_lit rfl)).trans e2) F₁)
      clear F₁ rgX
      obtain ⟨vs, cb, cs, tb, hb1, hb2, hb3, hb4, hb5, hb6, hb7⟩ := id hb
      k_steps
      all_goals dsimp only [RgPost]
      all_goals exact ⟨_, _, _, _, rfl, by k_asm, by k_asm, Sub.to hI ho (by k_extra "mine sub"), ⟨by rfl, by rfl, ⟨_, by k_extra "mine Bx"⟩, _, by k_extra "mine Lst", by omega, by omega⟩⟩
    · (try clear hb); (try clear hL); (try clear hL1); (try clear hb1); (try clear e1); (try clear e2)
      rintro m₁ l h₁ tk₁ ⟨e1, e2, ⟨i', hb⟩, k, hL, hk0, hk1⟩ F₁ N₁
      have F₂ := fr_pin1 (k := Str.ofString "box") (v := .ref B) ((if_neg (ne_of_lit rfl)).trans e1) (fr_pin1 (k := Str.ofString "there") (v := .ref D) e2 F₁)
      clear rgX F₁
      k_steps
      done)
end Mine
namespace MineM
/-- a prime -/
noncomputable def Pr (n : Nat) : Prop := 2 ≤ n ∧ ∀ d, d ∣ n → d = 1 ∨ d = n
theorem Pr.cop {p a : Nat} (h : Pr p) (ha : ¬ p ∣ a) : Nat.Coprime p a := by
  rcases h.2 _ (Nat.gcd_dvd_left p a) with e | e
  · exact e
  · exact absurd (e ▸ Nat.gcd_dvd_right p a) ha
theorem Pr.mul {p a b : Nat} (h : Pr p) (hd : p ∣ a * b) : p ∣ a ∨ p ∣ b := by
  by_cases ha : p ∣ a
  · exact .inl ha
  · exact .inr ((h.cop ha).dvd_of_dvd_mul_left hd)
noncomputable def ch : Nat → Nat → Nat
  | _, 0 => 1
  | 0, _ + 1 => 0
  | n + 1, k + 1 => ch n k + ch n (k + 1)
theorem ch_z (n : Nat) : ch n 0 = 1 := by cases n <;> rfl
theorem ch_s (n k : Nat) : ch (n + 1) (k + 1) = ch n k + ch n (k + 1) := rfl
theorem ch_gt : ∀ n k, n < k → ch n k = 0
  | 0, k + 1, _ => rfl
  | n + 1, k + 1, h => by rw [ch_s, ch_gt n k (by omega), ch_gt n (k + 1) (by omega)]
theorem ch_self : ∀ n, ch n n = 1
  | 0 => rfl
  | n + 1 => by rw [ch_s, ch_self n, ch_gt n (n + 1) (by omega)]
theorem ch_mul : ∀ n k, (k + 1) * ch (n + 1) (k + 1) = (n + 1) * ch n k
  | 0, 0 => rfl
  | 0, k + 1 => by simp [ch]
  | n + 1, 0 => by
    have := ch_mul n 0
    rw [ch_z] at this ⊢
    rw [ch_s, ch_z]
    omega
  | n + 1, k + 1 => by
    have h1 := ch_mul n k
    have h2 := ch_mul n (k + 1)
    rw [ch_s (n + 1) (k + 1), Nat.mul_add, h2]
    have h3 : (k + 1 + 1) * ch (n + 1) (k + 1) = (n + 1) * ch n k + ch (n + 1) (k + 1) := by rw [Nat.succ_mul, h1]
    rw [h3, ch_s n k]
    simp only [Nat.add_mul, Nat.mul_add]
    omega
noncomputable def sm (f : Nat → Nat) : Nat → Nat
  | 0 => 0
  | n + 1 => sm f n + f n
theorem sm_front (f : Nat → Nat) : ∀ n, sm f (n + 1) = f 0 + sm (fun k => f (k + 1)) n
  | 0 => by simp [sm]
  | n + 1 => by
    have := sm_front f n
    show sm f (n + 1) + f (n + 1) = f 0 + (sm (fun k => f (k + 1)) n + f (n + 1))
    omega
theorem sm_add (f g : Nat → Nat) : ∀ n, sm (fun k => f k + g k) n = sm f n + sm g n
  | 0 => rfl
  | n + 1 => by
    have := sm_add f g n
    simp only [sm] at *
    omega
theorem sm_mul (c : Nat) (f : Nat → Nat) : ∀ n, sm (fun k => c * f k) n = c * sm f n
  | 0 => rfl
  | n + 1 => by
    have := sm_mul c f n
    simp only [sm] at *
    rw [this, Nat.mul_add]
theorem sm_dvd (p : Nat) (f : Nat → Nat) : ∀ n, (∀ k, k < n → p ∣ f k) → p ∣ sm f n
  | 0, _ => Nat.dvd_zero p
  | n + 1, h => (Nat.dvd_add_right (sm_dvd p f n fun k hk => h k (by omega))).mpr (h n (by omega))
theorem sm_cong (f g : Nat → Nat) : ∀ n, (∀ k, k < n → f k = g k) → sm f n = sm g n
  | 0, _ => rfl
  | n + 1, h => by simp only [sm]; rw [sm_cong f g n fun k hk => h k (by omega), h n (by omega)]
theorem binom (a : Nat) : ∀ n, (a + 1) ^ n = sm (fun k => ch n k * a ^ k) (n + 1)
  | 0 => by simp [sm, ch]
  | n + 1 => by
    have ih := binom a n
    rw [Nat.pow_succ, Nat.mul_add, Nat.mul_one, ih, sm_front (fun k => ch (n + 1) k * a ^ k)]
    have e1 : sm (fun k => ch (n + 1) (k + 1) * a ^ (k + 1)) (n + 1) = sm (fun k => a * (ch n k * a ^ k)) (n + 1) + sm (fun k => ch n (k + 1) * a ^ (k + 1)) (n + 1) := by
      rw [← sm_add]
      refine sm_cong _ _ _ fun k _ => ?_
      rw [ch_s, Nat.add_mul]
      congr 1
      rw [Nat.pow_succ, Nat.mul_comm a, Nat.mul_assoc]
    rw [e1, sm_mul]
    have e2 := sm_front (fun k => ch n k * a ^ k) (n + 1)
    have e3 : sm (fun k => ch n k * a ^ k) (n + 1 + 1) = sm (fun k => ch n k * a ^ k) (n + 1) := by
      show _ + ch n (n + 1) * a ^ (n + 1) = _
      rw [ch_gt n (n + 1) (by omega), Nat.zero_mul, Nat.add_zero]
    rw [e3] at e2
    simp only [ch_z, Nat.pow_zero, Nat.mul_one] at e2 ⊢
    rw [Nat.mul_comm _ a]
    omega
theorem fermat' {p : Nat} (hp : Pr p) (a : Nat) : a ^ p % p = a % p := by
  have h2 := hp.1
  obtain ⟨q, rfl⟩ : ∃ q, p = q + 1 := ⟨p - 1, by omega⟩
  induction a with
  | zero => rw [Nat.zero_pow (by omega)]
  | succ a ih =>
    rw [binom, sm_front]
    simp only [sm, ch_self, ch_z, Nat.pow_zero, Nat.mul_one, Nat.one_mul]
    have hd : q + 1 ∣ sm (fun k => ch (q + 1) (k + 1) * a ^ (k + 1)) q := sm_dvd _ _ _ fun k hk => by
      refine Nat.dvd_mul_right_of_dvd ?_ _
      have h3 : q + 1 ∣ (k + 1) * ch (q + 1) (k + 1) := by rw [ch_mul]; exact Nat.dvd_mul_right _ _
      rcases hp.mul h3 with h | h
      · exact absurd (Nat.le_of_dvd (by omega) h) (by omega)
      · exact h
    obtain ⟨c, hc⟩ := hd
    rw [hc, show 1 + ((q + 1) * c + a ^ (q + 1)) = (1 + a ^ (q + 1)) + (q + 1) * c by omega, Nat.add_mul_mod_self_left, Nat.add_mod, ih, ← Nat.add_mod, Nat.add_comm]
theorem fermat {p : Nat} (hp : Pr p) {a : Nat} (ha : ¬ p ∣ a) : a ^ (p - 1) % p = 1 := by
  have h2 := hp.1
  obtain ⟨q, rfl⟩ : ∃ q, p = q + 1 := ⟨p - 1, by omega⟩
  have h := fermat' hp a
  have h0 : 0 < a := by
    rcases Nat.eq_zero_or_pos a with e | e
    · exact absurd (e ▸ Nat.dvd_zero _) ha
    · exact e
  have h1 : 1 ≤ a ^ q := Nat.pow_pos h0
  have e : a ^ (q + 1) = a + a * (a ^ q - 1) := by
    rw [Nat.pow_succ, Nat.mul_comm]
    calc a * a ^ q = a * (1 + (a ^ q - 1)) := by congr 1; omega
      _ = _ := by rw [Nat.mul_add, Nat.mul_one]
  have hd : q + 1 ∣ a * (a ^ q - 1) := by
    have := Nat.sub_mod_eq_zero_of_mod_eq h
    rw [e, Nat.add_sub_cancel_left] at this
    exact Nat.dvd_of_mod_eq_zero this
  rcases hp.mul hd with h' | h'
  · exact absurd h' ha
  · obtain ⟨c, hc⟩ := h'
    have : a ^ q = 1 + (q + 1) * c := by omega
    rw [Nat.add_sub_cancel, this, Nat.add_mul_mod_self_left, Nat.mod_eq_of_lt (by omega)]
theorem pow_gcd {b r : Nat} (h2 : 2 ≤ r) (m n : Nat) : b ^ m % r = 1 → b ^ n % r = 1 → b ^ Nat.gcd m n % r = 1 := by
  induction m, n using Nat.gcd.induction with
  | H0 n => intro _ h; rwa [Nat.gcd_zero_left]
  | H1 m n hm ih =>
    intro h1 h3
    rw [Nat.gcd_rec]
    refine ih ?_ h1
    rw [← Nat.div_add_mod n m, Nat.pow_add, Nat.pow_mul, Nat.mul_mod, Nat.pow_mod, h1, Nat.one_pow, Nat.mod_eq_of_lt (show 1 < r by omega), Nat.one_mul, Nat.mod_mod] at h3
    exact h3
theorem pock {N q m a r : Nat} (hN : 0 < N) (hq : Pr q) (h1 : a ^ (q * m) % N = 1) (h2 : Nat.gcd (a ^ m % N + (N - 1)) N = 1) (hr : Pr r) (hrN : r ∣ N) : q ∣ r - 1 := by
  have r2 := hr.1
  by_cases hd : q ∣ r - 1
  · exact hd
  exfalso
  have hb : (a ^ m) ^ q % r = 1 := by
    rw [← Nat.pow_mul, Nat.mul_comm m q, ← Nat.mod_mod_of_dvd _ hrN, h1, Nat.mod_eq_of_lt (by omega)]
  have hra : ¬ r ∣ a ^ m := fun h => by
    have h3 : r ∣ (a ^ m) ^ q := by
      have := hq.1
      obtain ⟨k, rfl⟩ : ∃ k, q = k + 1 := ⟨q - 1, by omega⟩
      rw [Nat.pow_succ]
      exact Nat.dvd_mul_left_of_dvd h _
    rw [Nat.mod_eq_zero_of_dvd h3] at hb
    omega
  have hg := pow_gcd r2 _ _ hb (fermat hr hra)
  rw [hq.cop hd, Nat.pow_one] at hg
  have : r ∣ Nat.gcd (a ^ m % N + (N - 1)) N := by
    refine Nat.dvd_gcd (Nat.dvd_of_mod_eq_zero ?_) hrN
    have e1 : (a ^ m % N + (N - 1)) % r = (1 + (N - 1)) % r := by
      rw [Nat.add_mod (a ^ m % N), Nat.mod_mod_of_dvd _ hrN, hg, Nat.add_mod 1 (N - 1), Nat.mod_eq_of_lt (show 1 < r by omega)]
    rw [e1, show 1 + (N - 1) = N by omega]
    exact Nat.mod_eq_zero_of_dvd hrN
  rw [h2] at this
  have := Nat.le_of_dvd (by omega) this
  omega
theorem has_prime : ∀ n, 2 ≤ n → ∃ r, Pr r ∧ r ∣ n := by
  intro n
  induction n using Nat.strongRecOn with
  | ind n ih =>
    intro h
    by_cases hp : ∀ d, d ∣ n → d = 1 ∨ d = n
    · exact ⟨n, ⟨h, hp⟩, Nat.dvd_refl n⟩
    · obtain ⟨d, hd⟩ := Classical.not_forall.mp hp
      obtain ⟨h1, h2⟩ := Classical.not_imp.mp hd
      have h3 := Nat.le_of_dvd (by omega) h1
      have h4 : d ≠ 0 := fun e => by subst e; have := Nat.eq_zero_of_zero_dvd h1; omega
      have h5 : d ≠ 1 := fun e => h2 (.inl e)
      have h6 : d ≠ n := fun e => h2 (.inr e)
      obtain ⟨r, hr, hrd⟩ := ih d (by omega) (by omega)
      exact ⟨r, hr, Nat.dvd_trans hrd h1⟩
theorem prime_of {N f : Nat} (h2 : 2 ≤ N) (hf : ∀ r, Pr r → r ∣ N → f ∣ r - 1) (hb : N < (f + 1) * (f + 1)) : Pr N := by
  refine ⟨h2, fun d hd => ?_⟩
  obtain ⟨e, he⟩ := hd
  have big : ∀ x, 2 ≤ x → x ∣ N → f + 1 ≤ x := fun x hx hxN => by
    obtain ⟨r, hr, hrx⟩ := has_prime x hx
    have h3 := hf r hr (Nat.dvd_trans hrx hxN)
    have h4 := hr.1
    have h5 := Nat.le_of_dvd (by omega) h3
    have h6 := Nat.le_of_dvd (by omega) hrx
    omega
  have d0 : d ≠ 0 := fun h => by subst h; omega
  have e0 : e ≠ 0 := fun h => by subst h; omega
  by_cases d1 : d = 1
  · exact .inl d1
  by_cases e1 : e = 1
  · right; rw [he, e1, Nat.mul_one]
  exfalso
  have hd' := big d (by omega) ⟨e, he⟩
  have he' := big e (by omega) ⟨d, by rw [he, Nat.mul_comm]⟩
  have := Nat.mul_le_mul hd' he'
  omega
/-- the power modulo n, by squares -/
noncomputable def pm : Nat → Nat → Nat → Nat → Nat
  | 0, _, n, _ => 1 % n
  | k + 1, b, n, e => if e % 2 = 1 then pm k (b * b % n) n (e / 2) * b % n else pm k (b * b % n) n (e / 2)
theorem pm_eq : ∀ k b n e, e < 2 ^ k → pm k b n e = b ^ e % n
  | 0, b, n, e, h => by
    have : e = 0 := by simpa using h
    rw [this]; rfl
  | k + 1, b, n, e, h => by
    have ih := pm_eq k (b * b % n) n (e / 2) (by rw [Nat.pow_succ] at h; omega)
    unfold pm
    rw [ih, ← Nat.pow_mod, ← Nat.pow_two, ← Nat.pow_mul]
    split
    · conv => rhs; rw [show e = 2 * (e / 2) + 1 by omega, Nat.pow_succ, Nat.mul_mod]
      conv => lhs; rw [Nat.mul_mod, Nat.mod_mod]
    · conv => rhs; rw [show e = 2 * (e / 2) by omega]
/-- small primes -/
noncomputable def chk (n : Nat) : Nat → Bool
  | 0 => true
  | k + 1 => (decide (k < 2) || decide (n % k ≠ 0)) && chk n k
theorem chk_all {n : Nat} : ∀ k, chk n k = true → ∀ d, 2 ≤ d → d < k → n % d ≠ 0
  | 0, _, d, _, h => absurd h (by omega)
  | k + 1, hc, d, h2, h => by
    simp only [chk, Bool.and_eq_true, Bool.or_eq_true, decide_eq_true_eq] at hc
    by_cases e : d = k
    · subst e
      rcases hc.1 with h' | h'
      · omega
      · exact h'
    · exact chk_all k hc.2 d h2 (by omega)
theorem small_prime {n : Nat} (k : Nat) (h2 : 2 ≤ n) (hk : n < k * k) (hc : chk n k = true) : Pr n := by
  refine ⟨h2, fun d hd => ?_⟩
  obtain ⟨e, he⟩ := hd
  have d0 : d ≠ 0 := fun h => by subst h; omega
  have e0 : e ≠ 0 := fun h => by subst h; omega
  by_cases d1 : d = 1
  · exact .inl d1
  by_cases e1 : e = 1
  · right; rw [he, e1, Nat.mul_one]
  exfalso
  have a1 : k ≤ d := Nat.le_of_not_lt fun h => chk_all k hc d (by omega) h (Nat.mod_eq_zero_of_dvd ⟨e, he⟩)
  have a2 : k ≤ e := Nat.le_of_not_lt fun h => chk_all k hc e (by omega) h (Nat.mod_eq_zero_of_dvd ⟨d, by rw [he, Nat.mul_comm]⟩)
  have := Nat.mul_le_mul a1 a2
  omega
theorem pock1 {N q m a : Nat} (hN : N = q * m + 1) (h2 : 2 ≤ N) (hb : N < (q + 1) * (q + 1)) (h1 : pm 300 a N (q * m) = 1) (hg : Nat.gcd (pm 300 a N m + (N - 1)) N = 1) (hl : q * m < 2 ^ 300) (hl' : m < 2 ^ 300) (hq : Pr q) : Pr N := by
  rw [pm_eq _ _ _ _ hl] at h1
  rw [pm_eq _ _ _ _ hl'] at hg
  exact prime_of h2 (fun r hr hrN => pock (by omega) hq h1 hg hr hrN) hb
theorem dvd3 {a b c x : Nat} (h1 : Nat.gcd a b = 1) (h2 : Nat.gcd (a * b) c = 1) (ha : a ∣ x) (hb : b ∣ x) (hc : c ∣ x) : a * b * c ∣ x :=
  Nat.Coprime.mul_dvd_of_dvd_of_dvd h2 (Nat.Coprime.mul_dvd_of_dvd_of_dvd h1 ha hb) hc
theorem pock3 {N q1 m1 a1 q2 m2 a2 q3 m3 a3 : Nat} (h2 : 2 ≤ N) (hb : N < (q1 * q2 * q3 + 1) * (q1 * q2 * q3 + 1)) (c1 : Nat.gcd q1 q2 = 1) (c2 : Nat.gcd (q1 * q2) q3 = 1)
    (e1 : N = q1 * m1 + 1) (h1 : pm 300 a1 N (q1 * m1) = 1) (g1 : Nat.gcd (pm 300 a1 N m1 + (N - 1)) N = 1) (l1 : q1 * m1 < 2 ^ 300)
    (e2 : N = q2 * m2 + 1) (h3 : pm 300 a2 N (q2 * m2) = 1) (g2 : Nat.gcd (pm 300 a2 N m2 + (N - 1)) N = 1) (l2 : q2 * m2 < 2 ^ 300)
    (e3 : N = q3 * m3 + 1) (h4 : pm 300 a3 N (q3 * m3) = 1) (g3 : Nat.gcd (pm 300 a3 N m3 + (N - 1)) N = 1) (l3 : q3 * m3 < 2 ^ 300)
    (l1' : m1 < 2 ^ 300 ∧ m2 < 2 ^ 300 ∧ m3 < 2 ^ 300) (_ : 0 < N) (p1 : Pr q1) (p2 : Pr q2) (p3 : Pr q3) : Pr N := by
  rw [pm_eq _ _ _ _ l1] at h1
  rw [pm_eq _ _ _ _ l2] at h3
  rw [pm_eq _ _ _ _ l3] at h4
  rw [pm_eq _ _ _ _ l1'.1] at g1
  rw [pm_eq _ _ _ _ l1'.2.1] at g2
  rw [pm_eq _ _ _ _ l1'.2.2] at g3
  exact prime_of h2 (fun r hr hrN => dvd3 c1 c2 (pock (by omega) p1 h1 g1 hr hrN) (pock (by omega) p2 h3 g2 hr hrN) (pock (by omega) p3 h4 g3 hr hrN)) hb
theorem pr_7 : Pr 7 := small_prime 3 (by decide) (by decide) (by decide +kernel)
theorem pr_29 : Pr 29 := small_prime 6 (by decide) (by decide) (by decide +kernel)
theorem pr_53 : Pr 53 := small_prime 8 (by decide) (by decide) (by decide +kernel)
theorem pr_1206781 : Pr 1206781 := small_prime 1099 (by decide) (by decide) (by decide +kernel)
theorem pr_96557 : Pr 96557 := small_prime 311 (by decide) (by decide) (by decide +kernel)
theorem pr_7240687 : Pr 7240687 := pock1 (q := 1206781) (m := 6) (a := 2) (by decide +kernel) (by decide +kernel) (by decide +kernel) (by decide +kernel) (by decide +kernel) (by decide +kernel) (by decide +kernel) pr_1206781
theorem pr_107590001 : Pr 107590001 := pock3 (q1 := 53) (m1 := 2030000) (a1 := 2) (q2 := 29) (m2 := 3710000) (a2 := 2) (q3 := 7) (m3 := 15370000) (a3 := 2) (by decide +kernel) (by decide +kernel) (by decide +kernel) (by decide +kernel) (by decide +kernel) (by decide +kernel) (by decide +kernel) (by decide +kernel) (by decide +kernel) (by decide +kernel) (by decide +kernel) (by decide +kernel) (by decide +kernel) (by decide +kernel) (by decide +kernel) (by decide +kernel) (by decide +kernel) (by decide +kernel) pr_53 pr_29 pr_7
theorem pr_q2 : Pr 255515944373312847190720520512484175977 := pock3 (q1 := 107590001) (m1 := 2374904191824599455024826335976) (a1 := 2) (q2 := 7240687) (m2 := 35288908963101546467996824129048) (a2 := 2) (q3 := 96557) (m3 := 2646270538369179315748423423599368) (a3 := 2) (by decide +kernel) (by decide +kernel) (by decide +kernel) (by decide +kernel) (by decide +kernel) (by decide +kernel) (by decide +kernel) (by decide +kernel) (by decide +kernel) (by decide +kernel) (by decide +kernel) (by decide +kernel) (by decide +kernel) (by decide +kernel) (by decide +kernel) (by decide +kernel) (by decide +kernel) (by decide +kernel) pr_107590001 pr_7240687 pr_96557
theorem pr_q1 : Pr 205115282021455665897114700593932402728804164701536103180137503955397371 := pock1 (q := 255515944373312847190720520512484175977) (m := 802749442992798076634733441528810) (a := 2) (by decide +kernel) (by decide +kernel) (by decide +kernel) (by decide +kernel) (by decide +kernel) (by decide +kernel) (by decide +kernel) pr_q2
theorem pr_p : Pr 115792089237316195423570985008687907853269984665640564039457584007908834671663 := pock1 (q := 205115282021455665897114700593932402728804164701536103180137503955397371) (m := 564522) (a := 2) (by decide +kernel) (by decide +kernel) (by decide +kernel) (by decide +kernel) (by decide +kernel) (by decide +kernel) (by decide +kernel) pr_q1
end MineM
namespace MineM
section
variable {K : Type} [Lean.Grind.CommRing K]
noncomputable abbrev PK (K : Type) := Option (K × K)
structure Fl (K : Type) [Lean.Grind.CommRing K] : Prop where
  dom : ∀ a b : K, a * b = 0 → a = 0 ∨ b = 0
  two : (2 : K) ≠ 0
  root : ∀ x : K, x * x * x + 7 ≠ 0
noncomputable def On : PK K → Prop
  | none => True
  | some p => p.2 * p.2 = p.1 * p.1 * p.1 + 7
noncomputable def ng : PK K → PK K
  | none => none
  | some p => some (p.1, -p.2)
inductive R : PK K → PK K → PK K → Prop
  | zl (Q : PK K) : R none Q Q
  | zr (P : PK K) : R P none P
  | op (x y y' : K) (h : y' = -y) : R (some (x, y)) (some (x, y')) none
  | sl (x1 y1 x2 y2 t x3 y3 : K) (h1 : t * (x1 - x2) = y1 - y2) (h2 : t * (y1 + y2) = x1 * x1 + x1 * x2 + x2 * x2) (h3 : ¬ (x1 = x2 ∧ y1 + y2 = 0)) (h4 : x3 = t * t - x1 - x2) (h5 : y3 = t * (x1 - x3) - y1) : R (some (x1, y1)) (some (x2, y2)) (some (x3, y3))
theorem ng_ng (P : PK K) : ng (ng P) = P := by
  cases P with
  | none => rfl
  | some p => 
    obtain ⟨x, y⟩ := p
    have : - -y = y := by grind
    simp [ng, this]
theorem ng_on {P : PK K} (h : On P) : On (ng P) := by
  cases P with
  | none => exact h
  | some p => simp only [On, ng] at *; grind
theorem y_ne (F : Fl K) {x y : K} (h : On (some (x, y))) : y ≠ 0 := by
  intro e
  simp only [On] at h
  exact F.root x (by grind)
theorem yy_ne (F : Fl K) {x y : K} (h : On (some (x, y))) : y + y ≠ 0 := by
  intro e
  rcases F.dom 2 y (by grind) with h' | h'
  · exact F.two h'
  · exact y_ne F h h'
theorem sl_eq (F : Fl K) {x1 y1 x2 y2 t u : K} (h1 : t * (x1 - x2) = y1 - y2) (h2 : t * (y1 + y2) = x1 * x1 + x1 * x2 + x2 * x2) (h3 : ¬ (x1 = x2 ∧ y1 + y2 = 0))
    (g1 : u * (x1 - x2) = y1 - y2) (g2 : u * (y1 + y2) = x1 * x1 + x1 * x2 + x2 * x2) : t = u := by
  by_cases e : t - u = 0
  · grind
  · rcases F.dom (t - u) (x1 - x2) (by grind) with a | a
    · exact absurd a e
    · rcases F.dom (t - u) (y1 + y2) (by grind) with b | b
      · exact absurd b e
      · exact absurd ⟨by grind, b⟩ h3
theorem R.func (F : Fl K) {P Q S S' : PK K} (h : R P Q S) (h' : R P Q S') : S = S' := by
  cases h with
  | zl => cases h' <;> rfl
  | zr => cases h' <;> rfl
  | op x y y' e =>
    cases h' with
    | op => rfl
    | sl _ _ _ _ t x3 y3 h1 h2 h3 h4 h5 => exact absurd ⟨rfl, by grind⟩ h3
  | sl x1 y1 x2 y2 t x3 y3 h1 h2 h3 h4 h5 =>
    cases h' with
    | op _ _ _ e => exact absurd ⟨rfl, by grind⟩ h3
    | sl _ _ _ _ u u3 v3 g1 g2 g3 g4 g5 =>
      have := sl_eq F h1 h2 h3 g1 g2
      subst this
      have e3 : x3 = u3 := by rw [h4, g4]
      subst e3
      rw [h5, g5]
theorem R.comm {P Q S : PK K} (h : R P Q S) : R Q P S := by
  cases h with
  | zl => exact .zr _
  | zr => exact .zl _
  | op x y y' e => exact .op _ _ _ (by grind)
  | sl x1 y1 x2 y2 t x3 y3 h1 h2 h3 h4 h5 => exact .sl _ _ _ _ t _ _ (by grind) (by grind) (fun ⟨a, b⟩ => h3 ⟨a.symm, by grind⟩) (by grind) (by grind)
theorem R.on {P Q S : PK K} (h : R P Q S) (hP : On P) (hQ : On Q) : On S := by
  cases h with
  | zl => exact hQ
  | zr => exact hP
  | op => trivial
  | sl x1 y1 x2 y2 t x3 y3 h1 h2 h3 h4 h5 =>
    simp only [On] at *
    grind
theorem can1 {x2 y2 x3 y3 u xF yF : K} (h1 : u * (x2 - x3) = y2 - y3) (h2 : u * (y2 + y3) = x2 * x2 + x2 * x3 + x3 * x3) (h4 : xF = u * u - x2 - x3) (h5 : yF = u * (x2 - xF) - y2) :
    -u * (yF + -y2) = xF * xF + xF * x2 + x2 * x2 := by
  subst h4 h5
  grind
theorem can2 {x2 x3 u xF : K} (h4 : xF = u * u - x2 - x3) : x3 = -u * -u - xF - x2 := by grind
theorem can3 {x2 y2 x3 y3 u xF yF : K} (h1 : u * (x2 - x3) = y2 - y3) (h5 : yF = u * (x2 - xF) - y2) : y3 = -u * (xF - x3) - yF := by grind
theorem can4 {x2 y2 u xF yF : K} (h5 : yF = u * (x2 - xF) - y2) : -u * (xF - x2) = yF - -y2 := by grind
theorem can5 {x2 y2 u xF yF : K} (h5 : yF = u * (x2 - xF) - y2) (a : xF = x2) (b : yF + -y2 = 0) : y2 + y2 = 0 := by grind
theorem R.cancel (F : Fl K) {B C S : PK K} (hB : On B) (h : R B C S) : R S (ng B) C := by
  cases h with
  | zl => exact .zr _
  | zr =>
    cases B with
    | none => exact .zl _
    | some p => exact .op _ _ _ rfl
  | op x y y' e => rw [e]; exact .zl _
  | sl x2 y2 x3 y3 u xF yF h1 h2 h3 h4 h5 =>
    exact .sl _ _ _ _ (-u) _ _ (can4 h5) (can1 h1 h2 h4 h5) (fun ⟨a, b⟩ => yy_ne F (x := x2) (y := y2) hB (can5 h5 a b)) (can2 h4) (can3 h1 h5)
theorem id_a (x1 y1 x2 y2 x3 y3 t u v : K) : ((u - t) * (u + v) - (x3 - x1)) * (x1 - (u * u - x2 - x3)) =
    (u - t) * (v * (x1 - (u * u - x2 - x3)) - (y1 - (u * (x2 - (u * u - x2 - x3)) - y2))) - u * (t * (x1 - x2) - (y1 - y2)) - (t * (y1 + y2) - (x1 * x1 + x1 * x2 + x2 * x2))
    - u * (u * (x2 - x3) - (y2 - y3)) + (u * (y2 + y3) - (x2 * x2 + x2 * x3 + x3 * x3)) := by grind
theorem id_b (x1 x2 y2 x3 t u v : K) : ((u - t) * (u + v) - (x3 - x1)) * ((y2 + t * (x1 - x2)) + (u * (x2 - (u * u - x2 - x3)) - y2)) =
    (u - t) * (v * ((y2 + t * (x1 - x2)) + (u * (x2 - (u * u - x2 - x3)) - y2)) - (x1 * x1 + x1 * (u * u - x2 - x3) + (u * u - x2 - x3) * (u * u - x2 - x3)))
    - u * (t * ((y2 + t * (x1 - x2)) + y2) - (x1 * x1 + x1 * x2 + x2 * x2)) + t * (u * (y2 + (y2 - u * (x2 - x3))) - (x2 * x2 + x2 * x3 + x3 * x3)) := by grind
theorem sb {a b : K} (h : a = b) : a - b = 0 := by grind
theorem bs {a b : K} (h : a - b = 0) : a = b := by grind
theorem zz0 (a b c : K) : a * 0 - b * 0 - 0 - c * 0 + 0 = 0 := by grind
theorem zz1 (a b c : K) : a * 0 - b * 0 + c * 0 = 0 := by grind
theorem e_y1 {a b c d : K} (h : a * b = c - d) : c = d + a * b := by grind
theorem e_y3 {a b c d : K} (h : a * b = c - d) : d = c - a * b := by grind
theorem key (F : Fl K) {x1 y1 x2 y2 x3 y3 t u v xF yF : K}
    (t1 : t * (x1 - x2) = y1 - y2) (t2 : t * (y1 + y2) = x1 * x1 + x1 * x2 + x2 * x2)
    (u1 : u * (x2 - x3) = y2 - y3) (u2 : u * (y2 + y3) = x2 * x2 + x2 * x3 + x3 * x3)
    (f1 : xF = u * u - x2 - x3) (f2 : yF = u * (x2 - xF) - y2)
    (v1 : v * (x1 - xF) = y1 - yF) (v2 : v * (y1 + yF) = x1 * x1 + x1 * xF + xF * xF) (v3 : ¬ (x1 = xF ∧ y1 + yF = 0)) :
    (u - t) * (u + v) - (x3 - x1) = 0 := by
  have e1 := e_y1 t1
  have e3 := e_y3 u1
  subst f1 f2
  have a : ((u - t) * (u + v) - (x3 - x1)) * (x1 - (u * u - x2 - x3)) = 0 := by
    rw [id_a x1 y1 x2 y2 x3 y3 t u v, sb t1, sb t2, sb u1, sb u2, sb v1]
    exact zz0 _ _ _
  have b : ((u - t) * (u + v) - (x3 - x1)) * (y1 + (u * (x2 - (u * u - x2 - x3)) - y2)) = 0 := by
    subst e1 e3
    rw [id_b x1 x2 y2 x3 t u v, sb t2, sb u2, sb v2]
    exact zz1 _ _ _
  rcases F.dom _ _ a with h | h
  · exact h
  · rcases F.dom _ _ b with g | g
    · exact g
    · exact absurd ⟨bs h, g⟩ v3
theorem fin_x (x1 x2 x3 t u v : K) : (u + v - t) * (u + v - t) - (t * t - x1 - x2) - x3 = v * v - x1 - (u * u - x2 - x3) + 2 * ((u - t) * (u + v) - (x3 - x1)) := by grind
theorem fin_y (x1 x2 x3 y1 y2 t u v xD xF xG yF : K) (hD : xD = t * t - x1 - x2) (hF : xF = u * u - x2 - x3) (hG : xG = v * v - x1 - xF) (hF' : yF = u * (x2 - xF) - y2) (h1 : y1 = y2 + t * (x1 - x2)) :
    (u + v - t) * (xD - xG) - (t * (x1 - xD) - y1) = v * (x1 - xG) - y1 - (t + v) * ((u - t) * (u + v) - (x3 - x1)) - (v * (x1 - xF) - (y1 - yF)) := by
  subst h1 hF' hG hF hD
  grind
theorem z2 (a : K) : a + 2 * 0 = a := by grind
theorem z3 (a b : K) : a - b * 0 - 0 = a := by grind
theorem w_eq (F : Fl K) {t u v w d : K} (h1 : (u - t) * (u + v) - d = 0) (h2 : (t - u) * (t + w) + d = 0) : t = u ∨ w = u + v - t := by
  have : (u - t) * (u + v - t - w) = 0 := by grind
  rcases F.dom _ _ this with h | h
  · exact .inl (bs h).symm
  · exact .inr (bs h).symm
theorem neg_sub (a b : K) : a - b = 0 - (b - a) := by grind
theorem swp {a b : K} : -(a - b) = b - a := by grind
theorem m1 {t a b c d : K} (h : t * (a - b) = c - d) : t * (b - a) = d - c := by grind
theorem m2 {t a b c d : K} (h : t * (c + d) = a * a + a * b + b * b) : t * (d + c) = b * b + b * a + a * a := by grind
theorem m3 {a b c t : K} (h : a = t * t - b - c) : a = t * t - c - b := by grind
theorem m4 {t x1 x2 y1 y2 xD yD : K} (h : t * (x1 - x2) = y1 - y2) (g : yD = t * (x1 - xD) - y1) : yD = t * (x2 - xD) - y2 := by grind
theorem m5 {t u v w d e : K} (h : (t - u) * (t + w) - (d - e) = 0) : (t - u) * (t + w) + (e - d) = 0 := by grind
theorem same_x (F : Fl K) {x1 x3 y1 y3 : K} (c1 : y1 * y1 = x1 * x1 * x1 + 7) (c3 : y3 * y3 = x3 * x3 * x3 + 7) (h : x3 = x1) : y3 = y1 ∨ y3 = -y1 := by
  have : (y3 - y1) * (y3 + y1) = 0 := by grind
  rcases F.dom _ _ this with h | h
  · exact .inl (bs h)
  · exact .inr (by grind)
theorem opp_no (F : Fl K) {x1 x2 y1 y2 t : K} (c1 : On (some (x1, y1))) (t1 : t * (x1 - x2) = y1 - y2) (u1 : t * (x2 - x1) = y2 - -y1) : False := yy_ne F c1 (by grind)
theorem key0 {t u x1 x3 v : K} (h : (u - t) * (u + v) - (x3 - x1) = 0) (e : t = u) : x3 = x1 := by grind
theorem R.slE {x1 y1 x2 y2 x3 y3 : K} (h : R (some (x1, y1)) (some (x2, y2)) (some (x3, y3))) : ∃ t, t * (x1 - x2) = y1 - y2 ∧ t * (y1 + y2) = x1 * x1 + x1 * x2 + x2 * x2 ∧ ¬ (x1 = x2 ∧ y1 + y2 = 0) ∧ x3 = t * t - x1 - x2 ∧ y3 = t * (x1 - x3) - y1 := by
  cases h with
  | sl _ _ _ _ t _ _ h1 h2 h3 h4 h5 => exact ⟨t, h1, h2, h3, h4, h5⟩
theorem R.opE {p q : K × K} (h : R (some p) (some q) none) : some q = ng (some p) := by
  cases h with
  | op _ _ _ h => rw [h]; rfl
theorem R.assoc (F : Fl K) {A B C D S G G' : PK K} (hA : On A) (hB : On B) (hC : On C) (r1 : R A B D) (r2 : R B C S) (r3 : R D C G) (r4 : R A S G') : G = G' := by
  cases A with
  | none =>
    have e1 := R.func F r1 (.zl _)
    have e4 := R.func F r4 (.zl _)
    subst e1 e4
    exact R.func F r3 r2
  | some a =>
  cases C with
  | none =>
    have e1 := R.func F r3 (.zr _)
    have e4 := R.func F r2 (.zr _)
    subst e1 e4
    exact R.func F r1 r4
  | some c =>
  cases B with
  | none =>
    have e1 := R.func F r1 (.zr _)
    have e4 := R.func F r2 (.zl _)
    subst e1 e4
    exact R.func F r3 r4
  | some b =>
  have k1 := R.cancel F hB r1.comm
  have k2 := R.cancel F hB r2
  cases D with
  | none =>
    have e1 := R.func F r3 (.zl _)
    subst e1
    have e2 := R.func F k1 (.zl _)
    rw [e2] at r4
    exact R.func F k2 r4.comm
  | some d =>
  cases S with
  | none =>
    have e1 := R.func F r4 (.zr _)
    subst e1
    have e2 := R.func F k2 (.zl _)
    rw [e2] at r3
    exact R.func F r3 k1
  | some f =>
  cases G with
  | none =>
    have e := r3.opE
    have k3 := R.cancel F hA r1
    have e' : some d = ng (some c) := by rw [e, ng_ng]
    rw [e'] at k3
    have k4 := R.cancel F (ng_on hC) k3
    rw [ng_ng] at k4
    have e5 := R.func F r2 k4
    rw [e5] at r4
    exact R.func F (.op _ _ _ rfl) r4
  | some g =>
  cases G' with
  | none =>
    have e := r4.opE
    have k3 := R.cancel F hC r2.comm
    rw [e] at k3
    have k4 := R.cancel F (ng_on hA) k3.comm.comm
    rw [ng_ng] at k4
    have e5 := R.func F r1 k4.comm
    rw [e5] at r3
    exact R.func F r3.comm (.op _ _ _ rfl)
  | some g' =>
  obtain ⟨x1, y1⟩ := a
  obtain ⟨x2, y2⟩ := b
  obtain ⟨x3, y3⟩ := c
  obtain ⟨xD, yD⟩ := d
  obtain ⟨xF, yF⟩ := f
  obtain ⟨xG, yG⟩ := g
  obtain ⟨xH, yH⟩ := g'
  obtain ⟨t, t1, t2, t3, t4, t5⟩ := r1.slE
  obtain ⟨u, u1, u2, u3, u4, u5⟩ := r2.slE
  obtain ⟨w, w1, w2, w3, w4, w5⟩ := r3.slE
  obtain ⟨v, v1, v2, v3, v4, v5⟩ := r4.slE
  have K1 := key F t1 t2 u1 u2 u4 u5 v1 v2 v3
  have K2 := key F (m1 u1) (m2 u2) (m1 t1) (m2 t2) (m3 t4) (m4 t1 t5) (m1 w1) (m2 w2) (fun ⟨a, b⟩ => w3 ⟨a.symm, by grind⟩)
  rcases w_eq F K1 (m5 (v := v) K2) with e | e
  · subst e
    have ex := key0 K1 rfl
    rcases same_x F hA hC ex with ey | ey
    · subst ex ey
      have e5 := R.func F r1 r2.comm
      rw [e5] at r3
      exact R.func F r3 r4.comm
    · subst ex ey
      exact (opp_no F hA t1 u1).elim
  · subst e
    have ex : xG = xH := by rw [w4, v4, t4, u4, fin_x x1 x2 x3 t u v, K1, z2]
    have ey : yG = yH := by
      rw [w5, v5, t5, ex, fin_y x1 x2 x3 y1 y2 t u v xD xF xH yF t4 u4 v4 u5 (e_y1 t1), K1, sb v1, z3]
    rw [ex, ey]
theorem kd1 {x y t Z : K} (h : t * (y + y) = x * x + x * x + x * x) : 3 * (x * (Z * Z)) ^ 2 + 0 * Z ^ 4 = t * (2 * (y * (Z * Z) * Z) * Z) := by grind
theorem kd2 (x y Z : K) : 4 * (x * (Z * Z)) * (y * (Z * Z) * Z) ^ 2 = x * ((2 * (y * (Z * Z) * Z) * Z) * (2 * (y * (Z * Z) * Z) * Z)) := by grind
theorem kd3 {x t n : K} : (t * n) ^ 2 - 2 * (x * (n * n)) = (t * t - x - x) * (n * n) := by grind
theorem kd4 {x y t Z n x3 : K} (hn : n = 2 * (y * (Z * Z) * Z) * Z) : t * n * (x * (n * n) - x3 * (n * n)) - 8 * ((y * (Z * Z) * Z) ^ 2) ^ 2 = (t * (x - x3) - y) * (n * n) * n := by
  subst hn
  grind
/-- the double's formula -/
theorem kdbl {x y t x3 y3 X Y Z : K} (hX : X = x * (Z * Z)) (hY : Y = y * (Z * Z) * Z) (h : t * (y + y) = x * x + x * x + x * x) (h3 : x3 = t * t - x - x) (h4 : y3 = t * (x - x3) - y) :
    (3 * X ^ 2 + 0 * Z ^ 4) ^ 2 - 2 * (4 * X * Y ^ 2) = x3 * ((2 * Y * Z) * (2 * Y * Z)) ∧
    (3 * X ^ 2 + 0 * Z ^ 4) * ((4 * X * Y ^ 2) - ((3 * X ^ 2 + 0 * Z ^ 4) ^ 2 - 2 * (4 * X * Y ^ 2))) - 8 * (Y ^ 2) ^ 2 = y3 * ((2 * Y * Z) * (2 * Y * Z)) * (2 * Y * Z) := by
  subst hX hY
  rw [kd1 h, kd2 x y Z, kd3, ← h3, kd4 rfl, ← h4]
  exact ⟨rfl, rfl⟩
theorem ka1 (x z w : K) : x * (z * z) * w ^ 2 = x * ((z * w) * (z * w)) := by grind
theorem ka1' (x z w : K) : x * (w * w) * z ^ 2 = x * ((z * w) * (z * w)) := by grind
theorem ka2 (y z w : K) : y * (z * z) * z * w ^ 3 = y * ((z * w) * (z * w) * (z * w)) := by grind
theorem ka2' (y z w : K) : y * (w * w) * w * z ^ 3 = y * ((z * w) * (z * w) * (z * w)) := by grind
theorem ka3 {x1 y1 x2 y2 t v : K} (ht : t * (x1 - x2) = y1 - y2) : y2 * (v * v * v) - y1 * (v * v * v) = t * ((x2 * (v * v) - x1 * (v * v)) * v) := by grind
theorem ka4 (x1 v h : K) : x1 * (v * v) * (h * h) = x1 * ((h * v) * (h * v)) := by grind
theorem ka5 (x1 x2 v h : K) (e : h = x2 * (v * v) - x1 * (v * v)) : h * (h * h) = (x2 - x1) * ((h * v) * (h * v)) := by grind
theorem ka6 (x1 x2 t n : K) : (t * n) ^ 2 - (x2 - x1) * (n * n) - 2 * (x1 * (n * n)) = (t * t - x1 - x2) * (n * n) := by grind
theorem ka7 (y1 x2 x1 v h : K) (e : h = x2 * (v * v) - x1 * (v * v)) : y1 * (v * v * v) * (h * (h * h)) = y1 * ((h * v) * (h * v)) * (h * v) := by grind
theorem ka8 (x1 x3 y1 t n : K) : t * n * (x1 * (n * n) - x3 * (n * n)) - y1 * (n * n) * n = (t * (x1 - x3) - y1) * (n * n) * n := by grind
/-- the sum's formula -/
theorem kadd {x1 y1 x2 y2 t x3 y3 z w X1 Y1 X2 Y2 : K} (ht : t * (x1 - x2) = y1 - y2) (h3 : x3 = t * t - x1 - x2) (h4 : y3 = t * (x1 - x3) - y1)
    (eX : X1 = x1 * (z * z)) (eY : Y1 = y1 * (z * z) * z) (gX : X2 = x2 * (w * w)) (gY : Y2 = y2 * (w * w) * w)
    {U1 U2 S1 S2 H R H2 H3 UH nx nz : K} (e1 : U1 = X1 * w ^ 2) (e2 : U2 = X2 * z ^ 2) (e3 : S1 = Y1 * w ^ 3) (e4 : S2 = Y2 * z ^ 3)
    (eH : H = U2 - U1) (eR : R = S2 - S1) (eH2 : H2 = H * H) (eH3 : H3 = H * H2) (eUH : UH = U1 * H2) (en : nx = R ^ 2 - H3 - 2 * UH) (ez : nz = H * z * w) :
    nx = x3 * (nz * nz) ∧ R * (UH - nx) - S1 * H3 = y3 * (nz * nz) * nz := by
  rw [eX, ka1] at e1
  rw [gX, ka1'] at e2
  rw [eY, ka2] at e3
  rw [gY, ka2'] at e4
  rw [e2, e1] at eH
  have fz : nz = H * (z * w) := by rw [ez]; exact Lean.Grind.Semiring.mul_assoc _ _ _
  rw [e4, e3, ka3 ht, ← eH, ← fz] at eR
  have f1 : UH = x1 * (nz * nz) := by rw [eUH, eH2, e1, ka4, ← fz]
  have f3 : H3 = (x2 - x1) * (nz * nz) := by rw [eH3, eH2, ka5 _ _ _ _ eH, ← fz]
  have fn : nx = x3 * (nz * nz) := by rw [en, eR, f3, f1, ka6, ← h3]
  refine ⟨fn, ?_⟩
  have f5 : S1 * H3 = y1 * (nz * nz) * nz := by rw [eH3, eH2, e3, ka7 _ _ _ _ _ eH, ← fz]
  rw [f5, fn, f1, eR, ka8, ← h4]
theorem ks1 {x y i : K} (h : i * (2 * y) = 1) : (3 * x * x * i) * (y + y) = x * x + x * x + x * x := by grind
theorem ks2 {x1 y1 x2 y2 i : K} (h : i * (x2 - x1) = 1) : ((y2 - y1) * i) * (x1 - x2) = y1 - y2 := by grind
theorem ks3 (F : Fl K) {x1 y1 x2 y2 t : K} (ht : t * (x1 - x2) = y1 - y2) (c1 : y1 * y1 = x1 * x1 * x1 + 7) (c2 : y2 * y2 = x2 * x2 * x2 + 7) (hne : x1 ≠ x2) : t * (y1 + y2) = x1 * x1 + x1 * x2 + x2 * x2 := by
  have : (t * (y1 + y2) - (x1 * x1 + x1 * x2 + x2 * x2)) * (x1 - x2) = 0 := by grind
  rcases F.dom _ _ this with h | h
  · exact bs h
  · exact absurd (bs h) hne
theorem k_neg {x y : K} (h : x + y = 0) : y = -x := by grind
theorem k_zero_sub (t x y : K) (h : y = x) : t * (x - x) = x - y := by grind
theorem k_z (t x y z : K) (h : y = z) : t * (x - x) = y - z := by grind
theorem k_two {y : K} : y + y = 2 * y := by grind
theorem F_mul (F : Fl K) {a b : K} (ha : a ≠ 0) (hb : b ≠ 0) : a * b ≠ 0 := fun h => (F.dom a b h).elim ha hb
theorem F_cancel (F : Fl K) {a b c : K} (hc : c ≠ 0) (h : a * c = b * c) : a = b := by
  have : (a - b) * c = 0 := by grind
  rcases F.dom _ _ this with h | h
  · exact bs h
  · exact absurd h hc
theorem k_nn (a : K) : 0 - a = -a := by grind
theorem k_11 (a : K) : a = a * (1 * 1) := by grind
theorem k_111 (a : K) : a = a * (1 * 1) * 1 := by grind
theorem kf1 {x z i : K} (h : i * z = 1) : x * (z * z) * i ^ 2 = x := by grind
theorem kf2 {x z i : K} (h : i * z = 1) : x * (z * z) * z * i ^ 3 = x := by grind
end
end MineM
namespace MineM
open Mine
/-- a ring that is the ints modulo the prime -/
structure Br (K : Type) [Lean.Grind.CommRing K] (ι : Int → K) : Prop where
  add : ∀ x y, ι (x + y) = ι x + ι y
  sub : ∀ x y, ι (x - y) = ι x - ι y
  mul : ∀ x y, ι (x * y) = ι x * ι y
  pow : ∀ x (k : Nat), ι (x ^ k) = ι x ^ k
  lit : ∀ k : Nat, ι (OfNat.ofNat k) = OfNat.ofNat k
  emod : ∀ x, ι (x % pP) = ι x
  inj : ∀ {x y}, ι x = ι y → x % pP = y % pP
  sur : ∀ a, ∃ x, ι x = a
section
variable {K : Type} [Lean.Grind.CommRing K] {ι : Int → K}
theorem Br.pP0 (B : Br K ι) : ι pP = 0 := by
  have := B.emod pP
  rw [Int.emod_self, B.lit 0] at this
  exact this.symm
theorem Br.zero (B : Br K ι) {x : Int} (h : ι x = 0) : x % pP = 0 := by
  rw [← B.lit 0] at h
  exact B.inj h
theorem Br.inj' (B : Br K ι) {x y : Int} (hx : 0 ≤ x ∧ x < pP) (hy : 0 ≤ y ∧ y < pP) (h : ι x = ι y) : x = y := by
  have := B.inj h
  rwa [Int.emod_eq_of_lt hx.1 hx.2, Int.emod_eq_of_lt hy.1 hy.2] at this
theorem Br.ne (B : Br K ι) {x : Int} (hx : 0 ≤ x ∧ x < pP) (h : x ≠ 0) : ι x ≠ 0 := fun e => h (by
  have := B.zero e
  rwa [Int.emod_eq_of_lt hx.1 hx.2] at this)
theorem Br.ne' (B : Br K ι) {x : Int} (h : ι x ≠ 0) : x ≠ 0 := fun e => h (by rw [e]; exact B.lit 0)
theorem Br.eqm (B : Br K ι) {x y : Int} (hx : 0 ≤ x ∧ x < pP) (h : ι x = ι y) : x = y % pP := by
  rw [← B.inj h, Int.emod_eq_of_lt hx.1 hx.2]
noncomputable def toK (ι : Int → K) : Pnt → PK K
  | none => none
  | some p => some (ι p.1, ι p.2)
theorem Br.on (B : Br K ι) {p : Pnt} (h : OnC p) : On (toK ι p) := by
  cases p with
  | none => trivial
  | some p =>
    show ι p.2 * ι p.2 = ι p.1 * ι p.1 * ι p.1 + 7
    have := congrArg ι h.2
    rw [B.emod, B.emod, B.add, B.mul, B.mul, B.mul] at this
    rw [this]
    congr 1
    exact B.lit 7
theorem Br.of_on (B : Br K ι) {p : Pnt} (hr : InRP p) (h : On (toK ι p)) : OnC p := by
  cases p with
  | none => trivial
  | some p =>
    refine ⟨hr, B.inj ?_⟩
    rw [B.add, B.mul, B.mul, B.mul]
    refine Eq.trans (show ι p.2 * ι p.2 = ι p.1 * ι p.1 * ι p.1 + 7 from h) ?_
    congr 1
    exact (B.lit 7).symm
theorem Br.toK_inj (B : Br K ι) {p q : Pnt} (hp : InRP p) (hq : InRP q) (h : toK ι p = toK ι q) : p = q := by
  cases p with
  | none => cases q with
    | none => rfl
    | some q => simp [toK] at h
  | some p => cases q with
    | none => simp [toK] at h
    | some q =>
      simp only [toK, Option.some.injEq, Prod.mk.injEq] at h
      exact congrArg some (Prod.ext (B.inj' hp.1 hq.1 h.1) (B.inj' hp.2 hq.2 h.2))
theorem pP_nat : ((pP.natAbs : Nat) : Int) = pP := by decide
theorem pP_abs : pP.natAbs = 115792089237316195423570985008687907853269984665640564039457584007908834671663 := rfl
theorem Br.fl (B : Br K ι) (root : NoRoot) : Fl K where
  dom a b h := by
    obtain ⟨x, rfl⟩ := B.sur a
    obtain ⟨y, rfl⟩ := B.sur b
    rw [← B.mul] at h
    have h1 := Int.dvd_of_emod_eq_zero (B.zero h)
    have h2 : pP.natAbs ∣ x.natAbs * y.natAbs := by rw [← Int.natAbs_mul]; exact Int.natAbs_dvd_natAbs.mpr h1
    have back : ∀ z : Int, pP.natAbs ∣ z.natAbs → ι z = 0 := fun z hz => by
      have := Int.emod_eq_zero_of_dvd (Int.natAbs_dvd_natAbs.mp hz)
      rw [← B.emod, this]
      exact B.lit 0
    rcases Pr.mul pr_p h2 with h' | h'
    · exact .inl (back x h')
    · exact .inr (back y h')
  two h := by
    have : ι 2 = 0 := (B.lit 2).trans h
    exact absurd (B.zero this) (by decide)
  root a h := by
    obtain ⟨x, rfl⟩ := B.sur a
    refine root x (B.zero ?_)
    rw [B.add, B.mul, B.mul]
    refine Eq.trans ?_ h
    congr 1
    exact B.lit 7
/-- the quotient's power is the inverse -/
theorem Br.inv (B : Br K ι) {a : Int} (h : ι a ≠ 0) : ι (pInv a) * ι a = 1 := by
  have h0 : 0 ≤ a % pP := Int.emod_nonneg a (by decide)
  have hn : ((a % pP).toNat : Int) = a % pP := Int.toNat_of_nonneg h0
  have hd : ¬ pP.natAbs ∣ (a % pP).toNat := fun hd => h (by
    have h1 : (pP.natAbs : Int) ∣ ((a % pP).toNat : Int) := Int.ofNat_dvd.mpr hd
    rw [hn, pP_nat] at h1
    have h2 := Int.emod_eq_zero_of_dvd h1
    rw [Int.emod_emod_of_dvd _ (Int.dvd_refl _)] at h2
    rw [← B.emod, h2]
    exact B.lit 0)
  have hf := fermat pr_p hd
  have h3 : pInv a * a % pP = 1 := by
    have e0 : pInv a = (((a % pP).toNat ^ (pP - 2).natAbs % pP.natAbs : Nat) : Int) := by unfold pInv; rw [powMod_eq]
    have e1 : pInv a * a % pP = pInv a * (a % pP) % pP := by rw [Int.mul_emod, Int.mul_emod (pInv a) (a % pP), Int.emod_emod_of_dvd _ (Int.dvd_refl _)]
    rw [e1, e0]
    have e2 : a % pP = ((a % pP).toNat : Int) := hn.symm
    generalize (a % pP).toNat = b at e2 hf
    rw [e2]
    have e3 : (((b ^ (pP - 2).natAbs % pP.natAbs * b % pP.natAbs : Nat)) : Int) = (b ^ (pP - 2).natAbs % pP.natAbs : Nat) * (b : Int) % pP := by
      rw [Int.natCast_emod, Int.natCast_mul, pP_nat]
    rw [← e3, Nat.mod_mul_mod, ← Nat.pow_succ]
    have e : (pP - 2).natAbs.succ = 115792089237316195423570985008687907853269984665640564039457584007908834671663 - 1 := by decide
    rw [e, pP_abs, hf]
    rfl
  have := congrArg ι h3
  rw [B.emod, B.mul] at this
  rw [this]
  exact B.lit 1
end
end MineM
namespace MineM
open Mine
section
variable {K : Type} [Lean.Grind.CommRing K] {ι : Int → K}
theorem Br.two (B : Br K ι) : ι 2 = 2 := B.lit 2
theorem Br.three (B : Br K ι) : ι 3 = 3 := B.lit 3
theorem Br.four (B : Br K ι) : ι 4 = 4 := B.lit 4
theorem Br.eight (B : Br K ι) : ι 8 = 8 := B.lit 8
theorem Br.nil (B : Br K ι) : ι 0 = 0 := B.lit 0
theorem Br.one (B : Br K ι) : ι 1 = 1 := B.lit 1
/-- the affine rule is the group's law -/
theorem Br.sum (B : Br K ι) (F : Fl K) {p q : Pnt} (hp : OnC p) (hq : OnC q) : R (toK ι p) (toK ι q) (toK ι (lSum p q)) := by
  cases p with
  | none => exact .zl _
  | some p =>
  cases q with
  | none => exact .zr _
  | some q =>
  have cp := B.on hp
  have cq := B.on hq
  simp only [On, toK] at cp cq
  unfold lSum
  dsimp only
  split
  · rename_i ex
    split
    · rename_i eo
      have := congrArg ι eo
      rw [B.emod, B.add, B.nil] at this
      simp only [toK]
      rw [← ex]
      exact .op _ _ _ (k_neg this)
    · rename_i eo
      have hs : ι q.2 = ι p.2 := by
        rcases same_x F cp cq (by rw [ex]) with h | h
        · exact h
        · refine absurd ?_ eo
          have : ι (p.2 + q.2) = ι 0 := by rw [B.add, B.nil, h]; grind
          have := B.inj this
          rwa [Int.zero_emod] at this
      have yn : ι (2 * p.2) ≠ 0 := by rw [B.mul, B.two]; exact F_mul F F.two (y_ne F (x := ι p.1) cp)
      have hi := B.inv yn
      rw [B.mul 2 p.2, B.two] at hi
      simp only [toK]
      have et : ι (3 * p.1 * p.1 * pInv (2 * p.2) % pP) = 3 * ι p.1 * ι p.1 * ι (pInv (2 * p.2)) := by rw [B.emod, B.mul, B.mul, B.mul, B.three]
      refine .sl _ _ _ _ (ι (3 * p.1 * p.1 * pInv (2 * p.2) % pP)) _ _ ?_ ?_ ?_ ?_ ?_
      · rw [← ex, hs]; grind
      · rw [← ex, hs, et]; exact ks1 hi
      · rintro ⟨_, h⟩
        rw [hs] at h
        exact yy_ne F (x := ι p.1) (y := ι p.2) cp h
      · rw [B.emod, B.sub, B.sub, B.mul]
      · rw [B.emod, B.sub, B.mul, B.sub]
  · rename_i ex
    have en : ι p.1 ≠ ι q.1 := fun h => ex (B.inj' hp.1.1 hq.1.1 h)
    have xn : ι ((q.1 - p.1) % pP) ≠ 0 := by
      rw [B.emod, B.sub]
      exact fun h => en (bs h).symm
    have hi := B.inv xn
    rw [B.emod, B.sub] at hi
    simp only [toK]
    have et : ι ((q.2 - p.2) * pInv ((q.1 - p.1) % pP) % pP) = (ι q.2 - ι p.2) * ι (pInv ((q.1 - p.1) % pP)) := by rw [B.emod, B.mul, B.sub]
    have h1 : ι ((q.2 - p.2) * pInv ((q.1 - p.1) % pP) % pP) * (ι p.1 - ι q.1) = ι p.2 - ι q.2 := by rw [et]; exact ks2 hi
    refine .sl _ _ _ _ (ι ((q.2 - p.2) * pInv ((q.1 - p.1) % pP) % pP)) _ _ h1 (ks3 F h1 cp cq en) (fun h => en h.1) ?_ ?_
    · rw [B.emod, B.sub, B.sub, B.mul]
    · rw [B.emod, B.sub, B.mul, B.sub]
theorem Br.sumOn (B : Br K ι) (F : Fl K) {p q : Pnt} (hp : OnC p) (hq : OnC q) : OnC (lSum p q) :=
  B.of_on (lSum_R hp.inR hq.inR) ((B.sum F hp hq).on (B.on hp) (B.on hq))
theorem Br.sumComm (B : Br K ι) (F : Fl K) {p q : Pnt} (hp : OnC p) (hq : OnC q) : lSum p q = lSum q p :=
  B.toK_inj (B.sumOn F hp hq).inR (B.sumOn F hq hp).inR (R.func F (B.sum F hp hq) (B.sum F hq hp).comm)
theorem Br.sumAssoc (B : Br K ι) (F : Fl K) {p q r : Pnt} (hp : OnC p) (hq : OnC q) (hr : OnC r) : lSum (lSum p q) r = lSum p (lSum q r) :=
  B.toK_inj (B.sumOn F (B.sumOn F hp hq) hr).inR (B.sumOn F hp (B.sumOn F hq hr)).inR
    (R.assoc F (B.on hp) (B.on hq) (B.on hr) (B.sum F hp hq) (B.sum F hq hr) (B.sum F (B.sumOn F hp hq) hr) (B.sum F hp (B.sumOn F hq hr)))
/-- the multiple, by ones -/
noncomputable def nP (p : Pnt) : Nat → Pnt
  | 0 => none
  | k + 1 => lSum p (nP p k)
theorem Br.nOn (B : Br K ι) (F : Fl K) {p : Pnt} (hp : OnC p) : ∀ k, OnC (nP p k)
  | 0 => trivial
  | k + 1 => B.sumOn F hp (B.nOn F hp k)
theorem Br.nAdd (B : Br K ι) (F : Fl K) {p : Pnt} (hp : OnC p) : ∀ a b, nP p (a + b) = lSum (nP p a) (nP p b)
  | 0, b => by rw [Nat.zero_add]; rfl
  | a + 1, b => by
    rw [Nat.add_right_comm]
    show lSum p (nP p (a + b)) = lSum (lSum p (nP p a)) (nP p b)
    rw [B.nAdd F hp a b, B.sumAssoc F hp (B.nOn F hp a) (B.nOn F hp b)]
theorem n_one (p : Pnt) : nP p 1 = p := by
  show lSum p none = p
  cases p <;> rfl
theorem Br.nDbl (B : Br K ι) (F : Fl K) {p : Pnt} (hp : OnC p) : ∀ k, nP (lSum p p) k = nP p (2 * k)
  | 0 => rfl
  | k + 1 => by
    show lSum (lSum p p) (nP (lSum p p) k) = nP p (2 * k + 1 + 1)
    rw [B.nDbl F hp k]
    show _ = lSum p (lSum p (nP p (2 * k)))
    exact B.sumAssoc F hp hp (B.nOn F hp _)
theorem Br.loop (B : Br K ι) (F : Fl K) : ∀ (k : Nat) {f p : Pnt}, OnC f → OnC p → lLoop f p k = lSum f (nP p k) := by
  intro k
  induction k using Nat.strongRecOn with
  | ind k ih =>
    intro f p hf hp
    unfold lLoop
    split
    · rename_i h
      subst h
      cases f <;> rfl
    · have h2 := B.sumOn F hp hp
      split
      · rw [ih _ (by omega) (B.sumOn F hf hp) h2, B.nDbl F hp, B.sumAssoc F hf hp (B.nOn F hp _)]
        congr 1
        show nP p (2 * (k / 2) + 1) = _
        congr 1
        omega
      · rw [ih _ (by omega) hf h2, B.nDbl F hp]
        congr 2
        omega
theorem Br.times (B : Br K ι) (F : Fl K) {p : Pnt} (hp : OnC p) (k : Nat) : lTimes p k = nP p k := by
  unfold lTimes
  rw [B.loop F k (f := none) trivial hp]
  rfl
end
end MineM
namespace MineM
open Mine
section
variable {K : Type} [Lean.Grind.CommRing K] {ι : Int → K}
theorem k_anti (a : K) : a + -a = 0 := by grind
theorem R.inv {x1 y1 x2 y2 x3 y3 : K} (h : R (some (x1, y1)) (some (x2, y2)) (some (x3, y3))) :
    ∃ t, t * (x1 - x2) = y1 - y2 ∧ t * (y1 + y2) = x1 * x1 + x1 * x2 + x2 * x2 ∧ ¬ (x1 = x2 ∧ y1 + y2 = 0) ∧ x3 = t * t - x1 - x2 ∧ y3 = t * (x1 - x3) - y1 := by
  cases h with
  | sl _ _ _ _ t _ _ h1 h2 h3 h4 h5 => exact ⟨t, h1, h2, h3, h4, h5⟩
theorem R.inv0 {x1 y1 x2 y2 : K} (h : R (some (x1, y1)) (some (x2, y2)) none) : x1 = x2 ∧ y2 = -y1 := by
  cases h with
  | op _ _ _ h => exact ⟨rfl, h⟩
theorem Br.st (B : Br K ι) {t : Tri} {p : Int × Int} (h : Stands t (some p)) :
    ι t.2.1 ≠ 0 ∧ ι t.2.2 ≠ 0 ∧ ι t.1 = ι p.1 * (ι t.2.2 * ι t.2.2) ∧ ι t.2.1 = ι p.2 * (ι t.2.2 * ι t.2.2) * ι t.2.2 := by
  obtain ⟨h1, h2, h3, h4, h5, h6⟩ := h
  refine ⟨B.ne h1.2.1 h3, B.ne h1.2.2 h4, ?_, ?_⟩
  · have := congrArg ι h5
    rwa [B.emod, B.mul, B.emod, B.mul] at this
  · have := congrArg ι h6
    rwa [B.emod, B.mul, B.mul, B.emod, B.mul] at this
theorem Br.mkSt (B : Br K ι) {t : Tri} {p : Int × Int} (h1 : InR t) (h2 : InR2 p) (h3 : ι t.2.1 ≠ 0) (h4 : ι t.2.2 ≠ 0) (h5 : ι t.1 = ι p.1 * (ι t.2.2 * ι t.2.2)) (h6 : ι t.2.1 = ι p.2 * (ι t.2.2 * ι t.2.2) * ι t.2.2) :
    Stands t (some p) := by
  refine ⟨h1, h2, B.ne' h3, B.ne' h4, B.eqm h1.1 ?_, B.eqm h1.2.1 ?_⟩
  · rw [B.mul, B.emod, B.mul]; exact h5
  · rw [B.mul, B.mul, B.emod, B.mul]; exact h6
theorem Br.onY (B : Br K ι) (F : Fl K) {p : Int × Int} (h : OnC (some p)) : ι p.2 ≠ 0 := y_ne F (x := ι p.1) (B.on h)
/-- from the formulas' K side to Stands -/
theorem Br.mkF (B : Br K ι) (F : Fl K) {t : Tri} {p : Int × Int} (h1 : InR t) (h2 : OnC (some p)) (h4 : ι t.2.2 ≠ 0) (h5 : ι t.1 = ι p.1 * (ι t.2.2 * ι t.2.2)) (h6 : ι t.2.1 = ι p.2 * (ι t.2.2 * ι t.2.2) * ι t.2.2) :
    Stands t (some p) :=
  B.mkSt h1 h2.inR (by rw [h6]; exact F_mul F (F_mul F (B.onY F h2) (F_mul F h4 h4)) h4) h4 h5 h6
theorem st0 {t : Tri} (h : Stands t none) : t.2.1 = 0 := by rcases h with rfl | rfl <;> rfl
theorem Br.dbl (B : Br K ι) (F : Fl K) {t : Tri} {p : Pnt} (h : Good t p) : Stands (jDouble t) (lSum p p) := by
  obtain ⟨hs, ho⟩ := h
  cases p with
  | none =>
    unfold jDouble
    rw [if_pos (st0 hs)]
    exact .inl rfl
  | some p =>
    obtain ⟨a1, a2, a3, a4⟩ := B.st hs
    have hr := B.sum F ho ho
    have hon := B.sumOn F ho ho
    have hR := jDouble_R t
    have hY := hs.2.2.1
    generalize lSum (some p) (some p) = r at hr hon
    cases r with
    | none =>
      exact absurd (R.inv0 hr).2 fun e => yy_ne F (x := ι p.1) (y := ι p.2) (B.on ho) (by
        have : ι p.2 + ι p.2 = ι p.2 + -ι p.2 := congrArg (ι p.2 + ·) e
        rw [this]; grind)
    | some r =>
      obtain ⟨s, h1, h2, h3, h4, h5⟩ := R.inv (x3 := ι r.1) (y3 := ι r.2) hr
      obtain ⟨f1, f2⟩ := kdbl a3 a4 h2 h4 h5
      refine B.mkF F hR hon ?_ ?_ ?_
      all_goals unfold jDouble
      all_goals rw [if_neg hY]
      all_goals dsimp only
      all_goals simp only [B.emod, B.add, B.sub, B.mul, B.pow, B.two, B.three, B.four, B.eight, B.nil]
      · exact F_mul F (F_mul F F.two a1) a2
      · exact f1
      · exact f2
theorem Br.add' (B : Br K ι) (F : Fl K) {t u : Tri} {p q : Pnt} (h : Good t p) (g : Good u q) : Stands (jAdd t u) (lSum p q) := by
  have hd := B.dbl F h
  obtain ⟨hs, ho⟩ := h
  obtain ⟨gs, go⟩ := g
  cases p with
  | none =>
    unfold jAdd
    rw [if_pos (st0 hs)]
    exact gs
  | some p =>
  cases q with
  | none =>
    unfold jAdd
    rw [if_neg hs.2.2.1, if_pos (st0 gs)]
    exact hs
  | some q =>
    obtain ⟨a1, a2, a3, a4⟩ := B.st hs
    obtain ⟨b1, b2, b3, b4⟩ := B.st gs
    have hr := B.sum F ho go
    have hon := B.sumOn F ho go
    have hR := jAdd_R hs.inR gs.inR
    have w0 := F_mul F a2 b2
    have w2 := F_mul F w0 w0
    have w3 := F_mul F w2 w0
    have iU1 : ι (t.1 * u.2.2 ^ 2 % pP) = ι p.1 * ((ι t.2.2 * ι u.2.2) * (ι t.2.2 * ι u.2.2)) := by rw [B.emod, B.mul, B.pow, a3, ka1]
    have iU2 : ι (u.1 * t.2.2 ^ 2 % pP) = ι q.1 * ((ι t.2.2 * ι u.2.2) * (ι t.2.2 * ι u.2.2)) := by rw [B.emod, B.mul, B.pow, b3, ka1']
    have iS1 : ι (t.2.1 * u.2.2 ^ 3 % pP) = ι p.2 * ((ι t.2.2 * ι u.2.2) * (ι t.2.2 * ι u.2.2) * (ι t.2.2 * ι u.2.2)) := by rw [B.emod, B.mul, B.pow, a4, ka2]
    have iS2 : ι (u.2.1 * t.2.2 ^ 3 % pP) = ι q.2 * ((ι t.2.2 * ι u.2.2) * (ι t.2.2 * ι u.2.2) * (ι t.2.2 * ι u.2.2)) := by rw [B.emod, B.mul, B.pow, b4, ka2']
    have cU : t.1 * u.2.2 ^ 2 % pP = u.1 * t.2.2 ^ 2 % pP ↔ ι p.1 = ι q.1 := by
      constructor
      · intro e
        refine F_cancel F w2 ?_
        rw [← iU1, ← iU2, e]
      · intro e
        refine B.inj' (pmod _) (pmod _) ?_
        rw [iU1, iU2, e]
    have cS : t.2.1 * u.2.2 ^ 3 % pP = u.2.1 * t.2.2 ^ 3 % pP ↔ ι p.2 = ι q.2 := by
      constructor
      · intro e
        refine F_cancel F w3 ?_
        rw [← iS1, ← iS2, e]
      · intro e
        refine B.inj' (pmod _) (pmod _) ?_
        rw [iS1, iS2, e]
    by_cases eU : t.1 * u.2.2 ^ 2 % pP = u.1 * t.2.2 ^ 2 % pP
    · by_cases eS : t.2.1 * u.2.2 ^ 3 % pP = u.2.1 * t.2.2 ^ 3 % pP
      · have epq : p = q := Prod.ext (B.inj' ho.1.1 go.1.1 (cU.mp eU)) (B.inj' ho.1.2 go.1.2 (cS.mp eS))
        unfold jAdd
        rw [if_neg hs.2.2.1, if_neg gs.2.2.1]
        dsimp only
        rw [if_pos eU, if_pos eS, ← epq]
        exact hd
      · have : lSum (some p) (some q) = none := by
          have e1 : p.1 = q.1 := B.inj' ho.1.1 go.1.1 (cU.mp eU)
          have e2 : (p.2 + q.2) % pP = 0 := by
            have n1 : ι p.2 ≠ ι q.2 := fun e => eS (cS.mpr e)
            rcases same_x F (B.on ho) (B.on go) (by rw [e1]) with h | h
            · exact absurd h.symm n1
            · refine B.zero ?_
              have h' : ι q.2 = -ι p.2 := h
              rw [B.add, h']
              exact k_anti _
          unfold lSum
          dsimp only
          rw [if_pos e1, if_pos e2]
        rw [this]
        unfold jAdd
        rw [if_neg hs.2.2.1, if_neg gs.2.2.1]
        dsimp only
        rw [if_pos eU, if_neg eS]
        exact .inr rfl
    · have nx : ι p.1 ≠ ι q.1 := fun e => eU (cU.mpr e)
      generalize lSum (some p) (some q) = r at hr hon
      cases r with
      | none => exact absurd (R.inv0 hr).1 nx
      | some r =>
        obtain ⟨s, h1, h2, h3, h4, h5⟩ := R.inv (x3 := ι r.1) (y3 := ι r.2) hr
        obtain ⟨f1, f2⟩ := kadd h1 h4 h5 a3 a4 b3 b4 rfl rfl rfl rfl rfl rfl rfl rfl rfl rfl rfl
        refine B.mkF F hR hon ?_ ?_ ?_
        all_goals unfold jAdd
        all_goals rw [if_neg hs.2.2.1, if_neg gs.2.2.1]
        all_goals dsimp only
        all_goals rw [if_neg eU]
        all_goals simp only [B.emod, B.add, B.sub, B.mul, B.pow, B.two, B.three, B.four, B.eight, B.nil]
        · refine F_mul F (F_mul F ?_ a2) b2
          intro e
          have := bs e
          rw [a3, b3, ka1', ka1] at this
          exact nx (F_cancel F w2 this).symm
        · exact f1
        · exact f2
end
end MineM
namespace MineM
open Mine
theorem gcd_em (a n : Int) : Int.gcd (a % n) n = Int.gcd a n := by
  have e := Int.emod_add_mul_ediv a n
  have e' : a % n = a - n * (a / n) := by omega
  refine Nat.dvd_antisymm (Int.ofNat_dvd.mp (Int.dvd_coe_gcd ?_ (Int.gcd_dvd_right ..))) (Int.ofNat_dvd.mp (Int.dvd_coe_gcd ?_ (Int.gcd_dvd_right ..)))
  · have h : (Int.gcd (a % n) n : Int) ∣ a % n + n * (a / n) := Int.dvd_add (Int.gcd_dvd_left ..) (Int.dvd_mul_of_dvd_left (Int.gcd_dvd_right ..))
    rwa [e] at h
  · rw [e']
    exact Int.dvd_sub (Int.gcd_dvd_left ..) (Int.dvd_mul_of_dvd_left (Int.gcd_dvd_right ..))
theorem inv_loop {a n : Int} : ∀ (k : Nat) (lm low hm high : Int), low.toNat = k → 0 ≤ low → low < high → 1 < high → Int.gcd low high = 1 → n ∣ lm * a - low → n ∣ hm * a - high → n ∣ invLoop lm low hm high * a - 1 := by
  intro k
  induction k using Nat.strongRecOn with
  | ind k ih =>
    intro lm low hm high hk h0 h1 h2 hg d1 d2
    unfold invLoop
    split
    · rename_i hl
      have e := Int.emod_add_mul_ediv high low
      have m1 := Int.emod_nonneg high (show low ≠ 0 by omega)
      have m2 := Int.emod_lt_of_pos high (show 0 < low by omega)
      have el : high - low * (high / low) = high % low := by omega
      refine ih (high % low).toNat (by omega) _ _ _ _ (by rw [el]) (by omega) (by omega) hl ?_ ?_ d1
      · rw [el, gcd_em, Int.gcd_comm]; exact hg
      · have : (hm - lm * (high / low)) * a - (high - low * (high / low)) = (hm * a - high) - (lm * a - low) * (high / low) := by
          simp only [Int.sub_mul, Int.mul_sub, Int.mul_assoc, Int.mul_comm, Int.mul_left_comm]
          omega
        rw [this]
        exact Int.dvd_sub d2 (Int.dvd_mul_of_dvd_left d1)
    · have : low = 1 := by
        by_cases e : low = 0
        · subst e
          rw [Int.gcd_zero_left] at hg
          omega
        · omega
      rwa [this] at d1
theorem inv_ok (a n : Int) (hn : 2 ≤ n) (_h0 : 0 ≤ a) (ha : a ≠ 0) (hg : Int.gcd a n = 1) : pyInv a n * a % n = 1 := by
  have h := inv_loop (a := a) (n := n) (a % n).toNat 1 (a % n) 0 n rfl (Int.emod_nonneg _ (by omega)) (Int.emod_lt_of_pos _ (by omega)) (by omega) (by rw [gcd_em]; exact hg) (by rw [Int.one_mul]; exact Int.dvd_self_sub_emod) (by
    rw [Int.zero_mul]
    exact ⟨-1, by omega⟩)
  unfold pyInv
  rw [if_neg ha]
  have h2 := Int.emod_eq_zero_of_dvd h
  rw [Int.mul_emod, Int.emod_emod_of_dvd _ (Int.dvd_refl _), ← Int.mul_emod]
  have h3 := (Int.emod_eq_emod_iff_emod_sub_eq_zero).mpr h2
  rw [h3, Int.emod_eq_of_lt (by decide) (by omega)]
theorem no_root : NoRoot := by
  intro x hx
  have h0 : 0 ≤ x % pP := Int.emod_nonneg x (by decide)
  have hn : ((x % pP).toNat : Int) = x % pP := Int.toNat_of_nonneg h0
  generalize (x % pP).toNat = b at hn
  have h1 : (b * b * b + 7) % 115792089237316195423570985008687907853269984665640564039457584007908834671663 = 0 := by
    have : (((b * b * b + 7 : Nat) : Int)) % pP = 0 := by
      rw [← hx]
      simp only [Int.natCast_add, Int.natCast_mul, hn]
      rw [Int.add_emod, Int.add_emod (x * x * x)]
      congr 2
      rw [Int.mul_emod, Int.mul_emod (x * x), Int.emod_emod_of_dvd _ (Int.dvd_refl _)]
      congr 2
      rw [Int.mul_emod, Int.mul_emod x, Int.emod_emod_of_dvd _ (Int.dvd_refl _)]
    rw [← pP_nat, ← Int.natCast_emod, pP_abs] at this
    exact Int.ofNat_eq_zero.mp this
  have hd : ¬ 115792089237316195423570985008687907853269984665640564039457584007908834671663 ∣ b := fun hd => by
    have : 115792089237316195423570985008687907853269984665640564039457584007908834671663 ∣ b * b * b := Nat.dvd_mul_left_of_dvd hd _
    have := Nat.mod_eq_zero_of_dvd this
    omega
  have hf := fermat pr_p hd
  have e1 : b ^ 3 % 115792089237316195423570985008687907853269984665640564039457584007908834671663 = 115792089237316195423570985008687907853269984665640564039457584007908834671656 := by
    have : b ^ 3 = b * b * b := by rw [Nat.pow_succ, Nat.pow_two]
    rw [this]
    omega
  have e2 : 115792089237316195423570985008687907853269984665640564039457584007908834671663 - 1 = 3 * 38597363079105398474523661669562635951089994888546854679819194669302944890554 := by decide
  rw [e2, Nat.pow_mul, Nat.pow_mod, e1, ← pm_eq 300 _ _ _ (by decide +kernel)] at hf
  exact absurd hf (by decide +kernel)
theorem br_fin (n : Nat) [NeZero n] (h : (n : Int) = pP) : Br (Fin n) (fun x => (Lean.Grind.Ring.intCast (α := Fin n)).intCast x) where
  add := Lean.Grind.Ring.intCast_add
  sub := Lean.Grind.Ring.intCast_sub
  mul := Lean.Grind.Ring.intCast_mul
  pow := Lean.Grind.Ring.intCast_pow
  lit k := Lean.Grind.Ring.intCast_ofNat k
  emod x := by
    rw [← h]
    exact Lean.Grind.IsCharP.intCast_emod n x
  inj hxy := by
    rw [← h]
    exact (Lean.Grind.IsCharP.intCast_ext_iff n).mp hxy
  sur a := ⟨(a.val : Int), by
    refine (Lean.Grind.Ring.intCast_natCast (α := Fin n) a.val).trans ?_
    exact Fin.ext (Nat.mod_eq_of_lt a.isLt)⟩
theorem br_ex : ∃ (K : Type) (_ : Lean.Grind.CommRing K) (ι : Int → K), Br K ι :=
  haveI : NeZero 115792089237316195423570985008687907853269984665640564039457584007908834671663 := ⟨by decide⟩
  ⟨Fin 115792089237316195423570985008687907853269984665640564039457584007908834671663, inferInstance, _, br_fin _ (by decide)⟩
end MineM
namespace MineM
open Mine
section
variable {K : Type} [Lean.Grind.CommRing K] {ι : Int → K}
theorem n_none : ∀ k, nP none k = none
  | 0 => rfl
  | k + 1 => n_none k
theorem st_none {t : Tri} {p : Pnt} (h : Stands t p) (e : t.2.1 = 0) : p = none := by
  cases p with
  | none => rfl
  | some p => exact absurd e h.2.2.1
theorem Br.mulN (B : Br K ι) (F : Fl K) {t : Tri} {p : Pnt} (h : Good t p) : ∀ n, Stands (jMul t n) (nP p n) := by
  intro n
  induction n using Nat.strongRecOn with
  | ind n ih =>
    unfold jMul
    split
    · split
      · rename_i hz
        have : nP p n = none := by
          rcases hz with e | e
          · rw [st_none h.1 e, n_none]
          · subst e; rfl
        rw [this]
        exact .inr rfl
      · rename_i h2 hz
        have : n = 1 := by
          have : n ≠ 0 := fun e => hz (.inr e)
          omega
        subst this
        rw [n_one]
        exact h.1
    · split
      · rename_i e
        rw [st_none h.1 e, n_none]
        exact .inr rfl
      · have hh := B.dbl F ⟨ih (n / 2) (by omega), B.nOn F h.2 (n / 2)⟩
        rw [← B.nAdd F h.2] at hh
        split
        · have e : n / 2 + n / 2 = n := by omega
          rwa [e] at hh
        · have g := B.add' F ⟨hh, B.nOn F h.2 _⟩ h
          have e : nP p n = lSum (nP p (n / 2 + n / 2)) p := by
            conv => rhs; rw [← n_one p, n_one p]
            have := B.nAdd F h.2 (n / 2 + n / 2) 1
            rw [n_one] at this
            rw [← this]
            congr 1
            omega
          rw [e]
          exact g
theorem Br.form (B : Br K ι) (F : Fl K) {p : Pnt} {f z : Int} (h : OnC p) (h0 : 0 < f) (h1 : f < pP) (hz : z = 0 ∨ z = 1) : Stands (formJ p f z) p := by
  cases p with
  | none =>
    rcases hz with rfl | rfl
    · exact .inl rfl
    · exact .inr rfl
  | some p =>
    have fr : 0 ≤ f ∧ f < pP := ⟨by omega, h1⟩
    refine B.mkF F ⟨pmod _, pmod _, fr⟩ h (B.ne fr (show f ≠ 0 by omega)) ?_ ?_
    · show ι (p.1 * (f * f % pP) % pP) = ι p.1 * (ι f * ι f)
      rw [B.emod, B.mul, B.emod, B.mul]
    · show ι (p.2 * (f * f % pP) * f % pP) = ι p.2 * (ι f * ι f) * ι f
      rw [B.emod, B.mul, B.mul, B.emod, B.mul]
theorem Br.negOn (B : Br K ι) (F : Fl K) {p : Pnt} (h : OnC p) : OnC (negP p) := by
  cases p with
  | none => trivial
  | some p =>
    have hy := B.ne' (B.onY F h)
    have hr := h.1
    refine B.of_on ?_ ?_
    · exact ⟨hr.1, by have := hr.2; constructor <;> omega⟩
    · have := ng_on (B.on h)
      have e : toK ι (negP (some p)) = ng (toK ι (some p)) := by
        show some (ι p.1, ι (pP - p.2)) = some (ι p.1, -ι p.2)
        rw [B.sub, B.pP0]
        congr 2
        exact k_nn _
      rw [e]
      exact this
theorem Br.neg (B : Br K ι) (F : Fl K) {t u : Tri} {p : Pnt} (h : Good t p) (g : Stands u (negP p)) : Stands (jAdd u t) none := by
  have := B.add' F ⟨g, B.negOn F h.2⟩ h
  have e : lSum (negP p) p = none := by
    cases p with
    | none => rfl
    | some p =>
      show lSum (some (p.1, pP - p.2)) (some p) = none
      unfold lSum
      dsimp only
      rw [if_pos rfl, if_pos]
      rw [Int.sub_add_cancel, Int.emod_self]
  rwa [e] at this
theorem zmod (k : Nat) (i : Int) : 0 * i ^ k % pP = 0 := by rw [Int.zero_mul]; rfl
theorem p_cop {z : Int} (h0 : 0 < z) (h1 : z < pP) : Int.gcd z pP = 1 := by
  rw [Int.gcd_comm, Int.gcd_eq_natAbs_gcd_natAbs]
  refine Pr.cop pr_p fun hd => ?_
  have := Nat.le_of_dvd (by omega) hd
  omega
theorem Br.aff (B : Br K ι) {t : Tri} {p : Pnt} (h : Good t p) : fromJ t = pairP p := by
  obtain ⟨hs, ho⟩ := h
  cases p with
  | none =>
    rcases hs with rfl | rfl <;> exact Prod.ext (zmod 2 _) (zmod 3 _)
  | some p =>
    obtain ⟨a1, a2, a3, a4⟩ := B.st hs
    have hz := hs.1.2.2
    have hz0 := hs.2.2.2.1
    have hi := inv_ok t.2.2 pP (by decide) hz.1 hz0 (p_cop (by omega) hz.2)
    have hi' := congrArg ι hi
    rw [B.emod, B.mul, B.one] at hi'
    refine Prod.ext (B.inj' (pmod _) ho.1.1 ?_) (B.inj' (pmod _) ho.1.2 ?_)
    · show ι (t.1 * pyInv t.2.2 pP ^ 2 % pP) = ι p.1
      rw [B.emod, B.mul, B.pow, a3]
      exact kf1 hi'
    · show ι (t.2.1 * pyInv t.2.2 pP ^ 3 % pP) = ι p.2
      rw [B.emod, B.mul, B.pow, a4]
      exact kf2 hi'
theorem one_in : 0 ≤ (1 : Int) ∧ (1 : Int) < pP := by constructor <;> decide
theorem Br.pair (B : Br K ι) (F : Fl K) {p : Pnt} (h : OnC p) : Stands (toJ (pairP p)) p := by
  cases p with
  | none => exact .inr rfl
  | some p =>
    refine B.mkF F ⟨h.1.1, h.1.2, one_in⟩ h (B.ne one_in (show (1 : Int) ≠ 0 by decide)) ?_ ?_
    · show ι p.1 = ι p.1 * (ι 1 * ι 1)
      rw [B.one]; exact k_11 _
    · show ι p.2 = ι p.2 * (ι 1 * ι 1) * ι 1
      rw [B.one]; exact k_111 _
end
/-- all that the law leans on -/
theorem maths : Maths := by
  obtain ⟨K, hK, ι, B⟩ := br_ex
  have F := B.fl no_root
  exact {
    root := no_root
    inv := inv_ok
    dbl := B.dbl F
    add := B.add' F
    sum := B.sumOn F
    mul := fun n h => by rw [B.times F h.2]; exact B.mulN F h n
    times := fun n h => by rw [B.times F h]; exact B.nOn F h n
    form := B.form F
    neg := B.neg F
    negOn := B.negOn F
    aff := B.aff
    pair := B.pair F }
end MineM

set_option maxRecDepth 100000 in
set_option maxHeartbeats 8000000 in
theorem PySem.Challenge.cw_jv0010_01_holds : PySem.Challenge.rw_jv0010_01.Holds :=
  Mine.law_walk MineM.maths
