import PyProof.Rows.All
import Wide.All
import OpenK.AllK
import Wide.FinOn
import PySem.Challenge.RW_pg0154_01
open PySem PySem.W PyProof.Rows
set_option Elab.async false
namespace Mine
set_option maxRecDepth 100000 in
set_option maxHeartbeats 8000000 in
open_top hd for PySem.Challenge.rw_pg0154_01
end Mine
section
/- part Plain -/
open PySem PySem.W PyProof.Rows
namespace Mine

inductive Op where
  | bor | xor | band | shl | shr | add | sub | mul | fdiv | mod
  deriving DecidableEq

noncomputable abbrev Op.list : List Op := [.bor, .xor, .band, .shl, .shr, .add, .sub, .mul, .fdiv, .mod]
theorem Op.mem (o : Op) : o ∈ Op.list := by cases o <;> decide
theorem op_all {P : Op → Prop} (h : ∀ o ∈ Op.list, P o) (o : Op) : P o := h o o.mem
noncomputable def Op.sign : Op → Str
  | .bor => Str.ofString "|" | .xor => Str.ofString "^" | .band => Str.ofString "&" | .shl => Str.ofString "<<" | .shr => Str.ofString ">>"
  | .add => Str.ofString "+" | .sub => Str.ofString "-" | .mul => Str.ofString "*" | .fdiv => Str.ofString "//" | .mod => Str.ofString "%"
noncomputable def Op.tok : Op → Int
  | .bor => 18 | .xor => 32 | .band => 19 | .shl => 33 | .shr => 34 | .add => 14 | .sub => 15 | .mul => 16 | .fdiv => 47 | .mod => 24
noncomputable def Op.rank : Op → Nat
  | .bor => 1 | .xor => 2 | .band => 3 | .shl => 4 | .shr => 4 | .add => 5 | .sub => 5 | .mul => 6 | .fdiv => 6 | .mod => 6
noncomputable def Op.fits (o : Op) (b : Int) : Prop := (o = .shl ∨ o = .shr) → 0 ≤ b ∧ b ≤ 6
/-- what one deed gives; none: a division by nought -/
noncomputable def Op.val (o : Op) (a b : Int) : Option Int :=
  match o with
  | .bor => some (Builtin.bitOr a b) | .xor => some (Builtin.bitXor a b) | .band => some (Builtin.bitAnd a b)
  | .shl => some (a * 2 ^ b.toNat) | .shr => some (a.fdiv (2 ^ b.toNat))
  | .add => some (a + b) | .sub => some (a - b) | .mul => some (a * b)
  | .fdiv => if b = 0 then none else some (a.fdiv b)
  | .mod => if b = 0 then none else some (a.fmod b)
noncomputable def Op.val? (o : Op) : Option Int → Option Int → Option Int
  | some a, some b => o.val a b
  | _, _ => none

/-- a Python value for an int or None -/
noncomputable def encV : Option Int → Tok → Value
  | none, _ => .none
  | some a, t => .int a t

/-- an int of a size that the model takes everywhere -/
noncomputable def Sm (a : Int) : Prop := Builtin.Int.intBits a ≤ 4000
theorem Sm.mulOk {a b : Int} (ha : Sm a) (hb : Sm b) : IntMulOk a b := IntMulOk.of_bits (Nat.le_trans ha (by decide)) (Nat.le_trans hb (by decide))
theorem Sm.noPylong {a b : Int} (h : Sm b) : Builtin.divisionGoesByPylong a b = false := by
  refine PyProof.noPylong_of_log2 ?_
  have h1 : Builtin.Int.intBits b ≤ 4000 := h
  unfold Builtin.Int.intBits at h1
  by_cases h0 : b = 0
  · subst h0; decide
  · rw [if_neg (by simpa using h0)] at h1
    omega
theorem mulPow_ok {a b : Int} (h0 : 0 ≤ b) (h1 : b ≤ 6) : IntMulOk a (2 ^ b.toNat) :=
  .of_right ((by decide : ∀ n < 7, Builtin.Int.intBits (2 ^ n) ≤ 64) _ ((Int.toNat_lt h0).mpr (Int.lt_add_one_iff.mpr h1)))
theorem shl_room {a b : Int} (ha : Sm a) (h1 : b ≤ 6) : (Builtin.Int.intBits a : Int) + b ≤ 2 ^ 27 := Int.le_trans (Int.add_le_add (Int.ofNat_le.mpr ha) h1) (by decide)
end Mine

end
section
/- part Base -/
open PySem PySem.W PyProof.Rows
namespace Mine
theorem room_of {n k : Nat} (h : n < 500) (hk : k ≤ 20) : n + k < recursionLimit := Nat.lt_of_lt_of_le (Nat.add_lt_add_of_lt_of_le h hk) (by decide)
theorem news_tail {h₀ h : Heap} {L : Addr} {x : Addr × Obj} {l : List (Addr × Obj)} (N : News h₀ L h (x :: l)) : News h₀ L h l := fun p hp => N p (List.Mem.tail _ hp)
theorem news_sub {h₀ h : Heap} {L : Addr} {l l' : List (Addr × Obj)} (N : News h₀ L h l) (hs : ∀ p ∈ l', p ∈ l) : News h₀ L h l' := fun p hp => N p (hs p hp)
theorem om_d1 {d : Nat} (h : d < 400) : d + 1 < 500 := Nat.lt_of_lt_of_le (Nat.add_lt_add_right h 1) (by decide)
theorem om_d2 {d : Nat} (h : d < 320) : d + 1 < 400 := Nat.lt_of_lt_of_le (Nat.add_lt_add_right h 1) (by decide)
theorem om_d3 {d : Nat} (h : d < 400) : d < 500 := Nat.lt_of_lt_of_le h (by decide)
theorem om_d4 {d : Nat} (h : d < 320) : d < 500 := Nat.lt_of_lt_of_le h (by decide)
theorem om_l1 {k : Nat} (h : k ≤ 5000) : k ≤ 16777216 := Nat.le_trans h (by decide)
theorem om_l2 {k : Nat} (h : k ≤ 5000) : (k : Int) < 9223372036854775808 := Int.ofNat_lt.mpr (Nat.lt_of_le_of_lt h (by decide))
theorem om_l3 {k : Nat} (h : k ≤ 5000) : k + (0 + 1) ≤ 16777216 := Nat.le_trans (Nat.add_le_add_right h _) (by decide)
theorem om_l4 {k : Nat} (h : k ≤ 5000) : (k : Int) < 2 ^ 63 := Int.ofNat_lt.mpr (Nat.lt_of_le_of_lt h (by decide))
theorem om_n1 {k : Nat} : -9223372036854775808 ≤ (k : Int) := Int.le_trans (by decide) (Int.natCast_nonneg k)
theorem om_n2 {k : Nat} : -(2 : Int) ^ 63 ≤ (k : Int) := Int.le_trans (by decide) (Int.natCast_nonneg k)
theorem om_n3 {k n : Nat} : -(n : Int) ≤ (k : Int) := Int.le_trans (Int.neg_nonpos_of_nonneg (Int.natCast_nonneg n)) (Int.natCast_nonneg k)
theorem om_n4 {k : Nat} : -9223372036854775808 < (k : Int) := Int.lt_of_lt_of_le (by decide) (Int.natCast_nonneg k)
theorem om_c1 {k n : Nat} (h : k < n) : (k : Int) < (n : Int) := Int.ofNat_lt.mpr h
theorem om_c2 {k n : Nat} (h : k ≤ n) (hn : n ≤ 5000) : (k : Int) < 9223372036854775808 := om_l2 (Nat.le_trans h hn)
theorem om_p1 {r n : Int} (h : r < n - 1) : r < n := Int.lt_trans h (Int.sub_lt_self n (by decide))
theorem om_p2 {r n : Int} (h : r < n - 1) : r + 1 < n := Int.add_lt_of_lt_sub_right h
theorem om_p3 {n : Nat} (h : 2 ≤ n) : (0 : Int) < (n : Int) - 1 := Int.sub_pos_of_lt (Int.ofNat_lt.mpr h)
theorem om_p4 {r : Int} (h : 0 ≤ r) : 0 ≤ r + 1 := Int.add_nonneg h (by decide)
theorem om_p5 {r : Int} (h : 0 ≤ r) : 0 ≤ r + 2 := Int.add_nonneg h (by decide)
theorem om_a1 {a b : Nat} (h : a ≤ b) : a ≤ b + (0 + 1) := Nat.le_trans h (Nat.le_add_right ..)
theorem om_a2 {a b : Nat} (h : a ≤ b) : a + (0 + 1) ≤ b + (0 + 1) := Nat.add_le_add_right h _
theorem om_w1 {a b : Nat} (ha : a ≤ 216) (hb : b ≤ 216) : a + (b + 18) + 7 ≤ 4000 := Nat.le_trans (Nat.add_le_add_right (Nat.add_le_add ha (Nat.add_le_add_right hb 18)) 7) (by decide)
theorem om_w2 {a b : Nat} (ha : a ≤ 216) (hb : b ≤ 216) : a + (b + 18) ≤ 3000 := Nat.le_trans (Nat.add_le_add ha (Nat.add_le_add_right hb 18)) (by decide)
theorem om_w3 {a : Nat} (ha : a ≤ 216) : a ≤ 3000 := Nat.le_trans ha (by decide)
theorem om_w4 {a : Nat} : a ≤ a + 18 := Nat.le_add_right ..
theorem om_s1 {a p : Nat} (h : a + p = 6) : a ≤ 6 := h ▸ Nat.le_add_right a p
theorem om_s2 {a p : Nat} (h : a + p = 6) (hp : p < 5) : 2 ≤ a := Nat.le_of_add_le_add_right (b := p) (h ▸ Nat.add_le_add_left (Nat.le_of_lt_succ hp) 2)
theorem om_s3 {a p : Nat} (h : a + p = 6) (hp : p ≤ 5) : 1 ≤ a := Nat.le_of_add_le_add_right (b := p) (h ▸ Nat.add_le_add_left hp 1)
theorem om_s4 {a : Nat} (h : a ≤ 6) : a < 1000 := Nat.lt_of_le_of_lt h (by decide)
theorem om_s5 {a : Nat} (h : 1 ≤ a) : (0 : Int) < (a : Int) := Int.ofNat_lt.mpr h
end Mine

end
section
/- part CodeF -/
open PySem PySem.W PyProof.Rows PySem.Calls
namespace Mine
set_option maxRecDepth 100000
section
variable {prog : Program} {w : World} {A₀ A : Around} {s : Shared} {base h₀ : Heap} {outer : List Env} {L : Addr} {m : Str → Option Value} {env : Env} {news : List (Addr × Obj)} {K : Frag}
  {mg mb : Str → Option Value} {p : Program} {loose : List Str} {mean : ExcName → Option Value}

/-- a call of a def of the text whose own ledger is `hid` alone; what else of the caller's ledger stands is frozen under it -/
theorem code_defF {R : Result → Shared → Prop} {name qual : Str} {params : Arguments} {body : List Stmt} {scope : Scope} {dV kV doc pm cdv ct oc : Value} {an od : Option Addr} {osl : Array (Option Value)} {f : Addr} {args : Args} {binds : List (Str × Value)}
    (hid : List (Addr × Obj)) (hsub : ∀ q ∈ hid, q ∈ news)
    (B : Below A₀ base outer h₀) (F : Fr h₀ L s.heap m) (X₀ : K.In h₀) (N : News h₀ L s.heap news) (T : Top p loose mean mg mb h₀) (hA : A.frames = some (env :: outer)) (hf : env.frame = some L) (hke : env.scope.kind = .function)
    (ho : K.lookup f = some ⟨oc, od, .func (fnOf name qual params body scope dV kV doc pm an cdv ct), osl⟩) (hcd : codeIn K cdv qual = true) (hroom : A.depth < recursionLimit)
    (hbind : BindsTo s (fnOf name qual params body scope dV kV doc pm an cdv ct) args binds) (hloc : ∀ y ∈ binds, scope.names.lookup y.1 = some .local)
    (h : ∀ g L' h₁ tk, (∀ q ∈ news, (∀ z ∈ hid, q.1 ≠ z.1) → g.get? q.1 = some q.2) → Fr h₀ L g m → Fr g L' h₁ (fun y => binds.reverse.lookup y) → News g L' h₁ hid → Below A base (env :: outer) g → K.In g → Top p loose mean mg mb g →
      let env' := envOf qual scope L' f cdv
      let A' := A.deeper env'
      let sg := s.gens
      let sd := s.drawn
      let so := s.os
      let qk : Flow → Shared → Prop := fun fl s' => LeaveK h₀ L m g R (match fl with | .ret v => v | _ => .none) s'
      let ek : Value → Shared → Prop := fun e s' => wpAny (model prog w) A' (leaving env' e) (fun _ s'' => R (.error e) s'') (fun e' s'' => R (.error e') s'') s'
      wpAny (model prog w) A' (execs body env') qk ek ⟨h₁, sg, sd, tk, so⟩)
    (hco : scope.isCoroutine = false) (hgen : scope.isGenerator = false) (hk : scope.kind = .function)
    (hcell : ∀ x ∈ scope.names, x.2 ≠ .cell) : codeAny (model prog w) A (.call (.ref f) args) R s := by
  have Nh : News h₀ L s.heap hid := fun q hq => N q (hsub q hq)
  have X := X₀.keeps F.keep
  obtain ⟨FG, BG, st, lv⟩ := groundX (R := R) B F Nh hA hf hke
  refine codeAny_call_def (fd := fnOf name qual params body scope dV kV doc pm an cdv ct) (body := body) (binds := binds) hroom (X _ _ ho) rfl (T.nolimit.keeps F.keep) (codeRec_of X hcd) rfl hbind hcell hloc (fun h₁ hns hk₁ => ?_) hco hgen hk
  refine wpAny_mono (h (hideAll s.heap (hid.map (·.1))) s.heap.objs.size h₁ _ (fun q hq hz => ?_) FG ⟨hns, fun b o e => hk₁ b o (of_hideAll _ e), Nat.le_of_eq (hideAll_size _ _)⟩
    (fun q hq => ⟨hk₁ _ _ (Nh q hq).1, Nat.ne_of_lt (Heap.lt_size (Nh q hq).1), hideAll_none _ (List.mem_map_of_mem hq)⟩) BG (X₀.keeps (fun b o e => st b o e)) (T.keeps (fun b o e => st b o e))) (fun fl s' hl => lv _ _ hl) fun _ _ y => y
  refine hideAll_get _ (N q hq).1 fun hm => ?_
  obtain ⟨z, hz', e⟩ := List.mem_map.mp hm
  exact hz z hz' e.symm

/-- what stood frozen under a call stands behind it -/
theorem frozen_news {g h' : Heap} {L L' : Addr} {m' : Str → Option Value} {h : Heap} {hid : List (Addr × Obj)} (N : News h₀ L h news) (hfz : ∀ q ∈ news, (∀ z ∈ hid, q.1 ≠ z.1) → g.get? q.1 = some q.2)
    (F' : Fr g L' h' m') {news' : List (Addr × Obj)} (N' : News h₀ L h' news') (hsub : ∀ q ∈ hid, q ∈ news) (hst : ∀ q ∈ hid, q ∈ news') : News h₀ L h' (news' ++ news) := by
  intro q hq
  rcases List.mem_append.mp hq with hq | hq
  · exact N' q hq
  · by_cases hz : ∀ z ∈ hid, q.1 ≠ z.1
    · exact ⟨F'.keep _ _ (hfz q hq hz), (N q hq).2⟩
    · have : ∃ z ∈ hid, q.1 = z.1 := by
        apply Classical.byContradiction
        intro hn
        exact hz fun z hz' e => hn ⟨z, hz', e⟩
      obtain ⟨z, hz', e⟩ := this
      have h1 := (N q hq).1
      have h2 := (N z (hsub z hz')).1
      rw [e, h2] at h1
      have : q = z := Prod.ext e (Option.some.inj h1).symm
      rw [this]
      exact N' z (hst z hz')
theorem frozen_news0 {g h' : Heap} {L L' : Addr} {m' : Str → Option Value} {h : Heap} (N : News h₀ L h news) (hfz : ∀ q ∈ news, (∀ z ∈ ([] : List (Addr × Obj)), q.1 ≠ z.1) → g.get? q.1 = some q.2)
    (F' : Fr g L' h' m') {news' : List (Addr × Obj)} (N' : News h₀ L h' news') : News h₀ L h' (news' ++ news) := frozen_news N hfz F' N' (fun _ hq => nomatch hq) (fun _ hq => nomatch hq)
end
end Mine
namespace Mine
/-- a goal that the walk leaves to the hand -/
structure Hold (p : Prop) : Prop where
  out : p
/-- a value left behind with the frame and the ledger as they stood -/
structure MidT (x : Tok → Value) (g : Heap) (L : Addr) (mm : Str → Option Value) (nx : List (Addr × Obj)) (s0 : Shared) (v : Value) (s' : Shared) : Prop where
  ex : ∃ hh tk t, v = x t ∧ s' = { s0 with heap := hh, toks := tk } ∧ Fr g L hh mm ∧ News g L hh nx
theorem MidT.elim {P : Value → Shared → Prop} {x : Tok → Value} {g : Heap} {L : Addr} {mm : Str → Option Value} {nx : List (Addr × Obj)} {s0 : Shared} {v : Value} {s' : Shared} (H : MidT x g L mm nx s0 v s')
    (go : ∀ hh tk t, Fr g L hh mm → News g L hh nx → P (x t) { s0 with heap := hh, toks := tk }) : P v s' := by
  obtain ⟨hh, tk, t, rfl, rfl, F, N⟩ := H
  exact go hh tk t F N
theorem MidT.intro {x : Tok → Value} {g : Heap} {L : Addr} {mm : Str → Option Value} {nx nx' : List (Addr × Obj)} {s0 : Shared} {v : Value} {s' : Shared} {hh : Heap} {tk : Nat} (t : Tok) (F : Fr g L hh mm) (N : News g L hh nx') (hn : ∀ p ∈ nx, p ∈ nx') (hv : v = x t) (hs : s' = { s0 with heap := hh, toks := tk }) : MidT x g L mm nx s0 v s' :=
  ⟨hh, tk, t, hv, hs, F, fun p hp => N p (hn p hp)⟩
end Mine
namespace Mine
theorem frozen_head {g h' h₀ : Heap} {L L' : Addr} {m' : Str → Option Value} {h : Heap} {news rest : List (Addr × Obj)} {x : Addr × Obj} (N : News h₀ L h news) (hfz : ∀ q ∈ news, (∀ z ∈ ([] : List (Addr × Obj)), q.1 ≠ z.1) → g.get? q.1 = some q.2)
    (F' : Fr g L' h' m') (kN : News h₀ L h' (x :: rest)) : News h₀ L h' (x :: news) :=
  frozen_news0 (news' := [x]) N hfz F' (news_sub kN fun p hp => by rw [List.mem_singleton.mp hp]; exact List.mem_cons_self)
end Mine
namespace Mine
theorem ite_ne {α : Type} {z x : Str} {v r t : α} (h : z ≠ x) (e : r = t) : (if z = x then v else r) = t := (if_neg h).trans e
theorem ite_bf {α : Type} {b : Bool} {v r t : α} (h : b = false) (e : r = t) : (if b = true then v else r) = t := (if_neg (Bool.eq_false_iff.mp h)).trans e
theorem ite_split {α : Type} {z x : Str} {v r t : α} (h : z = x → v = t) (e : r = t) : (if z = x then v else r) = t := by split; exact h (by assumption); exact e
theorem ne_first {z x : Str} {l : List Str} (h : (x :: l).contains z = false) : z ≠ x := fun e => by subst e; simp at h
theorem ne_rest {z x : Str} {l : List Str} (h : (x :: l).contains z = false) : l.contains z = false := by
  rw [List.contains_cons, Bool.or_eq_false_iff] at h
  exact h.2
theorem let_body {M : Model} {A : Around} {bd : List Stmt} {env : Env} {Q : Flow → Shared → Prop} {E : Value → Shared → Prop} {h : Heap} {g d o} {tk : Nat} (k : let env' := env; let A' := A; let sg := g; let sd := d; let so := o; let qk := Q; let ek := E; wpAny M A' (execs bd env') qk ek ⟨h, sg, sd, tk, so⟩) :
    wpAny M A (execs bd env) Q E ⟨h, g, d, tk, o⟩ := k
theorem wp_norm {α : Type} {M : Model} {A : Around} {t : Sem α} {Q : α → Shared → Prop} {E : Value → Shared → Prop} {h₀ hp : Heap} {g d o} {tk : Nat} {L : Addr} {m : Str → Option Value} (F : Fr h₀ L hp m) (k : let m' := m; Fr h₀ L hp m' → ∀ tk', wpAny M A t Q E ⟨hp, g, d, tk', o⟩) : wpAny M A t Q E ⟨hp, g, d, tk, o⟩ := k F tk
theorem wp_gen {α : Type} {M : Model} {A : Around} {t : Sem α} {Q : α → Shared → Prop} {E : Value → Shared → Prop} {hp : Heap} {gens dr os} {tk : Nat} (h : ∀ tk', wpAny M A t Q E ⟨hp, gens, dr, tk', os⟩) : wpAny M A t Q E ⟨hp, gens, dr, tk, os⟩ := h tk
end Mine
namespace Mine
/-- a value given back; the frame stands over g, the ledger over it is the callee's own -/
structure RetB (x : Tok → Value) (g : Heap) (L : Addr) (sg : Array GenState) (sd : Drawn) (so : OsState) (fl : Flow) (s' : Shared) : Prop where
  ex : ∃ hh tk t mm, fl = .ret (x t) ∧ s' = ⟨hh, sg, sd, tk, so⟩ ∧ Fr g L hh mm
theorem RetB.intro {x : Tok → Value} {g : Heap} {L : Addr} {sg : Array GenState} {sd : Drawn} {so : OsState} {fl : Flow} {s' : Shared} {hh : Heap} {tk : Nat} {mm : Str → Option Value} (t : Tok) (F : Fr g L hh mm) (hv : fl = .ret (x t)) (hs : s' = ⟨hh, sg, sd, tk, so⟩) : RetB x g L sg sd so fl s' :=
  ⟨hh, tk, t, mm, hv, hs, F⟩
theorem RetB.leave {x : Tok → Value} {g h₀ : Heap} {L L' : Addr} {m : Str → Option Value} {R : Result → Shared → Prop} {s : Shared} {news : List (Addr × Obj)} {fl : Flow} {s' : Shared}
    (N : News h₀ L s.heap news) (hfz : ∀ q ∈ news, (∀ z ∈ ([] : List (Addr × Obj)), q.1 ≠ z.1) → g.get? q.1 = some q.2)
    (h : ∀ h' tk t, Fr h₀ L h' m → News h₀ L h' news → R (.ok (.ret (x t))) { s with heap := h', toks := tk }) (H : RetB x g L' s.gens s.drawn s.os fl s') :
    LeaveK h₀ L m g R (match (generalizing := false) fl with | .ret v => v | _ => .none) s' := by
  obtain ⟨hh, tk, t, mm, rfl, rfl, F⟩ := H
  exact leaveK_ (news' := []) F (fun _ hp => nomatch hp) fun kF kN => h _ _ _ kF (frozen_news0 N hfz F kN)
/-- behind a test: the value given back, or the next line with p -/
structure IfV (x : Tok → Value) (p : Prop) (g : Heap) (L : Addr) (mm : Str → Option Value) (sg : Array GenState) (sd : Drawn) (so : OsState) (fl : Flow) (s' : Shared) : Prop where
  ex : (p ∧ fl = .next ∧ ∃ hh tk, s' = ⟨hh, sg, sd, tk, so⟩ ∧ Fr g L hh mm) ∨ RetB x g L sg sd so fl s'
theorem IfV.go {x : Tok → Value} {p : Prop} {g : Heap} {L : Addr} {mm : Str → Option Value} {sg : Array GenState} {sd : Drawn} {so : OsState} {s' : Shared} {hh : Heap} {tk : Nat} (hp : p) (F : Fr g L hh mm) (hs : s' = ⟨hh, sg, sd, tk, so⟩) : IfV x p g L mm sg sd so .next s' :=
  ⟨.inl ⟨hp, rfl, hh, tk, hs, F⟩⟩
theorem IfV.back {x : Tok → Value} {p : Prop} {g : Heap} {L : Addr} {mm m' : Str → Option Value} {sg : Array GenState} {sd : Drawn} {so : OsState} {fl : Flow} {s' : Shared} {hh : Heap} {tk : Nat} (t : Tok) (F : Fr g L hh m') (hv : fl = .ret (x t)) (hs : s' = ⟨hh, sg, sd, tk, so⟩) : IfV x p g L mm sg sd so fl s' :=
  ⟨.inr (.intro t F hv hs)⟩
theorem IfV.cut {M : Model} {A : Around} {t : Sem Flow} {Q : Flow → Shared → Prop} {E : Value → Shared → Prop} {s : Shared} {x : Tok → Value} {p : Prop} {g : Heap} {L : Addr} {mm : Str → Option Value} {sg : Array GenState} {sd : Drawn} {so : OsState}
    (H : wpAny M A t (IfV x p g L mm sg sd so) E s) (next : p → ∀ hh tk, Fr g L hh mm → News g L hh [] → Q .next ⟨hh, sg, sd, tk, so⟩)
    (ret : ∀ v s1, RetB x g L sg sd so (.ret v) s1 → Q (.ret v) s1) : wpAny M A t Q E s := by
  refine wpAny_mono H (fun fl s' hM => ?_) (fun _ _ x => x)
  obtain ⟨hp, rfl, hh, tk, rfl, F⟩ | H := hM.ex
  · exact next hp hh tk F (fun _ hq => nomatch hq)
  · have e := H.ex
    obtain ⟨hh, tk, t, m', rfl, _⟩ := e
    exact ret _ _ H
end Mine

end
section
/- part CodeS -/
open PySem PySem.W PyProof.Rows PySem.Calls
namespace Mine
set_option maxRecDepth 100000
section
variable {prog : Program} {w : World} {A₀ A : Around} {s : Shared} {base h₀ : Heap} {env : Env} {L : Addr} {m : Str → Option Value} {news : List (Addr × Obj)} {K : Frag} {p : Program} {loose : List Str} {mean : ExcName → Option Value} {mg mb : Str → Option Value}
    {R : Result → Shared → Prop} {name qual : Str} {params : Arguments} {body : List Stmt} {scope : Scope} {dV kV doc pm cdv ct oc : Value} {an od : Option Addr} {osl : Array (Option Value)} {f : Addr} {args : Args} {binds : List (Str × Value)}

/-- a call, of a def that catches, out of any frame of a def: one with cells too -/
theorem code_defSE (B : Below A₀ base [] h₀) (F : Fr h₀ L s.heap m) (X₀ : K.In h₀) (N : News h₀ L s.heap news) (T : Top p loose mean mg mb h₀) (hA : A.frames = some [env]) (hf : env.frame = some L) (hke : env.scope.kind = .function)
    (ho : K.lookup f = some ⟨oc, od, .func (fnOf name qual params body scope dV kV doc pm an cdv ct), osl⟩) (hcd : codeIn K cdv qual = true) (hroom : A.depth < recursionLimit)
    (hbind : BindsTo s (fnOf name qual params body scope dV kV doc pm an cdv ct) args binds) (hloc : ∀ y ∈ binds, scope.names.lookup y.1 = some .local)
    (h : ∀ g L' h₁, Fr h₀ L g m → Fr g L' h₁ (fun y => binds.reverse.lookup y) → News g L' h₁ news → Below A base [env] g → K.In g → Top p loose mean mg mb g → KtsDicts ([env].filterMap (·.frame)) g →
      wpAny (model prog w) (A.deeper (envOf qual scope L' f cdv)) (execs body (envOf qual scope L' f cdv))
        (fun fl s' => LeaveS0 ([env].filterMap (·.frame)) h₀ L m g R (match fl with | .ret v => v | _ => .none) s')
        (fun e s' => wpAny (model prog w) (A.deeper (envOf qual scope L' f cdv)) (leaving (envOf qual scope L' f cdv) e) (fun _ s'' => R (.error e) s'') (fun e' s'' => R (.error e') s'') s')
        { s with heap := h₁, toks := s.toks + binds.length })
    (hco : scope.isCoroutine = false) (hgen : scope.isGenerator = false) (hk : scope.kind = .function)
    (hcell : ∀ x ∈ scope.names, x.2 ≠ .cell) : codeAny (model prog w) A (.call (.ref f) args) R s := by
  have X := X₀.keeps F.keep
  obtain ⟨FG, BG, st, _⟩ := groundX (R := R) B F N hA hf hke
  have fs : [env].filterMap (·.frame) = [L] := by simp [hf]
  obtain ⟨oL, es, ep, hG, hLd, hLk, hLf⟩ := FG.ns
  have off : h₀.get? L = none := by
    cases q : h₀.get? L with
    | none => rfl
    | some o => exact absurd (Heap.lt_size q) (Nat.not_lt.mpr F.above)
  refine codeAny_call_def (fd := fnOf name qual params body scope dV kV doc pm an cdv ct) (body := body) (binds := binds) hroom (X _ _ ho) rfl (T.nolimit.keeps F.keep) (codeRec_of X hcd) rfl hbind hcell hloc (fun h₁ hns hk₁ => ?_) hco hgen hk
  refine wpAny_mono (h (hideAll s.heap (news.map (·.1))) s.heap.objs.size h₁ FG ⟨hns, fun b o e => hk₁ b o (of_hideAll _ e), Nat.le_of_eq (hideAll_size _ _)⟩
    (fun q hq => ⟨hk₁ _ _ (N q hq).1, Nat.ne_of_lt (Heap.lt_size (N q hq).1), hideAll_none _ (List.mem_map_of_mem hq)⟩) BG (X₀.keeps (fun b o e => st b o e)) (T.keeps (fun b o e => st b o e)) ?_) (fun fl s' hl => ?_) fun _ _ y => y
  · intro b hb
    rw [fs, List.mem_singleton] at hb
    subst hb
    exact ⟨oL, es, ep, hG, hLd⟩
  obtain ⟨g', L', m', news', T', F', N', k⟩ := hl
  rw [fs] at T'
  obtain ⟨sl, hs⟩ := T'.up hG
  refine k ⟨⟨_, es, ep, F'.keep _ _ hs, hLd, hLk, hLf⟩, fun b o e => ?_, F.above⟩ fun q hq => ⟨(N' q hq).1, fun e => ?_, ?_⟩
  · refine F'.keep b o (T'.other b o (st b o e) fun hm => ?_)
    rw [List.mem_singleton.mp hm, off] at e
    cases e
  · have := (N' q hq).2.2
    rw [e, hs] at this
    cases this
  · cases e : h₀.get? q.1 with
    | none => rfl
    | some o =>
      obtain ⟨sl', hs'⟩ := T'.up (st _ _ e)
      have := (N' q hq).2.2
      rw [hs'] at this
      cases this
end
end Mine

end
local macro_rules | `(tactic| walk_at $s:str) => `(tactic| k_extra $s)
local macro_rules | `(tactic| k_room) => `(tactic| k_extra "ROOM")
local macro_rules | `(tactic| size_fits) => `(tactic| k_extra "SIZE")
local macro_rules | `(tactic| k_ne) => `(tactic| k_extra "NE")
local macro_rules | `(tactic| omega) => `(tactic| first | k_extra "OM" | omega +splitDisjunctions)
local macro_rules | `(tactic| mul_fits) => `(tactic| k_extra "MUL")
section
/- part WValue -/
theorem Mine.offWValue : True := by
  w_top off
  k_with_none
  trivial
open PySem PySem.W PyProof.Rows
namespace Mine
set_option maxRecDepth 100000
set_option maxHeartbeats 8000000
structure MarkV : Prop where
noncomputable abbrev mapV {h₀ h : Heap} {L : Addr} {m : Str → Option Value} (_ : Fr h₀ L h m) : Str → Option Value := m
theorem sign_inj {o p : Op} {x : Str} (hx : o.sign = x) (h : (x == p.sign) = true) : o = p :=
  op_all (P := fun o => ∀ p ∈ Op.list, (o.sign == p.sign) = true → o = p) (by decide +kernel) o p p.mem (hx ▸ h)
theorem in_div {o : Op} {x : Str} {a b : Int} (hx : o.sign = x) (hb : b = 0) (h : ([Str.ofString "//", Str.ofString "%"].any fun y => y == x) = true) : Flow.ret .none = Flow.ret (encV (o.val a b) 0) := by
  subst hx hb
  revert h
  cases o <;> first | (intro h; exact absurd h (by decide)) | (intro _; rfl)
theorem not_div {o : Op} {x : Str} {b : Int} (hx : o.sign = x) (h : ([Str.ofString "//", Str.ofString "%"].any fun y => y == x) = false) : o = .fdiv ∨ o = .mod → b ≠ 0 := by
  subst hx
  rintro (rfl | rfl)
  · exact absurd h (by decide)
  · exact absurd h (by decide)
theorem ret_op {o p : Op} {x : Str} {a b v : Int} {t : Tok} (hx : o.sign = x) (h : (x == p.sign) = true) (e : p.val a b = some v) : Flow.ret (.int v t) = Flow.ret (encV (o.val a b) t) := by
  rw [sign_inj hx h, e]
  rfl
theorem ret_xor {o : Op} {x : Str} {a b : Int} {t : Tok} (hx : o.sign = x) (h1 : (x == Str.ofString "+") = false) (h2 : (x == Str.ofString "-") = false) (h3 : (x == Str.ofString "<<") = false) (h4 : (x == Str.ofString ">>") = false) (h5 : (x == Str.ofString "//") = false)
    (h6 : (x == Str.ofString "%") = false) (h7 : (x == Str.ofString "*") = false) (h8 : (x == Str.ofString "|") = false) (h9 : (x == Str.ofString "&") = false) : Flow.ret (.int (Builtin.bitXor a b) t) = Flow.ret (encV (o.val a b) t) := by
  subst hx
  cases o <;> first | rfl | exact absurd h1 (by decide) | exact absurd h2 (by decide) | exact absurd h3 (by decide) | exact absurd h4 (by decide) | exact absurd h5 (by decide) | exact absurd h6 (by decide) | exact absurd h7 (by decide) | exact absurd h8 (by decide) | exact absurd h9 (by decide)
theorem fit_six {o p : Op} {x : Str} {b : Int} {G : Prop} (hx : o.sign = x) (h : (x == p.sign) = true) (hf : o.fits b) (hp : p = .shl ∨ p = .shr) (k : 0 ≤ b → b ≤ 6 → G) : G :=
  k (hf (sign_inj hx h ▸ hp)).1 (hf (sign_inj hx h ▸ hp)).2
theorem div_ne {o p : Op} {x : Str} {b : Int} (hx : o.sign = x) (h : (x == p.sign) = true) (hd : o = .fdiv ∨ o = .mod → b ≠ 0) (hp : p = .fdiv ∨ p = .mod) : b ≠ 0 := hd (sign_inj hx h ▸ hp)
theorem fit_nz {b : Int} {G : Prop} (h : b ≠ 0) (k : b ≠ 0 → G) : G := k h
theorem wordsWValue1 : True := by
  k_with_none
  k_with "ROOM" => (first | exact room_of (k := 0) (by assumption) (by decide) | exact room_of (k := 1) (by assumption) (by decide) | exact room_of (k := 2) (by assumption) (by decide) | exact room_of (k := 3) (by assumption) (by decide))
  k_with "SIZE" => (first | assumption | (simp only [Str.length_append, PySem.sizeLine_eq]; omega))
  k_with "MUL" => (first | exact Sm.mulOk (by assumption) (by assumption) | exact mulPow_ok (by assumption) (by assumption))
  k_with "OM" => (first | with_reducible assumption | decide | (with_reducible exact om_d1 (by assumption)) | (with_reducible exact om_d2 (by assumption)) | (with_reducible exact om_d3 (by assumption)) | (with_reducible exact om_d4 (by assumption)) | (with_reducible exact om_l1 (by assumption)) | (with_reducible exact om_l2 (by assumption)) | (with_reducible exact om_l3 (by assumption)) | (with_reducible exact om_l4 (by assumption)) | (with_reducible exact om_n1) | (with_reducible exact om_n2) | (with_reducible exact om_n3) | (with_reducible exact om_n4) | (with_reducible exact om_c1 (by assumption)) | (with_reducible exact om_c2 (by assumption) (by assumption)) | (with_reducible exact om_p1 (by assumption)) | (with_reducible exact om_p2 (by assumption)) | (with_reducible exact om_p3 (by assumption)) | (with_reducible exact om_p4 (by assumption)) | (with_reducible exact om_p5 (by assumption)) | (with_reducible exact om_a1 (by assumption)) | (with_reducible exact om_a2 (by assumption)) | (with_reducible exact om_w1 (by assumption) (by assumption)) | (with_reducible exact om_w2 (by assumption) (by assumption)) | (with_reducible exact om_w3 (by assumption)) | (with_reducible exact om_w4) | (with_reducible exact om_s1 (by assumption)) | (with_reducible exact om_s2 (by assumption) (by assumption)) | (with_reducible exact om_s3 (by assumption) (by assumption)) | (with_reducible exact om_s4 (by assumption)) | (with_reducible exact om_s5 (by assumption)))
  k_with "binaryOp FloorDiv int int" => ((refine floordiv_int ?k1 ?_ (Or.inl (Sm.noPylong ?k2))); (case k2 => assumption); (case k1 => k_dflt (exact div_ne (p := .fdiv) (by assumption) (by assumption) (by assumption) (.inl rfl))))
  k_with "binaryOp Pow int int" => (k_here; (fail_if_success (rename _ ≤ (6 : Int) => h6)); k_dflt (first | refine fit_six (p := .shl) (by assumption) (by assumption) (by assumption) (.inl rfl) ?_ | refine fit_six (p := .shr) (by assumption) (by assumption) (by assumption) (.inr rfl) ?_); intro _ _)
  k_with "binaryOp Mod int int" => (k_here; (fail_if_success (rename _ ≠ (0 : Int) => h6)); k_dflt (refine fit_nz (div_ne (p := .mod) (by assumption) (by assumption) (by assumption) (.inr rfl)) ?_); intro _)
  k_with "execs cons" => (k_here; (with_reducible show wpAny _ _ _ _ _ (Shared.mk _ _ _ (_ + _) _)); (rename Fr _ _ _ _ => Fq9); refine wp_norm (g := sg) (d := sd) (o := so) Fq9 ?_; intro _ _ _; clear Fq9)
  k_with "exec If" => ((rename MarkV => mkV); refine Hold.out ?_)
  trivial
section
variable {w : World} {mg mb : Str → Option Value} {mean : ExcName → Option Value} {A₀ : Around} {dp un : Nat} {gs : Option (List Code)} {base h₀ : Heap} {outer : List Env} {env : Env} {L : Addr} {m : Str → Option Value} {news : List (Addr × Obj)} {s : Shared} {R : Result → Shared → Prop}

theorem value_call {o : Op} {v1 v2 : Option Int} {t1 t2 t3 : Tok}
    (B : Below A₀ base outer h₀) (F : Fr h₀ L s.heap m) (X : (hd.heap_39 w.params).In h₀) (N : News h₀ L s.heap news) (T : Top hd.view_39 (looseW hd.view_39 [Str.ofString "EXACT_TOKEN_TYPES"]) mean mg mb h₀)
    (hf : env.frame = some L) (hke : env.scope.kind = .function) (hdep : dp < 500) (s1 : ∀ a, v1 = some a → Sm a) (s2 : ∀ a, v2 = some a → Sm a ∧ o.fits a)
    (h : ∀ h' tk t, Fr h₀ L h' m → News h₀ L h' news → R (.ok (.ret (encV (o.val? v1 v2) t))) { s with heap := h', toks := tk }) :
    codeAny (model PySem.Challenge.rw_pg0154_01.row.prog w) ⟨none, dp, some (env :: outer), gs, un⟩ (.call (.ref 150) ⟨[.str o.sign t1, encV v1 t2, encV v2 t3], []⟩) R s := by
  revert X
  k_fill
  intro X
  refine' code_defF (binds := [(Str.ofString "sign", .str o.sign t1), (Str.ofString "one", encV v1 t2), (Str.ofString "two", encV v2 t3)]) [] (fun _ hq => nomatch hq) B F X N T rfl hf hke ?k6 ?k7 ?k8 ?k9 ?kB ?_ ?c2 ?c3 ?c4 ?c5
  case k6 => k_is
  case k7 => k_is
  case k8 => k_room
  case k9 => exact BindsTo.of_eq rfl
  case c5 => decide
  case kB => exact locs rfl
  case c2 => exact rfl
  case c3 => exact rfl
  case c4 => exact rfl
  intro g' L' h' tk0 hfz FG' F' N' B' X' T' env' A' sg sd so qk ek
  (try with_reducible show wpAny _ _ _ _ _ _)
  refine wpAny_mono (Q := RetB (encV (o.val? v1 v2)) g' L' sg sd so) ?bd (fun fl s1 hM => RetB.leave N hfz h hM) (fun _ _ x => x)
  clear h hfz qk
  cases v1 with
  | none =>
    dsimp only [encV, Op.val?] at F' ⊢
    (try with_reducible show wpAny _ _ _ _ _ _)
    try k_fold
    k_steps
    all_goals exact RetB.intro 0 (by assumption) rfl rfl
  | some a =>
    cases v2 with
    | none =>
      dsimp only [encV, Op.val?] at F' ⊢
      (try with_reducible show wpAny _ _ _ _ _ _)
      try k_fold
      k_steps
      all_goals exact RetB.intro 0 (by assumption) rfl rfl
    | some b =>
      have sa := s1 a rfl
      have sb := (s2 b rfl).1
      have hfit := (s2 b rfl).2
      clear s1 s2
      dsimp only [encV, Op.val?] at F' ⊢
      generalize hx : o.sign = x at F'
      (try with_reducible show wpAny _ _ _ _ _ _)
      try k_fold
      have mkV : MarkV := ⟨⟩
      (try with_reducible show wpAny _ _ _ _ _ _)
      k_steps
      refine ⟨?_⟩
      clear mkV
      rename Fr g' L' _ _ => F5
      refine IfV.cut (x := encV (o.val a b)) (p := o = .fdiv ∨ o = .mod → b ≠ 0) (g := g') (L := L') (mm := mapV F5) (sg := sg) (sd := sd) (so := so) ?ca ?nx ?rt
      case ca =>
        try dsimp only [mapV]
        (try with_reducible show wpAny _ _ _ _ _ _)
        try k_fold
        k_steps
        all_goals (rename Fr g' L' _ _ => F9)
        all_goals first
          | exact IfV.back 0 F9 (in_div hx (by assumption) (by assumption)) rfl
          | exact IfV.go (not_div hx (by assumption)) F9 rfl
          | exact IfV.go (fun _ => by assumption) F9 rfl
      case rt =>
        intro v s1 hR
        exact hR
      (try dsimp only [mapV])
      clear F5
      intro hdv hh5 tk5 F6 N6
      (try k_unfold)
      (try with_reducible show wpAny _ _ _ _ _ _)
      (try k_fold)
      k_steps
      all_goals (rename Fr g' L' _ _ => F9)
      all_goals first
        | exact RetB.intro _ F9 (ret_op (p := .add) hx (by assumption) rfl) rfl
        | exact RetB.intro _ F9 (ret_op (p := .sub) hx (by assumption) rfl) rfl
        | exact RetB.intro _ F9 (ret_op (p := .shl) hx (by assumption) rfl) rfl
        | exact RetB.intro _ F9 (ret_op (p := .shr) hx (by assumption) rfl) rfl
        | exact RetB.intro _ F9 (ret_op (p := .fdiv) hx (by assumption) (if_neg (div_ne (p := .fdiv) hx (by assumption) hdv (.inl rfl)))) rfl
        | exact RetB.intro _ F9 (ret_op (p := .mod) hx (by assumption) (if_neg (div_ne (p := .mod) hx (by assumption) hdv (.inr rfl)))) rfl
        | exact RetB.intro _ F9 (ret_op (p := .mul) hx (by assumption) rfl) rfl
        | exact RetB.intro _ F9 (ret_op (p := .bor) hx (by assumption) rfl) rfl
        | exact RetB.intro _ F9 (ret_op (p := .band) hx (by assumption) rfl) rfl
        | exact RetB.intro _ F9 (ret_xor hx (by assumption) (by assumption) (by assumption) (by assumption) (by assumption) (by assumption) (by assumption) (by assumption) (by assumption)) rfl
end
end Mine

end
section
/- part Toks -/
open PySem PySem.W PyProof.Rows
namespace Mine

/-- a word of the text -/
inductive Tk where
  | op (o : Op)
  | lp | rp | til
  | num (n : Nat)

noncomputable def Tk.str : Tk → Str
  | .op o => o.sign
  | .lp => Str.ofString "(" | .rp => Str.ofString ")" | .til => Str.ofString "~"
  | .num n => Str.ofString (toString (n : Int))
noncomputable def Tk.code : Tk → Int
  | .op o => o.tok
  | .lp => 7 | .rp => 8 | .til => 31
  | .num n => 256 + (n : Int)
noncomputable def tcps (ts : List Tk) : List Nat := ts.flatMap fun t => t.str.cps.toList
noncomputable def tstr (ts : List Tk) : Str := ⟨(tcps ts).toArray⟩

theorem tcps_append (a b : List Tk) : tcps (a ++ b) = tcps a ++ tcps b := by simp [tcps]
theorem tstr_append (a b : List Tk) : tstr (a ++ b) = tstr a ++ tstr b := by
  refine Str.ext' ?_
  rw [Str.cps_append]
  simp [tstr, tcps_append]
theorem tstr_one (t : Tk) : tstr [t] = t.str := by
  refine Str.ext' ?_
  simp [tstr, tcps]
theorem tstr_len (ts : List Tk) : (tstr ts).length = (tcps ts).length := by
  show (tcps ts).toArray.size = _
  simp
theorem tstr_toList (ts : List Tk) : (tstr ts).cps.toList = tcps ts := by simp [tstr]

/-- true: a number (or what opens one) is awaited; false: an operator, a closing bracket or the end -/
noncomputable def Runs : Bool → List Tk → Prop
  | true, .lp :: r => Runs true r
  | true, .til :: r => Runs true r
  | true, .num n :: r => n < 10 ^ 9 ∧ Runs false r
  | false, .op _ :: r => Runs true r
  | false, .rp :: r => Runs false r
  | false, [] => True
  | _, _ => False

/-- what the table says to a text: is it one of its words -/
inductive Ans : Str → Bool → Prop
  | op (o : Op) : Ans o.sign true
  | lp : Ans (Str.ofString "(") true
  | rp : Ans (Str.ofString ")") true
  | til : Ans (Str.ofString "~") true
  | two {a b : Nat} : (a = 41 ∨ (48 ≤ a ∧ a ≤ 57) ∨ (b ≠ 61 ∧ b ≠ 42 ∧ b ≠ 62 ∧ b ≠ 47 ∧ b ≠ 60)) → Ans ⟨#[a, b]⟩ false
  | one {a : Nat} : 48 ≤ a ∧ a ≤ 57 → Ans ⟨#[a]⟩ false
inductive Num : Str → Int → Prop
  | op (o : Op) : Num o.sign o.tok
  | lp : Num (Str.ofString "(") 7
  | rp : Num (Str.ofString ")") 8
  | til : Num (Str.ofString "~") 31

theorem slice_to {x : Str} {a b : List Nat} (h : x.cps.toList = a ++ b) {j : Int} (hj : j = a.length) : Txt.slice x none (some j) = ⟨a.toArray⟩ := by
  have hl : x.length = a.length + b.length := by
    show x.cps.size = _
    rw [← Array.length_toList, h, List.length_append]
  have := slice_closes_toL (x := x) (j := j) (by omega) (by omega)
  rw [eq_of_beq this, h, hj]
  simp
theorem slice_from {x : Str} {a b : List Nat} (h : x.cps.toList = a ++ b) {j : Int} (hj : j = a.length) : Txt.slice x (some j) none = ⟨b.toArray⟩ := by
  have hl : x.length = a.length + b.length := by
    show x.cps.size = _
    rw [← Array.length_toList, h, List.length_append]
  rw [slice_from_eq (b := (x.length : Int)) (by omega) (by omega) rfl, h, hl, hj]
  congr 1
  have : ((a.length + b.length : Nat) : Int) - (a.length : Int) = (b.length : Int) := by omega
  rw [this]
  simp
end Mine

end
section
/- part TokFacts -/
open PySem PySem.W PyProof.Rows PySem.NumText
set_option linter.unusedSimpArgs false
namespace Mine

noncomputable abbrev Dig (c : Nat) : Prop := 48 ≤ c ∧ c ≤ 57

theorem isdigit_small : ∀ c, c < 128 → Txt.isdigit ⟨#[c]⟩ = decide (48 ≤ c ∧ c ≤ 57) := by decide +kernel
theorem isdigit_at {x : Str} {k c : Nat} (h : x.cps[k]? = some c) (hc : c < 128) : Txt.isdigit (Txt.item x (k : Int)) = decide (Dig c) := by
  have e : Txt.item x (k : Int) = ⟨#[c]⟩ := item_meets (by omega) (by rw [Int.toNat_natCast]; exact h)
  rw [e, isdigit_small c hc]
theorem num_cps (n : Nat) : (Tk.num n).str.cps.toList = (Nat.toDigits 10 n).map Char.toNat := KIN.signs_num n
theorem num_dig (n : Nat) : ∀ c ∈ (Tk.num n).str.cps.toList, Dig c := by
  intro c hc
  rw [num_cps] at hc
  obtain ⟨ch, hch, e⟩ := List.mem_map.mp hc
  have r := Nat.isDigit_of_mem_toDigits (by decide) (by decide) hch
  rw [Char.isDigit_iff_toNat] at r
  rw [← e]
  exact r
theorem num_ne (n : Nat) : (Tk.num n).str.cps.toList ≠ [] := by
  rw [num_cps]
  intro e
  have h : Nat.toDigits 10 n ≠ [] := Nat.toDigits_ne_nil
  exact h (List.map_eq_nil_iff.mp e)
theorem num_len {n : Nat} (h : n < 10 ^ 9) : (Tk.num n).str.length ≤ 10 := by
  have := KT.len_num (n := (n : Int)) (by omega) (by omega)
  exact this

noncomputable def Op.first : Op → Nat
  | .bor => 124 | .xor => 94 | .band => 38 | .shl => 60 | .shr => 62 | .add => 43 | .sub => 45 | .mul => 42 | .fdiv => 47 | .mod => 37
theorem Op.first_ne (o : Op) : ¬ Dig o.first ∧ o.first < 128 := op_all (P := fun o => ¬ Dig o.first ∧ o.first < 128) (by decide) o
theorem Op.sign_first (o : Op) : ∃ l, o.sign.cps.toList = o.first :: l := ⟨_, op_all (P := fun o => o.sign.cps.toList = o.first :: o.sign.cps.toList.tail) (by decide) o⟩
/-- what may stand next where a number is awaited -/
theorem head_true {r : List Tk} (h : Runs true r) : ∃ c cs, tcps r = c :: cs ∧ (Dig c ∨ c = 40 ∨ c = 126) := by
  cases r with
  | nil => exact h.elim
  | cons t r =>
    cases t with
    | op o => exact h.elim
    | rp => exact h.elim
    | lp => exact ⟨40, tcps r, rfl, .inr (.inl rfl)⟩
    | til => exact ⟨126, tcps r, rfl, .inr (.inr rfl)⟩
    | num n =>
      have hne := num_ne n
      have hd := num_dig n
      cases hq : (Tk.num n).str.cps.toList with
      | nil => exact absurd hq hne
      | cons c cs =>
        refine ⟨c, cs ++ tcps r, ?_, .inl (hd c (by rw [hq]; exact List.mem_cons_self))⟩
        show (Tk.num n).str.cps.toList ++ tcps r = _
        rw [hq]; rfl
/-- what may stand next where none is awaited -/
theorem head_false {r : List Tk} (h : Runs false r) : tcps r = [] ∨ ∃ c cs, tcps r = c :: cs ∧ ¬ Dig c ∧ c < 128 := by
  cases r with
  | nil => exact .inl rfl
  | cons t r =>
    cases t with
    | op o =>
      obtain ⟨l, hl⟩ := o.sign_first
      refine .inr ⟨o.first, l ++ tcps r, ?_, o.first_ne⟩
      show o.sign.cps.toList ++ tcps r = _
      rw [hl]; rfl
    | rp => exact .inr ⟨41, tcps r, rfl, by unfold Dig; omega, by decide⟩
    | lp => exact h.elim
    | til => exact h.elim
    | num n => exact h.elim

theorem tcps_cons (t : Tk) (r : List Tk) : tcps (t :: r) = t.str.cps.toList ++ tcps r := rfl

noncomputable def Long (x : Str) (t : Tk) (r : List Tk) : Prop := 0 < x.length ∧ Ans (Txt.slice x none (some 2)) true ∧ Num (Txt.slice x none (some 2)) t.code ∧ Txt.slice x (some 2) none = tstr r
noncomputable def Short (x : Str) (t : Tk) (r : List Tk) : Prop := 0 < x.length ∧ Ans (Txt.slice x none (some 2)) false ∧ Ans (Txt.slice x none (some 1)) true ∧ Num (Txt.slice x none (some 1)) t.code ∧ Txt.slice x (some 1) none = tstr r
noncomputable def Digs (x : Str) (n : Nat) (r : List Tk) (d : Nat) : Prop := 0 < x.length ∧ Ans (Txt.slice x none (some 2)) false ∧ Ans (Txt.slice x none (some 1)) false ∧ 1 ≤ d ∧ d ≤ 10 ∧ d ≤ x.length ∧
  (∀ k, k < d → Txt.isdigit (Txt.item x (k : Int)) = true) ∧ (d < x.length → Txt.isdigit (Txt.item x (d : Int)) = false) ∧ PySem.intText? (Txt.slice x none (some (d : Int))) = some (n : Int) ∧ (Txt.slice x none (some (d : Int))).length ≤ 640 ∧ Txt.slice x (some (d : Int)) none = tstr r

theorem len_of {x : Str} {l : List Nat} (h : x.cps.toList = l) : x.length = l.length := by
  show x.cps.size = _
  rw [← Array.length_toList, h]

theorem two_of {x : Str} {a : Nat} {l : List Nat} (h : x.cps.toList = a :: l) : Txt.slice x none (some 2) = ⟨(a :: l.take 1).toArray⟩ := by
  cases l with
  | nil =>
    have hl := len_of h
    rw [slice_to_beyond (by rw [hl]; exact (by decide : ((1 : Nat) : Int) ≤ 2)), slice_to (a := [a]) (b := []) (by rw [h]; rfl) (by rw [hl])]
    rfl
  | cons b l => exact slice_to (a := [a, b]) (b := l) (by rw [h]; rfl) (j := 2) rfl

theorem long_of {x : Str} {o : Op} {r : List Tk} (hx : x = tstr (.op o :: r)) (ho : o = .shl ∨ o = .shr ∨ o = .fdiv) : Long x (.op o) r := by
  have hc : x.cps.toList = o.sign.cps.toList ++ tcps r := by rw [hx, tstr_toList]; rfl
  have hl := len_of hc
  have e2 : o.sign.cps.toList.length = 2 := by rcases ho with rfl | rfl | rfl <;> rfl
  have es : Txt.slice x none (some 2) = o.sign := by
    rw [slice_to hc (by rw [e2]; rfl)]
  refine ⟨by rw [hl, List.length_append, e2]; exact Nat.lt_of_lt_of_le (by decide) (Nat.le_add_right 2 _), by rw [es]; exact .op o, by rw [es]; exact .op o, ?_⟩
  rw [slice_from hc (by rw [e2]; rfl)]
  rfl

theorem short_of {x : Str} {t : Tk} {r : List Tk} {c : Nat} (hx : x = tstr (t :: r)) (hc1 : t.str.cps.toList = [c]) (ha : Ans t.str true) (hn : Num t.str t.code)
    (h2 : ∀ b l, tcps r = b :: l → Ans ⟨#[c, b]⟩ false) (h1 : tcps r = [] → Ans ⟨#[c]⟩ false) : Short x t r := by
  have hc : x.cps.toList = [c] ++ tcps r := by rw [hx, tstr_toList, tcps_cons, hc1]
  have hl := len_of hc
  have es : Txt.slice x none (some 1) = t.str := by
    rw [slice_to hc (by rfl)]
    refine Str.ext' ?_
    rw [← hc1]
  have e2 := two_of (x := x) (a := c) (l := tcps r) hc
  refine ⟨by rw [hl, List.length_append]; exact Nat.lt_of_lt_of_le (by decide : 0 < 1) (Nat.le_add_right 1 _), ?_, by rw [es]; exact ha, by rw [es]; exact hn, ?_⟩
  · rw [e2]
    cases hq : tcps r with
    | nil => exact h1 hq
    | cons b l => exact h2 b l hq
  · rw [slice_from hc (by rfl)]
    rfl
theorem digs_of {x : Str} {n : Nat} {r : List Tk} (hx : x = tstr (.num n :: r)) (hn : n < 10 ^ 9) (hr : Runs false r) : ∃ d, Digs x n r d := by
  have hc : x.cps.toList = (Tk.num n).str.cps.toList ++ tcps r := by rw [hx, tstr_toList]; rfl
  have hl := len_of hc
  have hd := num_dig n
  have hlen := num_len hn
  have hn1 : PySem.intText? (Tk.num n).str = some (n : Int) := KIN.num_reads (n := (n : Int)) (by omega) (by omega)
  have hls : (Tk.num n).str.length = (Tk.num n).str.cps.toList.length := len_of rfl
  have hsl := fun (j : Int) (hj : j = ((Tk.num n).str.cps.toList.length : Nat)) => slice_to hc hj
  have hsf := fun (j : Int) (hj : j = ((Tk.num n).str.cps.toList.length : Nat)) => slice_from hc hj
  rw [hls] at hlen
  have hstr : (⟨(Tk.num n).str.cps.toList.toArray⟩ : Str) = (Tk.num n).str := by
    refine Str.ext' ?_
    simp
  generalize hds : (Tk.num n).str.cps.toList = ds at *
  refine ⟨ds.length, ?_⟩
  cases ds with
  | nil => exact absurd hds (num_ne n)
  | cons a ds =>
    have ha : Dig a := hd a List.mem_cons_self
    have e2 := two_of (x := x) (a := a) (l := ds ++ tcps r) hc
    have e1 : Txt.slice x none (some 1) = ⟨#[a]⟩ := slice_to (a := [a]) (b := ds ++ tcps r) hc (by rfl)
    refine ⟨by rw [hl]; exact Nat.zero_lt_succ _, ?_, by rw [e1]; exact .one ha, Nat.succ_le_succ (Nat.zero_le _), hlen, by rw [hl, List.length_append]; exact Nat.le_add_right .., ?_, ?_, ?_, ?_, ?_⟩
    · rw [e2]
      cases hq : ds ++ tcps r with
      | nil => exact .one ha
      | cons b l => exact .two (.inr (.inl ha))
    · intro k hk
      have hD := hd _ (List.getElem_mem hk)
      rw [isdigit_at (c := (a :: ds)[k]) ?_ (Nat.lt_of_le_of_lt hD.2 (by decide))]
      · exact decide_eq_true hD
      rw [← Array.getElem?_toList, hc, List.getElem?_append_left hk]
      exact List.getElem?_eq_getElem hk
    · intro hk
      rw [hl, List.length_append] at hk
      rcases head_false hr with e | ⟨c, cs, e, hc', hc2⟩
      · rw [e] at hk; simp at hk
      · rw [isdigit_at (c := c) ?_ hc2]
        · exact decide_eq_false hc'
        rw [← Array.getElem?_toList, hc, e, List.getElem?_append_right (Nat.le_refl _), Nat.sub_self]
        rfl
    · rw [hsl _ rfl, hstr]
      exact hn1
    · rw [hsl _ rfl, hstr, hls]
      exact Nat.le_trans hlen (by decide)
    · rw [hsf _ rfl]
      rfl

theorem two_no {c b : Nat} (h : Dig b ∨ b = 40 ∨ b = 126) : Ans ⟨#[c, b]⟩ false :=
  .two (.inr (.inr (h.elim (fun h => ⟨Nat.ne_of_lt (Nat.lt_of_le_of_lt h.2 (by decide)), Nat.ne_of_gt (Nat.lt_of_lt_of_le (by decide) h.1), Nat.ne_of_lt (Nat.lt_of_le_of_lt h.2 (by decide)), Nat.ne_of_gt (Nat.lt_of_lt_of_le (by decide) h.1), Nat.ne_of_lt (Nat.lt_of_le_of_lt h.2 (by decide))⟩)
    fun h => h.elim (fun h => h ▸ by decide) fun h => h ▸ by decide)))
theorem short_true {x : Str} {t : Tk} {r : List Tk} {c : Nat} (hr : Runs true r) (hx : x = tstr (t :: r)) (hc1 : t.str.cps.toList = [c]) (ha : Ans t.str true) (hn : Num t.str t.code) : Short x t r := by
  obtain ⟨c', cs, e, hc'⟩ := head_true hr
  refine short_of hx hc1 ha hn (fun b l e' => ?_) (fun e' => ?_)
  · rw [e] at e'; exact two_no ((List.cons.inj e').1 ▸ hc')
  · rw [e] at e'; exact nomatch e'
theorem rp_case {x : Str} {r : List Tk} (hr : Runs false r) (hx : x = tstr (.rp :: r)) : Long x .rp r ∨ Short x .rp r := by
  rcases head_false hr with e | ⟨c, cs, e, hc, hc'⟩
  · have hc : x.cps.toList = [41] := by rw [hx, tstr_toList, tcps_cons, e]; rfl
    have hl := len_of hc
    have e2 := two_of hc
    refine .inl ⟨by rw [hl]; decide, by rw [e2]; exact .rp, by rw [e2]; exact .rp, ?_⟩
    rw [slice_from_beyond (by rw [hl]; exact (by decide : ((1 : Nat) : Int) ≤ 2))]
    show _ = (⟨(tcps r).toArray⟩ : Str)
    rw [e]
  · refine .inr (short_of (c := 41) hx rfl .rp .rp (fun b l _ => .two (.inl rfl)) (fun e' => ?_))
    rw [e] at e'; exact nomatch e'
theorem op_one (o : Op) : (o = .shl ∨ o = .shr ∨ o = .fdiv) ∨ o.sign.cps.toList = [o.first] := op_all (P := fun o => (o = .shl ∨ o = .shr ∨ o = .fdiv) ∨ o.sign.cps.toList = [o.first]) (by decide) o
theorem words_cases {P : Prop} {b : Bool} {rest : List Tk} {x : Str} (hx : x = tstr rest) (h : Runs b rest) (k0 : rest = [] → P)
    (k1 : ∀ t r b', rest = t :: r → Runs b' r → 0 < x.length → Ans (Txt.slice x none (some 2)) true → Num (Txt.slice x none (some 2)) t.code → Txt.slice x (some 2) none = tstr r → P)
    (k2 : ∀ t r b', rest = t :: r → Runs b' r → 0 < x.length → Ans (Txt.slice x none (some 2)) false → Ans (Txt.slice x none (some 1)) true → Num (Txt.slice x none (some 1)) t.code → Txt.slice x (some 1) none = tstr r → P)
    (k3 : ∀ n r d, rest = .num n :: r → Runs false r → 0 < x.length → Ans (Txt.slice x none (some 2)) false → Ans (Txt.slice x none (some 1)) false → 1 ≤ d → d ≤ 10 → d ≤ x.length →
      (∀ k, k < d → Txt.isdigit (Txt.item x (k : Int)) = true) → (d < x.length → Txt.isdigit (Txt.item x (d : Int)) = false) → PySem.intText? (Txt.slice x none (some (d : Int))) = some (n : Int) → (Txt.slice x none (some (d : Int))).length ≤ 640 → Txt.slice x (some (d : Int)) none = tstr r → P) : P := by
  have long : ∀ t r b', rest = t :: r → Runs b' r → Long x t r → P := fun t r b' e hr q => k1 t r b' e hr q.1 q.2.1 q.2.2.1 q.2.2.2
  have short : ∀ t r b', rest = t :: r → Runs b' r → Short x t r → P := fun t r b' e hr q => k2 t r b' e hr q.1 q.2.1 q.2.2.1 q.2.2.2.1 q.2.2.2.2
  cases rest with
  | nil => exact k0 rfl
  | cons t r =>
    cases b with
    | true =>
      cases t with
      | op o => exact h.elim
      | rp => exact h.elim
      | lp => exact short .lp r true rfl h (short_true (c := 40) (show Runs true r from h) hx rfl .lp .lp)
      | til => exact short .til r true rfl h (short_true (c := 126) (show Runs true r from h) hx rfl .til .til)
      | num n => exact (digs_of hx h.1 h.2).elim fun d q => k3 n r d rfl h.2 q.1 q.2.1 q.2.2.1 q.2.2.2.1 q.2.2.2.2.1 q.2.2.2.2.2.1 q.2.2.2.2.2.2.1 q.2.2.2.2.2.2.2.1 q.2.2.2.2.2.2.2.2.1 q.2.2.2.2.2.2.2.2.2.1 q.2.2.2.2.2.2.2.2.2.2
    | false =>
      cases t with
      | lp => exact h.elim
      | til => exact h.elim
      | num n => exact h.elim
      | rp => exact (rp_case (show Runs false r from h) hx).elim (long .rp r false rfl h) (short .rp r false rfl h)
      | op o => exact (op_one o).elim (fun ho => long (.op o) r true rfl h (long_of hx ho)) fun hs => short (.op o) r true rfl h (short_true (show Runs true r from h) hx hs (.op _) (.op _))
end Mine

end
section
/- part WTab -/
theorem Mine.offWTab : True := by
  w_top off
  k_with_none
  trivial
open PySem PySem.W PyProof.Rows
namespace Mine
set_option maxRecDepth 100000
set_option maxHeartbeats 8000000
noncomputable def asked : List Str := [Op.sign .bor, Op.sign .xor, Op.sign .band, Op.sign .shl, Op.sign .shr, Op.sign .add, Op.sign .sub, Op.sign .mul, Op.sign .fdiv, Op.sign .mod, Str.ofString "(", Str.ofString ")", Str.ofString "~"]
theorem asked_op (o : Op) : o.sign ∈ asked := by cases o <;> decide
theorem Ans.three {x : Str} {b : Bool} (hx : Ans x b) : (x ∈ asked ∧ b = true) ∨ (∃ p q : Nat, x = ⟨#[p, q]⟩ ∧ (p = 41 ∨ (48 ≤ p ∧ p ≤ 57) ∨ (q ≠ 61 ∧ q ≠ 42 ∧ q ≠ 62 ∧ q ≠ 47 ∧ q ≠ 60)) ∧ b = false) ∨ (∃ p : Nat, x = ⟨#[p]⟩ ∧ (48 ≤ p ∧ p ≤ 57) ∧ b = false) := by
  cases hx with
  | op o => exact .inl ⟨asked_op o, rfl⟩
  | lp => exact .inl ⟨by decide, rfl⟩
  | rp => exact .inl ⟨by decide, rfl⟩
  | til => exact .inl ⟨by decide, rfl⟩
  | two h => exact .inr (.inl ⟨_, _, rfl, h, rfl⟩)
  | one h => exact .inr (.inr ⟨_, rfl, h, rfl⟩)
noncomputable def apart2 (k : Str) : Bool := match k.cps.toList with
  | [p, q] => (p != 41) && !(Nat.ble 48 p && Nat.ble p 57) && ((q == 61) || (q == 42) || (q == 62) || (q == 47) || (q == 60))
  | _ => true
noncomputable def apart1 (k : Str) : Bool := match k.cps.toList with
  | [p] => !(Nat.ble 48 p && Nat.ble p 57)
  | _ => true
theorem two_ne {a b : Nat} {k : Str} (h : a = 41 ∨ (48 ≤ a ∧ a ≤ 57) ∨ (b ≠ 61 ∧ b ≠ 42 ∧ b ≠ 62 ∧ b ≠ 47 ∧ b ≠ 60)) (hk : apart2 k = true) : (⟨#[a, b]⟩ : Str) ≠ k := by
  rintro rfl
  simp only [apart2, Bool.and_eq_true, Bool.or_eq_true, bne_iff_ne, ne_eq, Bool.not_eq_true', Bool.and_eq_false_iff, Nat.ble_eq, beq_iff_eq] at hk
  obtain ⟨⟨h1, h2⟩, h3⟩ := hk
  rcases h with h | h | h
  · exact h1 h
  · rcases h2 with h2 | h2
    · exact absurd (Nat.ble_eq.mpr h.1) (by rw [h2]; decide)
    · exact absurd (Nat.ble_eq.mpr h.2) (by rw [h2]; decide)
  · rcases h3 with (((h3 | h3) | h3) | h3) | h3
    · exact h.1 h3
    · exact h.2.1 h3
    · exact h.2.2.1 h3
    · exact h.2.2.2.1 h3
    · exact h.2.2.2.2 h3
theorem one_ne {a : Nat} {k : Str} (h : 48 ≤ a ∧ a ≤ 57) (hk : apart1 k = true) : (⟨#[a]⟩ : Str) ≠ k := by
  rintro rfl
  simp only [apart1, Bool.not_eq_true', Bool.and_eq_false_iff] at hk
  rcases hk with h2 | h2
  · exact absurd (Nat.ble_eq.mpr h.1) (by rw [h2]; decide)
  · exact absurd (Nat.ble_eq.mpr h.2) (by rw [h2]; decide)
theorem or_no {x k : Str} {r : Bool} (h : x ≠ k) (hr : r = false) : (decide (x = k) || r) = false := by rw [decide_eq_false h, hr]; rfl
theorem or_last {x k : Str} (h : x ≠ k) : decide (x = k) = false := decide_eq_false h
noncomputable def numbs : List (Str × Int) := [(Op.sign .bor, 18), (Op.sign .xor, 32), (Op.sign .band, 19), (Op.sign .shl, 33), (Op.sign .shr, 34), (Op.sign .add, 14), (Op.sign .sub, 15), (Op.sign .mul, 16), (Op.sign .fdiv, 47), (Op.sign .mod, 24), (Str.ofString "(", 7), (Str.ofString ")", 8), (Str.ofString "~", 31)]
theorem Num.mem {x : Str} {k : Int} (h : Num x k) : (x, k) ∈ numbs := by
  cases h with
  | op o => cases o <;> decide
  | _ => decide
theorem wordsWTab1 : True := by
  k_with_none
  k_with "ROOM" => (first | exact room_of (k := 0) (by assumption) (by decide) | exact room_of (k := 1) (by assumption) (by decide) | exact room_of (k := 2) (by assumption) (by decide) | exact room_of (k := 3) (by assumption) (by decide))
  k_with "SIZE" => (first | assumption | (simp only [Str.length_append, PySem.sizeLine_eq]; omega))
  k_with "MUL" => (first | exact Sm.mulOk (by assumption) (by assumption) | exact mulPow_ok (by assumption) (by assumption))
  k_with "NE" => (refine neN ?_; (try dsimp only); (first | exact Nat.ne_of_gt (by assumption) | exact Nat.ne_of_lt (by assumption) | exact Nat.ne_of_gt (And.left (by assumption)) | exact Nat.ne_of_gt (And.left (And.right (by assumption))) | exact Nat.ne_of_gt (And.left (And.right (And.right (by assumption)))) | exact Nat.ne_of_gt (And.left (And.right (And.right (And.right (by assumption))))) | exact Nat.ne_of_gt (And.left (And.right (And.right (And.right (And.right (by assumption)))))) | exact Nat.ne_of_gt (And.left (And.right (And.right (And.right (And.right (And.right (by assumption))))))) | exact Nat.ne_of_gt (And.left (And.right (And.right (And.right (And.right (And.right (And.right (by assumption)))))))) | exact Nat.ne_of_gt (And.left (And.right (And.right (And.right (And.right (And.right (And.right (And.right (by assumption))))))))) | exact Nat.ne_of_gt (And.left (And.right (And.right (And.right (And.right (And.right (And.right (And.right (And.right (by assumption)))))))))) | exact Nat.ne_of_gt (And.left (And.right (And.right (And.right (And.right (And.right (And.right (And.right (And.right (And.right (by assumption))))))))))) | exact Nat.ne_of_gt (And.left (And.right (And.right (And.right (And.right (And.right (And.right (And.right (And.right (And.right (And.right (by assumption)))))))))))) | exact Nat.ne_of_lt (And.left (by assumption)) | exact Nat.ne_of_lt (And.left (And.right (by assumption))) | exact Nat.ne_of_lt (And.left (And.right (And.right (by assumption)))) | exact Nat.ne_of_lt (And.left (And.right (And.right (And.right (by assumption))))) | exact Nat.ne_of_lt (And.left (And.right (And.right (And.right (And.right (by assumption)))))) | exact Nat.ne_of_lt (And.left (And.right (And.right (And.right (And.right (And.right (by assumption))))))) | exact Nat.ne_of_lt (And.left (And.right (And.right (And.right (And.right (And.right (And.right (by assumption)))))))) | exact Nat.ne_of_lt (And.left (And.right (And.right (And.right (And.right (And.right (And.right (And.right (by assumption))))))))) | exact Nat.ne_of_lt (And.left (And.right (And.right (And.right (And.right (And.right (And.right (And.right (And.right (by assumption)))))))))) | exact Nat.ne_of_lt (And.left (And.right (And.right (And.right (And.right (And.right (And.right (And.right (And.right (And.right (by assumption))))))))))) | exact Nat.ne_of_lt (And.left (And.right (And.right (And.right (And.right (And.right (And.right (And.right (And.right (And.right (And.right (by assumption))))))))))))))
  k_with "OM" => (first | with_reducible assumption | decide | (with_reducible exact om_d1 (by assumption)) | (with_reducible exact om_d2 (by assumption)) | (with_reducible exact om_d3 (by assumption)) | (with_reducible exact om_d4 (by assumption)) | (with_reducible exact om_l1 (by assumption)) | (with_reducible exact om_l2 (by assumption)) | (with_reducible exact om_l3 (by assumption)) | (with_reducible exact om_l4 (by assumption)) | (with_reducible exact om_n1) | (with_reducible exact om_n2) | (with_reducible exact om_n3) | (with_reducible exact om_n4) | (with_reducible exact om_c1 (by assumption)) | (with_reducible exact om_c2 (by assumption) (by assumption)) | (with_reducible exact om_p1 (by assumption)) | (with_reducible exact om_p2 (by assumption)) | (with_reducible exact om_p3 (by assumption)) | (with_reducible exact om_p4 (by assumption)) | (with_reducible exact om_p5 (by assumption)) | (with_reducible exact om_a1 (by assumption)) | (with_reducible exact om_a2 (by assumption)) | (with_reducible exact om_w1 (by assumption) (by assumption)) | (with_reducible exact om_w2 (by assumption) (by assumption)) | (with_reducible exact om_w3 (by assumption)) | (with_reducible exact om_w4) | (with_reducible exact om_s1 (by assumption)) | (with_reducible exact om_s2 (by assumption) (by assumption)) | (with_reducible exact om_s3 (by assumption) (by assumption)) | (with_reducible exact om_s4 (by assumption)) | (with_reducible exact om_s5 (by assumption)))
  k_with "subscriptTail" => (refine Hold.out ?_)
  trivial
section
variable {w : World} {mg mb : Str → Option Value} {mean : ExcName → Option Value} {A₀ : Around} {dp un : Nat} {gs : Option (List Code)} {base h₀ : Heap} {outer : List Env} {env : Env} {L : Addr} {m : Str → Option Value} {news : List (Addr × Obj)} {s : Shared} {R : Result → Shared → Prop}

theorem contains_call {x : Str} {t : Tok} {b : Bool}
    (B : Below A₀ base outer h₀) (F : Fr h₀ L s.heap m) (X : (hd.heap_39 w.params).In h₀) (N : News h₀ L s.heap news) (T : Top hd.view_39 (looseW hd.view_39 [Str.ofString "EXACT_TOKEN_TYPES"]) mean mg mb h₀)
    (hf : env.frame = some L) (hke : env.scope.kind = .function) (hdep : dp < 500) (hx : Ans x b)
    (h : ∀ h' tk, Fr h₀ L h' m → News h₀ L h' news → R (.ok (.ret (.bool b))) { s with heap := h', toks := tk }) :
    codeAny (model PySem.Challenge.rw_pg0154_01.row.prog w) ⟨none, dp, some (env :: outer), gs, un⟩ (.call (.ref 98) ⟨[.ref 106, .str x t], []⟩) R s := by
  revert X
  k_fill
  intro X
  refine' code_def B F X N T rfl hf hke ?k6 ?k7 ?k8 ?k9 ?kB ?_ ?c2 ?c3 ?c4 ?c5
  case k6 => k_is
  case k7 => k_is
  case k8 => k_room
  case k9 => exact BindsTo.of_eq rfl
  case c5 => decide
  case kB => exact locs rfl
  case c2 => exact rfl
  case c3 => exact rfl
  case c4 => exact rfl
  intro g' L' h' FG' F' N' B' X' T'
  try dsimp only
  try k_fold
  k_steps
  refine (show ∀ c : Bool, c = b → R (.ok (.ret (.bool c))) { s with heap := _, toks := _ } from fun c hc => by subst hc; exact h _ _ (by assumption) (by assumption)) _ ?_
  clear h F F' N N' B B' X X' T T' FG'
  rcases hx.three with ⟨hy, rfl⟩ | ⟨p, q, rfl, hab, rfl⟩ | ⟨p, rfl, ha, rfl⟩
  · clear hx
    revert hy
    clear t
    revert x
    decide
  · clear hx
    repeat (first | refine or_no (two_ne hab (by decide)) ?_ | exact or_last (two_ne hab (by decide)) | rfl)
  · clear hx
    repeat (first | refine or_no (one_ne ha (by decide)) ?_ | exact or_last (one_ne ha (by decide)) | rfl)

theorem getitem_call {x : Str} {t : Tok} {k : Int}
    (B : Below A₀ base outer h₀) (F : Fr h₀ L s.heap m) (X : (hd.heap_39 w.params).In h₀) (N : News h₀ L s.heap news) (T : Top hd.view_39 (looseW hd.view_39 [Str.ofString "EXACT_TOKEN_TYPES"]) mean mg mb h₀)
    (hf : env.frame = some L) (hke : env.scope.kind = .function) (hdep : dp < 500) (hx : Num x k)
    (h : ∀ h' tk u, Fr h₀ L h' m → News h₀ L h' news → R (.ok (.ret (.int k u))) { s with heap := h', toks := tk }) :
    codeAny (model PySem.Challenge.rw_pg0154_01.row.prog w) ⟨none, dp, some (env :: outer), gs, un⟩ (.call (.ref 105) ⟨[.ref 106, .str x t], []⟩) R s := by
  revert X
  k_fill
  intro X
  refine' code_def B F X N T rfl hf hke ?k6 ?k7 ?k8 ?k9 ?kB ?_ ?c2 ?c3 ?c4 ?c5
  case k6 => k_is
  case k7 => k_is
  case k8 => k_room
  case k9 => exact BindsTo.of_eq rfl
  case c5 => decide
  case kB => exact locs rfl
  case c2 => exact rfl
  case c3 => exact rfl
  case c4 => exact rfl
  intro g' L' h' FG' F' N' B' X' T'
  try dsimp only
  try k_fold
  k_steps
  refine ⟨?_⟩
  have hl : ∃ u, nsIn (hd.heap_39 w.params) 106 x = some (some (.int k u)) := by
    clear h F F' N N' B B' X X' T T' FG'
    cases hx with
    | op o => cases o <;> exact ⟨_, rfl⟩
    | _ => exact ⟨_, rfl⟩
  obtain ⟨u, e⟩ := hl
  refine' topItem_K F' X' ?t1 ?t2 e ?_
  case t1 => k_is
  case t2 => k_keys
  k_steps
  exact h _ _ _ (by assumption) (by assumption)
end
end Mine

end
section
/- part WWords -/
theorem Mine.offWWords : True := by
  w_top off
  k_with_none
  trivial
open PySem PySem.W PyProof.Rows
set_option linter.unusedSimpArgs false
namespace Mine
set_option maxRecDepth 100000
set_option maxHeartbeats 8000000
theorem wordsWWords1 : True := by
  k_with_none
  k_with "ROOM" => (first | exact room_of (k := 0) (by assumption) (by decide) | exact room_of (k := 1) (by assumption) (by decide) | exact room_of (k := 2) (by assumption) (by decide) | exact room_of (k := 3) (by assumption) (by decide))
  k_with "SIZE" => (first | assumption | (simp only [Str.length_append, PySem.sizeLine_eq]; omega))
  k_with "MUL" => (first | exact Sm.mulOk (by assumption) (by assumption) | exact mulPow_ok (by assumption) (by assumption))
  k_with "OM" => (first | with_reducible assumption | decide | (with_reducible exact om_d1 (by assumption)) | (with_reducible exact om_d2 (by assumption)) | (with_reducible exact om_d3 (by assumption)) | (with_reducible exact om_d4 (by assumption)) | (with_reducible exact om_l1 (by assumption)) | (with_reducible exact om_l2 (by assumption)) | (with_reducible exact om_l3 (by assumption)) | (with_reducible exact om_l4 (by assumption)) | (with_reducible exact om_n1) | (with_reducible exact om_n2) | (with_reducible exact om_n3) | (with_reducible exact om_n4) | (with_reducible exact om_c1 (by assumption)) | (with_reducible exact om_c2 (by assumption) (by assumption)) | (with_reducible exact om_p1 (by assumption)) | (with_reducible exact om_p2 (by assumption)) | (with_reducible exact om_p3 (by assumption)) | (with_reducible exact om_p4 (by assumption)) | (with_reducible exact om_p5 (by assumption)) | (with_reducible exact om_a1 (by assumption)) | (with_reducible exact om_a2 (by assumption)) | (with_reducible exact om_w1 (by assumption) (by assumption)) | (with_reducible exact om_w2 (by assumption) (by assumption)) | (with_reducible exact om_w3 (by assumption)) | (with_reducible exact om_w4) | (with_reducible exact om_s1 (by assumption)) | (with_reducible exact om_s2 (by assumption) (by assumption)) | (with_reducible exact om_s3 (by assumption) (by assumption)) | (with_reducible exact om_s4 (by assumption)) | (with_reducible exact om_s5 (by assumption)))
  k_with "NE" => (refine neN ?_; (try dsimp only); (first | exact Nat.ne_of_gt (by assumption) | exact Nat.ne_of_lt (by assumption) | exact Nat.ne_of_gt (And.left (by assumption)) | exact Nat.ne_of_gt (And.left (And.right (by assumption))) | exact Nat.ne_of_gt (And.left (And.right (And.right (by assumption)))) | exact Nat.ne_of_gt (And.left (And.right (And.right (And.right (by assumption))))) | exact Nat.ne_of_gt (And.left (And.right (And.right (And.right (And.right (by assumption)))))) | exact Nat.ne_of_gt (And.left (And.right (And.right (And.right (And.right (And.right (by assumption))))))) | exact Nat.ne_of_gt (And.left (And.right (And.right (And.right (And.right (And.right (And.right (by assumption)))))))) | exact Nat.ne_of_gt (And.left (And.right (And.right (And.right (And.right (And.right (And.right (And.right (by assumption))))))))) | exact Nat.ne_of_gt (And.left (And.right (And.right (And.right (And.right (And.right (And.right (And.right (And.right (by assumption)))))))))) | exact Nat.ne_of_gt (And.left (And.right (And.right (And.right (And.right (And.right (And.right (And.right (And.right (And.right (by assumption))))))))))) | exact Nat.ne_of_gt (And.left (And.right (And.right (And.right (And.right (And.right (And.right (And.right (And.right (And.right (And.right (by assumption)))))))))))) | exact Nat.ne_of_lt (And.left (by assumption)) | exact Nat.ne_of_lt (And.left (And.right (by assumption))) | exact Nat.ne_of_lt (And.left (And.right (And.right (by assumption)))) | exact Nat.ne_of_lt (And.left (And.right (And.right (And.right (by assumption))))) | exact Nat.ne_of_lt (And.left (And.right (And.right (And.right (And.right (by assumption)))))) | exact Nat.ne_of_lt (And.left (And.right (And.right (And.right (And.right (And.right (by assumption))))))) | exact Nat.ne_of_lt (And.left (And.right (And.right (And.right (And.right (And.right (And.right (by assumption)))))))) | exact Nat.ne_of_lt (And.left (And.right (And.right (And.right (And.right (And.right (And.right (And.right (by assumption))))))))) | exact Nat.ne_of_lt (And.left (And.right (And.right (And.right (And.right (And.right (And.right (And.right (And.right (by assumption)))))))))) | exact Nat.ne_of_lt (And.left (And.right (And.right (And.right (And.right (And.right (And.right (And.right (And.right (And.right (by assumption))))))))))) | exact Nat.ne_of_lt (And.left (And.right (And.right (And.right (And.right (And.right (And.right (And.right (And.right (And.right (And.right (by assumption))))))))))))))
  k_with "execs cons" => (k_here; (with_reducible show wpAny _ _ _ _ _ (Shared.mk _ _ _ (_ + _) _)); (rename Fr _ _ _ _ => Fq9); refine wp_norm (g := sg) (d := sd) (o := so) Fq9 ?_; intro _ _ _; clear Fq9)
  k_with "execs nil" => (k_here; (with_reducible show wpAny _ _ _ _ _ (Shared.mk _ _ _ (_ + _) _)); (rename Fr _ _ _ _ => Fq9); refine wp_norm (g := sg) (d := sd) (o := so) Fq9 ?_; intro _ _ _; clear Fq9)
  k_with "KswEnd" => (refine Hold.out ?_)
  k_with "exec While" => (refine Hold.out ?_)
  k_with "call ref" => (k_here; k_dflt ((refine wpAny_call ?_); (refine' contains_call ?k1 ?k2 ?k3 ?k4 ?k5 ?kA ?kF ?k6 ?k7 ?_; (case k1 => k_asm); (case k2 => k_asm); (case k3 => k_asm); (case k4 => k_asm); (case k5 => k_asm); (case kA => exact rfl); (case kF => exact rfl); (case k6 => first | omega | (dsimp only [Around.deeper]; omega)); (case k7 => assumption)); intro _ _ _ _; (try dsimp only)))
  k_with "call ref" => (k_here; k_dflt ((refine wpAny_call ?_); (refine' getitem_call ?k1 ?k2 ?k3 ?k4 ?k5 ?kA ?kF ?k6 ?k7 ?_; (case k1 => k_asm); (case k2 => k_asm); (case k3 => k_asm); (case k4 => k_asm); (case k5 => k_asm); (case kA => exact rfl); (case kF => exact rfl); (case k6 => first | omega | (dsimp only [Around.deeper]; omega)); (case k7 => assumption)); intro _ _ _ _ _; (try dsimp only)))
  k_with "execs cons" => (k_here; k_fold)
  trivial
section
variable {w : World} {mg mb : Str → Option Value} {mean : ExcName → Option Value} {A₀ : Around} {dp un : Nat} {gs : Option (List Code)} {base h₀ : Heap} {outer : List Env} {env : Env} {L : Addr} {m : Str → Option Value} {news : List (Addr × Obj)} {s : Shared} {R : Result → Shared → Prop}

theorem words_call {ts : List Tk} {t : Tok}
    (B : Below A₀ base outer h₀) (F : Fr h₀ L s.heap m) (X : (hd.heap_39 w.params).In h₀) (N : News h₀ L s.heap news) (T : Top hd.view_39 (looseW hd.view_39 [Str.ofString "EXACT_TOKEN_TYPES"]) mean mg mb h₀)
    (hf : env.frame = some L) (hke : env.scope.kind = .function) (hdep : dp < 400) (hR : Runs true ts) (hl1 : (tstr ts).length ≤ 5000) (hl2 : ts.length ≤ 5000)
    (h : ∀ h' tk D ws n, Fr h₀ L h' m → News h₀ L h' ((D, listOf ws.toArray n) :: news) → IntsAre ws (ts.map Tk.code ++ [0]) → R (.ok (.ret (.ref D))) { s with heap := h', toks := tk }) :
    codeAny (model PySem.Challenge.rw_pg0154_01.row.prog w) ⟨none, dp, some (env :: outer), gs, un⟩ (.call (.ref 129) ⟨[.str (tstr ts) t], []⟩) R s := by
  have hdep5 : dp < 500 := by omega
  revert X
  k_fill
  intro X
  refine' code_defF (binds := [(Str.ofString "text", .str (tstr ts) t)]) [] (fun _ hq => nomatch hq) B F X N T rfl hf hke ?k6 ?k7 ?k8 ?k9 ?kB ?_ ?c2 ?c3 ?c4 ?c5
  case k6 => k_is
  case k7 => k_is
  case k8 => k_room
  case k9 => exact BindsTo.of_eq rfl
  case c5 => decide
  case kB => exact locs rfl
  case c2 => exact rfl
  case c3 => exact rfl
  case c4 => exact rfl
  intro g' L' h' tk0 hfz FG' F' N' B' X' T' env' A' sg sd so qk ek
  (try with_reducible show wpAny _ _ _ _ _ _)
  k_steps
  refine ⟨?_⟩
  rename Fr _ _ _ _ => F1
  rename News _ _ _ _ => N1
  rename_i l hA l1 hB mq1 tkB
  refine ksw_while (σ := List Tk × List Value × List Int × Nat × Tok) (fun c => [(l, listOf c.2.1.toArray c.2.2.2.1)]) (fun c => [(Str.ofString "text", .str (tstr c.1) c.2.2.2.2)]) (fun c => IntsAre c.2.1 c.2.2.1) [Str.ofString "size"] (fun c => ∃ b, Runs b c.1 ∧ c.2.2.1 ++ c.1.map Tk.code = ts.map Tk.code ∧ (tstr c.1).length ≤ 5000) (fun c => c.1.length) (ts, [], [], 0, t) F1 N1 ?kf ?kk ?kp ?kt
  case kf => exact .nil
  case kk => kst_all
  case kp => exact ⟨true, hR, rfl, hl1⟩
  case kt =>
    rintro ⟨rest, vs, ns, n9, t⟩ u h9 tk9 hI ⟨b, hb, hcat, hlen⟩ F2 N2
    dsimp only [kstB] at hI hb hcat hlen F2 N2 ⊢
    have hns : ns.length + rest.length ≤ 5000 := by
      have := congrArg List.length hcat
      simp only [List.length_append, List.length_map] at this
      omega
    have hsz : vs.toArray.size ≤ sizeLine := by rw [List.size_toArray, hI.length, sizeLine_eq]; omega
    generalize hx : tstr rest = x at *
    (try with_reducible show wpAny _ _ _ _ _ _)
    try k_fold
    refine words_cases hx.symm hb ?_ ?_ ?_ ?_
    · intro he
      have hx0 : x = Str.ofString "" := by rw [← hx, he]; exact Str.ext' rfl
      rw [hx0] at F2
      rw [he, List.map_nil, List.append_nil] at hcat
      k_steps
      rename IntsAre _ _ => I3
      rename Fr g' _ _ _ => F9
      rename Fr h₀ _ _ _ => F8
      rename News h₀ _ _ _ => N8
      refine h _ _ _ _ _ F8 (frozen_head N hfz F9 N8) ?_
      · rw [← hcat]; exact I3
    · intro tt r b' he hb' hpos ha2 hn2 hs2
      rw [he] at hcat
      have hm : r.length < rest.length := by rw [he]; exact Nat.lt_succ_self _
      k_steps
      all_goals first
        | (exfalso; omega)
        | skip
      rename Fr _ _ _ _ => F3
      rename News _ _ _ _ => N3
      simp only [List.push_toArray] at N3
      refine ⟨?_⟩
      refine' ksw_end (r, _, ns ++ [tt.code], _, ?ktokA) F3 N3 (fun p hp => hp) (hI.append (.cons _ _ .nil)) ?k1 ?k2 ⟨b', hb', ?k3, ?k4⟩ hm
      case k1 =>
        intro p hp
        cases List.mem_singleton.mp hp
        show _ = some (Value.str (tstr r) _)
        rw [← hs2]
        rfl
      case k2 =>
        intro z h2 h3
        (repeat (first | with_reducible rfl | refine ite_bf h3 ?_ | refine ite_ne (h2 _ (.head _)) ?_ | refine ite_ne (ne_first h3) ?_))
      case k3 => rw [List.append_assoc]; exact hcat
      case k4 =>
        dsimp only
        rw [← hs2]
        exact Nat.le_trans (Txt.slice_le _ _ _) hlen
    · intro tt r b' he hb' hpos ha2 ha1 hn1 hs1
      rw [he] at hcat
      have hm : r.length < rest.length := by rw [he]; exact Nat.lt_succ_self _
      k_steps
      all_goals first
        | (exfalso; omega)
        | skip
      rename Fr _ _ _ _ => F3
      rename News _ _ _ _ => N3
      simp only [List.push_toArray] at N3
      refine ⟨?_⟩
      refine' ksw_end (r, _, ns ++ [tt.code], _, ?ktokB) F3 N3 (fun p hp => hp) (hI.append (.cons _ _ .nil)) ?k1 ?k2 ⟨b', hb', ?k3, ?k4⟩ hm
      case k1 =>
        intro p hp
        cases List.mem_singleton.mp hp
        show _ = some (Value.str (tstr r) _)
        rw [← hs1]
        rfl
      case k2 =>
        intro z h2 h3
        (repeat (first | with_reducible rfl | refine ite_bf h3 ?_ | refine ite_ne (h2 _ (.head _)) ?_ | refine ite_ne (ne_first h3) ?_))
      case k3 => rw [List.append_assoc]; exact hcat
      case k4 =>
        dsimp only
        rw [← hs1]
        exact Nat.le_trans (Txt.slice_le _ _ _) hlen
    · intro n r d he hb' hpos ha2 ha1 hd1 hd10 hdx hdig hend hint hl640 hsd
      rw [he] at hcat
      have hm : r.length < rest.length := by rw [he]; exact Nat.lt_succ_self _
      k_steps
      all_goals first
        | (exfalso; omega)
        | skip
      refine ⟨?_⟩
      rename Fr _ _ _ _ => F3
      rename News _ _ _ _ => N3
      refine' ksw_while (σ := Int × Tok) (fun c => [(l, listOf vs.toArray n9)]) (fun c => [(Str.ofString "size", .int c.1 c.2)]) (fun c => True) [] (fun c => ∃ k : Nat, c.1 = k ∧ 1 ≤ k ∧ k ≤ d) (fun c => d - c.1.toNat) (1, ?ktok1) F3 N3 ?kf ?kk ?kp ?kt
      case kk => kst_all
      case kf => trivial
      case kp => exact ⟨1, rfl, Nat.le_refl _, hd1⟩
      case kt =>
        rintro ⟨k', tk'⟩ u h9 tk9 hI9 ⟨k, rfl, hk1, hkd⟩ F4 N4
        dsimp only [kstB] at F4 N4 ⊢
        (try with_reducible show wpAny _ _ _ _ _ _)
        try k_fold
        by_cases hk : k < d
        · have hdg := hdig k hk
          have hkx : (k : Int) < (x.length : Int) := by omega
          k_steps
          rename Fr _ _ _ _ => F5
          rename News _ _ _ _ => N5
          refine ⟨?_⟩
          refine' ksw_end ((k : Int) + 1, _) F5 N5 (fun p hp => hp) trivial ?m1 ?m2 ⟨k + 1, by omega, by omega, by omega⟩ ?m3
          case m1 => kst_all
          case m2 =>
            intro z h2 h3
            (repeat (first | with_reducible rfl | refine ite_bf h3 ?_ | refine ite_ne (h2 _ (.head _)) ?_ | refine ite_ne (ne_first h3) ?_))
          case m3 => dsimp only; omega
        · obtain rfl : k = d := by omega
          by_cases hkx : k < x.length
          · have hdg := hend hkx
            have hkx' : (k : Int) < (x.length : Int) := by omega
            k_steps
            rename Fr _ _ _ _ => F5
            rename News _ _ _ _ => N5
            simp only [List.push_toArray] at N5
            refine ⟨?_⟩
            refine' ksw_end (r, _, ns ++ [256 + (n : Int)], _, ?ktokC) F5 N5 (fun p hp => hp) (hI.append (.cons _ _ .nil)) ?m1 ?m2 ⟨false, hb', ?m3, ?m4⟩ ?m5
            case m1 =>
              intro p hp
              cases List.mem_singleton.mp hp
              show _ = some (Value.str (tstr r) _)
              rw [← hsd]
              rfl
            case m2 =>
              intro z h2 h3
              (repeat (first | with_reducible rfl | refine ite_bf h3 ?_ | refine ite_ne (h2 _ (.head _)) ?_ | refine ite_ne (ne_first h3) ?_))
            case m3 => rw [List.append_assoc]; exact hcat
            case m4 =>
              dsimp only
              rw [← hsd]
              exact Nat.le_trans (Txt.slice_le _ _ _) hlen
            case m5 => exact hm
          · have hkx' : ¬ (k : Int) < (x.length : Int) := by omega
            k_steps
            rename Fr _ _ _ _ => F5
            rename News _ _ _ _ => N5
            simp only [List.push_toArray] at N5
            refine ⟨?_⟩
            refine' ksw_end (r, _, ns ++ [256 + (n : Int)], _, ?ktokD) F5 N5 (fun p hp => hp) (hI.append (.cons _ _ .nil)) ?m1 ?m2 ⟨false, hb', ?m3, ?m4⟩ ?m5
            case m1 =>
              intro p hp
              cases List.mem_singleton.mp hp
              show _ = some (Value.str (tstr r) _)
              rw [← hsd]
              rfl
            case m2 =>
              intro z h2 h3
              (repeat (first | with_reducible rfl | refine ite_bf h3 ?_ | refine ite_ne (h2 _ (.head _)) ?_ | refine ite_ne (ne_first h3) ?_))
            case m3 => rw [List.append_assoc]; exact hcat
            case m4 =>
              dsimp only
              rw [← hsd]
              exact Nat.le_trans (Txt.slice_le _ _ _) hlen
            case m5 => exact hm
end
end Mine


end
section
/- part ForL -/
open PySem PySem.W PyProof.Rows
namespace Mine
/-- what stands between two turns of a loop over ints: a state c, the ledger that it writes, the names that it gives -/
noncomputable def FJ {σ : Type} (Led : σ → List (Addr × Obj)) (ps : σ → List (Str × Value)) (x : Str) (stored : List Str) (m₀ : Str → Option Value) (P : List Int → σ → Prop) (pre : List Int) (m : Str → Option Value) (nx : List (Addr × Obj)) : Prop :=
  ∃ c : σ, nx = Led c ∧ (∀ p ∈ ps c, m p.1 = some p.2) ∧ (∀ z, z ≠ x → (∀ p ∈ ps c, z ≠ p.1) → stored.contains z = false → m z = m₀ z) ∧ P pre c
section
variable {prog : Program} {w : World} {A : Around} {E : Value → Shared → Prop} {s : Shared} {env : Env} {h₀ : Heap} {x : Str} {body : List Stmt} {Q : Flow → Shared → Prop}

theorem for_ints {σ : Type} {l : Addr} {vs : List Value} {ns : List Int} {m₀ : Str → Option Value} (Led : σ → List (Addr × Obj)) (ps : σ → List (Str × Value)) (stored : List Str) (P : List Int → σ → Prop) (c₀ : σ)
    (hh : A.handled = none) (hl : h₀.IsList l vs.toArray) (hi : IntsAre vs ns) (F : Fr h₀ env.locals s.heap m₀) (N : News h₀ env.locals s.heap (Led c₀)) (hk : ∀ p ∈ ps c₀, m₀ p.1 = some p.2) (hp : P [] c₀)
    (turn : ∀ (c : σ) pre post n t (u : Str → Option Value) h tk own, ns = pre ++ n :: post → P pre c → OwnOff own ((Led c).map (·.1)) →
      Fr h₀ env.locals h (fun y => if y = x then some (.int n t) else kstB (fun z => if stored.contains z then u z else m₀ z) (ps c) y) → News h₀ env.locals h (Led c ++ own) →
      wpAny (model prog w) A (execs body env) (InvPostG h₀ env.locals (FJ Led ps x stored m₀ P (pre ++ [n])) own { s with heap := h, toks := tk } Q) E { s with heap := h, toks := tk })
    (done : ∀ (c : σ) (u : Str → Option Value) h tk, P ns c → Fr h₀ env.locals h (fun y => if y = x then u y else kstB (fun z => if stored.contains z then u z else m₀ z) (ps c) y) → News h₀ env.locals h (Led c) → Q .next { s with heap := h, toks := tk }) :
    wpAny (model prog w) A (pyIter (.ref l)) (fun it s₂ => LoopAtV prog w A h₀ env x body Q E it s₂) E s := by
  refine iter_invG (fun i m nx => FJ Led ps x stored m₀ P (ns.take i) m nx) hh hl hi F N ⟨c₀, rfl, hk, fun _ _ _ _ => rfl, hp⟩ ?_ ?_
  · rintro i n t m₁ nx h tk own hn' _ hoff ⟨c, rfl, h1, h2, hp'⟩ F₁ N₁
    have hs : ns.take (i + 1) = ns.take i ++ [n] := by rw [List.take_add_one, hn']; rfl
    have e : ns = ns.take i ++ n :: ns.drop (i + 1) := by
      have ht := List.take_append_drop (i + 1) ns
      rw [hs, List.append_assoc] at ht
      exact ht.symm
    rw [hs]
    exact turn c _ _ n t m₁ h tk own e hp' hoff (kst_fr h1 h2 F₁) N₁
  · rintro m₁ nx h tk ⟨c, rfl, h1, h2, hp'⟩ F₁ N₁
    rw [List.take_length] at hp'
    exact done c m₁ h tk hp' (kst_frOut h1 h2 F₁) N₁

/-- the end of a turn -/
theorem for_end {σ : Type} {Led : σ → List (Addr × Obj)} {ps : σ → List (Str × Value)} {stored : List Str} {m₀ : Str → Option Value} {P : List Int → σ → Prop} {pre : List Int} (c : σ) {L : Addr} {m' : Str → Option Value} {own news' : List (Addr × Obj)} {s₁ : Shared} {h' : Heap} {tk : Nat}
    (F : Fr h₀ L h' m') (N : News h₀ L h' news') (hn : ∀ p ∈ Led c, p ∈ news') (ho : ∀ p ∈ own, p ∈ news') (hoff : OwnOff own ((Led c).map (·.1)))
    (hk : ∀ p ∈ ps c, m' p.1 = some p.2) (hr : ∀ z, z ≠ x → (∀ p ∈ ps c, z ≠ p.1) → stored.contains z = false → m' z = m₀ z) (hp : P pre c) :
    InvEndG h₀ L (FJ Led ps x stored m₀ P pre) own s₁ { s₁ with heap := h', toks := tk } :=
  InvEndG.intro F N ⟨c, rfl, hk, hr, hp⟩ hoff hn ho
theorem list_at {g : Heap} {D : Addr} {ws : List Value} {n : Nat} (h : g.get? D = some (listOf ws.toArray n)) : g.IsList D ws.toArray := ⟨_, h, rfl, n, rfl⟩
end
end Mine

end
section
/- part IAdd -/
open PySem PySem.W PyProof.Rows PySem.Calls
namespace Mine
set_option maxRecDepth 100000
section
variable {prog : Program} {w : World} {A : Around} {E : Value → Shared → Prop} {s : Shared} {h₀ : Heap} {L D b : Addr} {m : Str → Option Value} {news news' : List (Addr × Obj)} {vs us : List Value} {n n2 : Nat}

theorem seq_list_iadd : seqSlot? (.type "list") (dunderI "add") = pure (some (.builtin "list.__iadd__")) := PySem.seqSlot_of PySem.F.slot_list_iadd.lookup (by decide +kernel)

/-- `xs += ys` of two lists of the ledger, the second one not empty -/
theorem iadd_list {Q : Value → Shared → Prop} (F : Fr h₀ L s.heap m) (N : News h₀ L s.heap news) (hb : (b, listOf us.toArray n2) ∈ news)
    (U : Upd D (listOf vs.toArray n) (listOf (vs ++ us).toArray (n + 1)) news news') (hne : us.length ≠ 0) (hz : vs.length + us.length ≤ sizeLine)
    (h : ∀ h', Fr h₀ L h' m → News h₀ L h' news' → Q (.ref D) { s with heap := h' }) : wpAny (model prog w) A (inplaceOp .Add (.ref D) (.ref b)) Q E s := by
  obtain ⟨pre, post, rfl, rfl, a, c⟩ := U.split
  have z := N (D, listOf vs.toArray n) (List.mem_append.mpr (.inr (.head _)))
  have tD : s.TypeIs (.ref D) "list" := ⟨_, z.1, rfl⟩
  have tb : s.TypeIs (.ref b) "list" := ⟨_, (N _ hb).1, rfl⟩
  unfold inplaceOp
  refine wpAny_holding ?_
  have hfi : fillsInplaceSlot (.type "list") "add" (Operator.Add == .Add) = pure false := by
    unfold fillsInplaceSlot
    show (typeLookup (.type "list") (dunderI "add") >>= fun fi => pure (fi.isSome && !isSeqSlot fi)) = pure false
    rw [PySem.F.slot_list_iadd.lookup, pure_bind, show ((some (Value.builtin "list.__iadd__")).isSome && !isSeqSlot (some (Value.builtin "list.__iadd__"))) = false by decide +kernel]
  refine wpAny_bind (wpAny_typeOf tD (wpAny_bind (wpAny_of_eq hfi ?_)))
  show wpAny _ A (if false = true then _ else _) Q E s
  rw [if_neg Bool.false_ne_true]
  refine wpAny_bind (PySem.wpAny_binaryOp1_none (nm := "add") tD tb noFill_list_add ?_)
  refine wpAny_bind (wpAny_of_eq seq_list_iadd ?_)
  refine wpAny_bind (wpAny_rule ?_)
  have h1 : vs.toArray.size + us.toArray.size ≤ sizeLine := by rw [List.size_toArray, List.size_toArray]; exact hz
  refine call_meets PySem.F.slot_list_iadd tD PySem.F.entry_list_iadd (PySem.F.args_list_iadd_2 _ _) (PySem.AutoSeq1.list___iadd___list_list_0 D vs.toArray n b us.toArray n2 ?_ (by omega) (by omega))
    ⟨z.1, (N _ hb).1, h _ (F.change (Heap.SameBut.update ..) z.2.1 z.2.2) (kl_turn _ N a c ?_ ?_)⟩
  · have : Builtin.List.listTooLong (vs.toArray.size + us.toArray.size) = false := decide_eq_false (by omega)
    rw [this, Bool.and_false]
    exact Bool.false_ne_true
  · apply Array.toList_inj.mp
    simp
  · rw [List.size_toArray, List.size_toArray, List.length_append]
    omega
end
end Mine
namespace Mine
section
variable {prog : Program} {w : World} {A : Around} {E : Value → Shared → Prop} {s : Shared} {d : Addr} {D : List (PyData × PyData)}
theorem get_width {i j k : Int} {t u : Tok} {Q : Value → Shared → Prop} (T : IntTab prog w s.heap d D) (hk : (PySem.Spec.lookup (.int i) D).getD (.int j) = .int k)
    (h : ∀ t', Q (.int k t') { s with toks := s.toks + 1 }) : wpAny (model prog w) A (call (.builtin "dict.get") [.ref d, .int i t, .int j u]) Q E s := by
  refine call_get2_intTab T (PyProof.V.Flat.int j u) fun v hv => ?_
  rw [hk] at hv
  obtain ⟨t', rfl⟩ := hv.int_inv
  exact h t'
end
end Mine

end
section
/- part Row -/
open PySem PySem.W PyProof.Rows
namespace Mine
/-- how many brackets an operator's number brings -/
noncomputable def wideOf (n : Int) : Nat := if 256 ≤ n then 0 else if n = 14 ∨ n = 15 then 2 else if n = 18 then 6 else if n = 32 then 5 else if n = 19 then 4 else if n = 33 ∨ n = 34 then 3 else if n = 16 ∨ n = 24 ∨ n = 47 then 1 else 0
theorem ite_le {p : Prop} [Decidable p] {a b k : Nat} (ha : a ≤ k) (hb : b ≤ k) : (if p then a else b) ≤ k := by split; exact ha; exact hb
theorem wideOf_le (n : Int) : wideOf n ≤ 6 := ite_le (by decide) (ite_le (by decide) (ite_le (by decide) (ite_le (by decide) (ite_le (by decide) (ite_le (by decide) (ite_le (by decide) (by decide)))))))
noncomputable def rowOf (n : Int) : List Int :=
  if n = 7 ∨ n = 8 then List.replicate 7 n else if n = 0 then List.replicate 6 8 ++ [0] else List.replicate (wideOf n) 8 ++ [n] ++ List.replicate (wideOf n) 7
theorem rowOf_le (n : Int) : (rowOf n).length ≤ 13 := by
  have h := wideOf_le n
  unfold rowOf
  split
  · rw [List.length_replicate]; decide
  split
  · decide
  · rw [List.length_append, List.length_append, List.length_replicate, List.length_replicate]
    exact Nat.add_le_add (Nat.add_le_add_right h 1) h
noncomputable def rowsOf (ns : List Int) : List Int := List.replicate 6 7 ++ ns.flatMap rowOf
theorem rowsOf_le (ns : List Int) : (rowsOf ns).length ≤ 6 + 13 * ns.length := by
  have : (ns.flatMap rowOf).length ≤ 13 * ns.length := by
    induction ns with
    | nil => exact Nat.le_refl 0
    | cons n r ih =>
      rw [List.flatMap_cons, List.length_append, List.length_cons, Nat.mul_succ, Nat.add_comm]
      exact Nat.add_le_add ih (rowOf_le n)
  unfold rowsOf
  rw [List.length_append, List.length_replicate]
  exact Nat.add_le_add_left this 6
theorem rowsOf_snoc (ns : List Int) (n : Int) : rowsOf (ns ++ [n]) = rowsOf ns ++ rowOf n := by
  unfold rowsOf
  rw [List.flatMap_append, List.append_assoc]
  rw [List.flatMap_cons, List.flatMap_nil, List.append_nil]
/-- the numbers of words -/
inductive NK : Int → Prop
  | op (o : Op) : NK o.tok
  | til : NK 31
  | num (m : Nat) : NK (256 + (m : Int))
theorem big_ge (m : Nat) : 256 ≤ 256 + (m : Int) := Int.le_add_of_nonneg_right (Int.natCast_nonneg m)
theorem big_ne {a : Int} (m : Nat) (h : a < 256) : 256 + (m : Int) ≠ a := Int.ne_of_gt (Int.lt_of_lt_of_le h (big_ge m))
theorem NK.ne {n : Int} (h : NK n) : n ≠ 7 ∧ n ≠ 8 ∧ n ≠ 0 := by
  cases h with
  | op o => exact op_all (P := fun o => o.tok ≠ 7 ∧ o.tok ≠ 8 ∧ o.tok ≠ 0) (by decide) o
  | til => decide
  | num m => exact ⟨big_ne m (by decide), big_ne m (by decide), big_ne m (by decide)⟩
theorem code_cases (t : Tk) : t.code = 7 ∨ t.code = 8 ∨ NK t.code := by
  cases t with
  | op o => exact .inr (.inr (.op o))
  | lp => exact .inl rfl
  | rp => exact .inr (.inl rfl)
  | til => exact .inr (.inr .til)
  | num n => exact .inr (.inr (.num n))
theorem lookup_big (m : Nat) : ∀ l : List (Int × PyData), (∀ p ∈ l, p.1 < 256) → PySem.Spec.lookup (.int (256 + (m : Int))) (l.map fun p => (.int p.1, p.2)) = none
  | [], _ => rfl
  | p :: l, h => by
    show (if PySem.Spec.same (.int p.1) (.int (256 + (m : Int))) = true then _ else _) = _
    refine (if_neg (show ¬ (PySem.Spec.same (.int p.1) (.int (256 + (m : Int))) = true) from fun e => big_ne m (h p (.head _)) (eq_of_beq (show (p.1 == 256 + (m : Int)) = true from e)).symm)).trans ?_
    exact lookup_big m l fun q hq => h q (.tail _ hq)
end Mine
namespace Mine
theorem wideOf_num (m : Nat) : wideOf (256 + (m : Int)) = 0 := if_pos (big_ge m)
theorem wide_look {n : Int} (h : NK n) : (PySem.Spec.lookup (.int n) [(.int 14, .int 2), (.int 15, .int 2), (.int 16, .int 1), (.int 18, .int 6), (.int 19, .int 4), (.int 24, .int 1), (.int 32, .int 5), (.int 33, .int 3), (.int 34, .int 3), (.int 47, .int 1)]).getD (.int 0) = .int (wideOf n : Nat) := by
  cases h with
  | op o => exact op_all (P := fun o => (PySem.Spec.lookup (.int o.tok) [(.int 14, .int 2), (.int 15, .int 2), (.int 16, .int 1), (.int 18, .int 6), (.int 19, .int 4), (.int 24, .int 1), (.int 32, .int 5), (.int 33, .int 3), (.int 34, .int 3), (.int 47, .int 1)]).getD (.int 0) = .int (wideOf o.tok : Nat)) (fun o _ => by cases o <;> rfl) o
  | til => rfl
  | num m =>
    rw [wideOf_num m]
    exact congrArg (fun q => Option.getD q (.int 0)) (lookup_big m [(14, .int 2), (15, .int 2), (16, .int 1), (18, .int 6), (19, .int 4), (24, .int 1), (32, .int 5), (33, .int 3), (34, .int 3), (47, .int 1)] (by decide))
theorem us_room {a b : Nat} (h : a ≤ 70000) (h2 : b ≤ 1000) : a + b ≤ sizeLine := by rw [sizeLine_eq]; exact Nat.le_trans (Nat.add_le_add h h2) (by decide)
end Mine
namespace Mine
section
variable {prog : Program} {w : World} {A : Around} {E : Value → Shared → Prop} {s : Shared} {d : Addr} {D : List (PyData × PyData)}
theorem get_wide {i j : Int} {t u : Tok} {Q : Value → Shared → Prop} (T : IntTab prog w s.heap d D) (hk : (PySem.Spec.lookup (.int i) D).getD (.int j) = .int (wideOf i : Nat))
    (h : ∀ t', Q (.int (wideOf i : Nat) t') { s with toks := s.toks + 1 }) : wpAny (model prog w) A (call (.builtin "dict.get") [.ref d, .int i t, .int j u]) Q E s := get_width T hk h
end
end Mine
namespace Mine
theorem rowOf_zero : rowOf 0 = [8, 8, 8, 8, 8, 8, 0] := by decide
theorem rowOf_br {n : Int} (h : n = 7 ∨ n = 8) : rowOf n = (List.replicate (Int.toNat 7) [n]).flatten := by unfold rowOf; rw [if_pos h]; rfl
theorem flat_rep (k : Nat) (a : Int) : (List.replicate ((k : Int).toNat) [a]).flatten = List.replicate k a := by
  rw [Int.toNat_natCast]
  induction k with
  | zero => rfl
  | succ k ih => rw [List.replicate_succ, List.flatten_cons, ih]; rfl
theorem rowOf_nk {n : Int} (h : NK n) : rowOf n = (List.replicate ((wideOf n : Int).toNat) [8]).flatten ++ [n] ++ (List.replicate ((wideOf n : Int).toNat) [7]).flatten := by
  obtain ⟨h7, h8, h0⟩ := h.ne
  unfold rowOf
  rw [if_neg (fun q => q.elim h7 h8), if_neg h0, flat_rep, flat_rep]
theorem row_room {pre post : List Int} {n : Int} {ts : List Tk} (he : ts.map Tk.code ++ [0] = pre ++ n :: post) (hl : ts.length ≤ 5000) : (rowsOf pre).length ≤ 70000 := by
  have h2 := congrArg List.length he
  rw [List.length_append, List.length_map, List.length_append] at h2
  exact Nat.le_trans (rowsOf_le pre) (Nat.le_trans (Nat.add_le_add_left (Nat.mul_le_mul_left 13 (Nat.le_trans (Nat.le_add_right _ _) (Nat.le_trans (Nat.le_of_eq (Nat.succ.inj h2).symm) hl))) 6) (by decide))
theorem row_mem {pre post : List Int} {n : Int} {ts : List Tk} (he : ts.map Tk.code ++ [0] = pre ++ n :: post) : n = 0 ∨ n = 7 ∨ n = 8 ∨ NK n := by
  have h1 : n ∈ ts.map Tk.code ++ [0] := by rw [he]; exact List.mem_append.mpr (.inr List.mem_cons_self)
  rcases List.mem_append.mp h1 with h | h
  · obtain ⟨t, _, e⟩ := List.mem_map.mp h
    rw [← e]
    exact .inr (code_cases t)
  · exact .inl (List.mem_singleton.mp h)
theorem ints8 {a b c d e f g : Tok} : IntsAre [.int 8 a, .int 8 b, .int 8 c, .int 8 d, .int 8 e, .int 8 f, .int 0 g] [8, 8, 8, 8, 8, 8, 0] :=
  .cons _ _ (.cons _ _ (.cons _ _ (.cons _ _ (.cons _ _ (.cons _ _ (.cons _ _ .nil))))))
end Mine

end
section
/- part WRow -/
theorem Mine.offWRow : True := by
  w_top off
  k_with_none
  trivial
open PySem PySem.W PyProof.Rows
set_option linter.unusedSimpArgs false
namespace Mine
set_option maxRecDepth 100000
set_option maxHeartbeats 8000000
theorem wordsWRow1 : True := by
  k_with_none
  k_with "ROOM" => (first | exact room_of (k := 0) (by assumption) (by decide) | exact room_of (k := 1) (by assumption) (by decide) | exact room_of (k := 2) (by assumption) (by decide) | exact room_of (k := 3) (by assumption) (by decide))
  k_with "SIZE" => (first | assumption | (simp only [Str.length_append, PySem.sizeLine_eq]; omega))
  k_with "MUL" => (first | exact Sm.mulOk (by assumption) (by assumption) | exact mulPow_ok (by assumption) (by assumption))
  k_with "OM" => (first | with_reducible assumption | decide | (with_reducible exact om_d1 (by assumption)) | (with_reducible exact om_d2 (by assumption)) | (with_reducible exact om_d3 (by assumption)) | (with_reducible exact om_d4 (by assumption)) | (with_reducible exact om_l1 (by assumption)) | (with_reducible exact om_l2 (by assumption)) | (with_reducible exact om_l3 (by assumption)) | (with_reducible exact om_l4 (by assumption)) | (with_reducible exact om_n1) | (with_reducible exact om_n2) | (with_reducible exact om_n3) | (with_reducible exact om_n4) | (with_reducible exact om_c1 (by assumption)) | (with_reducible exact om_c2 (by assumption) (by assumption)) | (with_reducible exact om_p1 (by assumption)) | (with_reducible exact om_p2 (by assumption)) | (with_reducible exact om_p3 (by assumption)) | (with_reducible exact om_p4 (by assumption)) | (with_reducible exact om_p5 (by assumption)) | (with_reducible exact om_a1 (by assumption)) | (with_reducible exact om_a2 (by assumption)) | (with_reducible exact om_w1 (by assumption) (by assumption)) | (with_reducible exact om_w2 (by assumption) (by assumption)) | (with_reducible exact om_w3 (by assumption)) | (with_reducible exact om_w4) | (with_reducible exact om_s1 (by assumption)) | (with_reducible exact om_s2 (by assumption) (by assumption)) | (with_reducible exact om_s3 (by assumption) (by assumption)) | (with_reducible exact om_s4 (by assumption)) | (with_reducible exact om_s5 (by assumption)))
  k_with "NE" => (refine neN ?_; (try dsimp only); (first | exact Nat.ne_of_gt (by assumption) | exact Nat.ne_of_lt (by assumption) | exact Nat.ne_of_gt (And.left (by assumption)) | exact Nat.ne_of_gt (And.left (And.right (by assumption))) | exact Nat.ne_of_gt (And.left (And.right (And.right (by assumption)))) | exact Nat.ne_of_gt (And.left (And.right (And.right (And.right (by assumption))))) | exact Nat.ne_of_gt (And.left (And.right (And.right (And.right (And.right (by assumption)))))) | exact Nat.ne_of_gt (And.left (And.right (And.right (And.right (And.right (And.right (by assumption))))))) | exact Nat.ne_of_gt (And.left (And.right (And.right (And.right (And.right (And.right (And.right (by assumption)))))))) | exact Nat.ne_of_gt (And.left (And.right (And.right (And.right (And.right (And.right (And.right (And.right (by assumption))))))))) | exact Nat.ne_of_gt (And.left (And.right (And.right (And.right (And.right (And.right (And.right (And.right (And.right (by assumption)))))))))) | exact Nat.ne_of_gt (And.left (And.right (And.right (And.right (And.right (And.right (And.right (And.right (And.right (And.right (by assumption))))))))))) | exact Nat.ne_of_gt (And.left (And.right (And.right (And.right (And.right (And.right (And.right (And.right (And.right (And.right (And.right (by assumption)))))))))))) | exact Nat.ne_of_lt (And.left (by assumption)) | exact Nat.ne_of_lt (And.left (And.right (by assumption))) | exact Nat.ne_of_lt (And.left (And.right (And.right (by assumption)))) | exact Nat.ne_of_lt (And.left (And.right (And.right (And.right (by assumption))))) | exact Nat.ne_of_lt (And.left (And.right (And.right (And.right (And.right (by assumption)))))) | exact Nat.ne_of_lt (And.left (And.right (And.right (And.right (And.right (And.right (by assumption))))))) | exact Nat.ne_of_lt (And.left (And.right (And.right (And.right (And.right (And.right (And.right (by assumption)))))))) | exact Nat.ne_of_lt (And.left (And.right (And.right (And.right (And.right (And.right (And.right (And.right (by assumption))))))))) | exact Nat.ne_of_lt (And.left (And.right (And.right (And.right (And.right (And.right (And.right (And.right (And.right (by assumption)))))))))) | exact Nat.ne_of_lt (And.left (And.right (And.right (And.right (And.right (And.right (And.right (And.right (And.right (And.right (by assumption))))))))))) | exact Nat.ne_of_lt (And.left (And.right (And.right (And.right (And.right (And.right (And.right (And.right (And.right (And.right (And.right (by assumption))))))))))))))
  k_with "InvEndG" => (refine Hold.out ?_)
  k_with "inplaceOp Add ref" => (k_here; k_dflt (refine' iadd_list ?k1 ?k2 ?k3 ?k4 ?k5 ?k6 ?_; (case k1 => k_asm); (case k2 => k_asm); (case k3 => k_mem); (case k4 => k_upd); (case k5 => first | exact Nat.succ_ne_zero _ | (simp; done) | (rw [IntsAre.length (by assumption)]; simp; done)); (case k6 => refine us_room (by assumption) ?_; first | (simp; done) | (rw [IntsAre.length (by assumption)]; simp; omega))); intro _ _ _)
  k_with "call builtin:dict.get" => (k_here; k_dflt (refine' get_wide ?k1 ?k2 ?_; (case k1 => k_tabat); (case k2 => exact wide_look (by assumption))); intro _)
  k_with "ite" => (k_here; k_dflt (first | (refine ite_pos (by assumption) ?_) | (refine ite_isFalse (by assumption) ?_)))
  k_with "execs cons" => (k_here; (with_reducible show wpAny _ _ _ _ _ (Shared.mk _ _ _ (_ + _) _)); (rename Fr _ _ _ _ => Fq9); refine wp_norm (g := sg) (d := sd) (o := so) Fq9 ?_; intro _ _ _; clear Fq9)
  k_with "execs nil" => (k_here; (with_reducible show wpAny _ _ _ _ _ (Shared.mk _ _ _ (_ + _) _)); (rename Fr _ _ _ _ => Fq9); refine wp_norm (g := sg) (d := sd) (o := so) Fq9 ?_; intro _ _ _; clear Fq9)
  k_with "pyIter ref" => (refine Hold.out ?_)
  k_with "execs cons" => (k_here; k_fold)
  trivial
section
variable {w : World} {mg mb : Str → Option Value} {mean : ExcName → Option Value} {A₀ : Around} {dp un : Nat} {gs : Option (List Code)} {base h₀ : Heap} {outer : List Env} {env : Env} {L : Addr} {m : Str → Option Value} {news : List (Addr × Obj)} {s : Shared} {R : Result → Shared → Prop}

theorem bracketed_call {ts : List Tk} {D : Addr} {ws : List Value} {n : Nat}
    (B : Below A₀ base outer h₀) (F : Fr h₀ L s.heap m) (X : (hd.heap_39 w.params).In h₀) (N : News h₀ L s.heap news) (T : Top hd.view_39 (looseW hd.view_39 [Str.ofString "EXACT_TOKEN_TYPES"]) mean mg mb h₀)
    (hf : env.frame = some L) (hke : env.scope.kind = .function) (hdep : dp < 400) (hD : (D, listOf ws.toArray n) ∈ news) (hws : IntsAre ws (ts.map Tk.code ++ [0])) (hl2 : ts.length ≤ 5000)
    (h : ∀ h' tk D ws n, Fr h₀ L h' m → News h₀ L h' ((D, listOf ws.toArray n) :: news) → IntsAre ws (rowsOf (ts.map Tk.code ++ [0])) → R (.ok (.ret (.ref D))) { s with heap := h', toks := tk }) :
    codeAny (model PySem.Challenge.rw_pg0154_01.row.prog w) ⟨none, dp, some (env :: outer), gs, un⟩ (.call (.ref 136) ⟨[.ref D], []⟩) R s := by
  have hdep5 : dp < 500 := by omega
  revert X
  k_fill
  intro X
  refine' code_defF (binds := [(Str.ofString "words", .ref D)]) [] (fun _ hq => nomatch hq) B F X N T rfl hf hke ?k6 ?k7 ?k8 ?k9 ?kB ?_ ?c2 ?c3 ?c4 ?c5
  case k6 => k_is
  case k7 => k_is
  case k8 => k_room
  case k9 => exact BindsTo.of_eq rfl
  case c5 => decide
  case kB => exact locs rfl
  case c2 => exact rfl
  case c3 => exact rfl
  case c4 => exact rfl
  intro g' L' h' tk0 hfz FG' F' N' B' X' T' env' A' sg sd so qk ek
  have hDl : g'.IsList D ws.toArray := list_at (hfz _ hD (fun _ hq => nomatch hq))
  (try with_reducible show wpAny _ _ _ _ _ _)
  k_steps
  refine ⟨?_⟩
  rename Fr _ _ _ _ => F1
  rename News _ _ _ _ => N1
  rename_i hh1 oW hs1 hd1 hf1 ap1 lt1 hh2 mA tk1 l7 hh3 lt2 lr hh4 iL n1 s1 e1 e2 e3 lt3 hh5 mB tk2
  have kdm := kdMark
  refine for_ints (σ := List Value × List Int × Nat) (fun c => [(lr, listOf c.1.toArray c.2.2), (h'.objs.size, oW)]) (fun c => []) [Str.ofString "wide"] (fun pre c => IntsAre c.1 c.2.1 ∧ c.2.1 = rowsOf pre) ((List.replicate (Int.toNat 6) [Value.int 7 tk1]).flatten, (List.replicate (Int.toNat 6) [(7 : Int)]).flatten, 0) rfl hDl hws F1 (news_sub N1 ?kn) ?kk ?kp ?kt ?kd
  case kn => intro p hp; simp only [List.mem_cons, List.not_mem_nil, or_false] at hp ⊢; rcases hp with h | h <;> simp [h]
  case kk => exact fun _ hq => nomatch hq
  case kp => exact ⟨iL, rfl⟩
  case kt =>
    rintro ⟨rv, rn, cn⟩ pre post n t u h9 tk9 own he ⟨hI, hlen⟩ hoff F2 N2
    dsimp only [kstB] at F2 N2 hI hlen hoff ⊢
    simp only [List.cons_append, List.nil_append, List.map_cons, List.map_nil] at N2 hoff
    replace F2 : Fr g' L' h9 _ := F2
    replace N2 : News g' L' h9 _ := N2
    replace hoff : OwnOff own [lr, h'.objs.size] := hoff
    have hrv : rv.length ≤ 70000 := by rw [hI.length, hlen]; exact row_room he hl2
    have hmem := row_mem he
    by_cases h0 : n = 0
    · subst h0
      have h78 : ¬ ([7, 8].any fun x => @BEq.beq Int instBEqOfDecidableEq x (0 : Int)) = true := by decide
      (try with_reducible show wpAny _ _ _ _ _ _)
      try k_fold
      k_steps
      refine ⟨?_⟩
      rename Fr _ _ _ _ => F3
      rename News _ _ _ _ => N3
      refine for_end (_, rn ++ rowOf 0, cn + 1) F3 N3 (List.forall_mem_cons.mpr ⟨by k_mem, List.forall_mem_cons.mpr ⟨by k_mem, List.forall_mem_nil _⟩⟩) (fun p hp => by (repeat (first | exact hp | refine List.Mem.tail _ ?_))) hoff (fun _ hq => nomatch hq) ?_ ⟨hI.append ?_, by dsimp only; rw [rowsOf_snoc, hlen]⟩
      · intro z hz1 hz2 hz3
        (repeat (first | with_reducible rfl | refine ite_ne hz1 ?_ | refine ite_bf hz3 ?_ | refine ite_ne (ne_first hz3) ?_ | refine ite_split (fun e => by subst e; rfl) ?_))
      · rw [rowOf_zero]
        exact ints8
    · have hn0 : n ≠ 0 := h0
      have hn1 : ¬ (decide (n = 0) = true) := by simp [h0]
      have hn2 : ¬ ((n == 0) = true) := by simp [h0]
      have hn3 : ¬ (@BEq.beq Int instBEqOfDecidableEq n 0 = true) := by simp [h0]
      by_cases h78 : ([7, 8].any fun x => @BEq.beq Int instBEqOfDecidableEq x n) = true
      · (try with_reducible show wpAny _ _ _ _ _ _)
        try k_fold
        k_steps
        refine ⟨?_⟩
        rename Fr _ _ _ _ => F3
        rename News _ _ _ _ => N3
        refine for_end (_, rn ++ rowOf n, cn + 1) F3 N3 (List.forall_mem_cons.mpr ⟨by k_mem, List.forall_mem_cons.mpr ⟨by k_mem, List.forall_mem_nil _⟩⟩) (fun p hp => by (repeat (first | exact hp | refine List.Mem.tail _ ?_))) hoff (fun _ hq => nomatch hq) ?_ ⟨hI.append ?_, by dsimp only; rw [rowsOf_snoc, hlen]⟩
        · intro z hz1 hz2 hz3
          (repeat (first | with_reducible rfl | refine ite_ne hz1 ?_ | refine ite_bf hz3 ?_ | refine ite_ne (ne_first hz3) ?_ | refine ite_split (fun e => by subst e; rfl) ?_))
        · rw [rowOf_br (by rcases hmem with h | h | h | h <;> first | exact .inl h | exact .inr h | (exfalso; exact h0 h) | (exfalso; obtain ⟨q7, q8, _⟩ := h.ne; simp at h78; omega))]
          assumption
      · have hnk : NK n := by rcases hmem with h | h | h | h <;> first | exact h | (exfalso; exact h0 h) | (exfalso; subst h; exact h78 (by decide))
        have hw0 : 0 ≤ (wideOf n : Int) := by omega
        have hw6 : (wideOf n : Int) ≤ 6 := by have := wideOf_le n; omega
        (try with_reducible show wpAny _ _ _ _ _ _)
        try k_fold
        k_steps
        refine ⟨?_⟩
        rename Fr _ _ _ _ => F3
        rename News _ _ _ _ => N3
        refine for_end (_, rn ++ rowOf n, cn + 1) F3 N3 (List.forall_mem_cons.mpr ⟨by k_mem, List.forall_mem_cons.mpr ⟨by k_mem, List.forall_mem_nil _⟩⟩) (fun p hp => by (repeat (first | exact hp | refine List.Mem.tail _ ?_))) hoff (fun _ hq => nomatch hq) ?_ ⟨hI.append ?_, by dsimp only; rw [rowsOf_snoc, hlen]⟩
        · intro z hz1 hz2 hz3
          (repeat (first | with_reducible rfl | refine ite_ne hz1 ?_ | refine ite_bf hz3 ?_ | refine ite_ne (ne_first hz3) ?_ | refine ite_split (fun e => by subst e; rfl) ?_))
        · rw [rowOf_nk hnk]
          assumption
  case kd =>
    rintro ⟨rv, rn, cn⟩ u h9 tk9 ⟨hI, hlen⟩ F2 N2
    dsimp only [kstB] at F2 N2 hI hlen ⊢
    k_steps
    rename Fr g' _ _ _ => F9
    rename Fr h₀ _ _ _ => F8
    rename News h₀ _ _ _ => N8
    refine h _ _ _ _ _ F8 (frozen_head N hfz F9 N8) ?_
    rw [← hlen]; exact hI
end
end Mine

end
section
/- part WDeed -/
theorem Mine.offWDeed : True := by
  w_top off
  k_with_none
  trivial
open PySem PySem.W PyProof.Rows
set_option linter.unusedSimpArgs false
namespace Mine
noncomputable def Op.addr : Op → Addr
  | .bor => 70 | .xor => 91 | .band => 28 | .shl => 49 | .shr => 77 | .add => 21 | .sub => 84 | .mul => 63 | .fdiv => 35 | .mod => 56
set_option maxRecDepth 100000
set_option maxHeartbeats 8000000
theorem wordsWDeed1 : True := by
  k_with_none
  k_with "ROOM" => (first | exact room_of (k := 0) (by assumption) (by decide) | exact room_of (k := 1) (by assumption) (by decide) | exact room_of (k := 2) (by assumption) (by decide) | exact room_of (k := 3) (by assumption) (by decide))
  k_with "SIZE" => (first | assumption | (simp only [Str.length_append, PySem.sizeLine_eq]; omega))
  k_with "MUL" => (first | exact Sm.mulOk (by assumption) (by assumption) | exact mulPow_ok (by assumption) (by assumption))
  k_with "NE" => (refine neN ?_; (try dsimp only); (first | exact Nat.ne_of_gt (by assumption) | exact Nat.ne_of_lt (by assumption) | exact Nat.ne_of_gt (And.left (by assumption)) | exact Nat.ne_of_gt (And.left (And.right (by assumption))) | exact Nat.ne_of_gt (And.left (And.right (And.right (by assumption)))) | exact Nat.ne_of_gt (And.left (And.right (And.right (And.right (by assumption))))) | exact Nat.ne_of_gt (And.left (And.right (And.right (And.right (And.right (by assumption)))))) | exact Nat.ne_of_gt (And.left (And.right (And.right (And.right (And.right (And.right (by assumption))))))) | exact Nat.ne_of_gt (And.left (And.right (And.right (And.right (And.right (And.right (And.right (by assumption)))))))) | exact Nat.ne_of_gt (And.left (And.right (And.right (And.right (And.right (And.right (And.right (And.right (by assumption))))))))) | exact Nat.ne_of_gt (And.left (And.right (And.right (And.right (And.right (And.right (And.right (And.right (And.right (by assumption)))))))))) | exact Nat.ne_of_gt (And.left (And.right (And.right (And.right (And.right (And.right (And.right (And.right (And.right (And.right (by assumption))))))))))) | exact Nat.ne_of_gt (And.left (And.right (And.right (And.right (And.right (And.right (And.right (And.right (And.right (And.right (And.right (by assumption)))))))))))) | exact Nat.ne_of_lt (And.left (by assumption)) | exact Nat.ne_of_lt (And.left (And.right (by assumption))) | exact Nat.ne_of_lt (And.left (And.right (And.right (by assumption)))) | exact Nat.ne_of_lt (And.left (And.right (And.right (And.right (by assumption))))) | exact Nat.ne_of_lt (And.left (And.right (And.right (And.right (And.right (by assumption)))))) | exact Nat.ne_of_lt (And.left (And.right (And.right (And.right (And.right (And.right (by assumption))))))) | exact Nat.ne_of_lt (And.left (And.right (And.right (And.right (And.right (And.right (And.right (by assumption)))))))) | exact Nat.ne_of_lt (And.left (And.right (And.right (And.right (And.right (And.right (And.right (And.right (by assumption))))))))) | exact Nat.ne_of_lt (And.left (And.right (And.right (And.right (And.right (And.right (And.right (And.right (And.right (by assumption)))))))))) | exact Nat.ne_of_lt (And.left (And.right (And.right (And.right (And.right (And.right (And.right (And.right (And.right (And.right (by assumption))))))))))) | exact Nat.ne_of_lt (And.left (And.right (And.right (And.right (And.right (And.right (And.right (And.right (And.right (And.right (And.right (by assumption))))))))))))))
  k_with "OM" => (first | with_reducible assumption | decide | (with_reducible exact om_d1 (by assumption)) | (with_reducible exact om_d2 (by assumption)) | (with_reducible exact om_d3 (by assumption)) | (with_reducible exact om_d4 (by assumption)) | (with_reducible exact om_l1 (by assumption)) | (with_reducible exact om_l2 (by assumption)) | (with_reducible exact om_l3 (by assumption)) | (with_reducible exact om_l4 (by assumption)) | (with_reducible exact om_n1) | (with_reducible exact om_n2) | (with_reducible exact om_n3) | (with_reducible exact om_n4) | (with_reducible exact om_c1 (by assumption)) | (with_reducible exact om_c2 (by assumption) (by assumption)) | (with_reducible exact om_p1 (by assumption)) | (with_reducible exact om_p2 (by assumption)) | (with_reducible exact om_p3 (by assumption)) | (with_reducible exact om_p4 (by assumption)) | (with_reducible exact om_p5 (by assumption)) | (with_reducible exact om_a1 (by assumption)) | (with_reducible exact om_a2 (by assumption)) | (with_reducible exact om_w1 (by assumption) (by assumption)) | (with_reducible exact om_w2 (by assumption) (by assumption)) | (with_reducible exact om_w3 (by assumption)) | (with_reducible exact om_w4) | (with_reducible exact om_s1 (by assumption)) | (with_reducible exact om_s2 (by assumption) (by assumption)) | (with_reducible exact om_s3 (by assumption) (by assumption)) | (with_reducible exact om_s4 (by assumption)) | (with_reducible exact om_s5 (by assumption)))
  k_with "binaryOp FloorDiv int int" => (k_here; (with_reducible refine floordiv_int ?k1 ?_ (Or.inl (Sm.noPylong ?k2))); (case k1 => assumption); (case k2 => assumption))
  k_with "binaryOp LShift int int" => (k_here; (with_reducible refine lshift_int ?k1 (shl_room ?k2 ?k3) ?_); (case k1 => assumption); (case k2 => assumption); (case k3 => assumption))
  k_with "binaryOp Mod int int" => (k_here; (with_reducible refine mod_int' ?k1 ?_); (case k1 => assumption))
  trivial
section
variable {w : World} {mg mb : Str → Option Value} {mean : ExcName → Option Value} {A₀ : Around} {dp un : Nat} {gs : Option (List Code)} {base h₀ : Heap} {outer : List Env} {env : Env} {L : Addr} {m : Str → Option Value} {news : List (Addr × Obj)} {s : Shared} {R : Result → Shared → Prop}

theorem deed_ok {o : Op} {t1 t2 : Tok} {a b v : Int}
    (B : Below A₀ base outer h₀) (F : Fr h₀ L s.heap m) (X : (hd.heap_39 w.params).In h₀) (N : News h₀ L s.heap news) (T : Top hd.view_39 (looseW hd.view_39 [Str.ofString "EXACT_TOKEN_TYPES"]) mean mg mb h₀)
    (hf : env.frame = some L) (hke : env.scope.kind = .function) (hdep : dp < 500) (sa : Sm a) (sb : Sm b) (hfit : o.fits b) (hv : o.val a b = some v)
    (h : ∀ h' tk t, Fr h₀ L h' m → News h₀ L h' news → R (.ok (.ret (.int v t))) { s with heap := h', toks := tk }) :
    codeAny (model PySem.Challenge.rw_pg0154_01.row.prog w) ⟨none, dp, some (env :: outer), gs, un⟩ (.call (.ref o.addr) ⟨[.int a t1, .int b t2], []⟩) R s := by
  revert X
  k_fill
  intro X
  have hlo : (o = .shl ∨ o = .shr) → 0 ≤ b := fun q => (hfit q).1
  have hhi : (o = .shl ∨ o = .shr) → b ≤ 6 := fun q => (hfit q).2
  cases o
  all_goals
    (try replace hlo := hlo (by decide))
    (try replace hhi := hhi (by decide))
    dsimp only [Op.addr]
    refine' code_def B F X N T rfl hf hke ?k6 ?k7 ?k8 ?k9 ?kB ?_ ?c2 ?c3 ?c4 ?c5
    case k6 => k_is
    case k7 => k_is
    case k8 => k_room
    case k9 => exact BindsTo.of_eq rfl
    case c5 => decide
    case kB => exact locs rfl
    case c2 => exact rfl
    case c3 => exact rfl
    case c4 => exact rfl
    intro g' L' h' FG' F' N' B' X' T'
    try dsimp only
    try k_fold
  case fdiv =>
    by_cases hb0 : b = 0
    · simp [Op.val, hb0] at hv
    · have hb1 : b ≠ 0 := hb0
      simp only [Op.val, if_neg hb0, Option.some.injEq] at hv
      subst hv
      k_steps
      exact h _ _ _ (by assumption) (by assumption)
  case mod =>
    by_cases hb0 : b = 0
    · simp [Op.val, hb0] at hv
    · have hb1 : b ≠ 0 := hb0
      simp only [Op.val, if_neg hb0, Option.some.injEq] at hv
      subst hv
      k_steps
      exact h _ _ _ (by assumption) (by assumption)
  all_goals
    simp only [Op.val, Option.some.injEq] at hv
    subst hv
    k_steps
    exact h _ _ _ (by assumption) (by assumption)

end
section
theorem wordsWDeed2 : True := by
  k_with "leaving ref" => (refine Hold.out ?_)
  trivial
variable {w : World} {mg mb : Str → Option Value} {mean : ExcName → Option Value} {A₀ : Around} {dp un : Nat} {gs : Option (List Code)} {base h₀ : Heap} {outer : List Env} {env : Env} {L : Addr} {m : Str → Option Value} {news : List (Addr × Obj)} {s : Shared} {R : Result → Shared → Prop}
theorem deed_zero {o : Op} {t1 t2 : Tok} {a b : Int}
    (B : Below A₀ base outer h₀) (F : Fr h₀ L s.heap m) (X : (hd.heap_39 w.params).In h₀) (N : News h₀ L s.heap news) (T : Top hd.view_39 (looseW hd.view_39 [Str.ofString "EXACT_TOKEN_TYPES"]) mean mg mb h₀)
    (hf : env.frame = some L) (hke : env.scope.kind = .function) (hdep : dp < 500) (hv : o.val a b = none)
    (h : ∀ h' tk e g', Fr h₀ L g' m → RaisedSN base g' (env :: outer) e (.type "ZeroDivisionError") news h' → g'.UpToSlots h' → R (.error (.ref e)) { s with heap := h', toks := tk }) :
    codeAny (model PySem.Challenge.rw_pg0154_01.row.prog w) ⟨none, dp, some (env :: outer), gs, un⟩ (.call (.ref o.addr) ⟨[.int a t1, .int b t2], []⟩) R s := by
  revert X
  k_fill
  intro X
  have hb0 : b = 0 := by
    by_cases hb : b = 0
    · exact hb
    · cases o <;> simp [Op.val, hb] at hv
  have ho : o = .fdiv ∨ o = .mod := by cases o <;> simp [Op.val] at hv <;> simp
  subst hb0
  rcases ho with rfl | rfl
  all_goals
    dsimp only [Op.addr]
    refine' code_def B F X N T rfl hf hke ?k6 ?k7 ?k8 ?k9 ?kB ?_ ?c2 ?c3 ?c4 ?c5
    case k6 => k_is
    case k7 => k_is
    case k8 => k_room
    case k9 => exact BindsTo.of_eq rfl
    case c5 => decide
    case kB => exact locs rfl
    case c2 => exact rfl
    case c3 => exact rfl
    case c4 => exact rfl
    intro g' L' h' FG' F' N' B' X' T'
    try dsimp only
    try k_fold
    k_steps
  all_goals first
    | (exfalso; omega)
    | (refine ⟨?_⟩
       refine leave_newS B' (by assumption) F' N' fun h9 RS RN US => ?_
       exact h _ _ _ _ FG' RS US)
end
end Mine

end
section
/- part WSmall -/
theorem Mine.offWSmall : True := by
  w_top off
  k_with_none
  trivial
open PySem PySem.W PyProof.Rows
set_option linter.unusedSimpArgs false
namespace Mine
set_option maxRecDepth 100000
set_option maxHeartbeats 8000000
theorem wordsWSmall1 : True := by
  k_with_none
  k_with "ROOM" => (first | exact room_of (k := 0) (by assumption) (by decide) | exact room_of (k := 1) (by assumption) (by decide) | exact room_of (k := 2) (by assumption) (by decide) | exact room_of (k := 3) (by assumption) (by decide))
  k_with "SIZE" => (first | assumption | (simp only [Str.length_append, PySem.sizeLine_eq]; omega))
  k_with "MUL" => (first | exact Sm.mulOk (by assumption) (by assumption) | exact mulPow_ok (by assumption) (by assumption))
  k_with "NE" => (refine neN ?_; (try dsimp only); (first | exact Nat.ne_of_gt (by assumption) | exact Nat.ne_of_lt (by assumption) | exact Nat.ne_of_gt (And.left (by assumption)) | exact Nat.ne_of_gt (And.left (And.right (by assumption))) | exact Nat.ne_of_gt (And.left (And.right (And.right (by assumption)))) | exact Nat.ne_of_gt (And.left (And.right (And.right (And.right (by assumption))))) | exact Nat.ne_of_gt (And.left (And.right (And.right (And.right (And.right (by assumption)))))) | exact Nat.ne_of_gt (And.left (And.right (And.right (And.right (And.right (And.right (by assumption))))))) | exact Nat.ne_of_gt (And.left (And.right (And.right (And.right (And.right (And.right (And.right (by assumption)))))))) | exact Nat.ne_of_gt (And.left (And.right (And.right (And.right (And.right (And.right (And.right (And.right (by assumption))))))))) | exact Nat.ne_of_gt (And.left (And.right (And.right (And.right (And.right (And.right (And.right (And.right (And.right (by assumption)))))))))) | exact Nat.ne_of_gt (And.left (And.right (And.right (And.right (And.right (And.right (And.right (And.right (And.right (And.right (by assumption))))))))))) | exact Nat.ne_of_gt (And.left (And.right (And.right (And.right (And.right (And.right (And.right (And.right (And.right (And.right (And.right (by assumption)))))))))))) | exact Nat.ne_of_lt (And.left (by assumption)) | exact Nat.ne_of_lt (And.left (And.right (by assumption))) | exact Nat.ne_of_lt (And.left (And.right (And.right (by assumption)))) | exact Nat.ne_of_lt (And.left (And.right (And.right (And.right (by assumption))))) | exact Nat.ne_of_lt (And.left (And.right (And.right (And.right (And.right (by assumption)))))) | exact Nat.ne_of_lt (And.left (And.right (And.right (And.right (And.right (And.right (by assumption))))))) | exact Nat.ne_of_lt (And.left (And.right (And.right (And.right (And.right (And.right (And.right (by assumption)))))))) | exact Nat.ne_of_lt (And.left (And.right (And.right (And.right (And.right (And.right (And.right (And.right (by assumption))))))))) | exact Nat.ne_of_lt (And.left (And.right (And.right (And.right (And.right (And.right (And.right (And.right (And.right (by assumption)))))))))) | exact Nat.ne_of_lt (And.left (And.right (And.right (And.right (And.right (And.right (And.right (And.right (And.right (And.right (by assumption))))))))))) | exact Nat.ne_of_lt (And.left (And.right (And.right (And.right (And.right (And.right (And.right (And.right (And.right (And.right (And.right (by assumption))))))))))))))
  k_with "OM" => (first | with_reducible assumption | decide | (with_reducible exact om_d1 (by assumption)) | (with_reducible exact om_d2 (by assumption)) | (with_reducible exact om_d3 (by assumption)) | (with_reducible exact om_d4 (by assumption)) | (with_reducible exact om_l1 (by assumption)) | (with_reducible exact om_l2 (by assumption)) | (with_reducible exact om_l3 (by assumption)) | (with_reducible exact om_l4 (by assumption)) | (with_reducible exact om_n1) | (with_reducible exact om_n2) | (with_reducible exact om_n3) | (with_reducible exact om_n4) | (with_reducible exact om_c1 (by assumption)) | (with_reducible exact om_c2 (by assumption) (by assumption)) | (with_reducible exact om_p1 (by assumption)) | (with_reducible exact om_p2 (by assumption)) | (with_reducible exact om_p3 (by assumption)) | (with_reducible exact om_p4 (by assumption)) | (with_reducible exact om_p5 (by assumption)) | (with_reducible exact om_a1 (by assumption)) | (with_reducible exact om_a2 (by assumption)) | (with_reducible exact om_w1 (by assumption) (by assumption)) | (with_reducible exact om_w2 (by assumption) (by assumption)) | (with_reducible exact om_w3 (by assumption)) | (with_reducible exact om_w4) | (with_reducible exact om_s1 (by assumption)) | (with_reducible exact om_s2 (by assumption) (by assumption)) | (with_reducible exact om_s3 (by assumption) (by assumption)) | (with_reducible exact om_s4 (by assumption)) | (with_reducible exact om_s5 (by assumption)))
  trivial
section
variable {w : World} {mg mb : Str → Option Value} {mean : ExcName → Option Value} {A₀ : Around} {dp un : Nat} {gs : Option (List Code)} {base h₀ : Heap} {outer : List Env} {env : Env} {L : Addr} {m : Str → Option Value} {news : List (Addr × Obj)} {s : Shared} {R : Result → Shared → Prop}

theorem iseof_call {n : Int} {t : Tok}
    (B : Below A₀ base outer h₀) (F : Fr h₀ L s.heap m) (X : (hd.heap_39 w.params).In h₀) (N : News h₀ L s.heap news) (T : Top hd.view_39 (looseW hd.view_39 [Str.ofString "EXACT_TOKEN_TYPES"]) mean mg mb h₀)
    (hf : env.frame = some L) (hke : env.scope.kind = .function) (hdep : dp < 500)
    (h : ∀ h' tk, Fr h₀ L h' m → News h₀ L h' news → R (.ok (.ret (.bool (n == 0)))) { s with heap := h', toks := tk }) :
    codeAny (model PySem.Challenge.rw_pg0154_01.row.prog w) ⟨none, dp, some (env :: outer), gs, un⟩ (.call (.ref 122) ⟨[.int n t], []⟩) R s := by
  revert X
  k_fill
  intro X
  refine' code_def B F X N T rfl hf hke ?k6 ?k7 ?k8 ?k9 ?kB ?_ ?c2 ?c3 ?c4 ?c5
  case k6 => k_is
  case k7 => k_is
  case k8 => k_room
  case k9 => exact BindsTo.of_eq rfl
  case c5 => decide
  case kB => exact locs rfl
  case c2 => exact rfl
  case c3 => exact rfl
  case c4 => exact rfl
  intro g' L' h' FG' F' N' B' X' T'
  try dsimp only
  try k_fold
  k_steps
  exact h _ _ (by assumption) (by assumption)
theorem isnon_call {n : Int} {t : Tok}
    (B : Below A₀ base outer h₀) (F : Fr h₀ L s.heap m) (X : (hd.heap_39 w.params).In h₀) (N : News h₀ L s.heap news) (T : Top hd.view_39 (looseW hd.view_39 [Str.ofString "EXACT_TOKEN_TYPES"]) mean mg mb h₀)
    (hf : env.frame = some L) (hke : env.scope.kind = .function) (hdep : dp < 500)
    (h : ∀ h' tk, Fr h₀ L h' m → News h₀ L h' news → R (.ok (.ret (.bool (decide (n ≥ 256))))) { s with heap := h', toks := tk }) :
    codeAny (model PySem.Challenge.rw_pg0154_01.row.prog w) ⟨none, dp, some (env :: outer), gs, un⟩ (.call (.ref 115) ⟨[.int n t], []⟩) R s := by
  revert X
  k_fill
  intro X
  refine' code_def B F X N T rfl hf hke ?k6 ?k7 ?k8 ?k9 ?kB ?_ ?c2 ?c3 ?c4 ?c5
  case k6 => k_is
  case k7 => k_is
  case k8 => k_room
  case k9 => exact BindsTo.of_eq rfl
  case c5 => decide
  case kB => exact locs rfl
  case c2 => exact rfl
  case c3 => exact rfl
  case c4 => exact rfl
  intro g' L' h' FG' F' N' B' X' T'
  try dsimp only
  try k_fold
  k_steps
  exact h _ _ (by assumption) (by assumption)
theorem inv_call {n : Int} {t : Tok}
    (B : Below A₀ base outer h₀) (F : Fr h₀ L s.heap m) (X : (hd.heap_39 w.params).In h₀) (N : News h₀ L s.heap news) (T : Top hd.view_39 (looseW hd.view_39 [Str.ofString "EXACT_TOKEN_TYPES"]) mean mg mb h₀)
    (hf : env.frame = some L) (hke : env.scope.kind = .function) (hdep : dp < 500)
    (h : ∀ h' tk t, Fr h₀ L h' m → News h₀ L h' news → R (.ok (.ret (.int (Builtin.bitNot n) t))) { s with heap := h', toks := tk }) :
    codeAny (model PySem.Challenge.rw_pg0154_01.row.prog w) ⟨none, dp, some (env :: outer), gs, un⟩ (.call (.ref 42) ⟨[.int n t], []⟩) R s := by
  revert X
  k_fill
  intro X
  refine' code_def B F X N T rfl hf hke ?k6 ?k7 ?k8 ?k9 ?kB ?_ ?c2 ?c3 ?c4 ?c5
  case k6 => k_is
  case k7 => k_is
  case k8 => k_room
  case k9 => exact BindsTo.of_eq rfl
  case c5 => decide
  case kB => exact locs rfl
  case c2 => exact rfl
  case c3 => exact rfl
  case c4 => exact rfl
  intro g' L' h' FG' F' N' B' X' T'
  try dsimp only
  try k_fold
  k_steps
  exact h _ _ _ (by assumption) (by assumption)
theorem sub_call {a b : Int} {t1 t2 : Tok}
    (B : Below A₀ base outer h₀) (F : Fr h₀ L s.heap m) (X : (hd.heap_39 w.params).In h₀) (N : News h₀ L s.heap news) (T : Top hd.view_39 (looseW hd.view_39 [Str.ofString "EXACT_TOKEN_TYPES"]) mean mg mb h₀)
    (hf : env.frame = some L) (hke : env.scope.kind = .function) (hdep : dp < 500)
    (h : ∀ h' tk t, Fr h₀ L h' m → News h₀ L h' news → R (.ok (.ret (.int (a - b) t))) { s with heap := h', toks := tk }) :
    codeAny (model PySem.Challenge.rw_pg0154_01.row.prog w) ⟨none, dp, some (env :: outer), gs, un⟩ (.call (.ref 84) ⟨[.int a t1, .int b t2], []⟩) R s := by
  revert X
  k_fill
  intro X
  refine' code_def B F X N T rfl hf hke ?k6 ?k7 ?k8 ?k9 ?kB ?_ ?c2 ?c3 ?c4 ?c5
  case k6 => k_is
  case k7 => k_is
  case k8 => k_room
  case k9 => exact BindsTo.of_eq rfl
  case c5 => decide
  case kB => exact locs rfl
  case c2 => exact rfl
  case c3 => exact rfl
  case c4 => exact rfl
  intro g' L' h' FG' F' N' B' X' T'
  try dsimp only
  try k_fold
  k_steps
  exact h _ _ _ (by assumption) (by assumption)
end
end Mine

end
section
/- part Mach -/
open PySem PySem.W PyProof.Rows
namespace Mine
/-- `~` so many times -/
noncomputable def invs : Nat → Int → Int
  | 0, v => v
  | k + 1, v => -1 - invs k v
/-- what the reader of the row holds -/
structure MS where
  pile : List (Int × Op × Nat)
  held : Int
  kind : Op
  turned : Nat
/-- a word that ends a value: v the value read, behind it the frame (h, k, t) and the pile p -/
noncomputable def Ends (n : Int) (s : MS) (v h : Int) (k : Op) (t : Nat) (p : List (Int × Op × Nat)) : Prop :=
  (n ≥ 256 ∧ n - 256 = v ∧ h = s.held ∧ k = s.kind ∧ t = s.turned ∧ p = s.pile) ∨ (n = 8 ∧ v = s.held ∧ s.pile = (h, k, t) :: p)
/-- the reader's way through a row; none: a division by nought -/
noncomputable def Trace : List Int → MS → Option Int → Prop
  | [], s, o => o = some s.held
  | n :: r, s, o =>
    (n = 7 ∧ Trace r ⟨(s.held, s.kind, s.turned) :: s.pile, 0, .add, 0⟩ o) ∨ (n = 31 ∧ Trace r ⟨s.pile, s.held, s.kind, s.turned + 1⟩ o) ∨ (∃ o9 : Op, n = o9.tok ∧ Trace r ⟨s.pile, s.held, o9, s.turned⟩ o) ∨
    ∃ v h k t p, Ends n s v h k t p ∧ t ≤ 2 ∧ ((∃ v', k.val h (invs t v) = some v' ∧ Sm h ∧ Sm (invs t v) ∧ k.fits (invs t v) ∧ Trace r ⟨p, v', k, 0⟩ o) ∨ (k.val h (invs t v) = none ∧ o = none))
section
variable {r : List Int} {p : List (Int × Op × Nat)} {h h' v : Int} {k k' : Op} {t t' : Nat} {o : Option Int}
theorem Trace.push (H : Trace r ⟨(h, k, t) :: p, 0, .add, 0⟩ o) : Trace (7 :: r) ⟨p, h, k, t⟩ o := Or.inl ⟨rfl, H⟩
theorem Trace.til (H : Trace r ⟨p, h, k, t + 1⟩ o) : Trace (31 :: r) ⟨p, h, k, t⟩ o := Or.inr (.inl ⟨rfl, H⟩)
theorem Trace.op (o9 : Op) (H : Trace r ⟨p, h, o9, t⟩ o) : Trace (o9.tok :: r) ⟨p, h, k, t⟩ o := Or.inr (.inr (.inl ⟨o9, rfl, H⟩))
theorem Trace.num (n : Nat) (h1 : t ≤ 2) (h2 : Sm h) (h3 : Sm (invs t n)) (h4 : k.fits (invs t n)) (h5 : k.val h (invs t n) = some v) (H : Trace r ⟨p, v, k, 0⟩ o) : Trace ((256 + (n : Int)) :: r) ⟨p, h, k, t⟩ o :=
  Or.inr (.inr (.inr ⟨n, h, k, t, p, .inl ⟨Int.le_add_of_nonneg_right (Int.natCast_nonneg n), by omega, rfl, rfl, rfl, rfl⟩, h1, .inl ⟨v, h5, h2, h3, h4, H⟩⟩))
theorem Trace.pop (h1 : t' ≤ 2) (h2 : Sm h') (h3 : Sm (invs t' h)) (h4 : k'.fits (invs t' h)) (h5 : k'.val h' (invs t' h) = some v) (H : Trace r ⟨p, v, k', 0⟩ o) : Trace (8 :: r) ⟨(h', k', t') :: p, h, k, t⟩ o :=
  Or.inr (.inr (.inr ⟨h, h', k', t', p, .inr ⟨rfl, rfl, rfl⟩, h1, .inl ⟨v, h5, h2, h3, h4, H⟩⟩))
theorem Trace.halt (h1 : t' ≤ 2) (h5 : k'.val h' (invs t' h) = none) : Trace (8 :: r) ⟨(h', k', t') :: p, h, k, t⟩ none :=
  Or.inr (.inr (.inr ⟨h, h', k', t', p, .inr ⟨rfl, rfl, rfl⟩, h1, .inr ⟨h5, rfl⟩⟩))
end
noncomputable def MS.init : MS := ⟨[], 0, .add, 0⟩
end Mine
namespace Mine
noncomputable abbrev tup3 (h : Int) (k : Op) (t : Nat) (a b c : Tok) (n : Nat) : Obj := { cls := .type "tuple", data := .seq #[.int h a, .int k.tok b, .int (t : Int) c] n }
/-- the pile as the list's items bear it, the newest last -/
inductive PileIn (tl : List (Addr × Obj)) : List Value → List (Int × Op × Nat) → Prop
  | nil : PileIn tl [] []
  | snoc {vs p a h k t x y z n} : PileIn tl vs p → (a, tup3 h k t x y z n) ∈ tl → PileIn tl (vs ++ [.ref a]) ((h, k, t) :: p)
theorem PileIn.mono {tl tl' : List (Addr × Obj)} (hs : ∀ q ∈ tl, q ∈ tl') {vs : List Value} {p : List (Int × Op × Nat)} (h : PileIn tl vs p) : PileIn tl' vs p := by
  induction h with
  | nil => exact .nil
  | snoc _ hm ih => exact .snoc ih (hs _ hm)
theorem PileIn.pop {Q : Prop} {tl : List (Addr × Obj)} {vs : List Value} {h : Int} {k : Op} {t : Nat} {p : List (Int × Op × Nat)} (P : PileIn tl vs ((h, k, t) :: p))
    (go : ∀ vs' a x y z n, vs = vs' ++ [.ref a] → (a, tup3 h k t x y z n) ∈ tl → PileIn tl vs' p → Q) : Q := by
  cases P with
  | snoc P hm => exact go _ _ _ _ _ _ rfl hm P
structure RS where
  vs : List Value
  cn : Nat
  tl : List (Addr × Obj)
  ms : MS
  t1 : Tok
  t2 : Tok
  t3 : Tok
section
variable {prog : Program} {w : World} {A : Around} {E : Value → Shared → Prop} {s : Shared} {h₀ : Heap} {L : Addr} {news : List (Addr × Obj)} {Q : Value → Shared → Prop}
theorem deed_at {ad : Op → Addr} {value slice : Expr} {d : Addr} {oD : Obj} {kvs : List (Int × Value)} {o : Op} {t : Tok} (N : News h₀ L s.heap news) (hm : (d, oD) ∈ news) (hO : Obj.IsDictOf (intKind prog w) oD kvs)
    (hv : ∀ o : Op, valueAt kvs o.tok = some (.ref (ad o))) (h : Q (.ref (ad o)) { s with toks := s.toks + 1 })
    (hs : subscripted slice false (.ref d) (.int o.tok t) = operate [.ref d, .int o.tok t] (getItem (.ref d) (.int o.tok t)) := by with_unfolding_all rfl) (hg : ∀ r, letTemporaryGo value (.ref d) r = pure () := by intro _; with_unfolding_all rfl) :
    wpAny (model prog w) A (subscriptTail value slice (.ref d) (.int o.tok t)) Q E s := by
  have hd : s.heap.DictOf (intKind prog w) d kvs := Heap.dictOf_iff.mpr ⟨oD, (N _ hm).1, hO⟩
  exact subscriptTail_builtin hd.typeIs slot_dict_getitem.lookup (wpAny_getItem_of (intKind_is prog w _ t) hd.mapOf (hv o) h) hs hg
end
end Mine
namespace Mine
theorem own_add {own tl : List (Addr × Obj)} {a pl dd : Addr} {o : Obj} (h : OwnOff own (pl :: dd :: tl.map (·.1))) (ha : ∀ p ∈ own, p.1 ≠ a) : OwnOff own (pl :: dd :: ((a, o) :: tl).map (·.1)) := by
  intro p hp b hb
  simp only [List.map_cons, List.mem_cons] at hb
  rcases hb with rfl | rfl | rfl | hb
  · exact h p hp _ (.head _)
  · exact h p hp _ (.tail _ (.head _))
  · exact ha p hp
  · exact h p hp _ (.tail _ (.tail _ hb))
theorem off_add {tl : List (Addr × Obj)} {a pl dd : Addr} {o : Obj} (h : OwnOff tl [pl, dd]) (h1 : a ≠ pl) (h2 : a ≠ dd) : OwnOff ((a, o) :: tl) [pl, dd] := by
  intro p hp b hb
  rcases List.mem_cons.mp hp with rfl | hp
  · rcases List.mem_cons.mp hb with rfl | hb
    · exact h1
    · rw [List.mem_singleton.mp hb]; exact h2
  · exact h p hp b hb
end Mine

end
section
/- part DeedE -/
open PySem PySem.W PyProof.Rows
namespace Mine
end Mine
namespace Mine
theorem unr_end {h₀ : Heap} {L : Addr} {s₁ : Shared} {I : Addr} {it : Obj} {rest : (Str → Option Value) → List (Addr × Obj) → Prop} {h' : Heap} {tk : Nat} {m' : Str → Option Value} {news' : List (Addr × Obj)}
    (F : Fr h₀ L h' m') (N : News h₀ L h' ((I, it) :: news')) (h : ∀ p ∈ news', p.1 ≠ I) (r : rest m' news') : UnrEnd h₀ L s₁ I it rest { s₁ with heap := h', toks := tk } := ⟨h', tk, m', news', rfl, F, N, h, r⟩
end Mine
namespace Mine
theorem callWith_deed {M : Model} {A : Around} {E : Value → Shared → Prop} {s : Shared} {Q : Value → Shared → Prop} {pos : Pos} {env : Env} {K : Frag} {h₀ : Heap} {o : Op} {e : Expr} {rest : List Expr} {first : List Value} (X : K.In h₀) (hk : ∀ o : Op, keepIn K (.ref o.addr) = true)
    (h : wpAny M A (spliced (backTo pos (starEach (e :: rest) env))) (fun vs s₁ => K.In s₁.heap ∧ wpAny M A (call (.ref o.addr) (first ++ vs)) Q E s₁) E s)
    (he : starEach (e :: rest) env = (false, eval e env) :: starEach rest env := by rfl) (hplain : (backTo pos (starEach rest env)).any (·.1) = false := by rfl) :
    wpAny M A (callWith pos (.ref o.addr) first (backTo pos (starEach (e :: rest) env)) []) Q E s := callWith_K X (hk o) h he hplain
end Mine
namespace Mine
theorem last_snoc : ∀ (vs : List Value) (y : Value), kl_last (vs ++ [y]).toArray.toList = some (vs, y) := fun vs y => by
  rw [show (vs ++ [y]).toArray.toList = vs ++ [y] by simp]
  induction vs with
  | nil => rfl
  | cons v r ih => rw [List.cons_append, kl_last, ih]
end Mine
namespace Mine
theorem pop_snoc {prog : Program} {w : World} {A : Around} {E : Value → Shared → Prop} {s : Shared} {h₀ : Heap} {L D : Addr} {m : Str → Option Value} {news news' : List (Addr × Obj)} {vs : List Value} {y : Value} {n : Nat} {Q : Value → Shared → Prop}
    (F : Fr h₀ L s.heap m) (N : News h₀ L s.heap news) (U : Upd D (listOf (vs ++ [y]).toArray n) (listOf vs.toArray (n + 1)) news news') (hz : (vs ++ [y]).toArray.size ≤ sizeLine)
    (h : ∀ h', Fr h₀ L h' m → News h₀ L h' news' → Q y { s with heap := h' }) : wpAny (model prog w) A (call (.builtin "list.pop") [.ref D]) Q E s :=
  kl_pop F N (last_snoc vs y) U (by rw [Array.length_toList]; exact hz) h
end Mine

end
section
/- part DeedF -/
open PySem PySem.W PyProof.Rows
namespace Mine
theorem Ends.word {n : Int} {s : MS} {v h : Int} {k : Op} {t : Nat} {p : List (Int × Op × Nat)} (e : Ends n s v h k t p) : n = 8 ∨ n ≥ 256 := e.elim (fun q => .inr q.1) fun q => .inl q.1
/-- what the deed at its end does -/
noncomputable def Deed (body pre : List Int) (n : Int) (o : Option Int) (k : Op) (h b : Int) (p : List (Int × Op × Nat)) : Prop :=
  (∃ v r, k.val h b = some v ∧ Sm h ∧ Sm b ∧ k.fits b ∧ body = (pre ++ [n]) ++ r ∧ Trace r ⟨p, v, k, 0⟩ o) ∨ (k.val h b = none ∧ o = none)
theorem trace_ways {P : Prop} {body pre post post0 : List Int} {n : Int} {p : List (Int × Op × Nat)} {hd : Int} {k : Op} {tt : Nat} {o : Option Int} (he : body ++ [0] = pre ++ n :: post0) (hb : body = pre ++ post) (ht : Trace post ⟨p, hd, k, tt⟩ o)
    (k0 : n = 0 → o = some hd → P) (k7 : ∀ r : List Int, n = 7 → body = (pre ++ [n]) ++ r → Trace r ⟨(hd, k, tt) :: p, 0, .add, 0⟩ o → P) (k31 : ∀ r : List Int, n = 31 → body = (pre ++ [n]) ++ r → Trace r ⟨p, hd, k, tt + 1⟩ o → P)
    (kop : ∀ (o9 : Op) (r : List Int), n = o9.tok → body = (pre ++ [n]) ++ r → Trace r ⟨p, hd, o9, tt⟩ o → P)
    (kv : ∀ (v0 h2 : Int) (k2 : Op) (t2 : Nat) (p2 : List (Int × Op × Nat)), Ends n ⟨p, hd, k, tt⟩ v0 h2 k2 t2 p2 → t2 ≤ 2 → Deed body pre n o k2 h2 (invs t2 v0) p2 → P) : P := by
  rw [hb, List.append_assoc] at he
  have he := List.append_cancel_left he
  cases post with
  | nil => exact k0 (List.cons.inj he).1.symm ht
  | cons w r =>
    have e := (List.cons.inj he).1
    rw [e] at hb ht
    have hb : body = (pre ++ [n]) ++ r := by rw [hb, List.append_assoc]; rfl
    rcases ht with ⟨q, ht⟩ | ⟨q, ht⟩ | ⟨o9, q, ht⟩ | ⟨v, h, k, t, p, e, h2, ⟨v', q, h3, h4, h5, ht⟩ | q⟩
    · exact k7 r q hb ht
    · exact k31 r q hb ht
    · exact kop o9 r q hb ht
    · exact kv _ _ _ _ _ e h2 (.inl ⟨v', r, q, h3, h4, h5, hb, ht⟩)
    · exact kv _ _ _ _ _ e h2 (.inr q)
theorem tok_ne (o : Op) : o.tok ≠ 0 ∧ o.tok ≠ 7 ∧ o.tok ≠ 31 ∧ o.tok ≠ 8 ∧ o.tok < 256 := op_all (P := fun o => o.tok ≠ 0 ∧ o.tok ≠ 7 ∧ o.tok ≠ 31 ∧ o.tok ≠ 8 ∧ o.tok < 256) (by decide) o
section
variable {w : World} {mg mb : Str → Option Value} {mean : ExcName → Option Value} {A₀ : Around} {dp un : Nat} {gs : Option (List Code)} {base h₀ : Heap} {outer : List Env} {env : Env} {L : Addr} {m : Str → Option Value} {news : List (Addr × Obj)} {s : Shared} {R : Result → Shared → Prop}
theorem deed_any {body pre : List Int} {n : Int} {ov : Option Int} {p : List (Int × Op × Nat)} {o : Op} {t1 t2 : Tok} {a b : Int}
    (B : Below A₀ base outer h₀) (F : Fr h₀ L s.heap m) (X : (hd.heap_39 w.params).In h₀) (N : News h₀ L s.heap news) (T : Top hd.view_39 (looseW hd.view_39 [Str.ofString "EXACT_TOKEN_TYPES"]) mean mg mb h₀)
    (hf : env.frame = some L) (hke : env.scope.kind = .function) (hdep : dp < 500) (hv : Deed body pre n ov o a b p)
    (h : ∀ h' tk t v r, body = (pre ++ [n]) ++ r → Trace r ⟨p, v, o, 0⟩ ov → Fr h₀ L h' m → News h₀ L h' news → R (.ok (.ret (.int v t))) { s with heap := h', toks := tk })
    (hE : ∀ h' tk e g', ov = none → Fr h₀ L g' m → RaisedSN base g' (env :: outer) e (.type "ZeroDivisionError") news h' → g'.UpToSlots h' → R (.error (.ref e)) { s with heap := h', toks := tk }) :
    codeAny (model PySem.Challenge.rw_pg0154_01.row.prog w) ⟨none, dp, some (env :: outer), gs, un⟩ (.call (.ref o.addr) ⟨[.int a t1, .int b t2], []⟩) R s := by
  refine hv.elim (fun q => q.elim fun v q => q.elim fun r q => deed_ok B F X N T hf hke hdep q.2.1 q.2.2.1 q.2.2.2.1 q.1 fun h' tk t => h h' tk t v r q.2.2.2.2.1 q.2.2.2.2.2) fun q => deed_zero B F X N T hf hke hdep q.1 fun h' tk e g' => hE h' tk e g' q.2
end
theorem pile_in {pl dd a : Addr} {x oD y : Obj} {tl own : List (Addr × Obj)} (hm : (a, y) ∈ tl) {q : Addr × Obj} (hq : q ∈ (pl, x) :: (dd, oD) :: (a, y) :: (tl ++ own)) : q ∈ (pl, x) :: (dd, oD) :: (tl ++ own) := by
  rcases List.mem_cons.mp hq with rfl | hq
  · exact List.Mem.head _
  rcases List.mem_cons.mp hq with rfl | hq
  · exact List.Mem.tail _ (List.Mem.head _)
  rcases List.mem_cons.mp hq with rfl | hq
  · exact List.Mem.tail _ (List.Mem.tail _ (List.mem_append_left _ hm))
  · exact List.Mem.tail _ (List.Mem.tail _ hq)
theorem pile_out {pl dd a : Addr} {x oD y : Obj} {l : List (Addr × Obj)} {q : Addr × Obj} (hq : q ∈ (pl, x) :: (dd, oD) :: l) : q ∈ (pl, x) :: (dd, oD) :: (a, y) :: l := by
  rcases List.mem_cons.mp hq with rfl | hq
  · exact List.Mem.head _
  rcases List.mem_cons.mp hq with rfl | hq
  · exact List.Mem.tail _ (List.Mem.head _)
  · exact List.Mem.tail _ (List.Mem.tail _ (List.Mem.tail _ hq))
structure MarkB : Prop where
structure MarkC : Prop where
structure MarkD : Prop where
noncomputable abbrev mapOf {h₀ h : Heap} {L : Addr} {m : Str → Option Value} (_ : Fr h₀ L h m) : Str → Option Value := m
noncomputable abbrev newsOf {h₀ h : Heap} {L : Addr} {l : List (Addr × Obj)} (_ : News h₀ L h l) : List (Addr × Obj) := l
theorem neF {n a : Int} (h : n ≠ a) : ¬ (decide (n = a) = true) ∧ ¬ (@BEq.beq Int instBEqOfDecidableEq n a = true) ∧ ¬ ((n == a) = true) := by
  have e : (n == a) = false := by simpa using h
  exact ⟨by simpa using h, by rw [e]; decide, by rw [e]; decide⟩
theorem eqF {n a : Int} (h : n = a) : decide (n = a) = true ∧ @BEq.beq Int instBEqOfDecidableEq n a = true ∧ (n == a) = true := by
  subst h
  exact ⟨decide_eq_true rfl, beq_self_eq_true n, beq_self_eq_true n⟩
theorem neF_k {P : Prop} {n a : Int} (h : n ≠ a) (k : ¬ (decide (n = a) = true) → ¬ (@BEq.beq Int instBEqOfDecidableEq n a = true) → ¬ ((n == a) = true) → P) : P := k (neF h).1 (neF h).2.1 (neF h).2.2
theorem eqF_k {P : Prop} {n a : Int} (h : n = a) (k : decide (n = a) = true → @BEq.beq Int instBEqOfDecidableEq n a = true → (n == a) = true → P) : P := k (eqF h).1 (eqF h).2.1 (eqF h).2.2
theorem and_k {a b P : Prop} (h : a ∧ b) (k : a → b → P) : P := k h.1 h.2
theorem fr_eq {g h : Heap} {L : Addr} {m m' : Str → Option Value} (F : Fr g L h m) (e : ∀ y, m' y = m y) : Fr g L h m' := by
  rw [show m' = m from funext e]
  exact F
theorem Ends.ways {P : Prop} {n : Int} {p p2 : List (Int × Op × Nat)} {hd v h : Int} {k0 k : Op} {t0 t : Nat} (e : Ends n ⟨p, hd, k0, t0⟩ v h k t p2)
    (k1 : n ≥ 256 → n - 256 = v → h = hd → k = k0 → t = t0 → p2 = p → P) (k2 : n = 8 → v = hd → p = (h, k, t) :: p2 → P) : P :=
  e.elim (fun q => k1 q.1 q.2.1 q.2.2.1 q.2.2.2.1 q.2.2.2.2.1 q.2.2.2.2.2) fun q => k2 q.1 q.2.1 q.2.2
/-- the names behind the choice between a number and a bracket -/
noncomputable abbrev MapV (v h : Int) (k : Op) (t : Nat) (dd : Addr) (mb : Str → Option Value) (a b c d : Tok) : Str → Option Value := fun y =>
  if y = Str.ofString "value" then some (.int v a) else if y = Str.ofString "held" then some (.int h b) else if y = Str.ofString "kind" then some (.int k.tok c) else if y = Str.ofString "turned" then some (.int (t : Int) d) else
  if y = Str.ofString "deeds" then some (.ref dd) else mb y
structure MidV (g : Heap) (L pl dd : Addr) (oD : Obj) (tl own : List (Addr × Obj)) (v h : Int) (k : Op) (t : Nat) (mb : Str → Option Value) (p : List (Int × Op × Nat)) (q : Nat) (s0 : Shared) (fl : Flow) (s' : Shared) : Prop where
  fl : fl = .next
  ex : ∃ hh tk a b c d vs cn, s' = { s0 with heap := hh, toks := tk } ∧ Fr g L hh (MapV v h k t dd mb a b c d) ∧ News g L hh ((pl, listOf (List.toArray vs) cn) :: (dd, oD) :: (tl ++ own)) ∧ PileIn tl vs p ∧ vs.length ≤ q
structure MidW (g : Heap) (L : Addr) (nx : List (Addr × Obj)) (v h : Int) (k : Op) (t : Nat) (dd : Addr) (mb : Str → Option Value) (s0 : Shared) (fl : Flow) (s' : Shared) : Prop where
  fl : fl = .next
  ex : ∃ hh tk a b c d mu, s' = { s0 with heap := hh, toks := tk } ∧ Fr g L hh (MapV v h k t dd mu a b c d) ∧ News g L hh nx ∧ ∀ y, y ≠ Str.ofString "turn" → mu y = mb y
theorem MidV.elim {P : Flow → Shared → Prop} {g : Heap} {L pl dd : Addr} {oD : Obj} {tl own : List (Addr × Obj)} {v h : Int} {k : Op} {t : Nat} {mb : Str → Option Value} {p : List (Int × Op × Nat)} {q : Nat} {s0 s' : Shared} {fl : Flow} (H : MidV g L pl dd oD tl own v h k t mb p q s0 fl s')
    (go : ∀ hh tk a b c d vs cn, Fr g L hh (MapV v h k t dd mb a b c d) → News g L hh ((pl, listOf (List.toArray vs) cn) :: (dd, oD) :: (tl ++ own)) → PileIn tl vs p → vs.length ≤ q → P .next { s0 with heap := hh, toks := tk }) : P fl s' := by
  obtain ⟨rfl, hh, tk, a, b, c, d, vs, cn, rfl, F, N, hP, hl⟩ := H
  exact go hh tk a b c d vs cn F N hP hl
theorem MidW.elim {P : Flow → Shared → Prop} {g : Heap} {L : Addr} {nx : List (Addr × Obj)} {v h : Int} {k : Op} {t : Nat} {dd : Addr} {mb : Str → Option Value} {s0 s' : Shared} {fl : Flow} (H : MidW g L nx v h k t dd mb s0 fl s')
    (go : ∀ hh tk a b c d mu, Fr g L hh (MapV v h k t dd mu a b c d) → News g L hh nx → (∀ y, y ≠ Str.ofString "turn" → mu y = mb y) → P .next { s0 with heap := hh, toks := tk }) : P fl s' := by
  obtain ⟨rfl, hh, tk, a, b, c, d, mu, rfl, F, N, hm⟩ := H
  exact go hh tk a b c d mu F N hm
/-- a truth that leaves the frame and the ledger as they stood -/
structure MidB (b0 : Bool) (g : Heap) (L : Addr) (mm : Str → Option Value) (nx : List (Addr × Obj)) (s0 : Shared) (b : Bool) (s' : Shared) : Prop where
  b : b = b0
  ex : ∃ hh tk, s' = { s0 with heap := hh, toks := tk } ∧ Fr g L hh mm ∧ News g L hh nx
theorem MidB.elim {P : Bool → Shared → Prop} {b0 : Bool} {g : Heap} {L : Addr} {mm : Str → Option Value} {nx : List (Addr × Obj)} {s0 : Shared} {b : Bool} {s' : Shared} (H : MidB b0 g L mm nx s0 b s')
    (go : ∀ hh tk, Fr g L hh mm → News g L hh nx → P b0 { s0 with heap := hh, toks := tk }) : P b s' := by
  obtain ⟨rfl, hh, tk, rfl, F, N⟩ := H
  exact go hh tk F N
theorem MidB.intro {b0 : Bool} {g : Heap} {L : Addr} {mm : Str → Option Value} {nx : List (Addr × Obj)} {s0 : Shared} {s' : Shared} {hh : Heap} {tk : Nat} (F : Fr g L hh mm) (N : News g L hh nx) (hs : s' = { s0 with heap := hh, toks := tk }) : MidB b0 g L mm nx s0 b0 s' := ⟨rfl, hh, tk, hs, F, N⟩
/-- a turn's frame laid anew: its few names over an opaque base -/
theorem turn_lay {P : Prop} {g h : Heap} {L : Addr} {M m0 : Str → Option Value} {a b c d e f : Value} (F : Fr g L h M) (h1 : M (Str.ofString "word") = some a) (h2 : M (Str.ofString "held") = some b) (h3 : M (Str.ofString "kind") = some c) (h4 : M (Str.ofString "turned") = some d)
    (h5 : M (Str.ofString "deeds") = some e) (h6 : M (Str.ofString "pile") = some f)
    (hr : ∀ z, z ≠ Str.ofString "word" → z ≠ Str.ofString "held" → z ≠ Str.ofString "kind" → z ≠ Str.ofString "turned" → z ≠ Str.ofString "value" → z ≠ Str.ofString "turn" → M z = m0 z)
    (go : ∀ mb : Str → Option Value, Fr g L h (fun y => if y = Str.ofString "held" then some b else if y = Str.ofString "kind" then some c else if y = Str.ofString "turned" then some d else if y = Str.ofString "word" then some a else
        if y = Str.ofString "deeds" then some e else if y = Str.ofString "pile" then some f else mb y) → mb (Str.ofString "word") = some a → mb (Str.ofString "deeds") = some e → mb (Str.ofString "pile") = some f →
      (∀ z, z ≠ Str.ofString "word" → z ≠ Str.ofString "held" → z ≠ Str.ofString "kind" → z ≠ Str.ofString "turned" → z ≠ Str.ofString "value" → z ≠ Str.ofString "turn" → mb z = m0 z) → P) : P := by
  refine go M (fr_eq F fun y => ?_) h1 h5 h6 hr
  split
  · next e => rw [e, h2]
  split
  · next e => rw [e, h3]
  split
  · next e => rw [e, h4]
  split
  · next e => rw [e, h1]
  split
  · next e => rw [e, h5]
  split
  · next e => rw [e, h6]
  rfl
theorem MidV.intro {g hh : Heap} {L pl dd : Addr} {oD : Obj} {tl own : List (Addr × Obj)} {v h : Int} {k : Op} {t : Nat} {mm mb : Str → Option Value} {p : List (Int × Op × Nat)} {q cn tk : Nat} {s0 s' : Shared} {vs : List Value} {a b c d : Tok}
    (F : Fr g L hh mm) (N : News g L hh ((pl, listOf (List.toArray vs) cn) :: (dd, oD) :: (tl ++ own))) (h1 : mm (Str.ofString "value") = some (.int v a)) (h2 : mm (Str.ofString "held") = some (.int h b)) (h3 : mm (Str.ofString "kind") = some (.int k.tok c)) (h4 : mm (Str.ofString "turned") = some (.int (t : Int) d))
    (h5 : mm (Str.ofString "deeds") = some (.ref dd)) (h6 : ∀ y, y ≠ Str.ofString "value" → y ≠ Str.ofString "held" → y ≠ Str.ofString "kind" → y ≠ Str.ofString "turned" → y ≠ Str.ofString "deeds" → mm y = mb y)
    (hP : PileIn tl vs p) (hl : vs.length ≤ q) (hs : s' = { s0 with heap := hh, toks := tk }) : MidV g L pl dd oD tl own v h k t mb p q s0 .next s' := by
  refine ⟨rfl, hh, tk, a, b, c, d, vs, cn, hs, fr_eq F fun y => ?_, N, hP, hl⟩
  unfold MapV
  split
  · next e => rw [e, h1]
  split
  · next e => rw [e, h2]
  split
  · next e => rw [e, h3]
  split
  · next e => rw [e, h4]
  split
  · next e => rw [e, h5]
  next q1 q2 q3 q4 q5 => exact (h6 y q1 q2 q3 q4 q5).symm
theorem MidW.intro {g hh : Heap} {L dd : Addr} {nx nx' : List (Addr × Obj)} {v h : Int} {k : Op} {t : Nat} {mm mb : Str → Option Value} {tk : Nat} {s0 s' : Shared} {a b c d : Tok}
    (F : Fr g L hh mm) (N : News g L hh nx') (hn : ∀ p ∈ nx, p ∈ nx') (h1 : mm (Str.ofString "value") = some (.int v a)) (h2 : mm (Str.ofString "held") = some (.int h b)) (h3 : mm (Str.ofString "kind") = some (.int k.tok c)) (h4 : mm (Str.ofString "turned") = some (.int (t : Int) d))
    (h5 : mm (Str.ofString "deeds") = some (.ref dd)) (h6 : ∀ y, y ≠ Str.ofString "value" → y ≠ Str.ofString "held" → y ≠ Str.ofString "kind" → y ≠ Str.ofString "turned" → y ≠ Str.ofString "deeds" → y ≠ Str.ofString "turn" → mm y = mb y)
    (hs : s' = { s0 with heap := hh, toks := tk }) : MidW g L nx v h k t dd mb s0 .next s' := by
  refine ⟨rfl, hh, tk, a, b, c, d, fun y => if y = Str.ofString "turn" then mm y else mb y, hs, fr_eq F fun y => ?_, fun p hp => N p (hn p hp), fun y hy => if_neg hy⟩
  unfold MapV
  split
  · next e => rw [e, h1]
  split
  · next e => rw [e, h2]
  split
  · next e => rw [e, h3]
  split
  · next e => rw [e, h4]
  split
  · next e => rw [e, h5]
  dsimp only
  split
  · rfl
  next q1 q2 q3 q4 q5 q6 => exact (h6 y q1 q2 q3 q4 q5 q6).symm
end Mine

end
section
/- part WReck -/
theorem Mine.offWReck : True := by
  w_top off
  k_with_none
  trivial
open PySem PySem.W PyProof.Rows
set_option linter.unusedSimpArgs false
namespace Mine
set_option maxRecDepth 100000
set_option maxHeartbeats 8000000
theorem wordsWReck1 : True := by
  k_with_none
  k_with "ROOM" => (first | exact room_of (k := 0) (by assumption) (by decide) | exact room_of (k := 1) (by assumption) (by decide) | exact room_of (k := 2) (by assumption) (by decide) | exact room_of (k := 3) (by assumption) (by decide))
  k_with "SIZE" => (first | assumption | (simp only [Str.length_append, PySem.sizeLine_eq]; omega))
  k_with "MUL" => (first | exact Sm.mulOk (by assumption) (by assumption) | exact mulPow_ok (by assumption) (by assumption))
  k_with "OM" => (first | with_reducible assumption | decide | (with_reducible exact om_d1 (by assumption)) | (with_reducible exact om_d2 (by assumption)) | (with_reducible exact om_d3 (by assumption)) | (with_reducible exact om_d4 (by assumption)) | (with_reducible exact om_l1 (by assumption)) | (with_reducible exact om_l2 (by assumption)) | (with_reducible exact om_l3 (by assumption)) | (with_reducible exact om_l4 (by assumption)) | (with_reducible exact om_n1) | (with_reducible exact om_n2) | (with_reducible exact om_n3) | (with_reducible exact om_n4) | (with_reducible exact om_c1 (by assumption)) | (with_reducible exact om_c2 (by assumption) (by assumption)) | (with_reducible exact om_p1 (by assumption)) | (with_reducible exact om_p2 (by assumption)) | (with_reducible exact om_p3 (by assumption)) | (with_reducible exact om_p4 (by assumption)) | (with_reducible exact om_p5 (by assumption)) | (with_reducible exact om_a1 (by assumption)) | (with_reducible exact om_a2 (by assumption)) | (with_reducible exact om_w1 (by assumption) (by assumption)) | (with_reducible exact om_w2 (by assumption) (by assumption)) | (with_reducible exact om_w3 (by assumption)) | (with_reducible exact om_w4) | (with_reducible exact om_s1 (by assumption)) | (with_reducible exact om_s2 (by assumption) (by assumption)) | (with_reducible exact om_s3 (by assumption) (by assumption)) | (with_reducible exact om_s4 (by assumption)) | (with_reducible exact om_s5 (by assumption)))
  k_with "NE" => (refine neN ?_; (try dsimp only); (first | exact Nat.ne_of_gt (by assumption) | exact Nat.ne_of_lt (by assumption) | exact Nat.ne_of_gt (And.left (by assumption)) | exact Nat.ne_of_gt (And.left (And.right (by assumption))) | exact Nat.ne_of_gt (And.left (And.right (And.right (by assumption)))) | exact Nat.ne_of_gt (And.left (And.right (And.right (And.right (by assumption))))) | exact Nat.ne_of_gt (And.left (And.right (And.right (And.right (And.right (by assumption)))))) | exact Nat.ne_of_gt (And.left (And.right (And.right (And.right (And.right (And.right (by assumption))))))) | exact Nat.ne_of_gt (And.left (And.right (And.right (And.right (And.right (And.right (And.right (by assumption)))))))) | exact Nat.ne_of_gt (And.left (And.right (And.right (And.right (And.right (And.right (And.right (And.right (by assumption))))))))) | exact Nat.ne_of_gt (And.left (And.right (And.right (And.right (And.right (And.right (And.right (And.right (And.right (by assumption)))))))))) | exact Nat.ne_of_gt (And.left (And.right (And.right (And.right (And.right (And.right (And.right (And.right (And.right (And.right (by assumption))))))))))) | exact Nat.ne_of_gt (And.left (And.right (And.right (And.right (And.right (And.right (And.right (And.right (And.right (And.right (And.right (by assumption)))))))))))) | exact Nat.ne_of_lt (And.left (by assumption)) | exact Nat.ne_of_lt (And.left (And.right (by assumption))) | exact Nat.ne_of_lt (And.left (And.right (And.right (by assumption)))) | exact Nat.ne_of_lt (And.left (And.right (And.right (And.right (by assumption))))) | exact Nat.ne_of_lt (And.left (And.right (And.right (And.right (And.right (by assumption)))))) | exact Nat.ne_of_lt (And.left (And.right (And.right (And.right (And.right (And.right (by assumption))))))) | exact Nat.ne_of_lt (And.left (And.right (And.right (And.right (And.right (And.right (And.right (by assumption)))))))) | exact Nat.ne_of_lt (And.left (And.right (And.right (And.right (And.right (And.right (And.right (And.right (by assumption))))))))) | exact Nat.ne_of_lt (And.left (And.right (And.right (And.right (And.right (And.right (And.right (And.right (And.right (by assumption)))))))))) | exact Nat.ne_of_lt (And.left (And.right (And.right (And.right (And.right (And.right (And.right (And.right (And.right (And.right (by assumption))))))))))) | exact Nat.ne_of_lt (And.left (And.right (And.right (And.right (And.right (And.right (And.right (And.right (And.right (And.right (And.right (by assumption))))))))))))))
  k_with "InvEndG" => (refine Hold.out ?_)
  k_with "execs cons" => (k_here; (with_reducible show wpAny _ _ _ _ _ (Shared.mk _ _ _ (_ + _) _)); (rename Fr _ _ _ _ => Fq9); refine wp_norm (g := sg) (d := sd) (o := so) Fq9 ?_; intro _ _ _; clear Fq9)
  k_with "execs nil" => (k_here; (with_reducible show wpAny _ _ _ _ _ (Shared.mk _ _ _ (_ + _) _)); (rename Fr _ _ _ _ => Fq9); refine wp_norm (g := sg) (d := sd) (o := so) Fq9 ?_; intro _ _ _; clear Fq9)
  k_with "exec For Name Name cons nil" => (refine Hold.out ?_)
  k_with "pyIter ref" => ((with_reducible show wpAny _ _ (pyIter (Value.ref _)) (fun it s₂ => LoopAtV _ _ _ _ _ (Str.ofString "word") _ _ _ it s₂) _ _); refine Hold.out ?_)
  k_with "subscriptTail" => (k_here; k_dflt (refine' deed_at (ad := Op.addr) ?k1 ?k2 ?k3 ?k4 ?_; (case k1 => k_asm); (case k2 => k_mem); (case k3 => assumption); (case k4 => assumption)))
  k_with "call ref" => (k_here; k_dflt ((refine wpAny_call ?_); (refine' iseof_call ?k1 ?k2 ?k3 ?k4 ?k5 ?kA ?kF ?k6 ?_; (case k1 => k_asm); (case k2 => k_asm); (case k3 => k_asm); (case k4 => k_asm); (case k5 => k_asm); (case kA => exact rfl); (case kF => exact rfl); (case k6 => first | omega | (dsimp only [Around.deeper]; omega))); intro _ _ _ _; (try dsimp only)))
  k_with "call ref" => (k_here; k_dflt ((refine wpAny_call ?_); (refine' isnon_call ?k1 ?k2 ?k3 ?k4 ?k5 ?kA ?kF ?k6 ?_; (case k1 => k_asm); (case k2 => k_asm); (case k3 => k_asm); (case k4 => k_asm); (case k5 => k_asm); (case kA => exact rfl); (case kF => exact rfl); (case k6 => first | omega | (dsimp only [Around.deeper]; omega))); intro _ _ _ _; (try dsimp only)))
  k_with "call ref" => (k_here; k_dflt ((refine wpAny_call ?_); (refine' inv_call ?k1 ?k2 ?k3 ?k4 ?k5 ?kA ?kF ?k6 ?_; (case k1 => k_asm); (case k2 => k_asm); (case k3 => k_asm); (case k4 => k_asm); (case k5 => k_asm); (case kA => exact rfl); (case kF => exact rfl); (case k6 => first | omega | (dsimp only [Around.deeper]; omega))); intro _ _ _ _ _; (try dsimp only)))
  k_with "call ref" => (k_here; k_dflt ((refine wpAny_call ?_); (refine' sub_call ?k1 ?k2 ?k3 ?k4 ?k5 ?kA ?kF ?k6 ?_; (case k1 => k_asm); (case k2 => k_asm); (case k3 => k_asm); (case k4 => k_asm); (case k5 => k_asm); (case kA => exact rfl); (case kF => exact rfl); (case k6 => first | omega | (dsimp only [Around.deeper]; omega))); intro _ _ _ _ _; (try dsimp only)))
  k_with "call ref" => (k_here; k_dflt ((refine wpAny_call ?_); (refine' deed_any ?k1 ?k2 ?k3 ?k4 ?k5 ?kA ?kF ?k6 ?k7 ?kO ?kE; (case k1 => k_asm); (case k2 => k_asm); (case k3 => k_asm); (case k4 => k_asm); (case k5 => k_asm); (case kA => exact rfl); (case kF => exact rfl); (case k6 => first | omega | (dsimp only [Around.deeper]; omega)); (case k7 => assumption)); (case' kO => (intro _ _ _ _ _ _ _ _ _; (try dsimp only))); (case' kE => (intro _ _ _ _ _ _ _ _; (try dsimp only)))))
  k_with "UnrEnd" => (k_dflt (refine' unr_end ?u1 ?u2 ?u3 ?_; (case u1 => k_asm); (case u2 => k_asm); (case u3 => k_all)))
  k_with "callWith ref" => (k_here; (with_reducible show wpAny _ _ (callWith _ (Value.ref (Op.addr _)) _ _ _) _ _ _); k_dflt (refine' callWith_deed ?k1 ?k2 ?_; (case k1 => k_asm); (case k2 => assumption)))
  k_with "call builtin:list.pop" => (k_here; k_dflt (refine' pop_snoc ?k1 ?k2 ?k4 ?k5 ?_; (case k1 => k_asm); (case k2 => k_asm); (case k4 => k_upd); (case k5 => assumption)); intro _ _ _)
  k_with "ite" => (k_here; k_dflt (first | (refine ite_pos (by assumption) ?_) | (refine ite_neg (by assumption) ?_) | (refine ite_isFalse (by assumption) ?_)))
  k_with "leaving ref" => (refine Hold.out ?_)
  k_with "isTrue BoolOp" => ((rename MarkB => mkB); refine Hold.out ?_)
  k_with "exec If" => ((rename MarkC => mkC); refine Hold.out ?_)
  k_with "exec For Name Call cons nil" => ((rename MarkD => mkD); refine Hold.out ?_)
  k_with "execs cons" => (k_here; k_fold)
  trivial
section
variable {w : World} {mg mb : Str → Option Value} {mean : ExcName → Option Value} {A₀ : Around} {dp un : Nat} {gs : Option (List Code)} {base h₀ : Heap} {outer : List Env} {env : Env} {L : Addr} {m : Str → Option Value} {news : List (Addr × Obj)} {s : Shared} {R : Result → Shared → Prop}

theorem reckoned_call {body : List Int} {o : Option Int} {D : Addr} {ws : List Value} {n : Nat}
    (B : Below A₀ base outer h₀) (F : Fr h₀ L s.heap m) (X : (hd.heap_39 w.params).In h₀) (N : News h₀ L s.heap news) (T : Top hd.view_39 (looseW hd.view_39 [Str.ofString "EXACT_TOKEN_TYPES"]) mean mg mb h₀)
    (hf : env.frame = some L) (hke : env.scope.kind = .function) (hdep : dp < 400) (hD : (D, listOf ws.toArray n) ∈ news) (hws : IntsAre ws (body ++ [0])) (hl2 : body.length ≤ 70000) (htr : Trace body MS.init o)
    (h : ∀ h' tk v t, o = some v → Fr h₀ L h' m → News h₀ L h' news → R (.ok (.ret (.int v t))) { s with heap := h', toks := tk })
    (hE : ∀ h' tk e g' news', o = none → Fr h₀ L g' m → RaisedSN base g' (env :: outer) e (.type "ZeroDivisionError") news' h' → g'.UpToSlots h' → R (.error (.ref e)) { s with heap := h', toks := tk }) :
    codeAny (model PySem.Challenge.rw_pg0154_01.row.prog w) ⟨none, dp, some (env :: outer), gs, un⟩ (.call (.ref 143) ⟨[.ref D], []⟩) R s := by
  have hdep5 : dp < 500 := by omega
  revert X
  k_fill
  intro X
  refine' code_defF (binds := [(Str.ofString "row", .ref D)]) [] (fun _ hq => nomatch hq) B F X N T rfl hf hke ?k6 ?k7 ?k8 ?k9 ?kB ?_ ?c2 ?c3 ?c4 ?c5
  case k6 => k_is
  case k7 => k_is
  case k8 => k_room
  case k9 => exact BindsTo.of_eq rfl
  case c5 => decide
  case kB => exact locs rfl
  case c2 => exact rfl
  case c3 => exact rfl
  case c4 => exact rfl
  intro g' L' h' tk0 hfz FG' F' N' B' X' T' env' A' sg sd so qk ek
  have hDl : g'.IsList D ws.toArray := list_at (hfz _ hD (fun _ hq => nomatch hq))
  (try with_reducible show wpAny _ _ _ _ _ _)
  k_steps
  refine ⟨?_⟩
  refine For_invV g' rfl rfl ?_
  k_steps
  refine ⟨?_⟩
  rename Fr _ _ _ _ => F1
  rename News _ _ _ _ => N1
  rename_i hA1 oD lo1 hd1 l1a hA2 mA tkA pl hA3 l1b Dt hA4 l1c hA5 hA6 hA7 hA8 hA9 mB tkB
  refine Exists.elim (show ∃ kvs, Obj.IsDictOf (intKind Challenge.rw_pg0154_01.row.prog w) oD kvs ∧ ∀ o : Op, valueAt kvs o.tok = some (.ref o.addr) from ⟨_, hd1, fun o => by cases o <;> rfl⟩) ?_
  clear hd1 lo1
  intro kvs hOv
  have hO := hOv.1
  have hv := hOv.2
  clear hOv
  generalize hdd : h'.objs.size = dd at *
  have hkeep : ∀ o : Op, keepIn (Mine.hd.heap_39 w.params) (.ref o.addr) = true := fun o => by cases o <;> (dsimp only [Op.addr]; k_is)
  have kdm := kdMark
  refine' for_ints (σ := RS) (fun c => (pl, listOf c.vs.toArray c.cn) :: (dd, oD) :: c.tl) (fun c => [(Str.ofString "held", .int c.ms.held c.t1), (Str.ofString "kind", .int c.ms.kind.tok c.t2), (Str.ofString "turned", .int (c.ms.turned : Int) c.t3)]) [Str.ofString "value", Str.ofString "turn"] (fun pre c => (∃ post, body = pre ++ post ∧ Trace post c.ms o) ∧ PileIn c.tl c.vs c.ms.pile ∧ OwnOff c.tl [pl, dd] ∧ c.vs.length ≤ pre.length) ⟨[], 0, [], MS.init, tkA, tkA + 1, tkA + 1 + 1⟩ rfl hDl hws F1 (news_sub N1 ?kn) ?kk ?kp ?kt ?kd
  case kn => exact List.forall_mem_cons.mpr ⟨by k_mem, List.forall_mem_cons.mpr ⟨by k_mem, List.forall_mem_nil _⟩⟩
  case kk => kst_all
  case kp => exact ⟨⟨body, rfl, htr⟩, .nil, fun _ hq => (nomatch hq), Nat.le_refl _⟩
  case kt =>
    rintro ⟨vs, cn, tl, ⟨pp, hd, k, tt⟩, t1, t2, t3⟩ pre post n t u h9 tk9 own he hp0 hoff F2 N2
    dsimp only [kstB] at F2 N2 hp0 hoff ⊢
    refine and_k hp0 ?_
    clear hp0
    intro hp1 hp2
    refine Exists.elim hp1 ?_
    clear hp1
    intro bp hp3
    have hb := hp3.1
    have htr := hp3.2
    have hP := hp2.1
    have htl := hp2.2.1
    have hlen := hp2.2.2
    clear hp2 hp3
    simp only [List.cons_append, List.nil_append, List.map_cons, List.map_nil] at N2 hoff
    replace F2 : Fr g' L' h9 _ := F2
    replace N2 : News g' L' h9 _ := N2
    have hoff' : OwnOff own [pl, dd] := fun p hp b hb => hoff p hp b (by rcases List.mem_cons.mp hb with rfl | hb; exact .head _; rw [List.mem_singleton.mp hb]; exact .tail _ (.head _))
    have hsz : vs.toArray.size ≤ sizeLine := by
      have h1 := congrArg List.length he
      simp only [List.length_append, List.length_cons, List.length_nil] at h1
      rw [List.size_toArray, sizeLine_eq]; omega
    refine turn_lay (m0 := mapOf F1) (e := .ref dd) F2 rfl rfl rfl rfl (by show some (Value.ref h'.objs.size) = _; rw [hdd]) rfl (fun z q1 q2 q3 q4 q5 q6 => ?hlay) ?_
    case hlay =>
      refine ite_ne q1 (ite_ne q2 (ite_ne q3 (ite_ne q4 ?_)))
      have e : [Str.ofString "value", Str.ofString "turn"].contains z = false := by simp [q5, q6]
      exact ite_bf e rfl
    clear F2
    intro mb F2 hm1 hm5 hm6 hmr
    (try with_reducible show wpAny _ _ _ _ _ _)
    k_fold
    refine trace_ways he hb htr ?_ ?_ ?_ ?_ ?_ <;> clear htr
    all_goals (try with_reducible show wpAny _ _ _ _ _ _)
    · intro hn ho
      refine eqF_k hn ?_
      intro _ _ _
      k_steps
      rename Fr g' _ _ _ => F9
      rename Fr h₀ _ _ _ => F8
      exact h _ _ _ _ ho F8 (frozen_news0 (news' := []) N hfz F9 (fun _ hq => nomatch hq))
    · intro r hn hb' htr'
      refine neF_k (show n ≠ 0 by omega) ?_
      intro _ _ _
      refine eqF_k hn ?_
      intro _ _ _
      k_steps
      refine ⟨?_⟩
      rename Fr g' L' _ _ => F9
      rename News g' L' _ _ => N9
      simp only [List.push_toArray] at N9
      refine' for_end (⟨vs ++ [.ref _], cn + 1, (_, tup3 hd k tt t1 t2 t3 0) :: tl, ⟨(hd, k, tt) :: pp, 0, .add, 0⟩, _, _, _⟩ : RS) F9 N9 ?hn (fun p hp => by (repeat (first | exact List.mem_append_right _ hp | refine List.Mem.tail _ ?_))) ?ho ?hk ?hr ?hp
      case hn => exact List.forall_mem_cons.mpr ⟨by k_mem, List.forall_mem_cons.mpr ⟨by k_mem, List.forall_mem_cons.mpr ⟨by k_mem, fun p hp => by (repeat (first | exact List.mem_append_left _ hp | refine List.Mem.tail _ ?_))⟩⟩⟩
      case ho => exact own_add hoff (by k_all)
      case hk => kst_all
      case hr =>
        intro z hz1 hz2 hz3
        refine Eq.trans ?_ (hmr z hz1 (hz2 _ (.head _)) (hz2 _ (.tail _ (.head _))) (hz2 _ (.tail _ (.tail _ (.head _)))) (ne_first hz3) (ne_first (ne_rest hz3)))
        (repeat (first | with_reducible rfl | refine ite_ne hz1 ?_ | refine ite_ne (hz2 _ (.head _)) ?_ | refine ite_ne (hz2 _ (.tail _ (.head _))) ?_ | refine ite_ne (hz2 _ (.tail _ (.tail _ (.head _)))) ?_ | refine ite_ne (ne_first hz3) ?_ | refine ite_ne (ne_first (ne_rest hz3)) ?_ | refine ite_split (fun e => by subst e; exact hm5.symm) ?_ | refine ite_split (fun e => by subst e; exact hm6.symm) ?_))
      case hp => exact ⟨⟨r, hb', htr'⟩, .snoc (hP.mono fun q hq => .tail _ hq) (.head _), off_add htl (by k_ne) (by k_ne), by simp only [List.length_append, List.length_cons, List.length_nil]; omega⟩
    · intro r hn hb' htr'
      refine neF_k (show n ≠ 0 by omega) ?_
      intro _ _ _
      refine neF_k (show n ≠ 7 by omega) ?_
      intro _ _ _
      refine eqF_k hn ?_
      intro _ _ _
      k_steps
      refine ⟨?_⟩
      rename Fr g' L' _ _ => F9
      rename News g' L' _ _ => N9
      refine' for_end (⟨vs, cn, tl, ⟨pp, hd, k, tt + 1⟩, _, _, _⟩ : RS) F9 N9 ?hn (fun p hp => by (repeat (first | exact List.mem_append_right _ hp | refine List.Mem.tail _ ?_))) ?ho ?hk ?hr ?hp
      case hn => exact List.forall_mem_cons.mpr ⟨by k_mem, List.forall_mem_cons.mpr ⟨by k_mem, fun p hp => by (repeat (first | exact List.mem_append_left _ hp | refine List.Mem.tail _ ?_))⟩⟩
      case ho => exact hoff
      case hk => kst_all
      case hr =>
        intro z hz1 hz2 hz3
        refine Eq.trans ?_ (hmr z hz1 (hz2 _ (.head _)) (hz2 _ (.tail _ (.head _))) (hz2 _ (.tail _ (.tail _ (.head _)))) (ne_first hz3) (ne_first (ne_rest hz3)))
        (repeat (first | with_reducible rfl | refine ite_ne hz1 ?_ | refine ite_ne (hz2 _ (.head _)) ?_ | refine ite_ne (hz2 _ (.tail _ (.head _))) ?_ | refine ite_ne (hz2 _ (.tail _ (.tail _ (.head _)))) ?_ | refine ite_ne (ne_first hz3) ?_ | refine ite_ne (ne_first (ne_rest hz3)) ?_ | refine ite_split (fun e => by subst e; exact hm5.symm) ?_ | refine ite_split (fun e => by subst e; exact hm6.symm) ?_))
      case hp => exact ⟨⟨r, hb', htr'⟩, hP, htl, by simp only [List.length_append, List.length_cons, List.length_nil]; omega⟩
    · intro o9 r hn hb' htr'
      have pq := tok_ne o9
      rw [← hn] at pq
      have p256 := pq.2.2.2.2
      refine neF_k pq.1 ?_
      intro _ _ _
      refine neF_k pq.2.1 ?_
      intro _ _ _
      refine neF_k pq.2.2.1 ?_
      intro _ _ _
      refine neF_k pq.2.2.2.1 ?_
      intro _ _ _
      clear pq
      have q256 : ¬ (decide (n ≥ 256) = true) := by simpa using p256
      k_steps
      refine ⟨?_⟩
      rename Fr g' L' _ _ => F9
      rename News g' L' _ _ => N9
      refine' for_end (⟨vs, cn, tl, ⟨pp, hd, o9, tt⟩, _, _, _⟩ : RS) F9 N9 ?hn (fun p hp => by (repeat (first | exact List.mem_append_right _ hp | refine List.Mem.tail _ ?_))) ?ho ?hk ?hr ?hp
      case hn => exact List.forall_mem_cons.mpr ⟨by k_mem, List.forall_mem_cons.mpr ⟨by k_mem, fun p hp => by (repeat (first | exact List.mem_append_left _ hp | refine List.Mem.tail _ ?_))⟩⟩
      case ho => exact hoff
      case hk =>
        refine List.forall_mem_cons.mpr ⟨by with_unfolding_all rfl, List.forall_mem_cons.mpr ⟨?_, List.forall_mem_cons.mpr ⟨by with_unfolding_all rfl, List.forall_mem_nil _⟩⟩⟩
        dsimp only
        rw [← hn]
        with_unfolding_all rfl
      case hr =>
        intro z hz1 hz2 hz3
        refine Eq.trans ?_ (hmr z hz1 (hz2 _ (.head _)) (hz2 _ (.tail _ (.head _))) (hz2 _ (.tail _ (.tail _ (.head _)))) (ne_first hz3) (ne_first (ne_rest hz3)))
        (repeat (first | with_reducible rfl | refine ite_ne hz1 ?_ | refine ite_ne (hz2 _ (.head _)) ?_ | refine ite_ne (hz2 _ (.tail _ (.head _))) ?_ | refine ite_ne (hz2 _ (.tail _ (.tail _ (.head _)))) ?_ | refine ite_ne (ne_first hz3) ?_ | refine ite_ne (ne_first (ne_rest hz3)) ?_ | refine ite_split (fun e => by subst e; exact hm5.symm) ?_ | refine ite_split (fun e => by subst e; exact hm6.symm) ?_))
      case hp => exact ⟨⟨r, hb', htr'⟩, hP, htl, by simp only [List.length_append, List.length_cons, List.length_nil]; omega⟩
    · intro v0 h2 k2 t2' p2 hends htt hdeed
      have hw := hends.word
      have p0 : n ≠ 0 := by omega
      have p7 : n ≠ 7 := by omega
      have p31 : n ≠ 31 := by omega
      refine neF_k p0 ?_
      intro _ _ _
      refine neF_k p7 ?_
      intro _ _ _
      refine neF_k p31 ?_
      intro _ _ _
      have mkB : MarkB := ⟨⟩
      replace hw := Hold.mk hw
      k_steps
      refine ⟨?_⟩
      clear mkB
      (try with_reducible show wpAny _ _ _ _ _ _)
      try k_fold
      rename Fr g' L' _ _ => F4
      rename News g' L' _ _ => N4
      refine wpAny_mono (Q := MidB true g' L' (mapOf F4) (newsOf N4) s) ?ca ?cb (fun _ _ x => x)
      case ca =>
        dsimp only [mapOf, newsOf]
        clear hends
        k_fold
        refine hw.out.elim ?_ ?_
        · intro hw
          refine eqF_k hw ?_
          intro _ _ _
          k_steps
          exact MidB.intro (by assumption) (by assumption) rfl
        · intro hw
          have p8 : n ≠ 8 := by omega
          refine neF_k p8 ?_
          intro _ _ _
          have q256 : decide (n ≥ 256) = true := decide_eq_true hw
          k_steps
          exact MidB.intro (by assumption) (by assumption) rfl
      case cb =>
        dsimp only [mapOf, newsOf]
        intro b s1 hM
        refine MidB.elim hM ?_
        clear hM
        intro hh4 tk4 F5 N5
        try k_unfold
        clear F4 N4
        have mkC : MarkC := ⟨⟩
        (try with_reducible show wpAny _ _ _ _ _ _)
        k_steps
        refine ⟨?_⟩
        clear mkC
        (try with_reducible show wpAny _ _ _ _ _ _)
        try k_fold
        rename Fr g' L' _ _ => F6
        rename News g' L' _ _ => N6
        refine wpAny_mono (Q := MidV g' L' pl dd oD tl own v0 h2 k2 t2' mb p2 pre.length s) ?cc ?cd (fun _ _ x => x)
        case cc =>
          k_fold
          refine hends.ways ?_ ?_
          · intro hn9 hv9 e1 e2 e3 e4
            have p8 : n ≠ 8 := by omega
            refine neF_k p8 ?_
            intro _ _ _
            k_steps
            rename Fr g' L' _ _ => F7
            rename News g' L' _ _ => N7
            rw [← hv9]
            rw [← e4] at hP
            exact MidV.intro F7 N7 rfl (by rw [e1]; rfl) (by rw [e2]; rfl) (by rw [e3]; rfl) rfl (fun y q1 q2 q3 q4 q5 =>
              by (repeat (first | with_reducible rfl | refine ite_ne q1 ?_ | refine ite_ne q2 ?_ | refine ite_ne q3 ?_ | refine ite_ne q4 ?_ | refine ite_ne q5 ?_ | refine ite_split (fun e => by subst e; exact hm1.symm) ?_ | refine ite_split (fun e => by subst e; exact hm6.symm) ?_))) hP hlen rfl
          · intro hn9 hv9 hp9
            refine eqF_k hn9 ?_
            intro _ _ _
            rw [hp9] at hP
            refine hP.pop ?_
            intro vs' a x1 y1 z1 n1 hvs hm hP'
            have ha1 : a ≠ pl := htl _ hm _ (List.Mem.head _)
            have ha2 : a ≠ dd := htl _ hm _ (List.Mem.tail _ (List.Mem.head _))
            rw [hvs] at N6 hsz
            have hl9 : vs'.length ≤ pre.length := by
              rw [hvs, List.length_append] at hlen
              omega
            replace N6 : News g' L' _ ((pl, listOf (vs' ++ [Value.ref a]).toArray cn) :: (dd, oD) :: (a, ({ cls := .type "tuple", data := .seq #[Value.int h2 x1, Value.int k2.tok y1, Value.int (t2' : Int) z1] n1 } : Obj)) :: (tl ++ own)) := fun q hq => N6 q (pile_in hm hq)
            clear hm
            (try with_reducible show wpAny _ _ _ _ _ _)
            k_steps
            rename Fr g' L' _ _ => F7
            rename News g' L' _ _ => N7
            rw [hv9]
            exact MidV.intro (vs := vs') (cn := cn + 1) F7 (fun p hp => N7 p (pile_out hp)) rfl rfl rfl rfl rfl (fun y q1 q2 q3 q4 q5 =>
              by (repeat (first | with_reducible rfl | refine ite_ne q1 ?_ | refine ite_ne q2 ?_ | refine ite_ne q3 ?_ | refine ite_ne q4 ?_ | refine ite_ne q5 ?_ | refine ite_split (fun e => by subst e; exact hm1.symm) ?_ | refine ite_split (fun e => by subst e; exact hm6.symm) ?_))) hP' hl9 rfl
        case cd =>
          intro fl s2 hM
          refine MidV.elim hM ?_
          clear hM
          intro hh6 tk6 a6 b6 c6 d6 vs6 cn6 F7 N7 hP6 hl6
          try k_unfold
          clear F6 N6 hends hP hlen hsz
          try unfold MapV at F7
          have mkD : MarkD := ⟨⟩
          (try with_reducible show wpAny _ _ _ _ _ _)
          k_steps
          refine ⟨?_⟩
          clear mkD
          (try with_reducible show wpAny _ _ _ _ _ _)
          try k_fold
          rename Fr g' L' _ _ => F8
          rename News g' L' _ _ => N8
          refine wpAny_mono (Q := MidW g' L' (newsOf N8) (invs t2' v0) h2 k2 t2' dd mb s) ?ce ?cf (fun _ _ x => x)
          case ce =>
            try dsimp only [newsOf]
            k_fold
            have ht3 : t2' = 0 ∨ t2' = 1 ∨ t2' = 2 := by omega
            clear hdeed hw htt
            rcases ht3 with rfl | rfl | rfl
            all_goals
              simp only [show ((0 : Nat) : Int) = 0 from rfl, show ((1 : Nat) : Int) = 1 from rfl, show ((2 : Nat) : Int) = 2 from rfl] at F8
              (try with_reducible show wpAny _ _ _ _ _ _)
              k_steps
            all_goals
              rename Fr g' L' _ _ => F10
              rename News g' L' _ _ => N10
              have e1 : Builtin.bitNot v0 = invs 1 v0 := by simp only [invs, Builtin.bitNot]; omega
              have e2 : Builtin.bitNot (Builtin.bitNot v0) = invs 2 v0 := by simp only [invs, Builtin.bitNot]; omega
              exact MidW.intro F10 N10 (fun p hp => by first | exact hp | exact List.mem_cons_of_mem _ hp | exact List.mem_cons_of_mem _ (List.mem_cons_of_mem _ hp)) (by first | with_unfolding_all rfl | (rw [← e1]; with_unfolding_all rfl) | (rw [← e2]; with_unfolding_all rfl)) rfl rfl rfl rfl (fun y q1 q2 q3 q4 q5 q6 =>
                by (repeat (first | with_reducible rfl | refine ite_ne q1 ?_ | refine ite_ne q6 ?_ | refine ite_ne q2 ?_ | refine ite_ne q3 ?_ | refine ite_ne q4 ?_ | refine ite_ne q5 ?_))) rfl
          case cf =>
            try dsimp only [newsOf]
            intro fl s3 hM
            refine MidW.elim hM ?_
            clear hM
            intro hh7 tk7 a7 b7 c7 d7 mu F9 N9 hmu
            try k_unfold
            clear F8 N8
            try unfold MapV at F9
            (try with_reducible show wpAny _ _ _ _ _ _)
            k_steps
            · refine ⟨?_⟩
              refine leave_onSN B' (by assumption) (by assumption) (by assumption) fun h9 RS RN US => ?_
              exact hE _ _ _ _ _ (by assumption) FG' RS US
            · refine ⟨?_⟩
              rename Fr g' L' _ _ => F10
              rename News g' L' _ _ => N10
              rename Trace _ _ _ => htr9
              rename (body = _ ++ _) => hb9
              rename Int => v9
              refine' for_end (⟨vs6, cn6, tl, ⟨p2, v9, k2, 0⟩, _, _, _⟩ : RS) F10 N10 ?hn (fun p hp => by (repeat (first | exact List.mem_append_right _ hp | refine List.Mem.tail _ ?_))) ?ho ?hk ?hr ?hp
              case hn => exact List.forall_mem_cons.mpr ⟨by k_mem, List.forall_mem_cons.mpr ⟨by k_mem, fun p hp => by (repeat (first | exact List.mem_append_left _ hp | refine List.Mem.tail _ ?_))⟩⟩
              case ho => exact hoff
              case hk => kst_all
              case hr =>
                intro z hz1 hz2 hz3
                refine Eq.trans ?_ (hmr z hz1 (hz2 _ (.head _)) (hz2 _ (.tail _ (.head _))) (hz2 _ (.tail _ (.tail _ (.head _)))) (ne_first hz3) (ne_first (ne_rest hz3)))
                rw [← hmu z (ne_first (ne_rest hz3))]
                (repeat (first | with_reducible rfl | refine ite_ne (hz2 _ (.head _)) ?_ | refine ite_ne (hz2 _ (.tail _ (.head _))) ?_ | refine ite_ne (hz2 _ (.tail _ (.tail _ (.head _)))) ?_ | refine ite_ne (ne_first hz3) ?_ | refine ite_split (fun e => by subst e; exact (hm5.symm.trans (hmu _ (by decide)).symm)) ?_))
              case hp => exact ⟨⟨_, hb9, htr9⟩, hP6, htl, by simp only [List.length_append, List.length_cons, List.length_nil]; omega⟩
  case kd =>
    rintro ⟨vs, cn, tl, ms, t1, t2, t3⟩ u h9 tk9 ⟨⟨bp, hb, _⟩, _⟩ _ _
    have h1 := congrArg List.length hb
    simp only [List.length_append, List.length_cons, List.length_nil] at h1
    omega
end
end Mine

end
section
/- part Tree -/
open PySem PySem.W PyProof.Rows
namespace Mine
/-- what the joinings build -/
inductive Ex where
  | num (n : Nat)
  | bin (o : Op) (l r : Ex)
  | inv (k : Nat) (e : Ex)
noncomputable def Ex.rank : Ex → Nat
  | .num _ => 8
  | .bin o _ _ => o.rank
  | .inv _ _ => 7
noncomputable def wrapIf (b : Prop) [Decidable b] (ts : List Tk) : List Tk := if b then .lp :: ts ++ [.rp] else ts
noncomputable def Ex.toks : Ex → List Tk
  | .num n => [.num n]
  | .bin o l r => wrapIf (l.rank < o.rank) l.toks ++ .op o :: wrapIf (r.rank ≤ o.rank) r.toks
  | .inv k e => List.replicate k .til ++ (.lp :: e.toks ++ [.rp])
noncomputable def Ex.val : Ex → Option Int
  | .num n => some n
  | .bin o l r => o.val? l.val r.val
  | .inv k e => e.val.map (invs k)
noncomputable abbrev tupE (e : Ex) (a b c : Tok) (n : Nat) : Obj := { cls := .type "tuple", data := .seq #[.str (tstr e.toks) a, .int (e.rank : Int) b, encV e.val c] n }
theorem tstr_cons (t : Tk) (r : List Tk) : tstr (t :: r) = t.str ++ tstr r := by
  rw [show t :: r = [t] ++ r from rfl, tstr_append, tstr_one]
theorem tstr_bin {o : Op} {l r : Ex} : tstr (Ex.bin o l r).toks = tstr (wrapIf (l.rank < o.rank) l.toks) ++ o.sign ++ tstr (wrapIf (r.rank ≤ o.rank) r.toks) := by
  rw [Ex.toks, tstr_append, tstr_cons, Str.append_assoc]
  rfl
theorem tstr_wrap {b : Prop} [Decidable b] {ts : List Tk} (h : b) : tstr (wrapIf b ts) = Str.ofString "(" ++ tstr ts ++ Str.ofString ")" := by
  unfold wrapIf
  rw [if_pos h, List.cons_append, tstr_cons, tstr_append, tstr_one, Str.append_assoc]
  rfl
theorem tstr_bare {b : Prop} [Decidable b] {ts : List Tk} (h : ¬ b) : tstr (wrapIf b ts) = tstr ts := by
  unfold wrapIf
  rw [if_neg h]
section
variable {prog : Program} {w : World} {A : Around} {E : Value → Shared → Prop} {s : Shared} {d : Addr} {D : List (PyData × PyData)}
theorem get_rank {o : Op} {j : Int} {t u : Tok} {Q : Value → Shared → Prop} (T : StrTab prog w s.heap d D) (hk : (PySem.Spec.lookup (.str o.sign) D).getD (.int j) = .int (o.rank : Int))
    (h : ∀ t', Q (.int (o.rank : Int) t') { s with toks := s.toks + 1 }) : wpAny (model prog w) A (call (.builtin "dict.get") [.ref d, .str o.sign t, .int j u]) Q E s := by
  refine call_get2_strTab T (PyProof.V.Flat.int j u) fun v hv => ?_
  rw [hk] at hv
  obtain ⟨t', rfl⟩ := hv.int_inv
  exact h t'
end
end Mine

end
section
/- part WPair -/
theorem Mine.offWPair : True := by
  w_top off
  k_with_none
  trivial
open PySem PySem.W PyProof.Rows
set_option linter.unusedSimpArgs false
namespace Mine
set_option maxRecDepth 100000
set_option maxHeartbeats 8000000
structure MarkP : Prop where
noncomputable abbrev framOf {h₀ h : Heap} {L : Addr} {m : Str → Option Value} (_ : Fr h₀ L h m) : Str → Option Value := m
theorem wordsWPair1 : True := by
  k_with_none
  k_with "ROOM" => (first | exact room_of (k := 0) (by assumption) (by decide) | exact room_of (k := 1) (by assumption) (by decide) | exact room_of (k := 2) (by assumption) (by decide) | exact room_of (k := 3) (by assumption) (by decide))
  k_with "SIZE" => (first | assumption | (simp only [Str.length_append, PySem.sizeLine_eq]; omega))
  k_with "MUL" => (first | exact Sm.mulOk (by assumption) (by assumption) | exact mulPow_ok (by assumption) (by assumption))
  k_with "OM" => (first | with_reducible assumption | decide | (with_reducible exact om_d1 (by assumption)) | (with_reducible exact om_d2 (by assumption)) | (with_reducible exact om_d3 (by assumption)) | (with_reducible exact om_d4 (by assumption)) | (with_reducible exact om_l1 (by assumption)) | (with_reducible exact om_l2 (by assumption)) | (with_reducible exact om_l3 (by assumption)) | (with_reducible exact om_l4 (by assumption)) | (with_reducible exact om_n1) | (with_reducible exact om_n2) | (with_reducible exact om_n3) | (with_reducible exact om_n4) | (with_reducible exact om_c1 (by assumption)) | (with_reducible exact om_c2 (by assumption) (by assumption)) | (with_reducible exact om_p1 (by assumption)) | (with_reducible exact om_p2 (by assumption)) | (with_reducible exact om_p3 (by assumption)) | (with_reducible exact om_p4 (by assumption)) | (with_reducible exact om_p5 (by assumption)) | (with_reducible exact om_a1 (by assumption)) | (with_reducible exact om_a2 (by assumption)) | (with_reducible exact om_w1 (by assumption) (by assumption)) | (with_reducible exact om_w2 (by assumption) (by assumption)) | (with_reducible exact om_w3 (by assumption)) | (with_reducible exact om_w4) | (with_reducible exact om_s1 (by assumption)) | (with_reducible exact om_s2 (by assumption) (by assumption)) | (with_reducible exact om_s3 (by assumption) (by assumption)) | (with_reducible exact om_s4 (by assumption)) | (with_reducible exact om_s5 (by assumption)))
  k_with "NE" => (refine neN ?_; (try dsimp only); (first | exact Nat.ne_of_gt (by assumption) | exact Nat.ne_of_lt (by assumption) | exact Nat.ne_of_gt (And.left (by assumption)) | exact Nat.ne_of_gt (And.left (And.right (by assumption))) | exact Nat.ne_of_gt (And.left (And.right (And.right (by assumption)))) | exact Nat.ne_of_gt (And.left (And.right (And.right (And.right (by assumption))))) | exact Nat.ne_of_gt (And.left (And.right (And.right (And.right (And.right (by assumption)))))) | exact Nat.ne_of_gt (And.left (And.right (And.right (And.right (And.right (And.right (by assumption))))))) | exact Nat.ne_of_gt (And.left (And.right (And.right (And.right (And.right (And.right (And.right (by assumption)))))))) | exact Nat.ne_of_gt (And.left (And.right (And.right (And.right (And.right (And.right (And.right (And.right (by assumption))))))))) | exact Nat.ne_of_gt (And.left (And.right (And.right (And.right (And.right (And.right (And.right (And.right (And.right (by assumption)))))))))) | exact Nat.ne_of_gt (And.left (And.right (And.right (And.right (And.right (And.right (And.right (And.right (And.right (And.right (by assumption))))))))))) | exact Nat.ne_of_gt (And.left (And.right (And.right (And.right (And.right (And.right (And.right (And.right (And.right (And.right (And.right (by assumption)))))))))))) | exact Nat.ne_of_lt (And.left (by assumption)) | exact Nat.ne_of_lt (And.left (And.right (by assumption))) | exact Nat.ne_of_lt (And.left (And.right (And.right (by assumption)))) | exact Nat.ne_of_lt (And.left (And.right (And.right (And.right (by assumption))))) | exact Nat.ne_of_lt (And.left (And.right (And.right (And.right (And.right (by assumption)))))) | exact Nat.ne_of_lt (And.left (And.right (And.right (And.right (And.right (And.right (by assumption))))))) | exact Nat.ne_of_lt (And.left (And.right (And.right (And.right (And.right (And.right (And.right (by assumption)))))))) | exact Nat.ne_of_lt (And.left (And.right (And.right (And.right (And.right (And.right (And.right (And.right (by assumption))))))))) | exact Nat.ne_of_lt (And.left (And.right (And.right (And.right (And.right (And.right (And.right (And.right (And.right (by assumption)))))))))) | exact Nat.ne_of_lt (And.left (And.right (And.right (And.right (And.right (And.right (And.right (And.right (And.right (And.right (by assumption))))))))))) | exact Nat.ne_of_lt (And.left (And.right (And.right (And.right (And.right (And.right (And.right (And.right (And.right (And.right (And.right (by assumption))))))))))))))
  k_with "execs cons" => (k_here; (with_reducible show wpAny _ _ _ _ _ (Shared.mk _ _ _ (_ + _) _)); (rename Fr _ _ _ _ => Fq9); refine wp_norm (g := sg) (d := sd) (o := so) Fq9 ?_; intro _ _ _; clear Fq9)
  k_with "call builtin:dict.get" => (k_here; k_dflt (refine' get_rank ?k1 ?k2 ?_; (case k1 => k_tabat); (case k2 => (rename Op => oX; cases oX <;> rfl))); intro _)
  k_with "call ref" => (k_here; k_dflt ((refine wpAny_call ?_); (refine' value_call ?k1 ?k2 ?k3 ?k4 ?k5 ?kA ?kF ?k6 ?k7 ?k8 ?_; (case k1 => k_asm); (case k2 => k_asm); (case k3 => k_asm); (case k4 => k_asm); (case k5 => k_asm); (case kA => exact rfl); (case kF => exact rfl); (case k6 => first | omega | (dsimp only [Around.deeper]; omega)); (case k7 => assumption); (case k8 => assumption)); intro _ _ _ _ _; (try dsimp only)))
  k_with "eval IfExp" => ((rename MarkP => mkP); refine Hold.out ?_)
  k_with "newTuple" => (k_here; k_dflt (refine' kup_newTuple ?pF ?pN ?_ ?pz; (case pF => k_asm); (case pN => k_asm); (case pz => kmk_size)); intro _ _ _ _ l1; (try k_lt l1))
  trivial
theorem wrap_len {b : Prop} [Decidable b] {ts : List Tk} (h : (tstr ts).length ≤ 5000) : (tstr (wrapIf b ts)).length ≤ 5002 := by
  by_cases hb : b
  · rw [tstr_wrap hb]
    simp only [Str.length_append, show (Str.ofString "(").length = 1 by decide, show (Str.ofString ")").length = 1 by decide]
    omega
  · rw [tstr_bare hb]
    omega
section
variable {w : World} {mg mb : Str → Option Value} {mean : ExcName → Option Value} {A₀ : Around} {dp un : Nat} {gs : Option (List Code)} {base h₀ : Heap} {outer : List Env} {env : Env} {L : Addr} {m : Str → Option Value} {news : List (Addr × Obj)} {s : Shared} {R : Result → Shared → Prop}

theorem pair_call {a1 a2 : Addr} {o : Op} {l r : Ex} {t1 t2 t3 t4 t5 t6 ty : Tok} {n1 n2 : Nat}
    (B : Below A₀ base outer h₀) (F : Fr h₀ L s.heap m) (X : (hd.heap_39 w.params).In h₀) (N : News h₀ L s.heap news) (T : Top hd.view_39 (looseW hd.view_39 [Str.ofString "EXACT_TOKEN_TYPES"]) mean mg mb h₀)
    (hf : env.frame = some L) (hke : env.scope.kind = .function) (hdep : dp < 400)
    (h1 : (a1, tupE l t1 t2 t3 n1) ∈ news) (h2 : (a2, tupE r t4 t5 t6 n2) ∈ news) (hl1 : (tstr l.toks).length ≤ 5000) (hl2 : (tstr r.toks).length ≤ 5000)
    (s1 : ∀ a, l.val = some a → Sm a) (s2 : ∀ a, r.val = some a → Sm a ∧ o.fits a)
    (h : ∀ h' tk a x y z, Fr h₀ L h' m → News h₀ L h' ((a, tupE (.bin o l r) x y z 0) :: news) → (∀ p ∈ news, p.1 ≠ a) → R (.ok (.ret (.ref a))) { s with heap := h', toks := tk }) :
    codeAny (model PySem.Challenge.rw_pg0154_01.row.prog w) ⟨none, dp, some (env :: outer), gs, un⟩ (.call (.ref 157) ⟨[.ref a1, .str o.sign ty, .ref a2], []⟩) R s := by
  have hdep5 : dp < 500 := by omega
  have hs0 : o.sign.length ≤ 2 := by cases o <;> decide
  have hs1 : (Str.ofString "(").length = 1 := by decide
  have hs2 : (Str.ofString ")").length = 1 := by decide
  revert X
  k_fill
  intro X
  refine' code_defF (binds := [(Str.ofString "left", .ref a1), (Str.ofString "sign", .str o.sign ty), (Str.ofString "right", .ref a2)]) [(a1, tupE l t1 t2 t3 n1), (a2, tupE r t4 t5 t6 n2)] (fun q hq => ?hsub) B F X N T rfl hf hke ?k6 ?k7 ?k8 ?k9 ?kB ?_ ?c2 ?c3 ?c4 ?c5
  case hsub =>
    rcases List.mem_cons.mp hq with rfl | hq
    · exact h1
    · rw [List.mem_singleton.mp hq]; exact h2
  case k6 => k_is
  case k7 => k_is
  case k8 => k_room
  case k9 => exact BindsTo.of_eq rfl
  case c5 => decide
  case kB => exact locs rfl
  case c2 => exact rfl
  case c3 => exact rfl
  case c4 => exact rfl
  intro g' L' h' tk0 hfz FG' F' N' B' X' T' env' A' sg sd so qk ek
  have mkP : MarkP := ⟨⟩
  (try with_reducible show wpAny _ _ _ _ _ _)
  k_steps
  refine ⟨?_⟩
  clear mkP
  rename Fr g' L' _ _ => F5
  rename News g' L' _ _ => N5
  (try with_reducible show wpAny _ _ _ _ _ _)
  try k_fold
  refine wpAny_mono (Q := MidT (.str (tstr (wrapIf (l.rank < o.rank) l.toks))) g' L' (framOf F5) [(a1, tupE l t1 t2 t3 n1), (a2, tupE r t4 t5 t6 n2)] s) ?ca ?cb (fun _ _ x => x)
  case ca =>
    try dsimp only [framOf]
    k_fold
    k_steps
    all_goals
      rename Fr g' L' _ _ => F9
      rename News g' L' _ _ => N9
      first
        | exact MidT.intro _ F9 N9 (fun p hp => by first | exact hp | exact List.mem_cons_of_mem _ hp) (by rw [tstr_wrap (b := l.rank < o.rank) (by omega)]) rfl
        | exact MidT.intro _ F9 N9 (fun p hp => by first | exact hp | exact List.mem_cons_of_mem _ hp) (by rw [tstr_bare (b := l.rank < o.rank) (by omega)]) rfl
  case cb =>
    try dsimp only [framOf]
    intro v s1 hM
    refine MidT.elim hM ?_
    clear hM
    intro hh5 tk5 t5' F6 N6
    try k_unfold
    clear F5 N5
    have hlw : (tstr (wrapIf (l.rank < o.rank) l.toks)).length ≤ 5002 := wrap_len hl1
    have mkP : MarkP := ⟨⟩
    (try with_reducible show wpAny _ _ _ _ _ _)
    k_steps
    refine ⟨?_⟩
    clear mkP
    rename Fr g' L' _ _ => F7
    rename News g' L' _ _ => N7
    (try with_reducible show wpAny _ _ _ _ _ _)
    try k_fold
    refine wpAny_mono (Q := MidT (.str (tstr (wrapIf (r.rank ≤ o.rank) r.toks))) g' L' (framOf F7) [(a1, tupE l t1 t2 t3 n1), (a2, tupE r t4 t5 t6 n2)] s) ?cc ?cd (fun _ _ x => x)
    case cc =>
      try dsimp only [framOf]
      k_fold
      k_steps
      all_goals
        rename Fr g' L' _ _ => F9
        rename News g' L' _ _ => N9
        first
          | exact MidT.intro _ F9 N9 (fun p hp => by first | exact hp | exact List.mem_cons_of_mem _ hp) (by rw [tstr_wrap (b := r.rank ≤ o.rank) (by omega)]) rfl
          | exact MidT.intro _ F9 N9 (fun p hp => by first | exact hp | exact List.mem_cons_of_mem _ hp) (by rw [tstr_bare (b := r.rank ≤ o.rank) (by omega)]) rfl
    try dsimp only [framOf]
    intro v s1 hM
    refine MidT.elim hM ?_
    clear hM
    intro hh7 tk7 t7' F8' N8'
    try k_unfold
    clear F7 N7
    have hrw : (tstr (wrapIf (r.rank ≤ o.rank) r.toks)).length ≤ 5002 := wrap_len hl2
    (try with_reducible show wpAny _ _ _ _ _ _)
    k_steps
    have e := @tstr_bin o l r
    rename Fr g' _ _ _ => F9
    rename Fr h₀ _ _ _ => F8
    rename News g' _ _ _ => N9
    rename News h₀ _ _ _ => N8
    rw [← e] at N8
    refine' h _ _ _ _ _ _ F8 (news_sub (frozen_news N hfz F9 N8 ?h1 ?h2) ?h3) ?h4
    case h1 => exact List.forall_mem_cons.mpr ⟨h1, List.forall_mem_cons.mpr ⟨h2, List.forall_mem_nil _⟩⟩
    case h2 => exact List.forall_mem_cons.mpr ⟨by k_mem, List.forall_mem_cons.mpr ⟨by k_mem, List.forall_mem_nil _⟩⟩
    case h3 => exact List.forall_mem_cons.mpr ⟨List.mem_append_left _ (by k_mem), fun p hp => List.mem_append_right _ hp⟩
    case h4 =>
      intro p hp e9
      by_cases q1 : p.1 = a1
      · exact absurd (q1.symm.trans e9) (by k_ne)
      by_cases q2 : p.1 = a2
      · exact absurd (q2.symm.trans e9) (by k_ne)
      have z1 := hfz p hp (List.forall_mem_cons.mpr ⟨q1, List.forall_mem_cons.mpr ⟨q2, List.forall_mem_nil _⟩⟩)
      have z2 := (N9 _ (List.Mem.head _)).2.2
      rw [e9, z2] at z1
      cases z1
end
end Mine

end
section
/- part WAgree -/
theorem Mine.offWAgree : True := by
  w_top off
  k_with_none
  trivial
open PySem PySem.W PyProof.Rows
set_option linter.unusedSimpArgs false
namespace Mine
set_option maxRecDepth 100000
set_option maxHeartbeats 8000000
theorem rowsOf_end (c : List Int) : rowsOf (c ++ [0]) = (rowsOf c ++ List.replicate 6 8) ++ [0] := by
  rw [rowsOf_snoc, rowOf_zero, List.append_assoc]; rfl
theorem wordsWAgree1 : True := by
  k_with_none
  k_with "ROOM" => (first | exact room_of (k := 0) (by assumption) (by decide) | exact room_of (k := 1) (by assumption) (by decide) | exact room_of (k := 2) (by assumption) (by decide) | exact room_of (k := 3) (by assumption) (by decide))
  k_with "SIZE" => (first | assumption | (simp only [Str.length_append, PySem.sizeLine_eq]; omega))
  k_with "MUL" => (first | exact Sm.mulOk (by assumption) (by assumption) | exact mulPow_ok (by assumption) (by assumption))
  k_with "NE" => (refine neN ?_; (try dsimp only); (first | exact Nat.ne_of_gt (by assumption) | exact Nat.ne_of_lt (by assumption) | exact Nat.ne_of_gt (And.left (by assumption)) | exact Nat.ne_of_gt (And.left (And.right (by assumption))) | exact Nat.ne_of_gt (And.left (And.right (And.right (by assumption)))) | exact Nat.ne_of_gt (And.left (And.right (And.right (And.right (by assumption))))) | exact Nat.ne_of_gt (And.left (And.right (And.right (And.right (And.right (by assumption)))))) | exact Nat.ne_of_gt (And.left (And.right (And.right (And.right (And.right (And.right (by assumption))))))) | exact Nat.ne_of_gt (And.left (And.right (And.right (And.right (And.right (And.right (And.right (by assumption)))))))) | exact Nat.ne_of_gt (And.left (And.right (And.right (And.right (And.right (And.right (And.right (And.right (by assumption))))))))) | exact Nat.ne_of_gt (And.left (And.right (And.right (And.right (And.right (And.right (And.right (And.right (And.right (by assumption)))))))))) | exact Nat.ne_of_gt (And.left (And.right (And.right (And.right (And.right (And.right (And.right (And.right (And.right (And.right (by assumption))))))))))) | exact Nat.ne_of_gt (And.left (And.right (And.right (And.right (And.right (And.right (And.right (And.right (And.right (And.right (And.right (by assumption)))))))))))) | exact Nat.ne_of_lt (And.left (by assumption)) | exact Nat.ne_of_lt (And.left (And.right (by assumption))) | exact Nat.ne_of_lt (And.left (And.right (And.right (by assumption)))) | exact Nat.ne_of_lt (And.left (And.right (And.right (And.right (by assumption))))) | exact Nat.ne_of_lt (And.left (And.right (And.right (And.right (And.right (by assumption)))))) | exact Nat.ne_of_lt (And.left (And.right (And.right (And.right (And.right (And.right (by assumption))))))) | exact Nat.ne_of_lt (And.left (And.right (And.right (And.right (And.right (And.right (And.right (by assumption)))))))) | exact Nat.ne_of_lt (And.left (And.right (And.right (And.right (And.right (And.right (And.right (And.right (by assumption))))))))) | exact Nat.ne_of_lt (And.left (And.right (And.right (And.right (And.right (And.right (And.right (And.right (And.right (by assumption)))))))))) | exact Nat.ne_of_lt (And.left (And.right (And.right (And.right (And.right (And.right (And.right (And.right (And.right (And.right (by assumption))))))))))) | exact Nat.ne_of_lt (And.left (And.right (And.right (And.right (And.right (And.right (And.right (And.right (And.right (And.right (And.right (by assumption))))))))))))))
  k_with "OM" => (first | with_reducible assumption | decide | (with_reducible exact om_d1 (by assumption)) | (with_reducible exact om_d2 (by assumption)) | (with_reducible exact om_d3 (by assumption)) | (with_reducible exact om_d4 (by assumption)) | (with_reducible exact om_l1 (by assumption)) | (with_reducible exact om_l2 (by assumption)) | (with_reducible exact om_l3 (by assumption)) | (with_reducible exact om_l4 (by assumption)) | (with_reducible exact om_n1) | (with_reducible exact om_n2) | (with_reducible exact om_n3) | (with_reducible exact om_n4) | (with_reducible exact om_c1 (by assumption)) | (with_reducible exact om_c2 (by assumption) (by assumption)) | (with_reducible exact om_p1 (by assumption)) | (with_reducible exact om_p2 (by assumption)) | (with_reducible exact om_p3 (by assumption)) | (with_reducible exact om_p4 (by assumption)) | (with_reducible exact om_p5 (by assumption)) | (with_reducible exact om_a1 (by assumption)) | (with_reducible exact om_a2 (by assumption)) | (with_reducible exact om_w1 (by assumption) (by assumption)) | (with_reducible exact om_w2 (by assumption) (by assumption)) | (with_reducible exact om_w3 (by assumption)) | (with_reducible exact om_w4) | (with_reducible exact om_s1 (by assumption)) | (with_reducible exact om_s2 (by assumption) (by assumption)) | (with_reducible exact om_s3 (by assumption) (by assumption)) | (with_reducible exact om_s4 (by assumption)) | (with_reducible exact om_s5 (by assumption)))
  k_with "execs cons" => (k_here; (with_reducible show wpAny _ _ _ _ _ (Shared.mk _ _ _ (_ + _) _)); refine wp_gen ?_; intro _)
  k_with "call ref" => (k_here; k_dflt ((refine wpAny_call ?_); (refine' words_call ?k1 ?k2 ?k3 ?k4 ?k5 ?kA ?kF ?k6 ?k7 ?k8 ?k9 ?_; (case k1 => k_asm); (case k2 => k_asm); (case k3 => k_asm); (case k4 => k_asm); (case k5 => k_asm); (case kA => exact rfl); (case kF => exact rfl); (case k6 => first | omega | (dsimp only [Around.deeper]; omega)); (case k7 => assumption); (case k8 => assumption); (case k9 => assumption)); intro _ _ _ _ _ _ _ _; (try dsimp only)))
  k_with "call ref" => (k_here; k_dflt ((refine wpAny_call ?_); (refine' bracketed_call ?k1 ?k2 ?k3 ?k4 ?k5 ?kA ?kF ?k6 ?k7 ?k8 ?k9 ?_; (case k1 => k_asm); (case k2 => k_asm); (case k3 => k_asm); (case k4 => k_asm); (case k5 => k_asm); (case kA => exact rfl); (case kF => exact rfl); (case k6 => first | omega | (dsimp only [Around.deeper]; omega)); (case k7 => k_mem); (case k8 => assumption); (case k9 => assumption)); intro _ _ _ _ _ _ _ I'; (try dsimp only); (try rw [rowsOf_end] at I')))
  k_with "call ref" => (k_here; k_dflt ((refine wpAny_call ?_); (refine' reckoned_call ?k1 ?k2 ?k3 ?k4 ?k5 ?kA ?kF ?k6 ?k7 ?k8 ?k9 ?kT ?kO ?kE; (case k1 => k_asm); (case k2 => k_asm); (case k3 => k_asm); (case k4 => k_asm); (case k5 => k_asm); (case kA => exact rfl); (case kF => exact rfl); (case k6 => first | omega | (dsimp only [Around.deeper]; omega)); (case k7 => k_mem); (case k8 => assumption); (case k9 => assumption); (case kT => assumption)); (case' kO => (intro h' tk _ _ ho' _ _; (try dsimp only))); (case' kE => (intro _ _ _ _ _ _ _ _ _; (try dsimp only)))))
  trivial
section
variable {w : World} {mg mb : Str → Option Value} {mean : ExcName → Option Value} {A₀ : Around} {dp un : Nat} {gs : Option (List Code)} {h₀ : Heap} {env : Env} {L : Addr} {m : Str → Option Value} {news : List (Addr × Obj)} {s : Shared} {R : Result → Shared → Prop}

theorem agree_none {ts : List Tk} {t1 t2 : Tok}
    (B : Below A₀ h₀ [] h₀) (F : Fr h₀ L s.heap m) (X : (hd.heap_39 w.params).In h₀) (N : News h₀ L s.heap news) (T : Top hd.view_39 (looseW hd.view_39 [Str.ofString "EXACT_TOKEN_TYPES"]) mean mg mb h₀)
    (hf : env.frame = some L) (hke : env.scope.kind = .function) (hdep : dp < 320) (hR : Runs true ts) (hl1 : (tstr ts).length ≤ 5000) (hl2 : ts.length ≤ 5000) (htr : Trace (rowsOf (ts.map Tk.code) ++ List.replicate 6 8) MS.init (none))
    (h : ∀ h' tk, Fr h₀ L h' m → R (.ok (.ret (.bool true))) { s with heap := h', toks := tk }) :
    codeAny (model PySem.Challenge.rw_pg0154_01.row.prog w) ⟨none, dp, some [env], gs, un⟩ (.call (.ref 169) ⟨[.str (tstr ts) t1, encV (none) t2], []⟩) R s := by
  have hdep5 : dp < 500 := by omega
  have hbl : (rowsOf (ts.map Tk.code) ++ List.replicate 6 8).length ≤ 70000 := by
    have := rowsOf_le (ts.map Tk.code)
    simp only [List.length_append, List.length_replicate, List.length_map] at *
    omega
  revert X
  k_fill
  intro X
  refine' code_defSE (binds := [(Str.ofString "text", .str (tstr ts) t1), (Str.ofString "value", encV (none) t2)]) B F X N T rfl hf hke ?k6 ?k7 ?k8 ?k9 ?kB ?_ ?c2 ?c3 ?c4 ?c5
  case k6 => k_is
  case k7 => k_is
  case k8 => k_room
  case k9 => exact BindsTo.of_eq rfl
  case c5 => decide
  case kB => exact locs rfl
  case c2 => exact rfl
  case c3 => exact rfl
  case c4 => exact rfl
  intro g' L' h' FG' F' N' B' X' T' D'
  dsimp only [encV] at *
  try k_fold
  k_steps
  · rename Fr h₀ _ _ _ => F8
    exact h _ _ F8
  · rename (none = some _) => q
    cases q
theorem agree_some {ts : List Tk} {t1 t2 : Tok} {v : Int}
    (B : Below A₀ h₀ [] h₀) (F : Fr h₀ L s.heap m) (X : (hd.heap_39 w.params).In h₀) (N : News h₀ L s.heap news) (T : Top hd.view_39 (looseW hd.view_39 [Str.ofString "EXACT_TOKEN_TYPES"]) mean mg mb h₀)
    (hf : env.frame = some L) (hke : env.scope.kind = .function) (hdep : dp < 320) (hR : Runs true ts) (hl1 : (tstr ts).length ≤ 5000) (hl2 : ts.length ≤ 5000) (htr : Trace (rowsOf (ts.map Tk.code) ++ List.replicate 6 8) MS.init (some v))
    (h : ∀ h' tk, Fr h₀ L h' m → R (.ok (.ret (.bool true))) { s with heap := h', toks := tk }) :
    codeAny (model PySem.Challenge.rw_pg0154_01.row.prog w) ⟨none, dp, some [env], gs, un⟩ (.call (.ref 169) ⟨[.str (tstr ts) t1, encV (some v) t2], []⟩) R s := by
  have hdep5 : dp < 500 := by omega
  have hbl : (rowsOf (ts.map Tk.code) ++ List.replicate 6 8).length ≤ 70000 := by
    have := rowsOf_le (ts.map Tk.code)
    simp only [List.length_append, List.length_replicate, List.length_map] at *
    omega
  revert X
  k_fill
  intro X
  refine' code_defSE (binds := [(Str.ofString "text", .str (tstr ts) t1), (Str.ofString "value", encV (some v) t2)]) B F X N T rfl hf hke ?k6 ?k7 ?k8 ?k9 ?kB ?_ ?c2 ?c3 ?c4 ?c5
  case k6 => k_is
  case k7 => k_is
  case k8 => k_room
  case k9 => exact BindsTo.of_eq rfl
  case c5 => decide
  case kB => exact locs rfl
  case c2 => exact rfl
  case c3 => exact rfl
  case c4 => exact rfl
  intro g' L' h' FG' F' N' B' X' T' D'
  dsimp only [encV] at *
  try k_fold
  k_steps
  · rename (some _ = none) => q
    cases q
  · rename Fr h₀ _ _ _ => F8
    rename (some _ = some _) => q
    cases q
    rw [show (v == v) = true from beq_self_eq_true v]
    exact h _ _ F8
theorem agree_call {ts : List Tk} {t1 t2 : Tok} {o : Option Int}
    (B : Below A₀ h₀ [] h₀) (F : Fr h₀ L s.heap m) (X : (hd.heap_39 w.params).In h₀) (N : News h₀ L s.heap news) (T : Top hd.view_39 (looseW hd.view_39 [Str.ofString "EXACT_TOKEN_TYPES"]) mean mg mb h₀)
    (hf : env.frame = some L) (hke : env.scope.kind = .function) (hdep : dp < 320) (hR : Runs true ts) (hl1 : (tstr ts).length ≤ 5000) (hl2 : ts.length ≤ 5000) (htr : Trace (rowsOf (ts.map Tk.code) ++ List.replicate 6 8) MS.init o)
    (h : ∀ h' tk, Fr h₀ L h' m → R (.ok (.ret (.bool true))) { s with heap := h', toks := tk }) :
    codeAny (model PySem.Challenge.rw_pg0154_01.row.prog w) ⟨none, dp, some [env], gs, un⟩ (.call (.ref 169) ⟨[.str (tstr ts) t1, encV o t2], []⟩) R s := by
  cases o with
  | none => exact agree_none B F X N T hf hke hdep hR hl1 hl2 htr h
  | some v => exact agree_some B F X N T hf hke hdep hR hl1 hl2 htr h
end
end Mine

end
section
/- part Reads -/
open PySem PySem.W PyProof.Rows
namespace Mine
theorem Sm.zero : Sm 0 := by unfold Sm; decide
theorem fits_add (b : Int) : Op.add.fits b := fun h => by rcases h with h | h <;> cases h
noncomputable def bodyOf (ts : List Tk) : List Int := (ts.map Tk.code).flatMap rowOf
theorem bodyOf_append (a b : List Tk) : bodyOf (a ++ b) = bodyOf a ++ bodyOf b := by simp [bodyOf]
theorem bodyOf_cons (t : Tk) (r : List Tk) : bodyOf (t :: r) = rowOf t.code ++ bodyOf r := by simp [bodyOf]
noncomputable abbrev fresh : Int × Op × Nat := (0, .add, 0)
noncomputable def Ex.Ok : Ex → Prop
  | .num n => n < 10 ^ 9
  | .bin o l r => l.Ok ∧ r.Ok ∧ (∀ b, r.val = some b → o.fits b) ∧ ∀ v, (Ex.bin o l r).val = some v → Sm v
  | .inv k e => k ≤ 2 ∧ e.Ok ∧ ∀ v, (Ex.inv k e).val = some v → Sm v
theorem sm_num {n : Nat} (h : n < 10 ^ 9) : Sm (n : Int) := by
  unfold Sm
  refine Nat.le_trans (intBits_le_64 ?_ ?_) (by decide)
  all_goals omega
theorem Ex.Ok.sm {e : Ex} (h : e.Ok) {v : Int} (hv : e.val = some v) : Sm v := by
  cases e with
  | num n =>
    cases hv
    exact sm_num h
  | bin o l r => exact h.2.2.2 v hv
  | inv k e => exact h.2.2 v hv

/-- how a reading goes on behind a value (none: a division by nought) -/
noncomputable def Goes (ov : Option Int) (rest : List (Int × Op × Nat)) (post : List Int) (out : Option Int) : Prop := match ov with
  | none => out = none
  | some v => ∀ k, Trace post ⟨rest, v, k, 0⟩ out
/-- the closing brackets of fresh frames hand a value on -/
theorem closes {v : Int} (hv : Sm v) {rest : List (Int × Op × Nat)} {post : List Int} {out : Option Int} (h : ∀ k, Trace post ⟨rest, v, k, 0⟩ out) :
    ∀ n k, Trace (List.replicate n 8 ++ post) ⟨List.replicate n fresh ++ rest, v, k, 0⟩ out := by
  intro n
  induction n with
  | zero => intro k; exact h k
  | succ n ih =>
    intro k
    rw [List.replicate_succ, List.replicate_succ]
    exact .pop (v := v) (by decide) Sm.zero hv (fits_add _) (congrArg some (Int.zero_add v)) (ih _)
/-- opening brackets -/
theorem opens {h : Int} {k : Op} {t : Nat} {p : List (Int × Op × Nat)} {post : List Int} {out : Option Int} :
    ∀ n, Trace post ⟨List.replicate n fresh ++ (h, k, t) :: p, 0, .add, 0⟩ out → Trace (List.replicate (n + 1) 7 ++ post) ⟨p, h, k, t⟩ out := by
  intro n
  induction n generalizing h k t p with
  | zero => intro H; exact .push H
  | succ n ih =>
    intro H
    rw [List.replicate_succ, List.cons_append]
    refine .push (ih ?_)
    rw [show List.replicate n fresh ++ (0, Op.add, 0) :: (h, k, t) :: p = List.replicate (n + 1) fresh ++ (h, k, t) :: p by
      rw [List.replicate_succ', List.append_assoc]; rfl]
    exact H
noncomputable def Reads (ts : List Tk) (ov : Option Int) (q : Nat) : Prop :=
  ∀ rest post out, Goes ov rest post out → Trace (bodyOf ts ++ (List.replicate (7 - q) 8 ++ post)) ⟨List.replicate (7 - q) fresh ++ rest, 0, .add, 0⟩ out

theorem til_steps {p : List (Int × Op × Nat)} {post : List Int} {out : Option Int} : ∀ k t, Trace post ⟨p, 0, .add, k + t⟩ out → Trace (bodyOf (List.replicate k .til) ++ post) ⟨p, 0, .add, t⟩ out := by
  intro k
  induction k with
  | zero => intro t H; rw [Nat.zero_add] at H; exact H
  | succ k ih =>
    intro t H
    rw [List.replicate_succ, bodyOf_cons, show rowOf Tk.til.code = [31] by decide]
    refine .til (ih (t + 1) ?_)
    rw [← Nat.succ_add_eq_add_succ]
    exact H
theorem reads_inv {ts : List Tk} {ov : Option Int} {k q : Nat} (h : Reads ts ov 1) (hk : k ≤ 2) (hs : ∀ v, ov = some v → Sm (invs k v)) (hq : 1 ≤ q) (hq7 : q ≤ 7) :
    Reads (List.replicate k .til ++ (.lp :: ts ++ [.rp])) (ov.map (invs k)) q := by
  intro rest post out hg
  rw [bodyOf_append, List.append_assoc]
  refine til_steps k 0 ?_
  rw [Nat.add_zero, List.cons_append, bodyOf_cons, bodyOf_append, show rowOf Tk.lp.code = List.replicate 7 7 by decide, show bodyOf [Tk.rp] = List.replicate 6 8 ++ [8] by decide]
  rw [List.append_assoc, List.append_assoc, List.append_assoc]
  refine opens 6 ?_
  refine h _ _ _ ?_
  cases ov with
  | none => exact hg
  | some v =>
    intro k'
    have hg : ∀ k', Trace post ⟨rest, invs k v, k', 0⟩ out := hg
    exact .pop (v := invs k v) hk Sm.zero (hs v rfl) (fits_add _) (congrArg some (Int.zero_add _)) (closes (hs v rfl) hg _ _)
theorem reads_wrap {ts : List Tk} {ov : Option Int} {q : Nat} (h : Reads ts ov 1) (hs : ∀ v, ov = some v → Sm v) (hq : 1 ≤ q) (hq7 : q ≤ 7) : Reads (.lp :: ts ++ [.rp]) ov q := by
  have := reads_inv (k := 0) h (by decide) (fun v hv => hs v hv) hq hq7
  rw [show ov.map (invs 0) = ov by cases ov <;> rfl] at this
  exact this
theorem Op.rank_le (o : Op) : 1 ≤ o.rank ∧ o.rank ≤ 6 := op_all (P := fun o => 1 ≤ o.rank ∧ o.rank ≤ 6) (by decide) o
theorem row_op (o : Op) : rowOf o.tok = List.replicate (7 - o.rank) 8 ++ o.tok :: List.replicate (7 - o.rank) 7 := op_all (P := fun o => rowOf o.tok = List.replicate (7 - o.rank) 8 ++ o.tok :: List.replicate (7 - o.rank) 7) (by decide) o

theorem reads_bin {o : Op} {L R : List Tk} {vl vr : Option Int} {q : Nat} (hl : Reads L vl o.rank) (hr : Reads R vr (o.rank + 1)) (sl : ∀ v, vl = some v → Sm v) (sr : ∀ v, vr = some v → Sm v ∧ o.fits v)
    (sv : ∀ v, o.val? vl vr = some v → Sm v) (hq : 1 ≤ q) (hqo : q ≤ o.rank) : Reads (L ++ .op o :: R) (o.val? vl vr) q := by
  intro rest post out hg
  obtain ⟨ho1, ho6⟩ := o.rank_le
  have s1 : 7 - o.rank + (o.rank - q) = 7 - q := Nat.sub_add_sub_cancel (Nat.le_trans ho6 (by decide)) hqo
  have s3 : 7 - o.rank = 7 - (o.rank + 1) + 1 := (Nat.sub_one_add_one_eq_of_pos (Nat.sub_pos_of_lt (Nat.lt_of_le_of_lt ho6 (by decide)))).symm
  have s2 : 7 - (o.rank + 1) + (o.rank - q + 1) = 7 - q := by rw [← s1, s3, Nat.add_right_comm]; rfl
  have e1 : List.replicate (7 - q) fresh ++ rest = List.replicate (7 - o.rank) fresh ++ (List.replicate (o.rank - q) fresh ++ rest) := by
    rw [← List.append_assoc, List.replicate_append_replicate, s1]
  have e2 : List.replicate (7 - q) (8 : Int) ++ post = List.replicate (7 - (o.rank + 1)) 8 ++ (8 :: (List.replicate (o.rank - q) 8 ++ post)) := by
    rw [show List.replicate (7 - q) (8 : Int) = List.replicate (7 - (o.rank + 1)) 8 ++ (8 :: List.replicate (o.rank - q) 8) by
      rw [← List.replicate_succ, List.replicate_append_replicate, s2], List.append_assoc, List.cons_append]
  rw [e1, e2, bodyOf_append, bodyOf_cons, show Tk.code (.op o) = o.tok from rfl, row_op]
  simp only [List.append_assoc, List.cons_append]
  refine hl _ _ _ ?_
  cases vl with
  | none => exact hg
  | some a =>
    intro k
    refine .op o ?_
    rw [s3]
    refine opens _ ?_
    refine hr _ _ _ ?_
    cases vr with
    | none => exact hg
    | some b =>
      intro k'
      have hg : Goes (o.val a b) rest post out := hg
      have sv : ∀ v, o.val a b = some v → Sm v := sv
      cases hv : o.val a b with
      | none =>
        rw [hv] at hg
        cases hg
        exact .halt (by decide) hv
      | some v =>
        rw [hv] at hg
        exact .pop (by decide) (sl a rfl) (sr b rfl).1 (sr b rfl).2 hv (closes (sv v hv) hg _ _)

theorem reads_ex : ∀ (e : Ex) (q : Nat), e.Ok → 1 ≤ q → q ≤ 7 → q ≤ e.rank → Reads e.toks e.val q
  | .num n, q, hk, h1, h7, _ => by
    intro rest post out hg
    have hg : ∀ k, Trace post ⟨rest, (n : Int), k, 0⟩ out := hg
    show Trace (bodyOf [.num n] ++ _) _ out
    rw [bodyOf_cons, show rowOf (Tk.code (.num n)) = [256 + (n : Int)] by
      rw [show Tk.code (.num n) = 256 + (n : Int) from rfl, rowOf_nk (.num n), wideOf_num n]; rfl]
    exact .num (v := (n : Int)) n (by decide) Sm.zero (sm_num hk) (fits_add _) (congrArg some (Int.zero_add _)) (closes (sm_num hk) hg _ _)
  | .inv k e, q, hk, h1, h7, _ => by
    refine reads_inv (reads_ex e 1 hk.2.1 (Nat.le_refl _) (by decide) ?_) hk.1 (fun v hv => hk.2.2 _ (by show e.val.map (invs k) = _; rw [hv]; rfl)) h1 h7
    cases e with
    | num n => exact (by decide : 1 ≤ 8)
    | bin o l r => exact o.rank_le.1
    | inv k e => exact (by decide : 1 ≤ 7)
  | .bin o l r, q, hk, h1, h7, hq => by
    obtain ⟨ho1, ho6⟩ := o.rank_le
    have rk1 : ∀ e : Ex, 1 ≤ e.rank := fun e => by
      cases e with
      | num n => exact (by decide : 1 ≤ 8)
      | bin o l r => exact o.rank_le.1
      | inv k e => exact (by decide : 1 ≤ 7)
    refine reads_bin ?_ ?_ (fun v hv => hk.1.sm hv) (fun v hv => ⟨hk.2.1.sm hv, hk.2.2.1 v hv⟩) hk.2.2.2 h1 hq
    · unfold wrapIf
      split
      · exact reads_wrap (reads_ex l 1 hk.1 (Nat.le_refl _) (by decide) (rk1 l)) (fun v hv => hk.1.sm hv) ho1 (by omega)
      · exact reads_ex l o.rank hk.1 ho1 (by omega) (by omega)
    · unfold wrapIf
      split
      · exact reads_wrap (reads_ex r 1 hk.2.1 (Nat.le_refl _) (by decide) (rk1 r)) (fun v hv => hk.2.1.sm hv) (by omega) (by omega)
      · exact reads_ex r (o.rank + 1) hk.2.1 (by omega) (by omega) (by omega)

theorem trace_ex (e : Ex) (hk : e.Ok) : Trace (rowsOf (e.toks.map Tk.code) ++ List.replicate 6 8) MS.init e.val := by
  unfold rowsOf
  rw [List.append_assoc]
  refine opens 5 ?_
  have h := reads_ex e 1 hk (Nat.le_refl _) (by decide) (by cases e with
    | num n => exact (by decide : 1 ≤ 8)
    | bin o l r => exact o.rank_le.1
    | inv k e => exact (by decide : 1 ≤ 7)) [] [] e.val (by
      cases hv : e.val with
      | none => rfl
      | some v => intro k; exact rfl)
  rw [List.append_nil, List.append_nil] at h
  exact h
end Mine

end
section
/- part Join -/
open PySem PySem.W PyProof.Rows
namespace Mine
/-- the signs in the order in which the law writes them -/
noncomputable def opAt (n : Nat) : Op := (Op.list[n]?).getD .mod
/-- the parts' refs and their trees -/
inductive TreesIn (tl : List (Addr × Obj)) : List Value → List Ex → Prop
  | nil : TreesIn tl [] []
  | cons {a e x y z n vs es} : (a, tupE e x y z n) ∈ tl → TreesIn tl vs es → TreesIn tl (.ref a :: vs) (e :: es)
theorem TreesIn.mono {tl tl' : List (Addr × Obj)} (hs : ∀ q ∈ tl, q ∈ tl') {vs : List Value} {es : List Ex} (h : TreesIn tl vs es) : TreesIn tl' vs es := by
  induction h with
  | nil => exact .nil
  | cons hm _ ih => exact .cons (hs _ hm) ih
theorem TreesIn.length {tl : List (Addr × Obj)} {vs : List Value} {es : List Ex} (h : TreesIn tl vs es) : vs.length = es.length := by
  induction h with
  | nil => rfl
  | cons _ _ ih => rw [List.length_cons, List.length_cons, ih]
theorem TreesIn.get {tl : List (Addr × Obj)} {vs : List Value} {es : List Ex} (h : TreesIn tl vs es) {k : Nat} {e : Ex} (hk : es[k]? = some e) : ∃ a x y z n, vs[k]? = some (.ref a) ∧ (a, tupE e x y z n) ∈ tl := by
  induction h generalizing k with
  | nil => exact nomatch hk
  | cons hm _ ih =>
    cases k with
    | zero => exact Option.some.inj hk ▸ ⟨_, _, _, _, _, rfl, hm⟩
    | succ k => exact ih hk
theorem TreesIn.take {tl : List (Addr × Obj)} {vs : List Value} {es : List Ex} (h : TreesIn tl vs es) (k : Nat) : TreesIn tl (vs.take k) (es.take k) := by
  induction h generalizing k with
  | nil => rw [List.take_nil, List.take_nil]; exact .nil
  | cons hm _ ih =>
    cases k with
    | zero => exact .nil
    | succ k => exact .cons hm (ih k)
theorem TreesIn.drop {tl : List (Addr × Obj)} {vs : List Value} {es : List Ex} (h : TreesIn tl vs es) (k : Nat) : TreesIn tl (vs.drop k) (es.drop k) := by
  induction h generalizing k with
  | nil => rw [List.drop_nil, List.drop_nil]; exact .nil
  | cons hm h ih =>
    cases k with
    | zero => exact .cons hm h
    | succ k => exact ih k
theorem TreesIn.append {tl : List (Addr × Obj)} {vs us : List Value} {es fs : List Ex} (h : TreesIn tl vs es) (g : TreesIn tl us fs) : TreesIn tl (vs ++ us) (es ++ fs) := by
  induction h with
  | nil => exact g
  | cons hm _ ih => exact .cons hm ih

/-- a weight that bounds a tree's text, its words and the bits of its values -/
noncomputable def Ex.wt : Ex → Nat
  | .num _ => 11
  | .bin _ l r => l.wt + r.wt + 7
  | .inv _ e => e.wt + 5
/-- the shape alone: small numbers, few signs ahead, a fit right side of a shift -/
noncomputable def Ex.Fit : Ex → Prop
  | .num n => n < 2000
  | .bin o l r => l.Fit ∧ r.Fit ∧ ∀ b, r.val = some b → o.fits b
  | .inv k e => (k = 1 ∨ k = 2) ∧ e.Fit
theorem wrap_runs {b : Prop} [Decidable b] {ts s : List Tk} (ih : ∀ s, Runs false s → Runs true (ts ++ s)) (hs : Runs false s) : Runs true (wrapIf b ts ++ s) := by
  unfold wrapIf
  split
  · rw [List.cons_append, List.cons_append, List.append_assoc]
    exact ih _ hs
  · exact ih _ hs
theorem runs_ex (e : Ex) : ∀ r : List Tk, e.Fit → Runs false r → Runs true (e.toks ++ r) := by
  induction e with
  | num n => exact fun r h hr => ⟨Nat.lt_trans (show n < 2000 from h) (by decide), hr⟩
  | bin o l r ihl ihr =>
    intro s h hr
    show Runs true ((wrapIf (l.rank < o.rank) l.toks ++ .op o :: wrapIf (r.rank ≤ o.rank) r.toks) ++ s)
    rw [List.append_assoc]
    exact wrap_runs (fun s hs => ihl s h.1 hs) (show Runs true (wrapIf (r.rank ≤ o.rank) r.toks ++ s) from wrap_runs (fun s hs => ihr s h.2.1 hs) hr)
  | inv k e ih =>
    intro s h hr
    have body : Runs true ((.lp :: e.toks ++ [.rp]) ++ s) := by
      rw [List.cons_append, List.cons_append, List.append_assoc]
      exact ih _ h.2 hr
    show Runs true ((List.replicate k .til ++ (.lp :: e.toks ++ [.rp])) ++ s)
    rw [List.append_assoc]
    rcases h.1 with rfl | rfl <;> exact body
theorem sign_len (o : Op) : o.sign.cps.toList.length ≤ 3 := op_all (P := fun o => o.sign.cps.toList.length ≤ 3) (by decide) o
theorem lp_len (ts : List Tk) : (Tk.lp :: ts ++ [Tk.rp]).length = ts.length + 2 ∧ (tcps (Tk.lp :: ts ++ [Tk.rp])).length = (tcps ts).length + 2 := by
  refine ⟨by rw [List.cons_append, List.length_cons, List.length_append]; rfl, ?_⟩
  rw [List.cons_append, tcps_cons, tcps_append, List.length_append, List.length_append, show tcps [Tk.rp] = [41] by decide, show Tk.lp.str.cps.toList = [40] by decide, Nat.add_comm]
  rfl
theorem wrap_lens {b : Prop} [Decidable b] (ts : List Tk) : (wrapIf b ts).length ≤ ts.length + 2 ∧ (tcps (wrapIf b ts)).length ≤ (tcps ts).length + 2 := by
  unfold wrapIf
  split
  · exact ⟨Nat.le_of_eq (lp_len ts).1, Nat.le_of_eq (lp_len ts).2⟩
  · exact ⟨Nat.le_add_right .., Nat.le_add_right ..⟩
theorem wt_two {a b c d x y o : Nat} (h1 : x ≤ c + 2) (h2 : y ≤ d + 2) (h3 : c ≤ a) (h4 : d ≤ b) (ho : o ≤ 3) : x + (y + o) ≤ a + b + 7 :=
  Nat.le_trans (Nat.add_le_add (Nat.le_trans h1 (Nat.add_le_add_right h3 2)) (Nat.add_le_add (Nat.le_trans h2 (Nat.add_le_add_right h4 2)) ho)) (Nat.le_of_eq (Nat.add_add_add_comm a 2 b 5))
theorem wt_one {k y z w : Nat} (hk : k ≤ 2) (hy : y = z + 2) (hz : z ≤ w) : k + y ≤ w + 5 :=
  Nat.le_trans (Nat.add_le_add hk (hy ▸ Nat.add_le_add_right hz 2)) (Nat.add_comm 2 (w + 2) ▸ Nat.le_succ (w + 4))
theorem toks_len (e : Ex) : e.Fit → e.toks.length ≤ e.wt ∧ (tcps e.toks).length ≤ e.wt := by
  induction e with
  | num n =>
    intro h
    refine ⟨(by decide : 1 ≤ 11), ?_⟩
    show ((Tk.num n).str.cps.toList ++ []).length ≤ 11
    rw [List.append_nil, Array.length_toList]
    exact Nat.le_trans (num_len (n := n) (Nat.lt_trans (show n < 2000 from h) (by decide))) (by decide)
  | bin o l r ihl ihr =>
    intro h
    have hl := ihl h.1
    have hr := ihr h.2.1
    have w1 := wrap_lens (b := l.rank < o.rank) l.toks
    have w2 := wrap_lens (b := r.rank ≤ o.rank) r.toks
    refine ⟨?_, ?_⟩
    · show (wrapIf (l.rank < o.rank) l.toks ++ .op o :: wrapIf (r.rank ≤ o.rank) r.toks).length ≤ l.wt + r.wt + 7
      rw [List.length_append]
      exact wt_two w1.1 w2.1 hl.1 hr.1 (by decide : 1 ≤ 3)
    · show (tcps (wrapIf (l.rank < o.rank) l.toks ++ .op o :: wrapIf (r.rank ≤ o.rank) r.toks)).length ≤ l.wt + r.wt + 7
      rw [tcps_append, tcps_cons, List.length_append, List.length_append, Nat.add_comm (List.length _) (List.length (tcps (wrapIf (r.rank ≤ o.rank) r.toks)))]
      exact wt_two w1.2 w2.2 hl.2 hr.2 (sign_len o)
  | inv k e ih =>
    intro h
    have he := ih h.2
    refine ⟨?_, ?_⟩
    · show (List.replicate k Tk.til ++ (Tk.lp :: e.toks ++ [Tk.rp])).length ≤ e.wt + 5
      rw [List.length_append, List.length_replicate]
      exact wt_one (h.1.elim (fun q => Nat.le_trans (Nat.le_of_eq q) (by decide)) Nat.le_of_eq) (lp_len e.toks).1 he.1
    · show (tcps (List.replicate k Tk.til ++ (Tk.lp :: e.toks ++ [Tk.rp]))).length ≤ e.wt + 5
      rw [tcps_append, List.length_append]
      refine wt_one ?_ (lp_len e.toks).2 he.2
      rcases h.1 with rfl | rfl <;> decide
end Mine

end
section
/- part Bits -/
open PySem PySem.W PyProof.Rows PySem.Builtin.Int
namespace Mine
noncomputable def InB (n : Nat) (x : Int) : Prop := -((2 ^ n : Nat) : Int) ≤ x ∧ x < ((2 ^ n : Nat) : Int)
theorem InB.not {n : Nat} {x : Int} (h : InB n x) : InB n (Builtin.bitNot x) := ⟨Int.le_sub_one_of_lt (Int.neg_lt_neg h.2), Int.sub_one_lt_of_le (Int.neg_le_of_neg_le h.1)⟩
theorem InB.nat {n k : Nat} (h : k < 2 ^ n) : InB n (k : Int) := ⟨Int.le_trans (Int.neg_nonpos_of_nonneg (Int.natCast_nonneg _)) (Int.natCast_nonneg _), Int.ofNat_lt.mpr h⟩
theorem InB.sub {n k : Nat} {x : Int} (h0 : 0 ≤ x) (h : InB n x) : InB n (x - ((x.toNat &&& k : Nat) : Int)) :=
  ⟨Int.le_trans (Int.neg_nonpos_of_nonneg (Int.natCast_nonneg _)) (Int.sub_nonneg_of_le (Int.le_trans (Int.ofNat_le.mpr Nat.and_le_left) (Int.le_of_eq (Int.toNat_of_nonneg h0)))), Int.lt_of_le_of_lt (Int.sub_le_self x (Int.natCast_nonneg _)) h.2⟩
theorem InB.lt {n : Nat} {x : Int} (h0 : 0 ≤ x) (h : InB n x) : x.toNat < 2 ^ n := (Int.toNat_lt h0).mpr h.2
theorem not_pos {x : Int} (h : ¬ 0 ≤ x) : 0 ≤ Builtin.bitNot x := Int.le_sub_one_of_lt (Int.neg_pos_of_neg (Int.not_le.mp h))
theorem InB.and {n : Nat} {x y : Int} (hx : InB n x) (hy : InB n y) : InB n (Builtin.bitAnd x y) := by
  unfold Builtin.bitAnd
  cases hb : decide (0 ≤ x) <;> cases hc : decide (0 ≤ y)
  · exact (InB.nat (Nat.or_lt_two_pow (hx.not.lt (not_pos (of_decide_eq_false hb))) (hy.not.lt (not_pos (of_decide_eq_false hc))))).not
  · exact hy.sub (of_decide_eq_true hc)
  · exact hx.sub (of_decide_eq_true hb)
  · exact .nat (Nat.lt_of_le_of_lt Nat.and_le_left (hx.lt (of_decide_eq_true hb)))
theorem InB.or {n : Nat} {x y : Int} (hx : InB n x) (hy : InB n y) : InB n (Builtin.bitOr x y) := (hx.not.and hy.not).not
theorem inB_of {m n : Nat} {x : Int} (h : intBits x ≤ m) (hmn : m ≤ n) : InB n x :=
  have h2 := Int.ofNat_lt.mpr (Nat.lt_of_lt_of_le (intBits_le_iff.mp h) (Nat.pow_le_pow_right (by decide) hmn))
  ⟨Int.neg_le_of_neg_le (Int.le_trans (Int.natAbs_neg x ▸ Int.le_natAbs) (Int.le_of_lt h2)), Int.lt_of_le_of_lt Int.le_natAbs h2⟩
theorem bits_of {n : Nat} {x : Int} (h : InB n x) : intBits x ≤ n + 1 := by
  have hp : 2 ^ n < 2 ^ (n + 1) := Nat.pow_lt_pow_succ (by decide)
  cases x with
  | ofNat k => exact intBits_le_iff.mpr (Nat.lt_trans (Int.ofNat_lt.mp h.2) hp)
  | negSucc k => exact intBits_le_iff.mpr (Nat.lt_of_le_of_lt (Int.ofNat_le.mp (Int.le_of_neg_le_neg (show -((2 ^ n : Nat) : Int) ≤ -((k + 1 : Nat) : Int) from h.1))) hp)
theorem ite_some {p : Prop} [Decidable p] {x v : Int} (h : (if p then none else some x) = some v) : x = v := by
  by_cases hp : p
  · rw [if_pos hp] at h; cases h
  · rw [if_neg hp] at h; exact Option.some.inj h
theorem op_bits {o : Op} {a b v : Int} {m n : Nat} (ha : intBits a ≤ m) (hb : intBits b ≤ n) (hf : o.fits b) (hv : o.val a b = some v) : intBits v ≤ m + n + 7 := by
  have hmax : max m n ≤ m + n := Nat.max_le.mpr ⟨Nat.le_add_right m n, Nat.le_add_left n m⟩
  have h1 : max m n + 1 ≤ m + n + 7 := Nat.add_le_add hmax (by decide)
  have hm : m ≤ m + n + 7 := Nat.le_trans (Nat.le_add_right m n) (Nat.le_add_right _ 7)
  have or := bits_of ((inB_of ha (Nat.le_max_left m n)).or (inB_of hb (Nat.le_max_right m n)))
  have and := bits_of ((inB_of ha (Nat.le_max_left m n)).and (inB_of hb (Nat.le_max_right m n)))
  have pw : ∀ {q : Int}, 0 ≤ q ∧ q ≤ 6 → intBits (2 ^ q.toNat) ≤ 7 := fun hq =>
    (by decide : ∀ n < 7, intBits (2 ^ n) ≤ 7) _ ((Int.toNat_lt hq.1).mpr (Int.lt_of_le_of_lt hq.2 (by decide)))
  cases o with
  | bor => exact Option.some.inj hv ▸ Nat.le_trans or h1
  | band => exact Option.some.inj hv ▸ Nat.le_trans and h1
  | xor => exact Option.some.inj hv ▸ Nat.le_trans (intBits_sub_le or and) (show _ ≤ m + n + 1 + 6 from Nat.add_le_add (Nat.max_le.mpr ⟨Nat.add_le_add_right hmax 1, Nat.add_le_add_right hmax 1⟩) (by decide))
  | shl => exact Option.some.inj hv ▸ Nat.le_trans (intBits_mul_le ha (pw (hf (.inl rfl)))) (Nat.add_le_add_right (Nat.le_add_right m n) 7)
  | shr => exact Option.some.inj hv ▸ Nat.le_trans (intBits_fdiv_le ha) hm
  | add => exact Option.some.inj hv ▸ Nat.le_trans (intBits_add_le ha hb) h1
  | sub => exact Option.some.inj hv ▸ Nat.le_trans (intBits_sub_le ha hb) h1
  | mul => exact Option.some.inj hv ▸ Nat.le_trans (intBits_mul_le ha hb) (Nat.le_add_right _ 7)
  | fdiv => exact ite_some hv ▸ Nat.le_trans (intBits_fdiv_le ha) hm
  | mod => exact ite_some hv ▸ Nat.le_trans (intBits_fmod_le ha hb) (Nat.le_trans hmax (Nat.le_add_right _ 7))
theorem wt_pos (e : Ex) : 1 ≤ e.wt := by
  cases e with
  | num n => exact (by decide : 1 ≤ 11)
  | bin o l r => exact Nat.le_add_left 1 (l.wt + r.wt + 6)
  | inv k e => exact Nat.le_add_left 1 (e.wt + 4)
theorem val_two {o : Op} {x y : Option Int} {v : Int} (h : o.val? x y = some v) : ∃ a b, x = some a ∧ y = some b ∧ o.val a b = some v := by
  cases x with
  | none => cases h
  | some a =>
    cases y with
    | none => cases h
    | some b => exact ⟨a, b, rfl, rfl, h⟩
theorem inv_bits {x : Int} {m : Nat} (hm : 1 ≤ m) (hx : intBits x ≤ m) : intBits (-1 - x) ≤ m + 1 :=
  Nat.le_trans (intBits_sub_le (m := 1) (by decide) hx) (Nat.add_le_add_right (Nat.max_le.mpr ⟨hm, Nat.le_refl _⟩) 1)
theorem val_bits (e : Ex) : ∀ v : Int, e.Fit → e.val = some v → intBits v ≤ e.wt := by
  induction e with
  | num n => exact fun v h hv => Option.some.inj hv ▸ intBits_le_iff.mpr (Nat.lt_trans (show n < 2000 from h) (by decide : 2000 < 2 ^ 11))
  | bin o l r ihl ihr =>
    intro v h hv
    obtain ⟨a, b, hl, hr, hv⟩ := val_two hv
    exact op_bits (ihl a h.1 hl) (ihr b h.2.1 hr) (h.2.2 b hr) hv
  | inv k e ih =>
    intro v h hv
    obtain ⟨a, he, rfl⟩ := Option.map_eq_some_iff.mp (show e.val.map (invs k) = some v from hv)
    have h1 := inv_bits (wt_pos e) (ih a h.2 he)
    rcases h.1 with rfl | rfl
    · exact Nat.le_trans h1 (Nat.add_le_add_left (by decide : 1 ≤ 5) _)
    · exact Nat.le_trans (inv_bits (Nat.le_add_left ..) h1) (Nat.add_le_add_left (by decide : 2 ≤ 5) _)
theorem fit_ok (e : Ex) : e.Fit → e.wt ≤ 4000 → e.Ok := by
  induction e with
  | num n => exact fun h _ => Nat.lt_trans (show n < 2000 from h) (by decide)
  | bin o l r ihl ihr =>
    exact fun h hw => ⟨ihl h.1 (Nat.le_trans (Nat.le_trans (Nat.le_add_right ..) (Nat.le_add_right _ 7)) hw), ihr h.2.1 (Nat.le_trans (Nat.le_trans (Nat.le_add_left ..) (Nat.le_add_right _ 7)) hw), h.2.2, fun v hv => Nat.le_trans (val_bits _ v h hv) hw⟩
  | inv k e ih =>
    exact fun h hw => ⟨h.1.elim (fun q => Nat.le_trans (Nat.le_of_eq q) (by decide)) Nat.le_of_eq, ih h.2 (Nat.le_trans (Nat.le_add_right _ 5) hw), fun v hv => Nat.le_trans (val_bits _ v h hv) hw⟩
theorem fit_sm {e : Ex} (h : e.Fit) (hw : e.wt ≤ 4000) : ∀ v, e.val = some v → Sm v := fun v hv => Nat.le_trans (val_bits e v h hv) hw
end Mine
namespace Mine
section
variable {prog : Program} {w : World} {A : Around} {E : Value → Shared → Prop} {s : Shared} {h₀ : Heap} {L : Addr} {news : List (Addr × Obj)} {Q : Value → Shared → Prop}
theorem item_at {value slice : Expr} {l : Addr} {vs : List Value} {n : Nat} {k : Int} {u : Tok} {v : Value} (N : News h₀ L s.heap news) (hm : (l, listOf vs.toArray n) ∈ news) (h0 : 0 ≤ k) (h1 : k < 2 ^ 63) (hx : vs[k.toNat]? = some v) (h : Q v s)
    (hs : subscripted slice false (.ref l) (.int k u) = operate [.ref l, .int k u] (getItem (.ref l) (.int k u)) := by with_unfolding_all rfl) :
    wpAny (model prog w) A (subscriptTail value slice (.ref l) (.int k u)) Q E s := by
  have hl : s.heap.IsList l vs.toArray := ⟨_, (N _ hm).1, rfl, n, rfl⟩
  exact tail_any hl.typeIs slot_list_getitem.lookup (wpAny_getItem_list hl h0 h1 (by simpa using hx) h) hs
theorem sign_at {value slice : Expr} {l : Addr} {vs : List Value} {n : Nat} {k : Int} {u : Tok} (N : News h₀ L s.heap ((l, listOf vs.toArray n) :: news)) (hk : 0 ≤ k ∧ k < 10)
    (hv : ∀ i, i < 10 → ∃ t, vs[i]? = some (.str (opAt i).sign t)) (h : ∀ t, News h₀ L s.heap news → Q (.str (opAt k.toNat).sign t) s)
    (hs : subscripted slice false (.ref l) (.int k u) = operate [.ref l, .int k u] (getItem (.ref l) (.int k u)) := by with_unfolding_all rfl) :
    wpAny (model prog w) A (subscriptTail value slice (.ref l) (.int k u)) Q E s := by
  obtain ⟨t, ht⟩ := hv k.toNat ((Int.toNat_lt hk.1).mpr hk.2)
  exact item_at N (List.mem_cons_self ..) hk.1 (Int.lt_trans hk.2 (by decide)) ht (h t fun p hp => N p (List.mem_cons_of_mem _ hp)) hs
end
set_option genSizeOf false in
set_option genInjectivity false in
structure JS where
  P : Addr
  cn : Nat
  vs : List Value
  es : List Ex
  tl : List (Addr × Obj)
end Mine
namespace Mine
section
variable {prog : Program} {w : World} {A : Around} {E : Value → Shared → Prop} {s : Shared} {h₀ : Heap} {L : Addr} {news : List (Addr × Obj)} {Q : Value → Shared → Prop}
theorem part_at {value slice : Expr} {l : Addr} {vs : List Value} {es : List Ex} {tl : List (Addr × Obj)} {n : Nat} {k : Int} {u : Tok} (N : News h₀ L s.heap news) (hm : (l, listOf vs.toArray n) ∈ news) (hT : TreesIn tl vs es) (h0 : 0 ≤ k) (h1 : k < (es.length : Int)) (h2 : es.length < 1000)
    (h : ∀ a e x y z nn, (a, tupE e x y z nn) ∈ tl → es[k.toNat]? = some e → vs[k.toNat]? = some (.ref a) → Q (.ref a) s)
    (hs : subscripted slice false (.ref l) (.int k u) = operate [.ref l, .int k u] (getItem (.ref l) (.int k u)) := by with_unfolding_all rfl) :
    wpAny (model prog w) A (subscriptTail value slice (.ref l) (.int k u)) Q E s := by
  have hk : k.toNat < es.length := (Int.toNat_lt h0).mpr h1
  obtain ⟨a, x, y, z, nn, hv, hin⟩ := hT.get (List.getElem?_eq_getElem hk)
  exact item_at N hm h0 (Int.lt_trans h1 (Int.lt_trans (Int.ofNat_lt.mpr h2) (by decide))) hv (h a _ x y z nn hin (List.getElem?_eq_getElem hk) hv) hs
theorem len_at {l : Addr} {vs : List Value} {n q : Nat} (N : News h₀ L s.heap news) (hm : (l, listOf vs.toArray n) ∈ news) (hq : vs.length = q) (h1 : q < 1000) (h : Q (.int (q : Int) (s.toks + 1)) { s with toks := s.toks + 1 + 1 }) :
    wpAny (model prog w) A (call (.builtin "len") [.ref l]) Q E s := by
  have hl : s.heap.IsList l vs.toArray := ⟨_, (N _ hm).1, rfl, n, rfl⟩
  refine Calls.call_len_list hl (by rw [List.size_toArray, hq]; exact Int.lt_trans (Int.ofNat_lt.mpr h1) (by decide)) ?_
  rw [List.size_toArray, hq]
  exact h
theorem mod_gen {a b : Int} {t u : Tok} (hb : 0 < b) (h : ∀ r, 0 ≤ r → r < b → Q (.int r s.toks) { s with toks := s.toks + 1 }) : wpAny (model prog w) A (binaryOp .Mod (.int a t) (.int b u)) Q E s :=
  mod_int' (Int.ne_of_gt hb) (h _ (Int.fmod_nonneg_of_pos _ hb) (Int.fmod_lt_of_pos _ hb))
end
end Mine

end
section
/- part JoinR -/
open PySem PySem.W PyProof.Rows
namespace Mine
noncomputable abbrev frMap {h₀ h : Heap} {L : Addr} {m : Str → Option Value} (_ : Fr h₀ L h m) : Str → Option Value := m
theorem lt10 {P : Nat → Prop} (h0 : P 0) (h1 : P 1) (h2 : P 2) (h3 : P 3) (h4 : P 4) (h5 : P 5) (h6 : P 6) (h7 : P 7) (h8 : P 8) (h9 : P 9) : ∀ i, i < 10 → P i
  | 0, _ => h0 | 1, _ => h1 | 2, _ => h2 | 3, _ => h3 | 4, _ => h4 | 5, _ => h5 | 6, _ => h6 | 7, _ => h7 | 8, _ => h8 | 9, _ => h9
  | n + 10, h => absurd h (Nat.not_lt.mpr (Nat.le_add_left 10 n))
theorem tup7 {a b c : Tok} {n : Nat} : tupE (.num 7) a b c n = { cls := .type "tuple", data := .seq #[.str (Str.ofString "7") a, .int 8 b, .int 7 c] n } := by
  show ({ cls := .type "tuple", data := .seq #[.str (tstr (Ex.num 7).toks) a, .int 8 b, .int 7 c] n } : Obj) = _
  rw [show tstr (Ex.num 7).toks = Str.ofString "7" by decide]
/-- what the joinings ask of a part -/
noncomputable def PartOk (k : Nat) (e : Ex) : Prop := e.Fit ∧ e.wt ≤ k
theorem PartOk.tstr {k : Nat} {e : Ex} (h : PartOk k e) (hk : k ≤ 4000) : (tstr e.toks).length ≤ 5000 := by
  rw [tstr_len]
  exact Nat.le_trans (toks_len e h.1).2 (Nat.le_trans h.2 (Nat.le_trans hk (by decide)))
theorem PartOk.sm {k : Nat} {e : Ex} (h : PartOk k e) (hk : k ≤ 4000) : ∀ a, e.val = some a → Sm a := fit_sm h.1 (Nat.le_trans h.2 hk)
theorem wt_mem {e : Ex} {es : List Ex} (h : e ∈ es) : e.wt ≤ (es.map Ex.wt).sum := by
  induction h with
  | head xs => exact Nat.le_add_right ..
  | tail x _ ih => exact Nat.le_trans ih (Nat.le_add_left ..)
theorem up4 {k : Nat} (h : k ≤ 3000) : k ≤ 4000 := Nat.le_trans h (by decide)
theorem mod7 {x : Option Int} {b : Int} (hb : Op.mod.val? x (some 7) = some b) : 0 ≤ b ∧ b ≤ 6 := by
  cases x with
  | none => exact nomatch hb
  | some a => exact Option.some.inj (show some (a.fmod 7) = some b from hb) ▸ ⟨Int.fmod_nonneg_of_pos a (by decide), Int.lt_add_one_iff.mp (Int.fmod_lt_of_pos a (by decide))⟩
theorem mod_fits (b : Int) : Op.mod.fits b := fun h => nomatch h
section
variable {w : World} {mg mb : Str → Option Value} {mean : ExcName → Option Value} {A₀ : Around} {dp un : Nat} {gs : Option (List Code)} {base h₀ : Heap} {outer : List Env} {env : Env} {L : Addr} {m : Str → Option Value} {news : List (Addr × Obj)} {s : Shared} {R : Result → Shared → Prop}
theorem pair7_call {a1 a2 : Addr} {l : Ex} {k : Nat} {t1 t2 t3 t4 t5 t6 ty : Tok} {n1 n2 : Nat}
    (B : Below A₀ base outer h₀) (F : Fr h₀ L s.heap m) (X : (hd.heap_39 w.params).In h₀) (N : News h₀ L s.heap news) (T : Top hd.view_39 (looseW hd.view_39 [Str.ofString "EXACT_TOKEN_TYPES"]) mean mg mb h₀)
    (hf : env.frame = some L) (hke : env.scope.kind = .function) (hdep : dp < 400)
    (h1 : (a1, tupE l t1 t2 t3 n1) ∈ news) (h2 : (a2, ({ cls := .type "tuple", data := .seq #[.str (Str.ofString "7") t4, .int 8 t5, .int 7 t6] n2 } : Obj)) ∈ news) (hl : PartOk k l) (hk : k ≤ 3000)
    (h : ∀ h' tk a e x y z, PartOk (k + 18) e → (∀ b, e.val = some b → 0 ≤ b ∧ b ≤ 6) → Fr h₀ L h' m → News h₀ L h' ((a, tupE e x y z 0) :: news) → (∀ p ∈ news, p.1 ≠ a) → R (.ok (.ret (.ref a))) { s with heap := h', toks := tk }) :
    codeAny (model PySem.Challenge.rw_pg0154_01.row.prog w) ⟨none, dp, some (env :: outer), gs, un⟩ (.call (.ref 157) ⟨[.ref a1, .str (Str.ofString "%") ty, .ref a2], []⟩) R s := by
  exact pair_call (o := .mod) (l := l) (r := .num 7) B F X N T hf hke hdep h1 (tup7.symm ▸ h2) (hl.tstr (up4 hk)) (by decide) (hl.sm (up4 hk)) (fun a ha => ⟨fit_sm (e := .num 7) (show (7 : Nat) < 2000 by decide) (show 11 ≤ 4000 by decide) a ha, mod_fits a⟩)
    (fun h' tk a x y z F' N' hne => h h' tk a (.bin .mod l (.num 7)) x y z ⟨⟨hl.1, (by decide : (7 : Nat) < 2000), fun b _ => mod_fits b⟩, Nat.add_le_add_right hl.2 18⟩ (fun b hb => mod7 hb) F' N' hne)
/-- the joining itself -/
theorem pairP_call {a1 a2 : Addr} {o : Op} {l r : Ex} {k j : Nat} {t1 t2 t3 t4 t5 t6 ty : Tok} {n1 n2 : Nat}
    (B : Below A₀ base outer h₀) (F : Fr h₀ L s.heap m) (X : (hd.heap_39 w.params).In h₀) (N : News h₀ L s.heap news) (T : Top hd.view_39 (looseW hd.view_39 [Str.ofString "EXACT_TOKEN_TYPES"]) mean mg mb h₀)
    (hf : env.frame = some L) (hke : env.scope.kind = .function) (hdep : dp < 400)
    (h1 : (a1, tupE l t1 t2 t3 n1) ∈ news) (h2 : (a2, tupE r t4 t5 t6 n2) ∈ news) (hl : PartOk k l) (hr : PartOk j r) (hk : k + j ≤ 3000) (hfit : ∀ b, r.val = some b → o.fits b)
    (h : ∀ h' tk a e x y z, PartOk (k + j + 7) e → Fr h₀ L h' m → News h₀ L h' ((a, tupE e x y z 0) :: news) → (∀ p ∈ news, p.1 ≠ a) → R (.ok (.ret (.ref a))) { s with heap := h', toks := tk }) :
    codeAny (model PySem.Challenge.rw_pg0154_01.row.prog w) ⟨none, dp, some (env :: outer), gs, un⟩ (.call (.ref 157) ⟨[.ref a1, .str o.sign ty, .ref a2], []⟩) R s := by
  have hk1 := up4 (Nat.le_trans (Nat.le_add_right k j) hk)
  have hk2 := up4 (Nat.le_trans (Nat.le_add_left j k) hk)
  exact pair_call (o := o) (l := l) (r := r) B F X N T hf hke hdep h1 h2 (hl.tstr hk1) (hr.tstr hk2) (hl.sm hk1) (fun a ha => ⟨hr.sm hk2 a ha, hfit a ha⟩)
    (fun h' tk a x y z F' N' hne => h h' tk a (.bin o l r) x y z ⟨⟨hl.1, hr.1, hfit⟩, Nat.add_le_add_right (Nat.add_le_add hl.2 hr.2) 7⟩ F' N' hne)
end
/-- behind the first If of a turn -/
structure Mid1 (g : Heap) (L : Addr) (nx : List (Addr × Obj)) (k : Nat) (o : Op) (m0 : Str → Option Value) (s0 : Shared) (fl : Flow) (s' : Shared) : Prop where
  fl : fl = .next
  ex : ∃ hh tk aR eR x y z nn, s' = { s0 with heap := hh, toks := tk } ∧ PartOk k eR ∧ (∀ b, eR.val = some b → o.fits b) ∧ Fr g L hh (fun y => if y = Str.ofString "right" then some (.ref aR) else m0 y) ∧ News g L hh ((aR, tupE eR x y z nn) :: nx)
theorem Mid1.elim {P : Flow → Shared → Prop} {g : Heap} {L : Addr} {nx : List (Addr × Obj)} {k : Nat} {o : Op} {m0 : Str → Option Value} {s0 s' : Shared} {fl : Flow} (H : Mid1 g L nx k o m0 s0 fl s')
    (go : ∀ hh tk aR eR x y z nn, PartOk k eR → (∀ b, eR.val = some b → o.fits b) → Fr g L hh (fun y => if y = Str.ofString "right" then some (.ref aR) else m0 y) → News g L hh ((aR, tupE eR x y z nn) :: nx) → P .next { s0 with heap := hh, toks := tk }) : P fl s' := by
  obtain ⟨rfl, hh, tk, aR, eR, x, y, z, nn, rfl, h1, h2, F, N⟩ := H
  exact go hh tk aR eR x y z nn h1 h2 F N
theorem Mid1.intro {g hh : Heap} {L a b : Addr} {nx : List (Addr × Obj)} {k : Nat} {o : Op} {mm m0 : Str → Option Value} {s0 s' : Shared} {e : Ex} {tk : Nat} {x y z : Tok} {nn : Nat} {ob : Obj} (F : Fr g L hh mm) (N : News g L hh ((a, tupE e x y z nn) :: (b, ob) :: nx)) (hp : PartOk k e)
    (hv : ∀ b, e.val = some b → 0 ≤ b ∧ b ≤ 6) (ho : o = .shl ∨ o = .shr) (hm : ∀ y, mm y = if y = Str.ofString "right" then some (.ref a) else m0 y) (hs : s' = { s0 with heap := hh, toks := tk }) : Mid1 g L nx k o m0 s0 .next s' := by
  refine ⟨rfl, hh, tk, a, e, x, y, z, nn, hs, hp, fun b hb _ => hv b hb, ?_, fun p hp => N p ?_⟩
  · rw [← show mm = _ from funext hm]; exact F
  · rcases List.mem_cons.mp hp with rfl | hp
    · exact List.mem_cons_self ..
    · exact List.mem_cons_of_mem _ (List.mem_cons_of_mem _ hp)
theorem Mid1.stay {g hh : Heap} {L a : Addr} {nx : List (Addr × Obj)} {k j : Nat} {o : Op} {m0 : Str → Option Value} {s0 s' : Shared} {e : Ex} {tk : Nat} {x y z : Tok} {nn : Nat} (F : Fr g L hh m0) (N : News g L hh nx) (hm : (a, tupE e x y z nn) ∈ nx)
    (hp : PartOk j e) (hjk : e.wt ≤ k) (hr : m0 (Str.ofString "right") = some (.ref a)) (ho : ¬ (o = .shl ∨ o = .shr)) (hs : s' = { s0 with heap := hh, toks := tk }) : Mid1 g L nx k o m0 s0 .next s' := by
  refine ⟨rfl, hh, tk, a, e, x, y, z, nn, hs, ⟨hp.1, hjk⟩, fun b _ hc => absurd hc ho, ?_, ?_⟩
  · have e : (fun y => if y = Str.ofString "right" then some (.ref a) else m0 y) = m0 := by
      funext y
      split
      · next h => rw [h, hr]
      · rfl
    rw [e]
    exact F
  · intro p hp'
    rcases List.mem_cons.mp hp' with rfl | hp'
    · exact N _ hm
    · exact N _ hp'
structure Mark2 : Prop where
section
variable {prog : Program} {w : World} {A : Around} {E : Value → Shared → Prop} {s : Shared} {h₀ : Heap} {L : Addr} {news : List (Addr × Obj)} {Q : Value → Shared → Prop}
theorem part_at2 {value slice : Expr} {l : Addr} {vs : List Value} {es : List Ex} {tl : List (Addr × Obj)} {n : Nat} {k : Int} {u : Tok} (N : News h₀ L s.heap news) (hm : (l, listOf vs.toArray n) ∈ news) (hT : TreesIn tl vs es) (hall : ∀ e ∈ es, PartOk 216 e) (hsub : ∀ p ∈ tl, p ∈ news) (h0 : 0 ≤ k) (h1 : k < (es.length : Int)) (h2 : es.length < 1000)
    (h : ∀ a e x y z nn, (a, tupE e x y z nn) ∈ news → es[k.toNat]? = some e → PartOk e.wt e → e.wt ≤ 216 → Q (.ref a) s)
    (hs : subscripted slice false (.ref l) (.int k u) = operate [.ref l, .int k u] (getItem (.ref l) (.int k u)) := by with_unfolding_all rfl) :
    wpAny (model prog w) A (subscriptTail value slice (.ref l) (.int k u)) Q E s :=
  part_at N hm hT h0 h1 h2 (fun a e x y z nn hin he _ => h a e x y z nn (hsub _ hin) he ⟨(hall _ (List.mem_of_getElem? he)).1, Nat.le_refl _⟩ (hall _ (List.mem_of_getElem? he)).2) hs
end
end Mine

end
section
/- part JoinS -/
open PySem PySem.W PyProof.Rows
namespace Mine
section
variable {prog : Program} {w : World} {A : Around} {E : Value → Shared → Prop} {s : Shared} {h₀ : Heap} {L : Addr} {m : Str → Option Value} {news : List (Addr × Obj)} {Q : Value → Shared → Prop}
theorem parts_upto {value slice : Expr} {l : Addr} {vs : List Value} {n : Nat} {k : Int} {u : Tok} (F : Fr h₀ L s.heap m) (N : News h₀ L s.heap news) (hm : (l, listOf vs.toArray n) ∈ news) (h0 : 0 ≤ k) (hq : vs.length ≤ 6)
    (h : ∀ a h', Fr h₀ L h' m → News h₀ L h' ((a, listOf (vs.take k.toNat).toArray 0) :: news) → (∀ p ∈ news, p.1 ≠ a) → Q (.ref a) { s with heap := h' })
    (hs : subscripted slice false (.ref l) (.ref s.heap.objs.size) = operate [.ref s.heap.objs.size, .ref l] (getItem (.ref l) (.ref s.heap.objs.size)) := by with_unfolding_all rfl)
    (ht : ∀ r, letTemporaryGo value (.ref l) r = pure () := by intro _; with_unfolding_all rfl) :
    wpAny (model prog w) A (subscriptTail value slice (.ref l) (.ref s.heap.objs.size)) Q E { s with heap := s.heap.push { cls := .type "slice", data := .fields #[.none, .int k u, .none] } } := by
  have hl : s.heap.IsList l vs.toArray := ⟨_, (N _ hm).1, rfl, n, rfl⟩
  refine slice_list F N hl .none (.int k u) (fun h' F' N' => ?_) hs ht (by rw [List.size_toArray]; simp only [PySem.sizeLine_eq]; omega)
  have ek : k = (k.toNat : Int) := by omega
  rw [ek, slicePick_upto'] at N'
  refine h _ h' F' N' fun p hp e => ?_
  have q1 : p.1 = s.heap.objs.size + 1 := e
  have q2 : p.1 < s.heap.objs.size := Heap.lt_size (N p hp).1
  rw [q1] at q2
  exact Nat.lt_irrefl _ (Nat.lt_trans (Nat.lt_succ_self _) q2)
theorem parts_from {value slice : Expr} {l : Addr} {vs : List Value} {n : Nat} {k : Int} {u : Tok} (F : Fr h₀ L s.heap m) (N : News h₀ L s.heap news) (hm : (l, listOf vs.toArray n) ∈ news) (h0 : 0 ≤ k) (hq : vs.length ≤ 6)
    (h : ∀ a h', Fr h₀ L h' m → News h₀ L h' ((a, listOf (vs.drop k.toNat).toArray 0) :: news) → (∀ p ∈ news, p.1 ≠ a) → Q (.ref a) { s with heap := h' })
    (hs : subscripted slice false (.ref l) (.ref s.heap.objs.size) = operate [.ref s.heap.objs.size, .ref l] (getItem (.ref l) (.ref s.heap.objs.size)) := by with_unfolding_all rfl)
    (ht : ∀ r, letTemporaryGo value (.ref l) r = pure () := by intro _; with_unfolding_all rfl) :
    wpAny (model prog w) A (subscriptTail value slice (.ref l) (.ref s.heap.objs.size)) Q E { s with heap := s.heap.push { cls := .type "slice", data := .fields #[.int k u, .none, .none] } } := by
  have hl : s.heap.IsList l vs.toArray := ⟨_, (N _ hm).1, rfl, n, rfl⟩
  refine slice_list F N hl (.int k u) .none (fun h' F' N' => ?_) hs ht (by rw [List.size_toArray]; simp only [PySem.sizeLine_eq]; omega)
  have ek : k = (k.toNat : Int) := by omega
  rw [ek, slicePick_from'] at N'
  refine h _ h' F' N' fun p hp e => ?_
  have q1 : p.1 = s.heap.objs.size + 1 := e
  have q2 : p.1 < s.heap.objs.size := Heap.lt_size (N p hp).1
  rw [q1] at q2
  exact Nat.lt_irrefl _ (Nat.lt_trans (Nat.lt_succ_self _) q2)
end
/-- behind an If about the turns: the text and the rank of e2, the value vv -/
structure Mid2 (g : Heap) (L : Addr) (nx : List (Addr × Obj)) (e2 : Ex) (vv : Option Int) (m0 : Str → Option Value) (s0 : Shared) (fl : Flow) (s' : Shared) : Prop where
  fl : fl = .next
  ex : ∃ hh tk x r z, s' = { s0 with heap := hh, toks := tk } ∧ Fr g L hh (fun y => if y = Str.ofString "value" then some (encV vv z) else if y = Str.ofString "rank" then some (.int (e2.rank : Int) r) else if y = Str.ofString "text" then some (.str (tstr e2.toks) x) else m0 y) ∧ News g L hh nx
theorem tstr_inv {k : Nat} {e : Ex} : tstr (Ex.inv k e).toks = tstr (List.replicate k .til) ++ (Str.ofString "(" ++ tstr e.toks ++ Str.ofString ")") := by
  rw [Ex.toks, tstr_append, List.cons_append, tstr_cons, tstr_append, tstr_one, Str.append_assoc]
  rfl
theorem Mid2.elim {P : Flow → Shared → Prop} {g : Heap} {L : Addr} {nx : List (Addr × Obj)} {e2 : Ex} {vv : Option Int} {m0 : Str → Option Value} {s0 s' : Shared} {fl : Flow} (H : Mid2 g L nx e2 vv m0 s0 fl s')
    (go : ∀ hh tk x r z, Fr g L hh (fun y => if y = Str.ofString "value" then some (encV vv z) else if y = Str.ofString "rank" then some (.int (e2.rank : Int) r) else if y = Str.ofString "text" then some (.str (tstr e2.toks) x) else m0 y) → News g L hh nx → P .next { s0 with heap := hh, toks := tk }) : P fl s' := by
  obtain ⟨rfl, hh, tk, x, r, z, rfl, F, N⟩ := H
  exact go hh tk x r z F N
theorem Mid2.intro {g hh : Heap} {L : Addr} {nx nx' : List (Addr × Obj)} {e2 : Ex} {vv : Option Int} {mm m0 : Str → Option Value} {s0 s' : Shared} {tk : Nat} {x r z : Tok} (F : Fr g L hh mm) (N : News g L hh nx') (hn : ∀ p ∈ nx, p ∈ nx')
    (h1 : mm (Str.ofString "value") = some (encV vv z)) (h2 : mm (Str.ofString "rank") = some (.int (e2.rank : Int) r)) (h3 : mm (Str.ofString "text") = some (.str (tstr e2.toks) x))
    (h4 : ∀ y, y ≠ Str.ofString "value" → y ≠ Str.ofString "rank" → y ≠ Str.ofString "text" → mm y = m0 y) (hs : s' = { s0 with heap := hh, toks := tk }) : Mid2 g L nx e2 vv m0 s0 .next s' := by
  refine ⟨rfl, hh, tk, x, r, z, hs, ?_, fun p hp => N p (hn p hp)⟩
  have e : (fun y => if y = Str.ofString "value" then some (encV vv z) else if y = Str.ofString "rank" then some (.int (e2.rank : Int) r) else if y = Str.ofString "text" then some (.str (tstr e2.toks) x) else m0 y) = mm := by
    funext y
    split
    · next h => rw [h, h1]
    · next q1 =>
      split
      · next h => rw [h, h2]
      · next q2 =>
        split
        · next h => rw [h, h3]
        · next q3 => exact (h4 y q1 q2 q3).symm
  rw [e]
  exact F
end Mine

end
section
/- part JoinT -/
open PySem PySem.W PyProof.Rows
namespace Mine
theorem inv1_text (e : Ex) : tstr (Ex.inv 1 e).toks = Str.ofString "~(" ++ tstr e.toks ++ Str.ofString ")" := by
  rw [tstr_inv, show Str.ofString "~(" = tstr (List.replicate 1 .til) ++ Str.ofString "(" by decide]
  simp only [Str.append_assoc]
theorem inv2_text (e : Ex) : tstr (Ex.inv 2 e).toks = Str.ofString "~~(" ++ tstr e.toks ++ Str.ofString ")" := by
  rw [tstr_inv, show Str.ofString "~~(" = tstr (List.replicate 2 .til) ++ Str.ofString "(" by decide]
  simp only [Str.append_assoc]
/-- the tree behind the turns -/
noncomputable def turned (rt : Int) (e : Ex) : Ex := if rt = 0 then e else .inv rt.toNat e
theorem turned_ok {rt : Int} {e : Ex} {k : Nat} (h : rt = 0 ∨ rt = 1 ∨ rt = 2) (he : PartOk k e) : PartOk (k + 5) (turned rt e) := by
  rcases h with rfl | rfl | rfl
  · exact ⟨he.1, Nat.le_trans he.2 (Nat.le_add_right k 5)⟩
  · exact ⟨⟨.inl rfl, he.1⟩, Nat.add_le_add_right he.2 5⟩
  · exact ⟨⟨.inr rfl, he.1⟩, Nat.add_le_add_right he.2 5⟩
theorem turned_val0 (e : Ex) : (turned 0 e).val = e.val := rfl
theorem turned_val1 (e : Ex) : (turned 1 e).val = e.val.map fun v => -1 - v := rfl
theorem turned_val2 (e : Ex) : (turned 2 e).val = e.val := by
  show e.val.map (invs 2) = e.val
  cases e.val with
  | none => rfl
  | some v => exact congrArg some (Int.sub_sub_self (-1) v)
theorem wt_step {T x D L E : Nat} (h : x ≤ L + E + 30) : T + (x + D) ≤ T + (L + (E + D)) + 30 := by omega
theorem cut_two {es : List Ex} {k : Nat} {eL eE : Ex} (h1 : es[k]? = some eL) (h2 : es[k + 1]? = some eE) : es = es.take k ++ eL :: eE :: es.drop (k + 2) := by
  induction es generalizing k with
  | nil => exact nomatch h1
  | cons a es ih =>
    cases k with
    | succ k => exact congrArg (a :: ·) (ih h1 h2)
    | zero =>
      cases es with
      | nil => exact nomatch h2
      | cons b es => rw [← Option.some.inj h1, ← Option.some.inj h2]; rfl
theorem parts_step {es : List Ex} {k : Nat} {eL eE e2 : Ex} (h1 : es[k]? = some eL) (h2 : es[k + 1]? = some eE) (hw : e2.wt ≤ eL.wt + eE.wt + 30) :
    ((es.take k ++ e2 :: es.drop (k + 2)).map Ex.wt).sum ≤ (es.map Ex.wt).sum + 30 ∧ (es.take k ++ e2 :: es.drop (k + 2)).length + 1 = es.length := by
  have e := cut_two h1 h2
  have q : (es.map Ex.wt).sum = ((es.take k).map Ex.wt).sum + (eL.wt + (eE.wt + ((es.drop (k + 2)).map Ex.wt).sum)) := (congrArg (fun l => (l.map Ex.wt).sum) e).trans (by rw [List.map_append, List.sum_append]; rfl)
  rw [q, List.map_append, List.sum_append, List.length_append]
  exact ⟨wt_step hw, ((congrArg List.length e).trans List.length_append).symm⟩
section
variable {prog : Program} {w : World} {A : Around} {E : Value → Shared → Prop} {s : Shared} {h₀ : Heap} {L : Addr} {m : Str → Option Value} {news : List (Addr × Obj)} {Q : Value → Shared → Prop}
theorem parts_add {a b : Addr} {vs ws : List Value} {n n2 : Nat} (F : Fr h₀ L s.heap m) (N : News h₀ L s.heap news) (ha : (a, listOf vs.toArray n) ∈ news) (hb : (b, listOf ws.toArray n2) ∈ news) (hz : vs.length + ws.length ≤ 20)
    (h : ∀ D h', Fr h₀ L h' m → News h₀ L h' ((D, listOf (vs ++ ws).toArray 0) :: news) → (∀ p ∈ news, p.1 ≠ D) → Q (.ref D) { s with heap := h' }) :
    wpAny (model prog w) A (binaryOp .Add (.ref a) (.ref b)) Q E s :=
  add_lists F N ⟨_, (N _ ha).1, rfl, n, rfl⟩ ⟨_, (N _ hb).1, rfl, n2, rfl⟩ (fun h' F' N' => h _ h' F' N' fun p hp => Nat.ne_of_lt (Heap.lt_size (N p hp).1)) (by rw [PySem.sizeLine_eq]; exact Nat.le_trans hz (by decide))
end
theorem relay {g h : Heap} {L : Addr} {M : Str → Option Value} (ps : List (Str × Value)) (F : Fr g L h M) (hl : ∀ p ∈ ps, M p.1 = some p.2) : Fr g L h (kstB M ps) := by
  rw [show kstB M ps = M from funext fun z => kstB_eq hl (fun _ => rfl)]
  exact F
theorem mem5 {α : Type} {a1 a2 a3 a4 a5 x : α} {l : List α} (h : x ∈ l) : x ∈ a1 :: a2 :: a3 :: a4 :: a5 :: l := List.mem_cons_of_mem _ (List.mem_cons_of_mem _ (List.mem_cons_of_mem _ (List.mem_cons_of_mem _ (List.mem_cons_of_mem _ h))))
theorem mem6 {α : Type} {a1 a2 a3 a4 a5 a6 x : α} {l : List α} (h : x ∈ l) : x ∈ a1 :: a2 :: a3 :: a4 :: a5 :: a6 :: l := mem5 (List.mem_cons_of_mem _ h)
theorem cut20 {a v b : Nat} (h : v ≤ 6) : min a v + (0 + 1) + (v - b) ≤ 20 := Nat.le_trans (Nat.add_le_add (Nat.add_le_add_right (Nat.le_trans (Nat.min_le_right a v) h) _) (Nat.le_trans (Nat.sub_le v b) h)) (by decide)
theorem cut20a {a v : Nat} (h : v ≤ 6) : min a v + (0 + 1) ≤ 20 := Nat.le_trans (Nat.add_le_add_right (Nat.le_trans (Nat.min_le_right a v) h) _) (by decide)
theorem le216 {a k : Nat} (h : a ≤ 66 + 30 * k) (hk : k ≤ 5) : a ≤ 216 := Nat.le_trans h (Nat.add_le_add_left (Nat.mul_le_mul_left 30 hk) 66)
theorem three_of {r : Int} (h0 : 0 ≤ r) (h1 : r < 3) : r = 0 ∨ r = 1 ∨ r = 2 :=
  Int.toNat_of_nonneg h0 ▸ (by decide : ∀ n < 3, ((n : Nat) : Int) = 0 ∨ ((n : Nat) : Int) = 1 ∨ ((n : Nat) : Int) = 2) r.toNat ((Int.toNat_lt h0).mpr h1)
/-- the parts behind a turn -/
theorem parts_next {tl : List (Addr × Obj)} {vs : List Value} {es : List Ex} {dD : Addr} {e2 eL eE : Ex} {x r z : Tok} {k p : Nat} (hT : TreesIn tl vs es) (hlen : es.length + p = 6) (hfit : ∀ e ∈ es, e.Fit) (hwt : (es.map Ex.wt).sum ≤ 66 + 30 * p) (h1 : es[k]? = some eL) (h2 : es[k + 1]? = some eE)
    (hp : PartOk (eL.wt + (eE.wt + 18) + 7 + 5) e2) {q : Nat} (hq : q = p + 1) :
    TreesIn ((dD, tupE e2 x r z 0) :: tl) (vs.take k ++ [.ref dD] ++ vs.drop (k + 2)) (es.take k ++ e2 :: es.drop (k + 2)) ∧ (es.take k ++ e2 :: es.drop (k + 2)).length + q = 6 ∧ (∀ e ∈ es.take k ++ e2 :: es.drop (k + 2), e.Fit) ∧ ((es.take k ++ e2 :: es.drop (k + 2)).map Ex.wt).sum ≤ 66 + 30 * q := by
  subst hq
  have hst := parts_step (e2 := e2) h1 h2 (show e2.wt ≤ eL.wt + eE.wt + 30 from hp.2)
  refine ⟨?_, by rw [← Nat.add_assoc, Nat.add_right_comm, hst.2]; exact hlen, ?_, Nat.le_trans hst.1 (Nat.add_le_add_right hwt 30)⟩
  · rw [List.append_assoc]
    have hm : ∀ q ∈ tl, q ∈ (dD, tupE e2 x r z 0) :: tl := fun q hq => List.mem_cons_of_mem _ hq
    exact TreesIn.append ((hT.take _).mono hm) (.cons (List.mem_cons_self ..) ((hT.drop _).mono hm))
  · intro e he
    rcases List.mem_append.mp he with he | he
    · exact hfit e (List.mem_of_mem_take he)
    rcases List.mem_cons.mp he with rfl | he
    · exact hp.1
    · exact hfit e (List.mem_of_mem_drop he)
/-- the names that the loop's turn does not store stand as they stood -/
noncomputable abbrev Oth (mb m0 : Str → Option Value) : Prop := ∀ z, z ≠ Str.ofString "cell" → z ≠ Str.ofString "parts" → z ≠ Str.ofString "sign" → z ≠ Str.ofString "place" → z ≠ Str.ofString "turns" → z ≠ Str.ofString "right" → z ≠ Str.ofString "text" → z ≠ Str.ofString "rank" → z ≠ Str.ofString "value" → mb z = m0 z
theorem lay_k {P : Prop} {g h : Heap} {L : Addr} {M m0 : Str → Option Value} (ps : List (Str × Value)) (F : Fr g L h M) (hl : ∀ p ∈ ps, M p.1 = some p.2) (hr : Oth M m0) (go : ∀ mb : Str → Option Value, Fr g L h (kstB mb ps) → Oth mb m0 → P) : P := go M (relay ps F hl) hr
theorem stored_no {z : Str} (q3 : z ≠ Str.ofString "sign") (q4 : z ≠ Str.ofString "place") (q5 : z ≠ Str.ofString "turns") (q6 : z ≠ Str.ofString "right") (q7 : z ≠ Str.ofString "text") (q8 : z ≠ Str.ofString "rank") (q9 : z ≠ Str.ofString "value") :
    [Str.ofString "sign", Str.ofString "place", Str.ofString "turns", Str.ofString "right", Str.ofString "text", Str.ofString "rank", Str.ofString "value"].contains z = false := by simp [q3, q4, q5, q6, q7, q8, q9]
end Mine

end
section
/- part JoinU -/
open PySem PySem.W PyProof.Rows
namespace Mine
noncomputable abbrev numEx (k : Int) : Ex := .num k.toNat
theorem num_tup {n : Nat} {a b c : Tok} {k : Nat} : ({ cls := .type "tuple", data := .seq #[.str (Str.ofString (toString (n : Int))) a, .int 8 b, .int (n : Int) c] k } : Obj) = tupE (.num n) a b c k := by
  show _ = ({ cls := .type "tuple", data := .seq #[.str (tstr [Tk.num n]) a, .int 8 b, .int (n : Int) c] k } : Obj)
  rw [tstr_one]
  rfl
theorem num_sum (ns : List Int) : ((ns.map numEx).map Ex.wt).sum = 11 * ns.length := by
  induction ns with
  | nil => rfl
  | cons x xs ih =>
    rw [List.map_cons, List.map_cons, List.sum_cons, ih, List.length_cons]
    show 11 + 11 * xs.length = _
    omega
theorem num_fit {ns : List Int} (h : ∀ k ∈ ns, 0 ≤ k ∧ k < 2000) : ∀ e ∈ ns.map numEx, e.Fit := by
  intro e he
  obtain ⟨k, hk, rfl⟩ := List.mem_map.mp he
  have := h k hk
  show k.toNat < 2000
  omega
section
variable {prog : Program} {w : World} {A : Around} {h₀ : Heap} {L : Addr} {m : Str → Option Value} {env : Env} {elt : Expr} {x : Str} {scope : Scope} {cl : List (Str × Addr)} {s : Shared} {S : List (Addr × Obj) → Prop} {Fin : List Value → List (Addr × Obj) → Prop}
/-- a comprehension over ints that makes each the tuple of a number -/
theorem comp_nums {vs : List Value} {ns : List Int} (hi : IntsAre vs ns) (hb : ∀ k ∈ ns, 0 ≤ k ∧ k < 2000) (hS : ∀ nw, S nw)
    (turn : ∀ (k : Nat) t I oI C oC D m₂ ys nw h tk (E' : Value → Shared → Prop), k < 2000 → LCg.NsObj oC m₂ → m₂ x = some (.int (k : Int) t) → Fr h₀ L h m → News h₀ L h ((I, oI) :: (C, oC) :: (D, LCg.lst ys) :: nw) → LCg.Off3 I C D nw → ((@Ne Nat I C) ∧ (@Ne Nat I D) ∧ (@Ne Nat C D)) →
      wpAny (model prog w) A (eval elt (compEnvC scope cl C env)) (fun y s' => Hold (∃ a b c d, LCg.CompEnd h₀ L m { s with heap := h, toks := tk } I oI C oC D (LCg.lst ys) (fun _ => True) (fun y nw' => y = .ref a ∧ nw' = (a, tupE (.num k) b c d 0) :: nw) y s')) E' { s with heap := h, toks := tk })
    (fin : ∀ ys nw, TreesIn nw ys (ns.map numEx) → Fin ys nw) : LCg.CompRest prog w A h₀ L m env elt x scope cl s S (fun i v => vs.toArray[i]? = some v) Fin vs.toArray.size 0 [] [] := by
  have key : ∀ (j i : Nat) (ys : List Value) (nw : List (Addr × Obj)), i + j = ns.length → TreesIn nw ys ((ns.take i).map numEx) → LCg.CompRest prog w A h₀ L m env elt x scope cl s S (fun i v => vs.toArray[i]? = some v) Fin j i ys nw := by
    intro j
    induction j with
    | zero =>
      intro i ys nw hij hT
      have e : i = ns.length := by omega
      subst e
      rw [List.take_length] at hT
      exact LCg.CompRest.zero (fin ys nw hT)
    | succ j ih =>
      intro i ys nw hij hT
      refine LCg.CompRest.succ ?_
      intro v I oI C oC D m₂ h tk E' hv hC hx F N off ne
      obtain ⟨k, t, hv', hk⟩ := IntsAre.at hi i v (by simpa using hv)
      have hk2 := hb k (List.mem_of_getElem? hk)
      obtain ⟨n, rfl⟩ := Int.eq_ofNat_of_zero_le hk2.1
      rw [hv'] at hx
      refine wpAny_mono (turn n t I oI C oC D m₂ ys nw h tk E' (by omega) hC hx F N off ne) (fun y s₂ hq => ?_) fun _ _ e => e
      obtain ⟨a, b, c, d, h', tk', nw', e, F', N', off', _, rfl, rfl⟩ := hq.out
      refine ⟨h', tk', _, e, F', N', off', hS _, ih (i + 1) _ _ (by omega) ?_⟩
      rw [List.take_add_one, hk, List.map_append]
      exact (hT.mono fun q hq => List.mem_cons_of_mem _ hq).append (.cons (List.mem_cons_self ..) .nil)
  have hl : vs.toArray.size = ns.length := by rw [List.size_toArray]; exact hi.length
  rw [hl]
  exact key _ 0 [] [] (by omega) .nil
end
theorem allLt_mem {d : Nat} : ∀ {l : List (Addr × Obj)}, AllLt d l → ∀ p ∈ l, p.1 < d
  | [], _, p, hp => nomatch hp
  | x :: r, h, p, hp => by
    rcases List.mem_cons.mp hp with rfl | hp
    · exact h.1
    · exact allLt_mem h.2 p hp
end Mine

end
section
/- part WJoin -/
theorem Mine.offWJoin : True := by
  w_top off
  k_with_none
  trivial
open PySem PySem.W PyProof.Rows
set_option linter.unusedSimpArgs false
namespace Mine
set_option maxRecDepth 100000
set_option maxHeartbeats 8000000
theorem wordsWJoin1 : True := by
  k_with_none
  k_with "ROOM" => (first | exact room_of (k := 0) (by assumption) (by decide) | exact room_of (k := 1) (by assumption) (by decide) | exact room_of (k := 2) (by assumption) (by decide) | exact room_of (k := 3) (by assumption) (by decide))
  k_with "SIZE" => (first | assumption | (simp only [Str.length_append, PySem.sizeLine_eq]; omega))
  k_with "MUL" => (first | exact Sm.mulOk (by assumption) (by assumption) | exact mulPow_ok (by assumption) (by assumption))
  k_with "OM" => (first | with_reducible assumption | decide | (with_reducible exact om_d1 (by assumption)) | (with_reducible exact om_d2 (by assumption)) | (with_reducible exact om_d3 (by assumption)) | (with_reducible exact om_d4 (by assumption)) | (with_reducible exact om_l1 (by assumption)) | (with_reducible exact om_l2 (by assumption)) | (with_reducible exact om_l3 (by assumption)) | (with_reducible exact om_l4 (by assumption)) | (with_reducible exact om_n1) | (with_reducible exact om_n2) | (with_reducible exact om_n3) | (with_reducible exact om_n4) | (with_reducible exact om_c1 (by assumption)) | (with_reducible exact om_c2 (by assumption) (by assumption)) | (with_reducible exact om_p1 (by assumption)) | (with_reducible exact om_p2 (by assumption)) | (with_reducible exact om_p3 (by assumption)) | (with_reducible exact om_p4 (by assumption)) | (with_reducible exact om_p5 (by assumption)) | (with_reducible exact om_a1 (by assumption)) | (with_reducible exact om_a2 (by assumption)) | (with_reducible exact om_w1 (by assumption) (by assumption)) | (with_reducible exact om_w2 (by assumption) (by assumption)) | (with_reducible exact om_w3 (by assumption)) | (with_reducible exact om_w4) | (with_reducible exact om_s1 (by assumption)) | (with_reducible exact om_s2 (by assumption) (by assumption)) | (with_reducible exact om_s3 (by assumption) (by assumption)) | (with_reducible exact om_s4 (by assumption)) | (with_reducible exact om_s5 (by assumption)))
  k_with "NE" => (refine neN ?_; (try dsimp only); (first | exact Nat.ne_of_gt (by assumption) | exact Nat.ne_of_lt (by assumption) | exact Nat.ne_of_gt (And.left (by assumption)) | exact Nat.ne_of_gt (And.left (And.right (by assumption))) | exact Nat.ne_of_gt (And.left (And.right (And.right (by assumption)))) | exact Nat.ne_of_gt (And.left (And.right (And.right (And.right (by assumption))))) | exact Nat.ne_of_gt (And.left (And.right (And.right (And.right (And.right (by assumption)))))) | exact Nat.ne_of_gt (And.left (And.right (And.right (And.right (And.right (And.right (by assumption))))))) | exact Nat.ne_of_gt (And.left (And.right (And.right (And.right (And.right (And.right (And.right (by assumption)))))))) | exact Nat.ne_of_gt (And.left (And.right (And.right (And.right (And.right (And.right (And.right (And.right (by assumption))))))))) | exact Nat.ne_of_gt (And.left (And.right (And.right (And.right (And.right (And.right (And.right (And.right (And.right (by assumption)))))))))) | exact Nat.ne_of_gt (And.left (And.right (And.right (And.right (And.right (And.right (And.right (And.right (And.right (And.right (by assumption))))))))))) | exact Nat.ne_of_gt (And.left (And.right (And.right (And.right (And.right (And.right (And.right (And.right (And.right (And.right (And.right (by assumption)))))))))))) | exact Nat.ne_of_lt (And.left (by assumption)) | exact Nat.ne_of_lt (And.left (And.right (by assumption))) | exact Nat.ne_of_lt (And.left (And.right (And.right (by assumption)))) | exact Nat.ne_of_lt (And.left (And.right (And.right (And.right (by assumption))))) | exact Nat.ne_of_lt (And.left (And.right (And.right (And.right (And.right (by assumption)))))) | exact Nat.ne_of_lt (And.left (And.right (And.right (And.right (And.right (And.right (by assumption))))))) | exact Nat.ne_of_lt (And.left (And.right (And.right (And.right (And.right (And.right (And.right (by assumption)))))))) | exact Nat.ne_of_lt (And.left (And.right (And.right (And.right (And.right (And.right (And.right (And.right (by assumption))))))))) | exact Nat.ne_of_lt (And.left (And.right (And.right (And.right (And.right (And.right (And.right (And.right (And.right (by assumption)))))))))) | exact Nat.ne_of_lt (And.left (And.right (And.right (And.right (And.right (And.right (And.right (And.right (And.right (And.right (by assumption))))))))))) | exact Nat.ne_of_lt (And.left (And.right (And.right (And.right (And.right (And.right (And.right (And.right (And.right (And.right (And.right (by assumption))))))))))))))
  k_with "InvEndG" => (refine Hold.out ?_)
  k_with "CompSrc" => (refine Hold.out ?_)
  k_with "execs cons" => (k_here; (with_reducible show wpAny _ _ _ _ _ (Shared.mk _ _ _ (_ + _) _)); (rename Fr _ _ _ _ => Fq9); refine wp_norm (g := sg) (d := sd) (o := so) Fq9 ?_; intro _ _ _; clear Fq9)
  k_with "subscriptTail" => (k_here; k_dflt (refine' part_at ?k1 ?k2 ?k3 ?k4 ?k5 ?k6 ?_; (case k1 => k_asm); (case k2 => k_mem); (case k3 => assumption); (case k4 => first | assumption | omega); (case k5 => first | assumption | omega); (case k6 => first | assumption | omega)); intro _ _ _ _ _ _ _ _ _)
  k_with "subscriptTail" => (k_here; k_dflt (refine' part_at2 ?k1 ?k2 ?k3 ?k3b ?k3c ?k4 ?k5 ?k6 ?_; (case k1 => k_asm); (case k2 => first | assumption | k_mem); (case k3 => assumption); (case k3b => assumption); (case k3c => assumption); (case k4 => first | assumption | omega); (case k5 => first | assumption | omega); (case k6 => first | assumption | omega)); intro _ _ _ _ _ _ _ _ _ _)
  k_with "subscriptTail" => (k_here; (rename News _ _ _ _ => Nz); k_dflt (refine' sign_at Nz ?k3 ?k4 ?_; (case k3 => (constructor <;> omega)); (case k4 => exact lt10 ⟨_, rfl⟩ ⟨_, rfl⟩ ⟨_, rfl⟩ ⟨_, rfl⟩ ⟨_, rfl⟩ ⟨_, rfl⟩ ⟨_, rfl⟩ ⟨_, rfl⟩ ⟨_, rfl⟩ ⟨_, rfl⟩)); intro _ Ny; clear Nz)
  k_with "binaryOp Mod int int" => (k_here; k_dflt (refine' mod_gen ?k1 ?_; (case k1 => first | decide | omega)); intro _ _ _)
  k_with "call builtin:len" => (k_here; k_dflt (refine' len_at ?k1 ?k2 ?k3 ?k4 ?_; (case k1 => k_asm); (case k2 => k_mem); (case k3 => assumption); (case k4 => first | assumption | omega)))
  k_with "subscriptTail Name Slice ref ref" => (k_here; (with_reducible show wpAny _ _ (subscriptTail _ (PySem.Expr.Slice none _ _ _) (Value.ref _) (Value.ref _)) _ _ _); k_dflt (refine' parts_upto ?k1 ?k2 ?k3 ?k4 ?k5 ?_ ?k6 ?k7; (case k1 => k_asm); (case k2 => k_asm); (case k3 => first | assumption | exact List.mem_cons_self .. | exact List.mem_cons_of_mem _ (by assumption) | exact List.mem_cons_of_mem _ (List.mem_cons_self ..) | exact List.mem_cons_of_mem _ (List.mem_cons_of_mem _ (by assumption)) | exact List.mem_cons_of_mem _ (List.mem_cons_of_mem _ (List.mem_cons_of_mem _ (by assumption))) | exact List.mem_cons_of_mem _ (List.mem_cons_of_mem _ (List.mem_cons_of_mem _ (List.mem_cons_of_mem _ (by assumption)))) | k_mem); (case k4 => first | assumption | omega); (case k5 => first | assumption | omega); (case k6 => with_unfolding_all rfl); (case k7 => kmk_pure)); intro _ _ _ _ _)
  k_with "subscriptTail Name Slice ref ref" => (k_here; (with_reducible show wpAny _ _ (subscriptTail _ (PySem.Expr.Slice (some _) none _ _) (Value.ref _) (Value.ref _)) _ _ _); k_dflt (refine' parts_from ?k1 ?k2 ?k3 ?k4 ?k5 ?_ ?k6 ?k7; (case k1 => k_asm); (case k2 => k_asm); (case k3 => first | assumption | exact List.mem_cons_self .. | exact List.mem_cons_of_mem _ (by assumption) | exact List.mem_cons_of_mem _ (List.mem_cons_self ..) | exact List.mem_cons_of_mem _ (List.mem_cons_of_mem _ (by assumption)) | exact List.mem_cons_of_mem _ (List.mem_cons_of_mem _ (List.mem_cons_of_mem _ (by assumption))) | exact List.mem_cons_of_mem _ (List.mem_cons_of_mem _ (List.mem_cons_of_mem _ (List.mem_cons_of_mem _ (by assumption)))) | k_mem); (case k4 => first | assumption | omega); (case k5 => first | assumption | omega); (case k6 => with_unfolding_all rfl); (case k7 => kmk_pure)); intro _ _ _ _ _)
  k_with "binaryOp Add ref ref" => (k_here; k_dflt (refine' parts_add ?k1 ?k2 ?k3 ?k4 ?k5 ?_; (case k1 => k_asm); (case k2 => k_asm); (case k3 => first | assumption | exact List.mem_cons_self .. | exact List.mem_cons_of_mem _ (by assumption) | exact List.mem_cons_of_mem _ (List.mem_cons_self ..) | exact List.mem_cons_of_mem _ (List.mem_cons_of_mem _ (by assumption)) | exact List.mem_cons_of_mem _ (List.mem_cons_of_mem _ (List.mem_cons_of_mem _ (by assumption))) | exact List.mem_cons_of_mem _ (List.mem_cons_of_mem _ (List.mem_cons_of_mem _ (List.mem_cons_of_mem _ (by assumption)))) | k_mem); (case k4 => first | assumption | exact List.mem_cons_self .. | exact List.mem_cons_of_mem _ (by assumption) | exact List.mem_cons_of_mem _ (List.mem_cons_self ..) | exact List.mem_cons_of_mem _ (List.mem_cons_of_mem _ (by assumption)) | exact List.mem_cons_of_mem _ (List.mem_cons_of_mem _ (List.mem_cons_of_mem _ (by assumption))) | exact List.mem_cons_of_mem _ (List.mem_cons_of_mem _ (List.mem_cons_of_mem _ (List.mem_cons_of_mem _ (by assumption)))) | k_mem); (case k5 => (simp only [List.length_append, List.length_take, List.length_drop, List.length_cons, List.length_nil]; first | exact cut20 (by assumption) | exact cut20a (by assumption) | omega))); intro _ _ _ _ _)
  k_with "exec If" => ((fail_if_success (have : Mark2 := by assumption)); (fail_if_success (with_reducible show wpAny _ _ _ (Mid1 _ _ _ _ _ _ _) _ _)); refine Hold.out ?_)
  k_with "call ref" => (k_here; k_dflt ((refine wpAny_call ?_); (refine' pair7_call ?k1 ?k2 ?k3 ?k4 ?k5 ?kA ?kF ?k6 ?k7 ?k8 ?k9 ?kB ?_; (case k1 => k_asm); (case k2 => k_asm); (case k3 => k_asm); (case k4 => k_asm); (case k5 => k_asm); (case kA => exact rfl); (case kF => exact rfl); (case k6 => first | omega | (dsimp only [Around.deeper]; omega)); (case k7 => k_mem); (case k8 => k_mem); (case k9 => assumption); (case kB => omega)); intro _ _ _ _ _ _ _ _ _ _ _ _; (try dsimp only)))
  k_with "call ref" => (k_here; k_dflt ((refine wpAny_call ?_); (refine' pairP_call ?k1 ?k2 ?k3 ?k4 ?k5 ?kA ?kF ?k6 ?k7 ?k8 ?k9 ?kB ?kC ?kD ?_; (case k1 => k_asm); (case k2 => k_asm); (case k3 => k_asm); (case k4 => k_asm); (case k5 => k_asm); (case kA => exact rfl); (case kF => exact rfl); (case k6 => first | omega | (dsimp only [Around.deeper]; omega)); (case k7 => k_mem); (case k8 => k_mem); (case k9 => assumption); (case kB => assumption); (case kC => omega); (case kD => assumption)); intro _ _ _ _ _ _ _ _ _ _ _; (try dsimp only)))
  k_with "pyIter ref" => ((with_reducible show wpAny _ _ (pyIter (Value.ref _)) (fun it s₂ => LoopAtV _ _ _ _ _ (Str.ofString "cell") _ _ _ it s₂) _ _); refine Hold.out ?_)
  k_with "exec For Name Name cons nil" => (refine Hold.out ?_)
  trivial
section
variable {w : World} {mg mb : Str → Option Value} {mean : ExcName → Option Value} {A₀ : Around} {dp un : Nat} {gs : Option (List Code)} {base h₀ : Heap} {outer : List Env} {env : Env} {L : Addr} {m : Str → Option Value} {news : List (Addr × Obj)} {s : Shared} {R : Result → Shared → Prop}

theorem joined_call {aN aC : Addr} {vN vC : List Value} {nN nC : Nat} {ns cs : List Int}
    (B : Below A₀ base outer h₀) (F : Fr h₀ L s.heap m) (X : (hd.heap_39 w.params).In h₀) (N : News h₀ L s.heap news) (T : Top hd.view_39 (looseW hd.view_39 [Str.ofString "EXACT_TOKEN_TYPES"]) mean mg mb h₀)
    (hf : env.frame = some L) (hke : env.scope.kind = .function) (hdep : dp < 320)
    (hN : (aN, listOf vN.toArray nN) ∈ news) (hns : IntsAre vN ns) (hnl : ns.length = 6) (hnb : ∀ k ∈ ns, 0 ≤ k ∧ k < 2000) (hC : (aC, listOf vC.toArray nC) ∈ news) (hcs : IntsAre vC cs) (hcl : cs.length ≤ 5)
    (h : ∀ h' tk a e x y z nn, PartOk 216 e → Fr h₀ L h' m → News h₀ L h' [(a, tupE e x y z nn)] → R (.ok (.ret (.ref a))) { s with heap := h', toks := tk }) :
    codeAny (model PySem.Challenge.rw_pg0154_01.row.prog w) ⟨none, dp, some (env :: outer), gs, un⟩ (.call (.ref 162) ⟨[.ref aN, .ref aC], []⟩) R s := by
  have hdep5 : dp < 500 := by omega
  revert X
  k_fill
  intro X
  refine' code_defF (binds := [(Str.ofString "numbers", .ref aN), (Str.ofString "cells", .ref aC)]) [] (fun q hq => nomatch hq) B F X N T rfl hf hke ?k6 ?k7 ?k8 ?k9 ?kB ?_ ?c2 ?c3 ?c4 ?c5
  case k6 => k_is
  case k7 => k_is
  case k8 => k_room
  case k9 => exact BindsTo.of_eq rfl
  case c5 => decide
  case kB => exact locs rfl
  case c2 => exact rfl
  case c3 => exact rfl
  case c4 => exact rfl
  intro g' L' h' tk0 hfz FG' F' N' B' X' T' env' A' sg sd so qk ek
  have hDl : g'.IsList aC vC.toArray := ⟨_, hfz _ hC (fun _ hq => nomatch hq), rfl, nC, rfl⟩
  have hNl : g'.IsList aN vN.toArray := ⟨_, hfz _ hN (fun _ hq => nomatch hq), rfl, nN, rfl⟩
  clear hfz hN hC
  (try with_reducible show wpAny _ _ _ _ _ _)
  k_steps
  refine ⟨?_⟩
  refine LCg.CompSrc.base (by rfl) (by k_asm) (by k_asm) hNl (by rw [List.size_toArray, hns.length, hnl, sizeLine_eq]; decide) ?_
  intro g5
  refine comp_nums hns hnb (fun nw => Or.inl hNl) ?tn ?fn
  case tn =>
    intro k t I oI C oC D m₂ ys nw h8 tk8 E' hk hC hx F8 N8 off ne
    have hk' : (0 : Int) ≤ k ∧ (k : Int) < 2000 := by omega
    (try with_reducible show wpAny _ _ _ _ _ _)
    try k_fold
    k_steps
    refine ⟨?_⟩
    rename_i D9 h9 F9 N9 l1
    rw [num_tup] at N9
    refine ⟨_, tk8, tk8 + 1, t, LCg.CompEnd.intro F9 N9 ((D9, tupE (.num k) tk8 (tk8 + 1) t 0) :: nw) ?_ ⟨⟨Nat.ne_of_gt l1.1, Nat.ne_of_gt l1.2.1, Nat.ne_of_gt l1.2.2.1⟩, off⟩ trivial ⟨rfl, rfl⟩⟩
    intro p hp
    simp only [List.mem_cons] at hp ⊢
    rcases hp with e | e | e | e | e <;> simp [e]
  intro ys nw hT0
  (try with_reducible show wpAny _ _ _ _ _ _)
  try dsimp only
  k_steps
  refine ⟨?_⟩
  refine For_invV g' rfl rfl ?_
  k_steps
  refine ⟨?_⟩
  have kdm := kdMark
  rename Fr _ _ _ _ => F1
  rename News _ _ _ _ => N1
  rename_i DP hPP tkP o1P
  refine Exists.elim (show ∃ c : JS, News g' L' _ ((c.P, listOf c.vs.toArray c.cn) :: c.tl) ∧ TreesIn c.tl c.vs c.es ∧ c.es.length = 6 ∧ (∀ e ∈ c.es, e.Fit) ∧ (c.es.map Ex.wt).sum ≤ 66 ∧ c.P = DP from
    ⟨⟨_, ys.length, ys, ns.map numEx, nw⟩, N1, hT0, by rw [List.length_map, hnl], num_fit hnb, by rw [num_sum, hnl]; decide, rfl⟩) ?_
  clear N1 hT0
  intro J0 hJ
  have hJ0 := hJ.1
  have hJl := hJ.2.1
  have hJe := hJ.2.2.1
  have hJf := hJ.2.2.2.1
  have hJw := hJ.2.2.2.2.1
  have hJP := hJ.2.2.2.2.2
  clear hnb hns hNl hJ
  refine Exists.elim (show ∃ m1, Fr g' L' hPP m1 ∧ m1 (Str.ofString "parts") = some (.ref J0.P) from ⟨_, F1, by rw [hJP]; rfl⟩) ?_
  clear F1
  intro m1 hm1
  have F1 := hm1.1
  have hk1 := hm1.2
  clear hm1
  refine for_ints (σ := JS) (fun c => (c.P, listOf c.vs.toArray c.cn) :: c.tl) (fun c => [(Str.ofString "parts", .ref c.P)]) [Str.ofString "sign", Str.ofString "place", Str.ofString "turns", Str.ofString "right", Str.ofString "text", Str.ofString "rank", Str.ofString "value"] (fun pre c => TreesIn c.tl c.vs c.es ∧ c.es.length + pre.length = 6 ∧ (∀ e ∈ c.es, e.Fit) ∧ (c.es.map Ex.wt).sum ≤ 66 + 30 * pre.length) J0 rfl hDl hcs F1 hJ0 ?kk ?kp ?kt ?kd
  case kk =>
    intro p hp
    rw [List.mem_singleton.mp hp]
    exact hk1
  case kp => exact ⟨hJl, by show J0.es.length + 0 = 6; exact hJe, hJf, by show _ ≤ 66 + 30 * 0; omega⟩
  case kd =>
    rintro ⟨P, cn, vs, es, tl⟩ u h9 tk9 hp0 F2 N2
    dsimp only [kstB] at F2 N2 hp0 ⊢
    have hT := hp0.1
    have hlen := hp0.2.1
    have hfit := hp0.2.2.1
    have hwt := hp0.2.2.2
    clear F1 hJ0 hp0
    replace F2 : Fr g' L' h9 _ := F2
    replace N2 : News g' L' h9 _ := N2
    have hvl : vs.length = es.length := hT.length
    have hq1 : 1 ≤ es.length := by omega
    have hq6 : es.length ≤ 6 := by omega
    have hall : ∀ e ∈ es, PartOk 216 e := fun e he => ⟨hfit e he, Nat.le_trans (wt_mem he) (le216 hwt hcl)⟩
    have hl2 : ∀ p ∈ tl, p ∈ (P, listOf vs.toArray cn) :: tl := fun p hp => List.mem_cons_of_mem _ hp
    have hP : (P, listOf vs.toArray cn) ∈ (P, listOf vs.toArray cn) :: tl := List.mem_cons_self ..
    (try with_reducible show wpAny _ _ _ _ _ _); (try k_fold)
    k_steps
    rename_i aR eR xR yR zR nR hinR heR hpR hwR kF kN kT kX
    exact h _ _ aR eR xR yR zR nR ⟨hpR.1, hwR⟩ kF (fun p hp => by rw [List.mem_singleton.mp hp]; exact kN _ hinR)
  case kt =>
    rintro ⟨P, cn, vs, es, tl⟩ pre post n t u h9 tk9 own he hp0 hoff F2 N2
    dsimp only [kstB] at F2 N2 hp0 hoff ⊢
    have hT := hp0.1
    have hlen := hp0.2.1
    have hfit := hp0.2.2.1
    have hwt := hp0.2.2.2
    clear hp0
    simp only [List.cons_append, List.nil_append, List.map_cons, List.map_nil] at N2 hoff
    replace F2 : Fr g' L' h9 _ := F2
    replace N2 : News g' L' h9 _ := N2
    have hpl : pre.length < 5 := by
      rw [he, List.length_append, List.length_cons] at hcl
      omega
    have hvl : vs.length = es.length := hT.length
    have hq2 : 2 ≤ es.length := by omega
    have hq6 : es.length ≤ 6 := by omega
    have hv6 : vs.length ≤ 6 := hvl ▸ hq6
    have hq1000 : es.length < 1000 := Nat.lt_of_le_of_lt hq6 (by decide)
    (try with_reducible show wpAny _ _ _ _ _ _); (try k_fold)
    k_steps
    refine ⟨?_⟩
    rename_i lS hh1 l1S ro ro0 ro1 tS hh2 mS tk1 rp rp0 rp1 rt rt0 rt1 dT hh3 l1T hh4 hh4b hh5 mT tk2 aE eE xE yE zE nE hin hge hgv hh6 N3 mR F3 tk3
    refine lay_k (m0 := m1) [(Str.ofString "right", .ref aE), (Str.ofString "place", .int rp _), (Str.ofString "turns", .int rt _), (Str.ofString "sign", .str (opAt ro.toNat).sign tS), (Str.ofString "parts", .ref P)] F3 (by kst_all) (fun z q1 q2 q3 q4 q5 q6 q7 q8 q9 => ?hlay) ?_
    case hlay => exact ite_ne q6 (ite_ne q4 (ite_ne q5 (ite_ne q3 (ite_ne q1 (ite_ne q2 (ite_bf (stored_no q3 q4 q5 q6 q7 q8 q9) rfl))))))
    clear F3
    generalize opAt ro.toNat = o
    intro mb G3 hmr
    have hall : ∀ e ∈ es, PartOk 216 e := fun e he => ⟨hfit e he, Nat.le_trans (wt_mem he) (le216 hwt (Nat.le_of_lt hpl))⟩
    have hwE : eE.wt ≤ 216 := (hall _ (List.mem_of_getElem? hge)).2
    have hpE : PartOk eE.wt eE := ⟨(hall _ (List.mem_of_getElem? hge)).1, Nat.le_refl _⟩
    have hP : (P, listOf vs.toArray cn) ∈ (P, listOf vs.toArray cn) :: (tl ++ own) := List.mem_cons_self ..
    have hin2 : (aE, tupE eE xE yE zE nE) ∈ (P, listOf vs.toArray cn) :: (tl ++ own) := List.mem_cons_of_mem _ (List.mem_append_left _ hin)
    replace N3 : News g' L' hh6 ((P, listOf vs.toArray cn) :: (tl ++ own)) := fun p hp => N3 p (by first | exact hp | exact List.mem_cons_of_mem _ hp | exact List.mem_cons_of_mem _ (List.mem_cons_of_mem _ hp))
    (try with_reducible show wpAny _ _ _ _ _ _)
    try k_fold
    refine wpAny_mono (Q := Mid1 g' L' ((P, listOf vs.toArray cn) :: (tl ++ own)) (eE.wt + 18) o (frMap G3) s) ?ca ?cb (fun _ _ x => x)
    case ca =>
      generalize (P, listOf vs.toArray cn) :: (tl ++ own) = nx at *
      dsimp only [frMap]
      cases o
      case shl | shr =>
        dsimp only [Op.sign] at G3 ⊢
        (try with_reducible show wpAny _ _ _ _ _ _); (try k_fold)
        k_steps
        rename Fr g' L' _ _ => F4
        rename News g' L' _ _ => N4
        rename PartOk _ _ => P4
        rename (∀ b, _ = some b → 0 ≤ b ∧ b ≤ 6) => V4
        exact Mid1.intro F4 N4 P4 V4 (by first | exact .inl rfl | exact .inr rfl) (fun _ => rfl) rfl
      all_goals
        dsimp only [Op.sign] at G3 ⊢
        (try with_reducible show wpAny _ _ _ _ _ _); (try k_fold)
        k_steps
        rename Fr g' L' _ _ => F4
        rename News g' L' _ _ => N4
        exact Mid1.stay F4 N4 hin2 hpE (by omega) rfl (by rintro (hc | hc) <;> cases hc) rfl
    case cb =>
      have hl2 : ∀ p ∈ tl, p ∈ (P, listOf vs.toArray cn) :: (tl ++ own) := fun p hp => List.mem_cons_of_mem _ (List.mem_append_left _ hp)
      intro fl s7 hM
      refine Mid1.elim hM ?_
      clear hM
      intro hh tk7 aR eR x7 y7 z7 nn7 hpR hvR F7 N7
      dsimp only [frMap] at F7
      try k_unfold
      clear G3 N3
      generalize hnx : (P, listOf vs.toArray cn) :: (tl ++ own) = nx at N7 hin2 hP hl2
      have hP7 := List.mem_cons_of_mem (aR, tupE eR x7 y7 z7 nn7) hP
      have hl7 : ∀ p ∈ tl, p ∈ (aR, tupE eR x7 y7 z7 nn7) :: nx := fun p hp => List.mem_cons_of_mem _ (hl2 p hp)
      k_steps
      refine ⟨?_⟩
      rename_i aL eL xL yL zL nL hinL hgL hpL hwL h8a tk8a aV eV xV yV zV pV hnV h8b h8c h8d h8e N8 m8 F8 tk8
      have hlV : (tstr eV.toks).length ≤ 5000 := pV.tstr (by omega)
      have hz1 : (Str.ofString "(").length = 1 := by decide
      have hz2 : (Str.ofString ")").length = 1 := by decide
      have N8' : News g' L' h8e nx := fun p hp => N8 p (List.mem_cons_of_mem _ (List.mem_cons_of_mem _ hp))
      have hrt : rt = 0 ∨ rt = 1 ∨ rt = 2 := three_of rt0 rt1
      clear hinL hl2 hl7 hP7 N8 hin2
      refine Exists.elim (show ∃ e2, e2 = turned rt eV from ⟨_, rfl⟩) ?_
      intro e2 he2
      have hp2 : PartOk (eL.wt + (eE.wt + 18) + 7 + 5) e2 := he2 ▸ turned_ok hrt pV
      (try with_reducible show wpAny _ _ _ _ _ _)
      try k_fold
      refine wpAny_mono (Q := Mid2 g' L' nx e2 eV.val (frMap F8) s) ?cc ?cd (fun _ _ x => x)
      case cd =>
        dsimp only [frMap]
        intro fl s7 hM
        refine Mid2.elim hM ?_
        clear hM
        intro hhA tkA xA rA zA FA NA
        refine lay_k (m0 := m1) [(Str.ofString "value", encV eV.val zA), (Str.ofString "rank", .int (e2.rank : Int) rA), (Str.ofString "text", .str (tstr e2.toks) xA), (Str.ofString "place", .int rp _), (Str.ofString "turns", .int rt _), (Str.ofString "parts", .ref P)] FA (by kst_all)
          (fun z q1 q2 q3 q4 q5 q6 q7 q8 q9 => Eq.trans (by (repeat (first | with_reducible rfl | refine ite_ne (by assumption) ?_ | rfl))) (hmr z q1 q2 q3 q4 q5 q6 q7 q8 q9)) ?_
        clear F8 N8' FA hmr
        intro mb2 FA hmr2
        try k_unfold
        k_steps
        refine ⟨?_⟩
        (try with_reducible show wpAny _ _ _ _ _ _)
        try k_fold
        refine wpAny_mono (Q := Mid2 g' L' nx e2 e2.val (frMap FA) s) ?ce ?cf (fun _ _ x => x)
        case ce =>
          dsimp only [frMap]
          have mk2 : Mark2 := ⟨⟩
          rcases hrt with rfl | rfl | rfl
          · have hv : e2.val = eV.val := he2 ▸ turned_val0 eV
            rw [hv]
            k_steps
            exact Mid2.intro FA NA (fun p hp => hp) rfl rfl rfl (fun y _ _ _ => rfl) rfl
          · have hv : e2.val = eV.val.map fun v => -1 - v := he2 ▸ turned_val1 eV
            rw [hv]
            generalize eV.val = ov at *
            cases ov with
            | none =>
              dsimp only [encV] at FA
              k_steps
              exact Mid2.intro (z := 0) FA NA (fun p hp => hp) rfl rfl rfl (fun y _ _ _ => rfl) rfl
            | some v =>
              dsimp only [encV] at FA
              k_steps
              rename Fr g' L' _ _ => F9
              rename News g' L' _ _ => N9
              exact Mid2.intro F9 N9 (fun p hp => hp) rfl rfl rfl (fun y q1 q2 q3 => by (repeat (first | with_reducible rfl | refine ite_ne q1 ?_ | refine ite_ne q2 ?_ | refine ite_ne q3 ?_)); try (refine Eq.symm ?_; repeat (first | with_reducible rfl | refine ite_ne q1 ?_ | refine ite_ne q2 ?_ | refine ite_ne q3 ?_))) rfl
          · have hv : e2.val = eV.val := he2 ▸ turned_val2 eV
            rw [hv]
            k_steps
            exact Mid2.intro FA NA (fun p hp => hp) rfl rfl rfl (fun y _ _ _ => rfl) rfl
        case cf =>
          dsimp only [frMap]
          intro fl s7 hM
          refine Mid2.elim hM ?_
          clear hM
          intro hhB tkB xB rB zB FB NB
          refine lay_k (m0 := m1) [(Str.ofString "value", encV e2.val zB), (Str.ofString "rank", .int (e2.rank : Int) rB), (Str.ofString "text", .str (tstr e2.toks) xB), (Str.ofString "place", .int rp _), (Str.ofString "parts", .ref P)] FB (by kst_all)
            (fun z q1 q2 q3 q4 q5 q6 q7 q8 q9 => Eq.trans (by (repeat (first | with_reducible rfl | refine ite_ne (by assumption) ?_ | rfl))) (hmr2 z q1 q2 q3 q4 q5 q6 q7 q8 q9)) ?_
          clear FA NA FB hmr2
          intro mb3 FB hmr3
          try k_unfold
          k_steps
          refine ⟨?_⟩
          rename_i aA hA HA dD hB l1B lT hC l1C aB hD HB aC2 hE HC aP hF HP hG FZ NZ
          have hnx2 : ∀ p ∈ tl ++ own, p ∈ nx := fun p hp => hnx ▸ List.mem_cons_of_mem _ hp
          have hk1 : (rp + 1).toNat = rp.toNat + 1 := Int.toNat_add rp0 (by decide)
          have hk2 : (rp + 2).toNat = rp.toNat + 2 := Int.toNat_add rp0 (by decide)
          rw [hk1] at hge
          rw [hk2] at NZ
          refine for_end (σ := JS) (c := ⟨aP, 0, vs.take rp.toNat ++ [.ref dD] ++ vs.drop (rp.toNat + 2), es.take rp.toNat ++ e2 :: es.drop (rp.toNat + 2), (dD, tupE e2 xB rB zB 0) :: tl⟩) FZ NZ ?q1 ?q2 ?q3 ?q4 ?q5 ?q6
          case q1 => exact List.forall_mem_cons.mpr ⟨List.mem_cons_self .., List.forall_mem_cons.mpr ⟨List.mem_cons_of_mem _ (List.mem_cons_of_mem _ (List.mem_cons_of_mem _ (List.mem_cons_of_mem _ (List.mem_cons_self ..)))), fun p hp => mem6 (hnx2 p (List.mem_append_left _ hp))⟩⟩
          case q2 => exact fun p hp => mem6 (hnx2 p (List.mem_append_right _ hp))
          case q3 =>
            intro p hp
            have hpn := hnx2 p (List.mem_append_right _ hp)
            exact List.forall_mem_cons.mpr ⟨HP p (mem5 hpn), List.forall_mem_cons.mpr ⟨Nat.ne_of_lt (allLt_mem l1B.2 p hpn), fun b hb => hoff p hp b (List.mem_cons_of_mem _ hb)⟩⟩
          case q4 => exact List.forall_mem_cons.mpr ⟨rfl, List.forall_mem_nil _⟩
          case q5 =>
            intro z q1 q2 q3
            have q4 : z ≠ Str.ofString "parts" := q2 _ (List.mem_singleton_self _)
            have q5 := ne_first q3
            have q6 := ne_rest q3
            refine Eq.trans ?_ (hmr3 z q1 q4 q5 (ne_first q6) (ne_first (ne_rest q6)) (ne_first (ne_rest (ne_rest q6))) (ne_first (ne_rest (ne_rest (ne_rest q6)))) (ne_first (ne_rest (ne_rest (ne_rest (ne_rest q6))))) (ne_first (ne_rest (ne_rest (ne_rest (ne_rest (ne_rest q6)))))))
            (repeat (first | with_reducible rfl | refine ite_ne q4 ?_ | refine ite_ne (ne_first q6) ?_ | refine ite_ne (ne_first (ne_rest (ne_rest (ne_rest q6)))) ?_ | refine ite_ne (ne_first (ne_rest (ne_rest (ne_rest (ne_rest q6))))) ?_ | refine ite_ne (ne_first (ne_rest (ne_rest (ne_rest (ne_rest (ne_rest q6)))))) ?_ | rfl))
          case q6 => exact parts_next hT hlen hfit hwt hgL hge hp2 (by rw [List.length_append]; rfl)
      case cc =>
        have mk2 : Mark2 := ⟨⟩
        dsimp only [frMap]
        rcases hrt with rfl | rfl | rfl
        · k_steps
          exact Mid2.intro F8 N8' (fun p hp => hp) rfl (by rw [he2]; rfl) (by rw [he2]; rfl) (fun y _ _ _ => rfl) rfl
        · k_steps
          rename Fr g' L' _ _ => F9
          rename News g' L' _ _ => N9
          exact Mid2.intro F9 N9 (fun p hp => List.mem_cons_of_mem _ hp) rfl (by rw [he2]; rfl) (by rw [he2, show turned 1 eV = Ex.inv 1 eV from rfl, inv1_text]; rfl) (fun y q1 q2 q3 => by (repeat (first | with_reducible rfl | refine ite_ne q1 ?_ | refine ite_ne q2 ?_ | refine ite_ne q3 ?_)); try (refine Eq.symm ?_; repeat (first | with_reducible rfl | refine ite_ne q1 ?_ | refine ite_ne q2 ?_ | refine ite_ne q3 ?_))) rfl
        · k_steps
          rename Fr g' L' _ _ => F9
          rename News g' L' _ _ => N9
          exact Mid2.intro F9 N9 (fun p hp => List.mem_cons_of_mem _ hp) rfl (by rw [he2]; rfl) (by rw [he2, show turned 2 eV = Ex.inv 2 eV from rfl, inv2_text]; rfl) (fun y q1 q2 q3 => by (repeat (first | with_reducible rfl | refine ite_ne q1 ?_ | refine ite_ne q2 ?_ | refine ite_ne q3 ?_)); try (refine Eq.symm ?_; repeat (first | with_reducible rfl | refine ite_ne q1 ?_ | refine ite_ne q2 ?_ | refine ite_ne q3 ?_))) rfl
end
end Mine

end
section
/- part WLaw -/
theorem Mine.offWLaw : True := by
  w_top off
  k_with_none
  trivial
open PySem PySem.W PyProof.Rows
set_option linter.unusedSimpArgs false
namespace Mine
set_option maxRecDepth 100000
set_option maxHeartbeats 8000000
section
variable {prog : Program} {w : World} {A : Around} {E : Value → Shared → Prop} {s : Shared} {h₀ : Heap} {L : Addr} {m : Str → Option Value} {news : List (Addr × Obj)} {Q : Value → Shared → Prop}
theorem stepped {value slice : Expr} {l : Addr} {vs : List Value} {ns : List Int} {vl vu vk : Value} {lo hi st : Option Int} {ops : List Value}
    (F : Fr h₀ L s.heap m) (N : News h₀ L s.heap news) (hl : s.heap.IsList l vs.toArray) (pl : IsPart vl lo) (pu : IsPart vu hi) (pk : IsPart vk st) (h0 : st ≠ some 0) (hi' : IntsAre vs ns) (hz : ns.length ≤ 63)
    (h : ∀ D ws h', Fr h₀ L h' m → News h₀ L h' ((D, listOf (List.toArray ws) 0) :: news) → (∀ p ∈ news, p.1 < D) → IntsAre ws (pickNums ns lo hi st) → Q (.ref D) { s with heap := h' })
    (hs : subscripted slice false (.ref l) (.ref s.heap.objs.size) = operate ops (getItem (.ref l) (.ref s.heap.objs.size)))
    (ht : ∀ r, letTemporaryGo value (.ref l) r = pure ()) :
    wpAny (model prog w) A (subscriptTail value slice (.ref l) (.ref s.heap.objs.size)) Q E { s with heap := s.heap.push { cls := .type "slice", data := .fields #[vl, vu, vk] } } := by
  have hsz : vs.toArray.size ≤ sizeLine := by
    rw [List.size_toArray, hi'.length]
    refine Nat.le_trans hz ?_
    decide
  refine slice_list3 F N hl pl pu pk h0 (fun h' F' N' => h _ (slicePick vs.toArray lo hi st).toList h' F' ?_ (fun p hp => Nat.lt_succ_of_lt (Heap.lt_size (N p hp).1)) (hi'.pick lo hi st)) hs ht hsz
  rw [Array.toArray_toList]
  exact N'
end
theorem start_num (k : Int) (x : Int) (h0 : 0 ≤ k) (h6 : k < 6) : 0 ≤ [13, 6, 9, 3, 20, 5].getD k.toNat 0 + x.fmod 1000 ∧ [13, 6, 9, 3, 20, 5].getD k.toNat 0 + x.fmod 1000 < 2000 := by
  have q1 := Int.fmod_nonneg_of_pos x (show (0 : Int) < 1000 by decide)
  have q2 := Int.fmod_lt_of_pos x (show (0 : Int) < 1000 by decide)
  have key : ∀ n < 6, 0 ≤ ([13, 6, 9, 3, 20, 5] : List Int).getD n 0 ∧ ([13, 6, 9, 3, 20, 5] : List Int).getD n 0 ≤ 20 := by decide
  have := key k.toNat (by omega)
  omega
theorem nums_in {g : Int → Int} (hg : ∀ k, 0 ≤ k → k < 6 → 0 ≤ g k ∧ g k < 2000) : ∀ x ∈ List.map g (rangeKs 0 ((6 : Int) - 0).toNat), 0 ≤ x ∧ x < 2000 := by
  intro x hx
  obtain ⟨k, hk, rfl⟩ := List.mem_map.mp hx
  have h1 := (mem_rangeKs hk).1
  have h2 := (mem_rangeKs hk).2
  refine hg k h1 ?_
  have e : ((((6 : Int) - 0).toNat : Nat) : Int) = 6 := by decide
  omega
section
variable {w : World} {mg mb : Str → Option Value} {mean : ExcName → Option Value} {A₀ : Around} {dp un : Nat} {gs : Option (List Code)} {base h₀ : Heap} {outer : List Env} {env : Env} {L : Addr} {m : Str → Option Value} {news : List (Addr × Obj)} {s : Shared} {R : Result → Shared → Prop}
theorem agree_ex {e : Ex} {t1 t2 : Tok}
    (B : Below A₀ h₀ [] h₀) (F : Fr h₀ L s.heap m) (X : (hd.heap_39 w.params).In h₀) (N : News h₀ L s.heap news) (T : Top hd.view_39 (looseW hd.view_39 [Str.ofString "EXACT_TOKEN_TYPES"]) mean mg mb h₀)
    (hf : env.frame = some L) (hke : env.scope.kind = .function) (hdep : dp < 320) (he : PartOk 216 e)
    (h : ∀ h' tk, Fr h₀ L h' m → R (.ok (.ret (.bool true))) { s with heap := h', toks := tk }) :
    codeAny (model PySem.Challenge.rw_pg0154_01.row.prog w) ⟨none, dp, some [env], gs, un⟩ (.call (.ref 169) ⟨[.str (tstr e.toks) t1, encV e.val t2], []⟩) R s := by
  have hr := runs_ex e [] he.1 trivial
  rw [List.append_nil] at hr
  have hw := he.2
  have hl := (toks_len e he.1).1
  exact agree_call B F X N T hf hke hdep hr (he.tstr (by decide)) (by omega) (trace_ex e (fit_ok e he.1 (by omega))) h
end
theorem wordsWLaw1 : True := by
  k_with_none
  k_with "ROOM" => (first | exact room_of (k := 0) (by assumption) (by decide) | exact room_of (k := 1) (by assumption) (by decide) | exact room_of (k := 2) (by assumption) (by decide) | exact room_of (k := 3) (by assumption) (by decide))
  k_with "SIZE" => (first | assumption | (simp only [Str.length_append, PySem.sizeLine_eq]; omega))
  k_with "MUL" => (first | exact Sm.mulOk (by assumption) (by assumption) | exact mulPow_ok (by assumption) (by assumption))
  k_with "NE" => (refine neN ?_; (try dsimp only); (first | exact Nat.ne_of_gt (by assumption) | exact Nat.ne_of_lt (by assumption) | exact Nat.ne_of_gt (And.left (by assumption)) | exact Nat.ne_of_gt (And.left (And.right (by assumption))) | exact Nat.ne_of_gt (And.left (And.right (And.right (by assumption)))) | exact Nat.ne_of_gt (And.left (And.right (And.right (And.right (by assumption))))) | exact Nat.ne_of_gt (And.left (And.right (And.right (And.right (And.right (by assumption)))))) | exact Nat.ne_of_gt (And.left (And.right (And.right (And.right (And.right (And.right (by assumption))))))) | exact Nat.ne_of_gt (And.left (And.right (And.right (And.right (And.right (And.right (And.right (by assumption)))))))) | exact Nat.ne_of_gt (And.left (And.right (And.right (And.right (And.right (And.right (And.right (And.right (by assumption))))))))) | exact Nat.ne_of_gt (And.left (And.right (And.right (And.right (And.right (And.right (And.right (And.right (And.right (by assumption)))))))))) | exact Nat.ne_of_gt (And.left (And.right (And.right (And.right (And.right (And.right (And.right (And.right (And.right (And.right (by assumption))))))))))) | exact Nat.ne_of_gt (And.left (And.right (And.right (And.right (And.right (And.right (And.right (And.right (And.right (And.right (And.right (by assumption)))))))))))) | exact Nat.ne_of_lt (And.left (by assumption)) | exact Nat.ne_of_lt (And.left (And.right (by assumption))) | exact Nat.ne_of_lt (And.left (And.right (And.right (by assumption)))) | exact Nat.ne_of_lt (And.left (And.right (And.right (And.right (by assumption))))) | exact Nat.ne_of_lt (And.left (And.right (And.right (And.right (And.right (by assumption)))))) | exact Nat.ne_of_lt (And.left (And.right (And.right (And.right (And.right (And.right (by assumption))))))) | exact Nat.ne_of_lt (And.left (And.right (And.right (And.right (And.right (And.right (And.right (by assumption)))))))) | exact Nat.ne_of_lt (And.left (And.right (And.right (And.right (And.right (And.right (And.right (And.right (by assumption))))))))) | exact Nat.ne_of_lt (And.left (And.right (And.right (And.right (And.right (And.right (And.right (And.right (And.right (by assumption)))))))))) | exact Nat.ne_of_lt (And.left (And.right (And.right (And.right (And.right (And.right (And.right (And.right (And.right (And.right (by assumption))))))))))) | exact Nat.ne_of_lt (And.left (And.right (And.right (And.right (And.right (And.right (And.right (And.right (And.right (And.right (And.right (by assumption))))))))))))))
  k_with "OM" => (first | with_reducible assumption | decide | (with_reducible exact om_d1 (by assumption)) | (with_reducible exact om_d2 (by assumption)) | (with_reducible exact om_d3 (by assumption)) | (with_reducible exact om_d4 (by assumption)) | (with_reducible exact om_l1 (by assumption)) | (with_reducible exact om_l2 (by assumption)) | (with_reducible exact om_l3 (by assumption)) | (with_reducible exact om_l4 (by assumption)) | (with_reducible exact om_n1) | (with_reducible exact om_n2) | (with_reducible exact om_n3) | (with_reducible exact om_n4) | (with_reducible exact om_c1 (by assumption)) | (with_reducible exact om_c2 (by assumption) (by assumption)) | (with_reducible exact om_p1 (by assumption)) | (with_reducible exact om_p2 (by assumption)) | (with_reducible exact om_p3 (by assumption)) | (with_reducible exact om_p4 (by assumption)) | (with_reducible exact om_p5 (by assumption)) | (with_reducible exact om_a1 (by assumption)) | (with_reducible exact om_a2 (by assumption)) | (with_reducible exact om_w1 (by assumption) (by assumption)) | (with_reducible exact om_w2 (by assumption) (by assumption)) | (with_reducible exact om_w3 (by assumption)) | (with_reducible exact om_w4) | (with_reducible exact om_s1 (by assumption)) | (with_reducible exact om_s2 (by assumption) (by assumption)) | (with_reducible exact om_s3 (by assumption) (by assumption)) | (with_reducible exact om_s4 (by assumption)) | (with_reducible exact om_s5 (by assumption)))
  k_with "subscriptTail Name Slice ref ref" => (k_here; (with_reducible show wpAny _ _ (subscriptTail _ (PySem.Expr.Slice _ _ (some _) _) (Value.ref _) (Value.ref _)) _ _ _); k_dflt (refine' stepped ?wwF ?wwN ?wwl ?wwp ?wwq ?wwk ?wwo ?wwi ?wwz ?_ ?wws ?wwt; (case wwF => k_asm); (case wwN => k_asm); (case wwl => kmk_list); (case wwp => kmk_part); (case wwq => kmk_part); (case wwk => kmk_part); (case wwo => decide); (case wwi => l_ints); (case wwz => first | assumption | omega | ((have hb1' := len_ints_list (by lay_of)); omega)); (case wws => with_unfolding_all rfl); (case wwt => kmk_pure)); intro _ _ _ _ _ l1 _; (try k_lt l1); (try k_sweep))
  k_with "call ref" => (k_here; k_dflt ((refine wpAny_call ?_); (refine' joined_call ?wwk1 ?wwk2 ?wwk3 ?wwk4 ?wwk5 ?wwkA ?wwkF ?wwk6 ?wwk7 ?wwk8 ?wwkL ?wwk9 ?wwkB ?wwkD ?wwkE ?_; (case wwk1 => k_asm); (case wwk2 => k_asm); (case wwk3 => k_asm); (case wwk4 => k_asm); (case wwk5 => k_asm); (case wwkA => exact rfl); (case wwkF => exact rfl); (case wwk6 => exact Nat.le_of_ble_eq_true rfl); (case wwk7 => k_mem); (case wwk8 => assumption); (case wwkL => exact rfl); (case wwk9 => exact nums_in fun k h0 h6 => start_num k _ h0 h6); (case wwkB => k_mem); (case wwkD => assumption); (case wwkE => exact List.length_take_le ..)); intro _ _ _ _ _ _ _ _ _ _ _; (try dsimp only)))
  k_with "call ref" => (k_here; k_dflt ((refine wpAny_call ?_); (refine' agree_ex ?wwk1 ?wwk2 ?wwk3 ?wwk4 ?wwk5 ?wwkA ?wwkF ?wwk6 ?wwk7 ?_; (case wwk1 => k_asm); (case wwk2 => k_asm); (case wwk3 => k_asm); (case wwk4 => k_asm); (case wwk5 => k_asm); (case wwkA => exact rfl); (case wwkF => exact rfl); (case wwk6 => first | exact Nat.le_of_ble_eq_true rfl | omega | (dsimp only [Around.deeper]; omega)); (case wwk7 => assumption)); intro _ _ _; (try dsimp only)))
  trivial
theorem law_holds : PySem.Challenge.rw_pg0154_01.Holds := by
  refine hd ?_
  k_go0
  all_goals try k_fold
  k_steps
end Mine

end
set_option maxHeartbeats 8000000 in
theorem PySem.Challenge.cw_pg0154_01_holds : PySem.Challenge.rw_pg0154_01.Holds :=
  Mine.law_holds
