import PyProof.Rows.All
import Wide.All
import OpenK.AllK
import Wide.FinOn
import Lean
import PySem.Challenge.RW_pg0222_01
set_option Elab.async false
set_option compiler.extract_closed false
set_option maxRecDepth 100000
section
open PySem PySem.W
set_option maxRecDepth 100000
set_option Elab.async false
namespace Mine
/-! what rgb_to_hsv and hsv_to_rgb reckon, on bits -/
def max3 (x y z : UInt64) : UInt64 := if (Float64.cmp (if (Float64.cmp x y == some .lt) = true then y else x) z == some .lt) = true then z else (if (Float64.cmp x y == some .lt) = true then y else x)
def min3 (x y z : UInt64) : UInt64 := if (Float64.cmp z (if (Float64.cmp y x == some .lt) = true then y else x) == some .lt) = true then z else (if (Float64.cmp y x == some .lt) = true then y else x)
/-- the hue by the greatest part, ahead of the division by six -/
def hue0 (x y z mx rg : UInt64) : UInt64 :=
  if (Float64.cmp x mx == some .eq) = true then Float64.sub (Float64.div (Float64.sub mx z) rg) (Float64.div (Float64.sub mx y) rg)
  else if (Float64.cmp y mx == some .eq) = true then Float64.sub (Float64.add 4611686018427387904 (Float64.div (Float64.sub mx x) rg)) (Float64.div (Float64.sub mx z) rg)
  else Float64.sub (Float64.add 4616189618054758400 (Float64.div (Float64.sub mx y) rg)) (Float64.div (Float64.sub mx x) rg)
def hueM (x y z mx rg : UInt64) : UInt64 := (Float64.divmod (Float64.div (hue0 x y z mx rg) 4618441417868443648) 4607182418800017408).2
def hueF (x y z : UInt64) : UInt64 := hueM x y z (max3 x y z) (Float64.sub (max3 x y z) (min3 x y z))
def hfrac (x : UInt64) : UInt64 := Float64.sub (Float64.mul x 4618441417868443648) (Float64.ofInt (Flt.toInt Float64.truncOf (Float64.mul x 4618441417868443648)))
def hvP (z : UInt64) : UInt64 := Float64.mul z (Float64.sub 4607182418800017408 4607182418800017408)
def hvQ (x z : UInt64) : UInt64 := Float64.mul z (Float64.sub 4607182418800017408 (Float64.mul 4607182418800017408 (hfrac x)))
def hvT (x z : UInt64) : UInt64 := Float64.mul z (Float64.sub 4607182418800017408 (Float64.mul 4607182418800017408 (Float64.sub 4607182418800017408 (hfrac x))))
/-- which of the six ways -/
def way (x : UInt64) : Int := (Flt.toInt Float64.truncOf (Float64.mul x 4618441417868443648)).fmod 6
def hvs (x z : UInt64) : UInt64 × UInt64 × UInt64 :=
  if way x = 0 then (z, hvT x z, hvP z) else if way x = 1 then (hvQ x z, z, hvP z) else if way x = 2 then (hvP z, z, hvT x z) else if way x = 3 then (hvP z, hvQ x z, z)
  else if way x = 4 then (hvT x z, hvP z, z) else (z, hvP z, hvQ x z)
/-- a part told in sixteenths of 1024 -/
def toldF (x : UInt64) : Int := Flt.toInt Float64.truncOf (Float64.add (Float64.mul x 4670232813583204352) 4602678819172646912)
def toldL (x z : UInt64) : List Int := [toldF (hvs x z).1, toldF (hvs x z).2.1, toldF (hvs x z).2.2]
def wholeL (x z : UInt64) : List Int := if (toldL x z).any (fun k => decide (k.fmod 1024 ≠ 0)) then [] else (toldL x z).map fun k => k.fdiv 1024
def fl16 (n : Int) : UInt64 := Float64.div (Float64.ofInt n) 4625196817309499392
end Mine
end
section
open PySem PySem.W PyProof.Rows
set_option Elab.async false
set_option maxRecDepth 100000
namespace Mine
local macro_rules | `(tactic| walk_at "my_dummy0") => `(tactic| skip)
/-- a look at the top that also tells of empty code tables -/
def withTabs (ts : List Addr) (H : Hook) : Hook where
  α := H.α × List (Option Obj)
  obs := fun s => (H.obs s, ts.map s.heap.get?)
  val := fun w => (H.val w, ts.map fun _ => some (tabObj #[]))
  says := fun w h => H.says w h ∧ ∀ P ∈ ts, h.get? P = some (tabObj #[])
  of := fun w s x => ⟨H.of w s (Prod.mk.inj x).1, List.map_inj_left.mp (Prod.mk.inj x).2⟩
  keeps := fun w h h' x k => ⟨H.keeps w h h' x.1 k, fun P hP => k _ _ (x.2 P hP)⟩
/-- the text without the three lines that write «__name__» -/
def view0 : Program := { PySem.Challenge.rw_pg0222_01.row.toRowW.prog with
  main := { PySem.Challenge.rw_pg0222_01.row.toRowW.prog.main with body := ((PySem.Challenge.pw_pg0222_01.main.body.eraseIdx 9).eraseIdx 4).eraseIdx 1 } }
local macro_rules | `(tactic| o_head ($f $a $b $c)) => do
  let (hl, hw, hc) := (Lean.mkIdent `hl, Lean.mkIdent `hw, Lean.mkIdent `hc)
  `(tactic| (
    refine holds_open (q := view0) (loose := [Str.ofString "_Accumulator"]) (Xt := fun s => xlAt view0 [] s && recOk (RowW.records PySem.Challenge.rw_pg0222_01.row.toRowW) s) (XP := XL view0 [])
      (Yf := Hook.obs (withTabs [154, 161] ($f $a $b $c))) (Ya := Hook.val (withTabs [154, 161] ($f $a $b $c))) (YP := Hook.says (withTabs [154, 161] ($f $a $b $c))) (N := 2702)
      ?$hl (Hook.of _) (Hook.keeps _) (fun s e => xl_of s (Bool.and_eq_true_iff.mp e).1) XL.keeps (by rfl) (by rfl) (by rfl)
      (fun s e => recFacts_of (Bool.and_eq_true_iff.mp e).2) (by rfl) (by first | assumption | decide +kernel) (by decide +kernel) ⟨rfl, rfl, rfl, rfl, rfl, by decide +kernel⟩ ?$hw ?$hc
    case $hl:ident => exact fun w => by kernel_rfl))
set_option maxHeartbeats 8000000 in
open_top hd for PySem.Challenge.rw_pg0222_01
end Mine
end
theorem Mine.top_off : True := by
  w_top off
  trivial
section
open PySem PySem.W PySem.Calls PyProof.Rows
set_option Elab.async false
set_option maxRecDepth 100000
set_option maxHeartbeats 4000000
namespace Mine
theorem canon_list_ga : (Manifest.canonical "list.__getattribute__" != "object.__getattribute__") = false := by decide +kernel

section
variable {prog : Program} {w : World} {A : Around} {E : Value → Shared → Prop} {s : Shared} {K : Frag} {x C : Addr} {ox : Obj} {od : Option Obj} {name : Str} {expr : Bool} {pl : Sem Bool}

theorem acc_method_fn {f : Addr} {Q : Value × List Value → Shared → Prop} (X : K.In s.heap) (I : InstAt s.heap x ox C od) (hga : findIn K (.ref C) "__getattribute__" = some (some (.builtin "list.__getattribute__"))) (hk : findIn K (.ref C) "__getattr__" = some none)
    (hf : findIn K (.ref C) name = some (some (.ref f))) (ht : typeIn K (.ref f) = some (.type "function")) (hs : shadowIn od name = some false) (h : Q (.ref f, [.ref x]) s) :
    wpAny (model prog w) A (getMethod (.ref x) name pl) Q E s := by
  have hcan := canon_list_ga
  unfold getMethod specialOf
  refine wpAny_bind (wpAny_bind (I.type.here ((looks_findIn X hga).here ?_)))
  dsimp only
  rw [hcan, if_neg (by decide)]
  refine wpAny_bind (wpAny_bind (I.type.here ((looks_findIn X hk).here ?_)))
  refine wpAny_bind (wpAny_bind (I.type.here ((looks_findIn X hf).here (wpAny_bind ((looks_typeIn X ht).here ?_)))))
  rw [if_neg (by decide +kernel)]
  refine wpAny_bind (wpAny_loadPart I.at_ ?_)
  have hd := I.dict
  cases e : ox.dict with
  | none => exact wpAny_bind (wpAny_rule (wpAny_pure h))
  | some dx =>
    cases od with
    | none => rw [e] at hd; exact hd.elim
    | some o =>
      rw [e] at hd
      obtain ⟨r, a, b⟩ := Option.map_eq_some_iff.mp hs
      refine wpAny_bind (wpAny_bind (wpAny_loadPart hd ?_))
      rw [nsLook_of a]
      refine wpAny_pure ?_
      rw [b]
      exact wpAny_bind (wpAny_rule (wpAny_pure h))

theorem acc_method_bi {i : String} {Q : Value × List Value → Shared → Prop} (X : K.In s.heap) (I : InstAt s.heap x ox C od) (hga : findIn K (.ref C) "__getattribute__" = some (some (.builtin "list.__getattribute__"))) (hk : findIn K (.ref C) "__getattr__" = some none)
    (hf : findIn K (.ref C) name = some (some (.builtin i))) (ht : typeIn K (.builtin i) = some (.type "method_descriptor")) (hs : shadowIn od name = some false) (h : Q (.builtin i, [.ref x]) s) :
    wpAny (model prog w) A (getMethod (.ref x) name pl) Q E s := by
  have hcan := canon_list_ga
  unfold getMethod specialOf
  refine wpAny_bind (wpAny_bind (I.type.here ((looks_findIn X hga).here ?_)))
  dsimp only
  rw [hcan, if_neg (by decide)]
  refine wpAny_bind (wpAny_bind (I.type.here ((looks_findIn X hk).here ?_)))
  refine wpAny_bind (wpAny_bind (I.type.here ((looks_findIn X hf).here (wpAny_bind ((looks_typeIn X ht).here ?_)))))
  rw [if_neg (by decide +kernel)]
  refine wpAny_bind (wpAny_loadPart I.at_ ?_)
  have hd := I.dict
  cases e : ox.dict with
  | none => exact wpAny_bind (wpAny_rule (wpAny_pure h))
  | some dx =>
    cases od with
    | none => rw [e] at hd; exact hd.elim
    | some o =>
      rw [e] at hd
      obtain ⟨r, a, b⟩ := Option.map_eq_some_iff.mp hs
      refine wpAny_bind (wpAny_bind (wpAny_loadPart hd ?_))
      rw [nsLook_of a]
      refine wpAny_pure ?_
      rw [b]
      exact wpAny_bind (wpAny_rule (wpAny_pure h))

/-- the check of a builtin's self, by what the heap tells of its class -/
theorem check_sub {i owner n : String} {self : Value} {rest : List Value} {Q : Unit → Shared → Prop} (hs : splitId i = some (owner, n)) (hk : builtinKind i = some .slot ∨ builtinKind i = some .method)
    (hi : Looks (model prog w) s.heap (isInstance self (.type owner)) true) (ha : argsOk i ⟨self :: rest, []⟩) (q : Q () s) : wpAny (model prog w) A (checkBuiltinCall i ⟨self :: rest, []⟩) Q E s := by
  rcases hk with hk | hk
  · exact check_slot hk hs hi ha q
  · simp only [checkBuiltinCall, hk, hs]
    refine wpAny_bind (hi.here ?_)
    simp only [Bool.not_true, Bool.false_eq_true, if_false]
    cases hsig : Manifest.signature? i with
    | none => exact wpAny_pure q
    | some sig =>
      simp only [argsOk, hsig] at ha
      have h2 : Bind.checkArgs i sig ⟨self :: rest, []⟩ = pure () := ha
      show wpAny _ _ (Bind.checkArgs i sig ⟨self :: rest, []⟩) _ _ _
      rw [h2]; exact wpAny_pure q

theorem call_sub {i owner n : String} {self : Value} {rest : List Value} {B : Builtin} {Q : Value → Shared → Prop} (hs : splitId i = some (owner, n)) (hk : builtinKind i = some .slot ∨ builtinKind i = some .method)
    (hi : Looks (model prog w) s.heap (isInstance self (.type owner)) true) (ha : argsOk i ⟨self :: rest, []⟩) (hp : plainId i = true) (hb : entryFor table i = some B)
    (hc : wpAny (model prog w) A.in1 (B ⟨self :: rest, []⟩) (fun fin s' => ∃ v, fin = .done (.ret v) ∧ Q v s') E s) : wpAny (model prog w) A (call (.builtin i) (self :: rest)) Q E s := by
  refine wpAny_call (codeAny_call_builtin hp hb (check_sub hs hk hi ha (wpAny_mono hc (fun fin s' h' => ?_) fun _ _ h' => h')))
  obtain ⟨v, rfl, hv⟩ := h'; exact hv

theorem inst_looks {T : Value} {r : Bool} (X : K.In s.heap) (I : InstAt s.heap x ox C od) (hm : mroIn K C T = some r) : Looks (model prog w) s.heap (isInstance (.ref x) T) r :=
  I.type.andThen (looks_mroIn X hm)

theorem acc_get_value {v : Value} {Q : Value → Shared → Prop} (X : K.In s.heap) (I : InstAt s.heap x ox C od) (hga : findIn K (.ref C) "__getattribute__" = some (some (.builtin "list.__getattribute__"))) (hk : findIn K (.ref C) "__getattr__" = some none)
    (hm : mroIn K C (.type "list") = some true)
    (hf : findObj K C od name = some (.value v)) (hh : handedIn v = true) (h : Q v { s with toks := s.toks + 1 }) : wpAny (model prog w) A (getAttr (.ref x) name expr) Q E s := by
  obtain ⟨hh', g, d, t, os⟩ := s
  have L0 := I.type (M := model prog w)
  have L1 := looks_findIn (M := model prog w) X hga
  have L2 := looks_findIn (M := model prog w) X hk
  have L3 := looks_find (M := model prog w) X I hf
  have hi : Looks (model prog w) hh' (isInstance (.ref x) (.type "list")) true := inst_looks (s := ⟨hh', g, d, t, os⟩) X I hm
  have hb := F.slot_list_getattribute.bind (.ref x)
  unfold getAttr getAttrBy
  refine wpAny_bind (wpAny_mkText (wpAny_holding (wpAny_bind (L0.at (wpAny_bind (L1.at ?_))))))
  dsimp only
  have hn : ¬ ((onTheHeap (Value.ref C) && Value.builtin "list.__getattribute__" == Value.builtin "object.__getattribute__") = true) := by
    show ¬ ((true && Value.builtin "list.__getattribute__" == Value.builtin "object.__getattribute__") = true)
    decide
  rw [if_neg hn]
  unfold getAttrByItsOwn hookBefore callGetattribute boundAndCalled
  refine wpAny_bind ?_
  show wpAny _ _ (typeLookup (.ref C) "__getattr__") _ _ _
  refine L2.at ?_
  refine wpAny_bind (wpAny_attempt (wpAny_holding ?_))
  rw [if_neg (by cases expr <;> decide), hb]
  refine wpAny_bind (wpAny_pure ?_)
  refine call_sub (n := "__getattribute__") (owner := "list") (by decide +kernel) (.inl (by decide +kernel)) hi (F.args_list_getattribute_2 _ _) (by decide +kernel) am_entry_list_getattribute ?_
  unfold Builtin.«object.__getattribute__»
  refine wpAny_bind (wpAny_pure (wpAny_bind (wpAny_pure (wpAny_bind (L0.at (wpAny_bind (L3.at ?_)))))))
  refine wpAny_pure ⟨_, rfl, ?_⟩
  show wpAny _ _ (handedOut v) _ _ _
  rw [handedOut_of hh]; exact wpAny_pure h
/-- an object of a class over list: its dict, its items -/
abbrev accOf (C dx : Addr) (its : List Value) (n : Nat) : Obj := { cls := .ref C, dict := some dx, data := .seq its.toArray n }

section
variable {h₀ : Heap} {L dx : Addr} {m : Str → Option Value} {news news' : List (Addr × Obj)} {es : List DictEntry} {n k : Nat} {its : List Value} {v : Value}

theorem accGet {Q : Value → Shared → Prop} {attr : Option Value} (F : Fr h₀ L s.heap m) (X₀ : K.In h₀) (I : InstAt s.heap x ox C (some (dictOf es n))) (hga : findIn K (.ref C) "__getattribute__" = some (some (.builtin "list.__getattribute__"))) (hk : findIn K (.ref C) "__getattr__" = some none)
    (hm : mroIn K C (.type "list") = some true) (hh : hasDictIn K C = true)
    (ha : findIn K (.ref C) name = some attr) (hn : noGet K attr = true) (hl : getL name es = some (some v)) (hv : handedIn v = true) (h : Q v { s with toks := s.toks + 1 }) :
    wpAny (model prog w) A (getAttr (.ref x) name expr) Q E s :=
  acc_get_value (X₀.keeps F.keep) I hga hk hm (findObj_own hh ha hn hl) hv h

theorem accMeth {Q : Value × List Value → Shared → Prop} {f : Addr} (F : Fr h₀ L s.heap m) (X₀ : K.In h₀) (I : InstAt s.heap x ox C (some (dictOf es n))) (hga : findIn K (.ref C) "__getattribute__" = some (some (.builtin "list.__getattribute__"))) (hk : findIn K (.ref C) "__getattr__" = some none)
    (hf : findIn K (.ref C) name = some (some (.ref f))) (ht : isFn K (.ref f) = true) (hl : getL name es = some none) (h : Q (.ref f, [.ref x]) s) : wpAny (model prog w) A (getMethod (.ref x) name pl) Q E s :=
  acc_method_fn (X₀.keeps F.keep) I hga hk hf (beq_iff_eq.mp ht) (by show (lookIn name (dictOf es n)).map _ = _; rw [lookIn_dict, hl]; rfl) h

theorem accMethBi {Q : Value × List Value → Shared → Prop} {i : String} (F : Fr h₀ L s.heap m) (X₀ : K.In h₀) (I : InstAt s.heap x ox C (some (dictOf es n))) (hga : findIn K (.ref C) "__getattribute__" = some (some (.builtin "list.__getattribute__"))) (hk : findIn K (.ref C) "__getattr__" = some none)
    (hf : findIn K (.ref C) name = some (some (.builtin i))) (ht : typeIn K (.builtin i) = some (.type "method_descriptor")) (hl : getL name es = some none) (h : Q (.builtin i, [.ref x]) s) : wpAny (model prog w) A (getMethod (.ref x) name pl) Q E s :=
  acc_method_bi (X₀.keeps F.keep) I hga hk hf ht (by show (lookIn name (dictOf es n)).map _ = _; rw [lookIn_dict, hl]; rfl) h

theorem accAppend {Q : Value → Shared → Prop} (F : Fr h₀ L s.heap m) (X₀ : K.In h₀) (N : News h₀ L s.heap news) (hm : mroIn K C (.type "list") = some true)
    (U : Upd x (accOf C dx its n) (accOf C dx (its ++ [v]) (n + 1)) news news')
    (h : ∀ h', Fr h₀ L h' m → News h₀ L h' news' → Q .none { s with heap := h' }) (hsz : its.length ≤ 1000) : wpAny (model prog w) A (call (.builtin "list.append") [.ref x, v]) Q E s := by
  obtain ⟨pre, post, rfl, rfl, a, b⟩ := U.split
  have z := N (x, accOf C dx its n) (List.mem_append.mpr (.inr (.head _)))
  have hi : Looks (model prog w) s.heap (isInstance (.ref x) (.type "list")) true := ((Looks.ld z.1).andThen .now).andThen (looks_mroIn (X₀.keeps F.keep) hm)
  refine call_sub (n := "append") (owner := "list") (by decide +kernel) (.inr (by decide +kernel)) hi (PySem.F.args_list_append_2 _ _) (by decide +kernel) PySem.F.entry_list_append ?_
  show wpAny _ _ (updateSeq x (·.push v) >>= fun _ => ret .none) _ _ s
  refine wpAny_bind (wpAny_updateSeq z.1 rfl (wpAny_pure ⟨.none, rfl, ?_⟩) (hz := ?_) (_hz' := ?_))
  · obtain ⟨F', N'⟩ := news_upd (o' := accOf C dx (its ++ [v]) (n + 1)) (f := Obj.mapSeq (·.push v)) F N a b (by simp [Obj.mapSeq]) rfl
    exact h _ F' N'
  · rw [List.size_toArray, sizeLine_eq]; omega
  · rw [Array.size_push, List.size_toArray, sizeLine_eq]; omega
end
end
theorem accInst {h₀ h : Heap} {L x C dx : Addr} {news : List (Addr × Obj)} {od : Obj} {its : List Value} {n : Nat} (N : News h₀ L h news) (h1 : (x, accOf C dx its n) ∈ news) (h2 : (dx, od) ∈ news) :
    W.InstAt h x (accOf C dx its n) C (some od) := ⟨(N _ h1).1, rfl, rfl, (N _ h2).1⟩
end Mine
end
section
open PySem PySem.W PySem.Calls PyProof.Rows
set_option Elab.async false
set_option maxRecDepth 100000
set_option maxHeartbeats 4000000
namespace Mine
section
variable {prog : Program} {w : World} {A : Around} {E : Value → Shared → Prop} {s : Shared} {K : Frag} {x C : Addr} {ox : Obj} {od : Option Obj} {name : Str} {expr : Bool} {pl : Sem Bool}

theorem acc_special {i owner n : String} {B : Builtin} {args : List Value} {Q : Option Value → Shared → Prop} (X : K.In s.heap) (I : W.InstAt s.heap x ox C od) (hf : findIn K (.ref C) name = some (some (.builtin i)))
    (hb : ∀ self, bindSpecial (.builtin i) self = pure (.builtin i, [self])) (hs : splitId i = some (owner, n)) (hk : builtinKind i = some .slot ∨ builtinKind i = some .method)
    (hm : mroIn K C (.type owner) = some true) (ha : argsOk i ⟨.ref x :: args, []⟩) (hp : plainId i = true) (hB : entryFor table i = some B)
    (hc : wpAny (model prog w) A.in1 (B ⟨.ref x :: args, []⟩) (fun fin s' => ∃ v, fin = .done (.ret v) ∧ Q (some v) s') E s) : wpAny (model prog w) A (callSpecial? (.ref x) name args) Q E s := by
  unfold callSpecial?
  refine wpAny_bind (wpAny_bind (I.type.here ((looks_findIn X hf).here (wpAny_holding (wpAny_bind ?_)))))
  rw [hb]
  refine wpAny_pure (wpAny_bind ?_)
  refine call_sub (Q := fun v s' => wpAny (model prog w) A (pure (some v)) Q E s') hs hk (inst_looks X I hm) ha hp hB (wpAny_mono hc (fun fin s' h => ?_) fun _ _ e => e)
  obtain ⟨v, e, q⟩ := h
  exact ⟨v, e, wpAny_pure q⟩

theorem acc_seqKey {k : Value} {Q : Value → Shared → Prop} (X : K.In s.heap) (I : W.InstAt s.heap x ox C od) (hq : noSeq K C = true) (h : Q k s) : wpAny (model prog w) A (sequenceKey (.ref x) k name) Q E s := by
  unfold sequenceKey
  refine wpAny_bind (I.type.here ?_)
  refine wpAny_bind ((anyM_none X hq).here ?_)
  rw [if_pos (show (!false) = true from rfl)]
  exact wpAny_pure h

theorem acc_getItem_int {xs : Array Value} {n : Nat} {k : Int} {t : Tok} {v : Value} {Q : Value → Shared → Prop} (X : K.In s.heap) (I : W.InstAt s.heap x ox C od) (hd : ox.data = .seq xs n) (hq : noSeq K C = true)
    (hf : findIn K (.ref C) "__getitem__" = some (some (.builtin "list.__getitem__"))) (hm : mroIn K C (.type "list") = some true)
    (h0 : 0 ≤ k) (hfit : k < 2 ^ 63) (hx : xs[k.toNat]? = some v) (h : Q v s) : wpAny (model prog w) A (getItem (.ref x) (.int k t)) Q E s := by
  unfold getItem
  refine wpAny_holding (wpAny_bind (acc_seqKey X I hq (wpAny_bind ?_)))
  refine acc_special (owner := "list") (n := "__getitem__") X I hf PySem.F.slot_list_getitem.bind (by decide +kernel) (.inr (by decide +kernel)) hm (PySem.F.args_list_getitem_2 _ _) (by decide +kernel) PySem.F.entry_list_getitem ?_
  show wpAny _ _ (Builtin.List.listSubscript? (.int k t) >>= _) _ _ s
  refine wpAny_bind (wpAny_listSubscript_int (fitsIndex_of h0 hfit) ?_)
  clear hfit
  obtain ⟨j, rfl⟩ := Int.eq_ofNat_of_zero_le h0
  have hx' : xs[j]? = some v := hx
  show wpAny _ _ ((seqItemAt x j >>= fun r => pure (r.map (j, ·))) >>= _) _ _ s
  refine wpAny_bind (wpAny_bind (wpAny_seqItemAt I.at_ hd (wpAny_pure ?_)))
  rw [hx']
  first
    | exact wpAny_bind (wpAny_pure (wpAny_pure ⟨v, rfl, wpAny_pure h⟩))
    | exact wpAny_pure ⟨v, rfl, wpAny_pure h⟩

theorem acc_getItem_slice {sl : Addr} {xs : Array Value} {n : Nat} {vl vu vs : Value} {lo hi st : Option Int} {Q : Value → Shared → Prop} (X : K.In s.heap) (I : W.InstAt s.heap x ox C od) (hd : ox.data = .seq xs n) (hq : noSeq K C = true)
    (hf : findIn K (.ref C) "__getitem__" = some (some (.builtin "list.__getitem__"))) (hm : mroIn K C (.type "list") = some true)
    (hs : s.heap.IsSliceOf sl vl vu vs) (pl : IsPart vl lo) (pu : IsPart vu hi) (ps : IsPart vs st) (h0 : st ≠ some 0)
    (h : Q (.ref s.heap.objs.size) { s with heap := s.heap.push { cls := .type "list", data := .seq (slicePick xs lo hi st) } })
    (hsz : xs.size ≤ sizeLine) : wpAny (model prog w) A (getItem (.ref x) (.ref sl)) Q E s := by
  obtain ⟨os, hos, hcs, hds⟩ := id hs
  have hTs : s.TypeIs (.ref sl) "slice" := ⟨os, hos, hcs⟩
  unfold getItem
  refine wpAny_holding (wpAny_bind (acc_seqKey X I hq (wpAny_bind ?_)))
  refine acc_special (owner := "list") (n := "__getitem__") X I hf PySem.F.slot_list_getitem.bind (by decide +kernel) (.inr (by decide +kernel)) hm (PySem.F.args_list_getitem_2 _ _) (by decide +kernel) PySem.F.entry_list_getitem ?_
  show wpAny _ _ (Builtin.List.listSubscript? (.ref sl) >>= _) _ _ s
  refine wpAny_bind ?_
  unfold Builtin.List.listSubscript?
  refine wpAny_bind (wpAny_specialOf hTs slice_no_index ?_)
  simp only [Option.isNone_none, if_true]
  refine wpAny_pure ?_
  show wpAny _ _ (typeOf (.ref sl) >>= _) _ _ s
  refine wpAny_bind (wpAny_typeOf hTs ?_)
  rw [if_neg (by decide)]
  rw [listSliceParts_eq]
  have hstep : ¬ ((rawPart st == rawInt 0) = true) := by
    cases st with
    | none => exact Bool.false_ne_true
    | some c =>
      intro hh
      have : c = 0 := by simpa [rawPart, rawInt] using hh
      exact h0 (by rw [this])
  refine wpAny_bind (wpAny_bind (wpAny_field hos hds (x := vs) rfl (wpAny_bind (wpAny_listPart ps ?_))))
  rw [if_neg hstep]
  refine wpAny_bind (wpAny_field hos hds (x := vl) rfl (wpAny_bind (wpAny_listPart pl ?_)))
  refine wpAny_bind (wpAny_field hos hds (x := vu) rfl (wpAny_bind (wpAny_listPart pu (wpAny_pure ?_))))
  refine wpAny_bind (m := Builtin.List.listItems (.ref x)) ?_
  unfold Builtin.List.listItems
  refine wpAny_bind (wpAny_seqItems I.at_ hd (wpAny_pure ?_))
  refine wpAny_bind (wpAny_of_eq (sliceIndices_raw lo hi st xs.size h0) ?_)
  exact wpAny_bind (wpAny_newObj_type (wpAny_pure ⟨_, rfl, wpAny_pure h⟩) (Nat.le_trans (slicePick_size_le xs lo hi st) hsz))

theorem acc_setItem_slice {sl l : Addr} {xs ys : Array Value} {n nl : Nat} {vl vu : Value} {lo hi : Option Int} {Q : Unit → Shared → Prop} (X : K.In s.heap) (I : W.InstAt s.heap x ox C od) (hd : ox.data = .seq xs n) (hq : noSeq K C = true)
    (hf : findIn K (.ref C) "__setitem__" = some (some (.builtin "list.__setitem__"))) (hm : mroIn K C (.type "list") = some true)
    (hs : s.heap.IsSliceOf sl vl vu .none) (pl : IsPart vl lo) (pu : IsPart vu hi) (hl : s.heap.get? l = some (listOf ys nl)) (hne : x ≠ l)
    (h : Q () { s with heap := s.heap.update x (Obj.mapSeq fun zs => zs.extract 0 (sliceBounds lo hi none xs.size).1.toNat ++ ys ++ zs.extract (max (sliceBounds lo hi none xs.size).1 (sliceBounds lo hi none xs.size).2.1).toNat) })
    (hsz : xs.size ≤ 1000) (hsz2 : ys.size ≤ 1000) : wpAny (model prog w) A (setItem (.ref x) (.ref sl) (.ref l)) Q E s := by
  obtain ⟨os, hos, hcs, hds⟩ := id hs
  have hTs : s.TypeIs (.ref sl) "slice" := ⟨os, hos, hcs⟩
  have hTl : s.TypeIs (.ref l) "list" := ⟨_, hl, rfl⟩
  unfold setItem
  refine wpAny_holding (wpAny_bind (acc_seqKey X I hq (wpAny_bind ?_)))
  refine acc_special (owner := "list") (n := "__setitem__") X I hf PySem.F.slot_list_setitem.bind (by decide +kernel) (.inl (by decide +kernel)) hm (PySem.F.args_list_setitem_3 _ _ _) (by decide +kernel) PySem.F.entry_list_setitem ?_
  unfold Builtin.«list.__setitem__»
  refine wpAny_bind (wpAny_pure ?_)
  refine wpAny_bind ?_
  unfold Builtin.List.listSubscript?
  refine wpAny_bind (wpAny_specialOf hTs slice_no_index ?_)
  simp only [Option.isNone_none, if_true]
  refine wpAny_pure ?_
  show wpAny _ _ (typeOf (.ref sl) >>= _) _ _ s
  refine wpAny_bind (wpAny_typeOf hTs ?_)
  rw [if_neg (by decide)]
  rw [listSliceParts_eq]
  refine wpAny_bind (wpAny_bind (wpAny_field hos hds (x := .none) rfl (wpAny_bind (wpAny_listPart .none ?_))))
  rw [if_neg (show ¬ ((rawPart none == rawInt 0) = true) from Bool.false_ne_true)]
  refine wpAny_bind (wpAny_field hos hds (x := vl) rfl (wpAny_bind (wpAny_listPart pl ?_)))
  refine wpAny_bind (wpAny_field hos hds (x := vu) rfl (wpAny_bind (wpAny_listPart pu (wpAny_pure ?_))))
  dsimp only
  have hsame : ¬ (Builtin.List.listSameRef (.ref x) (.ref l) = true) := by
    simp only [Builtin.List.listSameRef, beq_iff_eq]
    exact hne
  rw [if_neg hsame]
  refine wpAny_bind ?_
  unfold Builtin.List.listAllItems
  refine wpAny_bind (wpAny_typeOf hTl ?_)
  rw [if_pos (by decide)]
  unfold Builtin.List.listItems
  refine wpAny_bind (wpAny_seqItems hl rfl (wpAny_pure ?_))
  refine wpAny_bind (wpAny_bind (wpAny_seqItems I.at_ hd (wpAny_pure ?_)))
  refine wpAny_bind (wpAny_of_eq (sliceIndices_raw lo hi none xs.size (by simp)) ?_)
  rw [if_pos (show ((sliceBounds lo hi none xs.size).2.2 == 1) = true from rfl)]
  refine wpAny_bind (wpAny_rule ?_)
  have htl : ¬ (Builtin.List.listTooLong (xs.size + ys.size) = true) := by
    unfold Builtin.List.listTooLong
    rw [decide_eq_true_eq, sizeLine_eq]; omega
  rw [if_neg htl]
  refine wpAny_bind ?_
  show wpAny _ _ (updateSeq x _) _ _ s
  refine wpAny_updateSeq I.at_ hd (wpAny_bind (wpAny_letGo (wpAny_pure ⟨.none, rfl, wpAny_pure h⟩))) (hz := ?_) (_hz' := ?_)
  · rw [sizeLine_eq]; omega
  · simp only [Array.size_append, Array.size_extract]; rw [sizeLine_eq]; omega
end
end Mine
end
section
open PySem PySem.W PySem.Calls PyProof.Rows
set_option Elab.async false
set_option maxRecDepth 100000
set_option maxHeartbeats 4000000
namespace Mine
section
variable {prog : Program} {w : World} {A : Around} {E : Value → Shared → Prop} {s : Shared} {K : Frag} {x C : Addr} {ox : Obj} {od : Option Obj} {name : Str} {expr : Bool} {pl : Sem Bool}

theorem acc_tail {value slice : Expr} {i : Value} {ops : List Value} {b : String} {Q : Value → Shared → Prop} (X : K.In s.heap) (I : W.InstAt s.heap x ox C od) (hf : findIn K (.ref C) "__getitem__" = some (some (.builtin b)))
    (hg : wpAny (model prog w) A (getItem (.ref x) i) Q E s) (hs : subscripted slice false (.ref x) i = operate ops (getItem (.ref x) i)) : wpAny (model prog w) A (subscriptTail value slice (.ref x) i) Q E s := by
  unfold subscriptTail getitemInPython
  refine wpAny_bind (wpAny_bind (wpAny_bind (I.type.here ((looks_findIn X hf).here ?_))))
  dsimp only
  refine wpAny_pure ?_
  rw [hs]
  refine wpAny_bind (wpAny_operating (wpAny_mono hg (fun r s₃ h₃ => ?_) fun _ _ x => x))
  show wpAny (model prog w) A (letTemporaryGo value (.ref x) r >>= fun _ => pure r) Q E s₃
  exact wpAny_bind (wpAny_letTemporaryGo (wpAny_pure h₃))

variable {h₀ : Heap} {L dx : Addr} {m : Str → Option Value} {news : List (Addr × Obj)} {es : List DictEntry} {n nd : Nat} {its : List Value}

theorem accItem {value slice : Expr} {k : Int} {t : Tok} {v : Value} {Q : Value → Shared → Prop} (F : Fr h₀ L s.heap m) (X₀ : K.In h₀) (I : W.InstAt s.heap x (accOf C dx its n) C od) (hq : noSeq K C = true)
    (hf : findIn K (.ref C) "__getitem__" = some (some (.builtin "list.__getitem__"))) (hm : mroIn K C (.type "list") = some true)
    (h0 : 0 ≤ k) (hfit : k < 2 ^ 63) (hx : its[k.toNat]? = some v) (h : Q v s)
    (hs : subscripted slice false (.ref x) (.int k t) = operate [.ref x, .int k t] (getItem (.ref x) (.int k t))) : wpAny (model prog w) A (subscriptTail value slice (.ref x) (.int k t)) Q E s :=
  acc_tail (X₀.keeps F.keep) I hf (acc_getItem_int (X₀.keeps F.keep) I rfl hq hf hm h0 hfit (by simpa using hx) h) hs

theorem inst_push {h : Heap} {o : Obj} (I : W.InstAt h x ox C od) : W.InstAt (h.push o) x ox C od := ⟨Heap.get?_push_of_some _ I.at_, I.cls, I.no, by
  have hd := I.dict
  cases e : ox.dict with
  | none => rw [e] at hd; cases od <;> first | exact hd | exact hd.elim
  | some d => rw [e] at hd; cases od <;> first | exact hd.elim | exact Heap.get?_push_of_some _ hd⟩

theorem accSlice {value slice : Expr} {vl vu : Value} {lo hi : Option Int} {Q : Value → Shared → Prop}
    (F : Fr h₀ L s.heap m) (X₀ : K.In h₀) (N : News h₀ L s.heap news) (I : W.InstAt s.heap x (accOf C dx its n) C od) (hq : noSeq K C = true)
    (hf : findIn K (.ref C) "__getitem__" = some (some (.builtin "list.__getitem__"))) (hm : mroIn K C (.type "list") = some true) (pl : IsPart vl lo) (pu : IsPart vu hi) (hsz : its.length ≤ 1000)
    (h : ∀ l h', Fr h₀ L h' m → News h₀ L h' ((l, listOf (slicePick its.toArray lo hi none) 0) :: news) → (∀ p ∈ news, p.1 < l) → Q (.ref l) { s with heap := h' })
    (hs : subscripted slice false (.ref x) (.ref s.heap.objs.size) = operate [.ref s.heap.objs.size, .ref x] (getItem (.ref x) (.ref s.heap.objs.size))) :
    wpAny (model prog w) A (subscriptTail value slice (.ref x) (.ref s.heap.objs.size)) Q E { s with heap := s.heap.push { cls := .type "slice", data := .fields #[vl, vu, .none] } } := by
  have X1 : K.In (s.heap.push { cls := .type "slice", data := .fields #[vl, vu, .none] }) := fun a o e => Heap.get?_push_of_some _ (X₀.keeps F.keep a o e)
  refine acc_tail (s := { s with heap := s.heap.push { cls := .type "slice", data := .fields #[vl, vu, .none] } }) X1 (inst_push I) hf ?_ hs
  refine acc_getItem_slice (s := { s with heap := s.heap.push { cls := .type "slice", data := .fields #[vl, vu, .none] } }) X1 (inst_push I) rfl hq hf hm (Heap.IsSliceOf.new ..) pl pu .none (by simp) ?_ (by rw [List.size_toArray, sizeLine_eq]; omega)
  have N1 := News.push (F.push { cls := .type "slice", data := .fields #[vl, vu, .none] }) (N.grown fun _ _ e => Heap.get?_push_of_some _ e) { cls := .type "list", data := .seq (slicePick its.toArray lo hi none) }
  refine h _ _ ((F.push _).push _) N1 fun p hp => ?_
  show p.1 < (s.heap.push _).objs.size
  rw [Heap.size_push]
  exact Nat.lt_succ_of_lt (Heap.lt_size (N p hp).1)

theorem accSetSlice {l : Addr} {ys its' : List Value} {nl : Nat} {vl vu : Value} {lo hi : Option Int} {g : Obj → List (Addr × Obj)} {Q : Unit → Shared → Prop}
    (F : Fr h₀ L s.heap m) (X₀ : K.In h₀) (N : News h₀ L s.heap news) (U : UpdF x (accOf C dx its n) news g) (I : W.InstAt s.heap x (accOf C dx its n) C od) (hq : noSeq K C = true)
    (hf : findIn K (.ref C) "__setitem__" = some (some (.builtin "list.__setitem__"))) (hm : mroIn K C (.type "list") = some true) (pl : IsPart vl lo) (pu : IsPart vu hi)
    (hl : (l, listOf ys.toArray nl) ∈ news) (hne : @Ne Nat x l) (hsz : its.length ≤ 1000) (hsz2 : ys.length ≤ 1000)
    (e : its.toArray.extract 0 (sliceBounds lo hi none its.length).1.toNat ++ ys.toArray ++ its.toArray.extract (max (sliceBounds lo hi none its.length).1 (sliceBounds lo hi none its.length).2.1).toNat its.length = its'.toArray)
    (h : ∀ n' h', Fr h₀ L h' m → News h₀ L h' (g (accOf C dx its' n')) → Q () { s with heap := h' }) :
    wpAny (model prog w) A (setItem (.ref x) (.ref s.heap.objs.size) (.ref l)) Q E { s with heap := s.heap.push { cls := .type "slice", data := .fields #[vl, vu, .none] } } := by
  have X1 : K.In (s.heap.push { cls := .type "slice", data := .fields #[vl, vu, .none] }) := fun a o e => Heap.get?_push_of_some _ (X₀.keeps F.keep a o e)
  refine acc_setItem_slice (s := { s with heap := s.heap.push { cls := .type "slice", data := .fields #[vl, vu, .none] } }) X1 (inst_push I) rfl hq hf hm (Heap.IsSliceOf.new ..) pl pu (Heap.get?_push_of_some _ (N _ hl).1) hne ?_ (by rw [List.size_toArray]; omega) (by rw [List.size_toArray]; omega)
  obtain ⟨pre, post, rfl, hg, a, b⟩ := U.split
  have N1 : News h₀ L (s.heap.push { cls := .type "slice", data := .fields #[vl, vu, .none] }) (pre ++ (x, accOf C dx its n) :: post) := N.grown fun _ _ e => Heap.get?_push_of_some _ e
  have key : ∀ f : Array Value → Array Value, f its.toArray = its'.toArray → ∃ n', Obj.mapSeq f (accOf C dx its n) = accOf C dx its' n' := fun f hf => by
    refine ⟨if (f its.toArray).size == its.toArray.size then n else n + 1, ?_⟩
    show (⟨.ref C, some dx, .seq (f its.toArray) (if (f its.toArray).size == its.toArray.size then n else n + 1), #[]⟩ : Obj) = _
    rw [hf]
  have e' : its.toArray.extract 0 (sliceBounds lo hi none its.toArray.size).1.toNat ++ ys.toArray ++ its.toArray.extract (max (sliceBounds lo hi none its.toArray.size).1 (sliceBounds lo hi none its.toArray.size).2.1).toNat = its'.toArray := by
    rw [List.size_toArray]; exact e
  obtain ⟨n', hn'⟩ := key (fun zs => zs.extract 0 (sliceBounds lo hi none its.toArray.size).1.toNat ++ ys.toArray ++ zs.extract (max (sliceBounds lo hi none its.toArray.size).1 (sliceBounds lo hi none its.toArray.size).2.1).toNat) e'
  obtain ⟨F2, N2⟩ := news_upd (F.push _) N1 a b hn' rfl
  refine h n' _ F2 ?_
  rw [hg]
  exact N2

theorem bounds_from (a b : List Value) : sliceBounds (some (a.length : Int)) none none (a ++ b).length = ((a.length : Int), ((a ++ b).length : Int), 1) := by
  simp only [sliceBounds, Option.getD_none, List.length_append]
  have h1 : ¬ ((a.length : Int) < 0) := by omega
  simp only [h1, if_false, show (1 : Int) > 0 by decide, if_true]
  refine Prod.ext ?_ rfl
  show max 0 (min _ _) = _
  omega
theorem cut_from (a b ys : List Value) : (a ++ b).toArray.extract 0 (sliceBounds (some (a.length : Int)) none none (a ++ b).length).1.toNat ++ ys.toArray ++ (a ++ b).toArray.extract (max (sliceBounds (some (a.length : Int)) none none (a ++ b).length).1 (sliceBounds (some (a.length : Int)) none none (a ++ b).length).2.1).toNat (a ++ b).length = (a ++ ys).toArray := by
  rw [bounds_from]
  apply Array.ext'
  simp
  omega
theorem cut_all (its ys : List Value) : its.toArray.extract 0 (sliceBounds none none none its.length).1.toNat ++ ys.toArray ++ its.toArray.extract (max (sliceBounds none none none its.length).1 (sliceBounds none none none its.length).2.1).toNat its.length = ys.toArray := by
  apply Array.ext'
  simp [sliceBounds]
theorem pick_from (a b : List Value) : slicePick (a ++ b).toArray (some (a.length : Int)) none none = b.toArray := by
  rw [slicePick_from _ _ (by simp)]
  simp
end
end Mine
end
section
open PySem PySem.W PySem.Calls PyProof.Rows Builtin Builtin.ObjectAttr
set_option Elab.async false
set_option maxRecDepth 100000
set_option maxHeartbeats 4000000
namespace Mine
theorem list_passes (self : Value) : refuseLoop self "__setattr__" [.type "list", .type "object"] = pure () := by kernel_rfl
section
variable {prog : Program} {w : World} {A : Around} {E : Value → Shared → Prop} {s : Shared} {K : Frag} {x C : Addr} {name : Str} {h₀ : Heap} {L dx : Addr} {m : Str → Option Value} {news news' : List (Addr × Obj)} {es es' : List DictEntry} {n n' : Nat} {v : Value} {ox : Obj}

theorem accSetAttr {Q : Unit → Shared → Prop} {cd : ClassData} (F : Fr h₀ L s.heap m) (X₀ : K.In h₀) (N : News h₀ L s.heap news) (I : W.InstAt s.heap x ox C (some (dictOf es n))) (hd : ox.dict = some dx)
    (hs : findIn K (.ref C) "__setattr__" = some (some (.builtin "object.__setattr__"))) (hc : clsIn K C = some cd) (hm : cd.mro = [.ref C, .type "list", .type "object"]) (hdict : cd.hasDict = true) (ht : takerIn K C name = some none) (hl : (getL name es).isSome = true)
    (e : (putL name (PyData.keyHash w.params name) (.str name (s.toks + 1)) v es, putN name es n) = (es', n')) (U : Upd dx (dictOf es n) (dictOf es' n') news news') (hz : es'.length ≤ 1000)
    (h : ∀ h', Fr h₀ L h' m → News h₀ L h' news' → Q () { s with heap := h', toks := s.toks + 2 }) :
    wpAny (model prog w) A (setAttr (.ref x) name v) Q E s := by
  have SF := PySem.F.store_object
  have X := X₀.keeps F.keep
  obtain ⟨pre, post, rfl, rfl, a, b⟩ := U.split
  obtain ⟨e1, e2⟩ := Prod.mk.inj e
  refine set_plain X I hs ?_
  have sub : Looks (model prog w) s.heap (isInstance (.ref x) (.type "object")) true := I.type.andThen (looks_mroIn X (by unfold mroIn; rw [hc, Option.bind_some, hm]; rfl))
  refine codeAny_call_builtin SF.slot.plain SF.entry (@check_slot (model prog w) _ _ _ "object.__setattr__" "object" "__setattr__" (.ref x) [.str name s.toks, v] [] _ SF.kind SF.split sub (SF.args (.ref x) (.str name s.toks) v) ?_)
  obtain ⟨attr, ha, hr⟩ := Option.bind_eq_some_iff.mp ht
  have hmr : Looks (model prog w) s.heap (mroOf (.ref C)) cd.mro := (looks_clsIn X hc).andThen .now
  have L3 : Looks (model prog w) s.heap (storeTaker? attr) none := by
    cases attr with
    | none => exact .now
    | some a =>
      obtain ⟨b, hb, hn⟩ := Option.map_eq_some_iff.mp hr
      refine (looks_takesIn X hb).andThen ?_
      cases b with
      | true => cases hn
      | false => exact .now
  rw [osa_eq, refuse_eq]
  refine wpAny_bind (wpAny_bind (I.type.at (wpAny_bind (hmr.at ?_))))
  rw [hm, refuseLoop_ref, list_passes]
  refine wpAny_pure (wpAny_bind (I.type.at (wpAny_bind ((looks_findIn X ha).at (wpAny_bind (L3.at ?_))))))
  dsimp only
  obtain ⟨U1, U2⟩ := news_upd (f := Obj.putName name (PyData.keyHash w.params name) (.str name (s.toks + 1)) v) F N a b (putName_dict ..) rfl
  have D := (N (dx, dictOf es n) (by simp)).1
  have D' := (U2 (dx, _) (List.mem_append_right _ (.head _))).1
  obtain ⟨hx, hcl, hn, -⟩ := I
  obtain ⟨oc, odi, oda, osl⟩ := ox
  dsimp only at hcl hd
  subst hcl hd
  refine wpAny_bind (wpAny_pure (wpAny_bind (wpAny_bind (wpAny_loadPart hx (wpAny_bind ((looks_clsIn X hc).at ?_))))))
  rw [hdict]
  refine wpAny_pure (a := some dx) (wpAny_bind (wpAny_pure (wpAny_bind ?_)))
  unfold nsSet
  refine wpAny_bind (wpAny_bind (wpAny_askSetting (wpAny_pure (wpAny_bind (wpAny_mkText (wpAny_bind (wpAny_loadPart D ?_)))))))
  dsimp only
  have c : (!es.toArray.any (·.key.isStr name) && es.toArray.any (·.refKey)) = false := by
    rw [← Array.any_toList, ← Array.any_toList]
    unfold getL at hl
    split at hl
    · rename_i en he
      rw [List.any_eq_true.mpr ⟨en, List.mem_of_find?_eq_some he, List.find?_some he⟩]; rfl
    · split at hl
      · cases hl
      · rename_i z; rw [Bool.not_eq_true] at z; rw [z, Bool.and_false]
  rw [aRefKeyMayBeTheName_at, c]
  refine wpAny_updatePart D ?_
  rw [e1, e2] at U2 D'
  refine wpAny_bind (wpAny_lookBehind D' (pastItsLine_dict (by rw [List.size_toArray, sizeLine_eq]; omega)) ?_)
  exact wpAny_pure (h _ U1 U2)
end
end Mine
end
section
open PySem PySem.W PySem.Calls PyProof.Rows
set_option Elab.async false
set_option maxRecDepth 100000
set_option maxHeartbeats 4000000
namespace Mine
section
variable {prog : Program} {w : World} {A : Around} {E : Value → Shared → Prop} {h : Heap} {g : Array GenState} {d : Drawn} {t : Nat} {os : OsState} {x C : Addr}
theorem own_pop : ".".intercalate ("list.pop".cutAt '.').dropLast = "list" := by decide +kernel
theorem own_len : ".".intercalate ("list.__len__".cutAt '.').dropLast = "list" := by decide +kernel
theorem own_init : ".".intercalate ("list.__init__".cutAt '.').dropLast = "list" := by decide +kernel

theorem md_get_pop {Q : Fin → Shared → Prop} (hi : Looks (model prog w) h (isInstance (.ref x) (.type "list")) true)
    (hq : Q (.done (.ret (.ref h.objs.size))) ⟨h.push { cls := .type "builtin_function_or_method", data := .fields #[.builtin "list.pop", .ref x] }, g, d, t, os⟩) :
    wpAny (model prog w) A (Builtin.«method_descriptor.__get__» ⟨[.builtin "list.pop", .ref x, .ref C], []⟩) Q E ⟨h, g, d, t, os⟩ := by
  have hi' : Looks (model prog w) h (isInstance (.ref x) (.type (".".intercalate ("list.pop".cutAt '.').dropLast))) true := by rw [own_pop]; exact hi
  unfold Builtin.«method_descriptor.__get__»
  repeat lk
  exact hq

theorem wd_get_len {Q : Fin → Shared → Prop} (hi : Looks (model prog w) h (isInstance (.ref x) (.type "list")) true)
    (hq : Q (.done (.ret (.ref h.objs.size))) ⟨h.push { cls := .type "method-wrapper", data := .fields #[.builtin "list.__len__", .ref x] }, g, d, t, os⟩) :
    wpAny (model prog w) A (Builtin.«wrapper_descriptor.__get__» ⟨[.builtin "list.__len__", .ref x, .ref C], []⟩) Q E ⟨h, g, d, t, os⟩ := by
  have hi' : Looks (model prog w) h (isInstance (.ref x) (.type (".".intercalate ("list.__len__".cutAt '.').dropLast))) true := by rw [own_len]; exact hi
  unfold Builtin.«wrapper_descriptor.__get__»
  repeat lk
  exact hq

theorem wd_get_init {Q : Fin → Shared → Prop} (hi : Looks (model prog w) h (isInstance (.ref x) (.type "list")) true)
    (hq : Q (.done (.ret (.ref h.objs.size))) ⟨h.push { cls := .type "method-wrapper", data := .fields #[.builtin "list.__init__", .ref x] }, g, d, t, os⟩) :
    wpAny (model prog w) A (Builtin.«wrapper_descriptor.__get__» ⟨[.builtin "list.__init__", .ref x, .ref C], []⟩) Q E ⟨h, g, d, t, os⟩ := by
  have hi' : Looks (model prog w) h (isInstance (.ref x) (.type (".".intercalate ("list.__init__".cutAt '.').dropLast))) true := by rw [own_init]; exact hi
  unfold Builtin.«wrapper_descriptor.__get__»
  repeat lk
  exact hq

theorem slot_md_get : Slot "method_descriptor" "__get__" "method_descriptor.__get__" := .of (owner := "method_descriptor") (n := "__get__") (by rw [typeLookup_type, builtinLookup_eq_fast]; kernel_rfl) (by decide +kernel) (by decide +kernel) (by decide +kernel)
    (by first | exact .inl (by decide +kernel) | exact .inr (by decide +kernel)) (by rw [isSubtype_type]; kernel_rfl)
theorem slot_wd_get : Slot "wrapper_descriptor" "__get__" "wrapper_descriptor.__get__" := .of (owner := "wrapper_descriptor") (n := "__get__") (by rw [typeLookup_type, builtinLookup_eq_fast]; kernel_rfl) (by decide +kernel) (by decide +kernel) (by decide +kernel)
    (by first | exact .inl (by decide +kernel) | exact .inr (by decide +kernel)) (by rw [isSubtype_type]; kernel_rfl)
theorem entry_md_get : entryFor table "method_descriptor.__get__" = some Builtin.«method_descriptor.__get__» := entryFor_of_tree (by kernel_rfl)
theorem entry_wd_get : entryFor table "wrapper_descriptor.__get__" = some Builtin.«wrapper_descriptor.__get__» := entryFor_of_tree (by kernel_rfl)
theorem args_md_get (a b c : Value) : argsOk "method_descriptor.__get__" ⟨[a, b, c], []⟩ := by unfold argsOk; kernel_rfl
theorem args_wd_get (a b c : Value) : argsOk "wrapper_descriptor.__get__" ⟨[a, b, c], []⟩ := by unfold argsOk; kernel_rfl
theorem type_len : typeOf (.builtin "list.__len__") = pure (.type "wrapper_descriptor") := by show builtinType _ = _; rw [builtinType_eq_fast]; kernel_rfl
theorem type_init : typeOf (.builtin "list.__init__") = pure (.type "wrapper_descriptor") := by show builtinType _ = _; rw [builtinType_eq_fast]; kernel_rfl
theorem type_pop : typeOf (.builtin "list.pop") = pure (.type "method_descriptor") := by show builtinType _ = _; rw [builtinType_eq_fast]; kernel_rfl
theorem own_list_pop : classOwn (.type "list") "pop" = pure (some (.builtin "list.pop")) := by kernel_rfl
theorem own_list_len : classOwn (.type "list") "__len__" = pure (some (.builtin "list.__len__")) := by kernel_rfl
theorem own_list_init : classOwn (.type "list") "__init__" = pure (some (.builtin "list.__init__")) := by kernel_rfl


theorem super_ga_pop {so : Addr} {tk : Tok} {Q : Fin → Shared → Prop} (hso : h.get? so = some (ks_superObj C x C)) (hno : Looks (model prog w) h (opaqueClassAbove (.ref C)) none)
    (hC : Looks (model prog w) h (mroOf (.ref C)) [.ref C, .type "list", .type "object"]) (hi : Looks (model prog w) h (isInstance (.ref x) (.type "list")) true) (hxC : x ≠ C)
    (hq : Q (.done (.ret (.ref h.objs.size))) ⟨h.push { cls := .type "builtin_function_or_method", data := .fields #[.builtin "list.pop", .ref x] }, g, d, t, os⟩) :
    wpAny (model prog w) A (Builtin.«super.__getattribute__» ⟨[.ref so, .str "pop" tk], []⟩) Q E ⟨h, g, d, t, os⟩ := by
  have f1 : Looks (model prog w) h (classOwn (.type "list") "pop") (some (.builtin "list.pop")) := Looks.of_pure own_list_pop
  have f2 : Looks (model prog w) h (typeOf (.builtin "list.pop")) (.type "method_descriptor") := Looks.of_pure type_pop
  have f3 : Looks (model prog w) h (typeLookup (.type "method_descriptor") "__get__") (some (.builtin "method_descriptor.__get__")) := Looks.of_pure slot_md_get.lookup
  have hne : (Value.ref x == Value.ref C) = false := by simp [hxC]
  have hdt : (ks_superObj C x C).data = .fields #[.ref C, .ref x, .ref C] := rfl
  have f0 : (#[.ref C, .ref x, .ref C] : Array Value)[0]? = some (.ref C) := rfl
  have f1' : (#[.ref C, .ref x, .ref C] : Array Value)[1]? = some (.ref x) := rfl
  have f2' : (#[.ref C, .ref x, .ref C] : Array Value)[2]? = some (.ref C) := rfl
  have hl : (([.ref C, .type "list", .type "object"] : List Value).dropWhile (· != .ref C)).drop 1 = [.type "list", .type "object"] := by simp [List.dropWhile]
  unfold Builtin.«super.__getattribute__»
  repeat (first
    | (with_reducible refine wpAny_field hso hdt f0 ?_) | (with_reducible refine wpAny_field hso hdt f1' ?_) | (with_reducible refine wpAny_field hso hdt f2' ?_)
    | (with_reducible refine ks_wpAny_notOpaque hno ?_)
    | (with_reducible refine Looks.at hC ?_; rw [hl, List.forIn_cons])
    | (simp only [hne, Bool.false_eq_true, if_false])
    | (with_reducible refine Looks.at (by assumption) ?_)
    | wp_step
    | dsimp only)
  have hT : (⟨h, g, d, t, os⟩ : Shared).TypeIs (.builtin "list.pop") "method_descriptor" := type_pop
  refine codeAny_call_builtin slot_md_get.plain entry_md_get (slot_md_get.check _ _ _ _ _ _ _ _ hT (args_md_get _ _ _) ?_)
  refine md_get_pop hi ?_
  repeat (first | exact hq | wp_step | dsimp only)

theorem getMethod_super_pop {so : Addr} {pl : Sem Bool} {Q : Value × List Value → Shared → Prop} (hso : h.get? so = some (ks_superObj C x C)) (hno : Looks (model prog w) h (opaqueClassAbove (.ref C)) none)
    (hC : Looks (model prog w) h (mroOf (.ref C)) [.ref C, .type "list", .type "object"]) (hi : Looks (model prog w) h (isInstance (.ref x) (.type "list")) true) (hxC : x ≠ C)
    (hq : Q (.ref h.objs.size, []) ⟨h.push { cls := .type "builtin_function_or_method", data := .fields #[.builtin "list.pop", .ref x] }, g, d, t + 1, os⟩) :
    wpAny (model prog w) A (getMethod (.ref so) "pop" pl) Q E ⟨h, g, d, t, os⟩ := by
  have hlk := F.ks_slot_super_ga.lookup
  have hcan := F.ks_canon_super_ga
  have hT : ∀ t', (⟨h, g, d, t', os⟩ : Shared).TypeIs (.ref so) "super" := fun _ => ⟨_, hso, rfl⟩
  unfold getMethod
  refine wpAny_bind (wpAny_specialOf (hT _) hlk ?_)
  show wpAny _ _ (if (Manifest.canonical "super.__getattribute__" != "object.__getattribute__") = true then _ else _) _ _ _
  rw [if_pos hcan]
  unfold getAttr getAttrBy
  refine wpAny_bind (wpAny_bind (wpAny_mkText (wpAny_holding (wpAny_bind (wpAny_typeOf (hT _) (wpAny_bind (wpAny_of_eq hlk ?_)))))))
  show wpAny _ _ (getAttrByItsOwn (.ref so) (.str "pop" t) (.type "super") (.builtin "super.__getattribute__") true false) _ _ _
  unfold getAttrByItsOwn hookBefore callGetattribute boundAndCalled
  refine wpAny_bind (wpAny_of_eq (show (if onTheHeap (.type "super") then typeLookup (.type "super") "__getattr__" else pure none) = pure none from rfl) ?_)
  refine wpAny_bind (wpAny_attempt (wpAny_holding ?_))
  show wpAny _ _ (bindSpecial (.builtin "super.__getattribute__") (.ref so) >>= _) _ _ _
  refine wpAny_bind (wpAny_of_eq (F.ks_slot_super_ga.bind _) ?_)
  refine wpAny_mono (Q := fun v s' => v = .ref h.objs.size ∧ s' = ⟨h.push { cls := .type "builtin_function_or_method", data := .fields #[.builtin "list.pop", .ref x] }, g, d, t + 1, os⟩) (E := fun _ _ => False)
    (wpAny_call_entry F.ks_slot_super_ga (hT _) F.ks_entry_super_ga (super_ga_pop hso hno hC hi hxC ⟨_, rfl, rfl, rfl⟩) (F.ks_gaArgs_super _ _)) (fun v s' hv => ?_) fun _ _ z => z.elim
  obtain ⟨rfl, rfl⟩ := hv
  exact wpAny_pure (wpAny_pure hq)

abbrev bound_pop (x : Addr) : Obj := { cls := .type "builtin_function_or_method", data := .fields #[.builtin "list.pop", .ref x] }
section
variable {s : Shared} {K : Frag} {h₀ : Heap} {L : Addr} {m : Str → Option Value} {news : List (Addr × Obj)} {ox : Obj} {odx : Option Obj}
theorem accSuper_pop {so : Addr} {cd : ClassData} {pl : Sem Bool} {Q : Value × List Value → Shared → Prop} (F : Fr h₀ L s.heap m) (X₀ : K.In h₀) (N : News h₀ L s.heap news) (hso : (so, ks_superObj C x C) ∈ news) (I : W.InstAt s.heap x ox C odx) (ho : nsIn K cStatics "thirdparty.any" = some none)
    (hc : clsIn K C = some cd) (hm : cd.mro = [.ref C, .type "list", .type "object"])
    (hq : ∀ q h', Fr h₀ L h' m → News h₀ L h' ((q, bound_pop x) :: news) → (∀ p ∈ news, p.1 < q) → Q (.ref q, []) { s with heap := h', toks := s.toks + 1 }) : wpAny (model prog w) A (getMethod (.ref so) "pop" pl) Q E s := by
  have X : K.In s.heap := X₀.keeps F.keep
  obtain ⟨hh, g, d, t, os⟩ := s
  have hmr : Looks (model prog w) hh (mroOf (.ref C)) [.ref C, .type "list", .type "object"] := fun A Q E s k q => wpAny_bind ((looks_clsIn X hc) A _ E s k (wpAny_pure (by rw [hm]; exact q)))
  have hi : Looks (model prog w) hh (isInstance (.ref x) (.type "list")) true := I.type.andThen (looks_mroIn X (by unfold mroIn; rw [hc, Option.bind_some, hm]; rfl))
  refine getMethod_super_pop (N _ hso).1 (looks_opaque X ho) hmr hi (ks_ne X I hc) ?_
  obtain ⟨F', N', l'⟩ := ks_newsPush (s := ⟨hh, g, d, t, os⟩) (o := bound_pop x) F N rfl (Heap.get?_push_at rfl rfl) (fun b o e => Heap.get?_push_of_some _ e)
  exact hq _ _ F' N' l'
end

theorem super_ga_len {so : Addr} {tk : Tok} {Q : Fin → Shared → Prop} (hso : h.get? so = some (ks_superObj C x C)) (hno : Looks (model prog w) h (opaqueClassAbove (.ref C)) none)
    (hC : Looks (model prog w) h (mroOf (.ref C)) [.ref C, .type "list", .type "object"]) (hi : Looks (model prog w) h (isInstance (.ref x) (.type "list")) true) (hxC : x ≠ C)
    (hq : Q (.done (.ret (.ref h.objs.size))) ⟨h.push { cls := .type "method-wrapper", data := .fields #[.builtin "list.__len__", .ref x] }, g, d, t, os⟩) :
    wpAny (model prog w) A (Builtin.«super.__getattribute__» ⟨[.ref so, .str "__len__" tk], []⟩) Q E ⟨h, g, d, t, os⟩ := by
  have f1 : Looks (model prog w) h (classOwn (.type "list") "__len__") (some (.builtin "list.__len__")) := Looks.of_pure own_list_len
  have f2 : Looks (model prog w) h (typeOf (.builtin "list.__len__")) (.type "wrapper_descriptor") := Looks.of_pure type_len
  have f3 : Looks (model prog w) h (typeLookup (.type "wrapper_descriptor") "__get__") (some (.builtin "wrapper_descriptor.__get__")) := Looks.of_pure slot_wd_get.lookup
  have hne : (Value.ref x == Value.ref C) = false := by simp [hxC]
  have hdt : (ks_superObj C x C).data = .fields #[.ref C, .ref x, .ref C] := rfl
  have f0 : (#[.ref C, .ref x, .ref C] : Array Value)[0]? = some (.ref C) := rfl
  have f1' : (#[.ref C, .ref x, .ref C] : Array Value)[1]? = some (.ref x) := rfl
  have f2' : (#[.ref C, .ref x, .ref C] : Array Value)[2]? = some (.ref C) := rfl
  have hl : (([.ref C, .type "list", .type "object"] : List Value).dropWhile (· != .ref C)).drop 1 = [.type "list", .type "object"] := by simp [List.dropWhile]
  unfold Builtin.«super.__getattribute__»
  repeat (first
    | (with_reducible refine wpAny_field hso hdt f0 ?_) | (with_reducible refine wpAny_field hso hdt f1' ?_) | (with_reducible refine wpAny_field hso hdt f2' ?_)
    | (with_reducible refine ks_wpAny_notOpaque hno ?_)
    | (with_reducible refine Looks.at hC ?_; rw [hl, List.forIn_cons])
    | (simp only [hne, Bool.false_eq_true, if_false])
    | (with_reducible refine Looks.at (by assumption) ?_)
    | wp_step
    | dsimp only)
  have hT : (⟨h, g, d, t, os⟩ : Shared).TypeIs (.builtin "list.__len__") "wrapper_descriptor" := type_len
  refine codeAny_call_builtin slot_wd_get.plain entry_wd_get (slot_wd_get.check _ _ _ _ _ _ _ _ hT (args_wd_get _ _ _) ?_)
  refine wd_get_len hi ?_
  repeat (first | exact hq | wp_step | dsimp only)

theorem getMethod_super_len {so : Addr} {pl : Sem Bool} {Q : Value × List Value → Shared → Prop} (hso : h.get? so = some (ks_superObj C x C)) (hno : Looks (model prog w) h (opaqueClassAbove (.ref C)) none)
    (hC : Looks (model prog w) h (mroOf (.ref C)) [.ref C, .type "list", .type "object"]) (hi : Looks (model prog w) h (isInstance (.ref x) (.type "list")) true) (hxC : x ≠ C)
    (hq : Q (.ref h.objs.size, []) ⟨h.push { cls := .type "method-wrapper", data := .fields #[.builtin "list.__len__", .ref x] }, g, d, t + 1, os⟩) :
    wpAny (model prog w) A (getMethod (.ref so) "__len__" pl) Q E ⟨h, g, d, t, os⟩ := by
  have hlk := F.ks_slot_super_ga.lookup
  have hcan := F.ks_canon_super_ga
  have hT : ∀ t', (⟨h, g, d, t', os⟩ : Shared).TypeIs (.ref so) "super" := fun _ => ⟨_, hso, rfl⟩
  unfold getMethod
  refine wpAny_bind (wpAny_specialOf (hT _) hlk ?_)
  show wpAny _ _ (if (Manifest.canonical "super.__getattribute__" != "object.__getattribute__") = true then _ else _) _ _ _
  rw [if_pos hcan]
  unfold getAttr getAttrBy
  refine wpAny_bind (wpAny_bind (wpAny_mkText (wpAny_holding (wpAny_bind (wpAny_typeOf (hT _) (wpAny_bind (wpAny_of_eq hlk ?_)))))))
  show wpAny _ _ (getAttrByItsOwn (.ref so) (.str "__len__" t) (.type "super") (.builtin "super.__getattribute__") true false) _ _ _
  unfold getAttrByItsOwn hookBefore callGetattribute boundAndCalled
  refine wpAny_bind (wpAny_of_eq (show (if onTheHeap (.type "super") then typeLookup (.type "super") "__getattr__" else pure none) = pure none from rfl) ?_)
  refine wpAny_bind (wpAny_attempt (wpAny_holding ?_))
  show wpAny _ _ (bindSpecial (.builtin "super.__getattribute__") (.ref so) >>= _) _ _ _
  refine wpAny_bind (wpAny_of_eq (F.ks_slot_super_ga.bind _) ?_)
  refine wpAny_mono (Q := fun v s' => v = .ref h.objs.size ∧ s' = ⟨h.push { cls := .type "method-wrapper", data := .fields #[.builtin "list.__len__", .ref x] }, g, d, t + 1, os⟩) (E := fun _ _ => False)
    (wpAny_call_entry F.ks_slot_super_ga (hT _) F.ks_entry_super_ga (super_ga_len hso hno hC hi hxC ⟨_, rfl, rfl, rfl⟩) (F.ks_gaArgs_super _ _)) (fun v s' hv => ?_) fun _ _ z => z.elim
  obtain ⟨rfl, rfl⟩ := hv
  exact wpAny_pure (wpAny_pure hq)

abbrev bound_len (x : Addr) : Obj := { cls := .type "method-wrapper", data := .fields #[.builtin "list.__len__", .ref x] }
section
variable {s : Shared} {K : Frag} {h₀ : Heap} {L : Addr} {m : Str → Option Value} {news : List (Addr × Obj)} {ox : Obj} {odx : Option Obj}
theorem accSuper_len {so : Addr} {cd : ClassData} {pl : Sem Bool} {Q : Value × List Value → Shared → Prop} (F : Fr h₀ L s.heap m) (X₀ : K.In h₀) (N : News h₀ L s.heap news) (hso : (so, ks_superObj C x C) ∈ news) (I : W.InstAt s.heap x ox C odx) (ho : nsIn K cStatics "thirdparty.any" = some none)
    (hc : clsIn K C = some cd) (hm : cd.mro = [.ref C, .type "list", .type "object"])
    (hq : ∀ q h', Fr h₀ L h' m → News h₀ L h' ((q, bound_len x) :: news) → (∀ p ∈ news, p.1 < q) → Q (.ref q, []) { s with heap := h', toks := s.toks + 1 }) : wpAny (model prog w) A (getMethod (.ref so) "__len__" pl) Q E s := by
  have X : K.In s.heap := X₀.keeps F.keep
  obtain ⟨hh, g, d, t, os⟩ := s
  have hmr : Looks (model prog w) hh (mroOf (.ref C)) [.ref C, .type "list", .type "object"] := fun A Q E s k q => wpAny_bind ((looks_clsIn X hc) A _ E s k (wpAny_pure (by rw [hm]; exact q)))
  have hi : Looks (model prog w) hh (isInstance (.ref x) (.type "list")) true := I.type.andThen (looks_mroIn X (by unfold mroIn; rw [hc, Option.bind_some, hm]; rfl))
  refine getMethod_super_len (N _ hso).1 (looks_opaque X ho) hmr hi (ks_ne X I hc) ?_
  obtain ⟨F', N', l'⟩ := ks_newsPush (s := ⟨hh, g, d, t, os⟩) (o := bound_len x) F N rfl (Heap.get?_push_at rfl rfl) (fun b o e => Heap.get?_push_of_some _ e)
  exact hq _ _ F' N' l'
end

theorem super_ga_init {so : Addr} {tk : Tok} {Q : Fin → Shared → Prop} (hso : h.get? so = some (ks_superObj C x C)) (hno : Looks (model prog w) h (opaqueClassAbove (.ref C)) none)
    (hC : Looks (model prog w) h (mroOf (.ref C)) [.ref C, .type "list", .type "object"]) (hi : Looks (model prog w) h (isInstance (.ref x) (.type "list")) true) (hxC : x ≠ C)
    (hq : Q (.done (.ret (.ref h.objs.size))) ⟨h.push { cls := .type "method-wrapper", data := .fields #[.builtin "list.__init__", .ref x] }, g, d, t, os⟩) :
    wpAny (model prog w) A (Builtin.«super.__getattribute__» ⟨[.ref so, .str "__init__" tk], []⟩) Q E ⟨h, g, d, t, os⟩ := by
  have f1 : Looks (model prog w) h (classOwn (.type "list") "__init__") (some (.builtin "list.__init__")) := Looks.of_pure own_list_init
  have f2 : Looks (model prog w) h (typeOf (.builtin "list.__init__")) (.type "wrapper_descriptor") := Looks.of_pure type_init
  have f3 : Looks (model prog w) h (typeLookup (.type "wrapper_descriptor") "__get__") (some (.builtin "wrapper_descriptor.__get__")) := Looks.of_pure slot_wd_get.lookup
  have hne : (Value.ref x == Value.ref C) = false := by simp [hxC]
  have hdt : (ks_superObj C x C).data = .fields #[.ref C, .ref x, .ref C] := rfl
  have f0 : (#[.ref C, .ref x, .ref C] : Array Value)[0]? = some (.ref C) := rfl
  have f1' : (#[.ref C, .ref x, .ref C] : Array Value)[1]? = some (.ref x) := rfl
  have f2' : (#[.ref C, .ref x, .ref C] : Array Value)[2]? = some (.ref C) := rfl
  have hl : (([.ref C, .type "list", .type "object"] : List Value).dropWhile (· != .ref C)).drop 1 = [.type "list", .type "object"] := by simp [List.dropWhile]
  unfold Builtin.«super.__getattribute__»
  repeat (first
    | (with_reducible refine wpAny_field hso hdt f0 ?_) | (with_reducible refine wpAny_field hso hdt f1' ?_) | (with_reducible refine wpAny_field hso hdt f2' ?_)
    | (with_reducible refine ks_wpAny_notOpaque hno ?_)
    | (with_reducible refine Looks.at hC ?_; rw [hl, List.forIn_cons])
    | (simp only [hne, Bool.false_eq_true, if_false])
    | (with_reducible refine Looks.at (by assumption) ?_)
    | wp_step
    | dsimp only)
  have hT : (⟨h, g, d, t, os⟩ : Shared).TypeIs (.builtin "list.__init__") "wrapper_descriptor" := type_init
  refine codeAny_call_builtin slot_wd_get.plain entry_wd_get (slot_wd_get.check _ _ _ _ _ _ _ _ hT (args_wd_get _ _ _) ?_)
  refine wd_get_init hi ?_
  repeat (first | exact hq | wp_step | dsimp only)

theorem getMethod_super_init {so : Addr} {pl : Sem Bool} {Q : Value × List Value → Shared → Prop} (hso : h.get? so = some (ks_superObj C x C)) (hno : Looks (model prog w) h (opaqueClassAbove (.ref C)) none)
    (hC : Looks (model prog w) h (mroOf (.ref C)) [.ref C, .type "list", .type "object"]) (hi : Looks (model prog w) h (isInstance (.ref x) (.type "list")) true) (hxC : x ≠ C)
    (hq : Q (.ref h.objs.size, []) ⟨h.push { cls := .type "method-wrapper", data := .fields #[.builtin "list.__init__", .ref x] }, g, d, t + 1, os⟩) :
    wpAny (model prog w) A (getMethod (.ref so) "__init__" pl) Q E ⟨h, g, d, t, os⟩ := by
  have hlk := F.ks_slot_super_ga.lookup
  have hcan := F.ks_canon_super_ga
  have hT : ∀ t', (⟨h, g, d, t', os⟩ : Shared).TypeIs (.ref so) "super" := fun _ => ⟨_, hso, rfl⟩
  unfold getMethod
  refine wpAny_bind (wpAny_specialOf (hT _) hlk ?_)
  show wpAny _ _ (if (Manifest.canonical "super.__getattribute__" != "object.__getattribute__") = true then _ else _) _ _ _
  rw [if_pos hcan]
  unfold getAttr getAttrBy
  refine wpAny_bind (wpAny_bind (wpAny_mkText (wpAny_holding (wpAny_bind (wpAny_typeOf (hT _) (wpAny_bind (wpAny_of_eq hlk ?_)))))))
  show wpAny _ _ (getAttrByItsOwn (.ref so) (.str "__init__" t) (.type "super") (.builtin "super.__getattribute__") true false) _ _ _
  unfold getAttrByItsOwn hookBefore callGetattribute boundAndCalled
  refine wpAny_bind (wpAny_of_eq (show (if onTheHeap (.type "super") then typeLookup (.type "super") "__getattr__" else pure none) = pure none from rfl) ?_)
  refine wpAny_bind (wpAny_attempt (wpAny_holding ?_))
  show wpAny _ _ (bindSpecial (.builtin "super.__getattribute__") (.ref so) >>= _) _ _ _
  refine wpAny_bind (wpAny_of_eq (F.ks_slot_super_ga.bind _) ?_)
  refine wpAny_mono (Q := fun v s' => v = .ref h.objs.size ∧ s' = ⟨h.push { cls := .type "method-wrapper", data := .fields #[.builtin "list.__init__", .ref x] }, g, d, t + 1, os⟩) (E := fun _ _ => False)
    (wpAny_call_entry F.ks_slot_super_ga (hT _) F.ks_entry_super_ga (super_ga_init hso hno hC hi hxC ⟨_, rfl, rfl, rfl⟩) (F.ks_gaArgs_super _ _)) (fun v s' hv => ?_) fun _ _ z => z.elim
  obtain ⟨rfl, rfl⟩ := hv
  exact wpAny_pure (wpAny_pure hq)

abbrev bound_init (x : Addr) : Obj := { cls := .type "method-wrapper", data := .fields #[.builtin "list.__init__", .ref x] }
section
variable {s : Shared} {K : Frag} {h₀ : Heap} {L : Addr} {m : Str → Option Value} {news : List (Addr × Obj)} {ox : Obj} {odx : Option Obj}
theorem accSuper_init {so : Addr} {cd : ClassData} {pl : Sem Bool} {Q : Value × List Value → Shared → Prop} (F : Fr h₀ L s.heap m) (X₀ : K.In h₀) (N : News h₀ L s.heap news) (hso : (so, ks_superObj C x C) ∈ news) (I : W.InstAt s.heap x ox C odx) (ho : nsIn K cStatics "thirdparty.any" = some none)
    (hc : clsIn K C = some cd) (hm : cd.mro = [.ref C, .type "list", .type "object"])
    (hq : ∀ q h', Fr h₀ L h' m → News h₀ L h' ((q, bound_init x) :: news) → (∀ p ∈ news, p.1 < q) → Q (.ref q, []) { s with heap := h', toks := s.toks + 1 }) : wpAny (model prog w) A (getMethod (.ref so) "__init__" pl) Q E s := by
  have X : K.In s.heap := X₀.keeps F.keep
  obtain ⟨hh, g, d, t, os⟩ := s
  have hmr : Looks (model prog w) hh (mroOf (.ref C)) [.ref C, .type "list", .type "object"] := fun A Q E s k q => wpAny_bind ((looks_clsIn X hc) A _ E s k (wpAny_pure (by rw [hm]; exact q)))
  have hi : Looks (model prog w) hh (isInstance (.ref x) (.type "list")) true := I.type.andThen (looks_mroIn X (by unfold mroIn; rw [hc, Option.bind_some, hm]; rfl))
  refine getMethod_super_init (N _ hso).1 (looks_opaque X ho) hmr hi (ks_ne X I hc) ?_
  obtain ⟨F', N', l'⟩ := ks_newsPush (s := ⟨hh, g, d, t, os⟩) (o := bound_init x) F N rfl (Heap.get?_push_at rfl rfl) (fun b o e => Heap.get?_push_of_some _ e)
  exact hq _ _ F' N' l'
end
end
end Mine
end
section
open PySem PySem.W PySem.Calls PyProof.Rows
set_option Elab.async false
set_option maxRecDepth 100000
set_option maxHeartbeats 4000000
namespace Mine
section
variable {prog : Program} {w : World} {A : Around} {E : Value → Shared → Prop} {s : Shared} {x C q : Addr} {K : Frag} {h₀ : Heap} {L dx : Addr} {m : Str → Option Value} {news : List (Addr × Obj)}

theorem call_bound {id kind : String} {args : List Value} {B : Builtin} {Q : Value → Shared → Prop} (hq : s.heap.get? q = some { cls := .type kind, data := .fields #[.builtin id, .ref x] })
    (hk : (Value.type kind == Value.type "method" || Value.type kind == Value.type "builtin_function_or_method" || Value.type kind == Value.type "method-wrapper") = true) (hk2 : (Value.type kind != Value.type "method") = true)
    (hck : ∀ A' (Q' : Unit → Shared → Prop) E', Q' () s → wpAny (model prog w) A' (checkBoundCall id ⟨.ref x :: args, []⟩) Q' E' s) (hp : plainId id = true) (hB : entryFor table id = some B)
    (hc : wpAny (model prog w) A.in1 (B ⟨.ref x :: args, []⟩) (fun fin s' => ∃ v, fin = .done (.ret v) ∧ Q v s') E s) : wpAny (model prog w) A (call (.ref q) args) Q E s := by
  refine wpAny_call (codeAny_of_tree ?_)
  show wpAny _ _ (callAny (.ref q) _) _ _ _
  refine nd_load hq ?_
  show wpAny _ _ (if (Value.type kind == Value.type "method" || Value.type kind == Value.type "builtin_function_or_method" || Value.type kind == Value.type "method-wrapper") = true then _ else _) _ _ _
  rw [if_pos hk]
  show wpAny _ _ (if (Value.type kind != Value.type "method") = true then (checkBoundCall id ⟨.ref x :: args, []⟩ >>= fun _ => _) else _) _ _ _
  rw [if_pos hk2]
  refine wpAny_bind (hck _ _ _ ?_)
  refine wpAny_pure (a := Fin.again (.builtin id ⟨.ref x :: args, []⟩)) (And.intro (plainId_quiet hp _) ?_)
  refine codeAny_builtin hB ?_
  rw [Around.under_plainId hp]
  exact wpAny_mono hc (fun fin s' h => by obtain ⟨v, rfl, z⟩ := h; exact z) fun _ _ e => e

theorem pop_chk (x : Addr) : ((Manifest.signature? "list.pop").bind fun sig => pureOf (Bind.checkArgs "list.pop" { sig with full := s!"{("_Accumulator" : Str).toString}.{Bind.lastOf "list.pop"}" } ⟨[.ref x], []⟩)) = some () := by
  rw [signature?_of (id := "list.pop") (n := ['p', 'o', 'p']) (o := ['t', 's', 'i', 'l']) (by kernel_rfl) PySem.F.owner_list]; kernel_rfl
theorem ck_len (x : Addr) : checkBoundCall "list.__len__" ⟨[.ref x], []⟩ = pure () := by kernel_rfl
theorem ck_init (x : Addr) : checkBoundCall "list.__init__" ⟨[.ref x], []⟩ = pure () := by kernel_rfl

theorem mapSeq_acc {its its' : List Value} {n : Nat} (f : Array Value → Array Value) (hf : f its.toArray = its'.toArray) : ∃ n', Obj.mapSeq f (accOf C dx its n) = accOf C dx its' n' := by
  refine ⟨if (f its.toArray).size == its.toArray.size then n else n + 1, ?_⟩
  show (⟨.ref C, some dx, .seq (f its.toArray) (if (f its.toArray).size == its.toArray.size then n else n + 1), #[]⟩ : Obj) = _
  rw [hf]
theorem erase_last (ia : List Value) (v : Value) : (ia ++ [v]).toArray.eraseIdxIfInBounds ia.length = ia.toArray := by
  apply Array.ext'
  simp
  rw [List.eraseIdx_append_of_length_le (Nat.le_refl _)]
  simp

theorem accCallLen {its : List Value} {n : Nat} {Q : Value → Shared → Prop} (F : Fr h₀ L s.heap m) (N : News h₀ L s.heap news) (hb : (q, bound_len x) ∈ news) (hx : (x, accOf C dx its n) ∈ news)
    (h : Q (.int its.length s.toks) { s with toks := s.toks + 1 }) : wpAny (model prog w) A (call (.ref q) []) Q E s := by
  refine call_bound (N _ hb).1 (by decide) (by decide) (fun A' Q' E' q => by rw [ck_len]; exact wpAny_pure q) (by decide +kernel) PySem.F.entry_list_len ?_
  have z := (N _ hx).1
  unfold Builtin.«list.__len__»
  refine wpAny_bind (wpAny_pure ?_)
  dsimp only
  refine wpAny_bind ?_
  unfold seqSize
  refine wpAny_bind (wpAny_loadPart z (wpAny_pure ?_))
  rw [List.size_toArray]
  exact wpAny_bind (wpAny_mkInt (wpAny_pure ⟨_, rfl, h⟩))

theorem accCallInit {n : Nat} {Q : Value → Shared → Prop} {news' : List (Addr × Obj)} (F : Fr h₀ L s.heap m) (N : News h₀ L s.heap news) (hb : (q, bound_init x) ∈ news) (U : Upd x (accOf C dx [] n) (accOf C dx [] n) news news')
    (h : ∀ h', Fr h₀ L h' m → News h₀ L h' news' → Q .none { s with heap := h' }) : wpAny (model prog w) A (call (.ref q) []) Q E s := by
  refine call_bound (N _ hb).1 (by decide) (by decide) (fun A' Q' E' q => by rw [ck_init]; exact wpAny_pure q) (by decide +kernel) PySem.F.entry_list_init ?_
  obtain ⟨pre, post, rfl, rfl, a, b⟩ := U.split
  have z := (N (x, accOf C dx [] n) (List.mem_append.mpr (.inr (.head _)))).1
  unfold Builtin.«list.__init__»
  dsimp only
  rw [if_neg (by decide)]
  rw [if_neg (by decide)]
  refine wpAny_bind ?_
  unfold Builtin.List.listItems
  refine wpAny_bind (wpAny_seqItems z rfl (wpAny_pure ?_))
  refine wpAny_bind ?_
  show wpAny _ _ (updateSeq x _) _ _ s
  obtain ⟨F', N'⟩ := news_upd (f := Obj.mapSeq fun _ => #[]) (o' := accOf C dx [] n) F N a b rfl rfl
  refine wpAny_updateSeq z rfl (wpAny_bind (wpAny_letGo (wpAny_pure ⟨.none, rfl, h _ F' N'⟩))) (hz := ?_) (_hz' := ?_)
  · rw [List.size_toArray, sizeLine_eq]; exact Nat.zero_le _
  · rw [sizeLine_eq]; exact Nat.zero_le _

theorem pop_kind : builtinKind "list.pop" = some .method := by decide +kernel
theorem ckPop {cd : ClassData} {ox : Obj} {odx : Option Obj} {A' : Around} {Q' : Unit → Shared → Prop} {E' : Value → Shared → Prop} (X : K.In s.heap) (I : W.InstAt s.heap x ox C odx) (hc : clsIn K C = some cd) (hqn : cd.qualname = Str.ofString "_Accumulator")
    (hmod : mroIn K C (.type "module") = some false) (ht : typeIn K (.ref C) = some (.type "type")) (q : Q' () s) : wpAny (model prog w) A' (checkBoundCall "list.pop" ⟨[.ref x], []⟩) Q' E' s := by
  obtain ⟨sig, hsig, hp⟩ := Option.bind_eq_some_iff.mp (pop_chk x)
  have hp' := of_pureOf hp
  have L1 := inst_looks (prog := prog) (w := w) X I hmod
  have L2 := I.type (M := model prog w)
  have L3 := looks_clsIn (M := model prog w) X hc
  have L4 := looks_typeIn (M := model prog w) X ht
  obtain ⟨hh, g, d, t, os⟩ := s
  unfold checkBoundCall
  rw [hsig, pop_kind]
  dsimp only
  rw [if_neg (by decide)]
  refine wpAny_bind (L1.at ?_)
  rw [if_neg (by decide +kernel)]
  refine wpAny_bind (ks_wpAny_isType_inst I.at_ (fun c e => ?_) ?_)
  · have hn := I.no
    unfold notCls at hn
    rw [e] at hn
    exact Bool.noConfusion hn
  rw [if_neg (by decide)]
  refine wpAny_bind (L2.at ?_)
  dsimp only
  refine wpAny_bind (L3.at ?_)
  refine wpAny_bind (L4.at ?_)
  rw [if_pos (by decide), hqn, hp']
  exact wpAny_pure q

theorem accCallPop {ia : List Value} {v : Value} {n : Nat} {Q : Value → Shared → Prop} {g : Obj → List (Addr × Obj)} {cd : ClassData} {ox : Obj} {odx : Option Obj} (F : Fr h₀ L s.heap m) (X₀ : K.In h₀) (N : News h₀ L s.heap news) (hb : (q, bound_pop x) ∈ news) (I : W.InstAt s.heap x ox C odx) (hc : clsIn K C = some cd) (hqn : cd.qualname = Str.ofString "_Accumulator")
    (hmod : mroIn K C (.type "module") = some false) (ht : typeIn K (.ref C) = some (.type "type")) (U : UpdF x (accOf C dx (ia ++ [v]) n) news g) (hl : ia.length ≤ 1000)
    (h : ∀ n' h', Fr h₀ L h' m → News h₀ L h' (g (accOf C dx ia n')) → Q v { s with heap := h' }) : wpAny (model prog w) A (call (.ref q) []) Q E s := by
  refine call_bound (N _ hb).1 (by decide) (by decide) (fun A' Q' E' q => ckPop (X₀.keeps F.keep) I hc hqn hmod ht q) (by decide +kernel) PySem.F.entry_list_pop ?_
  obtain ⟨pre, post, rfl, hg, a, b⟩ := U.split
  have z := (N (x, accOf C dx (ia ++ [v]) n) (List.mem_append.mpr (.inr (.head _)))).1
  unfold Builtin.«list.pop»
  refine wpAny_bind (wpAny_pure ?_)
  dsimp only
  refine wpAny_bind (wpAny_pure ?_)
  rw [if_neg (show ¬ ((!Builtin.List.listFitsIndex (-1)) = true) by decide)]
  refine wpAny_bind ?_
  unfold Builtin.List.listItems
  refine wpAny_bind (wpAny_seqItems z rfl (wpAny_pure ?_))
  have hne : ¬ ((ia ++ [v]).toArray.isEmpty = true) := by simp
  rw [if_neg hne]
  have hix : seqIndex? (-1) (ia ++ [v]).toArray.size = some ia.length := by
    unfold seqIndex?
    simp only [List.size_toArray, List.length_append, List.length_cons, List.length_nil, show (-1 : Int) < 0 from by decide, if_true]
    rw [if_pos (by simp only [Bool.and_eq_true, decide_eq_true_eq]; omega)]
    congr 1
    omega
  rw [hix]
  have hel : (ia ++ [v]).toArray[ia.length]? = some v := by simp
  simp only [Option.bind_some, hel, Option.map_some]
  refine wpAny_bind ?_
  show wpAny _ _ (updateSeq x _) _ _ s
  obtain ⟨n', hn'⟩ := mapSeq_acc (C := C) (dx := dx) (n := n) (·.eraseIdxIfInBounds ia.length) (erase_last ia v)
  obtain ⟨F', N'⟩ := news_upd F N a b hn' rfl
  rw [← hg] at N'
  refine wpAny_updateSeq z rfl (wpAny_pure ⟨v, rfl, h n' _ F' N'⟩) (hz := ?_) (_hz' := ?_)
  · simp only [List.size_toArray, List.length_append, List.length_cons, List.length_nil, sizeLine_eq]; omega
  · rw [erase_last, List.size_toArray, sizeLine_eq]; omega
end
end Mine
end
section
open PySem PySem.W PySem.Calls PyProof.Rows
set_option Elab.async false
set_option maxRecDepth 100000
set_option maxHeartbeats 4000000
namespace Mine
section
variable {prog : Program} {w : World} {A : Around} {E : Value → Shared → Prop} {s : Shared} {x q : Addr} {h₀ : Heap} {L : Addr} {news : List (Addr × Obj)} {env : Env} {pos : Pos} {first : List Value} {Q : Value → Shared → Prop}
abbrev bobj (kind id : String) (x : Addr) : Obj := { cls := .type kind, data := .fields #[.builtin id, .ref x] }
theorem callWith_b0 {kind id : String} (N : News h₀ L s.heap news) (hq : (q, bobj kind id x) ∈ news) (hk : (Value.type kind != Value.type "method") = true) (hk2 : (Value.type kind == Value.type "builtin_function_or_method" || Value.type kind == Value.type "method-wrapper") = true)
    (h : wpAny (model prog w) A (call (.ref q) (first ++ [])) Q E s) : wpAny (model prog w) A (callWith pos (.ref q) first (backTo pos (starEach [] env)) []) Q E s := by
  refine callWith_of (P := fun h => h.get? q = some (bobj kind id x)) rfl (fun h e => ⟨.machine, .inr (.inl rfl), ?_⟩) (evalArgs_nil3 ⟨(N _ hq).1, h⟩)
  refine (Looks.ld (part := none) e).andThen ?_
  show Looks _ _ (if (Value.type kind != Value.type "method") = true then pure (if (Value.type kind == Value.type "builtin_function_or_method" || Value.type kind == Value.type "method-wrapper") = true then Keeper.machine else Keeper.caller) else _) _
  rw [if_pos hk, if_pos hk2]
  exact .now
end
end Mine
end
section
open PySem PySem.W PySem.Calls PyProof.Rows
set_option Elab.async false
set_option maxRecDepth 100000
set_option maxHeartbeats 4000000
namespace Mine
section
variable {prog : Program} {w : World} {A : Around} {E : Value → Shared → Prop} {s : Shared} {env : Env} {h₀ : Heap} {L : Addr} {m : Str → Option Value} {news : List (Addr × Obj)}

/-- a for that leaves in its first turn -/
theorem for_first {target iter : Expr} {body orelse : List Stmt} {pos : Pos} {Q : Flow → Shared → Prop}
    (h : wpAny (model prog w) A (eval iter env) (fun x s₁ => wpAny (model prog w) A (pyIter x) (fun it s₂ =>
      wpAny (model prog w) A (pyNext it) (fun r s₃ => match r with
        | none => wpAny (model prog w) A (execs orelse env) Q (notedBy (model prog w) A env fun e s' => cameBackBy (model prog w) A env E e s') s₃
        | some v => wpAny (model prog w) A (assign target env v) (fun _ s₄ => wpAny (model prog w) A (execs body env) (fun f s₅ => match f with
            | .next | .cont => False
            | .brk => Q .next s₅
            | .ret v => Q (.ret v) s₅) (notedBy (model prog w) A env fun e s' => cameBackBy (model prog w) A env E e s') s₄) (notedBy (model prog w) A env fun e s' => cameBackBy (model prog w) A env E e s') s₃)
        (notedBy (model prog w) A env fun e s' => cameBackBy (model prog w) A env E e s') s₂) E s₁) E s)
    (hs : ∀ x, foldedSetIterable iter env x = pure x := by intro _; rfl) (ht : ∀ it v, letOwnedTupleGo target it v = pure () := by intro _ _; rfl) :
    wpAny (model prog w) A (exec (.For target iter body orelse pos) env) Q E s := by
  refine wpAny_For (wpAny_mono h (fun x s₁ h₁ => wpAny_mono h₁ (fun it s₂ h₂ => ?_) fun _ _ e => e) fun _ _ e => e) hs
  refine codeAny_forLoop (fun n s' => n = 0 ∧ s' = s₂) ?_ 0 ⟨rfl, rfl⟩ (ht it)
  rintro n s' ⟨rfl, rfl⟩
  refine wpAny_mono h₂ (fun r s₃ h₃ => ?_) fun _ _ e => e
  cases r with
  | none => exact h₃
  | some v =>
    refine wpAny_mono h₃ (fun _ s₄ h₄ => wpAny_mono h₄ (fun f s₅ h₅ => ?_) fun _ _ e => e) fun _ _ e => e
    cases f with
    | next => exact h₅.elim
    | cont => exact h₅.elim
    | brk => exact h₅
    | ret v => exact h₅

theorem fr_push_set {h' : Heap} {o : Obj} (F : Fr h₀ L s.heap m) (N : News h₀ L s.heap news) (hs : Heap.SameBut s.heap.objs.size (s.heap.push o) h') : Fr h₀ L h' m ∧ News h₀ L h' news := by
  obtain ⟨oL, es, ep, hL, r⟩ := F.ns
  have k : ∀ b x, s.heap.get? b = some x → h'.get? b = some x := fun b x e => (hs.2 b (Nat.ne_of_lt (Heap.lt_size e))).trans (Heap.get?_push_of_some _ e)
  exact ⟨⟨⟨oL, es, ep, k _ _ hL, r⟩, fun b x e => k b x (F.keep b x e), F.above⟩, fun p hp => ⟨k _ _ (N p hp).1, (N p hp).2⟩⟩

/-- the first sign of a text -/
theorem strIter_first {x y : Str} {t : Tok} {c : Nat} {P : Option Value → Shared → Prop} {E' : Value → Shared → Prop} (F : Fr h₀ L s.heap m) (N : News h₀ L s.heap news) (ha : x.cps.all (· < 128) = true) (hx : x.cps[0]? = some c) (hy : (⟨#[c]⟩ : Str) = y)
    (h : ∀ h', Fr h₀ L h' m → News h₀ L h' news → P (some (.str y s.toks)) { s with heap := h', toks := s.toks + 1 }) :
    wpAny (model prog w) A (pyIter (.str x t)) (fun it s₂ => wpAny (model prog w) A (pyNext it) P E' s₂) E s := by
  subst hy
  refine wpAny_pyIter_ascii ha (wpAny_pyNext_ascii_item ⟨_, Heap.get?_push_size _ rfl, rfl, rfl⟩ hx fun h' _ hs => ?_)
  obtain ⟨F', N'⟩ := fr_push_set F N hs
  exact h h' F' N'

/-- the first number of a range -/
theorem rangeIter_first {r : Addr} {a b c : Int} {t u v : Tok} {P : Option Value → Shared → Prop} {E' : Value → Shared → Prop} (F : Fr h₀ L s.heap m) (N : News h₀ L s.heap news) (hr : IsRange s.heap r a b c t u v) (hsmall : Builtin.Range.small a b c = true) (hlen : 0 < Builtin.Range.rangeSize a b c)
    (h : ∀ h', Fr h₀ L h' m → News h₀ L h' news → P (some (.int a s.toks)) { s with heap := h', toks := s.toks + 1 }) :
    wpAny (model prog w) A (pyIter (.ref r)) (fun it s₂ => wpAny (model prog w) A (pyNext it) P E' s₂) E s := by
  refine wpAny_pyIter_range hr hsmall (wpAny_pyNext_range_item (Heap.get?_push_size _ rfl) hlen fun h' _ hs => ?_)
  obtain ⟨F', N'⟩ := fr_push_set F N hs
  exact h h' F' N'
theorem down_ok {a : Int} (h0 : 0 < a) (h1 : a ≤ 1000) : Builtin.Range.small a 0 (-1) = true ∧ 0 < Builtin.Range.rangeSize a 0 (-1) := by
  have e : Builtin.Range.rangeSize a 0 (-1) = a := by
    unfold Builtin.Range.rangeSize
    simp only [show ¬ ((-1 : Int) > 0) by decide, if_false, ite_false]
    rw [if_pos (by omega)]
    have : (a - 0 - 1) / - (-1 : Int) = a - 1 := by rw [show (- (-1) : Int) = 1 by decide, Int.ediv_one]; omega
    omega
  refine ⟨?_, by omega⟩
  unfold Builtin.Range.small
  rw [e]
  simp only [Builtin.Range.rangeFitsLong, Bool.and_eq_true, Bool.or_eq_true, decide_eq_true_eq, beq_iff_eq]
  refine ⟨⟨⟨⟨?_, ?_⟩, ?_⟩, ?_⟩, ?_⟩ <;> first | omega | decide | (simp; omega) | simp
/-- the first number of a range downward to 1 -/
theorem downIter_first {r : Addr} {a : Int} {t u v : Tok} {P : Option Value → Shared → Prop} {E' : Value → Shared → Prop} (F : Fr h₀ L s.heap m) (N : News h₀ L s.heap news) (hr : IsRange s.heap r a 0 (-1) t u v) (h0 : 0 < a) (h1 : a ≤ 1000)
    (h : ∀ h', Fr h₀ L h' m → News h₀ L h' news → P (some (.int a s.toks)) { s with heap := h', toks := s.toks + 1 }) :
    wpAny (model prog w) A (pyIter (.ref r)) (fun it s₂ => wpAny (model prog w) A (pyNext it) P E' s₂) E s :=
  rangeIter_first F N hr (down_ok h0 h1).1 (down_ok h0 h1).2 h
end
end Mine
end
section
open PySem PySem.W PySem.Calls PyProof.Rows
set_option Elab.async false
set_option maxRecDepth 100000
set_option maxHeartbeats 4000000
namespace Mine
section
variable {h₀ h h' : Heap} {L x dx : Addr} {NN rest l : List (Addr × Obj)} {ox od ox' od' : Obj} {f : Obj → List (Addr × Obj)} {g : Obj → Obj → List (Addr × Obj)}

theorem updF_mem {d : Addr} {o : Obj} {l : List (Addr × Obj)} {f : Obj → List (Addr × Obj)} (U : UpdF d o l f) : ∀ o' p, p ∈ f o' → p = (d, o') ∨ (p ∈ l ∧ p.1 ≠ d) := by
  obtain ⟨pre, post, rfl, hf, ha, hb⟩ := U.split
  intro o' p hp
  rw [hf] at hp
  rcases List.mem_append.mp hp with hp | hp
  · exact .inr ⟨List.mem_append_left _ hp, ha p hp⟩
  · rcases List.mem_cons.mp hp with rfl | hp
    · exact .inl rfl
    · exact .inr ⟨List.mem_append_right _ (.tail _ hp), hb p hp⟩
theorem updF_in {d : Addr} {o : Obj} {l : List (Addr × Obj)} {f : Obj → List (Addr × Obj)} (U : UpdF d o l f) : (d, o) ∈ l := by
  obtain ⟨pre, post, rfl, hf, ha, hb⟩ := U.split
  exact List.mem_append_right _ (.head _)
theorem allLt_mem {t : Addr} {l : List (Addr × Obj)} (h : AllLt t l) : ∀ p ∈ l, p.1 < t := by
  induction l with
  | nil => intro p hp; cases hp
  | cons q l ih =>
    intro p hp
    obtain ⟨h1, h2⟩ := h
    rcases List.mem_cons.mp hp with e | hp
    · rw [e]; exact h1
    · exact ih h2 p hp

/-- the two objects ahead, the rest behind -/
theorem canon (N : News h₀ L h NN) (hx : (x, ox) ∈ NN) (hd : (dx, od) ∈ NN) (hne : ox ≠ od) :
    ∃ rest, News h₀ L h ((x, ox) :: (dx, od) :: rest) ∧ (∀ p ∈ rest, p.1 ≠ x) ∧ (∀ p ∈ rest, p.1 ≠ dx) ∧ (∀ p ∈ NN, p = (x, ox) ∨ p = (dx, od) ∨ p ∈ rest) ∧ @Ne Nat x dx := by
  refine ⟨NN.filter fun p => decide (p.1 ≠ x) && decide (p.1 ≠ dx), fun p hp => ?_, fun p hp => ?_, fun p hp => ?_, fun p hp => ?_, ?_⟩
  · rcases List.mem_cons.mp hp with rfl | hp
    · exact N _ hx
    · rcases List.mem_cons.mp hp with rfl | hp
      · exact N _ hd
      · exact N _ (List.mem_filter.mp hp).1
  · have := (List.mem_filter.mp hp).2
    simp only [Bool.and_eq_true, decide_eq_true_eq] at this
    exact this.1
  · have := (List.mem_filter.mp hp).2
    simp only [Bool.and_eq_true, decide_eq_true_eq] at this
    exact this.2
  · obtain ⟨a, o⟩ := p
    by_cases h1 : a = x
    · subst h1
      have e := (N _ hp).1.symm.trans (N _ hx).1
      dsimp only at e
      cases e
      exact .inl rfl
    · by_cases h2 : a = dx
      · subst h2
        have e := (N _ hp).1.symm.trans (N _ hd).1
        dsimp only at e
        cases e
        exact .inr (.inl rfl)
      · exact .inr (.inr (List.mem_filter.mpr ⟨hp, by simp [h1, h2]⟩))
  · intro e
    subst e
    have e := (N _ hx).1.symm.trans (N _ hd).1
    exact hne (Option.some.inj e)

theorem canon_end1 (U : UpdF x ox NN f) (hc : ∀ p ∈ NN, p = (x, ox) ∨ p = (dx, od) ∨ p ∈ rest) (N' : News h₀ L h' l) (h1 : (x, ox') ∈ l) (h2 : (dx, od) ∈ l) (h3 : ∀ p ∈ rest, p ∈ l) : News h₀ L h' (f ox') := by
  intro p hp
  rcases updF_mem U ox' p hp with rfl | ⟨hp, hn⟩
  · exact N' _ h1
  · rcases hc p hp with rfl | rfl | hr
    · exact absurd rfl hn
    · exact N' _ h2
    · exact N' _ (h3 _ hr)
theorem canon_end0 (hc : ∀ p ∈ NN, p = (x, ox) ∨ p = (dx, od) ∨ p ∈ rest) (N' : News h₀ L h' l) (h1 : (x, ox) ∈ l) (h2 : (dx, od) ∈ l) (h3 : ∀ p ∈ rest, p ∈ l) : News h₀ L h' NN := by
  intro p hp
  rcases hc p hp with rfl | rfl | hr
  · exact N' _ h1
  · exact N' _ h2
  · exact N' _ (h3 _ hr)
theorem canon_end2 (U : UpdF x ox NN f) (U2 : ∀ o, UpdF dx od (f o) (g o)) (hc : ∀ p ∈ NN, p = (x, ox) ∨ p = (dx, od) ∨ p ∈ rest) (N' : News h₀ L h' l) (h1 : (x, ox') ∈ l) (h2 : (dx, od') ∈ l) (h3 : ∀ p ∈ rest, p ∈ l) : News h₀ L h' (g ox' od') := by
  intro p hp
  rcases updF_mem (U2 ox') od' p hp with rfl | ⟨hp, hn⟩
  · exact N' _ h2
  · rcases updF_mem U ox' p hp with rfl | ⟨hp, hn'⟩
    · exact N' _ h1
    · rcases hc p hp with rfl | rfl | hr
      · exact absurd rfl hn'
      · exact absurd rfl hn
      · exact N' _ (h3 _ hr)
theorem canon_push {t : Addr} {o : Obj} (U : UpdF x ox NN f) (hc : ∀ p ∈ NN, p = (x, ox) ∨ p = (dx, od) ∨ p ∈ rest) (N' : News h₀ L h' ((t, o) :: (x, ox') :: (dx, od) :: rest)) : News h₀ L h' ((t, o) :: f ox') := by
  intro q hq
  rcases List.mem_cons.mp hq with rfl | hq
  · exact N' _ (.head _)
  · exact canon_end1 U hc N' (.tail _ (.head _)) (.tail _ (.tail _ (.head _))) (fun p hp => .tail _ (.tail _ (.tail _ hp))) q hq
theorem news_cons {p : Addr × Obj} (h1 : News h₀ L h [p]) (h2 : News h₀ L h l) : News h₀ L h (p :: l) := by
  intro q hq
  rcases List.mem_cons.mp hq with rfl | hq
  · exact h1 _ (.head _)
  · exact h2 _ hq
theorem canon_lt {t : Addr} (hc : ∀ p ∈ NN, p = (x, ox) ∨ p = (dx, od) ∨ p ∈ rest) (h1 : x < t) (h2 : dx < t) (h3 : AllLt t rest) : ∀ p ∈ NN, p.1 < t := by
  intro p hp
  rcases hc p hp with rfl | rfl | hr
  · exact h1
  · exact h2
  · exact allLt_mem h3 p hr
end
end Mine
end
section
open PySem PySem.W PySem.Calls PyProof.Rows
set_option Elab.async false
set_option maxRecDepth 100000
set_option maxHeartbeats 4000000
namespace Mine
section
variable {prog : Program} {w : World} {A : Around} {E : Value → Shared → Prop} {s : Shared} {K : Frag} {x C : Addr} {ox : Obj} {od : Option Obj}

theorem acc_iter {Q : Value → Shared → Prop} (X : K.In s.heap) (I : W.InstAt s.heap x ox C od)
    (hf : findIn K (.ref C) "__iter__" = some (some (.builtin "list.__iter__"))) (hm : mroIn K C (.type "list") = some true)
    (h : Q (.ref s.heap.objs.size) { s with heap := s.heap.push { cls := .type "list_iterator", data := .fields #[.ref x, .int 0 0] } }) :
    wpAny (model prog w) A (pyIter (.ref x)) Q E s := by
  have hb : ∀ self, bindSpecial (.builtin "list.__iter__") self = pure (.builtin "list.__iter__", [self]) := PySem.F.slot_list_iter.bind
  have fin : ∀ {R : Option Value → Shared → Prop} {E : Value → Shared → Prop}, R (some (.ref s.heap.objs.size)) { s with heap := s.heap.push { cls := .type "list_iterator", data := .fields #[.ref x, .int 0 0] } } →
      wpAny (model prog w) A (call (.builtin "list.__iter__") [.ref x] >>= fun v => pure (some v)) R E s := by
    intro R E hR
    refine wpAny_bind ?_
    refine call_sub (owner := "list") (n := "__iter__") (by decide +kernel) (.inl (by decide +kernel)) (inst_looks X I hm) (PySem.F.args_list_iter_1 _) (by decide +kernel) PySem.F.entry_list_iter ?_
    show wpAny _ _ (do ret (← newFields "list_iterator" [.ref x, rawInt 0])) _ _ s
    exact wpAny_bind (wpAny_newObj_type (wpAny_pure ⟨_, rfl, wpAny_pure hR⟩))
  unfold pyIter specialOf
  refine wpAny_bind (wpAny_bind (I.type.here ((looks_findIn X hf).here ?_)))
  dsimp only
  unfold callSpecialIfBoundUnlessNone? bindSpecialIfBound? specialOf
  refine wpAny_bind (wpAny_holding (wpAny_bind (wpAny_bind (wpAny_bind (I.type.here ((looks_findIn X hf).here ?_))))))
  dsimp only
  rw [hb]
  refine wpAny_bind (wpAny_askSetting (wpAny_ite ?_))
  have tail : ∀ {E' : Value → Shared → Prop} {P : Option Value → Shared → Prop}, (P (some (.ref s.heap.objs.size)) { s with heap := s.heap.push { cls := .type "list_iterator", data := .fields #[.ref x, .int 0 0] } }) →
      wpAny (model prog w) A (if (Value.builtin "list.__iter__" == Value.none) = true then (do let v ← (do rule "iter.none"; raiseError "TypeError" s!"'{← typeNameOf (.ref x)}' object is not iterable"); pure (some v)) else (call (.builtin "list.__iter__") [.ref x] >>= fun v => pure (some v))) P E' s := by
    intro E' P hP
    rw [if_neg (by decide)]
    exact fin hP
  have last : wpAny (model prog w) A (specialOf (.ref s.heap.objs.size) "__next__" >>= fun r => match r with
        | none => do rule "iter.non-iterator"; raiseError "TypeError" s!"iter() returned non-iterator of type '{← typeNameOf (.ref s.heap.objs.size)}'"
        | some _ => pure (.ref s.heap.objs.size)) Q E { s with heap := s.heap.push { cls := .type "list_iterator", data := .fields #[.ref x, .int 0 0] } } :=
    wpAny_bind (wpAny_specialOf ⟨_, Heap.get?_push_size _ rfl, rfl⟩ slot_listiter_next.lookup (wpAny_pure h))
  split
  · exact wpAny_bind (wpAny_pure (wpAny_pure (tail last)))
  · exact wpAny_tryCatch (wpAny_bind (wpAny_pure (wpAny_pure (tail last))))

/-- one turn of a list iterator over the items of an object of any class -/
theorem seqIter_item {it l : Addr} {i : Nat} {items : Array Value} {ol : Obj} {nl : Nat} {v : Value} {Q : Option Value → Shared → Prop} (hit : s.heap.IsListIter it l i)
    (hol : s.heap.get? l = some ol) (hdl : ol.data = .seq items nl) (hx : items[i]? = some v)
    (hQ : ∀ h', h'.IsListIter it l (i + 1) → Heap.SameBut it s.heap h' → Q (some v) { s with heap := h' }) :
    wpAny (model prog w) A (pyNext (.ref it)) Q E s := by
  obtain ⟨o, ho, hc, hd⟩ := id hit
  unfold pyNext
  refine wpAny_bind (wpAny_attempt (wpAny_callSpecial?_slot (name := Str.ofString "__next__") hit.typeIs slot_listiter_next
    (wpAny_call_entry slot_listiter_next hit.typeIs entry_listiter_next ?_ (args_listiter_next _))))
  show wpAny _ _ (field (.ref it) 0 >>= _) _ _ s
  refine wpAny_bind (wpAny_field ho hd (x := .ref l) rfl ?_)
  show wpAny _ _ (if (Value.ref l == Value.none) = true then _ else _) _ _ s
  rw [if_neg (show ¬ ((Value.ref l == Value.none) = true) from Bool.false_ne_true)]
  show wpAny _ _ (field (.ref it) 1 >>= _) _ _ s
  refine wpAny_bind (wpAny_field ho hd (x := .int i 0) rfl ?_)
  show wpAny _ _ (seqItems? (.ref l) >>= _) _ _ s
  refine wpAny_bind (wpAny_seqItems hol hdl ?_)
  simp only [Int.toNat_natCast, hx]
  refine wpAny_bind (wpAny_setField ho hd (by simp) (wpAny_pure ⟨v, rfl, wpAny_pure (hQ _ ?_ (Heap.SameBut.update ..))⟩))
  exact ⟨_, Heap.get?_update_self _ ho (Obj.isFreed_of_fields (Obj.data_mapFields hd _)), (Obj.cls_mapFields ..).trans hc, by
    rw [Obj.data_mapFields hd]; simp [rawInt]⟩

theorem seqIter_end {it l : Addr} {i : Nat} {items : Array Value} {ol : Obj} {nl : Nat} {Q : Option Value → Shared → Prop} (hh : A.handled = none) (hit : s.heap.IsListIter it l i)
    (hol : s.heap.get? l = some ol) (hdl : ol.data = .seq items nl) (hx : items[i]? = none)
    (hQ : ∀ h', Heap.ExtBut it s.heap h' → Q none { s with heap := h' }) : wpAny (model prog w) A (pyNext (.ref it)) Q E s := by
  obtain ⟨o, ho, hc, hd⟩ := id hit
  unfold pyNext
  refine wpAny_bind (wpAny_attempt (wpAny_callSpecial?_slot (name := Str.ofString "__next__") hit.typeIs slot_listiter_next
    (wpAny_call_entry slot_listiter_next hit.typeIs entry_listiter_next ?_ (args_listiter_next _))))
  show wpAny _ _ (field (.ref it) 0 >>= _) _ _ s
  refine wpAny_bind (wpAny_field ho hd (x := .ref l) rfl ?_)
  show wpAny _ _ (if (Value.ref l == Value.none) = true then _ else _) _ _ s
  rw [if_neg (show ¬ ((Value.ref l == Value.none) = true) from Bool.false_ne_true)]
  show wpAny _ _ (field (.ref it) 1 >>= _) _ _ s
  refine wpAny_bind (wpAny_field ho hd (x := .int i 0) rfl ?_)
  show wpAny _ _ (seqItems? (.ref l) >>= _) _ _ s
  refine wpAny_bind (wpAny_seqItems hol hdl ?_)
  simp only [Int.toNat_natCast, hx]
  refine wpAny_bind (wpAny_rule (wpAny_bind (wpAny_setField ho hd (by simp) ?_)))
  show wpAny _ _ (newExc (.type "StopIteration") [] >>= _) _ _ _
  refine wpAny_bind ?_
  simp only [newExc, newTuple]
  refine wpAny_bind (wpAny_newObj_type ?_ (by size_fits))
  refine wpAny_bind (m := firstArgMember _ _) (wpAny_of_eq (a := Value.none) (by first | rfl | (simp only [firstArgMember]; rfl)) ?_)
  refine wpAny_newObj_type ?_ (by size_fits)
  simp only [raiseNew]
  refine wpAny_bind (wpAny_handled ?_)
  rw [show A.in1.handled = none from hh]
  refine wpAny_bind (wpAny_pure (wpAny_throw ?_))
  refine wpAny_bind (wpAny_isInstance (T := "StopIteration") (b := true) ⟨_, Heap.get?_push_size _ rfl, rfl⟩ isSubtype_stop ?_)
  exact wpAny_pure (hQ _ (((Heap.SameBut.update ..).extBut.push _).push _))

theorem WalksU.accTuples (hh : A.handled = none) (I ax : Addr) (ox : Obj) (items : Array Value) (nx : Nat) (hd : ox.data = .seq items nx) (hne : ax ≠ I) (Ts : Nat → Addr) (vals : Nat → Array Value)
    (hit : ∀ j, j < items.size → items[j]? = some (.ref (Ts j))) (hTI : ∀ j, j < items.size → Ts j ≠ I) :
    WalksU prog w A I (I :: ax :: (List.range items.size).map Ts) [I] items.size (fun j v => v = vals j)
      (fun j h => h.IsListIter I ax j ∧ h.get? ax = some ox ∧ ∀ k, k < items.size → h.IsTuple (Ts k) (vals k))
      (fun j T h => (j < items.size ∧ T = Ts j) ∧ h.IsListIter I ax (j + 1) ∧ h.get? ax = some ox ∧ ∀ k, k < items.size → h.IsTuple (Ts k) (vals k)) where
  sub := fun b hb => by simp at hb; simp [hb]
  frame := fun _ _ _ st hk => ⟨st.1.at fun o e => hk I (by simp) o e, hk ax (by simp) _ st.2.1,
    fun k hk' => (st.2.2 k hk').at fun o e => hk (Ts k) (List.mem_cons_of_mem _ (List.mem_cons_of_mem _ (List.mem_map.mpr ⟨k, List.mem_range.mpr hk', rfl⟩))) o e⟩
  item := fun i s Q E hi st hQ => by
    refine seqIter_item st.1 st.2.1 hd (hit i hi) fun h' hit' hs' => ?_
    have tup : ∀ k, k < items.size → h'.IsTuple (Ts k) (vals k) := fun k hk' => (st.2.2 k hk').extBut hs'.extBut (hTI k hk')
    exact hQ (Ts i) (vals i) h' s.toks rfl (tup i hi) ⟨⟨hi, rfl⟩, hit', hs'.extBut _ _ hne st.2.1, tup⟩ fun b o hb e => hs'.extBut b o (fun h => hb (by simp [h])) e
  go := fun _ _ _ _ _ s Q _ hm hQ => wpAny_letOwnedTupleGo_listiter hm.2.1 (hQ s.heap hm.2 fun _ _ _ e => e)
  apart := fun j T _ hm hmem => by
    rcases List.mem_cons.mp hmem with e | e
    · exact hTI j hm.1.1 (hm.1.2 ▸ e)
    · cases e
  done := fun s Q E st hQ => seqIter_end hh st.1 st.2.1 hd (by simp) fun h' he' => hQ h' s.toks fun b o hb e => he' b o (fun h => hb (by simp [h])) e
  self := fun _ _ _ _ st hQ => wpAny_pyIter_listiter st.1 hQ

/-- sum with a start 0 -/
theorem call_sum_zero {x : Value} {tz : Tok} {Q : Value → Shared → Prop}
    (h : wpAny (model prog w) A.in1 (pyIter x) (fun it s₂ => ∃ I fp wr G n P St val, it = .ref I ∧ WalksS prog w A.in1 I fp wr G n P St ∧ St 0 s₂ ∧ (∀ b ∈ fp, b < s₂.heap.objs.size) ∧
      (∀ i v, P i v → ∃ t, v = .int (val i) t) ∧
      ∀ s' t', Moved wr G s₂ s' → Q (.int (preSum val n) t') s') E s) :
    wpAny (model prog w) A (call (.builtin "sum") [x, .int 0 tz]) Q E s := by
  refine call_function_tree PySem.F.kind_sum PySem.F.plain_sum PySem.F.entry_sum (by unfold argsOk; kernel_rfl) ?_
  unfold Builtin.«sum»
  simp only [List.length_cons, List.length_nil]
  rw [if_neg (by decide)]
  refine wpAny_bind (wpAny_of_eq (show Builtin.Builtins.bindParams "sum" ["start"] 0 { pos := [.int 0 tz] } = pure [some (.int 0 tz)] from rfl) ?_)
  refine wpAny_bind (wpAny_mono h (fun it s₂ h₂ => ?_) fun _ _ e => e)
  obtain ⟨I, fp, wr, G, n, P, St, val, rfl, W, hst, hfp, hval, hQ⟩ := h₂
  dsimp only
  rw [if_pos (by decide)]
  refine wpAny_bind (wpAny_rule (wpAny_bind (wpAny_mkInt (wpAny_bind (wpAny_pure ?_)))))
  simp only [List.forIn_cons, List.forIn_nil]
  refine wpAny_bind (wpAny_bind (wpAny_bind (wpAny_isInstance (T := "int") (b := false) (typeIs_int _ _ _) PySem.sub_int_str ?_)))
  simp only [Bool.false_eq_true, if_false]
  refine wpAny_pure (wpAny_bind (wpAny_bind (wpAny_isInstance (T := "int") (b := false) (typeIs_int _ _ _) PySem.sub_int_bytes ?_)))
  simp only [Bool.false_eq_true, if_false]
  refine wpAny_pure (wpAny_bind (wpAny_bind (wpAny_isInstance (T := "int") (b := false) (typeIs_int _ _ _) PySem.sub_int_bytearray ?_)))
  simp only [Bool.false_eq_true, if_false]
  refine wpAny_pure (wpAny_pure ?_)
  refine wpAny_bind (wpAny_newObj_type ?_)
  have hSf : s₂.heap.objs.size ∉ fp := fun hm => Nat.lt_irrefl _ (hfp _ hm)
  refine wpAny_pure ⟨plainId_quiet PySem.F.plain_sum_loop _, codeAny_sum_loopAnyS W val hval s₂.heap.objs.size hSf n 0 _ s₂.toks 0 0 (.inl rfl) rfl (Nat.zero_le _)
    (W.frame 0 s₂ _ _ hst (by first | exact Nat.le_refl _ | exact Nat.le_succ _ | omega) fun b _ o e => Heap.get?_push_of_some _ e) (Heap.get?_push_size _ rfl) fun s' t' hm => ?_⟩
  exact hQ s' t' (hm.drop_new (by first | exact Nat.le_refl _ | exact Nat.le_succ _ | omega))
end
end Mine
end
section
open PySem PySem.W PySem.Calls PyProof.Rows
set_option Elab.async false
set_option maxRecDepth 100000
set_option maxHeartbeats 4000000
namespace Mine
abbrev tabObj (ps : Array Value) : Obj := { cls := .none, data := .fields ps }

/-- the word of a code object whose table is P -/
structure CodeOf (g : Heap) (c P : Addr) : Prop where
  obj : ∃ o vs file tf flags tg inF text tt, g.get? c = some o ∧ o.cls = .type "code" ∧ o.data = .fields vs ∧ vs[11]? = some (.ref P) ∧ vs.getD 11 .none = .ref P ∧ vs.getD 18 .none = .str file tf ∧
    vs.getD 7 .none = .int flags tg ∧ vs.getD 9 .none = .bool inF ∧ vs.getD 10 .none = .int text tt
  ne : c ≠ P

theorem CodeOf.isCode {g h : Heap} {c P : Addr} {ps : Array Value} (X : CodeOf g c P) (k : ∀ b o, g.get? b = some o → h.get? b = some o) (hP : h.get? P = some (tabObj ps)) (ht : TriplesOk ps.toList) : h.IsCode c P ps ∧ h.TableAt c P ps := by
  obtain ⟨⟨o, vs, file, tf, flags, tg, inF, text, tt, h1, h2, h3, h4, h5, h6, h7, h8, h9⟩, hne⟩ := X
  exact ⟨⟨o, vs, file, tf, flags, tg, inF, text, tt, _, k _ _ h1, h3, h5, h6, h7, h8, h9, hP, rfl, ht, hne⟩, ⟨o, vs, k _ _ h1, h2, h3, h4⟩, hP⟩

/-- the table is empty, or it bears the one code of this place -/
def TabAtPos (pos : Pos) (ps : Array Value) : Prop := ps = #[] ∨ ∃ c', ps = #[rawInt pos.line, rawInt pos.col, .ref c']
theorem tab_hit {pos : Pos} {c' : Addr} : codeAmong pos (#[rawInt pos.line, rawInt pos.col, .ref c'] : Array Value).toList = some (.ref c') := by
  simp [codeAmong, rawInt]
theorem tab_ok {pos : Pos} {ps : Array Value} (h : TabAtPos pos ps) : TriplesOk ps.toList := by
  rcases h with rfl | ⟨c', rfl⟩
  · trivial
  · simp [TriplesOk, rawInt]

theorem code_step {prog : Program} {w : World} {A : Around} {E : Value → Shared → Prop} {s : Shared} {env : Env} {g : Heap} {c P : Addr} {ps : Array Value} {pos : Pos} {qn : Str} {scope : Scope} {Q : Value → Shared → Prop}
    (X : CodeOf g c P) (k : ∀ b o, g.get? b = some o → s.heap.get? b = some o) (hP : s.heap.get? P = some (tabObj ps)) (ht : TabAtPos pos ps) (hc : env.code = .ref c)
    (h : ∀ cv ps' h' tk, TabAtPos pos ps' → h'.get? P = some (tabObj ps') → Heap.ExtBut P s.heap h' → s.heap.objs.size ≤ h'.objs.size → Q cv { s with heap := h', toks := tk }) :
    wpAny (model prog w) A (genexprCode env pos qn scope) Q E s := by
  obtain ⟨hi, hb⟩ := X.isCode k hP (tab_ok ht)
  rcases ht with rfl | ⟨c', rfl⟩
  · refine wpAny_genexprCodeX hc hi hb rfl fun c' h' tk hk hge hlt hi' hr' ht' _ => h _ _ h' tk (.inr ⟨c', rfl⟩) ht'.2 hk (Nat.le_of_lt (Nat.lt_of_le_of_lt hge hlt))
  · exact wpAny_genexprCode_hit hc hi tab_hit (h _ _ s.heap s.toks (.inr ⟨c', rfl⟩) hP (fun _ _ _ e => e) (Nat.le_refl _))

theorem news_tab {g : Heap} {L P : Addr} {ps ps' : Array Value} {h h' : Heap} {NN : List (Addr × Obj)} {f : Obj → List (Addr × Obj)} (U : UpdF P (tabObj ps) NN f) (N : News g L h NN)
    (hP : h'.get? P = some (tabObj ps')) (hk : Heap.ExtBut P h h') : News g L h' (f (tabObj ps')) := by
  intro p hp
  rcases updF_mem U _ p hp with rfl | ⟨hp, hn⟩
  · exact ⟨hP, (N _ (updF_in U)).2⟩
  · exact ⟨hk _ _ hn (N p hp).1, (N p hp).2⟩

theorem fr_tab {g : Heap} {L P : Addr} {m : Str → Option Value} {h h' : Heap} (F : Fr g L h m) (hP : g.get? P = none) (hL : P ≠ L) (hk : Heap.ExtBut P h h') : Fr g L h' m := by
  obtain ⟨oL, es, ep, e, r⟩ := F.ns
  exact ⟨⟨oL, es, ep, hk _ _ (Ne.symm hL) e, r⟩, fun b o e => hk b o (fun h => by rw [h, hP] at e; cases e) (F.keep b o e), F.above⟩

theorem accGenexp {prog : Program} {w : World} {A : Around} {E : Value → Shared → Prop} {s : Shared} {g : Heap} {L c P x dx C : Addr} {m : Str → Option Value} {NN : List (Addr × Obj)} {f : Obj → List (Addr × Obj)} {ps : Array Value} {its : List Value} {n : Nat} {K : Frag} {od : Option Obj}
    {env : Env} {elt iter : Expr} {xa xb : Str} {pa pb pt : Pos} {kt : Nat} {scope : Scope} {pos : Pos} {Q : Value → Shared → Prop} {mg : Str → Option Value} {bm : Addr} {ob : Obj} (Ts : Nat → Addr) (va vb : Nat → Value) (Fv : Nat → Value → Prop)
    (Fm : Fr g L s.heap m) (N : News g L s.heap NN) (G : AllBare s.gens) (Kin : K.In g) (CO : CodeOf g c P) (M : BMod g env.globals mg bm ob) (hlim : g.NoLimit)
    (U : UpdF P (tabObj ps) NN f) (ht : TabAtPos pos ps) (hx : (x, accOf C dx its n) ∈ NN) (I : W.InstAt s.heap x (accOf C dx its n) C od)
    (hf : findIn K (.ref C) "__iter__" = some (some (.builtin "list.__iter__"))) (hm : mroIn K C (.type "list") = some true)
    (hits : ∀ j, j < its.length → its[j]? = some (.ref (Ts j)) ∧ ((Ts j, ({ cls := .type "tuple", data := .seq #[va j, vb j] } : Obj)) ∈ NN))
    (hiter : ∀ {R : Value → Shared → Prop}, R (.ref x) s → wpAny (model prog w) A (eval iter env) R E s)
    (hh : A.handled = none) (hcode : env.code = .ref c) (hco : scope.isCoroutine = false) (hclos : closureFor scope env = pure []) (hcell : ∀ y ∈ scope.names, y.2 ≠ .cell) (h0 : scope.names.lookup (".0" : Str) = some NameKind.local)
    (hxa : scope.names.lookup xa = some .local) (hxb : scope.names.lookup xb = some .local) (hab : xa ≠ xb) (hkind : scope.kind = .function) (hroom : A.depth < recursionLimit)
    (helt : ∀ (A' : Around) (E' : Value → Shared → Prop) (i : Nat) (s₂ : Shared) (m₂ : Str → Option Value) (C' : Addr) (code : Value), i < its.length → A'.handled = none → Fr g C' s₂.heap m₂ → m₂ xa = some (va i) → m₂ xb = some (vb i) →
      wpAny (model prog w) A' (eval elt (genEnv scope [] C' code builtinsNs env)) (fun y s₃ => Fv i y ∧ Keeps s₂ s₃) E' s₂)
    (hs : ∀ x, genFold iter env x = pure x)
    (h : ∀ (a KB : Addr) (ps' : Array Value) (s' : Shared), TabAtPos pos ps' → Fr g L s'.heap m → News g L s'.heap (f (tabObj ps')) → AllBare s'.gens → s'.os = s.os → s'.drawn = s.drawn → (∀ p ∈ NN, p.1 ≤ KB) → L ≤ KB →
      Gen prog w A KB a its.length Fv s' → Q (.ref a) s') :
    wpAny (model prog w) A (eval (.GeneratorExp elt [⟨.Tuple [.Name xa pa, .Name xb pb] kt pt, iter, [], 0⟩] scope pos) env) Q E s := by
  have Kh : K.In s.heap := Kin.keeps Fm.keep
  have hxh := (N _ hx).1
  have hlt : ∀ p ∈ NN, p.1 < s.heap.objs.size := fun p hp => Heap.lt_size (N p hp).1
  have hLlt : L < s.heap.objs.size := Fm.ns.lt
  have hPm := updF_in U
  have hPn := N _ hPm
  refine wpAny_GeneratorExp_walksQT hh hco hclos hcell h0 hxa hxb hab hkind hroom (hiter (acc_iter Kh I hf hm ⟨(hlim.keeps Fm.keep).push _, ?_⟩)) hs
  refine code_step CO (fun b o e => Heap.get?_push_of_some _ (Fm.keep b o e)) (Heap.get?_push_of_some _ hPn.1) ht hcode fun cv ps' h₃ tk₃ ht' hP₃ hk₃ hsz₃ => ?_
  have k₃ : ∀ b o, b ≠ P → s.heap.get? b = some o → h₃.get? b = some o := fun b o hb e => hk₃ b o hb (Heap.get?_push_of_some _ e)
  have kg : ∀ b o, g.get? b = some o → h₃.get? b = some o := fun b o e => k₃ b o (fun q => by rw [q, hPn.2.2] at e; cases e) (Fm.keep b o e)
  have M₃ : BMod h₃ env.globals mg bm ob := M.keeps kg
  have hsz : s.heap.objs.size < h₃.objs.size := by
    have : (s.heap.push { cls := .type "list_iterator", data := .fields #[.ref x, .int 0 0] }).objs.size ≤ h₃.objs.size := hsz₃
    rw [Heap.size_push] at this; exact this
  have hxP : x ≠ P := fun e => by
    have := hPn.1
    rw [← e, hxh] at this; cases this
  have hIP : s.heap.objs.size ≠ P := fun e => absurd (hlt _ hPm) (by rw [← e]; exact Nat.lt_irrefl _)
  refine wpAny_builtinsFor M₃.ns M₃.name M₃.ne M₃.obj M₃.cls M₃.dict M₃.data ?_
  have hTs : ∀ j, j < its.length → h₃.get? (Ts j) = some ({ cls := .type "tuple", data := .seq #[va j, vb j] } : Obj) ∧ Ts j < s.heap.objs.size := fun j hj => by
    have q := (hits j hj).2
    refine ⟨k₃ _ _ (fun e => ?_) (N _ q).1, hlt _ q⟩
    have := hPn.1
    rw [← e, (N _ q).1] at this; cases this
  have hcs : cStatics < g.objs.size := let ⟨_, hn, _⟩ := hlim; hn.lt
  refine ⟨s.heap.objs.size, s.heap.objs.size :: x :: (List.range its.toArray.size).map Ts, [s.heap.objs.size], its.toArray.size, _, _, _, (fun _ => true), (fun i v => i < its.length ∧ Fv i v), rfl,
    (fun A' hA => (WalksU.accTuples hA s.heap.objs.size x (accOf C dx its n) its.toArray n rfl (Nat.ne_of_lt (hlt _ hx)) Ts (fun j => #[va j, vb j])
      (fun j hj => by simpa using (hits j (by simpa using hj)).1) (fun j hj => Nat.ne_of_lt (hTs j (by simpa using hj)).2)).bound),
    (fun i vals hv => ⟨_, _, hv.2⟩), ⟨⟨_, hk₃ _ _ hIP (Heap.get?_push_size _ rfl), rfl, rfl⟩, k₃ _ _ hxP hxh, fun k hk => ⟨_, (hTs k (by simpa using hk)).1, rfl, _, rfl⟩⟩, ?_, hlim.keeps kg, ?_, ?_, ?_⟩
  · intro b hb
    show b < h₃.objs.size
    rcases List.mem_cons.mp hb with rfl | hb
    · exact hsz
    · rcases List.mem_cons.mp hb with rfl | hb
      · exact Nat.lt_trans (hlt _ hx) hsz
      · obtain ⟨j, hj, rfl⟩ := List.mem_map.mp hb
        exact Nat.lt_trans (hTs j (by simpa using hj)).2 hsz
  · intro hm'
    rcases List.mem_cons.mp hm' with e | e
    · exact absurd (Nat.lt_of_lt_of_le hcs (Nat.le_trans Fm.above (Nat.le_of_lt hLlt))) (by rw [e]; exact Nat.lt_irrefl _)
    · cases e
  · intro href hhref
    refine ⟨fun A' E' i v1 v2 s₂ m₂ _ _ _ _ _ _ => ?_, fun A' E' i v1 v2 s₂ m₂ hA hPt _ hn ha hb hfr => ?_⟩
    · simp only [List.forIn_nil]
      exact wpAny_pure ⟨rfl, s₂.heap, s₂.toks, rfl, fun _ _ e => e⟩
    · obtain ⟨hi, hv⟩ := hPt
      have hi' : i < its.length := by simpa using hi
      have hv : (#[v1, v2] : Array Value) = #[va i, vb i] := hv
      injection hv with hv
      injection hv with e1 hv
      injection hv with e2
      subst e1; subst e2
      refine wpAny_mono (helt A' E' i s₂ m₂ _ _ hi' hA ⟨hn, fun b o e => ?_, ?_⟩ ha hb) (fun y s₃ q => ⟨⟨hi', q.1⟩, q.2⟩) fun _ _ e => e
      · have hb' : b < g.objs.size := Heap.lt_size e
        have hbL : b < L := Nat.lt_of_lt_of_le hb' Fm.above
        refine hfr b (List.mem_range.mpr (Nat.lt_trans (Nat.lt_trans hbL hLlt) hsz)) (fun hm' => ?_) o (hhref b o (kg b o e))
        rcases List.mem_cons.mp hm' with q | q
        · exact absurd (Nat.lt_trans hbL hLlt) (by rw [q]; exact Nat.lt_irrefl _)
        · cases q
      · exact Nat.le_trans Fm.above (Nat.le_of_lt (Nat.lt_trans hLlt hsz))
  · intro a h₅ tk gs hgb hag hsz₅ hk₅ W hat
    have hpass : (passing (fun _ => true) its.toArray.size 0) = List.range its.length := by
      unfold passing; simp
    rw [hpass] at W
    have W' : WalksS prog w A.in4 a (a :: h₃.objs.size :: List.range h₃.objs.size) (h₃.objs.size :: [s.heap.objs.size]) (GenOnlyQ s.gens.size) its.length Fv (GenAt prog w A.in4 a s.gens.size h₃.objs.size (List.range h₃.objs.size) [s.heap.objs.size] (fun _ => true) its.toArray.size (fun i v => i < its.length ∧ Fv i v)) := by
      have e : (List.range its.length).length = its.length := List.length_range
      rw [e] at W
      exact ⟨W.sub, W.grefl, W.gtrans, W.frame, fun i s Q E hi st hQ => W.item i s Q E hi st fun v s' hP st' hmv => hQ v s' (by
        obtain ⟨i', hi', hF⟩ := hP
        have : i' = i := by
          rw [List.getElem?_range hi] at hi'
          exact (Option.some.inj hi').symm
        exact this ▸ hF.2) st' hmv, W.done, W.self⟩
    refine h a (s.heap.objs.size - 1) ps' _ ht' ((fr_tab (h := s.heap) Fm hPn.2.2 hPn.2.1 fun b o hb e => hk₅ b o (k₃ b o hb e))) (news_tab U N (hk₅ _ _ hP₃) fun b o hb e => hk₅ b o (k₃ b o hb e)) (G.push hgb) rfl rfl
      (fun p hp => Nat.le_sub_one_of_lt (hlt p hp)) (Nat.le_sub_one_of_lt hLlt) ⟨_, _, _, _, W', hat, (fun i s' st => st.1.typeIs), List.mem_cons_self, ?_, ?_⟩
    · intro b hb
      show b < h₅.objs.size
      rw [hsz₅]
      rcases List.mem_cons.mp hb with rfl | hb
      · exact Nat.lt_succ_self _
      · rcases List.mem_cons.mp hb with rfl | hb
        · exact Nat.lt_succ_of_lt hag
        · exact Nat.lt_succ_of_lt (Nat.lt_trans (List.mem_range.mp hb) hag)
    · intro b hb
      have hpos : 0 < s.heap.objs.size := Nat.lt_of_le_of_lt (Nat.zero_le _) hLlt
      rcases List.mem_cons.mp hb with rfl | hb
      · exact Nat.lt_of_le_of_lt (Nat.sub_le _ _) hsz
      · rcases List.mem_cons.mp hb with rfl | hb
        · exact Nat.sub_lt hpos (by decide)
        · cases hb

variable {prog : Program} {w : World} {A : Around} {E : Value → Shared → Prop} {s : Shared} {g : Heap} {L KB a : Addr} {n : Nat} {Fv : Nat → Value → Prop} {m : Str → Option Value} {NN : List (Addr × Obj)} {Q : Value → Shared → Prop}
theorem gen_after {wr' : List Addr} (hwr : ∀ b ∈ wr', KB < b) {G' : Array GenState → Array GenState → Prop} {s s' : Shared} (Fm : Fr g L s.heap m) (N : News g L s.heap NN) (hLK : L ≤ KB) (hN : ∀ p ∈ NN, p.1 ≤ KB) (hm : Moved wr' G' s s') : Fr g L s'.heap m ∧ News g L s'.heap NN :=
  ⟨Fm.moved hm fun b hb => Nat.lt_of_le_of_lt hLK (hwr b hb), fun p hp => ⟨hm.heap _ _ (fun hmem => Nat.lt_irrefl _ (Nat.lt_of_lt_of_le (hwr _ hmem) (hN p hp))) (N p hp).1, (N p hp).2⟩⟩

theorem sum_acc {tz : Tok} (Fm : Fr g L s.heap m) (N : News g L s.heap NN) (G : AllBare s.gens) (X : Gen prog w A KB a n Fv s) (hLK : L ≤ KB) (hN : ∀ p ∈ NN, p.1 ≤ KB) (hval : ∀ j v, Fv j v → ∃ t, v = .int 1 t)
    (h : ∀ s' t', Fr g L s'.heap m → News g L s'.heap NN → AllBare s'.gens → s'.os = s.os → s'.drawn = s.drawn → Q (.int n t') s') : wpAny (model prog w) A (call (.builtin "sum") [.ref a, .int 0 tz]) Q E s := by
  obtain ⟨fp, wr, gg, St, W, hst, _, _, hfp, hwr⟩ := X
  have W := W.in4_1
  have hsum : ∀ k, preSum (fun _ => 1) k = (k : Int) := by
    intro k
    induction k with
    | zero => rfl
    | succ k ih => show preSum (fun _ => 1) k + 1 = _; rw [ih]; omega
  exact call_sum_zero (W.self 0 _ _ _ hst ⟨a, _, _, _, _, _, _, (fun _ => 1), rfl, W, hst, hfp, hval, fun s' t' hm => by
    obtain ⟨F', N'⟩ := gen_after hwr Fm N hLK hN hm
    rw [hsum]
    exact h s' t' F' N' (G.movedS hm) hm.os hm.drawn⟩)

theorem join_acc {sep : Str} {t : Tok} (Fm : Fr g L s.heap m) (N : News g L s.heap NN) (G : AllBare s.gens) (X : Gen prog w A KB a n Fv s) (hLK : L ≤ KB) (hN : ∀ p ∈ NN, p.1 ≤ KB) (tx : Nat → Str) (htx : ∀ j v, Fv j v → ∃ u, v = .str (tx j) u)
    (hok : JoinOk sep ((List.range n).map tx) = true) (hsz : n ≤ sizeLine)
    (h : ∀ s' t', Fr g L s'.heap m → News g L s'.heap NN → AllBare s'.gens → s'.os = s.os → s'.drawn = s.drawn → Q (.str (Txt.join sep ((List.range n).map tx)) t') s') : wpAny (model prog w) A (call (.builtin "str.join") [.str sep t, .ref a]) Q E s := by
  obtain ⟨fp, wr, gg, St, W, hst, hT, ha, hfp, hwr⟩ := X
  have W := W.in4_2
  refine SC.joinGen W hT hst hfp ha (fun j v hv => let ⟨u, e⟩ := htx j v hv; ⟨_, u, e⟩) (fun s' lt hm hacc => ?_) hsz
  have hl : lt.map (·.1) = (List.range n).map tx := by
    apply List.ext_getElem?
    intro j
    have hsz : lt.length = n := by simpa [strValues] using hacc.1
    by_cases hj : j < n
    · have hj' : j < lt.length := hsz ▸ hj
      obtain ⟨u, hv⟩ := htx j _ (hacc.2 j (.str lt[j].1 lt[j].2) (by simp [strValues, List.getElem?_eq_getElem hj']))
      injection hv with h1 _
      simp [List.getElem?_eq_getElem hj', hj, h1]
    · rw [List.getElem?_eq_none (by simpa [hsz] using Nat.le_of_not_lt hj), List.getElem?_eq_none (by simpa using Nat.le_of_not_lt hj)]
  rw [hl]
  obtain ⟨F', N'⟩ := gen_after hwr Fm N hLK hN hm
  have g1 := G.movedS hm
  have o1 := hm.os
  have d1 := hm.drawn
  exact ⟨hok, fun t' k => h { s' with toks := k } t' F' N' g1 o1 d1⟩
end Mine
end
section
open PySem PySem.W PySem.Calls PyProof.Rows
set_option Elab.async false
set_option maxRecDepth 100000
set_option maxHeartbeats 4000000
namespace Mine
section
variable {prog : Program} {w : World} {A : Around} {E : Value → Shared → Prop} {s : Shared} {K : Frag} {x C f : Addr} {ox : Obj} {od : Option Obj} {h₀ : Heap} {L : Addr} {m : Str → Option Value}

def LenNZ (Q : Bool → Shared → Prop) (v : Value) (s' : Shared) : Prop := match v with
  | .int n _ => (0 ≤ n ∧ n < 2 ^ 63) ∧ Q (n != 0) { s' with toks := s'.toks + 1 }
  | _ => False
theorem acc_truthy {Q : Bool → Shared → Prop} (F : Fr h₀ L s.heap m) (X₀ : K.In h₀) (I : W.InstAt s.heap x ox C od) (hb : findIn K (.ref C) "__bool__" = some none) (hs : findIn K (.ref C) "__len__" = some (some (.ref f))) (hf : isFn K (.ref f) = true)
    (h : wpAny (model prog w) A.in1 (call (.ref f) [.ref x]) (LenNZ Q) E s) : wpAny (model prog w) A (truthy (.ref x)) Q E s := by
  have X := X₀.keeps F.keep
  unfold truthy
  refine wpAny_bind (m := callSpecial? (.ref x) (Str.ofString "__bool__")) (wpAny_bind (wpAny_bind (I.type.here ((looks_findIn X hb).here (wpAny_pure ?_)))))
  refine wpAny_bind (wpAny_bind (I.type.here ((looks_findIn X hs).here ?_)))
  show wpAny _ _ (if (some (Value.ref f)).isNone = true then _ else _) _ _ _
  rw [if_neg (by simp)]
  refine wpAny_bind (m := runValue (.builtin "len" ⟨[.ref x], []⟩)) ?_
  refine wpAny_runValue (codeAny_builtin entry_len ?_)
  rw [Around.under_plainId plain_len _]
  unfold Builtin.«len»
  refine wpAny_bind (m := oneArg "len" _) (wpAny_pure ?_)
  refine wpAny_bind (m := callSpecial? (.ref x) (Str.ofString "__len__")) (special_fn X I hs (beq_iff_eq.mp hf) (wpAny_mono h (fun r s' hr => ?_) fun _ _ y => y))
  cases r <;> first | exact hr.elim | skip
  rename_i n u
  obtain ⟨⟨h0, h1⟩, hq⟩ := hr
  refine wpAny_bind (wpAny_holding (wpAny_pure ?_))
  refine wpAny_bind (wpAny_letGo ?_)
  show wpAny _ _ (if n < 0 then _ else _) _ _ _
  rw [if_neg (by omega)]
  show wpAny _ _ (if n ≥ 2 ^ 63 then _ else _) _ _ _
  rw [if_neg (by omega)]
  exact wpAny_bind (wpAny_mkInt (wpAny_pure (wpAny_pure hq)))
end
end Mine
end
section
open PySem PySem.W PySem.Calls PyProof.Rows Builtin Builtin.ObjectAttr
set_option Elab.async false
set_option maxRecDepth 100000
set_option maxHeartbeats 4000000
namespace Mine
section
variable {prog : Program} {w : World} {A : Around} {E : Value → Shared → Prop} {s : Shared} {K : Frag} {x C f L : Addr} {ox : Obj} {od : Obj} {name : Str} {expr : Bool} {h₀ : Heap} {m : Str → Option Value} {news : List (Addr × Obj)} {es : List DictEntry} {n : Nat} {Q : Value → Shared → Prop} {t : Tok}

theorem accBound (F : Fr h₀ L s.heap m) (X₀ : K.In h₀) (N : News h₀ L s.heap news) (I : W.InstAt s.heap x ox C (some (dictOf es n))) (hga : findIn K (.ref C) "__getattribute__" = some (some (.builtin "list.__getattribute__"))) (hk : findIn K (.ref C) "__getattr__" = some none)
    (hm : mroIn K C (.type "list") = some true) (hh : hasDictIn K C = true) (ha : findIn K (.ref C) name = some (some (.ref f))) (hf : isFn K (.ref f) = true)
    (hgf : specialIn K (.ref f) "__get__" = some (some (.builtin "function.__get__"))) (ht : takesIn K (.ref f) = some false) (hc : copiedNames.contains name = false) (hl : getL name es = some none)
    (h : ∀ q h', Fr h₀ L h' m → News h₀ L h' ((q, methodObj (.ref f) (.ref x)) :: news) → (∀ p ∈ news, p.1 < q) → Q (.ref q) { s with heap := h', toks := s.toks + 1 }) : wpAny (model prog w) A (getAttr (.ref x) name expr) Q E s := by
  have X := X₀.keeps F.keep
  have hfo : findObj K C (some (dictOf es n)) name = some (.bind (.builtin "function.__get__") (.ref f)) := findObj_fn hh ha hgf ht hc (by show lookIn name (dictOf es n) = _; rw [lookIn_dict, hl])
  have hq := h s.heap.objs.size _ (F.push _) (N.push F _) fun p hp => Heap.lt_size (N p hp).1
  obtain ⟨hh', g, d, t, os⟩ := s
  have L0 := I.type (M := model prog w)
  have L1 := looks_findIn (M := model prog w) X hga
  have L2 := looks_findIn (M := model prog w) X hk
  have L3 := looks_find (M := model prog w) X I hfo
  have hi : Looks (model prog w) hh' (isInstance (.ref x) (.type "list")) true := inst_looks (s := ⟨hh', g, d, t, os⟩) X I hm
  have hb := PySem.F.slot_list_getattribute.bind (.ref x)
  unfold getAttr getAttrBy
  refine wpAny_bind (wpAny_mkText (wpAny_holding (wpAny_bind (L0.at (wpAny_bind (L1.at ?_))))))
  dsimp only
  have hn : ¬ ((onTheHeap (Value.ref C) && Value.builtin "list.__getattribute__" == Value.builtin "object.__getattribute__") = true) := by
    show ¬ ((true && Value.builtin "list.__getattribute__" == Value.builtin "object.__getattribute__") = true)
    decide
  rw [if_neg hn]
  unfold getAttrByItsOwn hookBefore callGetattribute boundAndCalled
  refine wpAny_bind ?_
  show wpAny _ _ (typeLookup (.ref C) "__getattr__") _ _ _
  refine L2.at ?_
  refine wpAny_bind (wpAny_attempt (wpAny_holding ?_))
  rw [if_neg (by cases expr <;> decide), hb]
  refine wpAny_bind (wpAny_pure ?_)
  refine call_sub (n := "__getattribute__") (owner := "list") (by decide +kernel) (.inl (by decide +kernel)) hi (PySem.F.args_list_getattribute_2 _ _) (by decide +kernel) am_entry_list_getattribute ?_
  unfold Builtin.«object.__getattribute__»
  refine wpAny_bind (wpAny_pure (wpAny_bind (wpAny_pure (wpAny_bind (L0.at (wpAny_bind (L3.at ?_)))))))
  show wpAny _ _ (holding [.ref f] (call (.builtin "function.__get__") [.ref f, .ref x, .ref C]) >>= ret) _ _ _
  refine wpAny_bind (wpAny_holding (wpAny_call (fn_get (s := ⟨hh', g, d, t + 1, os⟩) X (beq_iff_eq.mp hf) ?_)))
  refine wpAny_pure ⟨_, rfl, ?_⟩
  show wpAny _ _ (handedOut _) _ _ _
  exact handed_on rfl hq
end
section
variable {prog : Program} {w : World} {A : Around} {E : Value → Shared → Prop} {s : Shared} {K : Frag} {env : Env} {pos p apos : Pos} {Q : Value → Shared → Prop} {h₀ : Heap} {e o : Expr} {L q g : Addr} {self : Value} {news : List (Addr × Obj)} {name : Str}
theorem callWith_SM (_X : K.In h₀) (_N : News h₀ L s.heap news) (_q : (q, methodObj (.ref g) self) ∈ news) (hf : fnIn K g = true)
    (h : wpAny (model prog w) A (eval e env) (fun v s₁ => StarOf (model prog w) A E v (fun vs s₂ => MethP K q g self s₂.heap ∧ wpAny (model prog w) A (call (.ref q) ([] ++ vs)) Q E s₂) s₁) E s)
    (he : starEach [.Starred e p] env = [(true, eval e env)] := by rfl) :
    wpAny (model prog w) A (callWith pos (.ref q) [] (backTo pos (starEach [.Starred e p] env)) []) Q E s := by
  rw [he]
  exact ks_call (first := []) rfl (keeps_M hf) (ks_lone h)
theorem starMethod (h : wpAny (model prog w) A (eval o env) (fun ov s₁ => wpAny (model prog w) A (getAttr ov name true) (fun f s₂ => wpAny (model prog w) A (callWith pos f [] (backTo pos (starEach [.Starred e p] env)) []) Q E s₂) E s₁) E s)
    (he : eval (.Call (.Attribute o name apos) [.Starred e p] [] pos) env = (do
      let ov ← eval o env
      standAt apos.atName
      let (f, first) ← holding [ov] (do pure (← getAttr ov name true, []))
      callWith pos f first (backTo pos (starEach [.Starred e p] env)) []) := by rfl) :
    wpAny (model prog w) A (eval (.Call (.Attribute o name apos) [.Starred e p] [] pos) env) Q E s := by
  rw [he]
  exact wpAny_bind (wpAny_mono h (fun ov s₁ h₁ => wpAny_bind (wpAny_standAt (wpAny_bind (wpAny_holding (wpAny_bind (wpAny_mono h₁ (fun f s₂ h₂ => wpAny_pure h₂) fun _ _ x => x)))))) fun _ _ x => x)
end
end Mine
end
section
open PySem PySem.W PySem.Calls PyProof.Rows Builtin
set_option Elab.async false
set_option maxRecDepth 100000
set_option maxHeartbeats 4000000
namespace Mine
/-- the class makes its instances by list.__new__ -/
def lmakesIn (K : Frag) (C : Addr) : Bool := match K.lookup C with
  | some ⟨_, _, .cls cd, sl⟩ => !cd.abstract && !cd.hasDel && (sl.toList[4]?).join == some (.builtin "list.__new__") && !cd.mro.isEmpty && cd.mro.contains (.ref C) && cd.mro.contains (.type "list") &&
      specialIn K (.ref C) "__call__" == some (some (.builtin "type.__call__")) && instIn K (.ref C) (.type "type") == some true
  | _ => false
structure LMakes (M : Model) (h : Heap) (C : Addr) : Prop where
  obj : ∃ oc od cd sl, h.get? C = some ⟨oc, od, .cls cd, sl⟩ ∧ cd.abstract = false ∧ cd.hasDel = false ∧ cd.mro.isEmpty = false
  made : Looks M h (Bind.madeBy (.ref C)) (some "list.__new__")
  base : Looks M h (Bind.staticBase (.ref C)) (.ref C)
  self : Looks M h (isSubtype (.ref C) (.ref C)) true
  top : Looks M h (isSubtype (.ref C) (.type "list")) true
  call : Looks M h (specialOf (.ref C) "__call__") (some (.builtin "type.__call__"))
  typ : Looks M h (isInstance (.ref C) (.type "type")) true

theorem lmakes_of {K : Frag} {M : Model} {h : Heap} (X : K.In h) {C : Addr} (e : lmakesIn K C = true) : LMakes M h C := by
  unfold lmakesIn at e
  split at e
  · rename_i oc od cd sl ho
    simp only [Bool.and_eq_true, Bool.not_eq_true', beq_iff_eq] at e
    obtain ⟨⟨⟨⟨⟨⟨⟨e1, e2⟩, e3⟩, e4⟩, e5⟩, e6⟩, e7⟩, e8⟩ := e
    have hc : clsIn K C = some cd := by unfold clsIn; rw [ho]
    have hm : Looks M h (mroOf (.ref C)) cd.mro := (looks_clsIn X hc).andThen .now
    obtain ⟨c, l, hl⟩ : ∃ c l, cd.mro = c :: l := by cases q : cd.mro with | nil => rw [q] at e4; cases e4 | cons c l => exact ⟨c, l, rfl⟩
    have made : Looks M h (Bind.madeBy (.ref C)) (some "list.__new__") := by
      intro A Q E s k q
      unfold Bind.madeBy
      refine wpAny_bind (hm A _ E s k ?_)
      rw [hl, List.forIn_cons]
      refine wpAny_bind (wpAny_bind (wpAny_bind (wpAny_bind (wpAny_loadPart (k _ _ (X _ _ ho)) (wpAny_pure ?_)))))
      dsimp only
      rw [← Array.getElem?_toList, e3]
      exact wpAny_pure (wpAny_pure (wpAny_pure q))
    refine ⟨⟨oc, od, cd, sl, X _ _ ho, e1, e2, e4⟩, made, ?_, looks_mroIn X ?_, looks_mroIn X ?_, looks_specialIn X e7, looks_instIn X e8⟩
    · intro A Q E s k q
      unfold Bind.staticBase
      refine wpAny_bind (hm A _ E s k ?_)
      rw [hl, List.forIn_cons]
      exact wpAny_bind (wpAny_bind (wpAny_bind (made A _ E s k (wpAny_pure (wpAny_pure (wpAny_pure q))))))
    · unfold mroIn; rw [hc, Option.bind_some, if_neg (by rw [e4]; decide), e5]
    · unfold mroIn; rw [hc, Option.bind_some, if_neg (by rw [e4]; decide), e6]
  · cases e

theorem lnew_row : ∃ sig, Manifest.signature? "list.__new__" = some sig ∧ ∀ C a, Bind.checkArgs "list.__new__" sig ⟨[.ref C, a], []⟩ = pure () :=
  ⟨⟨.any, "list", "list", .cls, [{ name := "args", kind := .varPos, required := false }, { name := "kwargs", kind := .varKw, required := false }]⟩, by kernel_rfl, fun C a => by kernel_rfl⟩
theorem lnew_kind : builtinKind "list.__new__" = some .builtinFn := by decide +kernel
theorem lnew_split : splitId "list.__new__" = some ("list", "__new__") := by decide +kernel
section
variable {prog : Program} {w : World} {A : Around} {K : Frag} {C : Addr} {R : Result → Shared → Prop} {h : Heap} {g : Array GenState} {d : Drawn} {t : Nat} {os : OsState}
theorem lnew_K {a : Value} (Y : LMakes (model prog w) h C)
    (hq : R (.ok (.ret (.ref (h.objs.size + 1)))) ⟨(h.push emptyDict).push (accOf C h.objs.size [] 0), g, d, t, os⟩) :
    codeAny (model prog w) A (.call (.builtin "list.__new__") ⟨[.ref C, a], []⟩) R ⟨h, g, d, t, os⟩ := by
  obtain ⟨⟨oc, od, cd, sl, hC, e1, e2, e4⟩, made, base, self, top, call, typ⟩ := Y
  refine codeAny_call_builtin_code (Code.quiet_builtin _ (by decide +kernel)) ?_
  simp only [checkBuiltinCall, lnew_kind, lnew_split]
  obtain ⟨sig, hsig, args⟩ := lnew_row
  rw [hsig]
  repeat (first | simp only [bne_self_eq_false, Bool.false_eq_true, if_false, args, beq_self_eq_true, if_true, Bool.not_true] | lk)
  refine codeAny_builtin_stack PySem.F.entry_list_new rfl fun p st => ?_
  rw [Around.under_plainId PySem.F.plain_list_new _]
  have hown := owner_list_new
  have hC' := Heap.get?_push_of_some (accOf C (h.push emptyDict).objs.size.pred [] 0) (Heap.get?_push_of_some emptyDict hC)
  simp only [hown]
  repeat (first | simp only [bne_self_eq_false, Bool.false_eq_true, if_false, beq_self_eq_true, if_true, Bool.not_true] | lk)
  refine nd_load (Heap.get?_push_of_some _ (Heap.get?_push_of_some _ hC)) ?_
  refine wpAny_pure ?_
  dsimp only
  rw [e2]
  refine wpAny_pure (wpAny_pure ?_)
  try refine wpAny_pure ?_
  show R _ _
  rw [Heap.size_push]
  exact hq

theorem lmake_core {a init : Value} (Y : LMakes (model prog w) h C) (hi : Looks (model prog w) h (typeLookup (.ref C) "__init__") (some init))
    (hb : ∀ self, Looks (model prog w) h (bindSpecial init self) (init, [self]))
    (hq : codeAny (model prog w) (A.under (.builtin "type.__call__" ⟨[.ref C, a], []⟩)) (.call init ⟨[.ref (h.objs.size + 1), a], []⟩) (InitBack (h.objs.size + 1) R) ⟨(h.push emptyDict).push (accOf C h.objs.size [] 0), g, d, t, os⟩) :
    codeAny (model prog w) A (.call (.ref C) ⟨[a], []⟩) R ⟨h, g, d, t, os⟩ := by
  have Y' := Y
  obtain ⟨⟨oc, od, cd, sl, hC, e1, e2, e4⟩, made, base, self, top, call, typ⟩ := Y
  refine codeAny_of_tree ?_
  show wpAny _ _ (callAny (.ref C) _) _ _ _
  refine nd_load hC ?_
  show wpAny _ _ (callAny.viaDunder (.ref C) _) _ _ _
  unfold callAny.viaDunder
  refine wpAny_bind (call.at ?_)
  dsimp only
  rw [tc_bind]
  refine wpAny_bind (wpAny_pure (wpAny_bind (wpAny_pure ?_)))
  refine wpAny_pure (a := Fin.again (.call (.builtin "type.__call__") ⟨[.ref C, a], []⟩)) (And.intro rfl ?_)
  refine codeAny_call_builtin_at (Code.quiet_builtin _ (by decide +kernel)) entry_typeCall (check_slot tc_kind tc_split typ (tc_args _ _ _) ?_)
  unfold Builtin.«type.__call__»
  have hm : Looks (model prog w) h (mroOf (.ref C)) cd.mro := ((Looks.ld (part := none) hC).andThen .now).andThen .now
  repeat (first | simp only [e4, Bool.false_eq_true, if_false] | with_reducible refine wpAny_call ?_ | lk)
  refine lnew_K Y' ?_
  have k : ∀ b o, h.get? b = some o → ((h.push emptyDict).push (accOf C h.objs.size [] 0)).get? b = some o := fun b o e => Heap.get?_push_of_some _ (Heap.get?_push_of_some _ e)
  have hx : ((h.push emptyDict).push (accOf C h.objs.size [] 0)).get? (h.objs.size + 1) = some (accOf C h.objs.size [] 0) := by heap_get
  have t1 : Looks (model prog w) ((h.push emptyDict).push (accOf C h.objs.size [] 0)) (typeOf (.ref (h.objs.size + 1))) (.ref C) := (Looks.ld hx).andThen .now
  have s1 := self.keeps k
  have i1 := hi.keeps k
  have b1 := (hb (.ref (h.objs.size + 1))).keeps k
  unfold isInstance callSpecial? specialOf
  repeat (first | with_reducible refine wpAny_call ?_ | lk)
  refine codeAny_mono hq fun r s' z => ?_
  rcases r with e | (v | _ | _ | _) <;> first | exact z | exact z.elim | skip
  obtain ⟨rfl, z⟩ := z
  exact wpAny_pure (wpAny_pure z)
end

section
variable {prog : Program} {w : World} {A : Around} {K : Frag} {C x : Addr} {s : Shared} {h₀ : Heap} {L : Addr} {m : Str → Option Value} {news : List (Addr × Obj)} {Q : Value → Shared → Prop} {E : Value → Shared → Prop}
/-- a call of a class over list with one value -/
theorem accMake {a : Value} {fI : Addr} (F : Fr h₀ L s.heap m) (X₀ : K.In h₀) (N : News h₀ L s.heap news) (hm : lmakesIn K C = true)
    (hi : findIn K (.ref C) "__init__" = some (some (.ref fI))) (hf : isFn K (.ref fI) = true)
    (h : ∀ x dx h', Fr h₀ L h' m → News h₀ L h' ((x, accOf C dx [] 0) :: (dx, dictOf [] 0) :: news) → (∀ p ∈ news, p.1 < dx) → dx < x →
      codeAny (model prog w) (A.under (.builtin "type.__call__" ⟨[.ref C, a], []⟩)) (.call (.ref fI) ⟨[.ref x, a], []⟩) (InitBack x fun r s' => match r with | .ok (.ret v) => Q v s' | .ok _ => False | .error e => E e s') { s with heap := h' }) :
    wpAny (model prog w) A (call (.ref C) [a]) Q E s := by
  have X := X₀.keeps F.keep
  obtain ⟨hh, g, d, t, os⟩ := s
  refine wpAny_call (lmake_core (lmakes_of X hm) (looks_findIn X hi) (fun self => bind_fn X self (beq_iff_eq.mp hf)) (h _ hh.objs.size _ ((F.push _).push _) ?_ (fun p hp => Heap.lt_size (N p hp).1) (Nat.lt_succ_self _)))
  have := (N.push F emptyDict).push (F.push _) (accOf C hh.objs.size [] 0)
  rwa [Heap.size_push] at this
end
end Mine
end
section
open PySem PySem.W PySem.W.X PyProof.Rows
set_option maxRecDepth 100000
set_option maxHeartbeats 4000000
set_option linter.unusedVariables false
namespace Mine
local macro_rules | `(tactic| walk_at "my_six") => `(tactic| ((case k1 => k_asm); (case k2 => k_asm); (case k3 => k_asm); (case k4 => k_asm); (case k5 => k_asm); (case k6 => first | exact rfl | assumption)))
local macro_rules | `(tactic| walk_at "my_sixn") => `(tactic| ((case k1 => k_asm); (case k2 => k_asm); (case k3 => k_asm); (case kN => k_asm); (case k5 => k_asm); (case k6 => first | exact rfl | assumption)))
local macro_rules | `(tactic| walk_at "my_end") => `(tactic| ((case hD => ktr_room); (case hU => ktr_units); k_whole))
local macro_rules | `(tactic| walk_at "my_len") => `(tactic| (first | assumption | (simp only [List.length_append, List.length_cons, List.length_nil] at *; omega)))
local macro_rules | `(tactic| walk_at "my_len9") => `(tactic| ((simp only [List.length_append, List.length_cons, List.length_nil] at *; omega)))
local macro_rules | `(tactic| walk_at "my_kind") => `(tactic| (first | exact rfl | assumption))
set_option maxHeartbeats 4000000
set_option linter.unusedVariables false

theorem fill0 (w : World) (h : Heap) : (hd.heap_39 w.params).In h → PySem.Challenge.rw_pg0222_01 = PySem.Challenge.rw_pg0222_01 := by
  k_fill
  intro _; rfl

/-- a tuple of two values -/
abbrev tup2 (v1 v2 : Value) : Obj := { cls := .type "tuple", data := .seq #[v1, v2] }
/-- what the table of __len__'s code may hold; of __str__'s -/
def Tab1 (ps : Array Value) : Prop := ps = #[] ∨ ∃ c, ps = #[rawInt 134, rawInt 19, .ref c]
def Tab2 (ps : Array Value) : Prop := ps = #[] ∨ ∃ c, ps = #[rawInt 137, rawInt 32, .ref c]
/-- each item is a pair ('', ';') that the ledger bears -/
def SemiIts (its : List Value) (NN : List (Addr × Obj)) : Prop := ∀ v ∈ its, ∃ t t1 t2, v = .ref t ∧ (t, tup2 (.str "" t1) (.str ";" t2)) ∈ NN
def semis (k : Nat) : Str := ⟨(List.replicate k 59).toArray⟩
local macro_rules | `(tactic| k_inst) => `(tactic| (refine' accInst (by k_asm) (by k_mem) (by k_mem)))
local macro_rules | `(tactic| k_all) => `(tactic| assumption)
local macro_rules | `(tactic| k_mem) => `(tactic| assumption)
local macro_rules | `(tactic| walk_at "getMethod ref") => `(tactic| (k_here; k_dflt (first
  | (refine' accMeth (by k_asm) (by k_asm) (by k_inst) (by k_is) (by k_is) (by k_is) (by k_is) (by k_get) ?_; k_whole)
  | (refine' accMethBi (by k_asm) (by k_asm) (by k_inst) (by k_is) (by k_is) (by k_is) (by k_is) (by k_get) ?_; k_whole))))
local macro_rules | `(tactic| walk_at "getAttr ref") => `(tactic| (k_here; k_dflt (refine' accGet (by k_asm) (by k_asm) (by k_inst) (by k_is) (by k_is) (by k_is) (by k_is) (by k_is) (by k_is) (by k_get) (by k_handed) ?_; k_whole)))
local macro_rules | `(tactic| walk_at "call builtin:list.append") => `(tactic| (k_here; k_dflt (refine' accAppend (C := 192) (by k_asm) (by k_asm) (by k_asm) (by k_is) (by k_upd) ?_ (by first | assumption | omega); k_whole); intro h' F' N'; (try k_sweep)))
local macro_rules | `(tactic| walk_at "subscriptTail") => `(tactic| (k_here; k_dflt (refine' accSlice (C := 192) (by k_asm) (by k_asm) (by k_asm) (by k_inst) (by k_is) (by k_is) (by k_is) (by first | exact IsPart.none | exact IsPart.int _ _) (by first | exact IsPart.none | exact IsPart.int _ _) (by first | assumption | omega) ?_ (by with_unfolding_all rfl); k_whole); intro l' h' F' N' l1; (try k_lt l1); (try k_sweep)))
local macro_rules | `(tactic| walk_at "setItem ref ref") => `(tactic| (k_here; k_dflt (refine' accSetSlice (C := 192) (by k_asm) (by k_asm) (by k_asm) (by k_updF) (by k_inst) (by k_is) (by k_is) (by k_is) (by first | exact IsPart.none | exact IsPart.int _ _) (by first | exact IsPart.none | exact IsPart.int _ _) (by k_mem) (by k_ne) (by first | assumption | omega) (by first | assumption | exact Nat.zero_le _ | omega) (by first | exact cut_from _ _ _ | exact cut_all _ _) ?_; k_whole); intro n' h' F' N'; (try dsimp only at N'); (try k_sweep)))
local macro_rules | `(tactic| walk_at "setItem ref ref") => `(tactic| (k_here; k_dflt (refine' accSetSlice (C := 192) (ys := []) (by k_asm) (by k_asm) (by k_asm) (by k_updF) (by k_inst) (by k_is) (by k_is) (by k_is) (by first | exact IsPart.none | exact IsPart.int _ _) (by first | exact IsPart.none | exact IsPart.int _ _) (by k_mem) (by k_ne) (by first | assumption | omega) (by first | assumption | exact Nat.zero_le _ | omega) (by first | exact cut_from _ _ _ | exact cut_all _ _) ?_; k_whole); intro n' h' F' N'; (try dsimp only at N'); (try k_sweep)))
local macro_rules | `(tactic| walk_at "setAttr ref") => `(tactic| (k_here; k_dflt (refine' accSetAttr (C := 192) (by k_asm) (by k_asm) (by k_asm) (by k_inst) (by exact rfl) (by k_is) (by k_is) (by rfl) (by rfl) (by k_is) (by k_get) (by k_put) (by k_upd) (by exact Nat.le_of_ble_eq_true rfl) ?_; k_whole; intro h' F' N'; (try k_sweep))))
local macro_rules | `(tactic| walk_at "getMethod ref") => `(tactic| (k_here; k_dflt (first
  | (refine' accSuper_pop (C := 192) (by k_asm) (by k_asm) (by k_asm) (by k_mem) (by k_inst) (by k_is) (by k_is) (by rfl) ?_; k_whole; intro q' h' F' N' l1; (try k_lt l1))
  | (refine' accSuper_len (C := 192) (by k_asm) (by k_asm) (by k_asm) (by k_mem) (by k_inst) (by k_is) (by k_is) (by rfl) ?_; k_whole; intro q' h' F' N' l1; (try k_lt l1))
  | (refine' accSuper_init (C := 192) (by k_asm) (by k_asm) (by k_asm) (by k_mem) (by k_inst) (by k_is) (by k_is) (by rfl) ?_; k_whole; intro q' h' F' N' l1; (try k_lt l1)))))
local macro_rules | `(tactic| walk_at "callWith ref") => `(tactic| (k_here; k_dflt (refine' callWith_b0 (by k_asm) (by k_mem) (by decide) (by decide) ?_; k_whole; try dsimp only [List.nil_append, List.cons_append])))
local macro_rules | `(tactic| walk_at "call ref") => `(tactic| (k_here; k_dflt (first
  | (refine' accCallLen (C := 192) (by k_asm) (by k_asm) (by k_mem) (by k_mem) ?_; k_whole)
  | (refine' accCallPop (C := 192) (by k_asm) (by k_asm) (by k_asm) (by k_mem) (by k_inst) (by k_is) (by rfl) (by k_is) (by k_is) (by k_updF) (by first | assumption | omega) ?_; k_whole; intro n' h' F' N'; (try dsimp only at N'))
  | (refine' accCallInit (C := 192) (by k_asm) (by k_asm) (by k_mem) (by k_upd) ?_; k_whole; intro h' F' N'; (try k_sweep)))))
local macro_rules | `(tactic| cell_enter) => `(tactic| (refine' code_def ?k1 ?k2 ?k3 ?k4 ?k5 ?kA ?kF ?kK ?k6 ?k7 ?k8 ?k9 ?kB ?_ ?c2 ?c3 ?c4 ?c5; (case kA => exact rfl); (case kF => exact rfl); (case kK => assumption); (case k1 => k_asm); (case k2 => k_asm); (case k3 => k_asm); (case k4 => k_asm); (case k5 => k_asm); (case k6 => k_is); (case k7 => k_is); (case k8 => ktr_room); (case k9 => first | exact BindsTo.of_eq rfl | exact binds_K (by k_in) rfl (by k_is) rfl rfl rfl); (case c5 => decide); (case kB => exact locs rfl); (case c2 => exact rfl); (case c3 => exact rfl); (case c4 => exact rfl); k_whole; intro g' L' h' FG' F' N' B' X' T'; (try dsimp only); (try k_lift B'); (try k_fold)))
section
theorem push_spec {w : World} {pp : Program} {lo : List Str} {x dx : Addr} {its : List Value} {n : Nat} {tk tv : Tok} {NN : List (Addr × Obj)} {f : Obj → List (Addr × Obj)} {v1 v2 : Value} {mean : ExcName → Option Value} {mg mb : Str → Option Value}
    {dp un : Nat} {gd : Option (List Code)} {cn : Str} {cs : Scope} {a : Addr} {ccd : Value} {cl : List (Str × Addr)} {outer : List Env} {A₀ : Around} {base h₀ : Heap} {L : Addr} {m : Str → Option Value} {s : Shared} {Q E : Value → Shared → Prop}
    (B : Below A₀ base outer h₀) (F : Fr h₀ L s.heap m) (X : (hd.heap_39 w.params).In h₀) (N : News h₀ L s.heap NN) (T : Top pp lo mean mg mb h₀) (hk : cs.kind = .function)
    (U : UpdF x (accOf 192 dx its n) NN f) (hdx : (dx, dictOf [⟨PyData.keyHash w.params "_initial_size", .str "_initial_size" tk, .int 0 tv⟩] 1) ∈ NN) (hl : its.length ≤ 100) (hD : dp + 20 < recursionLimit) (hU : un + 200 < cLine)
    (ret : ∀ (t : Addr) (h' : Heap) (tk' : Nat), Fr h₀ L h' m → News h₀ L h' ((t, tup2 v1 v2) :: f (accOf 192 dx (its ++ [.ref t]) (n + 1))) → (∀ p ∈ NN, p.1 < t) → Q .none { s with heap := h', toks := tk' }) :
    wpAny (model PySem.Challenge.rw_pg0222_01.row.prog w) (PySem.W.ktrTop dp un gd cn cs L a ccd cl outer) (call (.ref 136) [.ref x, v1, v2]) Q E s := by
  obtain ⟨rest, N0, r1, r2, hc, hne⟩ := canon N (updF_in U) hdx (by simp)
  clear N
  have hl0 : its.length ≤ 1000 := by omega
  refine wpAny_call ?_
  k_dflt cell_enter
  k_steps
  all_goals (rename News _ _ _ _ => N9; rename (_ ∧ _ ∧ AllLt _ _) => l9; exact ret _ _ _ (by assumption) (canon_push U hc N9) (canon_lt hc l9.1 l9.2.1 l9.2.2))

theorem popfrom_spec {w : World} {pp : Program} {lo : List Str} {x dx : Addr} {ia ib : List Value} {n : Nat} {tk tv : Tok} {NN : List (Addr × Obj)} {f : Obj → List (Addr × Obj)} {i : Int} {ti : Tok} {mean : ExcName → Option Value} {mg mb : Str → Option Value}
    {dp un : Nat} {gd : Option (List Code)} {cn : Str} {cs : Scope} {a : Addr} {ccd : Value} {cl : List (Str × Addr)} {outer : List Env} {A₀ : Around} {base h₀ : Heap} {L : Addr} {m : Str → Option Value} {s : Shared} {Q E : Value → Shared → Prop}
    (B : Below A₀ base outer h₀) (F : Fr h₀ L s.heap m) (X : (hd.heap_39 w.params).In h₀) (N : News h₀ L s.heap NN) (T : Top pp lo mean mg mb h₀) (hk : cs.kind = .function)
    (U : UpdF x (accOf 192 dx (ia ++ ib) n) NN f) (hdx : (dx, dictOf [⟨PyData.keyHash w.params "_initial_size", .str "_initial_size" tk, .int 0 tv⟩] 1) ∈ NN) (hi : i = ia.length) (hl : (ia ++ ib).length ≤ 100) (hD : dp + 20 < recursionLimit) (hU : un + 200 < cLine)
    (ret : ∀ (l : Addr) (n' nl : Nat) (h' : Heap) (tk' : Nat), Fr h₀ L h' m → News h₀ L h' ((l, listOf ib.toArray nl) :: f (accOf 192 dx ia n')) → (∀ p ∈ NN, p.1 < l) → Q (.ref l) { s with heap := h', toks := tk' }) :
    wpAny (model PySem.Challenge.rw_pg0222_01.row.prog w) (PySem.W.ktrTop dp un gd cn cs L a ccd cl outer) (call (.ref 144) [.ref x, .int i ti]) Q E s := by
  subst hi
  obtain ⟨rest, N0, r1, r2, hc, hne⟩ := canon N (updF_in U) hdx (by simp)
  clear N
  refine wpAny_call ?_
  k_dflt cell_enter
  k_steps
  all_goals (rename News _ _ _ _ => N9; rename (_ ∧ _ ∧ AllLt _ _) => l9; rw [pick_from, List.append_nil] at N9; exact ret _ _ _ _ _ (by assumption) (canon_push U hc (fun p hp => N9 p (.tail _ hp))) (canon_lt hc l9.1 l9.2.1 l9.2.2))

theorem reset_spec {w : World} {pp : Program} {lo : List Str} {x dx l : Addr} {its ib : List Value} {n nl : Nat} {tk tv : Tok} {NN : List (Addr × Obj)} {f : Obj → List (Addr × Obj)} {g : Obj → Obj → List (Addr × Obj)} {mean : ExcName → Option Value} {mg mb : Str → Option Value}
    {dp un : Nat} {gd : Option (List Code)} {cn : Str} {cs : Scope} {a : Addr} {ccd : Value} {cl : List (Str × Addr)} {outer : List Env} {A₀ : Around} {base h₀ : Heap} {L : Addr} {m : Str → Option Value} {s : Shared} {Q E : Value → Shared → Prop}
    (B : Below A₀ base outer h₀) (F : Fr h₀ L s.heap m) (X : (hd.heap_39 w.params).In h₀) (N : News h₀ L s.heap NN) (T : Top pp lo mean mg mb h₀) (hk : cs.kind = .function)
    (U : UpdF x (accOf 192 dx its n) NN f) (U2 : ∀ o, UpdF dx (dictOf [⟨PyData.keyHash w.params "_initial_size", .str "_initial_size" tk, .int 0 tv⟩] 1) (f o) (g o)) (hdx : (dx, dictOf [⟨PyData.keyHash w.params "_initial_size", .str "_initial_size" tk, .int 0 tv⟩] 1) ∈ NN) (hlm : (l, listOf ib.toArray nl) ∈ NN) (hne : @Ne Nat x l) (hl : its.length ≤ 100) (hl2 : ib.length ≤ 100) (hD : dp + 20 < recursionLimit) (hU : un + 200 < cLine)
    (ret : ∀ (n' : Nat) (tv' : Tok) (h' : Heap) (tk' : Nat), Fr h₀ L h' m → News h₀ L h' (g (accOf 192 dx ib n') (dictOf [⟨PyData.keyHash w.params "_initial_size", .str "_initial_size" tk, .int 0 tv'⟩] 1)) → Q .none { s with heap := h', toks := tk' }) :
    wpAny (model PySem.Challenge.rw_pg0222_01.row.prog w) (PySem.W.ktrTop dp un gd cn cs L a ccd cl outer) (call (.ref 174) [.ref x, .ref l]) Q E s := by
  have hne0 := hne
  clear hne
  obtain ⟨rest, N0, r1, r2, hc, hne⟩ := canon N (updF_in U) hdx (by simp)
  clear N
  have hlr : (l, listOf ib.toArray nl) ∈ rest := by
    rcases hc _ hlm with e | e | e
    · exact absurd (congrArg Prod.fst e).symm hne0
    · exact absurd (congrArg (fun p => p.2.cls) e) (by simp)
    · exact e
  refine wpAny_call ?_
  k_dflt cell_enter
  k_steps
  all_goals (rename News _ _ _ _ => N9; exact ret _ _ _ _ (by assumption) (canon_end2 U U2 hc N9 (.head _) (.tail _ (.head _)) (fun p hp => .tail _ (.tail _ hp))))

theorem reset0_spec {w : World} {pp : Program} {lo : List Str} {x dx : Addr} {its : List Value} {n : Nat} {tk tv : Tok} {NN : List (Addr × Obj)} {f : Obj → List (Addr × Obj)} {g : Obj → Obj → List (Addr × Obj)} {mean : ExcName → Option Value} {mg mb : Str → Option Value}
    {dp un : Nat} {gd : Option (List Code)} {cn : Str} {cs : Scope} {a : Addr} {ccd : Value} {cl : List (Str × Addr)} {outer : List Env} {A₀ : Around} {base h₀ : Heap} {L : Addr} {m : Str → Option Value} {s : Shared} {Q E : Value → Shared → Prop}
    (B : Below A₀ base outer h₀) (F : Fr h₀ L s.heap m) (X : (hd.heap_39 w.params).In h₀) (N : News h₀ L s.heap NN) (T : Top pp lo mean mg mb h₀) (hk : cs.kind = .function)
    (U : UpdF x (accOf 192 dx its n) NN f) (U2 : ∀ o, UpdF dx (dictOf [⟨PyData.keyHash w.params "_initial_size", .str "_initial_size" tk, .int 0 tv⟩] 1) (f o) (g o)) (hdx : (dx, dictOf [⟨PyData.keyHash w.params "_initial_size", .str "_initial_size" tk, .int 0 tv⟩] 1) ∈ NN) (hl : its.length ≤ 100) (hD : dp + 20 < recursionLimit) (hU : un + 200 < cLine)
    (ret : ∀ (n' : Nat) (tv' : Tok) (h' : Heap) (tk' : Nat), Fr h₀ L h' m → News h₀ L h' (g (accOf 192 dx [] n') (dictOf [⟨PyData.keyHash w.params "_initial_size", .str "_initial_size" tk, .int 0 tv'⟩] 1)) → Q .none { s with heap := h', toks := tk' }) :
    wpAny (model PySem.Challenge.rw_pg0222_01.row.prog w) (PySem.W.ktrTop dp un gd cn cs L a ccd cl outer) (call (.ref 174) [.ref x]) Q E s := by
  obtain ⟨rest, N0, r1, r2, hc, hne⟩ := canon N (updF_in U) hdx (by simp)
  clear N
  refine wpAny_call ?_
  k_dflt cell_enter
  k_steps
  all_goals (rename News _ _ _ _ => N9; exact ret _ _ _ _ (by assumption) (canon_end2 U U2 hc N9 (.tail _ (.head _)) (.tail _ (.tail _ (.head _))) (fun p hp => .tail _ (.tail _ (.tail _ hp)))))

theorem part_spec {w : World} {pp : Program} {lo : List Str} {x dx : Addr} {its : List Value} {n : Nat} {tk tv : Tok} {NN : List (Addr × Obj)} {mean : ExcName → Option Value} {mg mb : Str → Option Value}
    {dp un : Nat} {gd : Option (List Code)} {cn : Str} {cs : Scope} {a : Addr} {ccd : Value} {cl : List (Str × Addr)} {outer : List Env} {A₀ : Around} {base h₀ : Heap} {L : Addr} {m : Str → Option Value} {s : Shared} {Q E : Value → Shared → Prop}
    (B : Below A₀ base outer h₀) (F : Fr h₀ L s.heap m) (X : (hd.heap_39 w.params).In h₀) (N : News h₀ L s.heap NN) (T : Top pp lo mean mg mb h₀) (hk : cs.kind = .function)
    (hx : (x, accOf 192 dx its n) ∈ NN) (hdx : (dx, dictOf [⟨PyData.keyHash w.params "_initial_size", .str "_initial_size" tk, .int 0 tv⟩] 1) ∈ NN) (hl : its.length ≤ 100) (hD : dp + 20 < recursionLimit) (hU : un + 200 < cLine)
    (ret : ∀ (t : Tok) (h' : Heap) (tk' : Nat), Fr h₀ L h' m → News h₀ L h' (NN) → Q (.int its.length t) { s with heap := h', toks := tk' }) :
    wpAny (model PySem.Challenge.rw_pg0222_01.row.prog w) (PySem.W.ktrTop dp un gd cn cs L a ccd cl outer) (call (.ref 189) [.ref x]) Q E s := by
  obtain ⟨rest, N0, r1, r2, hc, hne⟩ := canon N hx hdx (by simp)
  clear N
  refine wpAny_call ?_
  k_dflt (refine' ks_code_super ?k1 ?k2 ?k3 ?k4 ?k5 ?kA ?kF ?kK ?k6 ?k7 ?k8 ?k9 ?kB ?_ ?c1 ?c2 ?c3 ?c4; (case kA => exact rfl); (case kF => exact rfl); (case kK => assumption); (case k1 => k_asm); (case k2 => k_asm); (case k3 => k_asm); (case k4 => k_asm); (case k5 => k_asm); (case k6 => k_is); (case k7 => k_is); (case k8 => ktr_room); (case k9 => exact BindsTo.of_eq rfl); (case kB => exact locs rfl); (case c1 => decide); (case c2 => exact rfl); (case c3 => exact rfl); (case c4 => exact rfl); intro g' L' h' FG' F' N' B' X' T' l1; (try k_lt l1); (try dsimp only); (try k_lift B'))
  k_steps
  all_goals (rename News _ _ _ _ => N9; exact ret _ _ _ (by assumption) (canon_end0 hc N9 (.tail _ (.tail _ (.head _))) (.tail _ (.tail _ (.tail _ (.head _)))) (fun p hp => .tail _ (.tail _ (.tail _ (.tail _ hp))))))
end
section
set_option maxHeartbeats 4000000
set_option linter.unusedVariables false

theorem fill1 (w : World) (h : Heap) : (hd.heap_39 w.params).In h → PySem.Challenge.rw_pg0222_01 = PySem.Challenge.rw_pg0222_01 := by
  k_fill
  intro _; rfl

theorem exec_first {prog : Program} {w : World} {A : Around} {c : Code} {env : Env} {st : Stmt} {rest : List Stmt} {g : Heap} {L : Addr} {h : Heap} {m : Str → Option Value} {NN : List (Addr × Obj)} {s : Shared} {Q : Flow → Shared → Prop} {E : Value → Shared → Prop}
    (F : Fr g L h m) (N : News g L h NN)
    (h1 : PySem.wpAt (model prog w) A c (exec st env) (fun f s' => f = .next ∧ ∃ h' tk', s' = { s with heap := h', toks := tk' } ∧ Fr g L h' m ∧ News g L h' NN) E s)
    (h2 : ∀ h' tk', Fr g L h' m → News g L h' NN → PySem.wpAt (model prog w) A c (execs rest env) Q E { s with heap := h', toks := tk' }) :
    PySem.wpAt (model prog w) A c (execs (st :: rest) env) Q E s := by
  refine ks_wpAt_execs_cons (ks_wpAt_mono h1 ?_ (fun _ _ h => h))
  rintro f s' ⟨rfl, h', tk', rfl, F', N'⟩
  exact h2 h' tk' F' N'
local macro_rules | `(tactic| walk_at "call ref") => `(tactic| (k_here; k_dflt (refine' part_spec (by k_asm) (by k_asm) (by k_asm) (by k_asm) (by k_asm) (by walk_at "my_kind") (by k_mem) (by k_mem) (by walk_at "my_len") (by ktr_room) (by ktr_units) ?_; k_whole); intro t' h' tk' F' N'; (try dsimp only at N'); (try dsimp only); (try k_sweep)))

theorem pop_spec {w : World} {pp : Program} {lo : List Str} {x dx : Addr} {ia : List Value} {v : Value} {n : Nat} {tk tv : Tok} {NN : List (Addr × Obj)} {f : Obj → List (Addr × Obj)} {mean : ExcName → Option Value} {mg mb : Str → Option Value}
    {dp un : Nat} {gd : Option (List Code)} {cn : Str} {cs : Scope} {a : Addr} {ccd : Value} {cl : List (Str × Addr)} {outer : List Env} {A₀ : Around} {base h₀ : Heap} {L : Addr} {m : Str → Option Value} {s : Shared} {Q E : Value → Shared → Prop}
    (B : Below A₀ base outer h₀) (F : Fr h₀ L s.heap m) (X : (hd.heap_39 w.params).In h₀) (N : News h₀ L s.heap NN) (T : Top pp lo mean mg mb h₀) (hk : cs.kind = .function)
    (U : UpdF x (accOf 192 dx (ia ++ [v]) n) NN f) (hdx : (dx, dictOf [⟨PyData.keyHash w.params "_initial_size", .str "_initial_size" tk, .int 0 tv⟩] 1) ∈ NN) (hl : (ia ++ [v]).length ≤ 100) (hD : dp + 40 < recursionLimit) (hU : un + 400 < cLine)
    (ret : ∀ (n' : Nat) (h' : Heap) (tk' : Nat), Fr h₀ L h' m → News h₀ L h' (f (accOf 192 dx ia n')) → Q v { s with heap := h', toks := tk' }) :
    wpAny (model PySem.Challenge.rw_pg0222_01.row.prog w) (PySem.W.ktrTop dp un gd cn cs L a ccd cl outer) (call (.ref 152) [.ref x]) Q E s := by
  obtain ⟨rest, N0, r1, r2, hc, hne⟩ := canon N (updF_in U) hdx (by simp)
  clear N
  have hl0 : ia.length ≤ 1000 := by (rw [List.length_append] at hl; omega)
  have nz : ((ia ++ [v]).length : Int) ≠ 0 := by (rw [List.length_append]; simp only [List.length_cons, List.length_nil]; omega)
  refine wpAny_call ?_
  k_dflt (refine' ks_code_super ?k1 ?k2 ?k3 ?k4 ?k5 ?kA ?kF ?kK ?k6 ?k7 ?k8 ?k9 ?kB ?_ ?c1 ?c2 ?c3 ?c4; (case kA => exact rfl); (case kF => exact rfl); (case kK => assumption); (case k1 => k_asm); (case k2 => k_asm); (case k3 => k_asm); (case k4 => k_asm); (case k5 => k_asm); (case k6 => k_is); (case k7 => k_is); (case k8 => ktr_room); (case k9 => exact BindsTo.of_eq rfl); (case kB => exact locs rfl); (case c1 => decide); (case c2 => exact rfl); (case c3 => exact rfl); (case c4 => exact rfl); intro g' L' h' FG' F' N' B' X' T' l1; (try k_lt l1); (try dsimp only); (try k_lift B'))
  refine exec_first F' N' ?_ ?_
  · refine ks_wpAt_If (wpAt_of_wpAny ?_)
    k_steps
    all_goals (first | assumption | exact absurd (by assumption) nz)
  · clear F' N'
    intro h' tk' F' N'
    refine ks_wpAt_execs_cons ?_
    refine ks_wpAt_Return_some ?_
    refine ks_wpAt_MethodCall ?_
    k_steps
    all_goals first
      | exact absurd (by assumption) nz
      | assumption
      | (rename News _ _ _ _ => N9; exact ret _ _ _ (by assumption) (canon_end1 U hc N9 (.tail _ (.tail _ (.head _))) (.tail _ (.tail _ (.tail _ (.head _)))) (fun p hp => .tail _ (.tail _ (.tail _ (.tail _ hp))))))
      | (rename News _ _ _ _ => N9; exact ret _ _ _ (by assumption) (canon_end1 U hc N9 (.tail _ (.head _)) (.tail _ (.tail _ (.head _))) (fun p hp => .tail _ (.tail _ (.tail _ hp)))))
end
section
set_option maxHeartbeats 4000000
set_option linter.unusedVariables false

theorem fill8 (w : World) (h : Heap) : (hd.heap_39 w.params).In h → PySem.Challenge.rw_pg0222_01 = PySem.Challenge.rw_pg0222_01 := by
  k_fill
  intro _; rfl

theorem push_code {w : World} {pp : Program} {lo : List Str} {x dx : Addr} {its : List Value} {n : Nat} {tk tv : Tok} {NN : List (Addr × Obj)} {f : Obj → List (Addr × Obj)} {v1 v2 : Value} {mean : ExcName → Option Value} {mg mb : Str → Option Value}
    {dp un : Nat} {gd : Option (List Code)} {cn : Str} {cs : Scope} {a : Addr} {ccd : Value} {cl : List (Str × Addr)} {outer : List Env} {A₀ : Around} {base h₀ : Heap} {L : Addr} {m : Str → Option Value} {s : Shared} {Q E : Value → Shared → Prop}
    (B : Below A₀ base outer h₀) (F : Fr h₀ L s.heap m) (X : (hd.heap_39 w.params).In h₀) (N : News h₀ L s.heap NN) (T : Top pp lo mean mg mb h₀) (hk : cs.kind = .function)
    (U : UpdF x (accOf 192 dx its n) NN f) (hdx : (dx, dictOf [⟨PyData.keyHash w.params "_initial_size", .str "_initial_size" tk, .int 0 tv⟩] 1) ∈ NN) (hl : its.length ≤ 100) (hD : dp + 20 < recursionLimit) (hU : un + 200 < cLine)
    (ret : ∀ (t : Addr) (h' : Heap) (tk' : Nat), Fr h₀ L h' m → News h₀ L h' ((t, tup2 v1 v2) :: f (accOf 192 dx (its ++ [.ref t]) (n + 1))) → (∀ p ∈ NN, p.1 < t) → Q .none { s with heap := h', toks := tk' }) :
    codeAny (model PySem.Challenge.rw_pg0222_01.row.prog w) (PySem.W.ktrTop dp un gd cn cs L a ccd cl outer) (.call (.ref 136) ⟨[.ref x, v1, v2], []⟩) (fun r s' => match r with | .ok (.ret v) => Q v s' | .ok _ => False | .error e => E e s') s := by
  obtain ⟨rest, N0, r1, r2, hc, hne⟩ := canon N (updF_in U) hdx (by simp)
  clear N
  have hl0 : its.length ≤ 1000 := by omega
  k_dflt cell_enter
  k_steps
  all_goals (rename News _ _ _ _ => N9; rename (_ ∧ _ ∧ AllLt _ _) => l9; exact ret _ _ _ (by assumption) (canon_push U hc N9) (canon_lt hc l9.1 l9.2.1 l9.2.2))
end
section
set_option maxHeartbeats 4000000
set_option linter.unusedVariables false

theorem fill3 (w : World) (h : Heap) : (hd.heap_39 w.params).In h → PySem.Challenge.rw_pg0222_01 = PySem.Challenge.rw_pg0222_01 := by
  k_fill
  intro _; rfl

section
variable {prog : Program} {w : World} {A : Around} {E : Value → Shared → Prop} {s : Shared} {g : Heap} {C : Addr} {m : Str → Option Value} {scope : Scope} {code : Value} {env : Env} {x : Str} {pos : Pos} {v : Value} {Q : Value → Shared → Prop}
theorem g_local (F : Fr g C s.heap m) (hv : m x = some v) (h : Q v s) (hk : scope.kind = .function) (hx : (genEnv scope [] C code builtinsNs env).kindOf x = some .local) (hd : (x == ("__debug__" : Str)) = false) :
    wpAny (model prog w) A (eval (.Name x pos) (genEnv scope [] C code builtinsNs env)) Q E s :=
  wpAny_Name (wpAny_loadName_local hk hx F.ns hv h) hd
theorem g_builtin {K : Frag} {p : Program} {loose : List Str} {mean : ExcName → Option Value} {mg mb : Str → Option Value} (F : Fr g C s.heap m) (X : K.In g) (T : Top p loose mean mg mb g) (hg : env.globals = mainGlobals) (e : nsIn K mainGlobals x = some none) (hv : bootBuiltins x = some v) (h : Q v s) (hn : x ≠ "__name__")
    (hk : scope.kind = .function) (hx : (genEnv scope [] C code builtinsNs env).kindOf x = some .globalImplicit) (hd : (x == ("__debug__" : Str)) = false) :
    wpAny (model prog w) A (eval (.Name x pos) (genEnv scope [] C code builtinsNs env)) Q E s :=
  Calls.Name_function_global hk hx (Calls.loadGlobal_builtin (env := genEnv scope [] C code builtinsNs env) (show s.heap.Ns env.globals mg by rw [hg]; exact T.g.keeps F.keep) (mg_none_of X T.g e) (T.b.keeps F.keep) ((T.builtins x hn).trans hv) h) hd
theorem g_glob {K : Frag} {p : Program} {loose : List Str} {mean : ExcName → Option Value} {mg mb : Str → Option Value} (F : Fr g C s.heap m) (X : K.In g) (T : Top p loose mean mg mb g) (hg : env.globals = mainGlobals) (e : nsIn K mainGlobals x = some (some v)) (h : Q v s)
    (hk : scope.kind = .function) (hx : (genEnv scope [] C code builtinsNs env).kindOf x = some .globalImplicit) (hd : (x == ("__debug__" : Str)) = false) :
    wpAny (model prog w) A (eval (.Name x pos) (genEnv scope [] C code builtinsNs env)) Q E s :=
  Calls.Name_function_global hk hx (Calls.loadGlobal_global (env := genEnv scope [] C code builtinsNs env) (show s.heap.Ns env.globals mg by rw [hg]; exact T.g.keeps F.keep) (mg_of X T.g e) h) hd
end
def keepsMark (s s' : Shared) : Prop := Keeps s s'
local macro_rules | `(tactic| walk_at "eval Name") => `(tactic| first
  | refine g_local (by assumption) (by assumption) ?_ rfl rfl (by decide)
  | refine g_builtin (by assumption) (by assumption) (by assumption) rfl (by k_is) rfl ?_ (by decide +kernel) rfl rfl (by decide)
  | refine g_glob (by assumption) (by assumption) (by assumption) rfl (by k_is) ?_ rfl rfl (by decide))
theorem elt_len {w : World} {pp : Program} {lo : List Str} {A' : Around} {E' : Value → Shared → Prop} {s₂ : Shared} {g : Heap} {C' : Addr} {m₂ : Str → Option Value} {code : Value} {t1 t2 : Tok} {mean : ExcName → Option Value} {mg mb : Str → Option Value} {L : Addr}
    (X : (hd.heap_39 w.params).In g) (T : Top pp lo mean mg mb g) (hh : A'.handled = none) (F : Fr g C' s₂.heap m₂) (ha : m₂ "fws" = some (.str "" t1)) (hb : m₂ "part" = some (.str ";" t2)) :
    wpAny (model PySem.Challenge.rw_pg0222_01.row.prog w) A' (eval ((((Expr.Name (Str.ofString "len") { line := 134, col := 20, endLine := 134, endCol := 23 })).Call [(Expr.Name (Str.ofString "fws") { line := 134, col := 24, endLine := 134, endCol := 27 })] [] { line := 134, col := 20, endLine := 134, endCol := 28 }).BinOp Operator.Add (((Expr.Name (Str.ofString "len") { line := 134, col := 31, endLine := 134, endCol := 34 })).Call [(Expr.Name (Str.ofString "part") { line := 134, col := 35, endLine := 134, endCol := 39 })] [] { line := 134, col := 31, endLine := 134, endCol := 40 }) { line := 134, col := 20, endLine := 134, endCol := 40 }) (genEnv { kind := ScopeKind.function, names := [(Str.ofString ".0", NameKind.local), (Str.ofString "fws", NameKind.local), (Str.ofString "part", NameKind.local), (Str.ofString "len", NameKind.globalImplicit)], isGenerator := true, isCoroutine := false } [] C' code builtinsNs (envOf (Str.ofString "_Accumulator.__len__") { kind := ScopeKind.function, names := [(Str.ofString "self", NameKind.local), (Str.ofString "sum", NameKind.globalImplicit)], isGenerator := false, isCoroutine := false } L 159 (Value.ref 158)))) (fun y s₃ => (∃ t, y = .int 1 t) ∧ Keeps s₂ s₃) E' s₂ := by
  k_steps
  all_goals first
    | exact ⟨⟨_, rfl⟩, _, _, rfl, fun _ _ e => e⟩
    | exact ⟨_, _, rfl, fun _ _ e => e⟩
    | exact ⟨_, _, rfl, fun _ _ e => Heap.get?_push_of_some _ e⟩
    | exact ⟨_, congrFun (congrArg Value.str (by decide)) _⟩
theorem elt_str {w : World} {pp : Program} {lo : List Str} {A' : Around} {E' : Value → Shared → Prop} {s₂ : Shared} {g : Heap} {C' : Addr} {m₂ : Str → Option Value} {code : Value} {t1 t2 : Tok} {mean : ExcName → Option Value} {mg mb : Str → Option Value} {L : Addr}
    (X : (hd.heap_39 w.params).In g) (T : Top pp lo mean mg mb g) (hh : A'.handled = none) (F : Fr g C' s₂.heap m₂) (ha : m₂ "fws" = some (.str "" t1)) (hb : m₂ "part" = some (.str ";" t2)) :
    wpAny (model PySem.Challenge.rw_pg0222_01.row.prog w) A' (eval ((((Expr.Name (Str.ofString "EMPTYSTRING") { line := 137, col := 33, endLine := 137, endCol := 44 })).Attribute (Str.ofString "join") { line := 137, col := 33, endLine := 137, endCol := 49 }).Call [Expr.Tuple [(Expr.Name (Str.ofString "fws") { line := 137, col := 51, endLine := 137, endCol := 54 }), (Expr.Name (Str.ofString "part") { line := 137, col := 56, endLine := 137, endCol := 60 })] 0 { line := 137, col := 50, endLine := 137, endCol := 61 }] [] { line := 137, col := 33, endLine := 137, endCol := 62 }) (genEnv { kind := ScopeKind.function, names := [(Str.ofString ".0", NameKind.local), (Str.ofString "fws", NameKind.local), (Str.ofString "part", NameKind.local), (Str.ofString "EMPTYSTRING", NameKind.globalImplicit)], isGenerator := true, isCoroutine := false } [] C' code builtinsNs (envOf (Str.ofString "_Accumulator.__str__") { kind := ScopeKind.function, names := [(Str.ofString "self", NameKind.local), (Str.ofString "EMPTYSTRING", NameKind.globalImplicit)], isGenerator := false, isCoroutine := false } L 166 (Value.ref 165)))) (fun y s₃ => (∃ t, y = .str ";" t) ∧ Keeps s₂ s₃) E' s₂ := by
  k_steps
  refine wpAny_newTuple ?_
  k_steps
  refine join_tupleW (ys := ["", ";"]) ⟨_, Heap.get?_push_size _ rfl, rfl, _, rfl⟩ (.cons _ _ (.cons _ _ .nil)) (by decide) (by decide) fun t' k => ?_
  k_steps
  all_goals first
    | exact ⟨⟨_, congrFun (congrArg Value.str (by decide)) _⟩, _, _, rfl, fun _ _ e => Heap.get?_push_of_some _ e⟩
    | exact ⟨_, _, rfl, fun _ _ e => e⟩
    | exact ⟨_, _, rfl, fun _ _ e => Heap.get?_push_of_some _ e⟩
    | exact ⟨_, congrFun (congrArg Value.str (by decide)) _⟩
end
section
set_option maxHeartbeats 4000000
set_option linter.unusedVariables false

theorem fill4 (w : World) (h : Heap) : (hd.heap_39 w.params).In h → PySem.Challenge.rw_pg0222_01 = PySem.Challenge.rw_pg0222_01 := by
  k_fill
  intro _; rfl

theorem updF_keep {d : Addr} {o o' : Obj} {l : List (Addr × Obj)} {f : Obj → List (Addr × Obj)} (U : UpdF d o l f) {p : Addr × Obj} (hp : p ∈ l) (hne : p.2 ≠ o) : p ∈ f o' := by
  obtain ⟨pre, post, rfl, hf, ha, hb⟩ := U.split
  rw [hf]
  rcases List.mem_append.mp hp with hp | hp
  · exact List.mem_append_left _ hp
  · rcases List.mem_cons.mp hp with rfl | hp
    · exact absurd rfl hne
    · exact List.mem_append_right _ (.tail _ hp)
theorem semi_fun {its : List Value} {NN : List (Addr × Obj)} (h : SemiIts its NN) : ∃ (Ts : Nat → Addr) (t1 t2 : Nat → Tok), ∀ j, j < its.length → its[j]? = some (.ref (Ts j)) ∧ ((Ts j, ({ cls := .type "tuple", data := .seq #[.str "" (t1 j), .str ";" (t2 j)] } : Obj)) ∈ NN) := by
  have q : ∀ j : Nat, ∃ t : Addr × Tok × Tok, j < its.length → its[j]? = some (.ref t.1) ∧ ((t.1, ({ cls := .type "tuple", data := .seq #[.str "" t.2.1, .str ";" t.2.2] } : Obj)) ∈ NN) := by
    intro j
    by_cases hj : j < its.length
    · obtain ⟨t, t1, t2, e, hm⟩ := h _ (List.getElem_mem hj)
      exact ⟨(t, t1, t2), fun _ => ⟨by rw [List.getElem?_eq_getElem hj, e], hm⟩⟩
    · exact ⟨(0, 0, 0), fun h => absurd h hj⟩
  exact ⟨fun j => (q j).choose.1, fun j => (q j).choose.2.1, fun j => (q j).choose.2.2, fun j => (q j).choose_spec⟩
theorem code_len {w : World} {g : Heap} (X : (hd.heap_39 w.params).In g) : CodeOf g 158 154 :=
  ⟨⟨_, _, _, _, _, _, _, _, _, X 158 _ rfl, rfl, rfl, rfl, rfl, rfl, rfl, rfl, rfl⟩, by decide⟩
theorem code_str {w : World} {g : Heap} (X : (hd.heap_39 w.params).In g) : CodeOf g 165 161 :=
  ⟨⟨_, _, _, _, _, _, _, _, _, X 165 _ rfl, rfl, rfl, rfl, rfl, rfl, rfl, rfl, rfl⟩, by decide⟩
theorem foldl_semis (k : Nat) : ∀ acc : Array Nat, ((List.range k).map fun _ => (";" : Str)).foldl (fun acc p => acc ++ ("" : Str).cps ++ p.cps) acc = acc ++ (List.replicate k 59).toArray := by
  have e : ∀ l : List Nat, ∀ acc : Array Nat, (l.map fun _ => (";" : Str)).foldl (fun acc p => acc ++ ("" : Str).cps ++ p.cps) acc = acc ++ (List.replicate l.length 59).toArray := by
    intro l
    induction l with
    | nil => intro acc; simp
    | cons a l ih =>
      intro acc
      show (l.map fun _ => (";" : Str)).foldl (fun acc p => acc ++ ("" : Str).cps ++ p.cps) (acc ++ ("" : Str).cps ++ (";" : Str).cps) = _
      rw [ih]
      have h1 : ("" : Str).cps = #[] := by decide
      have h2 : (";" : Str).cps = #[59] := by decide
      rw [h1, h2, List.length_cons, List.replicate_succ]
      exact Array.toList_inj.mp (by simp)
  intro acc
  rw [e, List.length_range]
theorem semis_join (k : Nat) : Txt.join "" ((List.range k).map fun _ => (";" : Str)) = semis k := by
  cases k with
  | zero => rfl
  | succ k =>
    have e : ((List.range (k + 1)).map fun _ => (";" : Str)) = (";" : Str) :: ((List.range k).map fun _ => (";" : Str)) := by
      rw [List.range_succ_eq_map]; simp
    rw [e]
    show Builtin.Str.glued "" ((";" : Str) :: ((List.range k).map fun _ => (";" : Str))) = _
    unfold Builtin.Str.glued semis
    have h := foldl_semis k (";" : Str).cps
    simp only [List.drop_succ_cons, List.drop_zero, List.headD_cons]
    rw [h]
    have h2 : (";" : Str).cps = #[59] := by decide
    rw [h2, List.replicate_succ]
    exact congrArg Str.mk (Array.toList_inj.mp (by simp))
theorem sum_ones {α : Type} (l : List α) : (l.map fun _ => 1).sum = l.length := by
  induction l with
  | nil => rfl
  | cons a l ih => rw [List.map_cons, List.sum_cons, ih, List.length_cons]; omega
theorem gen_toks {prog : Program} {w : World} {A : Around} {KB a : Addr} {n : Nat} {Fv : Nat → Value → Prop} {h : Heap} {g : Array GenState} {d : Drawn} {k k' : Nat} {o : OsState} (X : Gen prog w A KB a n Fv ⟨h, g, d, k, o⟩) (hk : k ≤ k') : Gen prog w A KB a n Fv ⟨h, g, d, k', o⟩ := by
  obtain ⟨fp, wr, gg, St, W, hst, hT, ha, hfp, hwr⟩ := X
  exact ⟨fp, wr, gg, St, W, W.frame 0 _ h k' hst hk (fun _ _ _ e => e), hT, ha, hfp, hwr⟩

theorem len_spec {w : World} {pp : Program} {lo : List Str} {x dx : Addr} {its : List Value} {n : Nat} {tk tv : Tok} {NN : List (Addr × Obj)} {ps : Array Value} {f : Obj → List (Addr × Obj)} {mean : ExcName → Option Value} {mg mb : Str → Option Value}
    {dp un : Nat} {gd : Option (List Code)} {cn : Str} {cs : Scope} {a : Addr} {ccd : Value} {cl : List (Str × Addr)} {outer : List Env} {A₀ : Around} {base h₀ : Heap} {L : Addr} {m : Str → Option Value} {s : Shared} {Q E : Value → Shared → Prop}
    (B : Below A₀ base outer h₀) (F : Fr h₀ L s.heap m) (X : (hd.heap_39 w.params).In h₀) (N : News h₀ L s.heap NN) (T : Top pp lo mean mg mb h₀) (hk : cs.kind = .function)
    (G : AllBare s.gens) (U : UpdF 154 (tableObj ps) NN f) (hp : Tab1 ps) (hx : (x, accOf 192 dx its n) ∈ NN) (hdx : (dx, dictOf [⟨PyData.keyHash w.params "_initial_size", .str "_initial_size" tk, .int 0 tv⟩] 1) ∈ NN) (hs : SemiIts its NN) (hl : its.length ≤ 100) (hD : dp + 40 < recursionLimit) (hU : un + 400 < cLine)
    (ret : ∀ (t : Tok) (ps' : Array Value) (g' : Array GenState) (h' : Heap) (tk' : Nat), AllBare g' → Fr h₀ L h' m → News h₀ L h' (f (tableObj ps')) → Tab1 ps' → Q (.int its.length t) ⟨h', g', s.drawn, tk', s.os⟩) :
    wpAny (model PySem.Challenge.rw_pg0222_01.row.prog w) (PySem.W.ktrTop dp un gd cn cs L a ccd cl outer) (call (.ref 159) [.ref x]) Q E s := by
  refine wpAny_call ?_
  k_dflt (refine' code_def ?k1 ?k2 ?k3 ?k4 ?k5 ?kA ?kF ?kK ?k6 ?k7 ?k8 ?k9 ?kB ?_ ?c2 ?c3 ?c4 ?c5; (case kA => exact rfl); (case kF => exact rfl); (case kK => assumption); (case k1 => k_asm); (case k2 => k_asm); (case k3 => k_asm); (case k4 => k_asm); (case k5 => k_asm); (case k6 => k_is); (case k7 => k_is); (case k8 => ktr_room); (case k9 => first | exact BindsTo.of_eq rfl | exact binds_K (by k_in) rfl (by k_is) rfl rfl rfl); (case c5 => decide); (case kB => exact locs rfl); (case c2 => exact rfl); (case c3 => exact rfl); (case c4 => exact rfl); intro g' L' h' FG' F' N' B' X' T'; (try dsimp only); (try k_lift B'); (try k_fold))
  k_steps
  obtain ⟨Ts, t1, t2, hits⟩ := semi_fun hs
  obtain ⟨bm, ob, M⟩ := bmod_of_top T'
  k_dflt (refine' accGenexp (c := 158) (P := 154) (C := 192) Ts (fun j => .str "" (t1 j)) (fun j => .str ";" (t2 j)) (fun _ v => ∃ t, v = .int 1 t) F' N' G X' (code_len X') M T'.nolimit U hp hx ?kI ?kf ?km hits ?kit ?khh ?kcode ?kco ?kcl ?kcell ?k0 ?kxa ?kxb ?kab ?kkind ?kroom ?kelt ?kgf ?_; (case kI => k_inst); (case kf => k_is); (case km => k_is); (case khh => exact rfl); (case kcode => exact rfl); (case kco => exact rfl); (case kcl => exact rfl); (case kcell => decide); (case k0 => exact rfl); (case kxa => exact rfl); (case kxb => exact rfl); (case kab => decide); (case kkind => exact rfl); (case kroom => ktr_room); (case kgf => intro _; rfl))
  case kit =>
    intro R hR
    k_steps
    all_goals exact hR
  case kelt =>
    intro A' E' i s₂ m₂ C' code hi hh F2 ha hb
    exact elt_len X' T' hh F2 ha hb
  intro a' KB ps' s' ht' F2 N2 G2 os2 dr2 hN hL XG
  have hx2 : (x, accOf 192 dx its n) ∈ f (tabObj ps') := updF_keep U hx (by intro e; cases congrArg Obj.cls e)
  have hdx2 := updF_keep (o' := tabObj ps') U hdx (by intro e; cases congrArg Obj.cls e)
  have N2' : ∀ p ∈ f (tabObj ps'), p.1 ≤ KB := fun p hp => by
    rcases updF_mem U _ p hp with rfl | ⟨hp, _⟩
    · have q := hN _ (updF_in U); exact q
    · exact hN p hp
  obtain ⟨h5, g5, d5, k5, o5⟩ := s'
  dsimp only at F2 N2 G2 os2 dr2
  subst os2; subst dr2
  k_steps
  refine sum_acc (by assumption) (by assumption) (by assumption) (gen_toks XG (by first | exact Nat.le_refl _ | exact Nat.le_succ _)) hL N2' (fun _ _ h => h) ?_
  intro s' t' F3 N3 G3 os3 dr3
  obtain ⟨h6, g6, d6, k6, o6⟩ := s'
  dsimp only at F3 N3 G3 os3 dr3
  subst os3; subst dr3
  k_steps
  all_goals exact ret _ _ _ _ _ (by assumption) (by assumption) (by assumption) (by assumption)

theorem str_spec {w : World} {pp : Program} {lo : List Str} {x dx : Addr} {its : List Value} {n : Nat} {tk tv : Tok} {NN : List (Addr × Obj)} {ps : Array Value} {f : Obj → List (Addr × Obj)} {mean : ExcName → Option Value} {mg mb : Str → Option Value}
    {dp un : Nat} {gd : Option (List Code)} {cn : Str} {cs : Scope} {a : Addr} {ccd : Value} {cl : List (Str × Addr)} {outer : List Env} {A₀ : Around} {base h₀ : Heap} {L : Addr} {m : Str → Option Value} {s : Shared} {Q E : Value → Shared → Prop}
    (B : Below A₀ base outer h₀) (F : Fr h₀ L s.heap m) (X : (hd.heap_39 w.params).In h₀) (N : News h₀ L s.heap NN) (T : Top pp lo mean mg mb h₀) (hk : cs.kind = .function)
    (G : AllBare s.gens) (U : UpdF 161 (tableObj ps) NN f) (hp : Tab2 ps) (hx : (x, accOf 192 dx its n) ∈ NN) (hdx : (dx, dictOf [⟨PyData.keyHash w.params "_initial_size", .str "_initial_size" tk, .int 0 tv⟩] 1) ∈ NN) (hs : SemiIts its NN) (hl : its.length ≤ 100) (hD : dp + 40 < recursionLimit) (hU : un + 400 < cLine)
    (ret : ∀ (t : Tok) (ps' : Array Value) (g' : Array GenState) (h' : Heap) (tk' : Nat), AllBare g' → Fr h₀ L h' m → News h₀ L h' (f (tableObj ps')) → Tab2 ps' → Q (.str (semis its.length) t) ⟨h', g', s.drawn, tk', s.os⟩) :
    wpAny (model PySem.Challenge.rw_pg0222_01.row.prog w) (PySem.W.ktrTop dp un gd cn cs L a ccd cl outer) (call (.ref 166) [.ref x]) Q E s := by
  refine wpAny_call ?_
  k_dflt (refine' code_def ?k1 ?k2 ?k3 ?k4 ?k5 ?kA ?kF ?kK ?k6 ?k7 ?k8 ?k9 ?kB ?_ ?c2 ?c3 ?c4 ?c5; (case kA => exact rfl); (case kF => exact rfl); (case kK => assumption); (case k1 => k_asm); (case k2 => k_asm); (case k3 => k_asm); (case k4 => k_asm); (case k5 => k_asm); (case k6 => k_is); (case k7 => k_is); (case k8 => ktr_room); (case k9 => first | exact BindsTo.of_eq rfl | exact binds_K (by k_in) rfl (by k_is) rfl rfl rfl); (case c5 => decide); (case kB => exact locs rfl); (case c2 => exact rfl); (case c3 => exact rfl); (case c4 => exact rfl); intro g' L' h' FG' F' N' B' X' T'; (try dsimp only); (try k_lift B'); (try k_fold))
  k_steps
  obtain ⟨Ts, t1, t2, hits⟩ := semi_fun hs
  obtain ⟨bm, ob, M⟩ := bmod_of_top T'
  k_dflt (refine' accGenexp (c := 165) (P := 161) (C := 192) Ts (fun j => .str "" (t1 j)) (fun j => .str ";" (t2 j)) (fun _ v => ∃ t, v = .str ";" t) F' N' G X' (code_str X') M T'.nolimit U hp hx ?kI ?kf ?km hits ?kit ?khh ?kcode ?kco ?kcl ?kcell ?k0 ?kxa ?kxb ?kab ?kkind ?kroom ?kelt ?kgf ?_; (case kI => k_inst); (case kf => k_is); (case km => k_is); (case khh => exact rfl); (case kcode => exact rfl); (case kco => exact rfl); (case kcl => exact rfl); (case kcell => decide); (case k0 => exact rfl); (case kxa => exact rfl); (case kxb => exact rfl); (case kab => decide); (case kkind => exact rfl); (case kroom => ktr_room); (case kgf => intro _; rfl))
  case kit =>
    intro R hR
    k_steps
    all_goals exact hR
  case kelt =>
    intro A' E' i s₂ m₂ C' code hi hh F2 ha hb
    exact elt_str X' T' hh F2 ha hb
  intro a' KB ps' s' ht' F2 N2 G2 os2 dr2 hN hL XG
  have hx2 : (x, accOf 192 dx its n) ∈ f (tabObj ps') := updF_keep U hx (by intro e; cases congrArg Obj.cls e)
  have hdx2 := updF_keep (o' := tabObj ps') U hdx (by intro e; cases congrArg Obj.cls e)
  have N2' : ∀ p ∈ f (tabObj ps'), p.1 ≤ KB := fun p hp => by
    rcases updF_mem U _ p hp with rfl | ⟨hp, _⟩
    · have q := hN _ (updF_in U); exact q
    · exact hN p hp
  obtain ⟨h5, g5, d5, k5, o5⟩ := s'
  dsimp only at F2 N2 G2 os2 dr2
  subst os2; subst dr2
  k_steps
  refine join_acc (by assumption) (by assumption) (by assumption) (gen_toks XG (by first | exact Nat.le_refl _ | exact Nat.le_succ _)) hL N2' (fun _ => ";") (fun _ _ h => h) (joinOk_of_weight ?_ (by decide)) ?_ ?_
  · simp only [List.map_map, List.length_map, List.length_range]
    rw [show ((fun y : Str => y.length) ∘ fun _ : Nat => (";" : Str)) = fun _ => 1 from funext fun _ => (by decide : (";" : Str).length = 1), sum_ones, List.length_range]
    omega
  · have := hl; rw [sizeLine_eq]; omega
  intro s' t' F3 N3 G3 os3 dr3
  obtain ⟨h6, g6, d6, k6, o6⟩ := s'
  dsimp only at F3 N3 G3 os3 dr3
  subst os3; subst dr3
  rw [semis_join]
  k_steps
  all_goals exact ret _ _ _ _ _ (by assumption) (by assumption) (by assumption) (by assumption)
end
section
set_option maxHeartbeats 4000000
set_option linter.unusedVariables false

theorem fill5 (w : World) (h : Heap) : (hd.heap_39 w.params).In h → PySem.Challenge.rw_pg0222_01 = PySem.Challenge.rw_pg0222_01 := by
  k_fill
  intro _; rfl
local macro_rules | `(tactic| walk_at "call type:str") => `(tactic| (k_here; (with_reducible show wpAny _ _ (call (Value.type "str") [Value.ref _]) _ _ _); k_dflt (refine' kso_call (by ktr_units) (by k_in) (by k_inst) (by k_is) (by k_is) ?_; k_whole)))
local macro_rules | `(tactic| walk_at "truthy ref") => `(tactic| (k_here; k_dflt (refine' acc_truthy (by k_asm) (by k_asm) (by k_inst) (by k_is) (by k_is) (by k_is) ?_; k_whole)))
local macro_rules | `(tactic| walk_at "call ref") => `(tactic| (k_here; k_dflt (refine' len_spec (x := _) (by k_asm) (by k_asm) (by k_asm) (by k_asm) (by k_asm) (by walk_at "my_kind") (by first | assumption) (by first | assumption | k_updF) (by first | assumption) (by k_mem) (by k_mem) (by assumption) (by walk_at "my_len") (by ktr_room) (by ktr_units) ?_; k_whole)))
local macro_rules | `(tactic| walk_at "call ref") => `(tactic| (k_here; k_dflt (refine' str_spec (x := _) (by k_asm) (by k_asm) (by k_asm) (by k_asm) (by k_asm) (by walk_at "my_kind") (by first | assumption) (by first | assumption | exact U2 _ | k_updF) (by first | assumption) (by k_mem) (by k_mem) (by assumption) (by walk_at "my_len") (by ktr_room) (by ktr_units) ?_; k_whole)))

theorem semis_isspace (k : Nat) : Txt.isspace (semis k) = false := by
  cases k with
  | zero => rfl
  | succ k =>
    unfold semis
    rw [List.replicate_succ]
    show (decide _ && Array.all _ Unicode.isSpace) = false
    rw [show (Array.all (59 :: List.replicate k 59).toArray Unicode.isSpace) = false from by
      rw [List.all_toArray, List.all_cons, show Unicode.isSpace 59 = false from by decide +kernel, Bool.false_and], Bool.and_false]

theorem onlyws_spec {w : World} {pp : Program} {lo : List Str} {x dx : Addr} {its : List Value} {n : Nat} {tk tv : Tok} {NN : List (Addr × Obj)} {ps ps2 : Array Value} {f : Obj → List (Addr × Obj)} {g : Obj → Obj → List (Addr × Obj)} {mean : ExcName → Option Value} {mg mb : Str → Option Value}
    {dp un : Nat} {gd : Option (List Code)} {cn : Str} {cs : Scope} {a : Addr} {ccd : Value} {cl : List (Str × Addr)} {outer : List Env} {A₀ : Around} {base h₀ : Heap} {L : Addr} {m : Str → Option Value} {s : Shared} {Q E : Value → Shared → Prop}
    (B : Below A₀ base outer h₀) (F : Fr h₀ L s.heap m) (X : (hd.heap_39 w.params).In h₀) (N : News h₀ L s.heap NN) (T : Top pp lo mean mg mb h₀) (hk : cs.kind = .function)
    (G : AllBare s.gens) (U : UpdF 154 (tableObj ps) NN f) (U2 : ∀ o, UpdF 161 (tableObj ps2) (f o) (g o)) (hp : Tab1 ps) (hp2 : Tab2 ps2) (hx : (x, accOf 192 dx its n) ∈ NN) (hdx : (dx, dictOf [⟨PyData.keyHash w.params "_initial_size", .str "_initial_size" tk, .int 0 tv⟩] 1) ∈ NN) (hs : SemiIts its NN) (hl : its.length ≤ 100) (h0 : 0 < its.length) (hD : dp + 60 < recursionLimit) (hU : un + 600 < cLine)
    (ret : ∀ (t : Tok) (ps' ps2' : Array Value) (g' : Array GenState) (h' : Heap) (tk' : Nat), AllBare g' → Fr h₀ L h' m → News h₀ L h' (g (tableObj ps') (tableObj ps2')) → Tab1 ps' → Tab2 ps2' → Q (.bool false) ⟨h', g', s.drawn, tk', s.os⟩) :
    wpAny (model PySem.Challenge.rw_pg0222_01.row.prog w) (PySem.W.ktrTop dp un gd cn cs L a ccd cl outer) (call (.ref 181) [.ref x]) Q E s := by
  refine wpAny_call ?_
  k_dflt (refine' code_def ?k1 ?k2 ?k3 ?k4 ?k5 ?kA ?kF ?kK ?k6 ?k7 ?k8 ?k9 ?kB ?_ ?c2 ?c3 ?c4 ?c5; (case kA => exact rfl); (case kF => exact rfl); (case kK => assumption); (case k1 => k_asm); (case k2 => k_asm); (case k3 => k_asm); (case k4 => k_asm); (case k5 => k_asm); (case k6 => k_is); (case k7 => k_is); (case k8 => ktr_room); (case k9 => first | exact BindsTo.of_eq rfl | exact binds_K (by k_in) rfl (by k_is) rfl rfl rfl); (case c5 => decide); (case kB => exact locs rfl); (case c2 => exact rfl); (case c3 => exact rfl); (case c4 => exact rfl); intro g' L' h' FG' F' N' B' X' T'; (try dsimp only); (try k_lift B'); (try k_fold))
  k_steps
  rename_i t1 ps' g1 h1 tk1 G1 F1 N1 hp1
  have hx1 : (x, accOf 192 dx its n) ∈ f (tableObj ps') := updF_keep U hx (by intro e; cases congrArg Obj.cls e)
  have hdx1 := updF_keep (o' := tableObj ps') U hdx (by intro e; cases congrArg Obj.cls e)
  have hs1 : SemiIts its (f (tableObj ps')) := fun v hv => by
    obtain ⟨t, u1, u2, e, hm⟩ := hs v hv
    exact ⟨t, u1, u2, e, updF_keep U hm (by intro e; cases congrArg Obj.cls e)⟩
  have U21 := U2 (tableObj ps')
  dsimp only [LenNZ]
  refine ⟨⟨by omega, by omega⟩, ?_⟩
  rw [show ((its.length : Int) != 0) = true from bne_iff_ne.mpr (by omega)]
  k_steps
  dsimp only [StrBack]
  k_steps
  all_goals (rw [semis_isspace]; exact ret 0 _ _ _ _ _ (by assumption) (by assumption) (by assumption) (by assumption) (by assumption))
end
section
set_option maxHeartbeats 4000000
set_option linter.unusedVariables false

theorem fill10 (w : World) (h : Heap) : (hd.heap_39 w.params).In h → PySem.Challenge.rw_pg0222_01 = PySem.Challenge.rw_pg0222_01 := by
  k_fill
  intro _; rfl

theorem accnew_spec {w : World} {pp : Program} {lo : List Str} {tz : Tok} {NN : List (Addr × Obj)} {mean : ExcName → Option Value} {mg mb : Str → Option Value}
    {dp un : Nat} {gd : Option (List Code)} {cn : Str} {cs : Scope} {a : Addr} {ccd : Value} {cl : List (Str × Addr)} {outer : List Env} {A₀ : Around} {base h₀ : Heap} {L : Addr} {m : Str → Option Value} {s : Shared} {Q E : Value → Shared → Prop}
    (B : Below A₀ base outer h₀) (F : Fr h₀ L s.heap m) (X : (hd.heap_39 w.params).In h₀) (N : News h₀ L s.heap NN) (T : Top pp lo mean mg mb h₀) (hk : cs.kind = .function)
     (hD : dp + 40 < recursionLimit) (hU : un + 400 < cLine)
    (ret : ∀ (x dx : Addr) (n : Nat) (tk tv : Tok) (h' : Heap) (tk' : Nat), Fr h₀ L h' m → News h₀ L h' ((x, accOf 192 dx [] n) :: (dx, dictOf [⟨PyData.keyHash w.params "_initial_size", .str "_initial_size" tk, .int 0 tv⟩] 1) :: NN) → (∀ p ∈ NN, p.1 < dx) → @LT.lt Nat _ dx x → Q (.ref x) { s with heap := h', toks := tk' }) :
    wpAny (model PySem.Challenge.rw_pg0222_01.row.prog w) (PySem.W.ktrTop dp un gd cn cs L a ccd cl outer) (call (.ref 192) [.int 0 tz]) Q E s := by
  refine accMake (C := 192) (fI := 129) F X N (by kernel_rfl) (by k_is) (by k_is) ?_
  intro x dx h' F N lq1 lq2
  have hn1 : ∀ p ∈ NN, p.1 ≠ dx := fun p hp => Nat.ne_of_lt (lq1 p hp)
  have hn2 : ∀ p ∈ NN, p.1 ≠ x := fun p hp => Nat.ne_of_lt (Nat.lt_trans (lq1 p hp) lq2)
  have hne : @Ne Nat x dx := Nat.ne_of_gt lq2
  k_dflt (refine' ks_code_super ?k1 ?k2 ?k3 ?k4 ?k5 ?kA ?kF ?kK ?k6 ?k7 ?k8 ?k9 ?kB ?_ ?c1 ?c2 ?c3 ?c4; (case kA => exact rfl); (case kF => exact rfl); (case kK => assumption); (case k1 => k_asm); (case k2 => k_asm); (case k3 => k_asm); (case k4 => k_asm); (case k5 => k_asm); (case k6 => k_is); (case k7 => k_is); (case k8 => ktr_room); (case k9 => first | exact BindsTo.of_eq rfl | exact binds_K (by k_in) rfl (by k_is) rfl rfl rfl); (case kB => exact locs rfl); (case c1 => decide); (case c2 => exact rfl); (case c3 => exact rfl); (case c4 => exact rfl); intro g' L' h' FG' F' N' B' X' T' l1; (try k_lt l1); (try dsimp only); (try k_lift B'))
  refine ks_wpAt_execs_cons (wpAt_of_wpAny ?_)
  walk1
  walk1
  walk1
  walk1
  dsimp only
  refine ks_wpAt_execs_cons ?_
  refine ks_wpAt_Expr_any ?_
  refine ks_wpAt_MethodCall ?_
  k_steps
  all_goals (rename News _ _ _ _ => N9; first | exact ret _ _ _ _ _ _ _ (by assumption) (fun p hp => N9 p (.tail _ (.tail _ hp))) lq1 lq2 | exact ret _ _ _ _ _ _ _ (by assumption) (fun p hp => N9 p (.tail _ hp)) lq1 lq2 | exact ret _ _ _ _ _ _ _ (by assumption) N9 lq1 lq2)
end
end Mine
end
section
open PySem PySem.W PySem.W.X PyProof.Rows
set_option maxRecDepth 100000
set_option maxHeartbeats 4000000
set_option linter.unusedVariables false
namespace Mine
local macro_rules | `(tactic| walk_at "my_six") => `(tactic| ((case k1 => k_asm); (case k2 => k_asm); (case k3 => k_asm); (case k4 => k_asm); (case k5 => k_asm); (case k6 => first | exact rfl | assumption)))
local macro_rules | `(tactic| walk_at "my_sixn") => `(tactic| ((case k1 => k_asm); (case k2 => k_asm); (case k3 => k_asm); (case kN => k_asm); (case k5 => k_asm); (case k6 => first | exact rfl | assumption)))
local macro_rules | `(tactic| walk_at "my_end") => `(tactic| ((case hD => ktr_room); (case hU => ktr_units); k_whole))
local macro_rules | `(tactic| walk_at "my_len") => `(tactic| (first | assumption | (simp only [List.length_append, List.length_cons, List.length_nil] at *; omega)))
local macro_rules | `(tactic| walk_at "my_len9") => `(tactic| ((simp only [List.length_append, List.length_cons, List.length_nil] at *; omega)))
local macro_rules | `(tactic| walk_at "my_kind") => `(tactic| (first | exact rfl | assumption))
set_option maxHeartbeats 4000000
set_option linter.unusedVariables false

theorem fill6 (w : World) (h : Heap) : (hd.heap_39 w.params).In h → PySem.Challenge.rw_pg0222_01 = PySem.Challenge.rw_pg0222_01 := by
  k_fill
  intro _; rfl

/-- the ledger of a _ValueFormatter -/
def vf7 (w : World) (fa fd ln x dx : Addr) (wd : Int) (k1 k2 k3 k4 k5 k6 t1 t2 t3 t4 tk : Tok) (its lines : List Value) (n nl : Nat) (tv : Tok) (ps ps2 : Array Value) : List (Addr × Obj) :=
  [(fa, instObj 108 fd), (fd, dictOf [⟨PyData.keyHash w.params "_maxlen", .str "_maxlen" k1, .int wd t1⟩, ⟨PyData.keyHash w.params "_continuation_ws", .str "_continuation_ws" k2, .str "" t2⟩, ⟨PyData.keyHash w.params "_continuation_ws_len", .str "_continuation_ws_len" k3, .int 0 t3⟩, ⟨PyData.keyHash w.params "_splitchars", .str "_splitchars" k4, .str ";" t4⟩, ⟨PyData.keyHash w.params "_lines", .str "_lines" k5, .ref ln⟩, ⟨PyData.keyHash w.params "_current_line", .str "_current_line" k6, .ref x⟩] 6), (ln, listOf lines.toArray nl), (x, accOf 192 dx its n), (dx, dictOf [⟨PyData.keyHash w.params "_initial_size", .str "_initial_size" tk, .int 0 tv⟩] 1), (154, tableObj ps), (161, tableObj ps2)]
theorem news_perm {h₀ h : Heap} {L : Addr} (A new rest : List (Addr × Obj)) (N : News h₀ L h (new ++ (A ++ rest))) : News h₀ L h (A ++ (new ++ rest)) := fun p hp => N p (by
  simp only [List.mem_append] at hp ⊢
  rcases hp with h | h | h <;> simp [h])
/-- the addresses of the ledger, in the order in which they were made -/
structure VF7 (fa fd ln x dx : Addr) (rest : List (Addr × Obj)) : Prop where
  o1 : @LT.lt Nat _ 161 fd
  o2 : @LT.lt Nat _ fd fa
  o3 : @LT.lt Nat _ fa ln
  o4 : @LT.lt Nat _ ln dx
  o5 : @LT.lt Nat _ dx x
  r0 : ∀ p ∈ rest, p.1 ≠ fa
  r1 : ∀ p ∈ rest, p.1 ≠ fd
  r2 : ∀ p ∈ rest, p.1 ≠ ln
  r3 : ∀ p ∈ rest, p.1 ≠ x
  r4 : ∀ p ∈ rest, p.1 ≠ dx
  r5 : ∀ p ∈ rest, p.1 ≠ 154
  r6 : ∀ p ∈ rest, p.1 ≠ 161

theorem SemiIts.snoc {its : List Value} {t : Addr} {t1 t2 : Tok} {NN : List (Addr × Obj)} (h : SemiIts its NN) (hm : (t, tup2 (.str "" t1) (.str ";" t2)) ∈ NN) : SemiIts (its ++ [.ref t]) NN := by
  intro v hv
  rcases List.mem_append.mp hv with hv | hv
  · exact h v hv
  · exact ⟨t, t1, t2, List.mem_singleton.mp hv, hm⟩
theorem SemiIts.mono {its : List Value} {NN NN' : List (Addr × Obj)} (h : SemiIts its NN) (hm : ∀ p ∈ NN, p ∈ NN') : SemiIts its NN' := by
  intro v hv
  obtain ⟨t, t1, t2, e, hm'⟩ := h v hv
  exact ⟨t, t1, t2, e, hm _ hm'⟩

theorem item_mid (ia : List Value) (v u : Value) : (ia ++ [v] ++ [u])[(((ia ++ [v] ++ [u]).length : Int) - 1 - 1).toNat]? = some v := by
  have e : (((ia ++ [v] ++ [u]).length : Int) - 1 - 1).toNat = ia.length := by
    simp only [List.length_append, List.length_cons, List.length_nil]; omega
  rw [e, List.append_assoc, List.getElem?_append_right (Nat.le_refl _), Nat.sub_self]
  rfl
local macro_rules | `(tactic| walk_at "call type:str") => `(tactic| (k_here; (with_reducible show wpAny _ _ (call (Value.type "str") [Value.ref _]) _ _ _); k_dflt (refine' kso_call (by ktr_units) (by k_in) (by k_inst) (by k_is) (by k_is) ?_; k_whole)))
local macro_rules | `(tactic| walk_at "truthy ref") => `(tactic| (k_here; k_dflt (refine' acc_truthy (by k_asm) (by k_asm) (by k_inst) (by k_is) (by k_is) (by k_is) ?_; k_whole)))
local macro_rules | `(tactic| k_mem) => `(tactic| assumption)
local macro_rules | `(tactic| k_inst) => `(tactic| (refine' accInst (by k_asm) (by k_mem) (by k_mem)))
local macro_rules | `(tactic| k_all) => `(tactic| assumption)
local macro_rules | `(tactic| walk_at "getMethod ref") => `(tactic| (k_here; k_dflt (first
  | (refine' accMeth (by k_asm) (by k_asm) (by k_inst) (by k_is) (by k_is) (by k_is) (by k_is) (by k_get) ?_; k_whole)
  | (refine' accMethBi (by k_asm) (by k_asm) (by k_inst) (by k_is) (by k_is) (by k_is) (by k_is) (by k_get) ?_; k_whole))))
local macro_rules | `(tactic| walk_at "getAttr ref") => `(tactic| (k_here; k_dflt (refine' accGet (by k_asm) (by k_asm) (by k_inst) (by k_is) (by k_is) (by k_is) (by k_is) (by k_is) (by k_is) (by k_get) (by k_handed) ?_; k_whole)))
local macro_rules | `(tactic| walk_at "call builtin:list.append") => `(tactic| (k_here; k_dflt (refine' accAppend (C := 192) (by k_asm) (by k_asm) (by k_asm) (by k_is) (by k_upd) ?_ (by first | assumption | omega); k_whole); intro h' F' N'; (try k_sweep)))
local macro_rules | `(tactic| walk_at "call ref") => `(tactic| (k_here; k_dflt (refine' push_spec (by k_asm) (by k_asm) (by k_asm) (by k_asm) (by k_asm) (by walk_at "my_kind") (by k_updF) (by k_mem) (by walk_at "my_len") (by ktr_room) (by ktr_units) ?_; k_whole); intro t' h' tk' F' N' l1; (try dsimp only at N'); (try k_lt l1); (try dsimp only); (try k_sweep)))
local macro_rules | `(tactic| walk_at "call ref") => `(tactic| (k_here; k_dflt (refine' part_spec (by k_asm) (by k_asm) (by k_asm) (by k_asm) (by k_asm) (by walk_at "my_kind") (by k_mem) (by k_mem) (by walk_at "my_len") (by ktr_room) (by ktr_units) ?_; k_whole); intro t' h' tk' F' N'; (try dsimp only at N'); (try dsimp only); (try k_sweep)))
local macro_rules | `(tactic| walk_at "call ref") => `(tactic| (k_here; k_dflt (refine' popfrom_spec (by k_asm) (by k_asm) (by k_asm) (by k_asm) (by k_asm) (by walk_at "my_kind") (by k_updF) (by k_mem) (by walk_at "my_len") (by walk_at "my_len") (by ktr_room) (by ktr_units) ?_; k_whole); intro l' n' nl' h' tk' F' N' l1; (try dsimp only at N'); (try k_lt l1); (try dsimp only); (try k_sweep)))
local macro_rules | `(tactic| walk_at "call ref") => `(tactic| (k_here; k_dflt (refine' reset_spec (by k_asm) (by k_asm) (by k_asm) (by k_asm) (by k_asm) (by walk_at "my_kind") (by k_updF) (by (intro o9; (try dsimp only); k_updF)) (by k_mem) (by k_mem) (by k_ne) (by walk_at "my_len") (by walk_at "my_len") (by ktr_room) (by ktr_units) ?_; k_whole); intro n' tv' h' tk' F' N'; (try dsimp only at N'); (try dsimp only); (try k_sweep)))
local macro_rules | `(tactic| walk_at "call ref") => `(tactic| (k_here; k_dflt (refine' reset0_spec (by k_asm) (by k_asm) (by k_asm) (by k_asm) (by k_asm) (by walk_at "my_kind") (by k_updF) (by (intro o9; (try dsimp only); k_updF)) (by k_mem) (by walk_at "my_len") (by ktr_room) (by ktr_units) ?_; k_whole); intro n' tv' h' tk' F' N'; (try dsimp only at N'); (try dsimp only); (try k_sweep)))
local macro_rules | `(tactic| walk_at "call ref") => `(tactic| (k_here; k_dflt (refine' pop_spec (by k_asm) (by k_asm) (by k_asm) (by k_asm) (by k_asm) (by walk_at "my_kind") (by k_updF) (by k_mem) (by walk_at "my_len") (by ktr_room) (by ktr_units) ?_; k_whole); intro n' h' tk' F' N'; (try dsimp only at N'); (try dsimp only); (try k_sweep)))
local macro_rules | `(tactic| walk_at "call ref") => `(tactic| (k_here; k_dflt (refine' onlyws_spec (by k_asm) (by k_asm) (by k_asm) (by k_asm) (by k_asm) (by walk_at "my_kind") (by first | assumption) (by k_updF) (by (intro o9; (try dsimp only); k_updF)) (by first | assumption) (by first | assumption) (by k_mem) (by k_mem) (by first | assumption | (refine SemiIts.mono (by assumption) ?_; (intro p hp; (repeat (first | exact hp | apply List.mem_cons_of_mem)))) | (refine' SemiIts.snoc (SemiIts.mono (by assumption) ?sa) ?sb; (case sa => (intro p hp; (repeat (first | exact hp | apply List.mem_cons_of_mem)))); (case sb => k_mem)) | (refine' SemiIts.snoc (SemiIts.snoc (SemiIts.mono (by assumption) ?sa) ?sc) ?sb; (case sa => (intro p hp; (repeat (first | exact hp | apply List.mem_cons_of_mem)))); (case sb => k_mem); (case sc => k_mem))) (by walk_at "my_len") (by walk_at "my_len") (by ktr_room) (by ktr_units) ?_; k_whole); intro t' ps' ps2' g' h' tk' G' F' N' hp' hp2'; (try dsimp only at N'); (try dsimp only [W.LenBack, W.StrBack, W.BoolBack]); (try (refine ⟨⟨by (simp only [List.length_append, List.length_cons, List.length_nil]; omega), by (simp only [List.length_append, List.length_cons, List.length_nil]; omega)⟩, ?_⟩)); (try k_sweep)))
local macro_rules | `(tactic| walk_at "call ref") => `(tactic| (k_here; k_dflt (refine' len_spec (by k_asm) (by k_asm) (by k_asm) (by k_asm) (by k_asm) (by walk_at "my_kind") (by first | assumption) (by k_updF) (by first | assumption) (by k_mem) (by k_mem) (by first | assumption | (refine SemiIts.mono (by assumption) ?_; (intro p hp; (repeat (first | exact hp | apply List.mem_cons_of_mem)))) | (refine' SemiIts.snoc (SemiIts.mono (by assumption) ?sa) ?sb; (case sa => (intro p hp; (repeat (first | exact hp | apply List.mem_cons_of_mem)))); (case sb => k_mem)) | (refine' SemiIts.snoc (SemiIts.snoc (SemiIts.mono (by assumption) ?sa) ?sc) ?sb; (case sa => (intro p hp; (repeat (first | exact hp | apply List.mem_cons_of_mem)))); (case sb => k_mem); (case sc => k_mem))) (by walk_at "my_len") (by ktr_room) (by ktr_units) ?_; k_whole); intro t' ps' g' h' tk' G' F' N' hp'; (try dsimp only at N'); (try dsimp only [W.LenBack, W.StrBack, W.BoolBack]); (try (refine ⟨⟨by (simp only [List.length_append, List.length_cons, List.length_nil]; omega), by (simp only [List.length_append, List.length_cons, List.length_nil]; omega)⟩, ?_⟩)); (try k_sweep)))
local macro_rules | `(tactic| walk_at "call ref") => `(tactic| (k_here; k_dflt (refine' str_spec (by k_asm) (by k_asm) (by k_asm) (by k_asm) (by k_asm) (by walk_at "my_kind") (by first | assumption) (by k_updF) (by first | assumption) (by k_mem) (by k_mem) (by first | assumption | (refine SemiIts.mono (by assumption) ?_; (intro p hp; (repeat (first | exact hp | apply List.mem_cons_of_mem)))) | (refine' SemiIts.snoc (SemiIts.mono (by assumption) ?sa) ?sb; (case sa => (intro p hp; (repeat (first | exact hp | apply List.mem_cons_of_mem)))); (case sb => k_mem)) | (refine' SemiIts.snoc (SemiIts.snoc (SemiIts.mono (by assumption) ?sa) ?sc) ?sb; (case sa => (intro p hp; (repeat (first | exact hp | apply List.mem_cons_of_mem)))); (case sb => k_mem); (case sc => k_mem))) (by walk_at "my_len") (by ktr_room) (by ktr_units) ?_; k_whole); intro t' ps' g' h' tk' G' F' N' hp'; (try dsimp only at N'); (try dsimp only [W.LenBack, W.StrBack, W.BoolBack]); (try (refine ⟨⟨by (simp only [List.length_append, List.length_cons, List.length_nil]; omega), by (simp only [List.length_append, List.length_cons, List.length_nil]; omega)⟩, ?_⟩)); (try k_sweep)))

local macro_rules | `(tactic| walk_at "exec For") => `(tactic| (k_here; first
  | ((with_reducible show wpAny _ _ (exec (Stmt.For (Expr.Name (Str.ofString "ch") _) _ _ _ _) _) _ _ _); refine for_first ?_)
  | ((with_reducible show wpAny _ _ (exec (Stmt.For (Expr.Name (Str.ofString "i") _) _ _ _ _) _) _ _ _); refine for_first ?_)))
local macro_rules | `(tactic| walk_at "pyIter str") => `(tactic| (k_here; (rename Fr _ _ _ _ => F9); (rename News _ _ _ _ => N9); refine strIter_first (c := 59) (y := Str.ofString ";") F9 N9 (by decide +kernel) (by decide +kernel) (by decide +kernel) ?_; intro h' F' N'; (try dsimp only); (try k_sweep)))
local macro_rules | `(tactic| walk_at "pyIter ref") => `(tactic| (k_here; (rename Fr _ _ _ _ => F9); (rename News _ _ _ _ => N9); (rename IsRange _ _ _ _ _ _ _ _ => R9); refine downIter_first F9 N9 R9 (by walk_at "my_len9") (by walk_at "my_len9") ?_; intro h' F' N'; (try dsimp only); (try k_sweep)))
local macro_rules | `(tactic| walk_at "subscriptTail") => `(tactic| (k_here; k_dflt (refine' accItem (C := 192) (by k_asm) (by k_asm) (by k_inst) (by k_is) (by k_is) (by k_is) (by walk_at "my_len9") (by walk_at "my_len9") (by exact item_mid _ _ _) ?_ (by with_unfolding_all rfl); k_whole); (try k_sweep)))
section
theorem append_a {w : World} {pp : Program} {lo : List Str} {fa fd ln x dx : Addr} {wd : Int} {lines its : List Value} {n nl : Nat} {k1 k2 k3 k4 k5 k6 t1 t2 t3 t4 tk tv : Tok} {ps ps2 : Array Value} {rest : List (Addr × Obj)} {tf tg : Tok} {mean : ExcName → Option Value} {mg mb : Str → Option Value}
    {dp un : Nat} {gd : Option (List Code)} {cn : Str} {cs : Scope} {a : Addr} {ccd : Value} {cl : List (Str × Addr)} {outer : List Env} {A₀ : Around} {base h₀ : Heap} {L : Addr} {m : Str → Option Value} {s : Shared} {Q E : Value → Shared → Prop}
    (B : Below A₀ base outer h₀) (F : Fr h₀ L s.heap m) (X : (hd.heap_39 w.params).In h₀) (N : News h₀ L s.heap (vf7 w fa fd ln x dx wd k1 k2 k3 k4 k5 k6 t1 t2 t3 t4 tk (its) (lines) n nl tv ps ps2 ++ rest)) (T : Top pp lo mean mg mb h₀) (hk : cs.kind = .function)
    (V : VF7 fa fd ln x dx rest) (G : AllBare s.gens) (hp : Tab1 ps) (hp2 : Tab2 ps2) (hs : SemiIts its rest) (hll : lines.length ≤ 100) (hl : its.length ≤ 50) (hw : (its.length : Int) < wd) (hD : dp + 100 < recursionLimit) (hU : un + 1000 < cLine)
    (ret : ∀ (t : Addr) (n' : Nat) (ps' : Array Value) (g' : Array GenState) (h' : Heap) (tk' : Nat), AllBare g' → Fr h₀ L h' m → News h₀ L h' (vf7 w fa fd ln x dx wd k1 k2 k3 k4 k5 k6 t1 t2 t3 t4 tk (its ++ [.ref t]) (lines) n' nl tv ps' ps2 ++ ([(t, tup2 (.str "" tf) (.str ";" tg))] ++ rest)) → Tab1 ps' → (∀ q ∈ vf7 w fa fd ln x dx wd k1 k2 k3 k4 k5 k6 t1 t2 t3 t4 tk (its) (lines) n nl tv ps ps2 ++ rest, q.1 < t) → Q .none ⟨h', g', s.drawn, tk', s.os⟩) :
    wpAny (model PySem.Challenge.rw_pg0222_01.row.prog w) (PySem.W.ktrTop dp un gd cn cs L a ccd cl outer) (call (.ref 105) [.ref fa, .str "" tf, .str ";" tg]) Q E s := by
  obtain ⟨o1, o2, o3, o4, o5, r0, r1, r2, r3, r4, r5, r6⟩ := V
  simp only [vf7, List.cons_append, List.nil_append] at N
  refine wpAny_call ?_
  k_dflt (refine' code_def ?k1 ?k2 ?k3 ?k4 ?k5 ?kA ?kF ?kK ?k6 ?k7 ?k8 ?k9 ?kB ?_ ?c2 ?c3 ?c4 ?c5; (case kA => exact rfl); (case kF => exact rfl); (case kK => assumption); (case k1 => k_asm); (case k2 => k_asm); (case k3 => k_asm); (case k4 => k_asm); (case k5 => k_asm); (case k6 => k_is); (case k7 => k_is); (case k8 => ktr_room); (case k9 => first | exact BindsTo.of_eq rfl | exact binds_K (by k_in) rfl (by k_is) rfl rfl rfl); (case c5 => decide); (case kB => exact locs rfl); (case c2 => exact rfl); (case c3 => exact rfl); (case c4 => exact rfl); intro g' L' h' FG' F' N' B' X' T'; (try dsimp only); (try k_lift B'); (try k_fold))
  k_steps
  all_goals first
    | (simp only [List.length_append, List.length_cons, List.length_nil] at *; omega)
    | skip
  all_goals (rename (@LT.lt Nat _ fa _ ∧ _) => la; rename News _ _ _ _ => N9; rename Tab1 _ => q1; exact ret _ _ _ _ _ _ (by assumption) (by assumption) (news_perm (vf7 ..) [_] rest N9) q1 (allLt_mem la))

theorem append_b {w : World} {pp : Program} {lo : List Str} {fa fd ln x dx : Addr} {wd : Int} {lines its : List Value} {n nl : Nat} {k1 k2 k3 k4 k5 k6 t1 t2 t3 t4 tk tv : Tok} {ps ps2 : Array Value} {rest : List (Addr × Obj)} {tf tg : Tok} {mean : ExcName → Option Value} {mg mb : Str → Option Value}
    {dp un : Nat} {gd : Option (List Code)} {cn : Str} {cs : Scope} {a : Addr} {ccd : Value} {cl : List (Str × Addr)} {outer : List Env} {A₀ : Around} {base h₀ : Heap} {L : Addr} {m : Str → Option Value} {s : Shared} {Q E : Value → Shared → Prop}
    (B : Below A₀ base outer h₀) (F : Fr h₀ L s.heap m) (X : (hd.heap_39 w.params).In h₀) (N : News h₀ L s.heap (vf7 w fa fd ln x dx wd k1 k2 k3 k4 k5 k6 t1 t2 t3 t4 tk (its) (lines) n nl tv ps ps2 ++ rest)) (T : Top pp lo mean mg mb h₀) (hk : cs.kind = .function)
    (V : VF7 fa fd ln x dx rest) (G : AllBare s.gens) (hp : Tab1 ps) (hp2 : Tab2 ps2) (hs : SemiIts its rest) (hll : lines.length ≤ 100) (hl : its.length ≤ 50) (hw : (its.length : Int) = wd) (hw1 : 1 ≤ wd) (hD : dp + 100 < recursionLimit) (hU : un + 1000 < cLine)
    (ret : ∀ (t l : Addr) (n' nl' nl2 : Nat) (tv' ts : Tok) (ps' ps2' : Array Value) (g' : Array GenState) (h' : Heap) (tk' : Nat), AllBare g' → Fr h₀ L h' m → News h₀ L h' (vf7 w fa fd ln x dx wd k1 k2 k3 k4 k5 k6 t1 t2 t3 t4 tk ([.ref t]) (lines ++ [.str (semis its.length) ts]) n' nl' tv' ps' ps2' ++ ([(l, listOf #[.ref t] nl2), (t, tup2 (.str "" tf) (.str ";" tg))] ++ rest)) → Tab1 ps' → Tab2 ps2' → (∀ q ∈ vf7 w fa fd ln x dx wd k1 k2 k3 k4 k5 k6 t1 t2 t3 t4 tk (its) (lines) n nl tv ps ps2 ++ rest, q.1 < t) → (∀ q ∈ vf7 w fa fd ln x dx wd k1 k2 k3 k4 k5 k6 t1 t2 t3 t4 tk (its) (lines) n nl tv ps ps2 ++ rest, q.1 < l) → @Ne Nat t l → Q .none ⟨h', g', s.drawn, tk', s.os⟩) :
    wpAny (model PySem.Challenge.rw_pg0222_01.row.prog w) (PySem.W.ktrTop dp un gd cn cs L a ccd cl outer) (call (.ref 105) [.ref fa, .str "" tf, .str ";" tg]) Q E s := by
  obtain ⟨o1, o2, o3, o4, o5, r0, r1, r2, r3, r4, r5, r6⟩ := V
  simp only [vf7, List.cons_append, List.nil_append] at N
  obtain ⟨ia, t0, u1, u2, rfl, hm0⟩ : ∃ ia t0 u1 u2, its = ia ++ [.ref t0] ∧ (t0, tup2 (.str "" u1) (.str ";" u2)) ∈ rest := by
    rcases List.eq_nil_or_concat its with rfl | ⟨ia, v, rfl⟩
    · simp only [List.length_nil] at hw; omega
    · obtain ⟨t, a, b, e, hm⟩ := hs v (by simp)
      exact ⟨ia, t, a, b, by rw [e, List.concat_eq_append], hm⟩
  refine wpAny_call ?_
  k_dflt (refine' code_def ?k1 ?k2 ?k3 ?k4 ?k5 ?kA ?kF ?kK ?k6 ?k7 ?k8 ?k9 ?kB ?_ ?c2 ?c3 ?c4 ?c5; (case kA => exact rfl); (case kF => exact rfl); (case kK => assumption); (case k1 => k_asm); (case k2 => k_asm); (case k3 => k_asm); (case k4 => k_asm); (case k5 => k_asm); (case k6 => k_is); (case k7 => k_is); (case k8 => ktr_room); (case k9 => first | exact BindsTo.of_eq rfl | exact binds_K (by k_in) rfl (by k_is) rfl rfl rfl); (case c5 => decide); (case kB => exact locs rfl); (case c2 => exact rfl); (case c3 => exact rfl); (case c4 => exact rfl); intro g' L' h' FG' F' N' B' X' T'; (try dsimp only); (try k_lift B'); (try k_fold))
  k_steps
  all_goals first
    | (simp only [List.length_append, List.length_cons, List.length_nil] at *; omega)
    | skip
  all_goals (rename (_ ∧ _) => lb; rename (@LT.lt Nat _ fa _ ∧ _) => la; rename News _ _ _ _ => N9; rename Tab1 _ => q1; rename Tab2 _ => q2; rw [List.push_toArray] at N9; exact ret _ _ _ _ _ _ _ _ _ _ _ _ (by assumption) (by assumption) (news_perm (vf7 ..) [_, _] rest N9) q1 q2 (allLt_mem la) (allLt_mem lb.2) (Nat.ne_of_lt lb.1))
end
section
set_option maxHeartbeats 4000000
set_option linter.unusedVariables false

theorem fill7 (w : World) (h : Heap) : (hd.heap_39 w.params).In h → PySem.Challenge.rw_pg0222_01 = PySem.Challenge.rw_pg0222_01 := by
  k_fill
  intro _; rfl
local macro_rules | `(tactic| walk_at "getAttr ref") => `(tactic| (k_here; k_dflt (refine' accBound (by k_asm) (by k_asm) (by k_asm) (by k_inst) (by k_is) (by k_is) (by k_is) (by k_is) (by k_is) (by k_is) (by k_is) (by k_is) (by decide) (by k_get) ?_; k_whole); intro q' h' F' N' l1; (try k_lt l1); (try k_sweep)))
local macro_rules | `(tactic| walk_at "callWith ref") => `(tactic| (k_here; (with_reducible show wpAny _ _ (callWith _ (Value.ref _) _ (backTo _ (starEach [Expr.Starred _ _] _)) []) _ _ _); k_dflt (refine' callWith_SM (by k_asm) (by k_asm) (by k_mem) (by k_is) ?_; k_whole)))
local macro_rules | `(tactic| walk_at "eval Call Attribute") => `(tactic| (k_here; (with_reducible show wpAny _ _ (eval (Expr.Call (Expr.Attribute _ _ _) [Expr.Starred _ _] [] _) _) _ _ _); refine starMethod ?_))
local macro_rules | `(tactic| walk_at "call ref") => `(tactic| (k_here; k_dflt (refine' call_meth (by k_asm) (by k_mem) ?_; refine' push_code (by k_asm) (by k_asm) (by k_asm) (by k_asm) (by k_asm) (by walk_at "my_kind") (by k_updF) (by k_mem) (by walk_at "my_len") (by ktr_room) (by ktr_units) ?_; k_whole); intro t' h' tk' F' N' l1; (try dsimp only at N'); (try k_lt l1); (try dsimp only); (try k_sweep)))

theorem newline_spec {w : World} {pp : Program} {lo : List Str} {fa fd ln x dx : Addr} {wd : Int} {lines its : List Value} {n nl : Nat} {k1 k2 k3 k4 k5 k6 t1 t2 t3 t4 tk tv : Tok} {ps ps2 : Array Value} {rest : List (Addr × Obj)} {mean : ExcName → Option Value} {mg mb : Str → Option Value}
    {dp un : Nat} {gd : Option (List Code)} {cn : Str} {cs : Scope} {a : Addr} {ccd : Value} {cl : List (Str × Addr)} {outer : List Env} {A₀ : Around} {base h₀ : Heap} {L : Addr} {m : Str → Option Value} {s : Shared} {Q E : Value → Shared → Prop}
    (B : Below A₀ base outer h₀) (F : Fr h₀ L s.heap m) (X : (hd.heap_39 w.params).In h₀) (N : News h₀ L s.heap (vf7 w fa fd ln x dx wd k1 k2 k3 k4 k5 k6 t1 t2 t3 t4 tk (its) (lines) n nl tv ps ps2 ++ rest)) (T : Top pp lo mean mg mb h₀) (hk : cs.kind = .function)
    (V : VF7 fa fd ln x dx rest) (G : AllBare s.gens) (hp : Tab1 ps) (hp2 : Tab2 ps2) (hs : SemiIts its rest) (hll : lines.length ≤ 100) (hl : its.length ≤ 50) (hw1 : 1 ≤ its.length) (hD : dp + 100 < recursionLimit) (hU : un + 1000 < cLine)
    (ret : ∀ (n' nl' : Nat) (tv' ts : Tok) (ps' ps2' : Array Value) (g' : Array GenState) (h' : Heap) (tk' : Nat), AllBare g' → Fr h₀ L h' m → News h₀ L h' (vf7 w fa fd ln x dx wd k1 k2 k3 k4 k5 k6 t1 t2 t3 t4 tk ([]) (lines ++ [.str (semis its.length) ts]) n' nl' tv' ps' ps2' ++ rest) → Tab1 ps' → Tab2 ps2' → Q .none ⟨h', g', s.drawn, tk', s.os⟩) :
    wpAny (model PySem.Challenge.rw_pg0222_01.row.prog w) (PySem.W.ktrTop dp un gd cn cs L a ccd cl outer) (call (.ref 70) [.ref fa]) Q E s := by
  obtain ⟨o1, o2, o3, o4, o5, r0, r1, r2, r3, r4, r5, r6⟩ := V
  simp only [vf7, List.cons_append, List.nil_append] at N
  obtain ⟨ia, t0, u1, u2, rfl, hm0⟩ : ∃ ia t0 u1 u2, its = ia ++ [.ref t0] ∧ (t0, tup2 (.str "" u1) (.str ";" u2)) ∈ rest := by
    rcases List.eq_nil_or_concat its with rfl | ⟨ia, v, rfl⟩
    · simp only [List.length_nil] at hw1; omega
    · obtain ⟨t, a, b, e, hm⟩ := hs v (by simp)
      exact ⟨ia, t, a, b, by rw [e, List.concat_eq_append], hm⟩
  have hsa : SemiIts ia rest := fun v hv => hs v (List.mem_append_left _ hv)
  simp only [List.length_append, List.length_cons, List.length_nil, Nat.zero_add] at ret
  refine wpAny_call ?_
  k_dflt (refine' code_def ?k1 ?k2 ?k3 ?k4 ?k5 ?kA ?kF ?kK ?k6 ?k7 ?k8 ?k9 ?kB ?_ ?c2 ?c3 ?c4 ?c5; (case kA => exact rfl); (case kF => exact rfl); (case kK => assumption); (case k1 => k_asm); (case k2 => k_asm); (case k3 => k_asm); (case k4 => k_asm); (case k5 => k_asm); (case k6 => k_is); (case k7 => k_is); (case k8 => ktr_room); (case k9 => first | exact BindsTo.of_eq rfl | exact binds_K (by k_in) rfl (by k_is) rfl rfl rfl); (case c5 => decide); (case kB => exact locs rfl); (case c2 => exact rfl); (case c3 => exact rfl); (case c4 => exact rfl); intro g' L' h' FG' F' N' B' X' T'; (try dsimp only); (try k_lift B'); (try k_fold))
  k_steps
  all_goals first
    | (simp only [List.length_append, List.length_cons, List.length_nil] at *; omega)
    | skip
  all_goals (rename News _ _ _ _ => N9; rename Tab1 _ => q1; rename Tab2 _ => q2; rw [List.push_toArray] at N9; simp only [List.length_append, List.length_cons, List.length_nil, Nat.zero_add] at N9; exact ret _ _ _ _ _ _ _ _ _ (by assumption) (by assumption) (fun p hp => N9 p (.tail _ (.tail _ (.tail _ hp)))) q1 q2)
end
section
set_option maxHeartbeats 4000000
set_option linter.unusedVariables false

theorem fill9 (w : World) (h : Heap) : (hd.heap_39 w.params).In h → PySem.Challenge.rw_pg0222_01 = PySem.Challenge.rw_pg0222_01 := by
  k_fill
  intro _; rfl

theorem strsAre_snoc {y : Str} {t : Tok} {lines : List Value} {ys : List Str} (h : StrsAre lines ys) : StrsAre (lines ++ [.str y t]) (ys ++ [y]) := by
  induction h with
  | nil => exact .cons _ _ .nil
  | cons a b h ih => exact .cons a b ih
theorem strsAre_length {lines : List Value} {ys : List Str} (h : StrsAre lines ys) : lines.length = ys.length := by
  induction h with
  | nil => rfl
  | cons a b h ih => rw [List.length_cons, List.length_cons, ih]
theorem semis_length (k : Nat) : (semis k).length = k := by
  show (List.replicate k 59).toArray.size = k
  simp
theorem sum_le_50 {ys : List Str} (h : ∀ y ∈ ys, y.length ≤ 50) : (ys.map (·.length)).sum ≤ 50 * ys.length := by
  induction ys with
  | nil => exact Nat.le_refl _
  | cons a l ih =>
    rw [List.map_cons, List.sum_cons, List.length_cons]
    have h1 := h a (.head _)
    have h2 := ih fun y hy => h y (.tail _ hy)
    omega
local macro_rules | `(tactic| walk_at "call ref") => `(tactic| (k_here; k_dflt (refine' newline_spec (by k_asm) (by k_asm) (by k_asm) (by assumption) (by k_asm) (by walk_at "my_kind") (by assumption) (by assumption) (by assumption) (by assumption) (by assumption) (by assumption) (by assumption) (by assumption) (by ktr_room) (by ktr_units) ?_; k_whole)))

theorem str56_spec {w : World} {pp : Program} {lo : List Str} {fa fd ln x dx : Addr} {wd : Int} {lines its : List Value} {n nl : Nat} {k1 k2 k3 k4 k5 k6 t1 t2 t3 t4 tk tv : Tok} {ps ps2 : Array Value} {rest : List (Addr × Obj)} {ys : List Str} {tz : Tok} {mean : ExcName → Option Value} {mg mb : Str → Option Value}
    {dp un : Nat} {gd : Option (List Code)} {cn : Str} {cs : Scope} {a : Addr} {ccd : Value} {cl : List (Str × Addr)} {outer : List Env} {A₀ : Around} {base h₀ : Heap} {L : Addr} {m : Str → Option Value} {s : Shared} {Q E : Value → Shared → Prop}
    (B : Below A₀ base outer h₀) (F : Fr h₀ L s.heap m) (X : (hd.heap_39 w.params).In h₀) (N : News h₀ L s.heap (vf7 w fa fd ln x dx wd k1 k2 k3 k4 k5 k6 t1 t2 t3 t4 tk (its) (lines) n nl tv ps ps2 ++ rest)) (T : Top pp lo mean mg mb h₀) (hk : cs.kind = .function)
    (V : VF7 fa fd ln x dx rest) (G : AllBare s.gens) (hp : Tab1 ps) (hp2 : Tab2 ps2) (hs : SemiIts its rest) (hll : lines.length ≤ 100) (hl : its.length ≤ 50) (hw1 : 1 ≤ its.length) (hy : StrsAre lines ys) (hyl : ∀ y ∈ ys, y.length ≤ 50) (hD : dp + 200 < recursionLimit) (hU : un + 2000 < cLine)
    (ret : ∀ (t' : Tok) (n' nl' : Nat) (tv' ts : Tok) (ps' ps2' : Array Value) (g' : Array GenState) (h' : Heap) (tk' : Nat), AllBare g' → Fr h₀ L h' m → News h₀ L h' (vf7 w fa fd ln x dx wd k1 k2 k3 k4 k5 k6 t1 t2 t3 t4 tk ([]) (lines ++ [.str (semis its.length) ts]) n' nl' tv' ps' ps2' ++ rest) → Tab1 ps' → Tab2 ps2' → Q (.str (Txt.join "\n" (ys ++ [semis its.length])) t') ⟨h', g', s.drawn, tk', s.os⟩) :
    wpAny (model PySem.Challenge.rw_pg0222_01.row.prog w) (PySem.W.ktrTop dp un gd cn cs L a ccd cl outer) (call (.ref 56) [.ref fa, .str "\n" tz]) Q E s := by
  have hV := V
  obtain ⟨o1, o2, o3, o4, o5, r0, r1, r2, r3, r4, r5, r6⟩ := V
  simp only [vf7, List.cons_append, List.nil_append] at N
  refine wpAny_call ?_
  k_dflt (refine' code_def ?k1 ?k2 ?k3 ?k4 ?k5 ?kA ?kF ?kK ?k6 ?k7 ?k8 ?k9 ?kB ?_ ?c2 ?c3 ?c4 ?c5; (case kA => exact rfl); (case kF => exact rfl); (case kK => assumption); (case k1 => k_asm); (case k2 => k_asm); (case k3 => k_asm); (case k4 => k_asm); (case k5 => k_asm); (case k6 => k_is); (case k7 => k_is); (case k8 => ktr_room); (case k9 => first | exact BindsTo.of_eq rfl | exact binds_K (by k_in) rfl (by k_is) rfl rfl rfl); (case c5 => decide); (case kB => exact locs rfl); (case c2 => exact rfl); (case c3 => exact rfl); (case c4 => exact rfl); intro g' L' h' FG' F' N' B' X' T'; (try dsimp only); (try k_lift B'); (try k_fold))
  k_steps
  rename News _ _ _ _ => N9
  rename Fr _ _ _ _ => F9
  have hw9 : ((ys ++ [semis its.length]).map (·.length)).sum + (ys ++ [semis its.length]).length ≤ 1048576 := by
    have h1 := sum_le_50 hyl
    have h2 := strsAre_length hy
    rw [List.map_append, List.sum_append, List.length_append, List.map_cons, List.map_nil, List.sum_cons, List.sum_nil, semis_length, List.length_cons, List.length_nil]
    omega
  refine join_listW (items := (lines ++ [Value.str (semis its.length) _]).toArray) ⟨_, (N9 (ln, _) (.tail _ (.tail _ (.head _)))).1, rfl, _, rfl⟩ (strsAre_snoc hy) (by decide) hw9 fun t9 k9 => ?_
  k_steps
  all_goals (rename Tab1 _ => q1; rename Tab2 _ => q2; exact ret _ _ _ _ _ _ _ _ _ _ (by assumption) (by assumption) (by assumption) q1 q2)
end
section
local macro_rules | `(tactic| walk_at "my_dummy0") => `(tactic| skip)
set_option maxHeartbeats 4000000
set_option linter.unusedVariables false

theorem fill11 (w : World) (h : Heap) : (hd.heap_39 w.params).In h → PySem.Challenge.rw_pg0222_01 = PySem.Challenge.rw_pg0222_01 := by
  k_fill
  intro _; rfl
theorem units_under_tc (A : Around) (C : Addr) (vals : List Value) (kw : List (Str × Value)) : (A.under (.builtin "type.__call__" ⟨.ref C :: vals, kw⟩)).units = A.units + 1 := rfl
theorem perm7 {α : Type} {a b c d e t u : α} {r : List α} (p : α) (h : p ∈ a :: b :: c :: d :: e :: t :: u :: r) : p ∈ d :: e :: c :: a :: b :: t :: u :: r := by
  simp only [List.mem_cons] at h ⊢
  rcases h with h | h | h | h | h | h | h | h <;> simp [h]
local macro_rules | `(tactic| walk_at "call ref") => `(tactic| (k_here; k_dflt (refine' accnew_spec (by k_asm) (by k_asm) (by k_asm) (by k_asm) (by k_asm) (by walk_at "my_kind") (by ktr_room) (by first | ktr_units | ((try simp only [units_under_tc, units_in1, units_deeper] at *); (try dsimp only [ktrTop] at *); omega)) ?_; k_whole); intro x' dx' n' tk' tv' h' tq' F' N' l1 l2; (try k_lt l1); (try k_lt2 l2); (try k_sweep)))

theorem vfnew_spec {w : World} {pp : Program} {lo : List Str} {wd : Int} {t0 t1 t2 t4 : Tok} {ps ps2 : Array Value} {rest : List (Addr × Obj)} {mean : ExcName → Option Value} {mg mb : Str → Option Value}
    {dp un : Nat} {gd : Option (List Code)} {cn : Str} {cs : Scope} {a : Addr} {ccd : Value} {cl : List (Str × Addr)} {outer : List Env} {A₀ : Around} {base h₀ : Heap} {L : Addr} {m : Str → Option Value} {s : Shared} {Q E : Value → Shared → Prop}
    (B : Below A₀ base outer h₀) (F : Fr h₀ L s.heap m) (X : (hd.heap_39 w.params).In h₀) (N : News h₀ L s.heap ((154, tableObj ps) :: (161, tableObj ps2) :: rest)) (T : Top pp lo mean mg mb h₀) (hk : cs.kind = .function)
    (q5 : ∀ p ∈ rest, p.1 ≠ 154) (q6 : ∀ p ∈ rest, p.1 ≠ 161) (hD : dp + 100 < recursionLimit) (hU : un + 1000 < cLine)
    (ret : ∀ (fa fd ln x dx : Addr) (k1 k2 k3 k4 k5 k6 u1 u2 u3 u4 tk tv : Tok) (n : Nat) (h' : Heap) (tk' : Nat), Fr h₀ L h' m → News h₀ L h' (vf7 w fa fd ln x dx wd k1 k2 k3 k4 k5 k6 u1 u2 u3 u4 tk [] [] n 0 tv ps ps2 ++ rest) → VF7 fa fd ln x dx rest → (∀ p ∈ rest, p.1 < fd) → Q (.ref fa) { s with heap := h', toks := tk' }) :
    wpAny (model PySem.Challenge.rw_pg0222_01.row.prog w) (PySem.W.ktrTop dp un gd cn cs L a ccd cl outer) (call (.ref 108) [.int 0 t0, .int wd t1, .str "" t2, .str ";" t4]) Q E s := by
  refine call_cls (C := 108) (fI := 49) F X N (by k_is) (by k_is) (by k_is) ?_
  intro fa fd h' F N lq1 lq2
  have hn1 : ∀ p ∈ rest, p.1 ≠ fd := fun p hp => Nat.ne_of_lt (lq1 p (.tail _ (.tail _ hp)))
  have hn2 : ∀ p ∈ rest, p.1 ≠ fa := fun p hp => Nat.ne_of_lt (Nat.lt_trans (lq1 p (.tail _ (.tail _ hp))) lq2)
  have hne : @Ne Nat fa fd := Nat.ne_of_gt lq2
  have h161 : @LT.lt Nat _ 161 fd := lq1 _ (.tail _ (.head _))
  have h154 : @LT.lt Nat _ 154 fd := lq1 _ (.head _)
  have hr1 : ∀ p ∈ rest, p.1 < fd := fun p hp => lq1 p (.tail _ (.tail _ hp))
  k_dflt (refine' code_def ?k1 ?k2 ?k3 ?k4 ?k5 ?kA ?kF ?kK ?k6 ?k7 ?k8 ?k9 ?kB ?_ ?c2 ?c3 ?c4 ?c5; (case kA => exact rfl); (case kF => exact rfl); (case kK => assumption); (case k1 => k_asm); (case k2 => k_asm); (case k3 => k_asm); (case k4 => k_asm); (case k5 => k_asm); (case k6 => k_is); (case k7 => k_is); (case k8 => ktr_room); (case k9 => first | exact BindsTo.of_eq rfl | exact binds_K (by k_in) rfl (by k_is) rfl rfl rfl); (case c5 => decide); (case kB => exact locs rfl); (case c2 => exact rfl); (case c3 => exact rfl); (case c4 => exact rfl); intro g' L' h' FG' F' N' B' X' T'; (try dsimp only); (try k_lift B'); (try k_fold))
  k_steps
  all_goals (rename News _ _ _ _ => N9; rename (_ ∧ _) => lb; rename (@LT.lt Nat _ fa _ ∧ _) => la; have hl1 := fun p hp => allLt_mem la.2.2.2.2 p hp; have hd1 := fun p hp => allLt_mem lb.2.2.2.2.2 p hp; rename (@LT.lt Nat _ _ _) => lx; exact ret fa fd _ _ _ _ _ _ _ _ _ _ _ _ _ _ _ _ _ _ (by assumption) (fun p hp => N9 p (perm7 p hp)) ⟨h161, lq2, la.1, lb.1, lx, hn2, hn1, fun p hp => Nat.ne_of_lt (hl1 p hp), fun p hp => Nat.ne_of_lt (Nat.lt_trans (hd1 p hp) lx), fun p hp => Nat.ne_of_lt (hd1 p hp), q5, q6⟩ hr1)
end
end Mine
end
section
open PySem PySem.W PySem.W.X PyProof.Rows
set_option Elab.async false
set_option maxRecDepth 100000
namespace Mine
set_option maxHeartbeats 4000000
set_option linter.unusedVariables false

theorem fill20 (w : World) (h : Heap) : (hd.heap_39 w.params).In h → PySem.Challenge.rw_pg0222_01 = PySem.Challenge.rw_pg0222_01 := by
  k_fill
  intro _; rfl
/-- a tuple of three floats -/
abbrev tupF3 (x y z : UInt64) (t u v : Tok) : Obj := { cls := .type "tuple", data := .seq #[.float x t, .float y u, .float z v] }
local macro_rules | `(tactic| cell_enter) => `(tactic| (refine' code_def ?k1 ?k2 ?k3 ?k4 ?k5 ?kA ?kF ?kK ?k6 ?k7 ?k8 ?k9 ?kB ?_ ?c2 ?c3 ?c4 ?c5; (case kA => exact rfl); (case kF => exact rfl); (case kK => assumption); (case k1 => k_asm); (case k2 => k_asm); (case k3 => k_asm); (case k4 => k_asm); (case k5 => k_asm); (case k6 => k_is); (case k7 => k_is); (case k8 => ktr_room); (case k9 => first | exact BindsTo.of_eq rfl | exact binds_K (by k_in) rfl (by k_is) rfl rfl rfl); (case c5 => decide); (case kB => exact locs rfl); (case c2 => exact rfl); (case c3 => exact rfl); (case c4 => exact rfl); k_whole; intro g' L' h' FG' F' N' B' X' T'; (try dsimp only); (try k_lift B'); (try k_fold)))

theorem hsv_spec {w : World} {pp : Program} {lo : List Str} {x z : UInt64} {t1 t2 t3 : Tok} {news : List (Addr × Obj)} {mean : ExcName → Option Value} {mg mb : Str → Option Value}
    {dp un : Nat} {gd : Option (List Code)} {cn : Str} {cs : Scope} {a : Addr} {ccd : Value} {cl : List (Str × Addr)} {outer : List Env} {A₀ : Around} {base h₀ : Heap} {L : Addr} {m : Str → Option Value} {s : Shared} {Q E : Value → Shared → Prop}
    (B : Below A₀ base outer h₀) (F : Fr h₀ L s.heap m) (X : (hd.heap_39 w.params).In h₀) (N : News h₀ L s.heap news) (T : Top pp lo mean mg mb h₀) (hk : cs.kind = .function)
    (q1 : Float64.isFinite (Float64.mul x 4618441417868443648) = true) (q2 : ¬ Flt.Over (Flt.toInt Float64.truncOf (Float64.mul x 4618441417868443648))) (hD : dp + 20 < recursionLimit) (hU : un + 200 < cLine)
    (ret : ∀ (D : Addr) (a b c : UInt64) (k1 k2 k3 : Tok) (h' : Heap) (tk' : Nat), Fr h₀ L h' m → News h₀ L h' ((D, tupF3 a b c k1 k2 k3) :: news) → (a, b, c) = hvs x z → (∀ p ∈ news, p.1 < D) → Q (.ref D) { s with heap := h', toks := tk' }) :
    wpAny (model PySem.Challenge.rw_pg0222_01.row.prog w) (PySem.W.ktrTop dp un gd cn cs L a ccd cl outer) (call (.ref 35) [.float x t1, .float 4607182418800017408 t2, .float z t3]) Q E s := by
  have q3 : Float64.isNaN (Float64.mul x 4618441417868443648) = false := Flt.not_nan_of_finite q1
  have q4 : Float64.isInf (Float64.mul x 4618441417868443648) = false := Flt.not_inf_of_finite q1
  refine wpAny_call ?_
  k_dflt cell_enter
  k_steps
  all_goals first
    | exact absurd (by assumption) (show ¬ (Float64.cmp 4607182418800017408 0 == some .eq) = true by decide +kernel)
    | (exfalso; (have e1 := Int.fmod_nonneg_of_pos (Flt.toInt Float64.truncOf (Float64.mul x 4618441417868443648)) (show (0 : Int) < 6 by decide)); (have e2 := Int.fmod_lt_of_pos (Flt.toInt Float64.truncOf (Float64.mul x 4618441417868443648)) (show (0 : Int) < 6 by decide)); omega)
    | (rename News _ _ _ _ => N9; refine ret _ _ _ _ _ _ _ _ _ (by assumption) N9 ?_ (by assumption); clear ret N9; unfold hvs way hvT hvQ hvP hfrac; (repeat' split) <;> first | rfl | (exfalso; omega))

end Mine
end
section
open PySem PySem.W PySem.W.X PyProof.Rows
set_option Elab.async false
set_option maxRecDepth 100000
namespace Mine
set_option maxHeartbeats 4000000
set_option linter.unusedVariables false

theorem fill21 (w : World) (h : Heap) : (hd.heap_39 w.params).In h → PySem.Challenge.rw_pg0222_01 = PySem.Challenge.rw_pg0222_01 := by
  k_fill
  intro _; rfl
/-- a tuple of three floats -/
abbrev tupF3r (x y z : UInt64) (t u v : Tok) : Obj := { cls := .type "tuple", data := .seq #[.float x t, .float y u, .float z v] }
theorem max_three_ff {prog : Program} {w : World} {A : Around} {E : Value → Shared → Prop} {s : Shared} {Q : Value → Shared → Prop} {x y z : UInt64} {t u v : Tok} {h₀ : Heap} {L : Addr} {m : Str → Option Value} {news : List (Addr × Obj)}
    (hh : A.handled = none) (F : Fr h₀ L s.heap m) (N : News h₀ L s.heap news)
    (h : ∀ h' tk v, Fr h₀ L h' m → News h₀ L h' news → Q (.float (max3 x y z) v) { s with heap := h', toks := tk }) :
    wpAny (model prog w) A (call (.builtin "max") [.float x t, .float y u, .float z v]) Q E s := by
  have hT : (s.heap.push { cls := .type "tuple", data := .seq #[.float x t, .float y u, .float z v] }).IsTuple s.heap.objs.size #[.float x t, .float y u, .float z v] := ⟨_, Heap.get?_push_size _ rfl, rfl, 0, rfl⟩
  refine call_max_three (wpAny_pyIter_tuple hT ?_)
  have hsz : (s.heap.push { cls := .type "tuple", data := .seq #[.float x t, .float y u, .float z v] }).objs.size = s.heap.objs.size + 1 := Heap.size_push ..
  refine ⟨_, [_, s.heap.objs.size], [_], _, _, _, _, rfl, Walks.tuple (A := A.in1) hh _ s.heap.objs.size (by rw [hsz]; exact Nat.ne_of_lt (Nat.lt_succ_self _)) #[.float x t, .float y u, .float z v],
    ⟨⟨_, Heap.get?_push_size _ rfl, rfl, rfl⟩, hT.push _⟩, fun c hc => ?_, by simp, Flt.cmpOf_gt #[.float x t, .float y u, .float z v] (by simp [Flt.NumV.float]), fun r h' tk hP hk => ?_⟩
  · show c < ((s.heap.push _).push _).objs.size
    rw [Heap.size_push, hsz]
    rcases List.mem_cons.mp hc with rfl | hc
    · rw [hsz]; exact Nat.lt_succ_self _
    · rcases List.mem_cons.mp hc with rfl | hc
      · exact Nat.lt_succ_of_lt (Nat.lt_succ_self _)
      · cases hc
  · have hold : ∀ c o, s.heap.get? c = some o → h'.get? c = some o := fun c o e => by
      refine hk c o (fun hm => ?_) (Heap.get?_push_of_some _ (Heap.get?_push_of_some _ e))
      rcases List.mem_cons.mp hm with e1 | hm
      · have := Heap.lt_size e; rw [e1, hsz] at this; exact Nat.lt_irrefl _ (Nat.lt_of_succ_lt this)
      · cases hm
    have hv : ∃ k, r = .float (max3 x y z) k := by
      have hP' := hP
      simp only [List.size_toArray, List.length_cons, List.length_nil, argBest] at hP'
      unfold max3
      by_cases c1 : (Float64.cmp x y == some .lt) = true
      · by_cases c2 : (Float64.cmp y z == some .lt) = true
        · simp [Flt.ltV, c1, c2] at hP'; exact ⟨v, by simp [c1, c2, ← hP']⟩
        · simp [Flt.ltV, c1, c2] at hP'; exact ⟨u, by simp [c1, c2, ← hP']⟩
      · by_cases c2 : (Float64.cmp x z == some .lt) = true
        · simp [Flt.ltV, c1, c2] at hP'; exact ⟨v, by simp [c1, c2, ← hP']⟩
        · simp [Flt.ltV, c1, c2] at hP'; exact ⟨t, by simp [c1, c2, ← hP']⟩
    obtain ⟨k, rfl⟩ := hv
    exact h h' tk k (F.grownK hold) (N.grown hold)
theorem min_three_ff {prog : Program} {w : World} {A : Around} {E : Value → Shared → Prop} {s : Shared} {Q : Value → Shared → Prop} {x y z : UInt64} {t u v : Tok} {h₀ : Heap} {L : Addr} {m : Str → Option Value} {news : List (Addr × Obj)}
    (hh : A.handled = none) (F : Fr h₀ L s.heap m) (N : News h₀ L s.heap news)
    (h : ∀ h' tk v, Fr h₀ L h' m → News h₀ L h' news → Q (.float (min3 x y z) v) { s with heap := h', toks := tk }) :
    wpAny (model prog w) A (call (.builtin "min") [.float x t, .float y u, .float z v]) Q E s := by
  have hT : (s.heap.push { cls := .type "tuple", data := .seq #[.float x t, .float y u, .float z v] }).IsTuple s.heap.objs.size #[.float x t, .float y u, .float z v] := ⟨_, Heap.get?_push_size _ rfl, rfl, 0, rfl⟩
  refine call_min_three (wpAny_pyIter_tuple hT ?_)
  have hsz : (s.heap.push { cls := .type "tuple", data := .seq #[.float x t, .float y u, .float z v] }).objs.size = s.heap.objs.size + 1 := Heap.size_push ..
  refine ⟨_, [_, s.heap.objs.size], [_], _, _, _, _, rfl, Walks.tuple (A := A.in1) hh _ s.heap.objs.size (by rw [hsz]; exact Nat.ne_of_lt (Nat.lt_succ_self _)) #[.float x t, .float y u, .float z v],
    ⟨⟨_, Heap.get?_push_size _ rfl, rfl, rfl⟩, hT.push _⟩, fun c hc => ?_, by simp, Flt.cmpOf_lt #[.float x t, .float y u, .float z v] (by simp [Flt.NumV.float]), fun r h' tk hP hk => ?_⟩
  · show c < ((s.heap.push _).push _).objs.size
    rw [Heap.size_push, hsz]
    rcases List.mem_cons.mp hc with rfl | hc
    · rw [hsz]; exact Nat.lt_succ_self _
    · rcases List.mem_cons.mp hc with rfl | hc
      · exact Nat.lt_succ_of_lt (Nat.lt_succ_self _)
      · cases hc
  · have hold : ∀ c o, s.heap.get? c = some o → h'.get? c = some o := fun c o e => by
      refine hk c o (fun hm => ?_) (Heap.get?_push_of_some _ (Heap.get?_push_of_some _ e))
      rcases List.mem_cons.mp hm with e1 | hm
      · have := Heap.lt_size e; rw [e1, hsz] at this; exact Nat.lt_irrefl _ (Nat.lt_of_succ_lt this)
      · cases hm
    have hv : ∃ k, r = .float (min3 x y z) k := by
      have hP' := hP
      simp only [List.size_toArray, List.length_cons, List.length_nil, argBest] at hP'
      unfold min3
      by_cases c1 : (Float64.cmp y x == some .lt) = true
      · by_cases c2 : (Float64.cmp z y == some .lt) = true
        · simp [Flt.ltV, c1, c2] at hP'; exact ⟨v, by simp [c1, c2, ← hP']⟩
        · simp [Flt.ltV, c1, c2] at hP'; exact ⟨u, by simp [c1, c2, ← hP']⟩
      · by_cases c2 : (Float64.cmp z x == some .lt) = true
        · simp [Flt.ltV, c1, c2] at hP'; exact ⟨v, by simp [c1, c2, ← hP']⟩
        · simp [Flt.ltV, c1, c2] at hP'; exact ⟨t, by simp [c1, c2, ← hP']⟩
    obtain ⟨k, rfl⟩ := hv
    exact h h' tk k (F.grownK hold) (N.grown hold)
theorem tf9 {b : Bool} (h1 : b = true) (h2 : b = false) : False := by
  rw [h1] at h2; cases h2
local macro_rules | `(tactic| cell_enter) => `(tactic| (refine' code_def ?k1 ?k2 ?k3 ?k4 ?k5 ?kA ?kF ?kK ?k6 ?k7 ?k8 ?k9 ?kB ?_ ?c2 ?c3 ?c4 ?c5; (case kA => exact rfl); (case kF => exact rfl); (case kK => assumption); (case k1 => k_asm); (case k2 => k_asm); (case k3 => k_asm); (case k4 => k_asm); (case k5 => k_asm); (case k6 => k_is); (case k7 => k_is); (case k8 => ktr_room); (case k9 => first | exact BindsTo.of_eq rfl | exact binds_K (by k_in) rfl (by k_is) rfl rfl rfl); (case c5 => decide); (case kB => exact locs rfl); (case c2 => exact rfl); (case c3 => exact rfl); (case c4 => exact rfl); k_whole; intro g' L' h' FG' F' N' B' X' T'; (try dsimp only); (try k_lift B'); (try k_fold)))
local macro_rules | `(tactic| walk_at "call builtin:max") => `(tactic| (k_here; (with_reducible show wpAny _ _ (call _ [Value.float _ _, Value.float _ _, Value.float _ _]) _ _ _); (rename News _ _ _ _ => N'); (rename Fr _ _ _ _ => F'); (with_unfolding_all refine max_three_ff rfl F' N' (fun _ _ _ F' N' => ?_)); try dsimp only))
local macro_rules | `(tactic| walk_at "call builtin:min") => `(tactic| (k_here; (with_reducible show wpAny _ _ (call _ [Value.float _ _, Value.float _ _, Value.float _ _]) _ _ _); (rename News _ _ _ _ => N'); (rename Fr _ _ _ _ => F'); (with_unfolding_all refine min_three_ff rfl F' N' (fun _ _ _ F' N' => ?_)); try dsimp only))

theorem rgb_spec {w : World} {pp : Program} {lo : List Str} {x y z : UInt64} {t1 t2 t3 : Tok} {news : List (Addr × Obj)} {mean : ExcName → Option Value} {mg mb : Str → Option Value}
    {dp un : Nat} {gd : Option (List Code)} {cn : Str} {cs : Scope} {a : Addr} {ccd : Value} {cl : List (Str × Addr)} {outer : List Env} {A₀ : Around} {base h₀ : Heap} {L : Addr} {m : Str → Option Value} {s : Shared} {Q E : Value → Shared → Prop}
    (B : Below A₀ base outer h₀) (F : Fr h₀ L s.heap m) (X : (hd.heap_39 w.params).In h₀) (N : News h₀ L s.heap news) (T : Top pp lo mean mg mb h₀) (hk : cs.kind = .function)
    (q1 : ¬ (Float64.cmp (min3 x y z) (max3 x y z) == some .eq) = true → Float64.isZero (max3 x y z) = false) (q2 : ¬ (Float64.cmp (min3 x y z) (max3 x y z) == some .eq) = true → Float64.isZero (Float64.sub (max3 x y z) (min3 x y z)) = false) (hD : dp + 20 < recursionLimit) (hU : un + 200 < cLine)
    (ret : ∀ (D : Addr) (a b c : UInt64) (k1 k2 k3 : Tok) (h' : Heap) (tk' : Nat), Fr h₀ L h' m → News h₀ L h' ((D, tupF3r a b c k1 k2 k3) :: news) → ((Float64.cmp (min3 x y z) (max3 x y z) == some .eq) = true → b = 0) → (¬ (Float64.cmp (min3 x y z) (max3 x y z) == some .eq) = true → a = hueF x y z) → (∀ p ∈ news, p.1 < D) → Q (.ref D) { s with heap := h', toks := tk' }) :
    wpAny (model PySem.Challenge.rw_pg0222_01.row.prog w) (PySem.W.ktrTop dp un gd cn cs L a ccd cl outer) (call (.ref 28) [.float x t1, .float y t2, .float z t3]) Q E s := by
  refine wpAny_call ?_
  k_dflt cell_enter
  k_steps
  all_goals (rename News _ _ _ _ => N9; refine ret _ _ _ _ _ _ _ _ _ (by assumption) N9 ?_ ?_ (by assumption) <;> clear ret N9)
  all_goals first
    | (intro; rfl)
    | (intro h9; exact (tf9 (b := Float64.cmp (min3 x y z) (max3 x y z) == some .eq) h9 (by assumption)).elim)
    | (intro h9; exact absurd (by assumption) h9)
    | (intro _; unfold hueF hueM hue0; (repeat' split) <;> first | rfl | contradiction | exact (tf9 (b := Float64.cmp x (max3 x y z) == some .eq) (by assumption) (by assumption)).elim | exact (tf9 (b := Float64.cmp y (max3 x y z) == some .eq) (by assumption) (by assumption)).elim)

end Mine
end
section
open PySem PySem.W PySem.Calls PyProof.Rows PyProof.Rows.LCg
set_option Elab.async false
set_option maxRecDepth 100000
set_option maxHeartbeats 4000000
namespace Mine
section
variable {prog : Program} {w : World} {A : Around} {E : Value → Shared → Prop} {s : Shared} {h₀ : Heap} {L : Addr} {m : Str → Option Value} {env : Env}

/-- the ledger bears a tuple of these items -/
def TupIn (ax : Addr) (its : Array Value) (news : List (Addr × Obj)) : Prop := ∃ o, (ax, o) ∈ news ∧ o.cls = .type "tuple" ∧ ∃ n, o.data = .seq its n
theorem TupIn.tuple {h : Heap} {ax : Addr} {its : Array Value} {news : List (Addr × Obj)} (x : TupIn ax its news) (N : News h₀ L h news) : h.IsTuple ax its := by
  obtain ⟨o, hm, hc, n, hd⟩ := x
  exact ⟨o, (N _ hm).1, hc, n, hd⟩
/-- the source of a comprehension, a tuple of the ledger -/
def SrcT (prog : Program) (w : World) (A : Around) (h₀ : Heap) (L : Addr) (m : Str → Option Value) (env : Env) (elt : Expr) (x : Str) (scope : Scope) (cl : List (Str × Addr)) (Fin : Shared → List Value → List (Addr × Obj) → Prop) (xv : Value) (s₁ : Shared) : Prop :=
  ∃ ax its news, xv = .ref ax ∧ A.handled = none ∧ Fr h₀ L s₁.heap m ∧ News h₀ L s₁.heap news ∧ TupIn ax its news ∧ its.size ≤ sizeLine ∧
    ∀ g, CompRest prog w A h₀ L m env elt x scope cl { s₁ with heap := g } (TupIn ax its) (fun i v => its[i]? = some v) (Fin { s₁ with heap := g }) its.size 0 [] news
theorem SrcT.ledger {elt : Expr} {x : Str} {scope : Scope} {cl : List (Str × Addr)} {Fin : Shared → List Value → List (Addr × Obj) → Prop} {ax : Addr} {its : Array Value} {k : Nat} {news : List (Addr × Obj)} {s₁ : Shared}
    (hh : A.handled = none) (F : Fr h₀ L s₁.heap m) (N : News h₀ L s₁.heap news) (hm : (ax, ({ cls := .type "tuple", data := .seq its k } : Obj)) ∈ news) (hsz : its.size ≤ sizeLine)
    (h : ∀ g, CompRest prog w A h₀ L m env elt x scope cl { s₁ with heap := g } (TupIn ax its) (fun i v => its[i]? = some v) (Fin { s₁ with heap := g }) its.size 0 [] news) :
    SrcT prog w A h₀ L m env elt x scope cl Fin (.ref ax) s₁ := ⟨ax, its, news, rfl, hh, F, N, ⟨_, hm, rfl, _, rfl⟩, hsz, h⟩

theorem assign_comp_tup {elt iter : Expr} {x y : Str} {px py : Pos} {scope : Scope} {cl : List (Str × Addr)} {pos spos : Pos} {Q : Flow → Shared → Prop} (_F₀ : Fr h₀ L s.heap m) (hLe : env.locals = L)
    (hsw : swapsWith (.ListComp elt [⟨.Name x px, iter, [], 0⟩] scope pos) (some (.Name y py)) spos.line env = pure true)
    (hclos : closureFor scope env = pure cl) (hcell : ∀ z ∈ scope.names, z.2 ≠ .cell) (hkind : scope.kind = .function)
    (hnames : ∀ z ∈ scope.names, z.2 = .local → scope.names.lookup z.1 = some .local) (hx : scope.names.lookup x = some .local)
    (hy : env.kindOf y = some .local) (hp : (env.scope.kind == .class || (env.scope.kind == .module && env.locals != env.globals)) = false)
    (h : wpAny (model prog w) A (eval iter env) (SrcT prog w A h₀ L m env elt x scope cl (fun s₂ => FinA h₀ L m s₂ y Q)) E s)
    (hs : ∀ x, foldedSetIterable iter env x = pure x := by intro _; rfl) :
    wpAny (model prog w) A (exec (.Assign [.Name y py] (.ListComp elt [⟨.Name x px, iter, [], 0⟩] scope pos) spos) env) Q E s := by
  subst hLe
  rw [exec_Assign_Name_used _ _ _ _ hsw]
  refine wpAny_bind (wpAny_standAt (wpAny_bind ?_))
  show wpAny _ A (do let _ ← comprehension (.ListComp elt [⟨.Name x px, iter, [], 0⟩] scope pos) scope env _ (newList []) false (eval iter env) (some (assign (.Name y py) env))) _ _ s
  refine wpAny_bind (wpAny_mono (wpAny_comprehension_free (use := some (assign (.Name y py) env)) (Q := fun _ s' => Q .next s') rfl hs hclos hkind hnames
    (wpAny_mono h (fun xv s₁ h₁ => ?_) fun _ _ e => e)) (fun _ s' hq => wpAny_pure (wpAny_pure hq)) fun _ _ e => e)
  obtain ⟨ax, its, news, rfl, hh, F, N, S, hsz, R⟩ := h₁
  have ht := S.tuple N
  have hlt : ax < s₁.heap.objs.size := by obtain ⟨_, e, _⟩ := ht; exact Heap.lt_size e
  have up : ∀ b o, s₁.heap.get? b = some o → (s₁.heap.push { cls := .type "tuple_iterator", data := .fields #[.ref ax, .int 0 0] }).get? b = some o := fun b o e => Heap.get?_push_of_some _ e
  refine wpAny_pyIter_tuple ht ?_
  refine block_U (Walks.tuple hh s₁.heap.objs.size ax (Nat.ne_of_lt hlt) its) hsz (fun i h st => by obtain ⟨o, e, _⟩ := st.1; exact ⟨o, e⟩)
    (fun i h h' o nw st e e' _ N S => ⟨by obtain ⟨o', q, r⟩ := st.1; rw [e] at q; cases q; exact ⟨o, e', r⟩, TupIn.tuple S N⟩) hcell hkind hx ⟨⟨_, Heap.get?_push_size _ rfl, rfl, rfl⟩, ht.push _⟩ (fun b hb => ?_)
    (F.keeps up) (N.grown up) (Nat.ne_of_lt F.ns.lt) (next_is_new F) (fun p hp => Nat.ne_of_lt (Heap.lt_size (N p hp).1)) S (R _) ?_
  · show b < (s₁.heap.push _).objs.size
    rw [Heap.size_push]
    simp only [List.mem_cons, List.not_mem_nil, or_false] at hb
    rcases hb with rfl | rfl
    · exact Nat.lt_succ_self _
    · exact Nat.lt_succ_of_lt hlt
  · intro D C h' tk m' ys news' F' N' o1 hn hC₀ hD₀ hCL hDL hCD offC fin
    show wpAny _ A (assign (.Name y py) env (.ref D)) _ _ _
    refine wpAny_assign_Name (wpAny_storeName_local hy F'.ns (fun h₂ hn₂ hs₂ => ?_) hp)
    have hL₀ : h₀.get? env.locals = none := Heap.get?_none_of_le F'.above
    have F₂ : Fr h₀ env.locals h₂ (fun z => if z = y then some (.ref D) else m z) := ⟨hn₂, fun b o e => hs₂.extBut b o (fun q => by rw [q, hL₀] at e; cases e) (F'.keep b o e), F'.above⟩
    refine ⟨m', hn.sameBut hs₂ hCL, fun h'' hs'' => fin D h'' _ (F₂.change hs'' hCL hC₀) (fun p hp => ?_) o1⟩
    have z : h₂.get? p.1 = some p.2 := hs₂.extBut _ _ (N' p hp).2.1 (N' p hp).1
    refine ⟨hs''.extBut _ _ ?_ z, (N' p hp).2⟩
    rcases List.mem_cons.mp hp with rfl | hp
    · exact Ne.symm hCD
    · exact offC p hp
end
end Mine
end
section
open PySem PySem.W PySem.W.X PyProof.Rows
set_option Elab.async false
set_option maxRecDepth 100000
namespace Mine
local macro_rules | `(tactic| walk_at "my_kind") => `(tactic| (first | exact rfl | assumption))
set_option maxHeartbeats 4000000
set_option linter.unusedVariables false

theorem fill22 (w : World) (h : Heap) : (hd.heap_39 w.params).In h → PySem.Challenge.rw_pg0222_01 = PySem.Challenge.rw_pg0222_01 := by
  k_fill
  intro _; rfl
local macro_rules | `(tactic| cell_enter) => `(tactic| (refine' code_def ?k1 ?k2 ?k3 ?k4 ?k5 ?kA ?kF ?kK ?k6 ?k7 ?k8 ?k9 ?kB ?_ ?c2 ?c3 ?c4 ?c5; (case kA => exact rfl); (case kF => exact rfl); (case kK => assumption); (case k1 => k_asm); (case k2 => k_asm); (case k3 => k_asm); (case k4 => k_asm); (case k5 => k_asm); (case k6 => k_is); (case k7 => k_is); (case k8 => ktr_room); (case k9 => first | exact BindsTo.of_eq rfl | exact binds_K (by k_in) rfl (by k_is) rfl rfl rfl); (case c5 => decide); (case kB => exact locs rfl); (case c2 => exact rfl); (case c3 => exact rfl); (case c4 => exact rfl); k_whole; intro g' L' h' FG' F' N' B' X' T'; (try dsimp only); (try k_lift B'); (try k_fold)))

theorem fin_parts {x z a b c : UInt64} (e : (a, b, c) = hvs x z) (q : ∀ y ∈ [(hvs x z).1, (hvs x z).2.1, (hvs x z).2.2], Float64.isFinite (Float64.add (Float64.mul y 4670232813583204352) 4602678819172646912) = true) :
    (Float64.isNaN (Float64.add (Float64.mul a 4670232813583204352) 4602678819172646912) = false ∧ Float64.isInf (Float64.add (Float64.mul a 4670232813583204352) 4602678819172646912) = false) ∧
    (Float64.isNaN (Float64.add (Float64.mul b 4670232813583204352) 4602678819172646912) = false ∧ Float64.isInf (Float64.add (Float64.mul b 4670232813583204352) 4602678819172646912) = false) ∧
    (Float64.isNaN (Float64.add (Float64.mul c 4670232813583204352) 4602678819172646912) = false ∧ Float64.isInf (Float64.add (Float64.mul c 4670232813583204352) 4602678819172646912) = false) := by
  rw [← e] at q
  exact ⟨⟨Flt.not_nan_of_finite (q a (.head _)), Flt.not_inf_of_finite (q a (.head _))⟩, ⟨Flt.not_nan_of_finite (q b (.tail _ (.head _))), Flt.not_inf_of_finite (q b (.tail _ (.head _)))⟩,
    ⟨Flt.not_nan_of_finite (q c (.tail _ (.tail _ (.head _)))), Flt.not_inf_of_finite (q c (.tail _ (.tail _ (.head _))))⟩⟩
theorem whole_no {x z a b c : UInt64} (e : (a, b, c) = hvs x z) (h : (toldF a).fmod 1024 ≠ 0 ∨ (toldF b).fmod 1024 ≠ 0 ∨ (toldF c).fmod 1024 ≠ 0) : IntsAre [] (wholeL x z) := by
  have : wholeL x z = [] := by
    unfold wholeL toldL
    rw [← e, if_pos]
    rcases h with h | h | h <;> simp [h]
  rw [this]; exact .nil
theorem whole_yes {x z a b c : UInt64} {t u v : Tok} (e : (a, b, c) = hvs x z) (h1 : (toldF a).fmod 1024 = 0) (h2 : (toldF b).fmod 1024 = 0) (h3 : (toldF c).fmod 1024 = 0) :
    IntsAre [.int ((toldF a).fdiv 1024) t, .int ((toldF b).fdiv 1024) u, .int ((toldF c).fdiv 1024) v] (wholeL x z) := by
  have : wholeL x z = [(toldF a).fdiv 1024, (toldF b).fdiv 1024, (toldF c).fdiv 1024] := by
    unfold wholeL toldL
    rw [← e, if_neg]
    · rfl
    · simp [h1, h2, h3]
  rw [this]; exact .cons _ _ (.cons _ _ (.cons _ _ .nil))
theorem off1_ne {D : Addr} : ∀ {l : List (Addr × Obj)}, LCg.Off1 D l → ∀ p ∈ l, p.1 ≠ D
  | [], _, _, h => nomatch h
  | _ :: _, x, p, h => by
    rcases List.mem_cons.mp h with rfl | h
    · exact x.1
    · exact off1_ne x.2 p h
local macro_rules | `(tactic| walk_at "call ref") => `(tactic| (k_here; k_dflt (refine' hsv_spec (by k_asm) (by k_asm) (by k_asm) (by k_asm) (by k_asm) (by walk_at "my_kind") (by assumption) (by assumption) (by ktr_room) (by ktr_units) ?_; k_whole); intro D' a' b' c' k1' k2' k3' h' tk' F' N' e9 l1; (obtain ⟨⟨q91, q92⟩, ⟨q93, q94⟩, ⟨q95, q96⟩⟩ := fin_parts e9 (by assumption)); (try dsimp only at N'); (try k_lt l1); (try dsimp only); (try k_sweep)))
local macro_rules | `(tactic| walk_at "exec Assign cons ListComp") => `(tactic| (k_here; k_dflt (refine assign_comp_tup (by k_asm) (by rfl) (by with_unfolding_all rfl) (by rfl) (by decide) (by rfl) (by decide) (by rfl) (by rfl) (by rfl) ?_)))
local macro_rules | `(tactic| walk_at "SrcT") => `(tactic| (k_here; k_dflt (refine SrcT.ledger (by rfl) (by k_asm) (by k_asm) (by k_mem) (by first | size_fits | exact Nat.le_of_ble_eq_true rfl) ?_; intro g'; lcg_lit)))
local macro_rules | `(tactic| walk_at "CompRest") => `(tactic| (with_unfolding_all first
  | (refine LCg.CompRest.succ ?_; intro v' I' oI' C' oC' D' m' h' tk' E' hv' hC' hx' F' N' off' ne'; lcg_open hv')
  | refine LCg.CompRest.zero ?_))
local macro_rules | `(tactic| walk_at "CompEnd") => `(tactic| refine LCg.CompEnd.intro (by assumption) (by assumption) _ (fun p hp => hp) (by assumption) (by lcg_src) ?_)
local macro_rules | `(tactic| lcg_src) => `(tactic| exact ⟨_, by k_mem, rfl, _, rfl⟩)

theorem whole_spec {w : World} {pp : Program} {lo : List Str} {x : UInt64} {c : Int} {t1 t2 : Tok} {news : List (Addr × Obj)} {mean : ExcName → Option Value} {mg mb : Str → Option Value}
    {dp un : Nat} {gd : Option (List Code)} {cn : Str} {cs : Scope} {a : Addr} {ccd : Value} {cl : List (Str × Addr)} {outer : List Env} {A₀ : Around} {base h₀ : Heap} {L : Addr} {m : Str → Option Value} {s : Shared} {Q E : Value → Shared → Prop}
    (B : Below A₀ base outer h₀) (F : Fr h₀ L s.heap m) (X : (hd.heap_39 w.params).In h₀) (N : News h₀ L s.heap news) (T : Top pp lo mean mg mb h₀) (hk : cs.kind = .function)
    (q1 : Float64.isFinite (Float64.mul x 4618441417868443648) = true) (q2 : ¬ Flt.Over (Flt.toInt Float64.truncOf (Float64.mul x 4618441417868443648))) (c0 : 1 ≤ c) (c1 : c ≤ 12) (q3 : ∀ y ∈ [(hvs x (fl16 c)).1, (hvs x (fl16 c)).2.1, (hvs x (fl16 c)).2.2], Float64.isFinite (Float64.add (Float64.mul y 4670232813583204352) 4602678819172646912) = true) (hD : dp + 60 < recursionLimit) (hU : un + 600 < cLine)
    (ret : ∀ (l : Addr) (vs : List Value) (nl : Nat) (h' : Heap) (tk' : Nat), Fr h₀ L h' m → News h₀ L h' ((l, listOf vs.toArray nl) :: news) → IntsAre vs (wholeL x (fl16 c)) → (∀ p ∈ news, p.1 ≠ l) → Q (.ref l) { s with heap := h', toks := tk' }) :
    wpAny (model PySem.Challenge.rw_pg0222_01.row.prog w) (PySem.W.ktrTop dp un gd cn cs L a ccd cl outer) (call (.ref 215) [.float x t1, .int c t2]) Q E s := by
  dsimp only [fl16] at q3
  have q4 : Float64.isNaN (Float64.mul x 4618441417868443648) = false := Flt.not_nan_of_finite q1
  have q5 : Float64.isInf (Float64.mul x 4618441417868443648) = false := Flt.not_inf_of_finite q1
  refine wpAny_call ?_
  k_dflt cell_enter
  k_steps
  all_goals (rename News _ _ _ _ => N9; first
    | (rename (_ ∧ _ ∧ _ ∧ AllLt _ _) => l9; refine ret _ [] _ _ _ (by assumption) (fun p hp => N9 p (by rcases List.mem_cons.mp hp with rfl | hp <;> first | exact .head _ | exact .tail _ (.tail _ (.tail _ (.tail _ hp))))) (whole_no (by assumption) ?_) (fun p hp => Nat.ne_of_lt (allLt_mem l9.2.2.2 p hp)))
    | (rename (_ ∧ _ ∧ _ ∧ LCg.Off1 _ _) => l9; refine ret _ _ _ _ _ (by assumption) (fun p hp => N9 p (by rcases List.mem_cons.mp hp with rfl | hp <;> first | exact .head _ | exact .tail _ (.tail _ (.tail _ (.tail _ hp))))) (whole_yes (by assumption) (by assumption) (by assumption) (by assumption)) (off1_ne l9.2.2.2)))
  all_goals first
    | exact .inl (by assumption)
    | exact .inr (.inl (by assumption))
    | exact .inr (.inr (by assumption))

end Mine
end
section
open PySem PySem.W PySem.Calls PyProof.Rows
set_option Elab.async false
set_option maxRecDepth 100000
set_option maxHeartbeats 4000000
namespace Mine
section
variable {prog : Program} {w : World} {A : Around} {E : Value → Shared → Prop} {s : Shared} {env : Env} {h₀ : Heap} {L : Addr} {m : Str → Option Value} {news : List (Addr × Obj)}

/-- the loop, its iterator made -/
def LoopGo (prog : Program) (w : World) (A : Around) (env : Env) (target : Expr) (body orelse : List Stmt) (Q : Flow → Shared → Prop) (E : Value → Shared → Prop) (it : Value) (s₂ : Shared) : Prop :=
  codeAny (model prog w) A (.forLoop target it body orelse env) (fun r s' => match r with | .ok f => Q f s' | .error e => cameBackBy (model prog w) A env E e s') s₂
/-- what a raise in a turn meets -/
abbrev LoopE (prog : Program) (w : World) (A : Around) (env : Env) (E : Value → Shared → Prop) : Value → Shared → Prop := notedBy (model prog w) A env fun e s' => cameBackBy (model prog w) A env E e s'
theorem for_go {target iter : Expr} {body orelse : List Stmt} {pos : Pos} {Q : Flow → Shared → Prop}
    (h : wpAny (model prog w) A (eval iter env) (fun x s₁ => wpAny (model prog w) A (pyIter x) (LoopGo prog w A env target body orelse Q E) E s₁) E s)
    (hs : ∀ x, foldedSetIterable iter env x = pure x := by intro _; rfl) :
    wpAny (model prog w) A (exec (.For target iter body orelse pos) env) Q E s := wpAny_For h hs

abbrev riter (x left : Int) : Obj := { cls := .type "range_iterator", dict := none, data := .fields #[rawInt x, rawInt left, rawInt 1], slots := #[] }
abbrev liter (l : Addr) (i : Nat) : Obj := { cls := .type "list_iterator", data := .fields #[.ref l, .int i 0] }

theorem led_set {h h' : Heap} {I : Addr} {o o' : Obj} (F : Fr h₀ L h m) (N : News h₀ L h ((I, o) :: news)) (hd : ∀ p ∈ news, p.1 ≠ I) (hI : h'.get? I = some o') (hk : Heap.ExtBut I h h') : Fr h₀ L h' m ∧ News h₀ L h' ((I, o') :: news) := by
  have z := N (I, o) (.head _)
  obtain ⟨oL, es, ep, hL, r⟩ := F.ns
  refine ⟨⟨⟨oL, es, ep, hk _ _ (Ne.symm z.2.1) hL, r⟩, fun b x e => hk b x (fun q => by rw [q, z.2.2] at e; cases e) (F.keep b x e), F.above⟩, fun p hp => ?_⟩
  rcases List.mem_cons.mp hp with rfl | hp
  · exact ⟨hI, z.2⟩
  · exact ⟨hk _ _ (hd p hp) (N p (.tail _ hp)).1, (N p (.tail _ hp)).2⟩
theorem led_drop {h h' : Heap} {I : Addr} {o : Obj} (F : Fr h₀ L h m) (N : News h₀ L h ((I, o) :: news)) (hd : ∀ p ∈ news, p.1 ≠ I) (hk : Heap.ExtBut I h h') : Fr h₀ L h' m ∧ News h₀ L h' news := by
  have z := N (I, o) (.head _)
  obtain ⟨oL, es, ep, hL, r⟩ := F.ns
  exact ⟨⟨⟨oL, es, ep, hk _ _ (Ne.symm z.2.1) hL, r⟩, fun b x e => hk b x (fun q => by rw [q, z.2.2] at e; cases e) (F.keep b x e), F.above⟩, fun p hp => ⟨hk _ _ (hd p hp) (N p (.tail _ hp)).1, (N p (.tail _ hp)).2⟩⟩

/-- the iterator of a range by ones, on the ledger -/
theorem rangeIter_led {r : Addr} {a b : Int} {t u v : Tok} {P : Value → Shared → Prop} (F : Fr h₀ L s.heap m) (N : News h₀ L s.heap news) (hr : IsRange s.heap r a b 1 t u v) (hsm : Builtin.Range.small a b 1 = true)
    (h : ∀ I h', Fr h₀ L h' m → News h₀ L h' ((I, riter a (Builtin.Range.rangeSize a b 1)) :: news) → (∀ p ∈ news, p.1 < I) → P (.ref I) { s with heap := h' }) :
    wpAny (model prog w) A (pyIter (.ref r)) P E s :=
  wpAny_pyIter_range hr hsm (h s.heap.objs.size _ (F.push _) (N.push F _) fun p hp => Heap.lt_size (N p hp).1)
theorem listIter_led {l : Addr} {vs : Array Value} {n : Nat} {P : Value → Shared → Prop} (F : Fr h₀ L s.heap m) (N : News h₀ L s.heap news) (hl : (l, ({ cls := .type "list", data := .seq vs n } : Obj)) ∈ news)
    (h : ∀ I h', Fr h₀ L h' m → News h₀ L h' ((I, liter l 0) :: news) → (∀ p ∈ news, p.1 < I) → P (.ref I) { s with heap := h' }) :
    wpAny (model prog w) A (pyIter (.ref l)) P E s :=
  wpAny_pyIter_list ⟨_, (N _ hl).1, rfl, n, rfl⟩ (h s.heap.objs.size _ (F.push _) (N.push F _) fun p hp => Heap.lt_size (N p hp).1)

/-- a name of the frame is bound -/
theorem led_bind {x : Str} {pos : Pos} {v : Value} {Q : Unit → Shared → Prop} (F : Fr h₀ L s.heap m) (N : News h₀ L s.heap news) (hL : env.locals = L) (hy : env.kindOf x = some .local)
    (hp : (env.scope.kind == .class || (env.scope.kind == .module && env.locals != env.globals)) = false)
    (h : ∀ h₂ tk, Fr h₀ L h₂ (fun z => if z = x then some v else m z) → News h₀ L h₂ news → Q () { s with heap := h₂, toks := tk }) : wpAny (model prog w) A (assign (.Name x pos) env v) Q E s := by
  subst hL
  refine wpAny_assign_Name (wpAny_storeName_local hy F.ns (fun h₂ hn₂ hs₂ => ?_) hp)
  have hL₀ : h₀.get? env.locals = none := Heap.get?_none_of_le F.above
  exact h h₂ _ ⟨hn₂, fun b o e => hs₂.extBut b o (fun q => by rw [q, hL₀] at e; cases e) (F.keep b o e), F.above⟩ fun p hp => ⟨hs₂.extBut _ _ (N p hp).2.1 (N p hp).1, (N p hp).2⟩

/-- a loop over a range by ones, by an invariant -/
theorem loop_range {target : Expr} {body orelse : List Stmt} {Q : Flow → Shared → Prop} {I : Addr} (a : Int) (n : Nat) (J : Nat → Shared → Prop) (hh : A.handled = none)
    (hI : ∀ k s, J k s → IsRangeIter s.heap I (a + k) ((n : Int) - k) 1)
    (turn : ∀ k s h', k < n → J k s → IsRangeIter h' I (a + k + 1) ((n : Int) - k - 1) 1 → Heap.SameBut I s.heap h' →
      wpAny (model prog w) A (assign target env (.int (a + k) s.toks)) (fun _ s₂ => wpAny (model prog w) A (execs body env) (fun f s₃ => match f with
        | .next | .cont => J (k + 1) s₃
        | .brk => Q .next s₃
        | .ret v => Q (.ret v) s₃) (LoopE prog w A env E) s₂) (LoopE prog w A env E) { s with heap := h', toks := s.toks + 1 })
    (done : ∀ s h', J n s → Heap.ExtBut I s.heap h' → wpAny (model prog w) A (execs orelse env) Q (LoopE prog w A env E) { s with heap := h' })
    (h0 : J 0 s) (ht : ∀ v, letOwnedTupleGo target (.ref I) v = pure () := by intro _; rfl) : LoopGo prog w A env target body orelse Q E (.ref I) s := by
  refine codeAny_forLoop (fun d s' => ∃ k, k ≤ n ∧ d = n - k ∧ J k s') ?_ n ⟨0, Nat.zero_le _, rfl, h0⟩ ht
  rintro d s' ⟨k, hk, rfl, hJ⟩
  have it := hI k s' hJ
  by_cases hlt : k < n
  · refine wpAny_pyNext_range_item it (by omega) fun h' hit' hs' => ?_
    refine wpAny_mono (turn k s' h' hlt hJ (by simpa using hit') hs') (fun _ s₂ h₂ => wpAny_mono h₂ (fun f s₃ h₃ => ?_) fun _ _ e => e) fun _ _ e => e
    cases f with
    | next => exact ⟨n - (k + 1), by omega, k + 1, hlt, rfl, h₃⟩
    | cont => exact ⟨n - (k + 1), by omega, k + 1, hlt, rfl, h₃⟩
    | brk => exact h₃
    | ret v => exact h₃
  · obtain rfl : k = n := by omega
    exact wpAny_pyNext_range_end hh it (by omega) fun h' hs' => done s' h' hJ hs'

/-- a loop over the items of a list of the ledger, by an invariant -/
theorem loop_list {target : Expr} {body orelse : List Stmt} {Q : Flow → Shared → Prop} {I l : Addr} (vs : Array Value) (J : Nat → Shared → Prop) (hh : A.handled = none)
    (hI : ∀ k s, J k s → s.heap.IsListIter I l k ∧ s.heap.IsList l vs)
    (turn : ∀ k s h' v, vs[k]? = some v → J k s → h'.IsListIter I l (k + 1) → Heap.SameBut I s.heap h' →
      wpAny (model prog w) A (assign target env v) (fun _ s₂ => wpAny (model prog w) A (execs body env) (fun f s₃ => match f with
        | .next | .cont => J (k + 1) s₃
        | .brk => Q .next s₃
        | .ret v => Q (.ret v) s₃) (LoopE prog w A env E) s₂) (LoopE prog w A env E) { s with heap := h' })
    (done : ∀ s h', J vs.size s → Heap.ExtBut I s.heap h' → wpAny (model prog w) A (execs orelse env) Q (LoopE prog w A env E) { s with heap := h' })
    (h0 : J 0 s) (ht : ∀ v, letOwnedTupleGo target (.ref I) v = pure () := by intro _; rfl) : LoopGo prog w A env target body orelse Q E (.ref I) s := by
  refine codeAny_forLoop (fun d s' => ∃ k, k ≤ vs.size ∧ d = vs.size - k ∧ J k s') ?_ vs.size ⟨0, Nat.zero_le _, rfl, h0⟩ ht
  rintro d s' ⟨k, hk, rfl, hJ⟩
  obtain ⟨it, hl⟩ := hI k s' hJ
  by_cases hlt : k < vs.size
  · refine wpAny_pyNext_list_item it hl (x := vs[k]) (by simp [hlt]) fun h' hit' hs' => ?_
    refine wpAny_mono (turn k s' h' vs[k] (by simp [hlt]) hJ hit' hs') (fun _ s₂ h₂ => wpAny_mono h₂ (fun f s₃ h₃ => ?_) fun _ _ e => e) fun _ _ e => e
    cases f with
    | next => exact ⟨vs.size - (k + 1), by omega, k + 1, hlt, rfl, h₃⟩
    | cont => exact ⟨vs.size - (k + 1), by omega, k + 1, hlt, rfl, h₃⟩
    | brk => exact h₃
    | ret v => exact h₃
  · obtain rfl : k = vs.size := by omega
    exact wpAny_pyNext_list_end hh it hl (by simp) fun h' hs' => done s' h' hJ hs'
end
end Mine
end
section
open PySem PySem.W PySem.W.X PyProof.Rows
set_option Elab.async false
set_option maxRecDepth 100000
namespace Mine
set_option maxHeartbeats 4000000
set_option linter.unusedVariables false

theorem range_up {n : Int} (h0 : 0 ≤ n) (h1 : n ≤ 1000) : Builtin.Range.small 0 n 1 = true ∧ Builtin.Range.rangeSize 0 n 1 = n := by
  have e : Builtin.Range.rangeSize 0 n 1 = n := by
    unfold Builtin.Range.rangeSize
    simp only [show ((1 : Int) > 0) by decide, if_true]
    by_cases h : n = 0
    · subst h; rfl
    · rw [if_pos (by omega), Int.ediv_one]; omega
  refine ⟨?_, e⟩
  unfold Builtin.Range.small
  rw [e]
  simp only [Builtin.Range.rangeFitsLong, Bool.and_eq_true, Bool.or_eq_true, decide_eq_true_eq, beq_iff_eq]
  refine ⟨⟨⟨⟨?_, ?_⟩, ?_⟩, ?_⟩, ?_⟩ <;> first | omega | decide | (simp; omega) | simp
theorem VF7.mono {fa fd ln x dx : Addr} {r r' : List (Addr × Obj)} (V : VF7 fa fd ln x dx r) (h : ∀ p ∈ r', ∃ q ∈ r, q.1 = p.1) : VF7 fa fd ln x dx r' := by
  obtain ⟨o1, o2, o3, o4, o5, r0, r1, r2, r3, r4, r5, r6⟩ := V
  refine ⟨o1, o2, o3, o4, o5, ?_, ?_, ?_, ?_, ?_, ?_, ?_⟩ <;> (intro p hp; obtain ⟨q, hq, e⟩ := h p hp; rw [← e]; first | exact r0 q hq | exact r1 q hq | exact r2 q hq | exact r3 q hq | exact r4 q hq | exact r5 q hq | exact r6 q hq)
/-- what holds between two turns of the loop of _law_last -/
def LastJ (w : World) (h₀ : Heap) (L : Addr) (m : Str → Option Value) (s : Shared) (fa fd ln x dx I : Addr) (W size : Nat) (k1 k2 k3 k4 k5 k6 t1 t2 t3 t4 tk : Tok) (rest : List (Addr × Obj)) (k : Nat) (s' : Shared) : Prop :=
  ∃ its lines n nl tv ps ps2 r u h tq g, s' = (⟨h, g, s.drawn, tq, s.os⟩ : Shared) ∧ AllBare g ∧ Fr h₀ L h (fun z => if z = Str.ofString "turn" then u else m z) ∧
    News h₀ L h (vf7 w fa fd ln x dx W k1 k2 k3 k4 k5 k6 t1 t2 t3 t4 tk its lines n nl tv ps ps2 ++ ((I, riter k ((size : Int) - k)) :: r)) ∧ VF7 fa fd ln x dx ((I, riter k ((size : Int) - k)) :: r) ∧ Tab1 ps ∧ Tab2 ps2 ∧ SemiIts its r ∧ StrsAre lines (List.replicate ((k - 1) / W) (semis W)) ∧
    its.length = (if k = 0 then 0 else (k - 1) % W + 1) ∧ (∀ p ∈ rest, p ∈ r) ∧ (∀ p ∈ r, p.1 ≠ I)
theorem step_lt0 : ∀ W < 13, ∀ k < 13, W = 0 ∨ k = 0 ∨ ¬ (k - 1) % W + 1 < W ∨ (k % W = (k - 1) % W + 1 ∧ k / W = (k - 1) / W) := by decide
theorem step_lt (W : Nat) (hW : W < 13) (k : Nat) (hk : k < 13) (h1 : 1 ≤ W) (h2 : 1 ≤ k) (h3 : (k - 1) % W + 1 < W) : k % W = (k - 1) % W + 1 ∧ k / W = (k - 1) / W := by
  rcases step_lt0 W hW k hk with h | h | h | h
  · omega
  · omega
  · exact absurd h3 h
  · exact h
theorem step_eq0 : ∀ W < 13, ∀ k < 13, W = 0 ∨ k = 0 ∨ ¬ (k - 1) % W + 1 = W ∨ (k % W = 0 ∧ k / W = (k - 1) / W + 1) := by decide
theorem step_eq (W : Nat) (hW : W < 13) (k : Nat) (hk : k < 13) (h1 : 1 ≤ W) (h2 : 1 ≤ k) (h3 : (k - 1) % W + 1 = W) : k % W = 0 ∧ k / W = (k - 1) / W + 1 := by
  rcases step_eq0 W hW k hk with h | h | h | h
  · omega
  · omega
  · exact absurd h3 h
  · exact h
theorem div_le12 : ∀ W < 13, ∀ k < 13, (k - 1) / W ≤ 100 := by decide
section
variable {prog : Program} {w : World} {A : Around} {E : Value → Shared → Prop} {s : Shared} {env : Env} {h₀ : Heap} {L : Addr} {m : Str → Option Value} {fa fd ln x dx I : Addr} {W size : Nat} {k1 k2 k3 k4 k5 k6 t1 t2 t3 t4 tk : Tok} {rest : List (Addr × Obj)}
theorem led_comm {h : Heap} {p : Addr × Obj} {A B : List (Addr × Obj)} (N : News h₀ L h (p :: (A ++ B))) : News h₀ L h (A ++ (p :: B)) := fun q hq => N q (by
  simp only [List.mem_append, List.mem_cons] at hq ⊢
  rcases hq with h | h | h <;> simp [h])
theorem led_comm' {h : Heap} {p : Addr × Obj} {A B : List (Addr × Obj)} (N : News h₀ L h (A ++ (p :: B))) : News h₀ L h (p :: (A ++ B)) := fun q hq => N q (by
  simp only [List.mem_append, List.mem_cons] at hq ⊢
  rcases hq with h | h | h <;> simp [h])
theorem last_next_a {k : Nat} {its lines : List Value} {nl n' : Nat} {tv : Tok} {ps' ps2 : Array Value} {r : List (Addr × Obj)} {u : Option Value} {t : Addr} {tf tg : Tok} {o : Obj} {g' : Array GenState} {h' : Heap} {tk' : Nat} {ALL : List (Addr × Obj)}
    (hk : k < size) (W1 : 1 ≤ W) (WS : W ≤ size) (S12 : size ≤ 12) (G : AllBare g') (F : Fr h₀ L h' (fun z => if z = Str.ofString "turn" then u else m z))
    (N : News h₀ L h' (vf7 w fa fd ln x dx W k1 k2 k3 k4 k5 k6 t1 t2 t3 t4 tk (its ++ [.ref t]) lines n' nl tv ps' ps2 ++ ([(t, tup2 (.str "" tf) (.str ";" tg))] ++ ((I, o) :: r)))) (ho : o = riter ((k + 1 : Nat) : Int) ((size : Int) - ((k + 1 : Nat) : Int)))
    (V : VF7 fa fd ln x dx ((I, o) :: r)) (h1 : Tab1 ps') (h2 : Tab2 ps2) (hs : SemiIts its r) (hl : StrsAre lines (List.replicate ((k - 1) / W) (semis W))) (hi : its.length = (if k = 0 then 0 else (k - 1) % W + 1)) (hw : (its.length : Int) < W)
    (hr : ∀ p ∈ rest, p ∈ r) (hI : ∀ p ∈ r, p.1 ≠ I) (hlt : ∀ p ∈ ALL ++ ((I, o) :: r), p.1 < t) (hall : ∀ y ∈ [fa, fd, ln, x, dx, 154, 161], ∃ p ∈ ALL, p.1 = y) :
    LastJ w h₀ L m s fa fd ln x dx I W size k1 k2 k3 k4 k5 k6 t1 t2 t3 t4 tk rest (k + 1) ⟨h', g', s.drawn, tk', s.os⟩ := by
  subst ho
  have hlt' : ∀ y ∈ [fa, fd, ln, x, dx, 154, 161], t ≠ y := fun y hy e => by
    obtain ⟨p, hp, rfl⟩ := hall y hy
    exact absurd (hlt p (List.mem_append_left _ hp)) (by rw [e]; exact Nat.lt_irrefl _)
  refine ⟨its ++ [.ref t], lines, n', nl, tv, ps', ps2, (t, tup2 (.str "" tf) (.str ";" tg)) :: r, u, h', tk', g', rfl, G, F, fun p hp => N p ?_, ?_, h1, h2, ?_, ?_, ?_, fun p hp => .tail _ (hr p hp), ?_⟩
  · simp only [List.mem_append, List.mem_cons, List.not_mem_nil, or_false] at hp ⊢
    rcases hp with h | h | h | h <;> simp [h]
  · obtain ⟨o1, o2, o3, o4, o5, r0, r1, r2, r3, r4, r5, r6⟩ := V
    have add : ∀ y, t ≠ y → (∀ p ∈ (I, riter ((k + 1 : Nat) : Int) ((size : Int) - ((k + 1 : Nat) : Int))) :: r, p.1 ≠ y) → ∀ p ∈ (I, riter ((k + 1 : Nat) : Int) ((size : Int) - ((k + 1 : Nat) : Int))) :: (t, tup2 (.str "" tf) (.str ";" tg)) :: r, p.1 ≠ y := by
      intro y hy h p hp
      simp only [List.mem_cons] at hp
      rcases hp with rfl | rfl | hp
      · exact h _ (.head _)
      · exact hy
      · exact h _ (.tail _ hp)
    exact ⟨o1, o2, o3, o4, o5, add _ (hlt' _ (by simp)) r0, add _ (hlt' _ (by simp)) r1, add _ (hlt' _ (by simp)) r2, add _ (hlt' _ (by simp)) r3, add _ (hlt' _ (by simp)) r4, add _ (hlt' _ (by simp)) r5, add _ (hlt' _ (by simp)) r6⟩
  · intro v hv
    rcases List.mem_append.mp hv with hv | hv
    · obtain ⟨a, b, c, e, hm⟩ := hs v hv
      exact ⟨a, b, c, e, .tail _ hm⟩
    · rw [List.mem_singleton.mp hv]
      exact ⟨t, tf, tg, rfl, .head _⟩
  · by_cases hk0 : k = 0
    · subst hk0; exact hl
    · rw [if_neg hk0] at hi
      have := (step_lt W (by omega) k (by omega) W1 (by omega) (by omega)).2
      rw [Nat.add_sub_cancel, this]; exact hl
  · rw [List.length_append, hi, if_neg (Nat.succ_ne_zero k), Nat.add_sub_cancel]
    by_cases hk0 : k = 0
    · subst hk0; simp
    · rw [if_neg hk0] at hi ⊢
      rw [(step_lt W (by omega) k (by omega) W1 (by omega) (by omega)).1]; rfl
  · intro p hp
    rcases List.mem_cons.mp hp with rfl | hp
    · exact Nat.ne_of_gt (hlt (I, _) (List.mem_append_right _ (.head _)))
    · exact hI p hp
theorem last_next_b {k : Nat} {its lines : List Value} {n' nl' nl2 : Nat} {tv ts : Tok} {ps' ps2 : Array Value} {r : List (Addr × Obj)} {u : Option Value} {t l : Addr} {tf tg : Tok} {o : Obj} {g' : Array GenState} {h' : Heap} {tk' : Nat} {ALL : List (Addr × Obj)}
    (hk : k < size) (W1 : 1 ≤ W) (WS : W ≤ size) (S12 : size ≤ 12) (G : AllBare g') (F : Fr h₀ L h' (fun z => if z = Str.ofString "turn" then u else m z))
    (N : News h₀ L h' (vf7 w fa fd ln x dx W k1 k2 k3 k4 k5 k6 t1 t2 t3 t4 tk [.ref t] (lines ++ [.str (semis its.length) ts]) n' nl' tv ps' ps2 ++ ([(l, listOf #[.ref t] nl2), (t, tup2 (.str "" tf) (.str ";" tg))] ++ ((I, o) :: r)))) (ho : o = riter ((k + 1 : Nat) : Int) ((size : Int) - ((k + 1 : Nat) : Int)))
    (V : VF7 fa fd ln x dx ((I, o) :: r)) (h1 : Tab1 ps') (h2 : Tab2 ps2) (hl : StrsAre lines (List.replicate ((k - 1) / W) (semis W))) (hi : its.length = (if k = 0 then 0 else (k - 1) % W + 1)) (hw : (its.length : Int) = W)
    (hr : ∀ p ∈ rest, p ∈ r) (hI : ∀ p ∈ r, p.1 ≠ I) (hlt : ∀ p ∈ ALL ++ ((I, o) :: r), p.1 < t) (hltl : ∀ p ∈ ALL ++ ((I, o) :: r), p.1 < l) (hall : ∀ y ∈ [fa, fd, ln, x, dx, 154, 161], ∃ p ∈ ALL, p.1 = y) :
    LastJ w h₀ L m s fa fd ln x dx I W size k1 k2 k3 k4 k5 k6 t1 t2 t3 t4 tk rest (k + 1) ⟨h', g', s.drawn, tk', s.os⟩ := by
  subst ho
  have hlt' : ∀ y ∈ [fa, fd, ln, x, dx, 154, 161], t ≠ y ∧ l ≠ y := fun y hy => by
    obtain ⟨p, hp, rfl⟩ := hall y hy
    exact ⟨Nat.ne_of_gt (hlt p (List.mem_append_left _ hp)), Nat.ne_of_gt (hltl p (List.mem_append_left _ hp))⟩
  have hk0 : k ≠ 0 := fun e => by rw [if_pos e] at hi; omega
  rw [if_neg hk0] at hi
  have st := step_eq W (by omega) k (by omega) W1 (by omega) (by omega)
  refine ⟨[.ref t], lines ++ [.str (semis its.length) ts], n', nl', tv, ps', ps2, (l, listOf #[.ref t] nl2) :: (t, tup2 (.str "" tf) (.str ";" tg)) :: r, u, h', tk', g', rfl, G, F, fun p hp => N p ?_, ?_, h1, h2, ?_, ?_, ?_, fun p hp => .tail _ (.tail _ (hr p hp)), ?_⟩
  · simp only [List.mem_append, List.mem_cons, List.not_mem_nil, or_false] at hp ⊢
    rcases hp with h | h | h | h | h <;> simp [h]
  · obtain ⟨o1, o2, o3, o4, o5, r0, r1, r2, r3, r4, r5, r6⟩ := V
    have add : ∀ y, t ≠ y ∧ l ≠ y → (∀ p ∈ (I, riter ((k + 1 : Nat) : Int) ((size : Int) - ((k + 1 : Nat) : Int))) :: r, p.1 ≠ y) → ∀ p ∈ (I, riter ((k + 1 : Nat) : Int) ((size : Int) - ((k + 1 : Nat) : Int))) :: (l, listOf #[.ref t] nl2) :: (t, tup2 (.str "" tf) (.str ";" tg)) :: r, p.1 ≠ y := by
      intro y hy h p hp
      simp only [List.mem_cons] at hp
      rcases hp with rfl | rfl | rfl | hp
      · exact h _ (.head _)
      · exact hy.2
      · exact hy.1
      · exact h _ (.tail _ hp)
    exact ⟨o1, o2, o3, o4, o5, add _ (hlt' _ (by simp)) r0, add _ (hlt' _ (by simp)) r1, add _ (hlt' _ (by simp)) r2, add _ (hlt' _ (by simp)) r3, add _ (hlt' _ (by simp)) r4, add _ (hlt' _ (by simp)) r5, add _ (hlt' _ (by simp)) r6⟩
  · intro v hv
    rw [List.mem_singleton.mp hv]
    exact ⟨t, tf, tg, rfl, .tail _ (.head _)⟩
  · have e : its.length = W := by omega
    rw [Nat.add_sub_cancel, st.2, List.replicate_succ', e]
    exact strsAre_snoc hl
  · rw [if_neg (Nat.succ_ne_zero k), Nat.add_sub_cancel, st.1]; rfl
  · intro p hp
    rcases List.mem_cons.mp hp with rfl | hp
    · exact Nat.ne_of_gt (hltl (I, _) (List.mem_append_right _ (.head _)))
    · rcases List.mem_cons.mp hp with rfl | hp
      · exact Nat.ne_of_gt (hlt (I, _) (List.mem_append_right _ (.head _)))
      · exact hI p hp
theorem vf7_all {its lines : List Value} {n nl : Nat} {wd : Int} {tv : Tok} {ps ps2 : Array Value} : ∀ y ∈ [fa, fd, ln, x, dx, 154, 161], ∃ p ∈ vf7 w fa fd ln x dx wd k1 k2 k3 k4 k5 k6 t1 t2 t3 t4 tk its lines n nl tv ps ps2, p.1 = y := by
  intro y hy
  simp only [List.mem_cons, List.not_mem_nil, or_false] at hy
  rcases hy with rfl | rfl | rfl | rfl | rfl | rfl | rfl <;> exact ⟨(_, _), by unfold vf7; first | exact .head _ | exact .tail _ (.head _) | exact .tail _ (.tail _ (.head _)) | exact .tail _ (.tail _ (.tail _ (.head _))) | exact .tail _ (.tail _ (.tail _ (.tail _ (.head _)))) | exact .tail _ (.tail _ (.tail _ (.tail _ (.tail _ (.head _))))) | exact .tail _ (.tail _ (.tail _ (.tail _ (.tail _ (.tail _ (.head _)))))), rfl⟩
/-- the loop of _law_last -/
theorem last_loop {body orelse : List Stmt} {pos : Pos} {Q : Flow → Shared → Prop} {n₀ : Nat} {tv : Tok} {ps ps2 : Array Value} {lft : Int} (hh : A.handled = none) (hL : env.locals = L) (hy : env.kindOf (Str.ofString "turn") = some .local)
    (hp : (env.scope.kind == .class || (env.scope.kind == .module && env.locals != env.globals)) = false)
    (G : AllBare s.gens) (F : Fr h₀ L s.heap m) (N : News h₀ L s.heap ((I, riter 0 lft) :: (vf7 w fa fd ln x dx W k1 k2 k3 k4 k5 k6 t1 t2 t3 t4 tk [] [] n₀ 0 tv ps ps2 ++ rest))) (hlft : lft = size) (V : VF7 fa fd ln x dx rest) (h1 : Tab1 ps) (h2 : Tab2 ps2)
    (hlt : ∀ p ∈ vf7 w fa fd ln x dx W k1 k2 k3 k4 k5 k6 t1 t2 t3 t4 tk [] [] n₀ 0 tv ps ps2 ++ rest, p.1 < I) (W1 : 1 ≤ W) (WS : W ≤ size) (S12 : size ≤ 12)
    (turn : ∀ k its lines n nl tv ps ps2 r t h tq g, k < size → AllBare g → Fr h₀ L h (fun z => if z = Str.ofString "turn" then some (.int k t) else m z) →
      News h₀ L h (vf7 w fa fd ln x dx W k1 k2 k3 k4 k5 k6 t1 t2 t3 t4 tk its lines n nl tv ps ps2 ++ ((I, riter ((k + 1 : Nat) : Int) ((size : Int) - ((k + 1 : Nat) : Int))) :: r)) → VF7 fa fd ln x dx ((I, riter ((k + 1 : Nat) : Int) ((size : Int) - ((k + 1 : Nat) : Int))) :: r) → Tab1 ps → Tab2 ps2 →
      SemiIts its r → SemiIts its ((I, riter ((k + 1 : Nat) : Int) ((size : Int) - ((k + 1 : Nat) : Int))) :: r) → StrsAre lines (List.replicate ((k - 1) / W) (semis W)) → lines.length ≤ 100 → its.length ≤ 50 →
      its.length = (if k = 0 then 0 else (k - 1) % W + 1) → (its.length : Int) ≤ W → (∀ p ∈ rest, p ∈ r) → (∀ p ∈ r, p.1 ≠ I) →
      wpAny (model prog w) A (execs body env) (fun f s₃ => match f with
        | .next | .cont => LastJ w h₀ L m s fa fd ln x dx I W size k1 k2 k3 k4 k5 k6 t1 t2 t3 t4 tk rest (k + 1) s₃
        | .brk => Q .next s₃
        | .ret v => Q (.ret v) s₃) (LoopE prog w A env E) ⟨h, g, s.drawn, tq, s.os⟩)
    (done : ∀ its lines n nl tv ps ps2 r u h tq g, AllBare g → Fr h₀ L h (fun z => if z = Str.ofString "turn" then u else m z) →
      News h₀ L h (vf7 w fa fd ln x dx W k1 k2 k3 k4 k5 k6 t1 t2 t3 t4 tk its lines n nl tv ps ps2 ++ r) → VF7 fa fd ln x dx r → Tab1 ps → Tab2 ps2 → SemiIts its r → StrsAre lines (List.replicate ((size - 1) / W) (semis W)) → lines.length ≤ 100 → its.length ≤ 50 →
      its.length = (size - 1) % W + 1 → 1 ≤ its.length → (∀ p ∈ rest, p ∈ r) →
      wpAny (model prog w) A (execs orelse env) Q (LoopE prog w A env E) ⟨h, g, s.drawn, tq, s.os⟩)
    : LoopGo prog w A env (.Name (Str.ofString "turn") pos) body orelse Q E (.ref I) s := by
  subst hlft
  refine loop_range 0 size (LastJ w h₀ L m s fa fd ln x dx I W size k1 k2 k3 k4 k5 k6 t1 t2 t3 t4 tk rest) hh ?_ ?_ ?_ ?_
  · rintro k s' ⟨its, lines, n, nl, tv, ps, ps2, r, u, h, tq, g, rfl, G, F, N, -⟩
    have := (N (I, riter k ((size : Int) - k)) (List.mem_append_right _ (.head _))).1
    simpa using this
  · rintro k s' h' hk ⟨its, lines, n, nl, tv, ps, ps2, r, u, h, tq, g, rfl, G, F, N, V, h1, h2, hs, hl, hi, hr, hI⟩ hit hsb
    have off : ∀ p ∈ vf7 w fa fd ln x dx W k1 k2 k3 k4 k5 k6 t1 t2 t3 t4 tk its lines n nl tv ps ps2 ++ r, p.1 ≠ I := by
      intro p hp
      rcases List.mem_append.mp hp with hp | hp
      · have z := V
        obtain ⟨o1, o2, o3, o4, o5, r0, r1, r2, r3, r4, r5, r6⟩ := V
        have z0 := r0 _ (.head _); have z1 := r1 _ (.head _); have z2 := r2 _ (.head _); have z3 := r3 _ (.head _); have z4 := r4 _ (.head _); have z5 := r5 _ (.head _); have z6 := r6 _ (.head _)
        unfold vf7 at hp
        simp only [List.mem_cons, List.not_mem_nil, or_false] at hp
        rcases hp with rfl | rfl | rfl | rfl | rfl | rfl | rfl
        · exact Ne.symm z0
        · exact Ne.symm z1
        · exact Ne.symm z2
        · exact Ne.symm z3
        · exact Ne.symm z4
        · exact Ne.symm z5
        · exact Ne.symm z6
      · exact hI p hp
    have hit' : h'.get? I = some (riter ((k + 1 : Nat) : Int) ((size : Int) - ((k + 1 : Nat) : Int))) := by
      have e : h'.get? I = _ := hit
      rw [e]
      have e1 : (0 : Int) + k + 1 = ((k + 1 : Nat) : Int) := by omega
      have e2 : (size : Int) - k - 1 = (size : Int) - ((k + 1 : Nat) : Int) := by omega
      rw [e1, e2]
    obtain ⟨F', N'⟩ := led_set F (led_comm' N) off hit' hsb.extBut
    refine led_bind F' N' hL hy hp fun h₂ tk F₂ N₂ => ?_
    have F₃ : Fr h₀ L h₂ (fun z => if z = Str.ofString "turn" then some (.int ((k : Nat) : Int) tq) else m z) := by
      have e : (fun z => if z = Str.ofString "turn" then some (Value.int ((k : Nat) : Int) tq) else m z) = fun z => if z = Str.ofString "turn" then some (Value.int (0 + (k : Int)) tq) else (fun z => if z = Str.ofString "turn" then u else m z) z := by
        funext z
        by_cases hz : z = Str.ofString "turn" <;> simp [hz]
      rw [e]; exact F₂
    have hle : (its.length : Int) ≤ W := by
      rw [hi]; split
      · omega
      · have := Nat.mod_lt (k - 1) W1; omega
    refine turn k its lines n nl tv ps ps2 r tq h₂ _ g hk G F₃ (led_comm N₂) (V.mono fun p hp => ?_) h1 h2 hs (fun v hv => ?_) hl ?_ (by omega) hi hle hr hI
    · rcases List.mem_cons.mp hp with rfl | hp
      · exact ⟨_, .head _, rfl⟩
      · exact ⟨p, .tail _ hp, rfl⟩
    · obtain ⟨a, b, c, e, hm⟩ := hs v hv
      exact ⟨a, b, c, e, .tail _ hm⟩
    · rw [strsAre_length hl, List.length_replicate]
      exact div_le12 W (by omega) k (by omega)
  · rintro s' h' ⟨its, lines, n, nl, tv, ps, ps2, r, u, h, tq, g, rfl, G, F, N, V, h1, h2, hs, hl, hi, hr, hI⟩ hsb
    have off : ∀ p ∈ vf7 w fa fd ln x dx W k1 k2 k3 k4 k5 k6 t1 t2 t3 t4 tk its lines n nl tv ps ps2 ++ r, p.1 ≠ I := by
      intro p hp
      rcases List.mem_append.mp hp with hp | hp
      · obtain ⟨o1, o2, o3, o4, o5, r0, r1, r2, r3, r4, r5, r6⟩ := V
        have z0 := r0 _ (.head _); have z1 := r1 _ (.head _); have z2 := r2 _ (.head _); have z3 := r3 _ (.head _); have z4 := r4 _ (.head _); have z5 := r5 _ (.head _); have z6 := r6 _ (.head _)
        unfold vf7 at hp
        simp only [List.mem_cons, List.not_mem_nil, or_false] at hp
        rcases hp with rfl | rfl | rfl | rfl | rfl | rfl | rfl
        · exact Ne.symm z0
        · exact Ne.symm z1
        · exact Ne.symm z2
        · exact Ne.symm z3
        · exact Ne.symm z4
        · exact Ne.symm z5
        · exact Ne.symm z6
      · exact hI p hp
    obtain ⟨F', N'⟩ := led_drop F (led_comm' N) off hsb
    have s0 : size ≠ 0 := by omega
    rw [if_neg s0] at hi
    have := Nat.mod_lt (size - 1) W1
    refine done its lines n nl tv ps ps2 r u h' tq g G F' N' (V.mono fun p hp => ⟨p, .tail _ hp, rfl⟩) h1 h2 hs hl ?_ (by omega) hi (by omega) hr
    rw [strsAre_length hl, List.length_replicate]
    exact div_le12 W (by omega) size (by omega)
  · refine ⟨[], [], n₀, 0, tv, ps, ps2, rest, m (Str.ofString "turn"), s.heap, s.toks, s.gens, rfl, G, ?_, ?_, ?_, h1, h2, (fun v hv => by cases hv), ?_, rfl, fun p hp => hp, fun p hp => Nat.ne_of_lt (hlt p (List.mem_append_right _ hp))⟩
    · have e : (fun z => if z = Str.ofString "turn" then m (Str.ofString "turn") else m z) = m := by
        funext z
        by_cases hz : z = Str.ofString "turn"
        · simp [hz]
        · simp [hz]
      rw [e]; exact F
    · have e : (size : Int) - ((0 : Nat) : Int) = size := by omega
      rw [e]; exact led_comm N
    · have z : ∀ y ∈ [fa, fd, ln, x, dx, 154, 161], I ≠ y := fun y hy => by
        obtain ⟨p, hp, rfl⟩ := vf7_all (w := w) (its := []) (lines := []) (n := n₀) (nl := 0) (wd := W) (tv := tv) (ps := ps) (ps2 := ps2) (k1 := k1) (k2 := k2) (k3 := k3) (k4 := k4) (k5 := k5) (k6 := k6) (t1 := t1) (t2 := t2) (t3 := t3) (t4 := t4) (tk := tk) y hy
        exact Nat.ne_of_gt (hlt p (List.mem_append_left _ hp))
      obtain ⟨o1, o2, o3, o4, o5, r0, r1, r2, r3, r4, r5, r6⟩ := V
      have add : ∀ y, I ≠ y → (∀ p ∈ rest, p.1 ≠ y) → ∀ p ∈ (I, riter ((0 : Nat) : Int) ((size : Int) - ((0 : Nat) : Int))) :: rest, p.1 ≠ y := by
        intro y hy h p hp
        rcases List.mem_cons.mp hp with rfl | hp
        · exact hy
        · exact h p hp
      exact ⟨o1, o2, o3, o4, o5, add _ (z _ (by simp)) r0, add _ (z _ (by simp)) r1, add _ (z _ (by simp)) r2, add _ (z _ (by simp)) r3, add _ (z _ (by simp)) r4, add _ (z _ (by simp)) r5, add _ (z _ (by simp)) r6⟩
    · rw [Nat.zero_sub, Nat.zero_div]; exact .nil
end

end Mine
end
section
open PySem PySem.W PySem.Calls PyProof.Rows
set_option Elab.async false
set_option maxRecDepth 100000
set_option maxHeartbeats 4000000
namespace Mine
theorem cut_first {c : Nat} : ∀ {a b r s : List Nat}, c ∉ a → c ∉ b → a ++ c :: r = b ++ c :: s → a = b ∧ r = s
  | [], [], _, _, _, _, h => ⟨rfl, (List.cons.inj h).2⟩
  | [], y :: b, _, _, _, hb, h => absurd (List.mem_cons.mpr (.inl (List.cons.inj h).1)) hb
  | x :: a, [], _, _, ha, _, h => absurd (List.mem_cons.mpr (.inl (List.cons.inj h).1.symm)) ha
  | x :: a, y :: b, _, _, ha, hb, h => by
    obtain ⟨e1, e2⟩ := List.cons.inj h
    obtain ⟨e3, e4⟩ := cut_first (fun m => ha (.tail _ m)) (fun m => hb (.tail _ m)) e2
    exact ⟨by rw [e1, e3], e4⟩
theorem join_cons (c : Nat) (x y : Str) (r : List Str) : (Str.join ⟨#[c]⟩ (x :: y :: r)).cps.toList = x.cps.toList ++ c :: (Str.join ⟨#[c]⟩ (y :: r)).cps.toList := by
  show ((x.cps ++ #[c]) ++ (Str.join ⟨#[c]⟩ (y :: r)).cps).toList = _
  simp
theorem str_ext {x y : Str} (h : x.cps.toList = y.cps.toList) : x = y := Str.ext' (Array.toList_inj.mp h)
theorem join_inj {c : Nat} : ∀ {a b : List Str}, a ≠ [] → b ≠ [] → (∀ p ∈ a, c ∉ p.cps.toList) → (∀ p ∈ b, c ∉ p.cps.toList) → Str.join ⟨#[c]⟩ a = Str.join ⟨#[c]⟩ b → a = b
  | [], _, h, _, _, _, _ => absurd rfl h
  | _ :: _, [], _, h, _, _, _ => absurd rfl h
  | [x], [y], _, _, _, _, h => by rw [show x = y from h]
  | [x], y :: z :: r, _, _, ha, _, h => by
    have e : x.cps.toList = _ := (congrArg (fun s : Str => s.cps.toList) h).trans (join_cons c y z r)
    exact absurd (by rw [e]; simp) (ha x (.head _))
  | x :: z :: r, [y], _, _, _, hb, h => by
    have e : y.cps.toList = _ := (congrArg (fun s : Str => s.cps.toList) h.symm).trans (join_cons c x z r)
    exact absurd (by rw [e]; simp) (hb y (.head _))
  | x :: z :: r, y :: z' :: r', _, _, ha, hb, h => by
    have e := (join_cons c x z r).symm.trans ((congrArg (fun s : Str => s.cps.toList) h).trans (join_cons c y z' r'))
    obtain ⟨e1, e2⟩ := cut_first (ha x (.head _)) (hb y (.head _)) e
    rw [str_ext e1, join_inj (by simp) (by simp) (fun p hp => ha p (.tail _ hp)) (fun p hp => hb p (.tail _ hp)) (str_ext e2)]
theorem split_join {c : Nat} {a : List Str} (h0 : a ≠ []) (h : ∀ p ∈ a, c ∉ p.cps.toList) : Txt.split (Txt.join ⟨#[c]⟩ a) ⟨#[c]⟩ = a := by
  refine join_inj ?_ h0 (StrLaws.split_free _ c) h ?_
  · intro e
    have := split_pos (Txt.join ⟨#[c]⟩ a) ⟨#[c]⟩
    rw [e] at this; exact absurd this (by decide)
  · rw [StrLaws.join_split]
    exact StrLaws.glued_eq_join _ _
theorem semis_free (k : Nat) : 10 ∉ (semis k).cps.toList := by
  unfold semis
  simp
theorem rows_split {ys : List Str} {k : Nat} (h : ∀ y ∈ ys, ∃ j, y = semis j) : Txt.split (Txt.join "\n" (ys ++ [semis k])) "\n" = ys ++ [semis k] := by
  have e : ("\n" : Str) = ⟨#[10]⟩ := by decide
  rw [e]
  refine split_join (by simp) fun p hp => ?_
  rcases List.mem_append.mp hp with hp | hp
  · obtain ⟨j, rfl⟩ := h p hp; exact semis_free j
  · rw [List.mem_singleton.mp hp]; exact semis_free k
theorem rows_len {ys : List Str} {k : Nat} (h : ∀ y ∈ ys, y.length ≤ 50) (hk : k ≤ 50) (hy : ys.length ≤ 100) : (Txt.join "\n" (ys ++ [semis k])).length ≤ 10000 := by
  have e : Txt.join "\n" (ys ++ [semis k]) = Str.join "\n" (ys ++ [semis k]) := StrLaws.glued_eq_join _ _
  rw [e]
  have h1 := StrLaws.join_length_le "\n" (ys ++ [semis k])
  have h2 := sum_le_50 h
  have e2 : ("\n" : Str).length = 1 := by decide
  rw [e2, List.map_append, List.sum_append, List.length_append, List.map_cons, List.map_nil, List.sum_cons, List.sum_nil, semis_length, List.length_singleton] at h1
  omega
section
variable {prog : Program} {w : World} {A : Around} {E : Value → Shared → Prop} {s : Shared} {h₀ : Heap} {L : Addr} {m : Str → Option Value} {news : List (Addr × Obj)} {Q : Value → Shared → Prop}
/-- the cut of the rows told by their newlines -/
theorem split_rows {ys : List Str} {k : Nat} {t u : Tok} (F : Fr h₀ L s.heap m) (N : News h₀ L s.heap news) (h1 : ∀ y ∈ ys, ∃ j, y = semis j) (h2 : ∀ y ∈ ys, y.length ≤ 50) (hk : k ≤ 50) (hy : ys.length ≤ 100)
    (h : ∀ D vs v h' tk, Fr h₀ L h' m → News h₀ L h' ((D, listOf (vs ++ [.str (semis k) v]).toArray 0) :: news) → vs.length ≤ 100 → Q (.ref D) { s with heap := h', toks := tk }) :
    wpAny (model prog w) A (call (.builtin "str.split") [.str (Txt.join "\n" (ys ++ [semis k])) t, .str "\n" u]) Q E s := by
  refine KSpl.split1 F N (by decide) (fun D l h' tk e _ F' N' _ => ?_) ?_
  · rw [rows_split h1] at e
    obtain ⟨l0, q, rfl⟩ : ∃ l0 q, l = l0 ++ [q] := by
      rcases List.eq_nil_or_concat l with rfl | ⟨l0, q, rfl⟩
      · simp at e
      · exact ⟨l0, q, by simp⟩
    rw [List.map_append, List.map_cons, List.map_nil] at e
    obtain ⟨e1, e2⟩ := List.append_inj' e rfl
    obtain ⟨z, v⟩ := q
    have e3 : z = semis k := (List.cons.inj e2).1
    subst e3
    have e4 : strValues (l0 ++ [(semis k, v)]) = strValues l0 ++ [.str (semis k) v] := by simp [strValues]
    rw [e4] at N'
    refine h D _ v h' tk F' N' ?_
    have := congrArg List.length e1
    rw [List.length_map] at this
    simp only [strValues, List.length_map]
    omega
  · have := rows_len h2 hk hy
    rw [sizeLine_eq]; omega
theorem len_semis {k : Nat} {t : Tok} (hk : k ≤ 50) (h : Q (.int (k : Int) (s.toks + 1)) { s with toks := s.toks + 1 + 1 }) : wpAny (model prog w) A (call (.builtin "len") [.str (semis k) t]) Q E s :=
  len_str (by rw [semis_length]; omega) (by rw [semis_length]; exact h)
/-- the last item of a list of the ledger -/
theorem last_item {value slice : Expr} {D : Addr} {vs : List Value} {v : Value} {n : Nat} {t : Tok} (N : News h₀ L s.heap news) (hm : (D, listOf (vs ++ [v]).toArray n) ∈ news) (hl : vs.length ≤ 100) (h : Q v s)
    (hs : subscripted slice false (.ref D) (.int (-1) t) = operate [.ref D, .int (-1) t] (getItem (.ref D) (.int (-1) t)) := by with_unfolding_all rfl) :
    wpAny (model prog w) A (subscriptTail value slice (.ref D) (.int (-1) t)) Q E s := by
  have hD : s.heap.IsList D (vs ++ [v]).toArray := ⟨_, (N _ hm).1, rfl, _, rfl⟩
  have hz : (vs ++ [v]).toArray.size = vs.length + 1 := by simp
  refine tail_any hD.typeIs slot_list_getitem.lookup (wpAny_getItem_list_neg hD (by decide) ?_ (by decide) ?_ h) hs
  · rw [hz]; omega
  · rw [hz]
    have e : ((-1 : Int) + ((vs.length + 1 : Nat) : Int)).toNat = vs.length := by omega
    rw [e]; simp
end
end Mine
end
section
open PySem PySem.W PySem.W.X PyProof.Rows
set_option Elab.async false
set_option maxRecDepth 100000
namespace Mine
local macro_rules | `(tactic| walk_at "my_kind") => `(tactic| (first | exact rfl | assumption))
set_option maxHeartbeats 4000000
set_option linter.unusedVariables false

theorem fill23 (w : World) (h : Heap) : (hd.heap_39 w.params).In h → PySem.Challenge.rw_pg0222_01 = PySem.Challenge.rw_pg0222_01 := by
  k_fill
  intro _; rfl
local macro_rules | `(tactic| cell_enter) => `(tactic| (refine' code_def ?k1 ?k2 ?k3 ?k4 ?k5 ?kA ?kF ?kK ?k6 ?k7 ?k8 ?k9 ?kB ?_ ?c2 ?c3 ?c4 ?c5; (case kA => exact rfl); (case kF => exact rfl); (case kK => assumption); (case k1 => k_asm); (case k2 => k_asm); (case k3 => k_asm); (case k4 => k_asm); (case k5 => k_asm); (case k6 => k_is); (case k7 => k_is); (case k8 => ktr_room); (case k9 => first | exact BindsTo.of_eq rfl | exact binds_K (by k_in) rfl (by k_is) rfl rfl rfl); (case c5 => decide); (case kB => exact locs rfl); (case c2 => exact rfl); (case c3 => exact rfl); (case c4 => exact rfl); k_whole; intro g' L' h' FG' F' N' B' X' T'; (try dsimp only); (try k_lift B'); (try k_fold)))
local macro_rules | `(tactic| walk_at "call ref") => `(tactic| (k_here; k_dflt (refine' str56_spec (by k_asm) (by k_asm) (by k_asm) (by k_asm) (by k_asm) (by walk_at "my_kind") (by assumption) (by assumption) (by assumption) (by assumption) (by assumption) (by assumption) (by assumption) (by assumption) (by assumption) (by assumption) (by ktr_room) (by ktr_units) ?_; k_whole)))
local macro_rules | `(tactic| walk_at "call builtin:str.split") => `(tactic| (k_here; k_dflt (refine' split_rows (by k_asm) (by k_asm) (by assumption) (by assumption) (by assumption) (by assumption) ?_; k_whole); intro D' vs' v' h' tk' F' N' l1; (try dsimp only)))
local macro_rules | `(tactic| walk_at "call builtin:len") => `(tactic| (k_here; (with_reducible show wpAny _ _ (call (Value.builtin "len") [Value.str (semis _) _]) _ _ _); k_dflt (refine' len_semis (by assumption) ?_; k_whole); (try dsimp only)))
local macro_rules | `(tactic| walk_at "subscriptTail") => `(tactic| (k_here; k_dflt (refine' last_item (by k_asm) (by exact .head _) (by assumption) ?_ (by with_unfolding_all rfl); k_whole); (try dsimp only)))
local macro_rules | `(tactic| walk_at "call ref") => `(tactic| (k_here; k_dflt (refine' vfnew_spec (by k_asm) (by k_asm) (by k_asm) (by k_asm) (by k_asm) (by walk_at "my_kind") (by assumption) (by assumption) (by ktr_room) (by ktr_units) ?_; k_whole); intro fa' fd' ln' x' dx' k1' k2' k3' k4' k5' k6' u1' u2' u3' u4' tk' tv' n' h' tq' F' N' V' l1; (try dsimp only)))
local macro_rules | `(tactic| walk_at "exec For Name Call cons nil") => `(tactic| (k_here; k_dflt (refine for_go ?_)))
local macro_rules | `(tactic| walk_at "pyIter ref") => `(tactic| (k_here; (rename Fr _ _ _ _ => F9); (rename News _ _ _ _ => N9); (rename IsRange _ _ _ _ _ _ _ _ => R9); refine rangeIter_led F9 N9 R9 (range_up (by omega) (by omega)).1 ?_; intro I' h' F' N' l1; (try dsimp only)))
local macro_rules | `(tactic| walk_at "call ref") => `(tactic| (k_here; k_dflt (refine' append_a (by k_asm) (by k_asm) (by k_asm) (by k_asm) (by k_asm) (by walk_at "my_kind") (by assumption) (by assumption) (by assumption) (by assumption) (by assumption) (by assumption) (by assumption) (by assumption) (by ktr_room) (by ktr_units) ?_; k_whole)))
local macro_rules | `(tactic| walk_at "call ref") => `(tactic| (k_here; k_dflt (refine' append_b (by k_asm) (by k_asm) (by k_asm) (by k_asm) (by k_asm) (by walk_at "my_kind") (by assumption) (by assumption) (by assumption) (by assumption) (by assumption) (by assumption) (by assumption) (by assumption) (by assumption) (by ktr_room) (by ktr_units) ?_; k_whole)))

theorem last_spec {w : World} {pp : Program} {lo : List Str} {size W : Nat} {t1 t2 : Tok} {ps ps2 : Array Value} {rest : List (Addr × Obj)} {mean : ExcName → Option Value} {mg mb : Str → Option Value}
    {dp un : Nat} {gd : Option (List Code)} {cn : Str} {cs : Scope} {a : Addr} {ccd : Value} {cl : List (Str × Addr)} {outer : List Env} {A₀ : Around} {base h₀ : Heap} {L : Addr} {m : Str → Option Value} {s : Shared} {Q E : Value → Shared → Prop}
    (B : Below A₀ base outer h₀) (F : Fr h₀ L s.heap m) (X : (hd.heap_39 w.params).In h₀) (N : News h₀ L s.heap ((154, tableObj ps) :: (161, tableObj ps2) :: rest)) (T : Top pp lo mean mg mb h₀) (hk : cs.kind = .function)
    (G : AllBare s.gens) (q5 : ∀ p ∈ rest, p.1 ≠ 154) (q6 : ∀ p ∈ rest, p.1 ≠ 161) (hp : Tab1 ps) (hp2 : Tab2 ps2) (W1 : 1 ≤ W) (WS : W ≤ size) (S12 : size ≤ 12) (hD : dp + 300 < recursionLimit) (hU : un + 3000 < cLine)
    (ret : ∀ (t : Tok) (ps' ps2' : Array Value) (g' : Array GenState) (h' : Heap) (tk' : Nat), AllBare g' → Fr h₀ L h' m → News h₀ L h' ((154, tableObj ps') :: (161, tableObj ps2') :: rest) → Tab1 ps' → Tab2 ps2' → Q (.int (((size - 1) % W + 1 : Nat) : Int) t) ⟨h', g', s.drawn, tk', s.os⟩) :
    wpAny (model PySem.Challenge.rw_pg0222_01.row.prog w) (PySem.W.ktrTop dp un gd cn cs L a ccd cl outer) (call (.ref 203) [.int (size : Int) t1, .int (W : Int) t2]) Q E s := by
  refine wpAny_call ?_
  k_dflt cell_enter
  k_steps
  rename Fr _ _ _ _ => F9
  rename News _ _ _ _ => N9
  rename VF7 _ _ _ _ _ _ => V9
  rename (∀ p ∈ vf7 .. ++ _, p.1 < _) => l9
  refine' last_loop ?ha ?hb ?hc ?hd ?hG ?hF ?hN ?hl ?hV ?h1 ?h2 ?hlt W1 WS S12 ?hturn ?hdone
  case ha => exact rfl
  case hb => exact rfl
  case hc => exact rfl
  case hd => exact rfl
  case hG => exact G
  case hF => exact F9
  case hN => exact N9
  case hl => exact (range_up (by omega) (by omega)).2
  case hV => exact V9
  case h1 => exact hp
  case h2 => exact hp2
  case hlt => exact l9
  · clear F9 N9 V9 l9
    intro k its lines n nl tv' qs qs2 r t h tq g hk' G' F' N' V' h1 h2 hs1 hs2 hl hll hi5 hi hiW hr hI
    have N8 := N'
    simp only [vf7, List.cons_append, List.nil_append] at N'
    by_cases hw : (its.length : Int) < W
    · k_steps
      rename (∀ q ∈ vf7 .. ++ _, q.1 < _) => l9
      rename Tab1 _ => q1
      rename AllBare _ => G9
      rename News _ _ _ _ => N9
      rename Fr _ _ _ _ => F9
      exact last_next_a hk' W1 WS S12 G9 F9 N9 rfl V' q1 h2 hs1 hl hi hw hr hI l9 vf7_all
    · have hw' : (its.length : Int) = W := by omega
      have hw1 : (1 : Int) ≤ W := by omega
      k_steps
      rename Tab1 _ => q1
      rename Tab2 _ => q2
      rename AllBare _ => G9
      rename News _ _ _ _ => N9
      rename Fr _ _ _ _ => F9
      exact last_next_b hk' W1 WS S12 G9 F9 N9 rfl V' q1 q2 hl hi hw' hr hI (by assumption) (by assumption) vf7_all
  · clear F9 N9 V9 l9
    intro its lines n nl tv' qs qs2 r u h tq g G' F' N' V' h1 h2 hs hl hll hi5 hi hi1 hr
    have hy1 : ∀ y ∈ List.replicate ((size - 1) / W) (semis W), ∃ j, y = semis j := fun y hy => ⟨W, (List.mem_replicate.mp hy).2⟩
    have hy2 : ∀ y ∈ List.replicate ((size - 1) / W) (semis W), y.length ≤ 50 := fun y hy => by rw [(List.mem_replicate.mp hy).2, semis_length]; omega
    have hy3 : (List.replicate ((size - 1) / W) (semis W)).length ≤ 100 := by rw [← strsAre_length hl]; exact hll
    rw [← hi] at ret
    k_steps
    rename Tab1 _ => q1
    rename Tab2 _ => q2
    rename AllBare _ => G9
    rename News _ _ _ _ => N9
    rename Fr _ _ _ _ => F9
    refine ret _ _ _ _ _ _ G9 F9 (fun p hp => N9 p ?_) q1 q2
    unfold vf7
    simp only [List.mem_cons, List.mem_append, List.not_mem_nil, or_false] at hp ⊢
    rcases hp with h | h | h
    · simp [h]
    · simp [h]
    · simp [hr p h]

end Mine
end
section
open PySem PySem.W PySem.W.X PyProof.Rows
set_option Elab.async false
set_option maxRecDepth 100000
namespace Mine
local macro_rules | `(tactic| walk_at "my_kind") => `(tactic| (first | exact rfl | assumption))
set_option maxHeartbeats 4000000
set_option linter.unusedVariables false

theorem fill24 (w : World) (h : Heap) : (hd.heap_39 w.params).In h → PySem.Challenge.rw_pg0222_01 = PySem.Challenge.rw_pg0222_01 := by
  k_fill
  intro _; rfl

/-- a while, ahead of its first test -/
def WhileGo (prog : Program) (w : World) (A : Around) (env : Env) (test : Expr) (body orelse : List Stmt) (Q : Flow → Shared → Prop) (E : Value → Shared → Prop) (s₂ : Shared) : Prop :=
  codeAny (model prog w) A (.whileLoop test body orelse env) (fun r s' => match r with | .ok f => Q f s' | .error e => cameBackBy (model prog w) A env E e s') s₂
section
variable {prog : Program} {w : World} {A : Around} {E : Value → Shared → Prop} {s : Shared} {env : Env} {h₀ : Heap} {L : Addr} {m : Str → Option Value} {rest : List (Addr × Obj)}
theorem while_go {test : Expr} {body orelse : List Stmt} {pos : Pos} {Q : Flow → Shared → Prop} (h : WhileGo prog w A env test body orelse Q E s) : wpAny (model prog w) A (exec (.While test body orelse pos) env) Q E s := wpAny_While h
/-- the frame of _law_shared -/
abbrev shMap (m : Str → Option Value) (a b : Nat) (ta tb : Tok) (u : Option Value) : Str → Option Value := fun z => if z = Str.ofString "near" then some (.int (b : Int) tb) else if z = Str.ofString "wide" then some (.int (a : Int) ta) else if z = Str.ofString "rest" then u else m z
def ShJ (h₀ : Heap) (L : Addr) (m : Str → Option Value) (s : Shared) (rest : List (Addr × Obj)) (D : Nat) (b : Nat) (s' : Shared) : Prop :=
  ∃ a ta tb u ps ps2 h tq g, s' = (⟨h, g, s.drawn, tq, s.os⟩ : Shared) ∧ AllBare g ∧ Fr h₀ L h (shMap m a b ta tb u) ∧ News h₀ L h ((154, tableObj ps) :: (161, tableObj ps2) :: rest) ∧ Tab1 ps ∧ Tab2 ps2 ∧ b ≤ a ∧ a ≤ 12 ∧ 1 ≤ a ∧ Nat.gcd a b = D
/-- the same with a lesser near -/
def ShN (h₀ : Heap) (L : Addr) (m : Str → Option Value) (s : Shared) (rest : List (Addr × Obj)) (D : Nat) (b : Nat) (s' : Shared) : Prop := ∃ k, k < b ∧ ShJ h₀ L m s rest D k s'
theorem sh_next {a b a' b' D : Nat} {ta tb tc td : Tok} {ps ps2 : Array Value} {h : Heap} {tq : Nat} {g : Array GenState} {u : Option Value} {v : Value} (hb : b' < b) (G : AllBare g)
    (F : Fr h₀ L h (fun y => if y = Str.ofString "wide" then some (.int (a' : Int) ta) else if y = Str.ofString "near" then some (.int (b' : Int) tb) else if y = Str.ofString "rest" then some v else shMap m a b tc td u y))
    (N : News h₀ L h ((154, tableObj ps) :: (161, tableObj ps2) :: rest)) (h1 : Tab1 ps) (h2 : Tab2 ps2) (hba : b' ≤ a') (ha : a' ≤ 12) (h0 : 1 ≤ a') (hg : Nat.gcd a' b' = D) :
    ShN h₀ L m s rest D b ⟨h, g, s.drawn, tq, s.os⟩ := by
  refine ⟨b', hb, a', ta, tb, some v, ps, ps2, h, tq, g, rfl, G, ?_, N, h1, h2, hba, ha, h0, hg⟩
  have e : shMap m a' b' ta tb (some v) = fun y => if y = Str.ofString "wide" then some (.int (a' : Int) ta) else if y = Str.ofString "near" then some (.int (b' : Int) tb) else if y = Str.ofString "rest" then some v else shMap m a b tc td u y := by
    have d1 : Str.ofString "near" ≠ Str.ofString "wide" := by decide
    funext z
    unfold shMap
    by_cases z1 : z = Str.ofString "near"
    · rw [if_pos z1, if_neg (by rw [z1]; exact d1), if_pos z1]
    · rw [if_neg z1]
      by_cases z2 : z = Str.ofString "wide"
      · rw [if_pos z2, if_pos z2]
      · rw [if_neg z2, if_neg z2, if_neg z1]
        by_cases z3 : z = Str.ofString "rest"
        · rw [if_pos z3, if_pos z3]
        · rw [if_neg z3, if_neg z3, if_neg z1, if_neg z2, if_neg z3]
  rw [e]; exact F
theorem shared_loop {test : Expr} {body orelse : List Stmt} {Q : Flow → Shared → Prop} {a₁ b₁ : Nat} {ta tb : Tok} {ps ps2 : Array Value} (G : AllBare s.gens) (F : Fr h₀ L s.heap m) (N : News h₀ L s.heap ((154, tableObj ps) :: (161, tableObj ps2) :: rest))
    (e1 : m (Str.ofString "wide") = some (.int (a₁ : Int) ta)) (e2 : m (Str.ofString "near") = some (.int (b₁ : Int) tb)) (h1 : Tab1 ps) (h2 : Tab2 ps2) (hba : b₁ ≤ a₁) (ha : a₁ ≤ 12) (h0 : 1 ≤ a₁)
    (turn : ∀ b a ta tb u ps ps2 h tq g, AllBare g → Fr h₀ L h (shMap m a b ta tb u) → News h₀ L h ((154, tableObj ps) :: (161, tableObj ps2) :: rest) → Tab1 ps → Tab2 ps2 → b ≤ a → a ≤ 12 → 1 ≤ a → Nat.gcd a b = Nat.gcd a₁ b₁ →
      wpAny (model prog w) A (isTrue test env (eval test env)) (fun t s₂ =>
        if t then wpAny (model prog w) A (execs body env) (fun f s₃ => match f with
            | .next | .cont => ShN h₀ L m s rest (Nat.gcd a₁ b₁) b s₃
            | .brk => Q .next s₃
            | .ret v => Q (.ret v) s₃) (LoopE prog w A env E) s₂
        else wpAny (model prog w) A (execs orelse env) Q (LoopE prog w A env E) s₂) (LoopE prog w A env E) ⟨h, g, s.drawn, tq, s.os⟩) : WhileGo prog w A env test body orelse Q E s := by
  refine codeAny_whileLoop (ShJ h₀ L m s rest (Nat.gcd a₁ b₁)) ?_ b₁ ⟨a₁, ta, tb, m (Str.ofString "rest"), ps, ps2, s.heap, s.toks, s.gens, rfl, G, ?_, N, h1, h2, hba, ha, h0, rfl⟩
  · rintro b s' ⟨a, ta, tb, u, ps, ps2, h, tq, g, rfl, G, F, N, h1, h2, hba, ha, h0, hg⟩
    refine wpAny_mono (turn b a ta tb u ps ps2 h tq g G F N h1 h2 hba ha h0 hg) (fun t s₂ h₂ => ?_) fun _ _ e => e
    cases t with
    | false => exact h₂
    | true =>
      refine wpAny_mono (show wpAny _ _ _ _ _ _ from h₂) (fun f s₃ h₃ => ?_) fun _ _ e => e
      cases f <;> exact h₃
  · have e : shMap m a₁ b₁ ta tb (m (Str.ofString "rest")) = m := by
      funext z
      unfold shMap
      split
      · rename_i h; rw [h, e2]
      · split
        · rename_i h; rw [h, e1]
        · split
          · rename_i h; rw [h]
          · rfl
    rw [e]; exact F
theorem gcd_step {a b : Nat} (hb : 1 ≤ b) (ha : 1 ≤ a) (hne : (a - 1) % b + 1 ≠ b) : (a - 1) % b + 1 < b ∧ Nat.gcd b ((a - 1) % b + 1) = Nat.gcd a b := by
  have h1 := Nat.mod_lt (a - 1) hb
  have e : a % b = (a - 1) % b + 1 := by
    have h3 : a = ((a - 1) % b + 1) + b * ((a - 1) / b) := by have := Nat.mod_add_div (a - 1) b; omega
    rw [h3, Nat.add_mul_mod_self_left, Nat.mod_eq_of_lt (by omega)]
    have h5 : ((a - 1) % b + 1 + b * ((a - 1) / b) - 1) % b = (a - 1) % b := by
      have : (a - 1) % b + 1 + b * ((a - 1) / b) - 1 = (a - 1) % b + b * ((a - 1) / b) := by omega
      rw [this, Nat.add_mul_mod_self_left, Nat.mod_mod]
    omega
  refine ⟨by omega, ?_⟩
  rw [← e, Nat.gcd_comm a b, Nat.gcd_rec b a, Nat.gcd_comm]
theorem gcd_end {a b : Nat} (hb : 1 ≤ b) (ha : 1 ≤ a) (he : (a - 1) % b + 1 = b) : Nat.gcd a b = b := by
  have h3 : a = b * ((a - 1) / b + 1) := by
    have := Nat.mod_add_div (a - 1) b
    rw [Nat.mul_add]; omega
  rw [Nat.gcd_comm]
  exact Nat.gcd_eq_left ⟨_, h3⟩
end
local macro_rules | `(tactic| cell_enter) => `(tactic| (refine' code_def ?k1 ?k2 ?k3 ?k4 ?k5 ?kA ?kF ?kK ?k6 ?k7 ?k8 ?k9 ?kB ?_ ?c2 ?c3 ?c4 ?c5; (case kA => exact rfl); (case kF => exact rfl); (case kK => assumption); (case k1 => k_asm); (case k2 => k_asm); (case k3 => k_asm); (case k4 => k_asm); (case k5 => k_asm); (case k6 => k_is); (case k7 => k_is); (case k8 => ktr_room); (case k9 => first | exact BindsTo.of_eq rfl | exact binds_K (by k_in) rfl (by k_is) rfl rfl rfl); (case c5 => decide); (case kB => exact locs rfl); (case c2 => exact rfl); (case c3 => exact rfl); (case c4 => exact rfl); k_whole; intro g' L' h' FG' F' N' B' X' T'; (try dsimp only); (try k_lift B'); (try k_fold)))
local macro_rules | `(tactic| walk_at "call ref") => `(tactic| (k_here; k_dflt (refine' last_spec (by k_asm) (by k_asm) (by k_asm) (by k_asm) (by k_asm) (by walk_at "my_kind") (by assumption) (by assumption) (by assumption) (by assumption) (by assumption) (by first | assumption | omega) (by first | assumption | omega) (by first | assumption | omega) (by ktr_room) (by ktr_units) ?_; k_whole)))
local macro_rules | `(tactic| walk_at "exec While Compare cons nil") => `(tactic| (k_here; k_dflt (refine while_go ?_)))

theorem shared_spec {w : World} {pp : Program} {lo : List Str} {a₁ b₁ : Nat} {t1 t2 : Tok} {ps ps2 : Array Value} {rest : List (Addr × Obj)} {mean : ExcName → Option Value} {mg mb : Str → Option Value}
    {dp un : Nat} {gd : Option (List Code)} {cn : Str} {cs : Scope} {a : Addr} {ccd : Value} {cl : List (Str × Addr)} {outer : List Env} {A₀ : Around} {base h₀ : Heap} {L : Addr} {m : Str → Option Value} {s : Shared} {Q E : Value → Shared → Prop}
    (B : Below A₀ base outer h₀) (F : Fr h₀ L s.heap m) (X : (hd.heap_39 w.params).In h₀) (N : News h₀ L s.heap ((154, tableObj ps) :: (161, tableObj ps2) :: rest)) (T : Top pp lo mean mg mb h₀) (hk : cs.kind = .function)
    (G : AllBare s.gens) (q5 : ∀ p ∈ rest, p.1 ≠ 154) (q6 : ∀ p ∈ rest, p.1 ≠ 161) (hp : Tab1 ps) (hp2 : Tab2 ps2) (hb : b₁ ≤ a₁) (h0 : 1 ≤ a₁) (ha : a₁ ≤ 12) (hD : dp + 400 < recursionLimit) (hU : un + 4000 < cLine)
    (ret : ∀ (t : Tok) (ps' ps2' : Array Value) (g' : Array GenState) (h' : Heap) (tk' : Nat), AllBare g' → Fr h₀ L h' m → News h₀ L h' ((154, tableObj ps') :: (161, tableObj ps2') :: rest) → Tab1 ps' → Tab2 ps2' → Q (.int ((Nat.gcd a₁ b₁ : Nat) : Int) t) ⟨h', g', s.drawn, tk', s.os⟩) :
    wpAny (model PySem.Challenge.rw_pg0222_01.row.prog w) (PySem.W.ktrTop dp un gd cn cs L a ccd cl outer) (call (.ref 210) [.int (a₁ : Int) t1, .int (b₁ : Int) t2]) Q E s := by
  refine wpAny_call ?_
  k_dflt cell_enter
  k_steps
  rename Fr _ _ _ _ => F9
  rename News _ _ _ _ => N9
  refine' shared_loop ?hG ?hF ?hN ?e1 ?e2 hp hp2 hb ha h0 ?turn
  case hG => exact G
  case hF => exact F9
  case hN => exact N9
  case e1 => exact rfl
  case e2 => exact rfl
  clear F9 N9
  intro b a' ta tb u qs qs2 h tq g G' F' N' hp' hp2' hba ha' h0' hg
  k_steps
  all_goals (rename Fr _ _ _ _ => F9; rename News _ _ _ _ => N9; rename AllBare _ => G9)
  · have e : (a' - 1) % b + 1 = b := by omega
    rw [← hg, gcd_end (by omega) h0' e] at ret
    exact ret _ _ _ _ _ _ G9 F9 N9 (by assumption) (by assumption)
  · have e : (a' - 1) % b + 1 ≠ b := by omega
    obtain ⟨e1, e2⟩ := gcd_step (by omega) h0' e
    exact sh_next e1 G9 F9 (fun p hp => N9 p (.tail _ hp)) (by assumption) (by assumption) (by omega) (by omega) (by omega) (e2.trans hg)
  · obtain rfl : b = 0 := by omega
    rw [← hg, Nat.gcd_zero_right] at ret
    exact ret _ _ _ _ _ _ G9 F9 N9 (by assumption) (by assumption)

end Mine
end
section
open PySem PySem.W PySem.W.X PyProof.Rows
set_option Elab.async false
set_option maxRecDepth 100000
namespace Mine
set_option maxHeartbeats 4000000
set_option linter.unusedVariables false

theorem fill26 (w : World) (h : Heap) : (hd.heap_39 w.params).In h → PySem.Challenge.rw_pg0222_01 = PySem.Challenge.rw_pg0222_01 := by
  k_fill
  intro _; rfl

theorem perm_sum {a b : List Int} (h : a.Perm b) : a.sum = b.sum := by
  induction h with
  | nil => rfl
  | cons x _ ih => simp [ih]
  | swap x y l => simp only [List.sum_cons]; omega
  | trans _ _ h1 h2 => exact h1.trans h2
/-- three numbers and the same in order -/
structure S3 (r g b lo mid hi : Int) : Prop where
  s1 : lo ≤ mid
  s2 : mid ≤ hi
  s3 : lo ≤ r
  s4 : lo ≤ g
  s5 : lo ≤ b
  s6 : r ≤ hi
  s7 : g ≤ hi
  s8 : b ≤ hi
  s9 : lo + mid + hi = r + g + b
  s10 : lo = r ∨ lo = g ∨ lo = b
  s11 : hi = r ∨ hi = g ∨ hi = b
section
variable {prog : Program} {w : World} {A : Around} {E : Value → Shared → Prop} {s : Shared} {h₀ : Heap} {L l : Addr} {m : Str → Option Value} {news : List (Addr × Obj)} {Q : Value → Shared → Prop} {r g b : Int} {t1 t2 t3 : Tok} {np : Nat}
theorem three_mem {P : Int → Prop} {x y z : Int} (h : P x ∧ P y ∧ P z) : ∀ v ∈ [x, y, z], P v
  | _, .head _ => h.1
  | _, .tail _ (.head _) => h.2.1
  | _, .tail _ (.tail _ (.head _)) => h.2.2
theorem three_or {x y z v : Int} : v ∈ [x, y, z] → v = x ∨ v = y ∨ v = z
  | .head _ => .inl rfl
  | .tail _ (.head _) => .inr (.inl rfl)
  | .tail _ (.tail _ (.head _)) => .inr (.inr rfl)
theorem len3 {l : List Int} (h : l.length = 3) : ∃ x y z, l = [x, y, z] := by
  rcases l with _ | ⟨x, l⟩
  · exact absurd (show 0 = 3 from h) (by decide)
  rcases l with _ | ⟨y, l⟩
  · exact absurd (show 1 = 3 from h) (by decide)
  rcases l with _ | ⟨z, l⟩
  · exact absurd (show 2 = 3 from h) (by decide)
  rcases l with _ | ⟨u, l⟩
  · exact ⟨x, y, z, rfl⟩
  · exact absurd (Nat.succ.inj (Nat.succ.inj (Nat.succ.inj h))) (Nat.succ_ne_zero _)
theorem three {l : List Int} (p : l.Perm [r, g, b]) (o : l.Pairwise (· ≤ ·)) : ∃ lo mid hi, l = [lo, mid, hi] ∧ S3 r g b lo mid hi := by
  obtain ⟨lo, mid, hi, rfl⟩ := len3 p.length_eq
  have o1 := List.pairwise_cons.mp o
  have a1 : lo ≤ mid := o1.1 _ (.head _)
  have a2 : lo ≤ hi := o1.1 _ (.tail _ (.head _))
  have a3 : mid ≤ hi := (List.pairwise_cons.mp o1.2).1 _ (.head _)
  have lw : ∀ v ∈ [r, g, b], lo ≤ v := fun v hv => three_mem (P := (lo ≤ ·)) ⟨Int.le_refl _, a1, a2⟩ v (p.mem_iff.mpr hv)
  have up : ∀ v ∈ [r, g, b], v ≤ hi := fun v hv => three_mem (P := (· ≤ hi)) ⟨a2, a3, Int.le_refl _⟩ v (p.mem_iff.mpr hv)
  have hs : lo + (mid + (hi + 0)) = r + (g + (b + 0)) := perm_sum p
  exact ⟨lo, mid, hi, rfl, a1, a3, lw _ (.head _), lw _ (.tail _ (.head _)), lw _ (.tail _ (.tail _ (.head _))), up _ (.head _), up _ (.tail _ (.head _)), up _ (.tail _ (.tail _ (.head _))), by clear lw up o o1 a1 a2 a3 p; omega,
    three_or (p.mem_iff.mp (.head _)), three_or (p.mem_iff.mp (.tail _ (.tail _ (.head _))))⟩
theorem S3.uniq {lo mid hi lo' mid' hi' : Int} (S : S3 r g b lo mid hi) (T : S3 r g b lo' mid' hi') : lo = lo' ∧ mid = mid' ∧ hi = hi' := by
  have low : ∀ {x y u v : Int}, S3 r g b x u v → (y = r ∨ y = g ∨ y = b) → x ≤ y := fun S h => by
    rcases h with rfl | rfl | rfl
    · exact S.s3
    · exact S.s4
    · exact S.s5
  have up : ∀ {x y u v : Int}, S3 r g b u v x → (y = r ∨ y = g ∨ y = b) → y ≤ x := fun S h => by
    rcases h with rfl | rfl | rfl
    · exact S.s6
    · exact S.s7
    · exact S.s8
  have e1 : lo = lo' := Int.le_antisymm (low S T.s10) (low T S.s10)
  have e2 : hi = hi' := Int.le_antisymm (up T S.s11) (up S T.s11)
  have e3 := S.s9.trans T.s9.symm
  subst e1 e2
  exact ⟨rfl, by clear low up S T; omega, rfl⟩
theorem S3.sw {lo mid hi : Int} (S : S3 r g b lo mid hi) : S3 g r b lo mid hi :=
  ⟨S.s1, S.s2, S.s4, S.s3, S.s5, S.s7, S.s6, S.s8, S.s9.trans (by rw [Int.add_comm r g]), or_left_comm.mp S.s10, or_left_comm.mp S.s11⟩
theorem S3.rot {lo mid hi : Int} (S : S3 r g b lo mid hi) : S3 r b g lo mid hi :=
  ⟨S.s1, S.s2, S.s3, S.s5, S.s4, S.s6, S.s8, S.s7, S.s9.trans (Int.add_right_comm r g b), S.s10.imp_right Or.symm, S.s11.imp_right Or.symm⟩
theorem sorted3 (F : Fr h₀ L s.heap m) (N : News h₀ L s.heap news) (hm : (l, listOf #[.int r t1, .int g t2, .int b t3] np) ∈ news)
    (h : ∀ D lo mid hi ta tb tc c h', Fr h₀ L h' m → News h₀ L h' ((D, listOf #[.int lo ta, .int mid tb, .int hi tc] c) :: news) → (∀ q ∈ news, q.1 < D) → S3 r g b lo mid hi → Q (.ref D) { s with heap := h' }) :
    wpAny (model prog w) A (call (.builtin "sorted") [.ref l]) Q E s := by
  refine kso_sorted (vs := [.int r t1, .int g t2, .int b t3]) (ns := [r, g, b]) F N ⟨_, (N _ hm).1, rfl, _, rfl⟩ (.cons _ _ (.cons _ _ (.cons _ _ .nil))) (show 3 < 64 by decide) fun D vs' ns' c h' F' N' l1 i' e' p' o' _ => ?_
  obtain ⟨lo, mid, hi, rfl, S⟩ := three p' o'
  clear e' p' o'
  rcases i' with _ | ⟨_, ta, i'⟩
  rcases i' with _ | ⟨_, tb, i'⟩
  rcases i' with _ | ⟨_, tc, i'⟩
  cases i'
  exact h D lo mid hi ta tb tc c h' F' N' l1 S
theorem max3l {x y z : Int} {u v t : Tok} (hh : A.handled = none) (F : Fr h₀ L s.heap m) (N : News h₀ L s.heap news) (hm : (l, listOf #[.int x t, .int y u, .int z v] np) ∈ news)
    (h : ∀ h' M (t : Tok) tk, Fr h₀ L h' m → News h₀ L h' news → (M = x ∨ M = y ∨ M = z) → x ≤ M → y ≤ M → z ≤ M → Q (.int M t) { s with heap := h', toks := tk }) :
    wpAny (model prog w) A (call (.builtin "max") [.ref l]) Q E s := by
  refine kso_max (vs := [.int x t, .int y u, .int z v]) (ns := [x, y, z]) F N ⟨_, (N _ hm).1, rfl, _, rfl⟩ (.cons _ _ (.cons _ _ (.cons _ _ .nil))) (show 0 < 3 by decide) hh fun h' M t tk F' N' a' b' => ?_
  simp only [List.mem_cons, List.not_mem_nil, or_false] at a'
  exact h h' M t tk F' N' a' (b' x (by simp)) (b' y (by simp)) (b' z (by simp))
theorem fdiv_box {a D : Int} (h0 : 0 ≤ a) (h1 : a ≤ 12) (hD : 1 ≤ D) : 0 ≤ a.fdiv D ∧ a.fdiv D ≤ 12 := by
  rw [Int.fdiv_eq_ediv_of_nonneg _ (by omega)]
  have h2 := Int.ediv_nonneg h0 (show 0 ≤ D by omega)
  have h3 := Int.ediv_le_self D h0
  omega
theorem size_facts {r g b lo mid hi D M : Int} (S : S3 r g b lo mid hi) (hD : 1 ≤ D) (hle : D ≤ hi - lo) (l0 : 0 ≤ lo) (h12 : hi ≤ 12) (m : M = (r - lo).fdiv D ∨ M = (g - lo).fdiv D ∨ M = (b - lo).fdiv D) (m1 : (r - lo).fdiv D ≤ M) (m2 : (g - lo).fdiv D ≤ M) (m3 : (b - lo).fdiv D ≤ M) :
    1 ≤ M ∧ M ≤ 12 ∧ (0 ≤ (r - lo).fdiv D ∧ (r - lo).fdiv D ≤ 12) ∧ (0 ≤ (g - lo).fdiv D ∧ (g - lo).fdiv D ≤ 12) ∧ (0 ≤ (b - lo).fdiv D ∧ (b - lo).fdiv D ≤ 12) := by
  have c1 := S.s3; have c2 := S.s4; have c3 := S.s5; have c4 := S.s6; have c5 := S.s7; have c6 := S.s8
  have b1 := fdiv_box (a := r - lo) (D := D) (by omega) (by omega) hD
  have b2 := fdiv_box (a := g - lo) (D := D) (by omega) (by omega) hD
  have b3 := fdiv_box (a := b - lo) (D := D) (by omega) (by omega) hD
  have hpos : 1 ≤ (hi - lo).fdiv D := by
    rw [Int.fdiv_eq_ediv_of_nonneg _ (by omega)]
    exact (Int.le_ediv_iff_mul_le (by omega)).mpr (by omega)
  have hM : (hi - lo).fdiv D ≤ M := by rcases S.s11 with e | e | e <;> (rw [e]; assumption)
  refine ⟨by omega, ?_, b1, b2, b3⟩
  rcases m with e | e | e <;> omega
theorem not_over {n : Int} (h0 : 0 ≤ n) (h1 : n ≤ 12) : ¬ Flt.Over n := by
  unfold Flt.Over
  have h : n.natAbs ≤ 12 := by omega
  have h2 : ¬ ((2 : Nat) ^ 1024 - 2 ^ 970 ≤ 12) := by decide +kernel
  exact fun h3 => h2 (Nat.le_trans h3 h)
end
theorem allLt_far {d c : Nat} {l : List (Addr × Obj)} (h : AllLt d l) (hc : d ≤ c) : ∀ p ∈ l, p.1 ≠ c := fun p hp => Nat.ne_of_lt (Nat.lt_of_lt_of_le (allLt_mem h p hp) hc)
section
variable {prog : Program} {w : World} {A : Around} {E : Value → Shared → Prop} {s : Shared} {h₀ : Heap} {L : Addr} {news : List (Addr × Obj)} {Q : Value → Shared → Prop}
/-- an item of a written list of the ledger -/
theorem item_at {value slice : Expr} {D : Addr} {its : Array Value} {v : Value} {n : Nat} {k : Int} {t : Tok} (N : News h₀ L s.heap news) (hm : (D, listOf its n) ∈ news) (h0 : 0 ≤ k) (h1 : k < 2 ^ 63) (hx : its[k.toNat]? = some v) (h : Q v s)
    (hs : subscripted slice false (.ref D) (.int k t) = operate [.ref D, .int k t] (getItem (.ref D) (.int k t)) := by with_unfolding_all rfl) :
    wpAny (model prog w) A (subscriptTail value slice (.ref D) (.int k t)) Q E s := by
  have hD : s.heap.IsList D its := ⟨_, (N _ hm).1, rfl, _, rfl⟩
  exact tail_any hD.typeIs slot_list_getitem.lookup (wpAny_getItem_list hD h0 h1 hx h) hs
theorem item_0 {value slice : Expr} {D : Addr} {a b c : Value} {n : Nat} {t : Tok} (N : News h₀ L s.heap news) (hm : (D, listOf #[a, b, c] n) ∈ news) (h : Q a s)
    (hs : subscripted slice false (.ref D) (.int 0 t) = operate [.ref D, .int 0 t] (getItem (.ref D) (.int 0 t)) := by with_unfolding_all rfl) :
    wpAny (model prog w) A (subscriptTail value slice (.ref D) (.int 0 t)) Q E s := item_at N hm (by decide) (by decide) rfl h hs
theorem item_1 {value slice : Expr} {D : Addr} {a b c : Value} {n : Nat} {t : Tok} (N : News h₀ L s.heap news) (hm : (D, listOf #[a, b, c] n) ∈ news) (h : Q b s)
    (hs : subscripted slice false (.ref D) (.int 1 t) = operate [.ref D, .int 1 t] (getItem (.ref D) (.int 1 t)) := by with_unfolding_all rfl) :
    wpAny (model prog w) A (subscriptTail value slice (.ref D) (.int 1 t)) Q E s := item_at N hm (by decide) (by decide) rfl h hs
theorem item_2 {value slice : Expr} {D : Addr} {a b c : Value} {n : Nat} {t : Tok} (N : News h₀ L s.heap news) (hm : (D, listOf #[a, b, c] n) ∈ news) (h : Q c s)
    (hs : subscripted slice false (.ref D) (.int 2 t) = operate [.ref D, .int 2 t] (getItem (.ref D) (.int 2 t)) := by with_unfolding_all rfl) :
    wpAny (model prog w) A (subscriptTail value slice (.ref D) (.int 2 t)) Q E s := item_at N hm (by decide) (by decide) rfl h hs
end
theorem allLt_ne {d : Addr} {l : List (Addr × Obj)} (h : AllLt d l) : ∀ p ∈ l, p.1 ≠ d := fun p hp => Nat.ne_of_lt (allLt_mem h p hp)
/-- a list that no part of the ledger shares an address with -/
theorem far_cons {a c : Addr} {o : Obj} {l : List (Addr × Obj)} (h1 : a ≠ c) (h2 : ∀ p ∈ l, p.1 ≠ c) : ∀ p ∈ (a, o) :: l, p.1 ≠ c := by
  intro p hp
  rcases List.mem_cons.mp hp with rfl | hp
  · exact h1
  · exact h2 p hp
/-- what the walk wants of a hue that isn't grey's -/
structure HueOk (h : UInt64) (r g b : Int) : Prop where
  f1 : Float64.isFinite (Float64.mul h 4618441417868443648) = true
  f2 : ¬ Flt.Over (Flt.toInt Float64.truncOf (Float64.mul h 4618441417868443648))
  f3 : ∀ n : Int, 1 ≤ n → n ≤ 12 → ∀ y ∈ [(hvs h (fl16 n)).1, (hvs h (fl16 n)).2.1, (hvs h (fl16 n)).2.2], Float64.isFinite (Float64.add (Float64.mul y 4670232813583204352) 4602678819172646912) = true
  w : ∀ n : Int, 1 ≤ n → n ≤ 12 → ∀ lo mid hi, S3 r g b lo mid hi → ∀ M : Int,
    (M = (r - lo).fdiv (Nat.gcd (hi - lo).toNat (mid - lo).toNat : Nat) ∨ M = (g - lo).fdiv (Nat.gcd (hi - lo).toNat (mid - lo).toNat : Nat) ∨ M = (b - lo).fdiv (Nat.gcd (hi - lo).toNat (mid - lo).toNat : Nat)) →
    (r - lo).fdiv (Nat.gcd (hi - lo).toNat (mid - lo).toNat : Nat) ≤ M → (g - lo).fdiv (Nat.gcd (hi - lo).toNat (mid - lo).toNat : Nat) ≤ M → (b - lo).fdiv (Nat.gcd (hi - lo).toNat (mid - lo).toNat : Nat) ≤ M →
    wholeL h (fl16 n) = if n.fmod M = 0 then [(r - lo).fdiv (Nat.gcd (hi - lo).toNat (mid - lo).toNat : Nat) * n.fdiv M, (g - lo).fdiv (Nat.gcd (hi - lo).toNat (mid - lo).toNat : Nat) * n.fdiv M, (b - lo).fdiv (Nat.gcd (hi - lo).toNat (mid - lo).toNat : Nat) * n.fdiv M] else []
theorem want_eq {h : UInt64} {r g b n lo mid hi D M : Int} (H : HueOk h r g b) (n1 : 1 ≤ n) (n12 : n ≤ 12) (S : S3 r g b lo mid hi) (eD : D = ((Nat.gcd (hi - lo).toNat (mid - lo).toNat : Nat) : Int))
    (m : M = (r - lo).fdiv D ∨ M = (g - lo).fdiv D ∨ M = (b - lo).fdiv D) (m1 : (r - lo).fdiv D ≤ M) (m2 : (g - lo).fdiv D ≤ M) (m3 : (b - lo).fdiv D ≤ M) :
    wholeL h (fl16 n) = if n.fmod M = 0 then [(r - lo).fdiv D * n.fdiv M, (g - lo).fdiv D * n.fdiv M, (b - lo).fdiv D * n.fdiv M] else [] := by
  subst eD
  exact H.w n n1 n12 lo mid hi S M m m1 m2 m3
/-- what the walk of _law_colour wants of the floats -/
structure ColourOk (r g b : Int) : Prop where
  z1 : ¬ (Float64.cmp (min3 (fl16 r) (fl16 g) (fl16 b)) (max3 (fl16 r) (fl16 g) (fl16 b)) == some .eq) = true → Float64.isZero (max3 (fl16 r) (fl16 g) (fl16 b)) = false
  z2 : ¬ (Float64.cmp (min3 (fl16 r) (fl16 g) (fl16 b)) (max3 (fl16 r) (fl16 g) (fl16 b)) == some .eq) = true → Float64.isZero (Float64.sub (max3 (fl16 r) (fl16 g) (fl16 b)) (min3 (fl16 r) (fl16 g) (fl16 b))) = false
  gr : (Float64.cmp (min3 (fl16 r) (fl16 g) (fl16 b)) (max3 (fl16 r) (fl16 g) (fl16 b)) == some .eq) = true ↔ (r = g ∧ g = b)
  hue : ¬ (r = g ∧ g = b) → HueOk (hueF (fl16 r) (fl16 g) (fl16 b)) r g b
theorem colour_case {r g b : Int} {a' b' : UInt64} (C : ColourOk r g b) (e8 : (Float64.cmp (min3 (fl16 r) (fl16 g) (fl16 b)) (max3 (fl16 r) (fl16 g) (fl16 b)) == some .eq) = true → b' = 0)
    (e9 : ¬ (Float64.cmp (min3 (fl16 r) (fl16 g) (fl16 b)) (max3 (fl16 r) (fl16 g) (fl16 b)) == some .eq) = true → a' = hueF (fl16 r) (fl16 g) (fl16 b)) :
    (r = g ∧ g = b ∧ b' = 0) ∨ (¬ (r = g ∧ g = b) ∧ HueOk a' r g b) := by
  by_cases h : r = g ∧ g = b
  · exact .inl ⟨h.1, h.2, e8 (C.gr.mpr h)⟩
  · refine .inr ⟨h, ?_⟩
    rw [e9 fun q => h (C.gr.mp q)]
    exact C.hue h

theorem canon2 {h₀ h : Heap} {L x dx : Addr} {NN : List (Addr × Obj)} {ox od : Obj} (N : News h₀ L h NN) (hx : (x, ox) ∈ NN) (hd : (dx, od) ∈ NN) :
    ∃ rest, News h₀ L h ((x, ox) :: (dx, od) :: rest) ∧ (∀ p ∈ rest, p.1 ≠ x) ∧ (∀ p ∈ rest, p.1 ≠ dx) ∧ (∀ p ∈ NN, p = (x, ox) ∨ p = (dx, od) ∨ p ∈ rest) := by
  refine ⟨NN.filter fun p => decide (p.1 ≠ x) && decide (p.1 ≠ dx), fun p hp => ?_, fun p hp => ?_, fun p hp => ?_, fun p hp => ?_⟩
  · rcases List.mem_cons.mp hp with rfl | hp
    · exact N _ hx
    · rcases List.mem_cons.mp hp with rfl | hp
      · exact N _ hd
      · exact N _ (List.mem_filter.mp hp).1
  · have := (List.mem_filter.mp hp).2
    simp only [Bool.and_eq_true, decide_eq_true_eq] at this
    exact this.1
  · have := (List.mem_filter.mp hp).2
    simp only [Bool.and_eq_true, decide_eq_true_eq] at this
    exact this.2
  · obtain ⟨a, o⟩ := p
    by_cases h1 : a = x
    · subst h1
      have e := (N _ hp).1.symm.trans (N _ hx).1
      dsimp only at e
      cases e
      exact .inl rfl
    · by_cases h2 : a = dx
      · subst h2
        have e := (N _ hp).1.symm.trans (N _ hd).1
        dsimp only at e
        cases e
        exact .inr (.inl rfl)
      · exact .inr (.inr (List.mem_filter.mpr ⟨hp, by simp [h1, h2]⟩))

theorem shared_specI {w : World} {pp : Program} {lo : List Str} {x y : Int} {t1 t2 : Tok} {ps ps2 : Array Value} {NN : List (Addr × Obj)} {f : Obj → List (Addr × Obj)} {gg : Obj → Obj → List (Addr × Obj)} {mean : ExcName → Option Value} {mg mb : Str → Option Value}
    {dp un : Nat} {gd : Option (List Code)} {cn : Str} {cs : Scope} {a : Addr} {ccd : Value} {cl : List (Str × Addr)} {outer : List Env} {A₀ : Around} {base h₀ : Heap} {L : Addr} {m : Str → Option Value} {s : Shared} {Q E : Value → Shared → Prop}
    (B : Below A₀ base outer h₀) (F : Fr h₀ L s.heap m) (X : (hd.heap_39 w.params).In h₀) (N : News h₀ L s.heap NN) (T : Top pp lo mean mg mb h₀) (hk : cs.kind = .function)
    (G : AllBare s.gens) (U : UpdF 154 (tableObj ps) NN f) (U2 : ∀ o, UpdF 161 (tableObj ps2) (f o) (gg o)) (hp : Tab1 ps) (hp2 : Tab2 ps2) (h0 : 0 ≤ y) (hb : y ≤ x) (h1 : 1 ≤ x) (ha : x ≤ 12) (hD : dp + 400 < recursionLimit) (hU : un + 4000 < cLine)
    (ret : ∀ (D : Int) (t : Tok) (ps' ps2' : Array Value) (g' : Array GenState) (h' : Heap) (tk' : Nat), AllBare g' → Fr h₀ L h' m → News h₀ L h' (gg (tableObj ps') (tableObj ps2')) → Tab1 ps' → Tab2 ps2' → D = ((Nat.gcd x.toNat y.toNat : Nat) : Int) → 1 ≤ D → D ≤ x → Q (.int D t) ⟨h', g', s.drawn, tk', s.os⟩) :
    wpAny (model PySem.Challenge.rw_pg0222_01.row.prog w) (PySem.W.ktrTop dp un gd cn cs L a ccd cl outer) (call (.ref 210) [.int x t1, .int y t2]) Q E s := by
  have hm2 : (161, tableObj ps2) ∈ NN := by
    rcases updF_mem U (tableObj ps) _ (updF_in (U2 (tableObj ps))) with e | e
    · exact absurd (congrArg Prod.fst e) (show ¬ ((161 : Nat) = 154) by decide)
    · exact e.1
  obtain ⟨rest, N0, r1, r2, hc⟩ := canon2 N (updF_in U) hm2
  obtain ⟨a₁, rfl⟩ := Int.eq_ofNat_of_zero_le (show 0 ≤ x by omega)
  obtain ⟨b₁, rfl⟩ := Int.eq_ofNat_of_zero_le h0
  exact shared_spec B F X N0 T hk G r1 r2 hp hp2 (by omega) (by omega) (by omega) hD hU fun t ps' ps2' g' h' tk' G' F' N' q1 q2 => ret _ t ps' ps2' g' h' tk' G' F' (canon_end2 U U2 hc N' (.head _) (.tail _ (.head _)) (fun p hp => .tail _ (.tail _ hp))) q1 q2 rfl (by have := Nat.gcd_pos_of_pos_left b₁ (show 0 < a₁ by omega); omega) (by have := Nat.gcd_le_left b₁ (show 0 < a₁ by omega); omega)

/-- what holds between two turns of the loop of _law_colour -/
def ColJ (h₀ : Heap) (L : Addr) (m : Str → Option Value) (s : Shared) (I cc : Addr) (pre post : List (Addr × Obj)) (k : Nat) (s' : Shared) : Prop :=
  ∃ oc u h tq v, s' = ({ s with heap := h, toks := tq } : Shared) ∧ Fr h₀ L h (fun z => if z = Str.ofString "wanted" then u else m z) ∧ News h₀ L h ((I, riter (1 + (k : Int)) (((12 : Nat) : Int) - k)) :: (pre ++ (cc, oc) :: post)) ∧ oc.data = .cell v
section
variable {prog : Program} {w : World} {A : Around} {E : Value → Shared → Prop} {s : Shared} {env : Env} {h₀ : Heap} {L : Addr} {m : Str → Option Value} {I cc : Addr} {pre post : List (Addr × Obj)}
theorem ColJ.intro {k : Nat} {n : Int} {oc : Obj} {h : Heap} {tq : Nat} {v : Option Value} {NN : List (Addr × Obj)} {m' : Str → Option Value} (hn : n = 1 + (k : Int)) (F : Fr h₀ L h m') (hm : ∀ z, z ≠ Str.ofString "wanted" → m' z = m z) (N : News h₀ L h NN) (hd : oc.data = .cell v)
    (sub : ∀ p ∈ (I, riter (n + 1) (((12 : Nat) : Int) - k - 1)) :: (pre ++ (cc, oc) :: post), p ∈ NN) : ColJ h₀ L m s I cc pre post (k + 1) { s with heap := h, toks := tq } := by
  refine ⟨oc, m' (Str.ofString "wanted"), h, tq, v, rfl, ?_, fun p hp => N p (sub p ?_), hd⟩
  · have e : (fun z => if z = Str.ofString "wanted" then m' (Str.ofString "wanted") else m z) = m' := by
      funext z
      by_cases hz : z = Str.ofString "wanted"
      · rw [if_pos hz, hz]
      · rw [if_neg hz, hm z hz]
    rw [e]; exact F
  · have e1 : (1 : Int) + ((k + 1 : Nat) : Int) = n + 1 := by omega
    have e2 : ((12 : Nat) : Int) - ((k + 1 : Nat) : Int) = ((12 : Nat) : Int) - k - 1 := by omega
    rw [e1, e2] at hp
    exact hp
theorem colour_loop {body orelse : List Stmt} {target : Expr} {Q : Flow → Shared → Prop} {oc₀ : Obj} {v₀ : Option Value} {lft : Int} (hh : A.handled = none) (F : Fr h₀ L s.heap m) (N : News h₀ L s.heap ((I, riter 1 lft) :: (pre ++ (cc, oc₀) :: post))) (hl : lft = 12) (hd : oc₀.data = .cell v₀)
    (off : ∀ p ∈ pre ++ (cc, oc₀) :: post, p.1 ≠ I)
    (turn : ∀ (k : Nat) (n : Int) oc u h tq v, k < 12 → n = 1 + (k : Int) → 1 ≤ n → n ≤ 12 → Fr h₀ L h (fun z => if z = Str.ofString "wanted" then u else m z) → News h₀ L h ((I, riter (n + 1) (((12 : Nat) : Int) - k - 1)) :: (pre ++ (cc, oc) :: post)) → oc.data = .cell v →
      wpAny (model prog w) A (assign target env (.int n tq)) (fun _ s₂ => wpAny (model prog w) A (execs body env) (fun f s₃ => match f with
        | .next | .cont => ColJ h₀ L m s I cc pre post (k + 1) s₃
        | .brk => Q .next s₃
        | .ret v => Q (.ret v) s₃) (LoopE prog w A env E) s₂) (LoopE prog w A env E) { s with heap := h, toks := tq + 1 })
    (done : ∀ oc u h tq, Fr h₀ L h (fun z => if z = Str.ofString "wanted" then u else m z) → News h₀ L h (pre ++ (cc, oc) :: post) → wpAny (model prog w) A (execs orelse env) Q (LoopE prog w A env E) { s with heap := h, toks := tq })
    (ht : ∀ v, letOwnedTupleGo target (.ref I) v = pure () := by intro _; rfl) : LoopGo prog w A env target body orelse Q E (.ref I) s := by
  subst hl
  have off' : ∀ oc, ∀ p ∈ pre ++ (cc, oc) :: post, p.1 ≠ I := fun oc p hp => by
    rcases List.mem_append.mp hp with hp | hp
    · exact off p (List.mem_append_left _ hp)
    · rcases List.mem_cons.mp hp with rfl | hp
      · exact off (cc, oc₀) (List.mem_append_right _ (.head _))
      · exact off p (List.mem_append_right _ (.tail _ hp))
  refine loop_range 1 12 (ColJ h₀ L m s I cc pre post) hh ?_ ?_ ?_ ?_ ht
  · rintro k s' ⟨oc, u, h, tq, v, rfl, F, N, hd⟩
    exact (N (I, _) (.head _)).1
  · rintro k s' h' hk ⟨oc, u, h, tq, v, rfl, F, N, hd⟩ hit hsb
    obtain ⟨F', N'⟩ := led_set F N (off' oc) hit hsb.extBut
    exact turn k (1 + (k : Int)) oc u h' tq v hk rfl (by omega) (by omega) F' N' hd
  · rintro s' h' ⟨oc, u, h, tq, v, rfl, F, N, hd⟩ hsb
    obtain ⟨F', N'⟩ := led_drop F N (off' oc) hsb
    exact done oc u h' tq F' N'
  · refine ⟨oc₀, m (Str.ofString "wanted"), s.heap, s.toks, v₀, rfl, ?_, ?_, hd⟩
    · have e : (fun z => if z = Str.ofString "wanted" then m (Str.ofString "wanted") else m z) = m := by
        funext z
        by_cases hz : z = Str.ofString "wanted" <;> simp [hz]
      rw [e]; exact F
    · exact N
end

end Mine
end
section
open PySem PySem.W PySem.W.X PyProof.Rows
set_option Elab.async false
set_option maxRecDepth 100000
namespace Mine
local macro_rules | `(tactic| walk_at "my_kind") => `(tactic| (first | exact rfl | assumption))
set_option maxHeartbeats 4000000
set_option linter.unusedVariables false

theorem fill25 (w : World) (h : Heap) : (hd.heap_39 w.params).In h → PySem.Challenge.rw_pg0222_01 = PySem.Challenge.rw_pg0222_01 := by
  k_fill
  intro _; rfl
local macro_rules | `(tactic| k_all) => `(tactic| exact allLt_far (by assumption) (by omega))
local macro_rules | `(tactic| k_all) => `(tactic| assumption)
local macro_rules | `(tactic| walk_at "call ref") => `(tactic| (k_here; k_dflt (refine' rgb_spec (by k_asm) (by k_asm) (by k_asm) (by k_asm) (by k_asm) (by walk_at "my_kind") (by assumption) (by assumption) (by ktr_room) (by ktr_units) ?_; k_whole); intro D' a' b' c' k1' k2' k3' h' tk' F' N' e8 e9 l1; (try dsimp only at N'); (try k_lt l1); (try dsimp only); (try k_sweep); (rcases colour_case (by assumption) e8 e9 with ⟨g1, g2, hz⟩ | ⟨hne, hc⟩); (all_goals clear e8 e9)))
local macro_rules | `(tactic| walk_at "call ref") => `(tactic| (k_here; k_dflt (refine' shared_specI (by k_asm) (by k_asm) (by k_asm) (by k_asm) (by k_asm) (by walk_at "my_kind") (by assumption) (by k_updF) (by (intro o9; (try dsimp only); k_updF)) (by assumption) (by assumption) (by omega) (by omega) (by omega) (by omega) (by ktr_room) (by ktr_units) ?_; k_whole); intro Dg' t' ps' ps2' g' h' tk' G' F' N' hp' hp2' eD' lD' uD'; (try dsimp only at N'); (try dsimp only); (try k_sweep)))
local macro_rules | `(tactic| walk_at "subscriptTail Name Constant ref int") => `(tactic| (k_here; k_dflt (first
  | ((with_reducible show wpAny _ _ (subscriptTail _ _ (Value.ref _) (Value.int 0 _)) _ _ _); refine' item_0 (by k_asm) (by k_mem) ?_ (by with_unfolding_all rfl); k_whole)
  | ((with_reducible show wpAny _ _ (subscriptTail _ _ (Value.ref _) (Value.int 1 _)) _ _ _); refine' item_1 (by k_asm) (by k_mem) ?_ (by with_unfolding_all rfl); k_whole)
  | ((with_reducible show wpAny _ _ (subscriptTail _ _ (Value.ref _) (Value.int 2 _)) _ _ _); refine' item_2 (by k_asm) (by k_mem) ?_ (by with_unfolding_all rfl); k_whole)); (try dsimp only)))
local macro_rules | `(tactic| walk_at "call builtin:sorted") => `(tactic| (k_here; k_dflt (refine' sorted3 (by k_asm) (by k_asm) (by k_mem) ?_; k_whole); intro D' lo' mid' hi' ta' tb' tc' c' h' F' N' l1 s3'; (try k_lt l1); (obtain ⟨sa', sb', sc', sd', se', sf', sg', sh', si', sj', sk'⟩ := id s3'); (first | (have hlh' : lo' = hi' := by omega) | (have hlh' : lo' ≠ hi' := by omega)); (have hl0' : 0 ≤ lo' := by omega); (have hh12' : hi' ≤ 12 := by omega); (try dsimp only); (try k_sweep)))
local macro_rules | `(tactic| walk_at "exec Assign cons ListComp") => `(tactic| (k_here; k_dflt (refine LCg.Assign_ListComp_U (F₀ := by k_asm) (by rfl) (by with_unfolding_all rfl) (by with_unfolding_all rfl) (by decide) (by rfl) (by decide) (by rfl) (by rfl) (by rfl) ?_)))
local macro_rules | `(tactic| walk_at "CompSrc") => `(tactic| (k_here; k_dflt (refine LCg.CompSrc.ledger (by rfl) (by k_asm) (by k_asm) (by k_mem) (by first | size_fits | exact Nat.le_of_ble_eq_true rfl) ?_; intro g'; lcg_lit)))
local macro_rules | `(tactic| walk_at "CompRest") => `(tactic| (with_unfolding_all first
  | (refine LCg.CompRest.succ ?_; intro v' I' oI' C' oC' D' m' h' tk' E' hv' hC' hx' F' N' off' ne'; lcg_open hv')
  | refine LCg.CompRest.zero ?_))
local macro_rules | `(tactic| walk_at "CompEnd") => `(tactic| refine LCg.CompEnd.intro (by assumption) (by assumption) _ (fun p hp => hp) (by assumption) (by lcg_src) ?_)
local macro_rules | `(tactic| walk_at "exec Assign") => `(tactic| (exfalso; contradiction))
local macro_rules | `(tactic| walk_at "exec Return some") => `(tactic| (exfalso; contradiction))
local macro_rules | `(tactic| walk_at "call ref") => `(tactic| (k_here; k_dflt (refine' whole_spec (by k_asm) (by k_asm) (by k_asm) (by k_asm) (by k_asm) (by walk_at "my_kind") (by assumption) (by assumption) (by assumption) (by assumption) (by assumption) (by ktr_room) (by ktr_units) ?_; k_whole); intro l' vs' nl' h' tk' F' N' ia' l1; (try dsimp only at N'); (try k_lt l1); (try dsimp only); (try k_sweep)))
local macro_rules | `(tactic| walk_at "call builtin:max") => `(tactic| (k_here; (with_reducible show wpAny _ _ (call (Value.builtin _) [Value.ref _]) _ _ _); k_dflt (refine' max3l (by with_unfolding_all rfl) (by k_asm) (by k_asm) (by k_mem) ?_; k_whole); intro h' M' t' k' F' N' m1' m2' m3' m4'; (obtain ⟨f1', f2', f3', f4', f5'⟩ := size_facts (by assumption) (by assumption) (by assumption) (by assumption) (by assumption) m1' m2' m3' m4'); (try dsimp only); (try k_sweep)))
local macro_rules | `(tactic| k_mem) => `(tactic| assumption)
local macro_rules | `(tactic| walk_at "exec For Name Call cons nil") => `(tactic| (k_here; k_dflt (refine for_go ?_)))
local macro_rules | `(tactic| walk_at "pyIter ref") => `(tactic| (k_here; (rename Fr _ _ _ _ => F9); (rename News _ _ _ _ => N9); (rename IsRange _ _ _ _ _ _ _ _ => R9); refine rangeIter_led F9 N9 R9 (by decide) ?_; intro I' h' F' N' l1; (try dsimp only); (try k_lt l1)))

theorem colour_spec {w : World} {pp : Program} {lo : List Str} {r g b : Int} {p : Addr} {np : Nat} {t1 t2 t3 : Tok} {ps ps2 : Array Value} {rest : List (Addr × Obj)} {mean : ExcName → Option Value} {mg mb : Str → Option Value}
    {dp un : Nat} {gd : Option (List Code)} {cn : Str} {cs : Scope} {a : Addr} {ccd : Value} {cl : List (Str × Addr)} {outer : List Env} {A₀ : Around} {base h₀ : Heap} {L : Addr} {m : Str → Option Value} {s : Shared} {Q E : Value → Shared → Prop}
    (B : Below A₀ base outer h₀) (F : Fr h₀ L s.heap m) (X : (hd.heap_39 w.params).In h₀) (N : News h₀ L s.heap ((p, listOf #[.int r t1, .int g t2, .int b t3] np) :: (154, tableObj ps) :: (161, tableObj ps2) :: rest)) (T : Top pp lo mean mg mb h₀) (hk : cs.kind = .function)
    (G : AllBare s.gens) (p5 : @Ne Nat p 154) (p6 : @Ne Nat p 161) (q5 : ∀ p ∈ rest, p.1 ≠ 154) (q6 : ∀ p ∈ rest, p.1 ≠ 161) (hp : Tab1 ps) (hp2 : Tab2 ps2) (C : ColourOk r g b) (hr0 : 0 ≤ r) (hr : r ≤ 12) (hg0 : 0 ≤ g) (hg : g ≤ 12) (hb0 : 0 ≤ b) (hb : b ≤ 12) (hD : dp + 500 < recursionLimit) (hU : un + 5000 < cLine)
    (ret : ∀ (ps' ps2' : Array Value) (g' : Array GenState) (h' : Heap) (tk' : Nat), AllBare g' → Fr h₀ L h' m → News h₀ L h' ((p, listOf #[.int r t1, .int g t2, .int b t3] np) :: (154, tableObj ps') :: (161, tableObj ps2') :: rest) → Tab1 ps' → Tab2 ps2' → Q (.bool true) ⟨h', g', s.drawn, tk', s.os⟩) :
    wpAny (model PySem.Challenge.rw_pg0222_01.row.prog w) (PySem.W.ktrTop dp un gd cn cs L a ccd cl outer) (call (.ref 220) [.ref p]) Q E s := by
  have z1 := C.z1
  have z2 := C.z2
  have w1 := not_over hr0 hr
  have w2 := not_over hg0 hg
  have w3 := not_over hb0 hb
  dsimp only [fl16] at z1 z2
  refine wpAny_call ?_
  k_dflt (refine' code_defC ?k1 ?k2 ?k3 ?k4 ?k5 ?kA ?kF ?kK ?k6 ?k7 ?k8 ?k9 ?kB ?kD ?_ ?c2 ?c3 ?c4; (case kA => exact rfl); (case kF => exact rfl); (case kK => assumption); (case k1 => k_asm); (case k2 => k_asm); (case k3 => k_asm); (case k4 => k_asm); (case k5 => k_asm); (case k6 => k_is); (case k7 => k_is); (case k8 => ktr_room); (case k9 => exact BindsTo.of_eq rfl); (case kB => exact rfl); (case kD => decide +kernel); (case c2 => exact rfl); (case c3 => exact rfl); (case c4 => exact rfl); k_whole; intro g' L' h' tk' cells' FG' F' N' Y' B' X' T' l1; (try k_lt l1); k_cells Y'; (try simp only [List.cons_append, List.nil_append] at N'); (try dsimp only); (try k_lift B'); (try k_fold))
  have lr : AllLt L' rest := l1.2.2.2
  k_steps
  · rename (_ = (0 : UInt64)) => hz
    subst hz
    rename News _ _ _ _ => N9
    have e : (Float64.cmp 0 0 == some .eq) = true := by decide +kernel
    rw [e]
    exact ret _ _ _ _ _ G (by assumption) (fun p hp => N9 p (.tail _ (.tail _ (.tail _ (.tail _ (.tail _ (.tail _ hp))))))) hp hp2
  rename Fr _ _ _ _ => F9
  rename News _ _ _ _ => N9
  refine' colour_loop (pre := [_, _, _]) ?ha ?hF ?hN ?hl ?hd ?off ?turn ?done
  case ha => exact rfl
  case hF => exact F9
  case hN => exact N9
  case hl => exact rfl
  case hd => assumption
  case off =>
    rename (_ ∧ _ ∧ _ ∧ _ ∧ _ ∧ _ ∧ _ ∧ _ ∧ _ ∧ _ ∧ AllLt _ _) => l9
    refine allLt_ne ?_
    exact l9
  case turn =>
    intro k n oc u h tq v hk' hn n1 n12 F8 N8 hd8
    simp only [List.cons_append, List.nil_append] at N8
    clear F9 N9
    rename HueOk _ _ _ _ => ho
    have f1 := ho.f1
    have f2 := ho.f2
    have f3 := ho.f3 n n1 n12
    have hw := want_eq ho n1 n12 (by assumption) (by assumption) (by assumption) (by assumption) (by assumption) (by assumption)
    k_steps
    · rename News _ _ _ _ => N9
      exact ColJ.intro hn (by assumption) (fun z hz => by simp only [if_neg hz]) N9 (by assumption) (fun p hp => .tail _ (.tail _ (.tail _ hp)))
    · rw [if_pos (by assumption)] at hw
      exact absurd hw (by assumption)
    · rename News _ _ _ _ => N9
      exact ColJ.intro hn (by assumption) (fun z hz => by simp only [if_neg hz]) N9 (by assumption) (fun p hp => .tail _ (.tail _ hp))
    · rw [if_neg (by assumption)] at hw
      rename (decide _ = false) => hq
      rw [hw] at hq
      exact absurd hq (by decide)
  case done =>
    intro oc u h tq F8 N8
    simp only [List.cons_append, List.nil_append] at N8
    clear F9 N9
    k_steps
    rename News _ _ _ _ => N9
    exact ret _ _ _ _ _ (by assumption) (by assumption) (fun p hp => N9 p (.tail _ (.tail _ (.tail _ (.tail _ (.tail _ (.tail _ (.tail _ hp)))))))) (by assumption) (by assumption)

end Mine
end
section
open PySem PySem.W
set_option maxRecDepth 100000
set_option Elab.async false
namespace Mine
/-- hand on a value that is reckoned -/
def fU {α : Type} (x : UInt64) (k : UInt64 → α) : α := match x.toNat with
  | 0 => k (UInt64.ofNat 0)
  | n + 1 => k (UInt64.ofNat (n + 1))
theorem fU_eq {α : Type} (x : UInt64) (k : UInt64 → α) : fU x k = k x := by
  unfold fU
  have e : UInt64.ofNat x.toNat = x := by simp
  split
  · rename_i h; rw [← h, e]
  · rename_i n h
    have h' : x.toNat = n + 1 := h
    rw [← h', e]
def fN {α : Type} (x : Nat) (k : Nat → α) : α := match x with
  | 0 => k 0
  | n + 1 => k (n + 1)
theorem fN_eq {α : Type} (x : Nat) (k : Nat → α) : fN x k = k x := by
  cases x <;> rfl
/-- a part u of the value, told for n sixteenths -/
def okU (u : UInt64) (k q n : Nat) : Bool :=
  fU (fl16 (n : Int)) fun z => fU (Float64.mul z u) fun y => fU (Float64.mul y 4670232813583204352) fun m => fU (Float64.add m 4602678819172646912) fun a =>
    Float64.isFinite a && (if n % q = 0 then Flt.toInt Float64.truncOf a == ((1024 * (k * (n / q)) : Nat) : Int) else (Flt.toInt Float64.truncOf a).fmod 1024 != 0)
def okE (e : Nat × Nat × Nat) : Bool := (List.range 12).all fun n => okU (UInt64.ofNat e.1) e.2.1 e.2.2 (n + 1)
def tu0 : List (Nat × Nat × Nat) := [(0, 0, 1), (4607182418800017408, 1, 1), (4602678819172646912, 1, 2), (4599676419421066582, 1, 3), (4599676419421066584, 1, 3), (4599676419421066576, 1, 3)]
theorem tu0_ok : tu0.all okE = true := by decide +kernel
def tu1 : List (Nat × Nat × Nat) := [(4599676419421066592, 1, 3), (4604180019048437078, 2, 3), (4604180019048437076, 2, 3), (4604180019048437080, 2, 3), (4598175219545276416, 1, 4), (4604930618986332160, 3, 4)]
theorem tu1_ok : tu1.all okE = true := by decide +kernel
def tu2 : List (Nat × Nat × Nat) := [(4596373779694328216, 1, 5), (4596373779694328224, 1, 5), (4600877379321698714, 2, 5), (4600877379321698712, 2, 5), (4600877379321698720, 2, 5), (4603579539098121011, 3, 5)]
theorem tu2_ok : tu2.all okE = true := by decide +kernel
def tu3 : List (Nat × Nat × Nat) := [(4603579539098121012, 3, 5), (4603579539098121008, 3, 5), (4605380978949069210, 4, 5), (4605380978949069208, 4, 5), (4595172819793696084, 1, 6), (4595172819793696080, 1, 6)]
theorem tu3_ok : tu3.all okE = true := by decide +kernel
def tu4 : List (Nat × Nat × Nat) := [(4595172819793696096, 1, 6), (4605681218924227243, 5, 6), (4605681218924227244, 5, 6), (4605681218924227240, 5, 6), (4594314991293244564, 1, 7), (4594314991293244560, 1, 7)]
theorem tu4_ok : tu4.all okE = true := by decide +kernel
def tu5 : List (Nat × Nat × Nat) := [(4594314991293244576, 1, 7), (4598818590920615058, 2, 7), (4598818590920615056, 2, 7), (4598818590920615072, 2, 7), (4601392076421969628, 3, 7), (4601392076421969632, 3, 7)]
theorem tu5_ok : tu5.all okE = true := by decide +kernel
def tu6 : List (Nat × Nat × Nat) := [(4603322190547985554, 4, 7), (4603322190547985556, 4, 7), (4603322190547985552, 4, 7), (4604608933298662839, 5, 7), (4604608933298662840, 5, 7), (4605895676049340124, 6, 7)]
theorem tu6_ok : tu6.all okE = true := by decide +kernel
def tu7 : List (Nat × Nat × Nat) := [(4605895676049340120, 6, 7), (4605895676049340128, 6, 7), (4593671619917905920, 1, 8), (4600427019358961664, 3, 8), (4603804719079489536, 5, 8), (4606056518893174784, 7, 8)]
theorem tu7_ok : tu7.all okE = true := by decide +kernel
def tu8 : List (Nat × Nat × Nat) := [(4592670820000712480, 1, 9), (4592670820000712448, 1, 9), (4597174419628082972, 2, 9), (4597174419628082976, 2, 9), (4597174419628082944, 2, 9), (4601678019255453468, 4, 9)]
theorem tu8_ok : tu8.all okE = true := by decide +kernel
def tu9 : List (Nat × Nat × Nat) := [(4601678019255453472, 4, 9), (4603179219131243634, 5, 9), (4603179219131243632, 5, 9), (4605180818965630520, 7, 9), (4606181618882823964, 8, 9), (4606181618882823968, 8, 9)]
theorem tu9_ok : tu9.all okE = true := by decide +kernel
def tu10 : List (Nat × Nat × Nat) := [(4591870180066957720, 1, 10), (4591870180066957728, 1, 10), (4591870180066957696, 1, 10), (4599075939470750516, 3, 10), (4599075939470750512, 3, 10), (4599075939470750528, 3, 10)]
theorem tu10_ok : tu10.all okE = true := by decide +kernel
def tu11 : List (Nat × Nat × Nat) := [(4604480259023595110, 7, 10), (4604480259023595112, 7, 10), (4606281698874543308, 9, 10), (4606281698874543312, 9, 10), (4591215111030249288, 1, 11), (4591215111030249280, 1, 11)]
theorem tu11_ok : tu11.all okE = true := by decide +kernel
def tu12 : List (Nat × Nat × Nat) := [(4595718710657619780, 2, 11), (4595718710657619776, 2, 11), (4598584637693219188, 3, 11), (4598584637693219184, 3, 11), (4600222310284990278, 4, 11), (4600222310284990280, 4, 11)]
theorem tu12_ok : tu12.all okE = true := by decide +kernel
def tu13 : List (Nat × Nat × Nat) := [(4600222310284990272, 4, 11), (4601859982876761368, 5, 11), (4601859982876761376, 5, 11), (4603088237320589684, 6, 11), (4603088237320589688, 6, 11), (4603907073616475229, 7, 11)]
theorem tu13_ok : tu13.all okE = true := by decide +kernel
def tu14 : List (Nat × Nat × Nat) := [(4603907073616475228, 7, 11), (4603907073616475232, 7, 11), (4604725909912360774, 8, 11), (4604725909912360776, 8, 11), (4605544746208246318, 9, 11), (4605544746208246320, 9, 11)]
theorem tu14_ok : tu14.all okE = true := by decide +kernel
def tu15 : List (Nat × Nat × Nat) := [(4606363582504131864, 10, 11), (4590669220166325592, 1, 12), (4590669220166325600, 1, 12), (4590669220166325568, 1, 12), (4601177619296856746, 5, 12), (4601177619296856744, 5, 12)]
theorem tu15_ok : tu15.all okE = true := by decide +kernel
def tu16 : List (Nat × Nat × Nat) := [(4601177619296856752, 5, 12), (4601177619296856736, 5, 12), (4603429419110541994, 7, 12), (4603429419110541996, 7, 12), (4603429419110541992, 7, 12), (4606431818862122324, 11, 12)]
theorem tu16_ok : tu16.all okE = true := by decide +kernel
def tu17 : List (Nat × Nat × Nat) := [(4606431818862122328, 11, 12)]
theorem tu17_ok : tu17.all okE = true := by decide +kernel
def tableU : List (Nat × Nat × Nat) := tu0 ++ (tu1 ++ (tu2 ++ (tu3 ++ (tu4 ++ (tu5 ++ (tu6 ++ (tu7 ++ (tu8 ++ (tu9 ++ (tu10 ++ (tu11 ++ (tu12 ++ (tu13 ++ (tu14 ++ (tu15 ++ (tu16 ++ (tu17)))))))))))))))))
theorem tableU_ok : tableU.all okE = true := by
  unfold tableU
  simp only [List.all_append, tu0_ok, tu1_ok, tu2_ok, tu3_ok, tu4_ok, tu5_ok, tu6_ok, tu7_ok, tu8_ok, tu9_ok, tu10_ok, tu11_ok, tu12_ok, tu13_ok, tu14_ok, tu15_ok, tu16_ok, tu17_ok, Bool.and_self]

theorem told_z : ((List.range 12).all fun n => fU (fl16 ((n + 1 : Nat) : Int)) fun z => Float64.isFinite (Float64.add (Float64.mul z 4670232813583204352) 4602678819172646912) && (toldF z == ((1024 * (n + 1) : Nat) : Int))) = true := by decide +kernel
theorem told_p : ((List.range 12).all fun n => fU (fl16 ((n + 1 : Nat) : Int)) fun z => fU (hvP z) fun y => Float64.isFinite (Float64.add (Float64.mul y 4670232813583204352) 4602678819172646912) && (toldF y == 0)) = true := by decide +kernel
def rat (p q : Nat) : UInt64 := Float64.div (fl16 (p : Int)) (fl16 (q : Int))
/-- the hue of a least colour whose least part is none -/
def hueK (a b c M : Nat) : UInt64 :=
  (Float64.divmod (Float64.div (if a = M then Float64.sub (rat (M - c) M) (rat (M - b) M) else if b = M then Float64.sub (Float64.add 4611686018427387904 (rat (M - a) M)) (rat (M - c) M) else Float64.sub (Float64.add 4616189618054758400 (rat (M - b) M)) (rat (M - a) M)) 4618441417868443648) 4607182418800017408).2
def hue1 (a b c M : Nat) : UInt64 := fU (rat (M - a) M) fun x => fU (rat (M - b) M) fun y => fU (rat (M - c) M) fun z =>
  fU (if a = M then Float64.sub z y else if b = M then Float64.sub (Float64.add 4611686018427387904 x) z else Float64.sub (Float64.add 4616189618054758400 y) x) fun h => fU (Float64.div h 4618441417868443648) fun h6 => (Float64.divmod h6 4607182418800017408).2
theorem hue1_eq (a b c M : Nat) : hue1 a b c M = hueK a b c M := by
  unfold hue1 hueK
  simp only [fU_eq]
/-- which of the six ways, and the part u that is reckoned -/
def okH (a b c M k wy : Nat) : Bool :=
  fU (hue1 a b c M) fun h => fU (Float64.mul h 4618441417868443648) fun x => Float64.isFinite x && fN (Flt.toInt Float64.truncOf x).toNat fun i => (Flt.toInt Float64.truncOf x == (i : Int)) && decide (i ≤ 100) && decide (i % 6 = wy) &&
    fU (Float64.sub x (Float64.ofInt (i : Int))) fun f => fU (if wy % 2 = 1 then Float64.sub 4607182418800017408 (Float64.mul 4607182418800017408 f) else Float64.sub 4607182418800017408 (Float64.mul 4607182418800017408 (Float64.sub 4607182418800017408 f))) fun u => tableU.contains (u.toNat, k, M)
def ok6 (M k : Nat) : Bool :=
  if M = k then okH M M 0 M M 1 && okH 0 M M M M 3 && okH M 0 M M M 5
  else if k = 0 then okH M 0 0 M 0 0 && okH 0 M 0 M 0 2 && okH 0 0 M M 0 4
  else okH M k 0 M k 0 && okH k M 0 M k 1 && okH 0 M k M k 2 && okH 0 k M M k 3 && okH k 0 M M k 4 && okH M 0 k M k 5
theorem ok6_1 : ((List.range 2).all fun k => decide (Nat.gcd 1 k ≠ 1) || ok6 1 k) = true := by decide +kernel
theorem ok6_2 : ((List.range 3).all fun k => decide (Nat.gcd 2 k ≠ 1) || ok6 2 k) = true := by decide +kernel
theorem ok6_3 : ((List.range 4).all fun k => decide (Nat.gcd 3 k ≠ 1) || ok6 3 k) = true := by decide +kernel
theorem ok6_4 : ((List.range 5).all fun k => decide (Nat.gcd 4 k ≠ 1) || ok6 4 k) = true := by decide +kernel
theorem ok6_5 : ((List.range 6).all fun k => decide (Nat.gcd 5 k ≠ 1) || ok6 5 k) = true := by decide +kernel
theorem ok6_6 : ((List.range 7).all fun k => decide (Nat.gcd 6 k ≠ 1) || ok6 6 k) = true := by decide +kernel
theorem ok6_7 : ((List.range 8).all fun k => decide (Nat.gcd 7 k ≠ 1) || ok6 7 k) = true := by decide +kernel
theorem ok6_8 : ((List.range 9).all fun k => decide (Nat.gcd 8 k ≠ 1) || ok6 8 k) = true := by decide +kernel
theorem ok6_9 : ((List.range 10).all fun k => decide (Nat.gcd 9 k ≠ 1) || ok6 9 k) = true := by decide +kernel
theorem ok6_10 : ((List.range 11).all fun k => decide (Nat.gcd 10 k ≠ 1) || ok6 10 k) = true := by decide +kernel
theorem ok6_11 : ((List.range 12).all fun k => decide (Nat.gcd 11 k ≠ 1) || ok6 11 k) = true := by decide +kernel
theorem ok6_12 : ((List.range 13).all fun k => decide (Nat.gcd 12 k ≠ 1) || ok6 12 k) = true := by decide +kernel
end Mine
end
section
open PySem PySem.W PyProof.Rows
set_option maxRecDepth 100000
set_option Elab.async false
namespace Mine
theorem okU_of {u : UInt64} {k q n : Nat} (h : okU u k q n = true) :
    Float64.isFinite (Float64.add (Float64.mul (Float64.mul (fl16 (n : Int)) u) 4670232813583204352) 4602678819172646912) = true ∧
    (n % q = 0 → toldF (Float64.mul (fl16 (n : Int)) u) = ((1024 * (k * (n / q)) : Nat) : Int)) ∧ (¬ n % q = 0 → (toldF (Float64.mul (fl16 (n : Int)) u)).fmod 1024 ≠ 0) := by
  unfold okU at h
  simp only [fU_eq, Bool.and_eq_true] at h
  refine ⟨h.1, fun hq => ?_, fun hq => ?_⟩
  · have := h.2
    rw [if_pos hq] at this
    exact beq_iff_eq.mp this
  · have := h.2
    rw [if_neg hq] at this
    exact fun e => by
      have e' : (Flt.toInt Float64.truncOf (Float64.add (Float64.mul (Float64.mul (fl16 (n : Int)) u) 4670232813583204352) 4602678819172646912)).fmod 1024 = 0 := e
      rw [e'] at this
      exact absurd this (by decide)
theorem told_z' {n : Nat} (h1 : 1 ≤ n) (h2 : n ≤ 12) : Float64.isFinite (Float64.add (Float64.mul (fl16 (n : Int)) 4670232813583204352) 4602678819172646912) = true ∧ toldF (fl16 (n : Int)) = ((1024 * n : Nat) : Int) := by
  have h := List.all_eq_true.mp told_z (n - 1) (List.mem_range.mpr (by omega))
  rw [Nat.sub_add_cancel h1] at h
  simp only [fU_eq, Bool.and_eq_true] at h
  exact ⟨h.1, beq_iff_eq.mp h.2⟩
theorem told_p' {n : Nat} (h1 : 1 ≤ n) (h2 : n ≤ 12) : Float64.isFinite (Float64.add (Float64.mul (hvP (fl16 (n : Int))) 4670232813583204352) 4602678819172646912) = true ∧ toldF (hvP (fl16 (n : Int))) = 0 := by
  have h := List.all_eq_true.mp told_p (n - 1) (List.mem_range.mpr (by omega))
  rw [Nat.sub_add_cancel h1] at h
  simp only [fU_eq, Bool.and_eq_true] at h
  exact ⟨h.1, beq_iff_eq.mp h.2⟩
/-- what is told of a hue: its way, and the part that is reckoned -/
structure HueIs (h : UInt64) (k M wy : Nat) : Prop where
  f1 : Float64.isFinite (Float64.mul h 4618441417868443648) = true
  f2 : ¬ Flt.Over (Flt.toInt Float64.truncOf (Float64.mul h 4618441417868443648))
  w : way h = (wy : Int)
  q : wy % 2 = 1 → ∀ n, 1 ≤ n → n ≤ 12 → okU (Float64.sub 4607182418800017408 (Float64.mul 4607182418800017408 (hfrac h))) k M n = true
  t : wy % 2 ≠ 1 → ∀ n, 1 ≤ n → n ≤ 12 → okU (Float64.sub 4607182418800017408 (Float64.mul 4607182418800017408 (Float64.sub 4607182418800017408 (hfrac h)))) k M n = true
theorem small_over {i : Nat} (h : i ≤ 100) : ¬ Flt.Over (i : Int) := by
  unfold Flt.Over
  rw [Int.natAbs_natCast]
  have h2 : ¬ ((2 : Nat) ^ 1024 - 2 ^ 970 ≤ 100) := by decide +kernel
  exact fun h3 => h2 (Nat.le_trans h3 h)
theorem tableU_n {u : UInt64} {k M : Nat} (h : tableU.contains (u.toNat, k, M) = true) {n : Nat} (h1 : 1 ≤ n) (h2 : n ≤ 12) : okU u k M n = true := by
  have hm : (u.toNat, k, M) ∈ tableU := by simpa using h
  have h3 := List.all_eq_true.mp (List.all_eq_true.mp tableU_ok _ hm) (n - 1) (List.mem_range.mpr (by omega))
  rw [Nat.sub_add_cancel h1] at h3
  have e : UInt64.ofNat u.toNat = u := by simp
  rwa [e] at h3
theorem hueIs_of {a b c M k wy : Nat} (h : okH a b c M k wy = true) : HueIs (hueK a b c M) k M wy := by
  unfold okH at h
  simp only [fU_eq, fN_eq, hue1_eq, Bool.and_eq_true, decide_eq_true_eq] at h
  obtain ⟨h1, ⟨⟨h2, h3⟩, h4⟩, h5⟩ := h
  have e := beq_iff_eq.mp h2
  generalize hi : (Flt.toInt Float64.truncOf (Float64.mul (hueK a b c M) 4618441417868443648)).toNat = i at *
  refine ⟨h1, by rw [e]; exact small_over h3, ?_, fun hw n n1 n2 => ?_, fun hw n n1 n2 => ?_⟩
  · unfold way
    rw [e, Int.fmod_eq_emod_of_nonneg _ (by decide)]
    omega
  · rw [if_pos hw] at h5
    have h6 := tableU_n h5 n1 n2
    unfold hfrac
    rw [e]; exact h6
  · rw [if_neg hw] at h5
    have h6 := tableU_n h5 n1 n2
    unfold hfrac
    rw [e]; exact h6
/-- a part of n sixteenths of a colour: told it is a whole, or no whole part -/
def Told (y : UInt64) (a n M : Nat) : Prop := Float64.isFinite (Float64.add (Float64.mul y 4670232813583204352) 4602678819172646912) = true ∧ (n % M = 0 → toldF y = ((1024 * (a * (n / M)) : Nat) : Int))
theorem whole_is {h : UInt64} {n a b c M : Nat} (h1 : Told (hvs h (fl16 (n : Int))).1 a n M) (h2 : Told (hvs h (fl16 (n : Int))).2.1 b n M) (h3 : Told (hvs h (fl16 (n : Int))).2.2 c n M)
    (hn : ¬ n % M = 0 → (toldF (hvs h (fl16 (n : Int))).1).fmod 1024 ≠ 0 ∨ (toldF (hvs h (fl16 (n : Int))).2.1).fmod 1024 ≠ 0 ∨ (toldF (hvs h (fl16 (n : Int))).2.2).fmod 1024 ≠ 0) :
    wholeL h (fl16 (n : Int)) = if n % M = 0 then [((a * (n / M) : Nat) : Int), ((b * (n / M) : Nat) : Int), ((c * (n / M) : Nat) : Int)] else [] := by
  have m0 : ∀ x : Nat, (((1024 * x : Nat) : Int)).fmod 1024 = 0 := fun x => by rw [Int.fmod_eq_emod_of_nonneg _ (by decide)]; omega
  have d0 : ∀ x : Nat, (((1024 * x : Nat) : Int)).fdiv 1024 = (x : Int) := fun x => by rw [Int.fdiv_eq_ediv_of_nonneg _ (by decide)]; omega
  unfold wholeL toldL
  by_cases hq : n % M = 0
  · rw [h1.2 hq, h2.2 hq, h3.2 hq, if_pos hq, if_neg]
    · simp only [List.map_cons, List.map_nil, d0]
    · simp [m0]
  · rw [if_neg hq, if_pos]
    rcases hn hq with q | q | q <;> simp [q]
/-- the three parts by the way -/
theorem parts_of {h : UInt64} {k M wy : Nat} (H : HueIs h k M wy) {n : Nat} (n1 : 1 ≤ n) (n2 : n ≤ 12) (hM : 1 ≤ M) :
    ∃ y, Told y k n M ∧ (¬ n % M = 0 → (toldF y).fmod 1024 ≠ 0) ∧ Told (fl16 (n : Int)) M n M ∧ Told (hvP (fl16 (n : Int))) 0 n M ∧
      (wy = 0 → hvs h (fl16 (n : Int)) = (fl16 (n : Int), y, hvP (fl16 (n : Int)))) ∧ (wy = 1 → hvs h (fl16 (n : Int)) = (y, fl16 (n : Int), hvP (fl16 (n : Int)))) ∧ (wy = 2 → hvs h (fl16 (n : Int)) = (hvP (fl16 (n : Int)), fl16 (n : Int), y)) ∧
      (wy = 3 → hvs h (fl16 (n : Int)) = (hvP (fl16 (n : Int)), y, fl16 (n : Int))) ∧ (wy = 4 → hvs h (fl16 (n : Int)) = (y, hvP (fl16 (n : Int)), fl16 (n : Int))) ∧ (wy = 5 → hvs h (fl16 (n : Int)) = (fl16 (n : Int), hvP (fl16 (n : Int)), y)) := by
  have z := told_z' n1 n2
  have p := told_p' n1 n2
  have tz : Told (fl16 (n : Int)) M n M := ⟨z.1, fun hq => by
    rw [z.2]
    have : M * (n / M) = n := Nat.mul_div_cancel' (Nat.dvd_of_mod_eq_zero hq)
    rw [this]⟩
  have tp : Told (hvP (fl16 (n : Int))) 0 n M := ⟨p.1, fun _ => by rw [p.2, Nat.zero_mul]; rfl⟩
  have e := H.w
  by_cases hw : wy % 2 = 1
  · obtain ⟨a1, a2, a3⟩ := okU_of (H.q hw n n1 n2)
    refine ⟨hvQ h (fl16 (n : Int)), ⟨a1, a2⟩, a3, tz, tp, ?_, ?_, ?_, ?_, ?_, ?_⟩ <;> intro hy <;> subst hy <;> first | omega | (unfold hvs; rw [e]; rfl)
  · obtain ⟨a1, a2, a3⟩ := okU_of (H.t hw n n1 n2)
    refine ⟨hvT h (fl16 (n : Int)), ⟨a1, a2⟩, a3, tz, tp, ?_, ?_, ?_, ?_, ?_, ?_⟩ <;> intro hy <;> subst hy <;> first | omega | (unfold hvs; rw [e]; rfl)
/-- the colour's parts by the way -/
def Arr (a b c M k wy : Nat) : Prop := (wy = 0 ∧ a = M ∧ b = k ∧ c = 0) ∨ (wy = 1 ∧ a = k ∧ b = M ∧ c = 0) ∨ (wy = 2 ∧ a = 0 ∧ b = M ∧ c = k) ∨ (wy = 3 ∧ a = 0 ∧ b = k ∧ c = M) ∨ (wy = 4 ∧ a = k ∧ b = 0 ∧ c = M) ∨ (wy = 5 ∧ a = M ∧ b = 0 ∧ c = k)
theorem whole_arr {h : UInt64} {a b c k M wy : Nat} (H : HueIs h k M wy) (hM : 1 ≤ M) (A : Arr a b c M k wy) {n : Nat} (n1 : 1 ≤ n) (n2 : n ≤ 12) :
    (∀ y ∈ [(hvs h (fl16 (n : Int))).1, (hvs h (fl16 (n : Int))).2.1, (hvs h (fl16 (n : Int))).2.2], Float64.isFinite (Float64.add (Float64.mul y 4670232813583204352) 4602678819172646912) = true) ∧
    wholeL h (fl16 (n : Int)) = if n % M = 0 then [((a * (n / M) : Nat) : Int), ((b * (n / M) : Nat) : Int), ((c * (n / M) : Nat) : Int)] else [] := by
  obtain ⟨y, ty, ny, tz, tp, w0, w1, w2, w3, w4, w5⟩ := parts_of H n1 n2 hM
  have fin : ∀ {p q r : UInt64} {a b c : Nat}, Told p a n M → Told q b n M → Told r c n M → ∀ y ∈ [p, q, r], Float64.isFinite (Float64.add (Float64.mul y 4670232813583204352) 4602678819172646912) = true := by
    intro p q r a b c h1 h2 h3 y hy
    simp only [List.mem_cons, List.not_mem_nil, or_false] at hy
    rcases hy with rfl | rfl | rfl
    · exact h1.1
    · exact h2.1
    · exact h3.1
  rcases A with ⟨e, rfl, rfl, rfl⟩ | ⟨e, rfl, rfl, rfl⟩ | ⟨e, rfl, rfl, rfl⟩ | ⟨e, rfl, rfl, rfl⟩ | ⟨e, rfl, rfl, rfl⟩ | ⟨e, rfl, rfl, rfl⟩
  · have e := w0 e
    exact ⟨by rw [e]; exact fin tz ty tp, whole_is (by rw [e]; exact tz) (by rw [e]; exact ty) (by rw [e]; exact tp) fun hq => .inr (.inl (by rw [e]; exact ny hq))⟩
  · have e := w1 e
    exact ⟨by rw [e]; exact fin ty tz tp, whole_is (by rw [e]; exact ty) (by rw [e]; exact tz) (by rw [e]; exact tp) fun hq => .inl (by rw [e]; exact ny hq)⟩
  · have e := w2 e
    exact ⟨by rw [e]; exact fin tp tz ty, whole_is (by rw [e]; exact tp) (by rw [e]; exact tz) (by rw [e]; exact ty) fun hq => .inr (.inr (by rw [e]; exact ny hq))⟩
  · have e := w3 e
    exact ⟨by rw [e]; exact fin tp ty tz, whole_is (by rw [e]; exact tp) (by rw [e]; exact ty) (by rw [e]; exact tz) fun hq => .inr (.inl (by rw [e]; exact ny hq))⟩
  · have e := w4 e
    exact ⟨by rw [e]; exact fin ty tp tz, whole_is (by rw [e]; exact ty) (by rw [e]; exact tp) (by rw [e]; exact tz) fun hq => .inl (by rw [e]; exact ny hq)⟩
  · have e := w5 e
    exact ⟨by rw [e]; exact fin tz tp ty, whole_is (by rw [e]; exact tz) (by rw [e]; exact tp) (by rw [e]; exact ty) fun hq => .inr (.inr (by rw [e]; exact ny hq))⟩
theorem ok6_all : ∀ M, 1 ≤ M → M ≤ 12 → ((List.range (M + 1)).all fun k => decide (Nat.gcd M k ≠ 1) || ok6 M k) = true
  | 1, _, _ => ok6_1 | 2, _, _ => ok6_2 | 3, _, _ => ok6_3 | 4, _, _ => ok6_4 | 5, _, _ => ok6_5 | 6, _, _ => ok6_6 | 7, _, _ => ok6_7 | 8, _, _ => ok6_8 | 9, _, _ => ok6_9 | 10, _, _ => ok6_10 | 11, _, _ => ok6_11 | 12, _, _ => ok6_12
  | 0, h, _ => absurd h (by decide)
  | n + 13, _, h => absurd h (by omega)
/-- every least colour has a way -/
theorem hue_arr {a b c M k : Nat} (hM : 1 ≤ M) (hM2 : M ≤ 12) (hk : k ≤ M) (hg : Nat.gcd M k = 1) (hp : (a = M ∧ b = k ∧ c = 0) ∨ (a = k ∧ b = M ∧ c = 0) ∨ (a = 0 ∧ b = M ∧ c = k) ∨ (a = 0 ∧ b = k ∧ c = M) ∨ (a = k ∧ b = 0 ∧ c = M) ∨ (a = M ∧ b = 0 ∧ c = k)) :
    ∃ wy, HueIs (hueK a b c M) k M wy ∧ Arr a b c M k wy := by
  have h := List.all_eq_true.mp (ok6_all M hM hM2) k (List.mem_range.mpr (by omega))
  rw [Bool.or_eq_true, decide_eq_true_eq] at h
  have h := h.resolve_left (fun q => q hg)
  unfold ok6 at h
  by_cases h1 : M = k
  · rw [if_pos h1] at h
    simp only [Bool.and_eq_true] at h
    obtain ⟨⟨c1, c3⟩, c5⟩ := h
    subst h1
    rcases hp with ⟨rfl, rfl, rfl⟩ | ⟨rfl, rfl, rfl⟩ | ⟨rfl, rfl, rfl⟩ | ⟨rfl, rfl, rfl⟩ | ⟨rfl, rfl, rfl⟩ | ⟨rfl, rfl, rfl⟩
    · exact ⟨1, hueIs_of c1, .inr (.inl ⟨rfl, rfl, rfl, rfl⟩)⟩
    · exact ⟨1, hueIs_of c1, .inr (.inl ⟨rfl, rfl, rfl, rfl⟩)⟩
    · exact ⟨3, hueIs_of c3, .inr (.inr (.inr (.inl ⟨rfl, rfl, rfl, rfl⟩)))⟩
    · exact ⟨3, hueIs_of c3, .inr (.inr (.inr (.inl ⟨rfl, rfl, rfl, rfl⟩)))⟩
    · exact ⟨5, hueIs_of c5, .inr (.inr (.inr (.inr (.inr ⟨rfl, rfl, rfl, rfl⟩))))⟩
    · exact ⟨5, hueIs_of c5, .inr (.inr (.inr (.inr (.inr ⟨rfl, rfl, rfl, rfl⟩))))⟩
  · rw [if_neg h1] at h
    by_cases h2 : k = 0
    · rw [if_pos h2] at h
      simp only [Bool.and_eq_true] at h
      obtain ⟨⟨c0, c2⟩, c4⟩ := h
      subst h2
      rcases hp with ⟨rfl, rfl, rfl⟩ | ⟨rfl, rfl, rfl⟩ | ⟨rfl, rfl, rfl⟩ | ⟨rfl, rfl, rfl⟩ | ⟨rfl, rfl, rfl⟩ | ⟨rfl, rfl, rfl⟩
      · exact ⟨0, hueIs_of c0, .inl ⟨rfl, rfl, rfl, rfl⟩⟩
      · exact ⟨2, hueIs_of c2, .inr (.inr (.inl ⟨rfl, rfl, rfl, rfl⟩))⟩
      · exact ⟨2, hueIs_of c2, .inr (.inr (.inl ⟨rfl, rfl, rfl, rfl⟩))⟩
      · exact ⟨4, hueIs_of c4, .inr (.inr (.inr (.inr (.inl ⟨rfl, rfl, rfl, rfl⟩))))⟩
      · exact ⟨4, hueIs_of c4, .inr (.inr (.inr (.inr (.inl ⟨rfl, rfl, rfl, rfl⟩))))⟩
      · exact ⟨0, hueIs_of c0, .inl ⟨rfl, rfl, rfl, rfl⟩⟩
    · rw [if_neg h2] at h
      simp only [Bool.and_eq_true] at h
      obtain ⟨⟨⟨⟨⟨c0, c1⟩, c2⟩, c3⟩, c4⟩, c5⟩ := h
      rcases hp with ⟨rfl, rfl, rfl⟩ | ⟨rfl, rfl, rfl⟩ | ⟨rfl, rfl, rfl⟩ | ⟨rfl, rfl, rfl⟩ | ⟨rfl, rfl, rfl⟩ | ⟨rfl, rfl, rfl⟩
      · exact ⟨0, hueIs_of c0, .inl ⟨rfl, rfl, rfl, rfl⟩⟩
      · exact ⟨1, hueIs_of c1, .inr (.inl ⟨rfl, rfl, rfl, rfl⟩)⟩
      · exact ⟨2, hueIs_of c2, .inr (.inr (.inl ⟨rfl, rfl, rfl, rfl⟩))⟩
      · exact ⟨3, hueIs_of c3, .inr (.inr (.inr (.inl ⟨rfl, rfl, rfl, rfl⟩)))⟩
      · exact ⟨4, hueIs_of c4, .inr (.inr (.inr (.inr (.inl ⟨rfl, rfl, rfl, rfl⟩))))⟩
      · exact ⟨5, hueIs_of c5, .inr (.inr (.inr (.inr (.inr ⟨rfl, rfl, rfl, rfl⟩))))⟩
end Mine
end
section
open PySem PySem.W PyProof.Rows
set_option maxRecDepth 100000
set_option Elab.async false
namespace Mine
theorem fl_cmp0 : ((List.range 13).all fun p => (List.range 13).all fun q => fU (fl16 ((p : Nat) : Int)) fun x => fU (fl16 ((q : Nat) : Int)) fun y => Float64.cmp x y == some (compare p q)) = true := by decide +kernel
theorem fl_sub0 : ((List.range 13).all fun p => (List.range 13).all fun q => decide (p < q) || fU (fl16 ((p : Nat) : Int)) fun x => fU (fl16 ((q : Nat) : Int)) fun y => Float64.sub x y == fl16 ((p - q : Nat) : Int)) = true := by decide +kernel
theorem fl_zero0 : ((List.range 13).all fun p => Float64.isZero (fl16 ((p : Nat) : Int)) == decide (p = 0)) = true := by decide +kernel
theorem fl_rat0 : ((List.range 13).all fun s => (List.range 13).all fun q => decide (12 < s * q) || decide (s = 0) || decide (q = 0) || (List.range (q + 1)).all fun p => fU (fl16 ((s * p : Nat) : Int)) fun x => fU (fl16 ((s * q : Nat) : Int)) fun y => fU (rat p q) fun z => Float64.div x y == z) = true := by decide +kernel
theorem fl_cmp {p q : Nat} (hp : p ≤ 12) (hq : q ≤ 12) : Float64.cmp (fl16 ((p : Nat) : Int)) (fl16 ((q : Nat) : Int)) = some (compare p q) := by
  have h := List.all_eq_true.mp (List.all_eq_true.mp fl_cmp0 p (List.mem_range.mpr (by omega))) q (List.mem_range.mpr (by omega))
  simp only [fU_eq] at h
  exact beq_iff_eq.mp h
theorem fl_lt {p q : Nat} (hp : p ≤ 12) (hq : q ≤ 12) : (Float64.cmp (fl16 ((p : Nat) : Int)) (fl16 ((q : Nat) : Int)) == some .lt) = decide (p < q) := by
  rw [fl_cmp hp hq]
  by_cases h : p < q
  · rw [Nat.compare_eq_lt.mpr h]; simp [h]
  · rw [decide_eq_false h]
    cases e : compare p q with
    | lt => exact absurd (Nat.compare_eq_lt.mp e) h
    | eq => rfl
    | gt => rfl
theorem fl_eq {p q : Nat} (hp : p ≤ 12) (hq : q ≤ 12) : (Float64.cmp (fl16 ((p : Nat) : Int)) (fl16 ((q : Nat) : Int)) == some .eq) = decide (p = q) := by
  rw [fl_cmp hp hq]
  by_cases h : p = q
  · rw [Nat.compare_eq_eq.mpr h]; simp [h]
  · rw [decide_eq_false h]
    cases e : compare p q with
    | lt => rfl
    | eq => exact absurd (Nat.compare_eq_eq.mp e) h
    | gt => rfl
theorem fl_sub {p q : Nat} (hp : p ≤ 12) (hq : q ≤ p) : Float64.sub (fl16 ((p : Nat) : Int)) (fl16 ((q : Nat) : Int)) = fl16 ((p - q : Nat) : Int) := by
  have h := List.all_eq_true.mp (List.all_eq_true.mp fl_sub0 p (List.mem_range.mpr (by omega))) q (List.mem_range.mpr (by omega))
  simp only [fU_eq, Bool.or_eq_true, decide_eq_true_eq] at h
  rcases h with h | h
  · omega
  · exact beq_iff_eq.mp h
theorem fl_zero {p : Nat} (hp : p ≤ 12) : Float64.isZero (fl16 ((p : Nat) : Int)) = decide (p = 0) := by
  have h := List.all_eq_true.mp fl_zero0 p (List.mem_range.mpr (by omega))
  exact beq_iff_eq.mp h
theorem fl_rat {s p q : Nat} (hs : 1 ≤ s) (hq : 1 ≤ q) (hp : p ≤ q) (h12 : s * q ≤ 12) : Float64.div (fl16 ((s * p : Nat) : Int)) (fl16 ((s * q : Nat) : Int)) = rat p q := by
  have s12 : s ≤ 12 := Nat.le_trans (Nat.le_mul_of_pos_right s hq) h12
  have q12 : q ≤ 12 := Nat.le_trans (Nat.le_mul_of_pos_left q hs) h12
  have h := List.all_eq_true.mp (List.all_eq_true.mp fl_rat0 s (List.mem_range.mpr (by omega))) q (List.mem_range.mpr (by omega))
  simp only [fU_eq, Bool.or_eq_true, decide_eq_true_eq] at h
  rcases h with ((h | h) | h) | h
  · omega
  · omega
  · omega
  · exact beq_iff_eq.mp (List.all_eq_true.mp h p (List.mem_range.mpr (by omega)))
theorem fl_max3 {p q r : Nat} (hp : p ≤ 12) (hq : q ≤ 12) (hr : r ≤ 12) : max3 (fl16 ((p : Nat) : Int)) (fl16 ((q : Nat) : Int)) (fl16 ((r : Nat) : Int)) = fl16 ((max (max p q) r : Nat) : Int) := by
  unfold max3
  rw [fl_lt hp hq]
  by_cases h : p < q
  · simp only [h, decide_true, if_true]
    rw [fl_lt hq hr]
    by_cases h2 : q < r
    · simp only [h2, decide_true, if_true]; congr; omega
    · simp only [h2, decide_false, Bool.false_eq_true, if_false]; congr; omega
  · simp only [h, decide_false, Bool.false_eq_true, if_false]
    rw [fl_lt hp hr]
    by_cases h2 : p < r
    · simp only [h2, decide_true, if_true]; congr; omega
    · simp only [h2, decide_false, Bool.false_eq_true, if_false]; congr; omega
theorem fl_min3 {p q r : Nat} (hp : p ≤ 12) (hq : q ≤ 12) (hr : r ≤ 12) : min3 (fl16 ((p : Nat) : Int)) (fl16 ((q : Nat) : Int)) (fl16 ((r : Nat) : Int)) = fl16 ((min (min p q) r : Nat) : Int) := by
  unfold min3
  rw [fl_lt hq hp]
  by_cases h : q < p
  · simp only [h, decide_true, if_true]
    rw [fl_lt hr hq]
    by_cases h2 : r < q
    · simp only [h2, decide_true, if_true]; congr; omega
    · simp only [h2, decide_false, Bool.false_eq_true, if_false]; congr; omega
  · simp only [h, decide_false, Bool.false_eq_true, if_false]
    rw [fl_lt hr hp]
    by_cases h2 : r < p
    · simp only [h2, decide_true, if_true]; congr; omega
    · simp only [h2, decide_false, Bool.false_eq_true, if_false]; congr; omega
/-- the hue hangs on the least colour alone -/
theorem hue_scale {LO D a b c M : Nat} (hD : 1 ≤ D) (hM : 1 ≤ M) (h12 : LO + D * M ≤ 12) (ha : a ≤ M) (hb : b ≤ M) (hc : c ≤ M) (hmax : a = M ∨ b = M ∨ c = M) (hmin : a = 0 ∨ b = 0 ∨ c = 0) :
    hueF (fl16 ((LO + D * a : Nat) : Int)) (fl16 ((LO + D * b : Nat) : Int)) (fl16 ((LO + D * c : Nat) : Int)) = hueK a b c M := by
  have la : D * a ≤ D * M := Nat.mul_le_mul_left D ha
  have lb : D * b ≤ D * M := Nat.mul_le_mul_left D hb
  have lc : D * c ≤ D * M := Nat.mul_le_mul_left D hc
  have emax : max (max (LO + D * a) (LO + D * b)) (LO + D * c) = LO + D * M := by
    rcases hmax with e | e | e <;> subst e <;> omega
  have emin : min (min (LO + D * a) (LO + D * b)) (LO + D * c) = LO := by
    rcases hmin with e | e | e <;> subst e <;> (rw [Nat.mul_zero] at *; omega)
  have eqM : ∀ x, x ≤ M → (LO + D * x = LO + D * M ↔ x = M) := fun x _ => by
    constructor
    · intro h
      exact Nat.eq_of_mul_eq_mul_left hD (by omega)
    · intro h; rw [h]
  have subM : ∀ x, x ≤ M → Float64.sub (fl16 ((LO + D * M : Nat) : Int)) (fl16 ((LO + D * x : Nat) : Int)) = fl16 ((D * (M - x) : Nat) : Int) := fun x hx => by
    have lx : D * x ≤ D * M := Nat.mul_le_mul_left D hx
    rw [fl_sub h12 (by omega)]
    have e : LO + D * M - (LO + D * x) = D * (M - x) := by rw [Nat.mul_sub]; omega
    rw [e]
  have subL : Float64.sub (fl16 ((LO + D * M : Nat) : Int)) (fl16 ((LO : Nat) : Int)) = fl16 ((D * M : Nat) : Int) := by
    rw [fl_sub h12 (by omega)]
    have e : LO + D * M - LO = D * M := by omega
    rw [e]
  have rt : ∀ x, x ≤ M → Float64.div (fl16 ((D * (M - x) : Nat) : Int)) (fl16 ((D * M : Nat) : Int)) = rat (M - x) M := fun x _ => fl_rat hD hM (Nat.sub_le _ _) (by omega)
  unfold hueF hueM hue0 hueK
  rw [fl_max3 (by omega) (by omega) (by omega), fl_min3 (by omega) (by omega) (by omega), emax, emin, subL, subM a ha, subM b hb, subM c hc, rt a ha, rt b hb, rt c hc, fl_eq (by omega) h12, fl_eq (by omega) h12]
  simp only [decide_eq_true_eq, eqM a ha, eqM b hb]
theorem perm3 (R G B : Nat) : ∃ LO MI HI, LO ≤ MI ∧ MI ≤ HI ∧ ((R = HI ∧ G = MI ∧ B = LO) ∨ (R = MI ∧ G = HI ∧ B = LO) ∨ (R = LO ∧ G = HI ∧ B = MI) ∨ (R = LO ∧ G = MI ∧ B = HI) ∨ (R = MI ∧ G = LO ∧ B = HI) ∨ (R = HI ∧ G = LO ∧ B = MI)) := by
  rcases Nat.le_total R G with h1 | h1 <;> rcases Nat.le_total G B with h2 | h2 <;> rcases Nat.le_total R B with h3 | h3
  · exact ⟨R, G, B, h1, h2, by simp⟩
  · exact ⟨R, G, B, h1, h2, by simp⟩
  · exact ⟨R, B, G, h3, h2, by simp⟩
  · exact ⟨B, R, G, h3, h1, by simp⟩
  · exact ⟨G, R, B, h1, h3, by simp⟩
  · exact ⟨G, B, R, h2, h3, by simp⟩
  · exact ⟨B, G, R, h2, h1, by simp⟩
  · exact ⟨B, G, R, h2, h1, by simp⟩
theorem nat_fmod (n M : Nat) : ((n : Nat) : Int).fmod ((M : Nat) : Int) = ((n % M : Nat) : Int) := by
  rw [Int.fmod_eq_emod_of_nonneg _ (by omega)]; omega
theorem nat_fdiv (n M : Nat) : ((n : Nat) : Int).fdiv ((M : Nat) : Int) = ((n / M : Nat) : Int) := by
  rw [Int.fdiv_eq_ediv_of_nonneg _ (by omega)]; omega
theorem arr_le {a b c M k : Nat} (kM : k ≤ M) (hp : (a = M ∧ b = k ∧ c = 0) ∨ (a = k ∧ b = M ∧ c = 0) ∨ (a = 0 ∧ b = M ∧ c = k) ∨ (a = 0 ∧ b = k ∧ c = M) ∨ (a = k ∧ b = 0 ∧ c = M) ∨ (a = M ∧ b = 0 ∧ c = k)) :
    a ≤ M ∧ b ≤ M ∧ c ≤ M ∧ (a = M ∨ b = M ∨ c = M) ∧ (a = 0 ∨ b = 0 ∨ c = 0) := by
  rcases hp with ⟨rfl, rfl, rfl⟩ | ⟨rfl, rfl, rfl⟩ | ⟨rfl, rfl, rfl⟩ | ⟨rfl, rfl, rfl⟩ | ⟨rfl, rfl, rfl⟩ | ⟨rfl, rfl, rfl⟩
  · exact ⟨Nat.le_refl _, kM, Nat.zero_le _, .inl rfl, .inr (.inr rfl)⟩
  · exact ⟨kM, Nat.le_refl _, Nat.zero_le _, .inr (.inl rfl), .inr (.inr rfl)⟩
  · exact ⟨Nat.zero_le _, Nat.le_refl _, kM, .inr (.inl rfl), .inl rfl⟩
  · exact ⟨Nat.zero_le _, kM, Nat.le_refl _, .inr (.inr rfl), .inl rfl⟩
  · exact ⟨kM, Nat.zero_le _, Nat.le_refl _, .inr (.inr rfl), .inr (.inl rfl)⟩
  · exact ⟨Nat.le_refl _, Nat.zero_le _, kM, .inl rfl, .inr (.inl rfl)⟩
theorem arr_of {R G B LO MI HI D M k : Nat} (eHI : HI = LO + D * M) (eMI : MI = LO + D * k)
    (hp : (R = HI ∧ G = MI ∧ B = LO) ∨ (R = MI ∧ G = HI ∧ B = LO) ∨ (R = LO ∧ G = HI ∧ B = MI) ∨ (R = LO ∧ G = MI ∧ B = HI) ∨ (R = MI ∧ G = LO ∧ B = HI) ∨ (R = HI ∧ G = LO ∧ B = MI)) :
    ∃ a b c, R = LO + D * a ∧ G = LO + D * b ∧ B = LO + D * c ∧ ((a = M ∧ b = k ∧ c = 0) ∨ (a = k ∧ b = M ∧ c = 0) ∨ (a = 0 ∧ b = M ∧ c = k) ∨ (a = 0 ∧ b = k ∧ c = M) ∨ (a = k ∧ b = 0 ∧ c = M) ∨ (a = M ∧ b = 0 ∧ c = k)) := by
  rcases hp with ⟨q1, q2, q3⟩ | ⟨q1, q2, q3⟩ | ⟨q1, q2, q3⟩ | ⟨q1, q2, q3⟩ | ⟨q1, q2, q3⟩ | ⟨q1, q2, q3⟩
  · exact ⟨M, k, 0, q1.trans eHI, q2.trans eMI, q3, .inl ⟨rfl, rfl, rfl⟩⟩
  · exact ⟨k, M, 0, q1.trans eMI, q2.trans eHI, q3, .inr (.inl ⟨rfl, rfl, rfl⟩)⟩
  · exact ⟨0, M, k, q1, q2.trans eHI, q3.trans eMI, .inr (.inr (.inl ⟨rfl, rfl, rfl⟩))⟩
  · exact ⟨0, k, M, q1, q2.trans eMI, q3.trans eHI, .inr (.inr (.inr (.inl ⟨rfl, rfl, rfl⟩)))⟩
  · exact ⟨k, 0, M, q1.trans eMI, q2, q3.trans eHI, .inr (.inr (.inr (.inr (.inl ⟨rfl, rfl, rfl⟩))))⟩
  · exact ⟨M, 0, k, q1.trans eHI, q2, q3.trans eMI, .inr (.inr (.inr (.inr (.inr ⟨rfl, rfl, rfl⟩))))⟩
theorem s3_of {R G B LO MI HI : Nat} (h1 : LO ≤ MI) (h2 : MI ≤ HI)
    (hp : (R = HI ∧ G = MI ∧ B = LO) ∨ (R = MI ∧ G = HI ∧ B = LO) ∨ (R = LO ∧ G = HI ∧ B = MI) ∨ (R = LO ∧ G = MI ∧ B = HI) ∨ (R = MI ∧ G = LO ∧ B = HI) ∨ (R = HI ∧ G = LO ∧ B = MI)) :
    S3 (R : Int) (G : Int) (B : Int) (LO : Int) (MI : Int) (HI : Int) := by
  have i1 : (LO : Int) ≤ MI := Int.ofNat_le.mpr h1
  have i2 : (MI : Int) ≤ HI := Int.ofNat_le.mpr h2
  have i3 := Int.le_trans i1 i2
  have S : S3 (LO : Int) (MI : Int) (HI : Int) (LO : Int) (MI : Int) (HI : Int) := ⟨i1, i2, Int.le_refl _, i1, i3, i3, i2, Int.le_refl _, rfl, .inl rfl, .inr (.inr rfl)⟩
  rcases hp with ⟨rfl, rfl, rfl⟩ | ⟨rfl, rfl, rfl⟩ | ⟨rfl, rfl, rfl⟩ | ⟨rfl, rfl, rfl⟩ | ⟨rfl, rfl, rfl⟩ | ⟨rfl, rfl, rfl⟩
  · exact S.rot.sw.rot.sw.rot.sw.rot.sw.rot
  · exact S.sw.rot
  · exact S.rot
  · exact S
  · exact S.sw
  · exact S.rot.sw
theorem top_is {a b c M : Nat} {m : Int} (e : m = a ∨ m = b ∨ m = c) (h1 : (a : Int) ≤ m) (h2 : (b : Int) ≤ m) (h3 : (c : Int) ≤ m) (ha : a ≤ M ∧ b ≤ M ∧ c ≤ M ∧ (a = M ∨ b = M ∨ c = M) ∧ (a = 0 ∨ b = 0 ∨ c = 0)) : m = (M : Int) := by
  refine Int.le_antisymm ?_ ?_
  · rcases e with rfl | rfl | rfl
    · exact Int.ofNat_le.mpr ha.1
    · exact Int.ofNat_le.mpr ha.2.1
    · exact Int.ofNat_le.mpr ha.2.2.1
  · rcases ha.2.2.2.1 with rfl | rfl | rfl <;> assumption
theorem nat_sub (a b : Nat) : ((a : Int) - (b : Int)).toNat = a - b := by omega
theorem nat_add_sub (a b : Nat) : ((a + b : Nat) : Int) - (a : Int) = (b : Int) := by omega
/-- a colour that isn't grey, told by its least colour -/
theorem hue_ok {R G B LO MI HI : Nat} (h1 : LO ≤ MI) (h2 : MI ≤ HI) (h12 : HI ≤ 12) (hne : LO < HI)
    (hp : (R = HI ∧ G = MI ∧ B = LO) ∨ (R = MI ∧ G = HI ∧ B = LO) ∨ (R = LO ∧ G = HI ∧ B = MI) ∨ (R = LO ∧ G = MI ∧ B = HI) ∨ (R = MI ∧ G = LO ∧ B = HI) ∨ (R = HI ∧ G = LO ∧ B = MI)) :
    HueOk (hueF (fl16 ((R : Nat) : Int)) (fl16 ((G : Nat) : Int)) (fl16 ((B : Nat) : Int))) (R : Int) (G : Int) (B : Int) := by
  obtain ⟨D, hDe⟩ : ∃ D, D = Nat.gcd (HI - LO) (MI - LO) := ⟨_, rfl⟩
  have hD : 1 ≤ D := by rw [hDe]; exact Nat.gcd_pos_of_pos_left _ (by omega)
  obtain ⟨M, hM⟩ : D ∣ HI - LO := by rw [hDe]; exact Nat.gcd_dvd_left _ _
  obtain ⟨k, hk⟩ : D ∣ MI - LO := by rw [hDe]; exact Nat.gcd_dvd_right _ _
  have M1 : 1 ≤ M := by
    rcases Nat.eq_zero_or_pos M with e | e
    · rw [e, Nat.mul_zero] at hM; omega
    · exact e
  have kM : k ≤ M := by
    have : D * k ≤ D * M := by omega
    exact Nat.le_of_mul_le_mul_left this hD
  have M12 : M ≤ 12 := by
    have : M ≤ D * M := Nat.le_mul_of_pos_left M hD
    omega
  have hg : Nat.gcd M k = 1 := by
    have e : D * Nat.gcd M k = D := by rw [← Nat.gcd_mul_left, ← hM, ← hk, ← hDe]
    exact Nat.eq_of_mul_eq_mul_left hD (by rw [e, Nat.mul_one])
  have eHI : HI = LO + D * M := by omega
  have eMI : MI = LO + D * k := by omega
  obtain ⟨a, b, c, eR, eG, eB, ap⟩ := arr_of eHI eMI hp
  have ha := arr_le kM ap
  obtain ⟨wy, H, A⟩ := hue_arr M1 M12 kM hg ap
  have eh : hueF (fl16 ((R : Nat) : Int)) (fl16 ((G : Nat) : Int)) (fl16 ((B : Nat) : Int)) = hueK a b c M := by
    rw [eR, eG, eB]
    exact hue_scale hD M1 (by omega) ha.1 ha.2.1 ha.2.2.1 ha.2.2.2.1 ha.2.2.2.2
  rw [eh]
  refine ⟨H.f1, H.f2, fun n n1 n12 => ?_, fun n n1 n12 lo mid hi S M' m m1 m2 m3 => ?_⟩
  · obtain ⟨n', rfl⟩ := Int.eq_ofNat_of_zero_le (show 0 ≤ n by omega)
    exact (whole_arr H M1 A (n := n') (by omega) (by omega)).1
  · obtain ⟨n', rfl⟩ := Int.eq_ofNat_of_zero_le (show 0 ≤ n by omega)
    obtain ⟨e1, e3, e2⟩ := S.uniq (s3_of h1 h2 hp)
    have eD : Nat.gcd (hi - lo).toNat (mid - lo).toNat = D := by
      rw [hDe, e1, e2, e3]
      rw [nat_sub, nat_sub]
    have fd : ∀ x : Nat, (((LO + D * x : Nat) : Int) - (LO : Int)).fdiv ((D : Nat) : Int) = (x : Int) := fun x => by
      have : ((LO + D * x : Nat) : Int) - (LO : Int) = ((D * x : Nat) : Int) := nat_add_sub _ _
      rw [this, nat_fdiv, Nat.mul_div_cancel_left x hD]
    rw [eD] at m m1 m2 m3 ⊢
    simp only [e1, eR, eG, eB, fd] at m m1 m2 m3 ⊢
    have eM : M' = (M : Int) := top_is m m1 m2 m3 ha
    rw [eM, (whole_arr H M1 A (n := n') (by omega) (by omega)).2, nat_fmod, nat_fdiv]
    by_cases hq : n' % M = 0
    · rw [if_pos hq, if_pos (by rw [hq]; rfl)]
      simp only [Int.natCast_mul]
    · rw [if_neg hq, if_neg (fun q : ((n' % M : Nat) : Int) = 0 => hq (Int.ofNat.inj q))]
theorem colour_ok {r g b : Int} (r0 : 0 ≤ r) (r1 : r ≤ 12) (g0 : 0 ≤ g) (g1 : g ≤ 12) (b0 : 0 ≤ b) (b1 : b ≤ 12) : ColourOk r g b := by
  obtain ⟨R, rfl⟩ := Int.eq_ofNat_of_zero_le r0
  obtain ⟨G, rfl⟩ := Int.eq_ofNat_of_zero_le g0
  obtain ⟨B, rfl⟩ := Int.eq_ofNat_of_zero_le b0
  have emx := fl_max3 (p := R) (q := G) (r := B) (by omega) (by omega) (by omega)
  have emn := fl_min3 (p := R) (q := G) (r := B) (by omega) (by omega) (by omega)
  have ec : (Float64.cmp (min3 (fl16 ((R : Nat) : Int)) (fl16 ((G : Nat) : Int)) (fl16 ((B : Nat) : Int))) (max3 (fl16 ((R : Nat) : Int)) (fl16 ((G : Nat) : Int)) (fl16 ((B : Nat) : Int))) == some .eq) = decide (min (min R G) B = max (max R G) B) := by
    rw [emx, emn]; exact fl_eq (by omega) (by omega)
  refine ⟨fun h => ?_, fun h => ?_, ?_, fun h => ?_⟩
  · rw [ec, decide_eq_true_eq] at h
    rw [emx, fl_zero (by omega)]
    exact decide_eq_false (by omega)
  · rw [ec, decide_eq_true_eq] at h
    rw [emx, emn, fl_sub (by omega) (by omega), fl_zero (by omega)]
    exact decide_eq_false (by omega)
  · rw [ec, decide_eq_true_eq]
    constructor
    · intro q; exact ⟨by omega, by omega⟩
    · intro q; omega
  · obtain ⟨LO, MI, HI, l1, l2, hp⟩ := perm3 R G B
    refine hue_ok l1 l2 ?_ ?_ hp
    · rcases hp with ⟨q1, q2, q3⟩ | ⟨q1, q2, q3⟩ | ⟨q1, q2, q3⟩ | ⟨q1, q2, q3⟩ | ⟨q1, q2, q3⟩ | ⟨q1, q2, q3⟩ <;> omega
    · rcases hp with ⟨q1, q2, q3⟩ | ⟨q1, q2, q3⟩ | ⟨q1, q2, q3⟩ | ⟨q1, q2, q3⟩ | ⟨q1, q2, q3⟩ | ⟨q1, q2, q3⟩ <;> omega
end Mine
end
section
open PySem PySem.W PySem.W.X PyProof.Rows
set_option Elab.async false
set_option maxRecDepth 100000
namespace Mine
local macro_rules | `(tactic| walk_at "my_kind") => `(tactic| (first | exact rfl | assumption))
set_option maxHeartbeats 4000000
set_option linter.unusedVariables false

theorem fill30 (w : World) (h : Heap) : (hd.heap_39 w.params).In h → PySem.Challenge.rw_pg0222_01 = PySem.Challenge.rw_pg0222_01 := by
  k_fill
  intro _; rfl

/-- the end of the law: True, and nothing of the top is turned but the two tables, which have grown -/
structure LawEnd (s₁ : Shared) (tabs : List (Addr × Addr)) (r : Result) (s' : Shared) : Prop where
  val : r = .ok (.ret (.bool true))
  keep : ∀ b o, (ghostOf s₁.heap tabs).get? b = some o → s'.heap.get? b = some o
  os : s'.os = s₁.os
  gens : AllBare s'.gens
  grown : GrownAll tabs s'.heap
theorem law_post {M : Model} {A : Around} {cd : Code} {s s₁ : Shared} {cw : ClaimW} {cl : Str → Option Addr} {mean : ExcName → Option Value} {args : List WData} {tabs : List (Addr × Addr)} (hT : TabsAt tabs s₁.heap) (hr : ∀ x, cw.raises args x = false) (hp : cw.post args (.bool true) args = true)
    (h : codeAny M A cd (LawEnd s₁ tabs) s) : codeAny M A cd (GoodWG cw cl mean args s₁) s :=
  codeAny_mono h fun r s' ⟨hv, hk, hos, hg, hgr⟩ => by
    subst hv
    have keep : ∀ b o, b ∉ tabs.map (·.2) → s₁.heap.get? b = some o → s'.heap.get? b = some o := fun b o hb e => hk b o (ghost_ne e hb)
    have grown : ∀ b o, b ∈ tabs.map (·.2) → s₁.heap.get? b = some o → isCodeTable s₁.heap b ∧ o = tabObj #[] ∧ ∃ ps, s'.heap.get? b = some (tabObj ps) := fun b o hb e => by
      obtain ⟨q, hq, rfl⟩ := List.mem_map.mp hb
      have e2 := (hT q hq).2
      rw [e] at e2
      exact ⟨((hT q hq).1.tab (hT q hq).2).isCodeTable, Option.some.inj e2, hgr.get q hq⟩
    refine ⟨.inl ⟨.bool true, .bool true, [], rfl, hr, .bool true, hp, unshared_nil⟩, ⟨fun b o e => ?_, fun b o e => ?_⟩, hos, hg⟩
    · by_cases hb : b ∈ tabs.map (·.2)
      · obtain ⟨ht, rfl, ps, hP⟩ := grown b o hb e
        exact .inr (.inl ⟨ht, rfl, #[], ps, rfl, by rw [Array.empty_append]; exact hP⟩)
      · exact .inl (keep b o hb e)
    · by_cases hb : b ∈ tabs.map (·.2)
      · obtain ⟨_, _, ps, hP⟩ := grown b o hb e
        exact ⟨_, hP⟩
      · exact ⟨o, keep b o hb e⟩

theorem colour_specU {w : World} {pp : Program} {lo : List Str} {r g b : Int} {p : Addr} {np : Nat} {t1 t2 t3 : Tok} {ps ps2 : Array Value} {NN : List (Addr × Obj)} {f : Obj → List (Addr × Obj)} {gg : Obj → Obj → List (Addr × Obj)} {mean : ExcName → Option Value} {mg mb : Str → Option Value}
    {dp un : Nat} {gd : Option (List Code)} {cn : Str} {cs : Scope} {a : Addr} {ccd : Value} {cl : List (Str × Addr)} {outer : List Env} {A₀ : Around} {base h₀ : Heap} {L : Addr} {m : Str → Option Value} {s : Shared} {Q E : Value → Shared → Prop}
    (B : Below A₀ base outer h₀) (F : Fr h₀ L s.heap m) (X : (hd.heap_39 w.params).In h₀) (N : News h₀ L s.heap NN) (T : Top pp lo mean mg mb h₀) (hk : cs.kind = .function)
    (G : AllBare s.gens) (U : UpdF 154 (tableObj ps) NN f) (U2 : ∀ o, UpdF 161 (tableObj ps2) (f o) (gg o)) (hm : (p, listOf #[.int r t1, .int g t2, .int b t3] np) ∈ NN) (hp : Tab1 ps) (hp2 : Tab2 ps2) (C : ColourOk r g b) (hr0 : 0 ≤ r) (hr : r ≤ 12) (hg0 : 0 ≤ g) (hg : g ≤ 12) (hb0 : 0 ≤ b) (hb : b ≤ 12) (hD : dp + 500 < recursionLimit) (hU : un + 5000 < cLine)
    (ret : ∀ (ps' ps2' : Array Value) (g' : Array GenState) (h' : Heap) (tk' : Nat), AllBare g' → Fr h₀ L h' m → News h₀ L h' (gg (tableObj ps') (tableObj ps2')) → Tab1 ps' → Tab2 ps2' → Q (.bool true) ⟨h', g', s.drawn, tk', s.os⟩) :
    wpAny (model PySem.Challenge.rw_pg0222_01.row.prog w) (PySem.W.ktrTop dp un gd cn cs L a ccd cl outer) (call (.ref 220) [.ref p]) Q E s := by
  have hm2 : (161, tableObj ps2) ∈ NN := by
    rcases updF_mem U (tableObj ps) _ (updF_in (U2 (tableObj ps))) with e | e
    · exact absurd (congrArg Prod.fst e) (show ¬ ((161 : Nat) = 154) by decide)
    · exact e.1
  obtain ⟨rest, N0, r1, r2, hc⟩ := canon2 N (updF_in U) hm2
  have hmr : (p, listOf #[.int r t1, .int g t2, .int b t3] np) ∈ rest := by
    rcases hc _ hm with e | e | e
    · exact absurd (congrArg (fun q => q.2.cls) e) (show ¬ (Value.type "list" = Value.none) by intro h; cases h)
    · exact absurd (congrArg (fun q => q.2.cls) e) (show ¬ (Value.type "list" = Value.none) by intro h; cases h)
    · exact e
  have N1 : News h₀ L s.heap ((p, listOf #[.int r t1, .int g t2, .int b t3] np) :: (154, tableObj ps) :: (161, tableObj ps2) :: rest) := fun q hq => by
    rcases List.mem_cons.mp hq with rfl | hq
    · exact N0 _ (.tail _ (.tail _ hmr))
    · exact N0 q hq
  exact colour_spec B F X N1 T hk G (r1 _ hmr) (r2 _ hmr) r1 r2 hp hp2 C hr0 hr hg0 hg hb0 hb hD hU fun ps' ps2' g' h' tk' G' F' N' q1 q2 => ret ps' ps2' g' h' tk' G' F' (canon_end2 U U2 hc N' (.tail _ (.head _)) (.tail _ (.tail _ (.head _))) (fun p hp => .tail _ (.tail _ (.tail _ hp)))) q1 q2

theorem box (x : Int) : 0 ≤ x.fmod 13 ∧ x.fmod 13 ≤ 12 := by
  have h1 := Int.fmod_nonneg_of_pos x (show (0 : Int) < 13 by decide)
  have h2 := Int.fmod_lt_of_pos x (show (0 : Int) < 13 by decide)
  omega
/-- what holds between two turns of the law's own loop -/
def LawJ (h₀ : Heap) (L : Addr) (m : Str → Option Value) (s : Shared) (I D : Addr) (pre : List (Addr × Obj)) (k : Nat) (s' : Shared) : Prop :=
  ∃ ps ps2 u h tq g oI, s' = (⟨h, g, s.drawn, tq, s.os⟩ : Shared) ∧ AllBare g ∧ Fr h₀ L h (fun z => if z = Str.ofString "number" then u else m z) ∧ News h₀ L h ((I, oI) :: (pre ++ [(154, tableObj ps), (161, tableObj ps2)])) ∧ Tab1 ps ∧ Tab2 ps2 ∧
    oI.cls = .type "list_iterator" ∧ oI.data = .fields #[.ref D, .int (k : Nat) 0]
section
variable {prog : Program} {w : World} {A : Around} {E : Value → Shared → Prop} {s : Shared} {env : Env} {h₀ : Heap} {L : Addr} {m : Str → Option Value} {I D : Addr} {pre : List (Addr × Obj)}
theorem LawJ.intro {k : Nat} {ps ps2 : Array Value} {h : Heap} {tq : Nat} {g : Array GenState} {oI : Obj} {m' : Str → Option Value} {NN : List (Addr × Obj)} (G : AllBare g) (F : Fr h₀ L h m') (hm : ∀ z, z ≠ Str.ofString "number" → m' z = m z) (N : News h₀ L h NN) (h1 : Tab1 ps) (h2 : Tab2 ps2)
    (hc : oI.cls = .type "list_iterator") (hd : oI.data = .fields #[.ref D, .int (k : Nat) 0]) (sub : ∀ p ∈ (I, oI) :: (pre ++ [(154, tableObj ps), (161, tableObj ps2)]), p ∈ NN) : LawJ h₀ L m s I D pre k ⟨h, g, s.drawn, tq, s.os⟩ := by
  refine ⟨ps, ps2, m' (Str.ofString "number"), h, tq, g, oI, rfl, G, ?_, fun p hp => N p (sub p hp), h1, h2, hc, hd⟩
  have e : (fun z => if z = Str.ofString "number" then m' (Str.ofString "number") else m z) = m' := by
    funext z
    by_cases hz : z = Str.ofString "number"
    · rw [if_pos hz, hz]
    · rw [if_neg hz, hm z hz]
  rw [e]; exact F
theorem law_loop {body orelse : List Stmt} {pos : Pos} {Q : Flow → Shared → Prop} {vs : List Value} {ns : List Int} {nv : Nat} (hh : A.handled = none) (hL : env.locals = L) (hy : env.kindOf (Str.ofString "number") = some .local)
    (hp : (env.scope.kind == .class || (env.scope.kind == .module && env.locals != env.globals)) = false)
    (G : AllBare s.gens) (F : Fr h₀ L s.heap m) (N : News h₀ L s.heap ((I, liter D 0) :: (pre ++ [(154, tableObj #[]), (161, tableObj #[])]))) (hD : (D, listOf vs.toArray nv) ∈ pre) (hi : IntsAre vs ns)
    (off : ∀ ps ps2, ∀ p ∈ pre ++ [(154, tableObj ps), (161, tableObj ps2)], p.1 ≠ I)
    (turn : ∀ (k : Nat) (n : Int) (t : Tok) ps ps2 oI h tq g, AllBare g → Fr h₀ L h (fun z => if z = Str.ofString "number" then some (.int n t) else m z) → News h₀ L h ((I, oI) :: (pre ++ [(154, tableObj ps), (161, tableObj ps2)])) → Tab1 ps → Tab2 ps2 →
      oI.cls = .type "list_iterator" → oI.data = .fields #[.ref D, .int ((k + 1 : Nat) : Int) 0] →
      wpAny (model prog w) A (execs body env) (fun f s₃ => match f with
        | .next | .cont => LawJ h₀ L m s I D pre (k + 1) s₃
        | .brk => Q .next s₃
        | .ret v => Q (.ret v) s₃) (LoopE prog w A env E) ⟨h, g, s.drawn, tq, s.os⟩)
    (done : ∀ ps ps2 u h tq g, AllBare g → Fr h₀ L h (fun z => if z = Str.ofString "number" then u else m z) → News h₀ L h (pre ++ [(154, tableObj ps), (161, tableObj ps2)]) → wpAny (model prog w) A (execs orelse env) Q (LoopE prog w A env E) ⟨h, g, s.drawn, tq, s.os⟩) :
    LoopGo prog w A env (.Name (Str.ofString "number") pos) body orelse Q E (.ref I) s := by
  refine loop_list (l := D) vs.toArray (LawJ h₀ L m s I D pre) hh ?_ ?_ ?_ ?_
  · rintro k s' ⟨ps, ps2, u, h, tq, g, oI, rfl, G, F, N, h1, h2, hc, hd⟩
    exact ⟨⟨oI, (N _ (.head _)).1, hc, hd⟩, ⟨_, (N _ (.tail _ (List.mem_append_left _ hD))).1, rfl, _, rfl⟩⟩
  · rintro k s' h' v hv ⟨ps, ps2, u, h, tq, g, oI, rfl, G, F, N, h1, h2, hc, hd⟩ hit hsb
    have hv' : vs[k]? = some v := by simpa using hv
    have hk : k < ns.length := by
      have := hi.length
      have h3 := (List.getElem?_eq_some_iff.mp hv').1
      omega
    obtain ⟨t, ht⟩ := hi.get k ns[k] (by simp [hk])
    rw [hv'] at ht
    obtain rfl := Option.some.inj ht
    obtain ⟨oI', ho', hc', hd'⟩ := hit
    obtain ⟨F', N'⟩ := led_set F N (off ps ps2) ho' hsb.extBut
    refine led_bind F' N' hL hy hp fun h₂ tk F₂ N₂ => ?_
    refine turn k ns[k] t ps ps2 oI' h₂ tk g G ?_ N₂ h1 h2 hc' hd'
    have e : (fun z => if z = Str.ofString "number" then some (Value.int ns[k] t) else m z) = fun z => if z = Str.ofString "number" then some (Value.int ns[k] t) else (fun z => if z = Str.ofString "number" then u else m z) z := by
      funext z
      by_cases hz : z = Str.ofString "number" <;> simp [hz]
    rw [e]; exact F₂
  · rintro s' h' ⟨ps, ps2, u, h, tq, g, oI, rfl, G, F, N, h1, h2, hc, hd⟩ hsb
    obtain ⟨F', N'⟩ := led_drop F N (off ps ps2) hsb
    exact done ps ps2 u h' tq g G F' N'
  · refine ⟨#[], #[], m (Str.ofString "number"), s.heap, s.toks, s.gens, liter D 0, rfl, G, ?_, N, .inl rfl, .inl rfl, rfl, rfl⟩
    have e : (fun z => if z = Str.ofString "number" then m (Str.ofString "number") else m z) = m := by
      funext z
      by_cases hz : z = Str.ofString "number" <;> simp [hz]
    rw [e]; exact F
end
local macro_rules | `(tactic| k_mem) => `(tactic| assumption)
local macro_rules | `(tactic| walk_at "exec For Name BinOp cons nil") => `(tactic| (k_here; k_dflt (refine for_go ?_)))
local macro_rules | `(tactic| walk_at "pyIter ref") => `(tactic| (k_here; (rename Fr _ _ _ _ => F9); (rename News _ _ _ _ => N9); refine listIter_led F9 N9 (by first | exact .head _ | k_mem) ?_; intro I' h' F' N' l1; (try dsimp only); (try k_lt l1)))
local macro_rules | `(tactic| walk_at "CompRest") => `(tactic| (with_unfolding_all first
  | (refine LCg.CompRest.succ ?_; intro v' I' oI' C' oC' D' m' h' tk' E' hv' hC' hx' F' N' off' ne'; lcg_open hv')
  | refine LCg.CompRest.zero ?_))
local macro_rules | `(tactic| walk_at "call ref") => `(tactic| (k_here; k_dflt (refine' colour_specU (by k_asm) (by k_asm) (by k_asm) (by k_asm) (by k_asm) (by walk_at "my_kind") (by assumption) (by k_updF) (by (intro o9; (try dsimp only); k_updF)) (by k_mem) (by assumption) (by assumption) (by exact colour_ok (box _).1 (box _).2 (box _).1 (box _).2 (box _).1 (box _).2) (by exact (box _).1) (by exact (box _).2) (by exact (box _).1) (by exact (box _).2) (by exact (box _).1) (by exact (box _).2) (by first | ktr_room | k_room | decide) (by first | ktr_units | decide) ?_; k_whole)))

theorem law_walk : PySem.Challenge.rw_pg0222_01.Holds := hd (by
  k_fill
  intro w s₀ s₁ mg mb G Y fa o pm cd doc dV kV ho hd hcd hD hmg hg args vals as hpre hlay hrd hwl hlo
  have KX := kIn_of Y.1
  have hT8 := Y.2
  refine Ground.open G ?_
  intro T B D TE TW
  try (refine guard_noD D (by decide +kernel) ?_; clear D)
  have hT9 : TabsAt ([(158, 154), (165, 161)] : List (Addr × Addr)) _ := List.forall_mem_cons.mpr ⟨⟨codeHd_of_K (c := 158) (P := 154) KX (by kernel_rfl), hT8 154 (by simp)⟩, List.forall_mem_cons.mpr ⟨⟨codeHd_of_K (c := 165) (P := 161) KX (by kernel_rfl), hT8 161 (by simp)⟩, fun _ h => nomatch h⟩⟩
  clear hmg hT8
  wrow_args hpre hlay hrd hwl hlo
  all_goals (
    first | refine callC_kw (enter_call ?_) | refine enter_call ?_
    w_top on
    refine law_post hT9 (fun _ => rfl) (by first | exact postW_of rfl (w_eq_bool (w_res rfl) w_lit) rfl | exact postW_of rfl (.trans (w_eq_bool (w_res rfl) w_lit) rfl) rfl | (exact postW_of (r := OpenRow.toRowW _) rfl (w_eq_bool (w_res rfl) w_lit) rfl) | decide) ?_
    w_call any ho hd hcd hD T F
    clear hd
    rename News _ _ _ _ => N
    rename Fr _ _ _ _ => F
    have K' := ghost_below hT9
    have X' := ghost_K hT9 KX (by kernel_rfl)
    have T' := ghost_top hT9 T
    have N' := ghost_news hT9 F N
    have F' := ghost_fr hT9 F
    have l0 := ghost_lt hT9 F
    kn_lists hT9
    simp only [tabNews, List.map_cons, List.map_nil, List.nil_append, List.cons_append] at N'
    simp only [tabNews, List.map_cons, List.map_nil] at l0
    clear N F KX T B TE TW hT9
    k_drop
    skip)
  all_goals try k_fold
  k_steps
  rename Fr _ _ _ _ => F9
  rename News _ _ _ _ => N9
  rename IntsAre _ _ => i9
  have G0 : AllBare s₁.gens := AllBare.of_eq hg
  refine' law_loop (pre := [_, _, _, _]) ?ha ?hb ?hc ?hd ?hG ?hF ?hN ?hD ?hi ?off ?turn ?done
  case ha => exact rfl
  case hb => exact rfl
  case hc => exact rfl
  case hd => exact rfl
  case hG => exact G0
  case hF => exact F9
  case hN => exact N9
  case hD => exact .head _
  case hi => exact i9
  case off =>
    intro ps ps2
    rename (_ ∧ _ ∧ _ ∧ _ ∧ 154 < _ ∧ 161 < _) => l9
    refine allLt_ne ?_
    exact ⟨l9.1, l9.2.1, l9.2.2.1, l9.2.2.2.1, l9.2.2.2.2.1, l9.2.2.2.2.2, trivial⟩
  case turn =>
    intro k n t ps ps2 oI h tq g G8 F8 N8 h1 h2 hc hd
    simp only [List.cons_append, List.nil_append] at N8
    clear F9 N9
    k_steps
    rename News _ _ _ _ => N9
    rename Tab1 _ => q1
    rename Tab2 _ => q2
    exact LawJ.intro (by assumption) (by assumption) (fun z hz => by simp only [if_neg hz]) N9 q1 q2 hc hd (fun p hp => .tail _ hp)
  case done =>
    intro ps ps2 u h tq g G8 F8 N8
    simp only [List.cons_append, List.nil_append] at N8
    clear F9 N9
    k_steps
    exact LawEnd.mk rfl (fun b o e => F8.keep b o e) rfl G8 ⟨GrownAt.of N8 (.tail _ (.tail _ (.tail _ (.tail _ (.head _))))), GrownAt.of N8 (.tail _ (.tail _ (.tail _ (.tail _ (.tail _ (.head _)))))), trivial⟩)

end Mine
end
theorem PySem.Challenge.cw_pg0222_01_holds : PySem.Challenge.rw_pg0222_01.Holds := by
  exact Mine.law_walk
