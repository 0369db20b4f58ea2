import PyProof.Rows.All
import Wide.All
import OpenK.AllK
import Wide.FinOn
import PySem.Challenge.RW_pg0068_01
set_option Elab.async false
local macro_rules | `(tactic| walk_at $s:str) => `(tactic| k_extra $s)
section
open PySem PySem.W PyProof.Rows
namespace Mine
local macro_rules | `(tactic| o_head ($_f:ident $K $as $e)) => `(tactic| o_head (kmHook $K $as $e [63, 70]))
set_option maxRecDepth 100000 in
set_option maxHeartbeats 8000000 in
open_top hd for PySem.Challenge.rw_pg0068_01
end Mine
end
section
open PySem PySem.W PyProof.Rows PySem.Calls
set_option maxRecDepth 100000
namespace Mine
noncomputable abbrev PG : Program := PySem.Challenge.rw_pg0068_01.row.prog
noncomputable abbrev TRd (mg mb : Str → Option Value) (h : Heap) : Prop := TopRead hd.view_39 (looseW hd.view_39 [Str.ofString "_Accumulator"]) mg mb h
theorem dn {x a b l : Nat} (h : x + b < l) (e : Nat.ble a b = true) : x + a < l := Nat.lt_of_le_of_lt (Nat.add_le_add_left (Nat.le_of_ble_eq_true e) x) h
/-- the heap grows: all that stood stands -/
noncomputable def Ext (h h' : Heap) : Prop := ∀ b o, h.get? b = some o → h'.get? b = some o
theorem Ext.refl (h : Heap) : Ext h h := fun _ _ e => e
theorem Ext.trans {a b c : Heap} (x : Ext a b) (y : Ext b c) : Ext a c := fun i o e => y i o (x i o e)
/-- what a call of the text's functions needs of the heap -/
structure Cx (w : World) (h : Heap) : Prop where
  K : (hd.heap_39 w.params).In h
  T : ∃ mg mb, TRd mg mb h
theorem Cx.ext {w : World} {h h' : Heap} (C : Cx w h) (k : Ext h h') : Cx w h' :=
  ⟨C.K.keeps k, let ⟨mg, mb, T⟩ := C.T; ⟨mg, mb, T.keeps k⟩⟩
section
variable {w : World} {A : Around} {s : Shared}
theorem enterK {K : Frag} {mg mb : Str → Option Value} {R : Result → Shared → Prop} {f : Addr} {oc : Value} {od : Option Addr} {osl : Array (Option Value)} {name qual : Str} {params : Arguments} {body : List Stmt} {scope : Scope} {cl : List (Str × Addr)} {dV kV doc pm cdv ct : Value} {an : Option Addr} {args : Args} {binds : List (Str × Value)}
    (X : K.In s.heap) (T : TRd mg mb s.heap) (hroom : A.depth < recursionLimit)
    (ho : K.lookup f = some ⟨oc, od, .func (fnX name qual params body scope cl dV kV doc pm an cdv ct), osl⟩) (hcd : codeIn K cdv qual = true)
    (hbind : BindsTo s (fnX name qual params body scope cl dV kV doc pm an cdv ct) args binds) (hloc : ∀ y ∈ binds, scope.names.lookup y.1 = some .local)
    (h : ∀ L h₁, Fr s.heap L h₁ (fun y => binds.reverse.lookup y) → News s.heap L h₁ [] → K.In s.heap → TRd mg mb s.heap →
      wpAny (model PG w) (A.deeper (envX qual scope L f cdv cl)) (execs body (envX qual scope L f cdv cl))
        (fun fl s' => R (.ok (.ret (match fl with | .ret v => v | _ => .none))) s') (fun _ _ => False) { s with heap := h₁, toks := s.toks + binds.length })
    (hcell : ∀ x ∈ scope.names, x.2 ≠ .cell) (hco : scope.isCoroutine = false := by rfl) (hgen : scope.isGenerator = false := by rfl) (hk : scope.kind = .function := by rfl) :
    codeAny (model PG w) A (.call (.ref f) args) R s := by
  refine codeAny_call_def (fd := fnX name qual params body scope cl dV kV doc pm an cdv ct) (body := body) (binds := binds) hroom (X _ _ ho) rfl T.nolimit (codeRec_of X hcd) rfl hbind hcell hloc (fun h₁ hns hk₁ => ?_) hco hgen hk
  refine wpAny_mono (h s.heap.objs.size h₁ ⟨hns, hk₁, Nat.le_refl _⟩ News.nil X T) (fun _ _ x => x) fun _ _ x => x.elim
end
/-- a tree that reads, makes things of its own and hands back V (with a token that is not told) -/
noncomputable def Pure1 {α : Type} (w : World) (A : Around) (s : Shared) (tree : Sem α) (V : Tok → α) : Prop :=
  ∀ (Q : α → Shared → Prop) (E : Value → Shared → Prop), (∀ t h' tk, Ext s.heap h' → Q (V t) { s with heap := h', toks := tk }) → wpAny (model PG w) A tree Q E s
theorem frE {h₀ h h' : Heap} {L : Addr} {m : Str → Option Value} (F : Fr h₀ L h m) (k : Ext h h') : Fr h₀ L h' m := ⟨F.ns.keeps k, fun b o e => k b o (F.keep b o e), F.above⟩
theorem newsE {h₀ h h' : Heap} {L : Addr} {news : List (Addr × Obj)} (N : News h₀ L h news) (k : Ext h h') : News h₀ L h' news := fun p hp => ⟨k _ _ (N p hp).1, (N p hp).2⟩
theorem cxF {w : World} {h₀ h : Heap} {L : Addr} {m : Str → Option Value} {mg mb : Str → Option Value} (F : Fr h₀ L h m) (X : (hd.heap_39 w.params).In h₀) (T : TRd mg mb h₀) : Cx w h := ⟨X.keeps F.keep, mg, mb, T.keeps F.keep⟩
theorem useF {α : Type} {w : World} {A : Around} {s : Shared} {tree : Sem α} {V : Tok → α} {Q : α → Shared → Prop} {E : Value → Shared → Prop} {h₀ : Heap} {L : Addr} {m : Str → Option Value} {news : List (Addr × Obj)} (P : Pure1 w A s tree V)
    (F : Fr h₀ L s.heap m) (N : News h₀ L s.heap news) (h : ∀ t h' tk, Fr h₀ L h' m → News h₀ L h' news → Q (V t) { s with heap := h', toks := tk }) : wpAny (model PG w) A tree Q E s :=
  P Q E fun t h' tk k => h t h' tk (frE F k) (newsE N k)
end Mine
end
section
open PySem PySem.W PyProof.Rows PySem.Calls
set_option maxRecDepth 100000
namespace Mine
/-- the walk is to stop here -/
noncomputable def Halt (p : Prop) : Prop := p
theorem Halt.go {p : Prop} (h : Halt p) : p := h
theorem Halt.mk {p : Prop} (h : p) : Halt p := h
/-- hides what is asked behind a turn's body: the walk then carries a letter -/
theorem hideT {α β : Type} {M : Model} {A A' : Around} {E E' : Value → Shared → Prop} {s : Shared} {t1 : Sem α} {t2 : Sem β} {Q : β → Shared → Prop}
    (h : ∀ Q' : β → Shared → Prop, (∀ a s', Q a s' → Q' a s') → wpAny M A t1 (fun _ s₂ => wpAny M A' t2 Q' E' s₂) E s) : wpAny M A t1 (fun _ s₂ => wpAny M A' t2 Q E' s₂) E s := h Q fun _ _ x => x
theorem hideQ {α : Type} {M : Model} {A : Around} {E : Value → Shared → Prop} {s : Shared} {t : Sem α} {Q : α → Shared → Prop}
    (h : ∀ Q' : α → Shared → Prop, (∀ a s', Q a s' → Q' a s') → wpAny M A t Q' E s) : wpAny M A t Q E s := h Q fun _ _ x => x
theorem wpIf {α : Type} {M : Model} {A : Around} {E : Value → Shared → Prop} {s : Shared} {c : Prop} [Decidable c] {a b : Sem α} {Q : α → Shared → Prop} (hc : c) (h : wpAny M A a Q E s) : wpAny M A (if c then a else b) Q E s := by rw [if_pos hc]; exact h
theorem wpIfN {α : Type} {M : Model} {A : Around} {E : Value → Shared → Prop} {s : Shared} {c : Prop} [Decidable c] {a b : Sem α} {Q : α → Shared → Prop} (hc : ¬ c) (h : wpAny M A b Q E s) : wpAny M A (if c then a else b) Q E s := by rw [if_neg hc]; exact h
/-- the last statement of a block -/
theorem execs_one {prog : Program} {w : World} {A : Around} {E : Value → Shared → Prop} {s : Shared} {st : Stmt} {env : Env} {Q : Flow → Shared → Prop} (h : wpAny (model prog w) A (exec st env) Q E s) : wpAny (model prog w) A (execs [st] env) Q E s :=
  wpAny_execs_cons (wpAny_mono h (fun f s' x => by cases f <;> first | exact wpAny_execs_nil x | exact x) fun _ _ x => x)
/-- a map with some names told -/
noncomputable def ov (m : Str → Option Value) : List (Str × Value) → Str → Option Value
  | [] => m
  | p :: r => fun y => if y = p.1 then some p.2 else ov m r y
theorem ov_eq {m : Str → Option Value} : ∀ {ps : List (Str × Value)}, (∀ p ∈ ps, m p.1 = some p.2) → ov m ps = m
  | [], _ => rfl
  | p :: r, h => by
    funext y
    show (if y = p.1 then some p.2 else ov m r y) = m y
    by_cases e : y = p.1
    · rw [if_pos e, e]; exact (h p (.head _)).symm
    · rw [if_neg e, ov_eq fun q hq => h q (.tail _ hq)]
theorem Fr.told {h₀ h : Heap} {L : Addr} {m : Str → Option Value} (F : Fr h₀ L h m) (ps : List (Str × Value)) (hp : ∀ p ∈ ps, m p.1 = some p.2) : Fr h₀ L h (ov m ps) := by rw [ov_eq hp]; exact F
section
variable {prog : Program} {w : World} {A : Around} {s : Shared}
theorem forL {x : Str} {px : Pos} {body : List Stmt} {env : Env} {I : Addr} {fp wr : List Addr} {n : Nat} {P : Nat → Value → Prop} {St : Nat → Heap → Prop} {R : Result → Shared → Prop}
    (W : Walks prog w A I fp wr n P St) (Inv : Nat → Shared → Prop) (h0 : St 0 s.heap) (hI : Inv 0 s)
    (turn : ∀ i v (s : Shared) h₁ tk₁, i < n → P i v → Inv i s → St i s.heap → St (i + 1) h₁ → (∀ b o, b ∉ wr → s.heap.get? b = some o → h₁.get? b = some o) →
      wpAny (model prog w) A (storeName env x v) (fun _ s₂ => wpAny (model prog w) A (execs body env) (fun f s₃ => match f with
        | .next | .cont => Halt (St (i + 1) s₃.heap ∧ Inv (i + 1) s₃)
        | .brk => R (.ok .next) s₃
        | .ret v => R (.ok (.ret v)) s₃) (fun _ _ => False) s₂) (fun _ _ => False) { s with heap := h₁, toks := tk₁ })
    (done : ∀ (s : Shared) h₁ tk₁, Inv n s → St n s.heap → (∀ b o, b ∉ wr → s.heap.get? b = some o → h₁.get? b = some o) → R (.ok .next) { s with heap := h₁, toks := tk₁ }) :
    codeAny (model prog w) A (.forLoop (.Name x px) (.ref I) body [] env) R s := by
  refine codeAny_forLoop (fun k s' => ∃ i, i ≤ n ∧ k = n + 1 - i ∧ St i s'.heap ∧ Inv i s') ?_ (n + 1) ⟨0, Nat.zero_le _, rfl, h0, hI⟩
  rintro k s' ⟨i, hi, rfl, hst, hinv⟩
  by_cases hlt : i < n
  · refine W.item i _ _ _ hlt hst fun v h₁ tk₁ hP hst₁ hk₁ => ?_
    refine wpAny_assign_Name (wpAny_mono (turn i v s' h₁ tk₁ hlt hP hinv hst hst₁ hk₁) (fun _ s₂ h₂ => wpAny_mono h₂ (fun f s₃ h₃ => ?_) fun _ _ e => e.elim) fun _ _ e => e.elim)
    cases f with
    | next => exact ⟨n + 1 - (i + 1), Nat.sub_lt_sub_left (Nat.lt_succ_of_lt hlt) (Nat.lt_succ_self i), i + 1, hlt, rfl, h₃.1, h₃.2⟩
    | cont => exact ⟨n + 1 - (i + 1), Nat.sub_lt_sub_left (Nat.lt_succ_of_lt hlt) (Nat.lt_succ_self i), i + 1, hlt, rfl, h₃.1, h₃.2⟩
    | brk => exact h₃
    | ret v => exact h₃
  · have hin : i = n := Nat.le_antisymm hi (Nat.le_of_not_lt hlt)
    subst hin
    exact W.done _ _ _ hst fun h₁ tk₁ hk₁ => wpAny_execs_nil (done s' h₁ tk₁ hinv hst hk₁)
theorem forQ {x : Str} {px : Pos} {body : List Stmt} {env : Env} {I : Addr} {fp wr : List Addr} {n : Nat} {P : Nat → Value → Prop} {St : Nat → Heap → Prop} {R : Result → Shared → Prop}
    (W : Walks prog w A I fp wr n P St) (Inv : Nat → Shared → Prop) (h0 : St 0 s.heap) (hI : Inv 0 s)
    (turn : ∀ i v (s : Shared) h₁ tk₁ (Q : Flow → Shared → Prop), i < n → P i v → Inv i s → St i s.heap → St (i + 1) h₁ → (∀ b o, b ∉ wr → s.heap.get? b = some o → h₁.get? b = some o) → (∀ s₃, St (i + 1) s₃.heap → Inv (i + 1) s₃ → Q .next s₃) →
      wpAny (model prog w) A (storeName env x v) (fun _ s₂ => wpAny (model prog w) A (execs body env) Q (fun _ _ => False) s₂) (fun _ _ => False) { s with heap := h₁, toks := tk₁ })
    (done : ∀ (s : Shared) h₁ tk₁, Inv n s → St n s.heap → (∀ b o, b ∉ wr → s.heap.get? b = some o → h₁.get? b = some o) → R (.ok .next) { s with heap := h₁, toks := tk₁ }) :
    codeAny (model prog w) A (.forLoop (.Name x px) (.ref I) body [] env) R s :=
  forL W Inv h0 hI (fun i v s h₁ tk₁ hi hp hv hs hs' hk => turn i v s h₁ tk₁ _ hi hp hv hs hs' hk fun _ a b => ⟨a, b⟩) done
theorem whileL {test : Expr} {body : List Stmt} {env : Env} {R : Result → Shared → Prop} (Inv : Nat → Shared → Prop)
    (turn : ∀ n (s : Shared), Inv n s → wpAny (model prog w) A (isTrue test env (eval test env)) (fun b s₂ =>
        if b = true then wpAny (model prog w) A (execs body env) (fun f s₃ => match f with
            | .next | .cont => Halt (∃ m, m < n ∧ Inv m s₃)
            | .brk => R (.ok .next) s₃
            | .ret v => R (.ok (.ret v)) s₃) (fun _ _ => False) s₂
        else Halt (R (.ok .next) s₂)) (fun _ _ => False) s)
    (n : Nat) (h : Inv n s) : codeAny (model prog w) A (.whileLoop test body [] env) R s := by
  refine codeAny_whileLoop Inv (fun n s hI => wpAny_mono (turn n s hI) (fun b s₂ h₂ => ?_) fun _ _ e => e.elim) n h
  cases b with
  | true =>
    simp only [if_true] at h₂ ⊢
    refine wpAny_mono h₂ (fun f s₃ h₃ => ?_) fun _ _ e => e.elim
    cases f <;> exact h₃
  | false =>
    simp only [Bool.false_eq_true, if_false] at h₂ ⊢
    exact wpAny_execs_nil h₂
theorem whileQ {test : Expr} {body : List Stmt} {env : Env} {R : Result → Shared → Prop} (Inv : Nat → Shared → Prop) (Z : Shared → Prop)
    (turn : ∀ n (s : Shared) (Q : Flow → Shared → Prop) (Z' : Shared → Prop), Inv n s → (∀ m s₃, m < n → Inv m s₃ → Q .next s₃) → (∀ s₂, Z s₂ → Z' s₂) →
      wpAny (model prog w) A (isTrue test env (eval test env)) (fun b s₂ => if b = true then wpAny (model prog w) A (execs body env) Q (fun _ _ => False) s₂ else Z' s₂) (fun _ _ => False) s)
    (n : Nat) (h : Inv n s) (done : ∀ s', Z s' → R (.ok .next) s') : codeAny (model prog w) A (.whileLoop test body [] env) R s :=
  whileL Inv (fun n s hI => turn n s _ _ hI (fun m _ a b => ⟨m, a, b⟩) fun s₂ z => done s₂ z) n h
/-- a text's test: an item of a list of ints at a name's int, against a written int -/
theorem testItem {env : Env} {x y : Str} {p1 p2 p3 p4 p5 : Pos} {k : Nat} {c : Int} {whole : Sem Value} {V : Addr} {vs : List Value} {ws : List Int} {i : Int} {ti : Tok} {B : Heap} {m : Str → Option Value} {Q : Bool → Shared → Prop} {E : Value → Shared → Prop}
    (F : Fr B env.locals s.heap m) (ex : m x = some (.ref V)) (ey : m y = some (.int i ti)) (hV : B.IsList V vs.toArray) (hv : IntsAre vs ws) (h0 : 0 ≤ i) (h1 : i < ws.length) (hs : ws.length < 1000)
    (hx : env.kindOf x = some .local) (hy : env.kindOf y = some .local) (hk : env.scope.kind = .function) (dx : (x == ("__debug__" : Str)) = false) (dy : (y == ("__debug__" : Str)) = false)
    (ht : ws.getD i.toNat 0 = c → Q true { s with toks := s.toks + 1 }) (hf : ws.getD i.toNat 0 ≠ c → Q false { s with toks := s.toks + 1 }) :
    wpAny (model prog w) A (isTrue (.Compare (.Subscript (.Name x p1) (.Name y p2) p3) [.Eq] [.Constant (.int c) k p4] p5) env whole) Q E s := by
  have hl : s.heap.IsList V vs.toArray := by obtain ⟨o, e, r⟩ := hV; exact ⟨o, F.keep _ _ e, r⟩
  refine wpAny_isTrue_Compare1 (Subscript_ (wpAny_Name (wpAny_loadName_local hk hx F.ns ex (wpAny_Name (wpAny_loadName_local hk hy F.ns ey (item_list_ints hl hv h0 h1 (by omega) fun t => ?_)) dy)) dx))
  refine wpAny_Constant_int (PyProof.Rows.eq_int (wpAny_truthy_bool ?_))
  by_cases e : ws.getD i.toNat 0 = c
  · rw [beq_iff_eq.mpr e]; exact ht e
  · rw [beq_eq_false_iff_ne.mpr e]; exact hf e
end
end Mine
end
section
open PySem PySem.W PyProof.Rows PySem.Calls
set_option maxRecDepth 100000
namespace Mine
theorem fillK : hd.heap_39 = hd.heap_39 ∧ PySem.Challenge.rw_pg0068_01 = PySem.Challenge.rw_pg0068_01 := by k_fill; exact ⟨rfl, rfl⟩
section
variable {prog : Program} {w : World} {A : Around} {E : Value → Shared → Prop} {s : Shared} {Q : Value → Shared → Prop} {c : Nat} {t u : Tok}
theorem and31 (h : Q (.int ((c % 32 : Nat) : Int) s.toks) { s with toks := s.toks + 1 }) : wpAny (model prog w) A (binaryOp .BitAnd (.int (c : Nat) t) (.int 31 u)) Q E s := by
  refine and_int ?_
  have e : Builtin.bitAnd ((c : Nat) : Int) 31 = ((c % 32 : Nat) : Int) := by
    rw [bitAnd_pp (by omega) (by omega)]
    show (((c : Int).toNat &&& (2 ^ 5 - 1) : Nat) : Int) = _
    rw [Nat.and_two_pow_sub_one_eq_mod]; simp
  rw [e]; exact h
theorem and127 (h : Q (.int ((c % 128 : Nat) : Int) s.toks) { s with toks := s.toks + 1 }) : wpAny (model prog w) A (binaryOp .BitAnd (.int (c : Nat) t) (.int 127 u)) Q E s := by
  refine and_int ?_
  have e : Builtin.bitAnd ((c : Nat) : Int) 127 = ((c % 128 : Nat) : Int) := by
    rw [bitAnd_pp (by omega) (by omega)]
    show (((c : Int).toNat &&& (2 ^ 7 - 1) : Nat) : Int) = _
    rw [Nat.and_two_pow_sub_one_eq_mod]; simp
  rw [e]; exact h
theorem nat_and128 : ∀ c : Nat, c < 256 → c &&& 128 = 128 * (c / 128) := by decide +kernel
theorem nat_or128 : ∀ c : Nat, c < 128 → c + 128 = (c + 128) + (c &&& 128) := by decide +kernel
theorem nat_or32 : ∀ c : Nat, c < 128 → c + 32 = (if c / 32 % 2 = 1 then c else c + 32) + (c &&& 32) := by decide +kernel
theorem and128 (hc : c < 256) (h : Q (.int ((128 * (c / 128) : Nat) : Int) s.toks) { s with toks := s.toks + 1 }) : wpAny (model prog w) A (binaryOp .BitAnd (.int (c : Nat) t) (.int 128 u)) Q E s := by
  refine and_int ?_
  have e : Builtin.bitAnd ((c : Nat) : Int) 128 = ((128 * (c / 128) : Nat) : Int) := by
    rw [bitAnd_pp (by omega) (by omega)]
    show (((c : Int).toNat &&& 128 : Nat) : Int) = _
    rw [Int.toNat_natCast, nat_and128 c hc]
  rw [e]; exact h
theorem bitOr_nat (a b r : Nat) (h : a + b = r + (a &&& b)) : Builtin.bitOr (a : Int) (b : Int) = (r : Int) := by
  rw [bitOr_and, bitAnd_pp (by omega) (by omega), Int.toNat_natCast, Int.toNat_natCast]
  omega
theorem or128 (hc : c < 128) (h : Q (.int ((c + 128 : Nat) : Int) s.toks) { s with toks := s.toks + 1 }) : wpAny (model prog w) A (binaryOp .BitOr (.int (c : Nat) t) (.int 128 u)) Q E s := by
  refine or_int ?_
  have e : Builtin.bitOr ((c : Nat) : Int) 128 = ((c + 128 : Nat) : Int) := by
    show Builtin.bitOr ((c : Nat) : Int) ((128 : Nat) : Int) = _
    exact bitOr_nat _ _ _ (nat_or128 c hc)
  rw [e]; exact h
theorem or32 (hc : c < 128) (h : Q (.int (((if c / 32 % 2 = 1 then c else c + 32) : Nat) : Int) s.toks) { s with toks := s.toks + 1 }) : wpAny (model prog w) A (binaryOp .BitOr (.int (c : Nat) t) (.int 32 u)) Q E s := by
  refine or_int ?_
  have e : Builtin.bitOr ((c : Nat) : Int) 32 = (((if c / 32 % 2 = 1 then c else c + 32) : Nat) : Int) := by
    show Builtin.bitOr ((c : Nat) : Int) ((32 : Nat) : Int) = _
    exact bitOr_nat _ _ _ (nat_or32 c hc)
  rw [e]; exact h
theorem chr_nat (hc : c ≤ 1114111) (h : Q (.str ⟨#[c]⟩ s.toks) { s with toks := s.toks + 1 }) : wpAny (model prog w) A (call (.builtin "chr") [.int (c : Nat) t]) Q E s :=
  chr_of_range (by omega) (by omega) (by rw [Int.toNat_natCast]; exact h)
theorem chr_add32 (hc : c + 32 ≤ 1114111) (h : Q (.str ⟨#[c + 32]⟩ s.toks) { s with toks := s.toks + 1 }) : wpAny (model prog w) A (call (.builtin "chr") [.int ((c : Int) + 32) t]) Q E s := chr_nat (c := c + 32) hc h
theorem chr_64add (hc : 64 + c ≤ 1114111) (h : Q (.str ⟨#[64 + c]⟩ s.toks) { s with toks := s.toks + 1 }) : wpAny (model prog w) A (call (.builtin "chr") [.int (64 + (c : Int)) t]) Q E s := chr_nat (c := 64 + c) hc h
end
noncomputable def baseC (c : Nat) : Str := if c = 127 then Str.ofString "^?" else if 32 ≤ c % 128 ∧ c % 128 ≤ 126 then ⟨#[c % 128]⟩ else Str.ofString "^" ++ ⟨#[(if c % 128 / 32 % 2 = 1 then c % 128 else c % 128 + 32) + 32]⟩
noncomputable def picC (c : Nat) : Str := if 128 ≤ c then Str.ofString "!" ++ baseC c else baseC c
theorem retV {α : Type} {Q : α → Shared → Prop} {v v' : α} {S : Shared} (h : Q v S) (e : v = v') : Q v' S := e ▸ h
theorem un1 : ∀ c : Nat, c < 256 → (c : Int) = 127 → ((128 * (c / 128) : Nat) : Int) ≠ 0 → picC c = Str.ofString "!" ++ Str.ofString "^?" := by decide +kernel
theorem un2 : ∀ c : Nat, c < 256 → (c : Int) = 127 → ((128 * (c / 128) : Nat) : Int) = 0 → picC c = Str.ofString "^?" := by decide +kernel
theorem un3 : ∀ c : Nat, c < 256 → (c : Int) ≠ 127 → (32 ≤ ((c % 128 : Nat) : Int) ∧ ((c % 128 : Nat) : Int) ≤ 126) → ((128 * (c / 128) : Nat) : Int) ≠ 0 → picC c = Str.ofString "!" ++ ⟨#[c % 128]⟩ := by decide +kernel
theorem un4 : ∀ c : Nat, c < 256 → (c : Int) ≠ 127 → (32 ≤ ((c % 128 : Nat) : Int) ∧ ((c % 128 : Nat) : Int) ≤ 126) → ((128 * (c / 128) : Nat) : Int) = 0 → picC c = ⟨#[c % 128]⟩ := by decide +kernel
theorem un5 : ∀ c : Nat, c < 256 → (c : Int) ≠ 127 → ¬ (32 ≤ ((c % 128 : Nat) : Int) ∧ ((c % 128 : Nat) : Int) ≤ 126) → ((128 * (c / 128) : Nat) : Int) ≠ 0 → picC c = Str.ofString "!" ++ (Str.ofString "^" ++ ⟨#[(if c % 128 / 32 % 2 = 1 then c % 128 else c % 128 + 32) + 32]⟩) := by decide +kernel
theorem un6 : ∀ c : Nat, c < 256 → (c : Int) ≠ 127 → ¬ (32 ≤ ((c % 128 : Nat) : Int) ∧ ((c % 128 : Nat) : Int) ≤ 126) → ((128 * (c / 128) : Nat) : Int) = 0 → picC c = Str.ofString "^" ++ ⟨#[(if c % 128 / 32 % 2 = 1 then c % 128 else c % 128 + 32) + 32]⟩ := by decide +kernel
theorem any_nat (c : Nat) : ∀ l : List Nat, ((l.map fun n : Nat => (n : Int)).any fun y => y == (c : Int)) = decide (c ∈ l)
  | [] => rfl
  | a :: l => by
    rw [List.map_cons, List.any_cons, any_nat c l, Bool.eq_iff_iff, Bool.or_eq_true, beq_iff_eq, decide_eq_true_eq, decide_eq_true_eq, List.mem_cons]
    exact or_congr ⟨fun e => (Int.ofNat.inj e).symm, fun e => congrArg _ e.symm⟩ Iff.rfl
section
variable {w : World} {A : Around} {s : Shared}
set_option maxHeartbeats 2000000
theorem kwB1_1 : True := by (k_with_none; k_with "call builtin:chr" => (refine chr_nat (by omega) ?_)); exact True.intro
theorem kwB1_2 : True := by (k_with "call builtin:chr" => (refine chr_add32 (by (repeat' split) <;> omega) ?_)); exact True.intro
theorem kwB1_3 : True := by (k_with "call builtin:chr" => (refine chr_64add (by omega) ?_)); exact True.intro
theorem kwB1_4 : True := by (k_with "binaryOp BitAnd int int" => (refine and31 ?_)); exact True.intro
theorem kwB1_5 : True := by (k_with "binaryOp BitAnd int int" => (refine and127 ?_)); exact True.intro
theorem kwB1_6 : True := by (k_with "binaryOp BitAnd int int" => (refine and128 (by omega) ?_)); exact True.intro
theorem kwB1_7 : True := by (k_with "binaryOp BitOr int int" => (refine or128 (by omega) ?_)); exact True.intro
theorem kwB1_8 : True := by (k_with "binaryOp BitOr int int" => (refine or32 (by omega) ?_)); exact True.intro
theorem ctoi_str {c : Nat} {t : Tok} (C : Cx w s.heap) (hr : A.depth < recursionLimit) : Pure1 w A s (call (.ref 112) [.str ⟨#[c]⟩ t]) (fun t => .int (c : Nat) t) := by
  intro Q E h
  obtain ⟨X, mg, mb, T⟩ := C
  refine wpAny_call ?_
  refine enterK (binds := [(Str.ofString "c", .str ⟨#[c]⟩ t)]) X T hr (by k_is) (by k_is) (BindsTo.of_eq rfl) (locs rfl) ?_ (by decide)
  intro L h₁ F N X' T'
  clear X T
  dsimp only
  k_steps
  exact h _ _ _ (Fr.keep (by assumption))
theorem ctoi_int {n : Int} {t : Tok} (C : Cx w s.heap) (hr : A.depth < recursionLimit) : Pure1 w A s (call (.ref 112) [.int n t]) (fun _ => .int n t) := by
  intro Q E h
  obtain ⟨X, mg, mb, T⟩ := C
  refine wpAny_call ?_
  refine enterK (binds := [(Str.ofString "c", .int n t)]) X T hr (by k_is) (by k_is) (BindsTo.of_eq rfl) (locs rfl) ?_ (by decide)
  intro L h₁ F N X' T'
  clear X T
  dsimp only
  k_steps
  exact h 0 _ _ (Fr.keep (by assumption))
theorem kwB1_9 : True := by (k_with "call ref" => ((with_reducible show wpAny _ _ (call (Value.ref 112) [Value.str _ _]) _ _ _); refine useF (ctoi_str (cxF (by k_asm) (by k_asm) (by k_asm)) (by simp only [depth_deeper]; omega)) (by k_asm) (by k_asm) ?_; intro t' h' tk' F' N'; (try k_sweep))); exact True.intro
theorem kwB1_10 : True := by (k_with "call ref" => ((with_reducible show wpAny _ _ (call (Value.ref 112) [Value.int _ _]) _ _ _); refine useF (ctoi_int (cxF (by k_asm) (by k_asm) (by k_asm)) (by simp only [depth_deeper]; omega)) (by k_asm) (by k_asm) ?_; intro t' h' tk' F' N'; (try k_sweep))); exact True.intro
theorem ctrl_str {c : Nat} {t : Tok} (C : Cx w s.heap) (hr : A.depth + 1 < recursionLimit) : Pure1 w A s (call (.ref 140) [.str ⟨#[c]⟩ t]) (fun t => .str ⟨#[c % 32]⟩ t) := by
  intro Q E h
  obtain ⟨X, mg, mb, T⟩ := C
  refine wpAny_call ?_
  refine enterK (binds := [(Str.ofString "c", .str ⟨#[c]⟩ t)]) X T (by omega) (by k_is) (by k_is) (BindsTo.of_eq rfl) (locs rfl) ?_ (by decide)
  intro L h₁ F N X' T'
  clear X T
  dsimp only
  k_steps
  exact h _ _ _ (Fr.keep (by assumption))
theorem alt_str {c : Nat} {t : Tok} (C : Cx w s.heap) (hr : A.depth + 1 < recursionLimit) (hc : c < 128) : Pure1 w A s (call (.ref 147) [.str ⟨#[c]⟩ t]) (fun t => .str ⟨#[c + 128]⟩ t) := by
  intro Q E h
  obtain ⟨X, mg, mb, T⟩ := C
  refine wpAny_call ?_
  refine enterK (binds := [(Str.ofString "c", .str ⟨#[c]⟩ t)]) X T (by omega) (by k_is) (by k_is) (BindsTo.of_eq rfl) (locs rfl) ?_ (by decide)
  intro L h₁ F N X' T'
  clear X T
  dsimp only
  k_steps
  exact h _ _ _ (Fr.keep (by assumption))
theorem isprint_int {n : Int} {t : Tok} (C : Cx w s.heap) (hr : A.depth + 1 < recursionLimit) : Pure1 w A s (call (.ref 119) [.int n t]) (fun _ => .bool (decide (32 ≤ n ∧ n ≤ 126))) := by
  intro Q E h
  obtain ⟨X, mg, mb, T⟩ := C
  refine wpAny_call ?_
  refine enterK (binds := [(Str.ofString "c", .int n t)]) X T (by omega) (by k_is) (by k_is) (BindsTo.of_eq rfl) (locs rfl) ?_ (by decide)
  intro L h₁ F N X' T'
  clear X T
  dsimp only
  k_steps
  · refine retV (h 0 _ _ (Fr.keep (by assumption))) (congrArg Value.bool (decide_eq_decide.mpr (by omega)))
  · refine retV (h 0 _ _ (Fr.keep (by assumption))) (congrArg Value.bool (decide_eq_decide.mpr (by omega)))
theorem isctrl_str {c : Nat} {t : Tok} (C : Cx w s.heap) (hr : A.depth + 1 < recursionLimit) : Pure1 w A s (call (.ref 133) [.str ⟨#[c]⟩ t]) (fun _ => .bool (decide (c < 32))) := by
  intro Q E h
  obtain ⟨X, mg, mb, T⟩ := C
  refine wpAny_call ?_
  refine enterK (binds := [(Str.ofString "c", .str ⟨#[c]⟩ t)]) X T (by omega) (by k_is) (by k_is) (BindsTo.of_eq rfl) (locs rfl) ?_ (by decide)
  intro L h₁ F N X' T'
  clear X T
  dsimp only
  k_steps
  · refine retV (h 0 _ _ (Fr.keep (by assumption))) (congrArg Value.bool (decide_eq_decide.mpr (by omega)))
  · omega
theorem isspace_str {c : Nat} {t : Tok} (C : Cx w s.heap) (hr : A.depth + 1 < recursionLimit) : Pure1 w A s (call (.ref 126) [.str ⟨#[c]⟩ t]) (fun _ => .bool (decide (c = 9 ∨ c = 10 ∨ c = 11 ∨ c = 12 ∨ c = 13 ∨ c = 32))) := by
  intro Q E h
  obtain ⟨X, mg, mb, T⟩ := C
  refine wpAny_call ?_
  refine enterK (binds := [(Str.ofString "c", .str ⟨#[c]⟩ t)]) X T (by omega) (by k_is) (by k_is) (BindsTo.of_eq rfl) (locs rfl) ?_ (by decide)
  intro L h₁ F N X' T'
  clear X T
  dsimp only
  k_steps
  refine retV (h 0 _ _ (Fr.keep (by assumption))) (congrArg Value.bool ?_)
  exact ((any_nat c [9, 10, 11, 12, 13, 32]).trans (decide_eq_decide.mpr (by simp only [List.mem_cons, List.not_mem_nil, or_false]))).symm
theorem kwB1_11 : True := by (k_with "call ref" => ((with_reducible show wpAny _ _ (call (Value.ref 119) [Value.int _ _]) _ _ _); refine useF (isprint_int (cxF (by k_asm) (by k_asm) (by k_asm)) (by simp only [depth_deeper]; omega)) (by k_asm) (by k_asm) ?_; intro t' h' tk' F' N'; (try k_sweep))); exact True.intro
theorem kwB1_12 : True := by (k_with "call ref" => ((with_reducible show wpAny _ _ (call (Value.ref 133) [Value.str _ _]) _ _ _); refine useF (isctrl_str (cxF (by k_asm) (by k_asm) (by k_asm)) (by simp only [depth_deeper]; omega)) (by k_asm) (by k_asm) ?_; intro t' h' tk' F' N'; (try k_sweep))); exact True.intro
theorem kwB1_13 : True := by (k_with "call ref" => ((with_reducible show wpAny _ _ (call (Value.ref 126) [Value.str _ _]) _ _ _); refine useF (isspace_str (cxF (by k_asm) (by k_asm) (by k_asm)) (by simp only [depth_deeper]; omega)) (by k_asm) (by k_asm) ?_; intro t' h' tk' F' N'; (try k_sweep))); exact True.intro
theorem kwB1_14 : True := by (k_with "call ref" => ((with_reducible show wpAny _ _ (call (Value.ref 140) [Value.str _ _]) _ _ _); refine useF (ctrl_str (cxF (by k_asm) (by k_asm) (by k_asm)) (by simp only [depth_deeper]; omega)) (by k_asm) (by k_asm) ?_; intro t' h' tk' F' N'; (try k_sweep))); exact True.intro
theorem kwB1_15 : True := by (k_with "call ref" => ((with_reducible show wpAny _ _ (call (Value.ref 147) [Value.str _ _]) _ _ _); refine useF (alt_str (cxF (by k_asm) (by k_asm) (by k_asm)) (by simp only [depth_deeper]; omega) (by omega)) (by k_asm) (by k_asm) ?_; intro t' h' tk' F' N'; (try k_sweep))); exact True.intro
theorem unctrl_str {c : Nat} {t : Tok} (C : Cx w s.heap) (hr : A.depth + 2 < recursionLimit) (hc : c < 256) : Pure1 w A s (call (.ref 154) [.str ⟨#[c]⟩ t]) (fun t => .str (picC c) t) := by
  intro Q E h
  obtain ⟨X, mg, mb, T⟩ := C
  refine wpAny_call ?_
  refine enterK (binds := [(Str.ofString "c", .str ⟨#[c]⟩ t)]) X T (by omega) (by k_is) (by k_is) (BindsTo.of_eq rfl) (locs rfl) ?_ (by decide)
  intro L h₁ F N X' T'
  clear X T
  dsimp only
  k_steps
  all_goals (try dsimp only)
  all_goals refine retV (h _ _ _ (Fr.keep (by assumption))) (congrArg (Value.str · _) ?_)
  · exact un1 c hc (by assumption) (by assumption)
  · exact un2 c hc (by assumption) (by assumption)
  · exact un3 c hc (by assumption) (by assumption) (by assumption)
  · exact un4 c hc (by assumption) (by assumption) (by assumption)
  · exact un5 c hc (by assumption) (by assumption) (by assumption)
  · exact un6 c hc (by assumption) (by assumption) (by assumption)
end
theorem kwB1_end : True := by k_with_none; exact True.intro
end Mine
end
section
open PySem PySem.W PyProof.Rows PySem.Calls
set_option maxRecDepth 100000
namespace Mine
noncomputable def tabN : List Nat := [101, 72, 104, 86, 32, 85, 104, 105, 92, 127]
/-- the two lower digits' test, told as a number -/
noncomputable def heldC (n : Int) : Bool := decide ((n.fdiv 10).fmod 4 < 2) || (decide ((n.fdiv 10).fmod 4 = 3) && decide ((n.fdiv 40).fmod 2 = 1))
noncomputable def lowOf (n : Int) : Nat := if heldC n then tabN.getD (n.fmod 10).toNat 0 % 32 else tabN.getD (n.fmod 10).toNat 0
noncomputable def codeOf (n : Int) : Nat := if (n.fdiv 10).fmod 4 = 3 then lowOf n + 128 else lowOf n
theorem tab_fin : ∀ k : Nat, k < 10 → ([101, 72, 104, 86, 32, 85, 104, 105, 92, 127] : List Int).getD k 0 = ((tabN.getD k 0 : Nat) : Int) ∧ tabN.getD k 0 < 128 := by decide +kernel
theorem fmod10 (n : Int) : (n.fmod 10).toNat < 10 := by
  have := fmod_hi n (n := 10) (by omega)
  exact (Int.toNat_lt' (by decide)).mpr this
theorem low_lt (n : Int) : lowOf n < 128 := by
  have := (tab_fin _ (fmod10 n)).2
  unfold lowOf
  split
  · exact Nat.lt_of_le_of_lt (Nat.mod_le _ _) this
  · exact this
theorem codeOf_small (n : Int) : codeOf n < 256 := by
  have := low_lt n
  unfold codeOf
  split
  · exact Nat.add_lt_add_right this 128
  · exact Nat.lt_trans this (by decide)
theorem charN : ∀ k : Nat, k < 10 → (Txt.charAt (Str.ofString "eHhV Uhi\\\x7f") (k : Int)).getD 0 = tabN.getD k 0 := by decide +kernel
theorem char_eq (n : Int) : (Txt.charAt (Str.ofString "eHhV Uhi\\\x7f") (n.fmod 10)).getD 0 = tabN.getD (n.fmod 10).toNat 0 := by
  have h := charN _ (fmod10 n)
  rwa [Int.toNat_of_nonneg (fmod_lo n (by omega))] at h
end Mine
end
section
open PySem PySem.W PyProof.Rows PySem.Calls
set_option maxRecDepth 100000
namespace Mine
theorem fm128 (c : Nat) : ((c : Nat) : Int).fmod 128 = ((c % 128 : Nat) : Int) := by
  rw [Int.fmod_eq_emod_of_nonneg _ (by omega)]; omega
theorem one_beq (a b : Nat) : ((Str.mk #[a]) == (Str.mk #[b])) = decide (a = b) := by
  rw [Bool.eq_iff_iff]
  simp
noncomputable def whiteC (c : Nat) : Bool := decide (c = 9 ∨ c = 10 ∨ c = 11 ∨ c = 12 ∨ c = 13 ∨ c = 32) || (decide (c < 32) && decide (28 ≤ c)) || decide (c = 160) || decide (c = 133)
theorem sh1 : ∀ c : Nat, c < 256 → (c : Int) = 127 → picC c = Str.ofString "^?" := by decide +kernel
theorem sh2 : ∀ c : Nat, c < 256 → (c : Int) ≠ 127 → (c : Int).fmod 128 < 32 → 127 < (c : Int) → picC c = Str.ofString "!" ++ (Str.ofString "^" ++ ⟨#[(64 + (c : Int).fmod 128).toNat]⟩) := by decide +kernel
theorem sh3 : ∀ c : Nat, c < 256 → (c : Int) ≠ 127 → (c : Int).fmod 128 < 32 → ¬ 127 < (c : Int) → picC c = Str.ofString "^" ++ ⟨#[(64 + (c : Int).fmod 128).toNat]⟩ := by decide +kernel
theorem sh4 : ∀ c : Nat, c < 256 → (c : Int) ≠ 127 → ¬ (c : Int).fmod 128 < 32 → (c : Int).fmod 128 = 127 → picC c = Str.ofString "!" ++ (Str.ofString "^" ++ ⟨#[Int.toNat 159]⟩) := by decide +kernel
theorem sh5 : ∀ c : Nat, c < 256 → (c : Int) ≠ 127 → ¬ (c : Int).fmod 128 < 32 → (c : Int).fmod 128 ≠ 127 → 127 < (c : Int) → picC c = Str.ofString "!" ++ ⟨#[((c : Int).fmod 128).toNat]⟩ := by decide +kernel
theorem sh6 : ∀ c : Nat, c < 256 → (c : Int) ≠ 127 → ¬ (c : Int).fmod 128 < 32 → (c : Int).fmod 128 ≠ 127 → ¬ 127 < (c : Int) → picC c = ⟨#[((c : Int).fmod 128).toNat]⟩ := by decide +kernel
noncomputable abbrev spC (c : Nat) : Prop := c = 9 ∨ c = 10 ∨ c = 11 ∨ c = 12 ∨ c = 13 ∨ c = 32
theorem wh1 : ∀ c : Nat, c < 256 → spC c → whiteC c = true := by decide +kernel
theorem wh2 : ∀ c : Nat, c < 256 → ¬ spC c → c < 32 → 28 ≤ (c : Int) → whiteC c = true := by decide +kernel
theorem wh3 : ∀ c : Nat, c < 256 → ¬ spC c → c < 32 → ¬ 28 ≤ (c : Int) → whiteC c = decide (c = 32 + 128) := by decide +kernel
theorem wh4 : ∀ c : Nat, c < 256 → ¬ spC c → c < 32 → ¬ 28 ≤ (c : Int) → whiteC c = decide (c = 101 % 32 + 128) := by decide +kernel
theorem wh5 : ∀ c : Nat, c < 256 → ¬ spC c → ¬ c < 32 → decide (c = 32 + 128) = true → whiteC c = decide (c = 32 + 128) := by decide +kernel
theorem wh6 : ∀ c : Nat, c < 256 → ¬ spC c → ¬ c < 32 → decide (c = 32 + 128) = false → whiteC c = decide (c = 101 % 32 + 128) := by decide +kernel
section
variable {w : World} {A : Around} {s : Shared}
theorem alt_of {x : Str} {c : Nat} {t : Tok} (e : x = ⟨#[c]⟩) (C : Cx w s.heap) (hr : A.depth + 1 < recursionLimit) (hc : c < 128) : Pure1 w A s (call (.ref 147) [.str x t]) (fun t => .str ⟨#[c + 128]⟩ t) := e ▸ alt_str C hr hc
theorem ctrl_of {x : Str} {c : Nat} {t : Tok} (e : x = ⟨#[c]⟩) (C : Cx w s.heap) (hr : A.depth + 1 < recursionLimit) : Pure1 w A s (call (.ref 140) [.str x t]) (fun t => .str ⟨#[c % 32]⟩ t) := e ▸ ctrl_str C hr
end
section
variable {w : World} {A : Around} {s : Shared}
set_option maxHeartbeats 4000000
theorem kwB3_1 : True := by (k_with_none; k_with "call builtin:chr" => (refine chr_nat (by omega) ?_)); exact True.intro
theorem kwB3_2 : True := by (k_with "call builtin:chr" => (refine chr_64add (by omega) ?_)); exact True.intro
theorem kwB3_3 : True := by (k_with "call ref" => ((with_reducible show wpAny _ _ (call (Value.ref 112) [Value.str _ _]) _ _ _); refine useF (ctoi_str (cxF (by k_asm) (by k_asm) (by k_asm)) (by simp only [depth_deeper]; omega)) (by k_asm) (by k_asm) ?_; intro t' h' tk' F' N'; (try k_sweep))); exact True.intro
theorem kwB3_4 : True := by (k_with "call ref" => ((with_reducible show wpAny _ _ (call (Value.ref 133) [Value.str _ _]) _ _ _); refine useF (isctrl_str (cxF (by k_asm) (by k_asm) (by k_asm)) (by simp only [depth_deeper]; omega)) (by k_asm) (by k_asm) ?_; intro t' h' tk' F' N'; (try k_sweep))); exact True.intro
theorem kwB3_5 : True := by (k_with "call ref" => ((with_reducible show wpAny _ _ (call (Value.ref 126) [Value.str _ _]) _ _ _); refine useF (isspace_str (cxF (by k_asm) (by k_asm) (by k_asm)) (by simp only [depth_deeper]; omega)) (by k_asm) (by k_asm) ?_; intro t' h' tk' F' N'; (try k_sweep))); exact True.intro
theorem kwB3_6 : True := by (k_with "call ref" => ((with_reducible show wpAny _ _ (call (Value.ref 140) [Value.str _ _]) _ _ _); refine useF (ctrl_str (cxF (by k_asm) (by k_asm) (by k_asm)) (by simp only [depth_deeper]; omega)) (by k_asm) (by k_asm) ?_; intro t' h' tk' F' N'; (try k_sweep))); exact True.intro
theorem kwB3_7 : True := by (k_with "call ref" => ((with_reducible show wpAny _ _ (call (Value.ref 147) [Value.str _ _]) _ _ _); refine useF (alt_str (cxF (by k_asm) (by k_asm) (by k_asm)) (by simp only [depth_deeper]; omega) (by omega)) (by k_asm) (by k_asm) ?_; intro t' h' tk' F' N'; (try k_sweep))); exact True.intro
theorem kwB3_8 : True := by (k_with "call ref" => ((with_reducible show wpAny _ _ (call (Value.ref 147) [Value.str (PySem.Str.ofString " ") _]) _ _ _); refine useF (alt_of (c := 32) (by decide +kernel) (cxF (by k_asm) (by k_asm) (by k_asm)) (by simp only [depth_deeper]; omega) (by omega)) (by k_asm) (by k_asm) ?_; intro t' h' tk' F' N'; (try k_sweep))); exact True.intro
theorem kwB3_9 : True := by (k_with "call ref" => ((with_reducible show wpAny _ _ (call (Value.ref 140) [Value.str (PySem.Str.ofString "e") _]) _ _ _); refine useF (ctrl_of (c := 101) (by decide +kernel) (cxF (by k_asm) (by k_asm) (by k_asm)) (by simp only [depth_deeper]; omega)) (by k_asm) (by k_asm) ?_; intro t' h' tk' F' N'; (try k_sweep))); exact True.intro
theorem lawshown_int {c : Nat} {t : Tok} (C : Cx w s.heap) (hr : A.depth + 1 < recursionLimit) (hc : c < 256) : Pure1 w A s (call (.ref 175) [.int (c : Nat) t]) (fun t => .str (picC c) t) := by
  intro Q E h
  obtain ⟨X, mg, mb, T⟩ := C
  refine wpAny_call ?_
  refine enterK (binds := [(Str.ofString "code", .int (c : Nat) t)]) X T (by omega) (by k_is) (by k_is) (BindsTo.of_eq rfl) (locs rfl) ?_ (by decide)
  intro L h₁ F N X' T'
  clear X T
  dsimp only
  k_steps
  all_goals (try dsimp only)
  all_goals refine retV (h _ _ _ (Fr.keep (by assumption))) (congrArg (Value.str · _) ?_)
  · exact sh1 c hc (by assumption)
  · exact sh2 c hc (by assumption) (by assumption) (by assumption)
  · exact sh3 c hc (by assumption) (by assumption) (by assumption)
  · exact sh4 c hc (by assumption) (by assumption) (by assumption)
  · exact sh5 c hc (by assumption) (by assumption) (by assumption) (by assumption)
  · exact sh6 c hc (by assumption) (by assumption) (by assumption) (by assumption)
theorem lawwhite_int {c : Nat} {t : Tok} (C : Cx w s.heap) (hr : A.depth + 2 < recursionLimit) (hc : c < 256) : Pure1 w A s (call (.ref 196) [.int (c : Nat) t]) (fun _ => .bool (whiteC c)) := by
  intro Q E h
  obtain ⟨X, mg, mb, T⟩ := C
  refine wpAny_call ?_
  refine enterK (binds := [(Str.ofString "code", .int (c : Nat) t)]) X T (by omega) (by k_is) (by k_is) (BindsTo.of_eq rfl) (locs rfl) ?_ (by decide)
  intro L h₁ F N X' T'
  clear X T
  dsimp only
  k_steps
  all_goals (try dsimp only)
  all_goals refine retV (h 0 _ _ (Fr.keep (by assumption))) (congrArg Value.bool ?_)
  · exact wh1 c hc (by assumption)
  · exact wh2 c hc (by assumption) (by assumption) (by assumption)
  · exact (wh3 c hc (by assumption) (by assumption) (by assumption)).trans (one_beq _ _).symm
  · exact (wh4 c hc (by assumption) (by assumption) (by assumption)).trans (one_beq _ _).symm
  · exact (wh5 c hc (by assumption) (by assumption) ((one_beq _ _).symm.trans (by assumption))).trans (one_beq _ _).symm
  · exact (wh6 c hc (by assumption) (by assumption) ((one_beq _ _).symm.trans (by assumption))).trans (one_beq _ _).symm
end
theorem kwB3_end : True := by k_with_none; exact True.intro
end Mine
end
section
open PySem PySem.W PyProof.Rows PySem.Calls
set_option maxRecDepth 100000
namespace Mine
/-- the backward walk's state -/
structure Bk where
  left : List Int
  owed : Int
  rung : Int
  killed : Bool
noncomputable def bkStep (ws : List Int) (b : Bk) (i : Int) : Bk :=
  if ws.getD i.toNat 0 = 9 then ⟨b.left, 0, b.rung + b.owed, true⟩
  else if ws.getD i.toNat 0 = -1 then ⟨b.left, b.owed + 1, b.rung, b.killed⟩
  else if ws.getD i.toNat 0 = 1 ∧ 0 < b.owed then ⟨b.left, b.owed - 1, b.rung, b.killed⟩
  else if ws.getD i.toNat 0 = 1 ∧ b.killed = false then ⟨i :: b.left, b.owed, b.rung, b.killed⟩
  else b
noncomputable def bkRun (ws : List Int) (now : Int) : Nat → Bk
  | 0 => ⟨[], 0, 0, false⟩
  | k + 1 => bkStep ws (bkRun ws now k) (now - (k : Int))
theorem bkStep_len (ws : List Int) (b : Bk) (i : Int) : (bkStep ws b i).left.length ≤ b.left.length + 1 := by
  unfold bkStep
  (repeat' split) <;> simp
theorem bkRun_len (ws : List Int) (now : Int) : ∀ k, (bkRun ws now k).left.length ≤ k
  | 0 => Nat.le_refl _
  | k + 1 => Nat.le_trans (bkStep_len ws _ _) (Nat.succ_le_succ (bkRun_len ws now k))
/-- what stands between two turns -/
inductive BkI (s : Shared) (L W : Addr) (b : Bk) (s' : Shared) : Prop
  | mk (h' : Heap) (tk : Nat) (m : Str → Option Value) (D : Addr) (us : List Value) (n : Nat) (to tr : Tok) (e : s' = { s with heap := h', toks := tk }) (F : Fr s.heap L h' m) (N : News s.heap L h' [(D, PySem.W.listOf us.toArray n)]) (hus : IntsAre us b.left)
    (e1 : m (Str.ofString "left") = some (.ref D)) (e2 : m (Str.ofString "owed") = some (.int b.owed to)) (e3 : m (Str.ofString "rung") = some (.int b.rung tr)) (e4 : m (Str.ofString "killed") = some (.bool b.killed)) (e5 : m (Str.ofString "worths") = some (.ref W))
section
variable {w : World} {A : Around} {s : Shared}
set_option maxHeartbeats 4000000
theorem kwB4_1 : True := by (k_with_none; k_with "pyIter ref" => refine Halt.go ?_); exact True.intro
theorem kwB4_2 : True := by (k_with "exec For Name Call cons nil" => refine Halt.go ?_); exact True.intro
theorem kwB4_3 : True := by (k_with "closeB" => ((rename Fr _ _ _ _ => Ff); (rename News _ _ _ _ => Nf); exact hQ2 _ (Nf (_, _) (by k_mem)).1 ⟨_, _, _, _, _, _, _, _, rfl, Ff, (fun p hp => Nf p (by rw [List.mem_singleton.mp hp]; exact List.Mem.head _)), (by assumption), rfl, rfl, rfl, rfl, rfl⟩)); exact True.intro
theorem kwB4_4 : True := by (k_with "execs cons" => refine execs_one ?_); exact True.intro
theorem kwB4_9 : True := by (k_with "isTrue Compare" => (k_dflt (refine' testItem ?k1 ?k2 ?k3 ?k4 ?k5 ?k6 ?k7 ?k8 rfl rfl rfl (by decide) (by decide) (fun _ => ?_) (fun _ => ?_); (case k1 => k_asm); (case k2 => rfl); (case k3 => rfl); (case k4 => assumption); (case k5 => assumption); (case k6 => assumption); (case k7 => assumption); (case k8 => assumption)))); exact True.intro
theorem lawback_call {W : Addr} {vs : List Value} {ws : List Int} {now : Int} {t : Tok} (C : Cx w s.heap) (hr : A.depth + 1 < recursionLimit) (hh : A.handled = none)
    (hW : s.heap.IsList W vs.toArray) (hv : IntsAre vs ws) (h0 : 0 ≤ now) (hn : now < ws.length) (hl : ws.length < 1000)
    (Q E : Value → Shared → Prop) (h : ∀ T D t us n n' h' tk, Ext s.heap h' → s.heap.get? T = none → s.heap.get? D = none → h'.get? T = some { cls := .type "tuple", data := .seq #[.ref D, .int ((bkRun ws now (now - -1).toNat).rung + (bkRun ws now (now - -1).toNat).owed) t] n } →
      h'.get? D = some (PySem.W.listOf (List.toArray us) n') → IntsAre us (bkRun ws now (now - -1).toNat).left → Q (.ref T) { s with heap := h', toks := tk }) : wpAny (model PG w) A (call (.ref 189) [.ref W, .int now t]) Q E s := by
  obtain ⟨X, mg, mb, T⟩ := C
  refine wpAny_call ?_
  refine enterK (binds := [(Str.ofString "worths", .ref W), (Str.ofString "now", .int now t)]) X T (by omega) (by k_is) (by k_is) (BindsTo.of_eq rfl) (locs rfl) ?_ (by decide)
  intro L h₁ F N X' T'
  clear X T
  dsimp only
  k_steps
  unfold Halt
  refine wpAny_For ?_
  k_steps
  unfold Halt
  dsimp only
  rename IsRange _ _ _ _ _ _ _ _ => hR
  rename_i hI tkI _ _ _ F1 N1 _
  refine wpAny_pyIter_range hR (small_down (by omega) (by omega) (by omega) (by omega)) ?_
  rw [rangeSize_downNat]
  have hLI : L < hI.objs.size := F1.ns.lt
  refine forQ (Walks.range (show (A.deeper _).handled = none from hh) _ now (-1) (now - -1).toNat) (fun i s' => BkI s L W (bkRun ws now i) s') ?_ ?_ ?_ ?_
  · simpa using Heap.get?_push_size _ rfl
  · exact ⟨_, _, _, _, [], 0, _, _, rfl, F1.push _, (fun p hp => ⟨Heap.get?_push_of_some _ (N1 p hp).1, (N1 p hp).2⟩), IntsAre.nil, rfl, rfl, rfl, rfl, rfl⟩
  · intro i v s1 h₂ tk₂ Q' hi hv1 hB hst hst' hk hQ
    have hIn := next_is_new F1
    generalize hI.objs.size = I at *
    clear hR F1 N1
    have ek : now + (i : Int) * -1 = now - (i : Int) := by omega
    have hi' : (i : Int) < now + 1 := by omega
    have hlen := bkRun_len ws now i
    have hQ2 : ∀ s₃ : Shared, s₃.heap.get? I = h₂.get? I → BkI s L W (bkStep ws (bkRun ws now i) (now - (i : Int))) s₃ → Q' .next s₃ := fun s₃ x y => hQ s₃ (x.trans hst') y
    obtain ⟨ro, hro⟩ : ∃ ro, h₂.get? I = some ro := ⟨_, hst'⟩
    rw [hro] at hQ2
    clear hQ hst'
    generalize bkRun ws now i = bb at *
    generalize hkk : now - (i : Int) = k at *
    obtain ⟨t', rfl⟩ := hv1
    obtain ⟨h', tk, m, D, us, n, to, tr, rfl, F, N, hus, e1, e2, e3, e4, e5⟩ := hB
    have hDI : D ≠ I := by
      intro e
      have q := (N _ (.head _)).1
      rw [e] at q
      have q2 := q.symm.trans hst
      exact absurd (congrArg (fun o => (Option.map Obj.cls o)) q2) (by simp)
    have F₂ := LCg.fr_but F hk (Nat.ne_of_lt hLI) hIn
    have N₂ : News s.heap L h₂ [(D, PySem.W.listOf us.toArray n), (I, ro)] := by
      intro p hp
      rcases List.mem_cons.mp hp with rfl | hp
      · exact LCg.news_but N hk (by intro p hp; rw [List.mem_singleton.mp hp]; exact hDI) _ (.head _)
      · rw [List.mem_singleton.mp hp]
        exact ⟨hro, Nat.ne_of_gt hLI, hIn⟩
    obtain ⟨left, owed, rung, killed⟩ := bb
    have F₃ := Fr.told F₂ [(Str.ofString "left", .ref D), (Str.ofString "owed", .int owed to), (Str.ofString "rung", .int rung tr), (Str.ofString "killed", .bool killed), (Str.ofString "worths", .ref W)] (by
      intro p hp
      simp only [List.mem_cons, List.not_mem_nil, or_false] at hp
      rcases hp with rfl | rfl | rfl | rfl | rfl <;> assumption)
    rw [ek]
    have hk0 : 0 ≤ k := by omega
    have hk1 : k < ws.length := by omega
    clear F N F₂ hk hst e1 e2 e3 e4 e5 hIn hro hDI ek hkk
    k_steps
    all_goals (try dsimp only)
    · have hb : bkStep ws ⟨left, owed, rung, killed⟩ k = ⟨left, 0, rung + owed, true⟩ := by unfold bkStep; rw [if_pos (by assumption)]
      rw [hb] at hQ2
      k_extra "closeB"
    · have hb : bkStep ws ⟨left, owed, rung, killed⟩ k = ⟨left, owed + 1, rung, killed⟩ := by unfold bkStep; rw [if_neg (by assumption), if_pos (by assumption)]
      rw [hb] at hQ2
      k_extra "closeB"
    · have hb : bkStep ws ⟨left, owed, rung, killed⟩ k = ⟨left, owed - 1, rung, killed⟩ := by unfold bkStep; rw [if_neg (by assumption), if_neg (by assumption), if_pos ⟨by assumption, by assumption⟩]
      rw [hb] at hQ2
      k_extra "closeB"
    · have hb : bkStep ws ⟨left, owed, rung, killed⟩ k = ⟨left, owed, rung, killed⟩ := by
        unfold bkStep; rw [if_neg (by assumption), if_neg (by assumption), if_neg (fun h => absurd h.2 (by assumption)), if_neg (by simp_all)]
      rw [hb] at hQ2
      k_extra "closeB"
    · have hb : bkStep ws ⟨left, owed, rung, killed⟩ k = ⟨k :: left, owed, rung, killed⟩ := by
        unfold bkStep; rw [if_neg (by assumption), if_neg (by assumption), if_neg (fun h => absurd h.2 (by assumption)), if_pos ⟨by assumption, by assumption⟩]
      rw [hb] at hQ2
      k_extra "closeB"
    · exact absurd (by assumption) (show ¬ ws.getD k.toNat 0 = 1 by assumption)
    · exact absurd (by assumption) (show ¬ ws.getD k.toNat 0 = 1 by assumption)
    · have hb : bkStep ws ⟨left, owed, rung, killed⟩ k = ⟨left, owed, rung, killed⟩ := by
        unfold bkStep; rw [if_neg (by assumption), if_neg (by assumption), if_neg (fun h => absurd h.1 (by assumption)), if_neg (fun h => absurd h.1 (by assumption))]
      rw [hb] at hQ2
      k_extra "closeB"
  · intro s1 h₂ tk₂ hB hst hk
    have hIn := next_is_new F1
    generalize hI.objs.size = I at *
    clear hR F1 N1
    generalize bkRun ws now (now - -1).toNat = bb at *
    obtain ⟨h', tk, m, D, us, n, to, tr, rfl, F, N, hus, e1, e2, e3, e4, e5⟩ := hB
    have hDI : D ≠ I := by
      intro e
      have q := (N _ (.head _)).1
      rw [e] at q
      have q2 := q.symm.trans hst
      exact absurd (congrArg (fun o => (Option.map Obj.cls o)) q2) (by simp)
    have F₂ := LCg.fr_but F hk (Nat.ne_of_lt hLI) hIn
    have N₂ := LCg.news_but N hk (by intro p hp; rw [List.mem_singleton.mp hp]; exact hDI)
    have F₃ := Fr.told F₂ [(Str.ofString "left", .ref D), (Str.ofString "owed", .int bb.owed to), (Str.ofString "rung", .int bb.rung tr)] (by
      intro p hp
      simp only [List.mem_cons, List.not_mem_nil, or_false] at hp
      rcases hp with rfl | rfl | rfl <;> assumption)
    clear F N F₂ hk hst e1 e2 e3 e4 e5 hDI hIn
    dsimp only
    k_steps
    try dsimp only
    rename Fr _ _ _ _ => Ff
    rename News _ _ _ _ => Nf
    exact h _ _ _ _ _ _ _ _ Ff.keep (Nf _ (.head _)).2.2 (Nf _ (.tail _ (.head _))).2.2 (Nf _ (.head _)).1 (Nf _ (.tail _ (.head _))).1 hus
end
theorem kwB4_end : True := by k_with_none; exact True.intro
end Mine
end
section
open PySem PySem.W PyProof.Rows PySem.Calls
set_option maxRecDepth 100000
namespace Mine
/-- how many 22s stand right ahead -/
noncomputable def aheadN (cs : List Int) : Nat → Nat
  | 0 => 0
  | i + 1 => if cs.getD i 0 = 22 then aheadN cs i + 1 else 0
noncomputable def worthOf (cs : List Int) (i : Nat) : Int :=
  if aheadN cs i % 2 = 1 then 1 else if cs.getD i 0 = 21 then 9 else if cs.getD i 0 = 8 ∨ cs.getD i 0 = 127 then -1 else if cs.getD i 0 = 22 then 0 else 1
theorem ahead_step {cs : List Int} {i a : Nat} (ha : a < i) (h : cs.getD ((i : Int) - 1 - (a : Int)).toNat 0 = 22) (e : aheadN cs i = a + aheadN cs (i - a)) : aheadN cs i = (a + 1) + aheadN cs (i - (a + 1)) := by
  obtain ⟨d, rfl⟩ := Nat.exists_eq_add_of_lt ha
  clear ha
  have e1 : ((a + d + 1 : Nat) : Int) - 1 - (a : Int) = (d : Int) := by omega
  have e2 : a + d + 1 - a = d + 1 := by rw [Nat.add_assoc, Nat.add_sub_cancel_left]
  have e3 : a + d + 1 - (a + 1) = d := by rw [Nat.add_right_comm, Nat.add_sub_cancel_left]
  rw [e1, Int.toNat_natCast] at h
  have e4 : aheadN cs (d + 1) = aheadN cs d + 1 := by rw [aheadN, if_pos h]
  rw [e2, e4] at e
  rw [e3, e, Nat.add_right_comm a 1, Nat.add_assoc a]
theorem ahead_end {cs : List Int} {i a : Nat} (ha : a < i) (h : cs.getD ((i : Int) - 1 - (a : Int)).toNat 0 ≠ 22) (e : aheadN cs i = a + aheadN cs (i - a)) : aheadN cs i = a := by
  obtain ⟨d, rfl⟩ := Nat.exists_eq_add_of_lt ha
  clear ha
  have e1 : ((a + d + 1 : Nat) : Int) - 1 - (a : Int) = (d : Int) := by omega
  have e2 : a + d + 1 - a = d + 1 := by rw [Nat.add_assoc, Nat.add_sub_cancel_left]
  rw [e1, Int.toNat_natCast] at h
  have e4 : aheadN cs (d + 1) = 0 := by rw [aheadN, if_neg h]
  rw [e2, e4] at e
  exact e
theorem ahead_all {cs : List Int} {i a : Nat} (ha : ¬ a < i) (e : aheadN cs i = a + aheadN cs (i - a)) : aheadN cs i = a := by
  rw [Nat.sub_eq_zero_of_le (Nat.le_of_not_lt ha)] at e
  exact e
theorem fm2 (a : Nat) : ((a : Nat) : Int).fmod 2 = ((a % 2 : Nat) : Int) := by
  rw [Int.fmod_eq_emod_of_nonneg _ (by omega)]; omega
theorem worths_snoc {cs : List Int} {us : List Value} {i : Nat} {x : Int} {t : Tok} (hus : IntsAre us ((List.range i).map (worthOf cs))) (e : worthOf cs i = x) : IntsAre (us ++ [.int x t]) ((List.range (i + 1)).map (worthOf cs)) := by
  rw [List.range_succ, List.map_append]
  refine IntsAre.append hus ?_
  show IntsAre _ [worthOf cs i]
  rw [e]
  exact IntsAre.cons _ _ IntsAre.nil
theorem wo_1 {cs : List Int} {i a : Nat} (hA : aheadN cs i = a) (h : ((a % 2 : Nat) : Int) = 1) : worthOf cs i = 1 := by unfold worthOf; rw [hA, if_pos (Int.ofNat.inj h)]
theorem wo_9 {cs : List Int} {i a : Nat} (hA : aheadN cs i = a) (h : ¬ ((a % 2 : Nat) : Int) = 1) (h2 : cs.getD i 0 = 21) : worthOf cs i = 9 := by unfold worthOf; rw [hA, if_neg (fun e => h (congrArg Int.ofNat e)), if_pos h2]
theorem wo_m {cs : List Int} {i a : Nat} (hA : aheadN cs i = a) (h : ¬ ((a % 2 : Nat) : Int) = 1) (h2 : cs.getD i 0 = 8 ∨ cs.getD i 0 = 127) : worthOf cs i = -1 := by unfold worthOf; rw [hA, if_neg (fun e => h (congrArg Int.ofNat e)), if_neg (by omega), if_pos h2]
theorem wo_0 {cs : List Int} {i a : Nat} (hA : aheadN cs i = a) (h : ¬ ((a % 2 : Nat) : Int) = 1) (h2 : cs.getD i 0 = 22) : worthOf cs i = 0 := by unfold worthOf; rw [hA, if_neg (fun e => h (congrArg Int.ofNat e)), if_neg (by omega), if_neg (by omega), if_pos h2]
theorem wo_d {cs : List Int} {i a : Nat} (hA : aheadN cs i = a) (h : ¬ ((a % 2 : Nat) : Int) = 1) (h2 : ¬ cs.getD i 0 = 21) (h3 : ¬ (cs.getD i 0 = 8 ∨ cs.getD i 0 = 127)) (h4 : ¬ cs.getD i 0 = 22) : worthOf cs i = 1 := by unfold worthOf; rw [hA, if_neg (fun e => h (congrArg Int.ofNat e)), if_neg h2, if_neg h3, if_neg h4]
theorem any_8 (x : Int) : ([8, 127].any fun y => y == x) = decide (x = 8 ∨ x = 127) := by
  rw [Bool.eq_iff_iff, decide_eq_true_eq]
  simp only [List.any_cons, List.any_nil, Bool.or_false, Bool.or_eq_true, beq_iff_eq]
  exact or_congr eq_comm eq_comm
/-- what stands between two turns -/
inductive WoI (s : Shared) (L W : Addr) (cs : List Int) (i : Nat) (s' : Shared) : Prop
  | mk (h' : Heap) (tk : Nat) (m : Str → Option Value) (D : Addr) (us : List Value) (n : Nat) (e : s' = { s with heap := h', toks := tk }) (F : Fr s.heap L h' m) (N : News s.heap L h' [(D, PySem.W.listOf us.toArray n)]) (hus : IntsAre us ((List.range i).map (worthOf cs)))
    (e1 : m (Str.ofString "worths") = some (.ref D)) (e2 : m (Str.ofString "codes") = some (.ref W))
/-- between two turns of the inner loop -/
inductive WoJ (s : Shared) (L W D I : Addr) (o ro : Obj) (i a : Nat) (s' : Shared) : Prop
  | mk (h' : Heap) (tk : Nat) (m : Str → Option Value) (ta ti : Tok) (e : s' = { s with heap := h', toks := tk }) (F : Fr s.heap L h' m) (N : News s.heap L h' [(D, o), (I, ro)])
    (e1 : m (Str.ofString "worths") = some (.ref D)) (e2 : m (Str.ofString "codes") = some (.ref W)) (e3 : m (Str.ofString "i") = some (.int (i : Int) ti)) (e4 : m (Str.ofString "ahead") = some (.int ((a : Nat) : Int) ta))
section
variable {w : World} {A : Around} {s : Shared}
set_option maxHeartbeats 4000000
theorem kwB5_1 : True := by (k_with_none; k_with "pyIter ref" => refine Halt.go ?_); exact True.intro
theorem kwB5_2 : True := by (k_with "exec For Name Call cons nil" => refine Halt.go ?_); exact True.intro
theorem kwB5_3 : True := by (k_with "exec While BoolOp cons nil" => refine Halt.go ?_); exact True.intro
theorem kwB5_4 : True := by (k_with "call builtin:list.append" => (k_dflt (refine' append_K ?k1 ?k2 ?k3 ?_ ?z; (case k1 => k_asm); (case k2 => k_asm); (case k3 => k_upd); (case z => (simp only [List.size_toArray, sizeLine_eq]; omega))); intro h' F' N'; (try k_sweep))); exact True.intro
theorem kwB5_5 : True := by (k_with "execs cons" => refine execs_one ?_); exact True.intro
theorem kwB5_9 : True := by (k_with "isTrue Compare" => (k_dflt (refine' testItem ?k1 ?k2 ?k3 ?k4 ?k5 ?k6 ?k7 ?k8 rfl rfl rfl (by decide) (by decide) (fun _ => ?_) (fun _ => ?_); (case k1 => k_asm); (case k2 => rfl); (case k3 => rfl); (case k4 => assumption); (case k5 => assumption); (case k6 => exact Int.natCast_nonneg _); (case k7 => exact Int.ofNat_lt.mpr (by assumption)); (case k8 => assumption)))); exact True.intro
theorem lawworths_call {W : Addr} {vs : List Value} {cs : List Int} (C : Cx w s.heap) (hr : A.depth + 1 < recursionLimit) (hh : A.handled = none)
    (hW : s.heap.IsList W vs.toArray) (hv : IntsAre vs cs) (hl : cs.length < 1000)
    (Q E : Value → Shared → Prop) (h : ∀ D us n' h' tk, Ext s.heap h' → s.heap.get? D = none → 
      h'.get? D = some (PySem.W.listOf (List.toArray us) n') → IntsAre us ((List.range cs.length).map (worthOf cs)) → Q (.ref D) { s with heap := h', toks := tk }) : wpAny (model PG w) A (call (.ref 182) [.ref W]) Q E s := by
  obtain ⟨X, mg, mb, T⟩ := C
  refine wpAny_call ?_
  refine enterK (binds := [(Str.ofString "codes", .ref W)]) X T (by omega) (by k_is) (by k_is) (BindsTo.of_eq rfl) (locs rfl) ?_ (by decide)
  intro L h₁ F N X' T'
  clear X T
  dsimp only
  k_steps
  refine Halt.mk ?_
  refine wpAny_For ?_
  k_steps
  refine Halt.mk ?_
  dsimp only
  rename IsRange _ _ _ _ _ _ _ _ => hR
  rename_i hI tkI _ _ _ F1 N1 _
  refine wpAny_pyIter_range hR (small_one (by omega) (by omega) (by omega) (by omega)) ?_
  rw [rangeSize_nat]
  have hLI : L < hI.objs.size := F1.ns.lt
  have hnn : ((cs.length : Int) - 0).toNat = cs.length := by omega
  rw [hnn]
  clear hnn
  refine forQ (Walks.range (show (A.deeper _).handled = none from hh) _ 0 1 cs.length) (fun i s' => WoI s L W cs i s') ?_ ?_ ?_ ?_
  · simpa using Heap.get?_push_size _ rfl
  · exact ⟨_, _, _, _, [], 0, rfl, F1.push _, (fun p hp => ⟨Heap.get?_push_of_some _ (N1 p hp).1, (N1 p hp).2⟩), IntsAre.nil, rfl, rfl⟩
  · intro i v s1 h₂ tk₂ Q' hi hv1 hB hst hst' hk hQ
    have hIn := next_is_new F1
    generalize hI.objs.size = I at *
    clear hR F1 N1
    have ek : 0 + (i : Int) * 1 = (i : Int) := by omega
    have hQ2 : ∀ s₃ : Shared, s₃.heap.get? I = h₂.get? I → WoI s L W cs (i + 1) s₃ → Q' .next s₃ := fun s₃ x y => hQ s₃ (x.trans hst') y
    obtain ⟨ro, hro⟩ : ∃ ro, h₂.get? I = some ro := ⟨_, hst'⟩
    rw [hro] at hQ2
    clear hQ hst'
    rw [ek] at hv1
    obtain ⟨t', rfl⟩ := hv1
    obtain ⟨h', tk, m, D, us, n, rfl, F, N, hus, e1, e2⟩ := hB
    have hDI : D ≠ I := by
      intro e
      have q := (N _ (.head _)).1
      rw [e] at q
      have q2 := q.symm.trans hst
      exact absurd (congrArg (fun o => (Option.map Obj.cls o)) q2) (by simp)
    have F₂ := LCg.fr_but F hk (Nat.ne_of_lt hLI) hIn
    have N₂ : News s.heap L h₂ [(D, PySem.W.listOf us.toArray n), (I, ro)] := by
      intro p hp
      rcases List.mem_cons.mp hp with rfl | hp
      · exact LCg.news_but N hk (by intro p hp; rw [List.mem_singleton.mp hp]; exact hDI) _ (.head _)
      · rw [List.mem_singleton.mp hp]
        exact ⟨hro, Nat.ne_of_gt hLI, hIn⟩
    have F₃ := Fr.told F₂ [(Str.ofString "worths", .ref D), (Str.ofString "codes", .ref W)] (by
      intro p hp
      simp only [List.mem_cons, List.not_mem_nil, or_false] at hp
      rcases hp with rfl | rfl <;> assumption)
    replace hDI := PySem.W.neN hDI
    have hlen : us.length = i := by have := hus.length; simpa using this
    clear F N F₂ hk hst e1 e2 hIn hro ek
    k_steps
    refine Halt.mk ?_
    rename Fr _ _ _ _ => F₄
    rename News _ _ _ _ => N₄
    refine wpAny_While (whileQ (fun n₁ s' => ∃ a, a ≤ i ∧ aheadN cs i = a + aheadN cs (i - a) ∧ n₁ = i - a ∧ WoJ s L W D I (PySem.W.listOf us.toArray n) ro i a s') (fun s' => WoJ s L W D I (PySem.W.listOf us.toArray n) ro i (aheadN cs i) s') ?_ i
      ⟨0, Nat.zero_le _, by simp, rfl, ⟨_, _, _, _, _, rfl, F₄, N₄, rfl, rfl, rfl, rfl⟩⟩ ?_)
    · clear F₄ N₄
      intro n₁ s2 Q2 Z2 hJ hq hz
      obtain ⟨a, hai, hah, rfl, hJ⟩ := hJ
      have hq2 : a < i → aheadN cs i = (a + 1) + aheadN cs (i - (a + 1)) → ∀ s₃ : Shared, WoJ s L W D I (PySem.W.listOf us.toArray n) ro i (a + 1) s₃ → Q2 .next s₃ := fun u e s₃ x => hq (i - (a + 1)) s₃ (Nat.sub_lt_sub_left u (Nat.lt_succ_self a)) ⟨a + 1, u, e, rfl, x⟩
      have hz2 : aheadN cs i = a → ∀ s₃ : Shared, WoJ s L W D I (PySem.W.listOf us.toArray n) ro i a s₃ → Z2 s₃ := fun e s₃ x => hz s₃ (by rw [e]; exact x)
      clear hq hz hai
      replace hah := Halt.mk hah
      generalize PySem.W.listOf us.toArray n = ob at *
      obtain ⟨h', tk, m', ta, ti, rfl, F, N, e1, e2, e3, e4⟩ := hJ
      have F₅ := Fr.told F [(Str.ofString "codes", .ref W), (Str.ofString "i", .int (i : Int) ti), (Str.ofString "ahead", .int ((a : Nat) : Int) ta), (Str.ofString "worths", .ref D)] (by
        intro p hp
        simp only [List.mem_cons, List.not_mem_nil, or_false] at hp
        rcases hp with rfl | rfl | rfl | rfl <;> assumption)
      clear F e1 e2 e3 e4
      k_steps
      all_goals (try dsimp only)
      all_goals (rename Fr _ _ _ _ => Ff)
      all_goals (rename News _ _ _ _ => Nf)
      · have hai : a < i := by clear hq2 hz2; omega
        exact hq2 hai (ahead_step hai (by assumption) hah) _ ⟨_, _, _, _, _, rfl, Ff, Nf, rfl, rfl, rfl, rfl⟩
      · exact hz2 (ahead_end (by omega) (by assumption) hah) _ ⟨_, _, _, _, _, rfl, Ff, Nf, rfl, rfl, rfl, rfl⟩
      · exact hz2 (ahead_all (by omega) hah) _ ⟨_, _, _, _, _, rfl, Ff, Nf, rfl, rfl, rfl, rfl⟩
    · intro s' hJ
      obtain ⟨a, hA⟩ : ∃ a, aheadN cs i = a := ⟨_, rfl⟩
      rw [hA] at hJ
      obtain ⟨h', tk, m', ta, ti, rfl, F, N, e1, e2, e3, e4⟩ := hJ
      have F₅ := Fr.told F [(Str.ofString "codes", .ref W), (Str.ofString "i", .int (i : Int) ti), (Str.ofString "ahead", .int ((a : Nat) : Int) ta), (Str.ofString "worths", .ref D)] (by
        intro p hp
        simp only [List.mem_cons, List.not_mem_nil, or_false] at hp
        rcases hp with rfl | rfl | rfl | rfl <;> assumption)
      clear F e1 e2 e3 e4
      dsimp only
      k_steps
      all_goals (try dsimp only)
      all_goals (rename Fr _ _ _ _ => Ff)
      all_goals (rename News _ _ _ _ => Nf)
      all_goals (simp only [List.push_toArray] at Nf)
      all_goals refine hQ2 _ (Nf (_, _) (by k_mem)).1 ⟨_, _, _, D, _, n + 1, rfl, Ff, (fun p hp => Nf p (by rw [List.mem_singleton.mp hp]; k_mem)), worths_snoc hus ?_, rfl, rfl⟩
      all_goals clear Nf Ff hQ2
      all_goals (simp only [Int.toNat_natCast, fm2, any_8, decide_eq_true_eq, decide_eq_false_iff_not] at *)
      · exact wo_1 hA (by assumption)
      · exact wo_9 hA (by assumption) (by assumption)
      · exact wo_m hA (by assumption) (by assumption)
      · exact wo_0 hA (by assumption) (by assumption)
      · exact wo_d hA (by assumption) (by assumption) (by assumption) (by assumption)
  · intro s1 h₂ tk₂ hB hst hk
    have hIn := next_is_new F1
    generalize hI.objs.size = I at *
    clear hR F1 N1
    obtain ⟨h', tk, m, D, us, n, rfl, F, N, hus, e1, e2⟩ := hB
    have hDI : D ≠ I := by
      intro e
      have q := (N _ (.head _)).1
      rw [e] at q
      have q2 := q.symm.trans hst
      exact absurd (congrArg (fun o => (Option.map Obj.cls o)) q2) (by simp)
    have F₂ := LCg.fr_but F hk (Nat.ne_of_lt hLI) hIn
    have N₂ := LCg.news_but N hk (by intro p hp; rw [List.mem_singleton.mp hp]; exact hDI)
    have F₃ := Fr.told F₂ [(Str.ofString "worths", .ref D)] (by
      intro p hp
      simp only [List.mem_cons, List.not_mem_nil, or_false] at hp
      rcases hp with rfl <;> assumption)
    clear F N F₂ hk hst e1 e2 hDI hIn
    dsimp only
    k_steps
    try dsimp only
    rename Fr _ _ _ _ => Ff
    rename News _ _ _ _ => Nf
    exact h _ _ _ _ _ Ff.keep (Nf _ (.head _)).2.2 (Nf _ (.head _)).1 hus
end
theorem kwB5_end : True := by k_with_none; exact True.intro
end Mine
end
section
open PySem PySem.W PyProof.Rows PySem.Calls
set_option maxRecDepth 100000
namespace Mine
/-- an accumulator: a list of the class at 101 with a dict of its own -/
noncomputable abbrev accObj (dx : Addr) (its : Array Value) (n : Nat) : Obj := { cls := .ref 101, dict := some dx, data := .seq its n }
noncomputable abbrev sizeDict (w : World) (tk : Tok) (p : Int) (tp : Tok) (n : Nat) : Obj := dictOf [⟨PyData.keyHash w.params (Str.ofString "_initial_size"), .str (Str.ofString "_initial_size") tk, .int p tp⟩] n
structure AccAt (w : World) (h : Heap) (x dx : Addr) (its : Array Value) (p : Int) : Prop where
  obj : ∃ n, h.get? x = some (accObj dx its n)
  dict : ∃ tk tp n, h.get? dx = some (sizeDict w tk p tp n)
section
variable {w : World} {A : Around} {s : Shared} {E : Value → Shared → Prop} {x dx : Addr} {its : Array Value} {n : Nat} {od : Obj}
theorem accInst (hx : s.heap.get? x = some (accObj dx its n)) (hdx : s.heap.get? dx = some od) : InstAt s.heap x (accObj dx its n) 101 (some od) := ⟨hx, rfl, rfl, hdx⟩
theorem accType {M : Model} {h : Heap} (hx : h.get? x = some (accObj dx its n)) : Looks M h (typeOf (.ref x)) (.ref 101) := (Looks.ld hx).andThen .now
theorem accIs {M : Model} {h : Heap} (X : (hd.heap_39 w.params).In h) (hx : h.get? x = some (accObj dx its n)) : Looks M h (isInstance (.ref x) (.type "list")) true := (accType hx).andThen (looks_mroIn X (by k_is))
theorem check_meth {M : Model} {i owner nm : String} {self : Value} {rest : List Value} {kw : List (Str × Value)} {Q : Unit → Shared → Prop}
    (hk : builtinKind i = some .method) (hs : splitId i = some (owner, nm)) (hi : Looks M s.heap (isInstance self (.type owner)) true) (ha : argsOk i ⟨self :: rest, kw⟩) (q : Q () s) :
    wpAny M A (checkBuiltinCall i ⟨self :: rest, kw⟩) Q E s := by
  simp only [checkBuiltinCall, hk, hs]
  refine wpAny_bind (hi.here ?_)
  simp only [Bool.not_true, Bool.false_eq_true, if_false]
  cases hsig : Manifest.signature? i with
  | none => exact wpAny_pure q
  | some sig =>
    simp only [argsOk, hsig] at ha
    have h2 : Bind.checkArgs i sig ⟨self :: rest, kw⟩ = pure () := ha
    show wpAny M A (Bind.checkArgs i sig ⟨self :: rest, kw⟩) Q E s
    rw [h2]; exact wpAny_pure q
theorem mapSeq_push' (v : Value) : Obj.mapSeq (·.push v) (accObj dx its n) = accObj dx (its.push v) (n + 1) := by
  simp [Obj.mapSeq]
theorem acc_append {v : Value} {Q : Value → Shared → Prop} (X : (hd.heap_39 w.params).In s.heap) (hx : s.heap.get? x = some (accObj dx its n)) (hsz : its.size ≤ sizeLine)
    (h : ∀ h', Heap.SameBut x s.heap h' → h'.get? x = some (accObj dx (its.push v) (n + 1)) → Q .none { s with heap := h' }) : wpAny (model PG w) A (call (.builtin "list.append") [.ref x, v]) Q E s := by
  refine wpAny_call (codeAny_call_builtin (by decide +kernel) entry_list_append (check_meth (nm := "append") (by decide +kernel) (by decide +kernel) (accIs X hx) (args_list_append _ _) ?_))
  show wpAny _ _ (updateSeq x (·.push v) >>= fun _ => ret .none) _ _ s
  refine wpAny_bind ?_
  refine wpAny_updateSeq hx rfl (wpAny_pure (h _ (Heap.SameBut.update ..) ?_)) 
  rw [Heap.get?_update_self _ hx (by rw [mapSeq_push']; rfl), mapSeq_push']
theorem acc_method {K : Frag} {f : Value} {tf : Value} {name : Str} {pl : Sem Bool} {Q : Value × List Value → Shared → Prop} (X : K.In s.heap) (I : InstAt s.heap x (accObj dx its n) 101 (some od))
    (hga : findIn K (.ref 101) "__getattribute__" = some (some (.builtin "list.__getattribute__"))) (hk : findIn K (.ref 101) "__getattr__" = some none)
    (hf : findIn K (.ref 101) name = some (some f)) (ht : typeIn K f = some tf) (hT : (tf != .type "function" && tf != .type "method_descriptor" && tf != .type "wrapper_descriptor") = false) (hs : shadowIn (some od) name = some false) (h : Q (f, [.ref x]) s) :
    wpAny (model PG w) A (getMethod (.ref x) name pl) Q E s := by
  have hcan := canon_list_getattribute
  unfold getMethod specialOf
  refine wpAny_bind (wpAny_bind (I.type.here ((looks_findIn X hga).here ?_)))
  dsimp only
  rw [hcan, if_neg (by decide)]
  refine wpAny_bind (wpAny_bind (I.type.here ((looks_findIn X hk).here ?_)))
  refine wpAny_bind (wpAny_bind (I.type.here ((looks_findIn X hf).here (wpAny_bind ((looks_typeIn X ht).here ?_)))))
  rw [hT, if_neg (by decide)]
  refine wpAny_bind (wpAny_loadPart I.at_ ?_)
  have hd := I.dict
  obtain ⟨r, a, b⟩ := Option.map_eq_some_iff.mp hs
  refine wpAny_bind (wpAny_bind (wpAny_loadPart hd ?_))
  rw [nsLook_of a]
  cases r with
  | some _ => cases b
  | none => exact wpAny_pure (wpAny_bind (wpAny_rule (wpAny_pure h)))
set_option maxHeartbeats 1000000 in
theorem acc_getattr {K : Frag} {v : Value} {name : Str} {expr : Bool} {Q : Value → Shared → Prop} (X : K.In s.heap) (I : InstAt s.heap x (accObj dx its n) 101 (some od))
    (hga : findIn K (.ref 101) "__getattribute__" = some (some (.builtin "list.__getattribute__"))) (hk : findIn K (.ref 101) "__getattr__" = some none) (hsub : mroIn K 101 (.type "list") = some true)
    (hf : findObj K 101 (some od) name = some (.value v)) (hh : handedIn v = true) (h : Q v { s with toks := s.toks + 1 }) : wpAny (model PG w) A (getAttr (.ref x) name expr) Q E s := by
  obtain ⟨hp, g, d, t, os⟩ := s
  have L0 := I.type (M := model PG w)
  have L1 := looks_findIn (M := model PG w) X hga
  have L2 := looks_findIn (M := model PG w) X hk
  have L3 := looks_find (M := model PG w) X I hf
  have LI : Looks (model PG w) hp (isInstance (.ref x) (.type "list")) true := L0.andThen (looks_mroIn X hsub)
  unfold getAttr getAttrBy
  refine wpAny_bind (wpAny_mkText (wpAny_holding (wpAny_bind (L0.at (wpAny_bind (L1.at ?_))))))
  show wpAny _ _ (getAttrByItsOwn (.ref x) (.str name t) (.ref 101) (.builtin "list.__getattribute__") true expr) _ _ _
  unfold getAttrByItsOwn hookBefore callGetattribute boundAndCalled
  refine wpAny_bind (m := typeLookup (.ref 101) "__getattr__") (L2.at ?_)
  have e1 : (expr && onTheHeap (.builtin "list.__getattribute__")) = false := by cases expr <;> rfl
  rw [e1, if_neg (by decide)]
  refine wpAny_bind (wpAny_attempt (wpAny_holding ?_))
  refine wpAny_bind (wpAny_of_eq (F.slot_list_getattribute.bind _) ?_)
  show wpAny _ _ (call (.builtin "list.__getattribute__") [.ref x, .str name t]) _ _ _
  refine wpAny_call (codeAny_call_builtin F.slot_list_getattribute.plain am_entry_list_getattribute (@check_slot (model PG w) _ _ ⟨hp, g, d, t + 1, os⟩ "list.__getattribute__" "list" "__getattribute__" (.ref x) [.str name t] [] _ (by decide +kernel) (by decide +kernel) LI (F.args_list_getattribute_2 _ _) ?_))
  unfold Builtin.«object.__getattribute__»
  refine wpAny_bind (wpAny_of_eq (show slotArgs "__getattribute__" 1 ⟨[.ref x, .str name t], []⟩ = pure (.ref x, [.str name t]) from rfl) ?_)
  refine wpAny_bind (wpAny_pure (wpAny_bind (L0.at (wpAny_bind (L3.at ?_)))))
  refine wpAny_pure ?_
  show wpAny _ _ (handedOut v) _ _ _
  rw [handedOut_of hh]; exact wpAny_pure h
end
end Mine
end
section
open PySem PySem.W PyProof.Rows PySem.Calls
set_option maxRecDepth 100000
namespace Mine
theorem slot_md : Slot "method_descriptor" "__get__" "method_descriptor.__get__" :=
  .of (owner := "method_descriptor") (n := "__get__") (by rw [typeLookup_type, builtinLookup_eq_fast]; kernel_rfl) (by decide +kernel) (by decide +kernel) (by decide +kernel)
    (by first | exact .inl (by decide +kernel) | exact .inr (by decide +kernel)) (by rw [isSubtype_type]; kernel_rfl)
theorem entry_md : entryFor table "method_descriptor.__get__" = some Builtin.«method_descriptor.__get__» := entryFor_of_tree (by kernel_rfl)
theorem args_md (a b c : Value) : argsOk "method_descriptor.__get__" ⟨[a, b, c], []⟩ := by unfold argsOk; kernel_rfl
theorem slot_wd : Slot "wrapper_descriptor" "__get__" "wrapper_descriptor.__get__" :=
  .of (owner := "wrapper_descriptor") (n := "__get__") (by rw [typeLookup_type, builtinLookup_eq_fast]; kernel_rfl) (by decide +kernel) (by decide +kernel) (by decide +kernel)
    (by first | exact .inl (by decide +kernel) | exact .inr (by decide +kernel)) (by rw [isSubtype_type]; kernel_rfl)
theorem entry_wd : entryFor table "wrapper_descriptor.__get__" = some Builtin.«wrapper_descriptor.__get__» := entryFor_of_tree (by kernel_rfl)
theorem args_wd (a b c : Value) : argsOk "wrapper_descriptor.__get__" ⟨[a, b, c], []⟩ := by unfold argsOk; kernel_rfl
theorem type_pop : typeOf (.builtin "list.pop") = pure (.type "method_descriptor") := by show builtinType _ = _; rw [builtinType_eq_fast]; kernel_rfl
theorem type_len : typeOf (.builtin "list.__len__") = pure (.type "wrapper_descriptor") := by show builtinType _ = _; rw [builtinType_eq_fast]; kernel_rfl
theorem type_init : typeOf (.builtin "list.__init__") = pure (.type "wrapper_descriptor") := by show builtinType _ = _; rw [builtinType_eq_fast]; kernel_rfl
theorem if_not' {b : Bool} {α : Type} {M : Model} {A : Around} {s : Shared} {Q : α → Shared → Prop} {E : Value → Shared → Prop} {x y : Sem α} (hb : b = true) (h : wpAny M A y Q E s) : wpAny M A (if (!b) = true then x else y) Q E s := by subst hb; exact h
section
variable {w : World} {A : Around} {E : Value → Shared → Prop} {x dx : Addr} {its : Array Value} {n : Nat} {od : Obj} {hp : Heap} {g : Array GenState} {d : Drawn} {t : Nat} {os : OsState}
theorem run_md {P : Fin → Shared → Prop} (hx : hp.get? x = some (accObj dx its n)) (LS : Looks (model PG w) hp (isSubtype (.ref 101) (.type "list")) true) (h : P (.done (.ret (.ref hp.objs.size))) ⟨hp.push { cls := .type "builtin_function_or_method", data := .fields #[.builtin "list.pop", .ref x] }, g, d, t, os⟩) :
    wpAny (model PG w) A (Builtin.«method_descriptor.__get__» ⟨[.builtin "list.pop", .ref x, .ref 101], []⟩) P E ⟨hp, g, d, t, os⟩ := by
  unfold Builtin.«method_descriptor.__get__»
  refine wpAny_bind (wpAny_of_eq (a := (.builtin "list.pop", some (.ref x), some (.ref 101))) rfl ?_)
  dsimp only
  rw [show Manifest.toldItsClass.contains "list.pop" = false by decide +kernel]
  repeat (first | (with_reducible refine wpAny_loadPart_at hx ?_) | wp_step)
  rw [show (".".intercalate ("list.pop".cutAt '.').dropLast) = "list" by decide +kernel]
  refine Looks.at LS ?_
  refine wpAny_pure ?_
  exact wpAny_bind (wpAny_newObj_type (wpAny_pure h))
theorem run_wd {id : String} {P : Fin → Shared → Prop} (hid : id = "list.__len__" ∨ id = "list.__init__") (hx : hp.get? x = some (accObj dx its n)) (LS : Looks (model PG w) hp (isSubtype (.ref 101) (.type "list")) true) (h : P (.done (.ret (.ref hp.objs.size))) ⟨hp.push { cls := .type "method-wrapper", data := .fields #[.builtin id, .ref x] }, g, d, t, os⟩) :
    wpAny (model PG w) A (Builtin.«wrapper_descriptor.__get__» ⟨[.builtin id, .ref x, .ref 101], []⟩) P E ⟨hp, g, d, t, os⟩ := by
  unfold Builtin.«wrapper_descriptor.__get__»
  refine wpAny_bind (wpAny_of_eq (a := (.builtin id, some (.ref x), some (.ref 101))) rfl ?_)
  dsimp only
  repeat (first | (with_reducible refine wpAny_loadPart_at hx ?_) | wp_step)
  rw [show (".".intercalate (id.cutAt '.').dropLast) = "list" by rcases hid with rfl | rfl <;> decide +kernel]
  refine Looks.at LS ?_
  refine wpAny_pure ?_
  exact wpAny_bind (wpAny_newObj_type (wpAny_pure h))
theorem super_ga {so : Addr} {K : Frag} {name : Str} {tk : Tok} {id T gid : String} {Bg : Builtin} {o : Obj} {Q : Fin → Shared → Prop} (S : Slot T "__get__" gid) (hT : typeOf (.builtin id) = pure (.type T)) (hent : entryFor table gid = some Bg) (hargs : argsOk gid ⟨[.builtin id, .ref x, .ref 101], []⟩)
    (run : ∀ {A : Around} {P : Fin → Shared → Prop} {E : Value → Shared → Prop}, P (.done (.ret (.ref hp.objs.size))) ⟨hp.push o, g, d, t, os⟩ → wpAny (model PG w) A (Bg ⟨[.builtin id, .ref x, .ref 101], []⟩) P E ⟨hp, g, d, t, os⟩)
    (hso : hp.get? so = some (ks_superObj 101 x 101)) (hno : Looks (model PG w) hp (opaqueClassAbove (.ref 101)) none)
    (hC : Looks (model PG w) hp (mroOf (.ref 101)) [.ref 101, .type "list", .type "object"]) (X : K.In hp)
    (hf : alongIn K name [.type "list", .type "object"] = some (some (.builtin id))) (hxC : x ≠ 101) (hn : (name == ("__class__" : Str)) = false)
    (hq : Q (.done (.ret (.ref hp.objs.size))) ⟨hp.push o, g, d, t, os⟩) :
    wpAny (model PG w) A (Builtin.«super.__getattribute__» ⟨[.ref so, .str name tk], []⟩) Q E ⟨hp, g, d, t, os⟩ := by
  have hlk := S.lookup
  have hne : (Value.ref x == Value.ref 101) = false := by simp [hxC]
  have hTy : (⟨hp, g, d, t, os⟩ : Shared).TypeIs (.builtin id) T := hT
  have hdt : (ks_superObj 101 x 101).data = .fields #[.ref 101, .ref x, .ref 101] := rfl
  have f0 : (#[.ref 101, .ref x, .ref 101] : Array Value)[0]? = some (.ref 101) := rfl
  have f1 : (#[.ref 101, .ref x, .ref 101] : Array Value)[1]? = some (.ref x) := rfl
  have f2 : (#[.ref 101, .ref x, .ref 101] : Array Value)[2]? = some (.ref 101) := rfl
  have hl : (([.ref 101, .type "list", .type "object"] : List Value).dropWhile (· != .ref 101)).drop 1 = [.type "list", .type "object"] := by decide
  unfold Builtin.«super.__getattribute__»
  repeat (first
    | (with_reducible refine wpAny_field hso hdt f0 ?_) | (with_reducible refine wpAny_field hso hdt f1 ?_) | (with_reducible refine wpAny_field hso hdt f2 ?_)
    | (with_reducible refine ks_wpAny_notOpaque hno ?_)
    | (with_reducible refine Looks.at hC ?_; rw [hl])
    | (refine ks_forIn_along X (fun _ _ => rfl) rfl ?_ hf)
    | (with_reducible refine wpAny_of_eq hT ?_)
    | (with_reducible refine wpAny_of_eq hlk ?_)
    | (with_reducible refine wpAny_call_entry S hTy hent (run ?_) hargs)
    | (with_reducible refine ⟨_, rfl, ?_⟩)
    | (simp only [hn, hne, Bool.or_false, Bool.false_eq_true, if_false])
    | wp_step
    | dsimp only)
  all_goals exact hq
theorem super_method {so : Addr} {K : Frag} {name : Str} {pl : Sem Bool} {id T gid : String} {Bg : Builtin} {o : Obj} {Q : Value × List Value → Shared → Prop} (S : Slot T "__get__" gid) (hT : typeOf (.builtin id) = pure (.type T)) (hent : entryFor table gid = some Bg) (hargs : argsOk gid ⟨[.builtin id, .ref x, .ref 101], []⟩)
    (run : ∀ {t : Nat} {A : Around} {P : Fin → Shared → Prop} {E : Value → Shared → Prop}, P (.done (.ret (.ref hp.objs.size))) ⟨hp.push o, g, d, t, os⟩ → wpAny (model PG w) A (Bg ⟨[.builtin id, .ref x, .ref 101], []⟩) P E ⟨hp, g, d, t, os⟩)
    (hso : hp.get? so = some (ks_superObj 101 x 101)) (hno : Looks (model PG w) hp (opaqueClassAbove (.ref 101)) none)
    (hC : Looks (model PG w) hp (mroOf (.ref 101)) [.ref 101, .type "list", .type "object"]) (X : K.In hp)
    (hf : alongIn K name [.type "list", .type "object"] = some (some (.builtin id))) (hxC : x ≠ 101) (hn : (name == ("__class__" : Str)) = false)
    (hq : Q (.ref hp.objs.size, []) ⟨hp.push o, g, d, t + 1, os⟩) :
    wpAny (model PG w) A (getMethod (.ref so) name pl) Q E ⟨hp, g, d, t, os⟩ := by
  have hlk := F.ks_slot_super_ga.lookup
  have hcan := F.ks_canon_super_ga
  have hTs : ∀ t', (⟨hp, g, d, t', os⟩ : Shared).TypeIs (.ref so) "super" := fun _ => ⟨_, hso, rfl⟩
  unfold getMethod
  refine wpAny_bind (wpAny_specialOf (hTs _) hlk ?_)
  show wpAny _ _ (if (Manifest.canonical "super.__getattribute__" != "object.__getattribute__") = true then _ else _) _ _ _
  rw [if_pos hcan]
  unfold getAttr getAttrBy
  refine wpAny_bind (wpAny_bind (wpAny_mkText (wpAny_holding (wpAny_bind (wpAny_typeOf (hTs _) (wpAny_bind (wpAny_of_eq hlk ?_)))))))
  show wpAny _ _ (getAttrByItsOwn (.ref so) (.str name t) (.type "super") (.builtin "super.__getattribute__") true false) _ _ _
  unfold getAttrByItsOwn hookBefore callGetattribute boundAndCalled
  refine wpAny_bind (wpAny_of_eq (show (if onTheHeap (.type "super") then typeLookup (.type "super") "__getattr__" else pure none) = pure none from rfl) ?_)
  refine wpAny_bind (wpAny_attempt (wpAny_holding ?_))
  show wpAny _ _ (bindSpecial (.builtin "super.__getattribute__") (.ref so) >>= _) _ _ _
  refine wpAny_bind (wpAny_of_eq (F.ks_slot_super_ga.bind _) ?_)
  refine wpAny_mono (Q := fun v s' => v = .ref hp.objs.size ∧ s' = ⟨hp.push o, g, d, t + 1, os⟩) (E := fun _ _ => False)
    (wpAny_call_entry F.ks_slot_super_ga (hTs _) F.ks_entry_super_ga (super_ga S hT hent hargs run hso hno hC X hf hxC hn ⟨_, rfl, rfl, rfl⟩) (F.ks_gaArgs_super _ _)) (fun v s' hv => ?_) fun _ _ z => z.elim
  obtain ⟨rfl, rfl⟩ := hv
  exact wpAny_pure (wpAny_pure hq)
/-- the call of a bound builtin -/
theorem bound_call {q : Addr} {id bt : String} {b : Builtin} {R : Result → Shared → Prop} (hbt : bt = "builtin_function_or_method" ∨ bt = "method-wrapper")
    (hq : hp.get? q = some { cls := .type bt, data := .fields #[.builtin id, .ref x] }) (hpl : plainId id = true) (hent : entryFor table id = some b)
    (hck : ∀ {A : Around} {P : Unit → Shared → Prop} {E : Value → Shared → Prop}, P () ⟨hp, g, d, t, os⟩ → wpAny (model PG w) A (checkBoundCall id ⟨[.ref x], []⟩) P E ⟨hp, g, d, t, os⟩)
    (h : wpAny (model PG w) A.in1 (b ⟨[.ref x], []⟩) (fun fin s' => match fin with | .done f => R (.ok f) s' | .again c' => c'.quiet = true ∧ codeAny (model PG w) A c' R s') (fun e s' => R (.error e) s') ⟨hp, g, d, t, os⟩) :
    codeAny (model PG w) A (.call (.ref q) ⟨[], []⟩) R ⟨hp, g, d, t, os⟩ := by
  refine codeAny_of_tree ?_
  show wpAny _ A.in1 (callAny (.ref q) ⟨[], []⟩) _ _ _
  unfold callAny
  refine wpAny_bind (wpAny_load hq ?_)
  have e1 : (Value.type bt == Value.type "method" || Value.type bt == .type "builtin_function_or_method" || Value.type bt == .type "method-wrapper") = true := by rcases hbt with rfl | rfl <;> decide
  have e2 : (Value.type bt != .type "method") = true := by rcases hbt with rfl | rfl <;> decide
  simp only [e1, e2, if_true]
  refine wpAny_bind (hck ?_)
  refine wpAny_pure ⟨plainId_quiet hpl _, codeAny_builtin hent ?_⟩
  rw [Around.under_plainId hpl _]
  exact h
theorem ck_len (x : Addr) : checkBoundCall "list.__len__" ⟨[.ref x], []⟩ = pure () := by kernel_rfl
theorem ck_init (x : Addr) : checkBoundCall "list.__init__" ⟨[.ref x], []⟩ = pure () := by kernel_rfl
theorem pop_sig_some : (Manifest.signature? "list.pop").isSome = true := by decide +kernel
theorem pop_sig (x : Addr) : Bind.checkArgs "list.pop" { (Manifest.signature? "list.pop").get pop_sig_some with full := "_Accumulator.pop" } ⟨[.ref x], []⟩ = pure () := by kernel_rfl
theorem ck_pop {P : Unit → Shared → Prop} (X : (hd.heap_39 w.params).In hp) (hx : hp.get? x = some (accObj dx its n)) (h : P () ⟨hp, g, d, t, os⟩) : wpAny (model PG w) A (checkBoundCall "list.pop" ⟨[.ref x], []⟩) P E ⟨hp, g, d, t, os⟩ := by
  have LM : Looks (model PG w) hp (isInstance (.ref x) (.type "module")) false := (accType hx).andThen (looks_mroIn X (by k_is))
  have LT : Looks (model PG w) hp (typeOf (.ref x)) (.ref 101) := accType hx
  have LC := looks_clsIn (M := model PG w) X (show clsIn (hd.heap_39 w.params) 101 = some _ by k_is)
  have LTT := looks_typeIn (M := model PG w) X (show typeIn (hd.heap_39 w.params) (.ref 101) = some _ by k_is)
  have hps := pop_sig
  generalize hg : (Manifest.signature? "list.pop").get pop_sig_some = sig at hps
  have hs : Manifest.signature? "list.pop" = some sig := by rw [← hg]; exact (Option.some_get _).symm
  unfold checkBoundCall
  rw [hs, show builtinKind "list.pop" = some .method by decide +kernel]
  dsimp only
  rw [if_neg (by decide)]
  refine wpAny_bind (LM.at ?_)
  rw [show (Manifest.varargsMethods.contains "list.pop" || false) = false by decide +kernel, if_neg (by decide)]
  refine wpAny_bind (ks_wpAny_isType_inst hx (by intro c e; cases e) ?_)
  rw [if_neg (by decide)]
  refine wpAny_bind (LT.at ?_)
  dsimp only
  refine wpAny_bind (LC.at (wpAny_bind (LTT.at ?_)))
  rw [if_pos (by decide), show (toString (Str.ofString "_Accumulator").toString ++ toString "." ++ toString (Bind.lastOf "list.pop")) = "_Accumulator.pop" by decide +kernel, hps]
  exact wpAny_pure h
end
end Mine
end
section
open PySem PySem.W PyProof.Rows PySem.Calls
set_option maxRecDepth 100000
namespace Mine
section
variable {w : World} {A : Around} {s : Shared}
theorem enterAt {K : Frag} {mg mb : Str → Option Value} {R : Result → Shared → Prop} {f : Addr} {oc : Value} {od : Option Addr} {osl : Array (Option Value)} {name qual : Str} {params : Arguments} {body : List Stmt} {scope : Scope} {cl : List (Str × Addr)} {dV kV doc pm cdv ct : Value} {an : Option Addr} {args : Args} {binds : List (Str × Value)}
    (X : K.In s.heap) (T : TRd mg mb s.heap) (hroom : A.depth < recursionLimit)
    (ho : K.lookup f = some ⟨oc, od, .func (fnX name qual params body scope cl dV kV doc pm an cdv ct), osl⟩) (hcd : codeIn K cdv qual = true)
    (hbind : BindsTo s (fnX name qual params body scope cl dV kV doc pm an cdv ct) args binds) (hloc : ∀ y ∈ binds, scope.names.lookup y.1 = some .local)
    (h : ∀ L h₁, Fr s.heap L h₁ (fun y => binds.reverse.lookup y) → News s.heap L h₁ [] → K.In s.heap → TRd mg mb s.heap →
      _root_.PySem.wpAt (model PG w) (A.deeper (envX qual scope L f cdv cl)) (.func body (envX qual scope L f cdv cl)) (execs body (envX qual scope L f cdv cl))
        (fun fl s' => R (.ok (.ret (match fl with | .ret v => v | _ => .none))) s') (fun _ _ => False) { s with heap := h₁, toks := s.toks + binds.length })
    (hcell : ∀ x ∈ scope.names, x.2 ≠ .cell) (hco : scope.isCoroutine = false := by rfl) (hgen : scope.isGenerator = false := by rfl) (hk : scope.kind = .function := by rfl) :
    codeAny (model PG w) A (.call (.ref f) args) R s := by
  refine ks_codeAny_call_defAt (fd := fnX name qual params body scope cl dV kV doc pm an cdv ct) (body := body) (binds := binds) hroom (X _ _ ho) rfl T.nolimit (codeRec_of X hcd) rfl hbind hcell hloc (fun h₁ hns hk₁ => ?_) hco hgen hk
  exact ks_wpAt_mono (h s.heap.objs.size h₁ ⟨hns, hk₁, Nat.le_refl _⟩ News.nil X T) (fun _ _ x => x) fun _ _ x => x.elim
theorem super_here {K : Frag} {h₀ : Heap} {L f cda x dx : Addr} {its : Array Value} {n : Nat} {m mg mb : Str → Option Value} {E : Value → Shared → Prop} {body : List Stmt} {q : Str} {scope : Scope} {p0 p1 : Pos} {attr : Str} {whole : Sem Value} {fd : FuncData} {ar : Arg} {vs : Array Value} {file : Str} {tf : Tok} {oc ccl cl : Value} {od cdd cld : Option Addr} {osl ccs csl : Array (Option Value)} {cdD : ClassData} {Q : Value → Shared → Prop}
    (F : Fr h₀ L s.heap m) (X₀ : K.In h₀) (T : TRd mg mb h₀)
    (hf : K.lookup f = some ⟨oc, od, .func fd, osl⟩) (hp : (fd.params.posonlyargs ++ fd.params.args).head? = some ar) (hv : m ar.arg = some (.ref x)) (hx : s.heap.get? x = some (accObj dx its n))
    (hcode : K.lookup cda = some ⟨ccl, cdd, .fields vs, ccs⟩) (hvs : vs[2]? = some (.str file tf)) (hfile : ((PG.main.file : Str) == file) = true)
    (hcell : K.lookup 25 = some ⟨cl, cld, .cell (some (.ref 101)), csl⟩) (hD : clsIn K 101 = some cdD) (hsub : mroIn K 101 (.ref 101) = some true) (hsuper : nsIn K mainGlobals "super" = some none)
    (hat : (attr == ("__class__" : Str)) = false) (hks : scope.names.lookup ("super" : Str) = some .globalImplicit) (hkc : scope.names.lookup ("__class__" : Str) = some .free) (hka : scope.names.lookup ar.arg = some .local) (hk : scope.kind = .function)
    (htop : (PG.main.scope.names.lookup ("super" : Str)).isSome = false) (hboot : bootBuiltins "super" = some (.type "super"))
    (h : ∀ h', Ext s.heap h' → h'.get? s.heap.objs.size = some (ks_superObj 101 x 101) → Q (.ref s.heap.objs.size) { s with heap := h' }) :
    _root_.PySem.wpAt (model PG w) A (.func body (envX q scope L f (.ref cda) [("__class__", 25)])) (attributeBase (.Call (.Name "super" p0) [] [] p1) attr (envX q scope L f (.ref cda) [("__class__", 25)]) whole) Q E s := by
  have X : K.In s.heap := X₀.keeps F.keep
  obtain ⟨hh, g, d, t, os⟩ := s
  obtain ⟨oD, hD1, hD2⟩ : ∃ oD, hh.get? 101 = some oD ∧ oD.data = .cls cdD := by
    unfold clsIn at hD
    split at hD
    · rename_i c d cd' sl ho
      cases hD
      exact ⟨_, X _ _ ho, rfl⟩
    · cases hD
  refine ks_wpAt_super_base (env := envX q scope L f (.ref cda) [("__class__", 25)]) hks hkc hat rfl (X _ _ hf) rfl hp rfl (X _ _ hcode) rfl hvs hfile htop ?_
  refine ks_loadName_global hk hks (loadGlobal_builtin (env := envX q scope L f (.ref cda) [("__class__", 25)]) (T.g.keeps F.keep) (mg_none_of X₀ T.g hsuper) (T.b.keeps F.keep) ((T.builtins _ (by decide +kernel)).trans hboot) ⟨rfl, ?_⟩)
  refine wpAny_loadName_free hk hkc rfl ⟨_, X _ _ hcell, rfl⟩ ?_
  refine wpAny_loadName_local hk hka F.ns hv ?_
  refine ks_wpAny_isType_cls hD1 hD2 ⟨rfl, ?_⟩
  exact ks_wpAny_call_super hD1 hD2 hx rfl (fun c e => by cases e) (looks_mroIn X hsub) (fun h' e k => h h' k e)
end
end Mine
end
section
open PySem PySem.W PyProof.Rows PySem.Calls
set_option maxRecDepth 100000
namespace Mine
section
variable {w : World} {A : Around} {s : Shared} {E : Value → Shared → Prop} {x dx I : Addr} {its : Array Value} {n i : Nat}
theorem acc_iter {Q : Value → Shared → Prop} (X : (hd.heap_39 w.params).In s.heap) (hx : s.heap.get? x = some (accObj dx its n))
    (h : Q (.ref s.heap.objs.size) { s with heap := s.heap.push { cls := .type "list_iterator", data := .fields #[.ref x, .int 0 0] } }) : wpAny (model PG w) A (pyIter (.ref x)) Q E s := by
  have LT := accType (M := model PG w) hx
  have L1 := looks_findIn (M := model PG w) X (show findIn (hd.heap_39 w.params) (.ref 101) "__iter__" = some (some (.builtin "list.__iter__")) by k_is)
  have LI : Looks (model PG w) s.heap (isInstance (.ref x) (.type "list")) true := accIs X hx
  obtain ⟨hp, g, d, t, os⟩ := s
  have fin : wpAny (model PG w) A (call (.builtin "list.__iter__") [.ref x] >>= fun v => pure (some v)) (fun r s' => r = some (.ref hp.objs.size) ∧ s' = ⟨hp.push { cls := .type "list_iterator", data := .fields #[.ref x, .int 0 0] }, g, d, t, os⟩) E ⟨hp, g, d, t, os⟩ := by
    refine wpAny_bind (wpAny_call (codeAny_call_builtin slot_list_iter.plain entry_list_iter (@check_slot (model PG w) _ _ ⟨hp, g, d, t, os⟩ "list.__iter__" "list" "__iter__" (.ref x) [] [] _ (by decide +kernel) (by decide +kernel) LI (args_list_iter _) ?_)))
    show wpAny _ _ (do ret (← newFields "list_iterator" [.ref x, rawInt 0])) _ _ _
    exact wpAny_bind (wpAny_newObj_type (wpAny_pure (wpAny_pure ⟨rfl, rfl⟩)))
  have one : ∀ refuse : Sem Value, wpAny (model PG w) A (callSpecialIfBoundUnlessNone? (.ref x) "__iter__" refuse) (fun r s' => r = some (.ref hp.objs.size) ∧ s' = ⟨hp.push { cls := .type "list_iterator", data := .fields #[.ref x, .int 0 0] }, g, d, t, os⟩) E ⟨hp, g, d, t, os⟩ := by
    intro refuse
    simp only [callSpecialIfBoundUnlessNone?, bindSpecialIfBound?]
    refine wpAny_holding (wpAny_bind (wpAny_bind (wpAny_bind (LT.at (L1.at ?_)))))
    simp only [slot_list_iter.bind]
    refine wpAny_bind (wpAny_askSetting (wpAny_ite ?_))
    have fin2 : wpAny (model PG w) A (if (Value.builtin "list.__iter__" == Value.none) = true then (refuse >>= fun v => pure (some v)) else (call (.builtin "list.__iter__") [.ref x] >>= fun v => pure (some v))) (fun r s' => r = some (.ref hp.objs.size) ∧ s' = ⟨hp.push { cls := .type "list_iterator", data := .fields #[.ref x, .int 0 0] }, g, d, t, os⟩) E ⟨hp, g, d, t, os⟩ := by
      rw [if_neg (by simp)]
      exact fin
    split
    · exact wpAny_bind (wpAny_pure (wpAny_pure (by exact fin2)))
    · exact wpAny_tryCatch (wpAny_bind (wpAny_pure (wpAny_pure (by exact fin2))))
  unfold pyIter
  refine wpAny_bind (wpAny_bind (LT.at (L1.at ?_)))
  show wpAny _ A (callSpecialIfBoundUnlessNone? (.ref x) "__iter__" _ >>= _) Q E _
  refine wpAny_bind (wpAny_mono (one _) (fun r s' hr => ?_) fun _ _ z => z)
  obtain ⟨rfl, rfl⟩ := hr
  exact wpAny_bind (wpAny_specialOf (T := "list_iterator") ⟨_, Heap.get?_push_size _ rfl, rfl⟩ slot_listiter_next.lookup (wpAny_pure h))
theorem acc_next {v : Value} {Q : Option Value → Shared → Prop} (hit : s.heap.IsListIter I x i) (hx : s.heap.get? x = some (accObj dx its n)) (hv : its[i]? = some v)
    (hQ : ∀ h', h'.IsListIter I x (i + 1) → Heap.SameBut I s.heap h' → Q (some v) { s with heap := h' }) :
    wpAny (model PG w) A (pyNext (.ref I)) Q E s := by
  obtain ⟨o, ho, hc, hd⟩ := id hit
  unfold pyNext
  refine wpAny_bind (wpAny_attempt (wpAny_callSpecial?_slot (name := Str.ofString "__next__") hit.typeIs slot_listiter_next
    (wpAny_call_entry slot_listiter_next hit.typeIs entry_listiter_next ?_ (args_listiter_next _))))
  show wpAny _ _ (field (.ref I) 0 >>= _) _ _ s
  refine wpAny_bind (wpAny_field ho hd (x := .ref x) rfl ?_)
  show wpAny _ _ (if (Value.ref x == Value.none) = true then _ else _) _ _ s
  rw [if_neg (show ¬ ((Value.ref x == Value.none) = true) from Bool.false_ne_true)]
  show wpAny _ _ (field (.ref I) 1 >>= _) _ _ s
  refine wpAny_bind (wpAny_field ho hd (x := .int i 0) rfl ?_)
  show wpAny _ _ (seqItems? (.ref x) >>= _) _ _ s
  refine wpAny_bind (wpAny_seqItems hx rfl ?_)
  simp only [Int.toNat_natCast, hv]
  refine wpAny_bind (wpAny_setField ho hd (by simp) (wpAny_pure ⟨v, rfl, wpAny_pure (hQ _ ?_ (Heap.SameBut.update ..))⟩))
  exact ⟨_, Heap.get?_update_self _ ho (Obj.isFreed_of_fields (Obj.data_mapFields hd _)), (Obj.cls_mapFields ..).trans hc, by
    rw [Obj.data_mapFields hd]; simp [rawInt]⟩
theorem acc_end {Q : Option Value → Shared → Prop} (hh : A.handled = none)
    (hit : s.heap.IsListIter I x i) (hx : s.heap.get? x = some (accObj dx its n)) (hv : its[i]? = none)
    (hQ : ∀ h', Heap.ExtBut I s.heap h' → Q none { s with heap := h' }) : wpAny (model PG w) A (pyNext (.ref I)) Q E s := by
  obtain ⟨o, ho, hc, hd⟩ := id hit
  unfold pyNext
  refine wpAny_bind (wpAny_attempt (wpAny_callSpecial?_slot (name := Str.ofString "__next__") hit.typeIs slot_listiter_next
    (wpAny_call_entry slot_listiter_next hit.typeIs entry_listiter_next ?_ (args_listiter_next _))))
  show wpAny _ _ (field (.ref I) 0 >>= _) _ _ s
  refine wpAny_bind (wpAny_field ho hd (x := .ref x) rfl ?_)
  show wpAny _ _ (if (Value.ref x == Value.none) = true then _ else _) _ _ s
  rw [if_neg (show ¬ ((Value.ref x == Value.none) = true) from Bool.false_ne_true)]
  show wpAny _ _ (field (.ref I) 1 >>= _) _ _ s
  refine wpAny_bind (wpAny_field ho hd (x := .int i 0) rfl ?_)
  show wpAny _ _ (seqItems? (.ref x) >>= _) _ _ s
  refine wpAny_bind (wpAny_seqItems hx rfl ?_)
  simp only [Int.toNat_natCast, hv]
  refine wpAny_bind (wpAny_rule (wpAny_bind (wpAny_setField ho hd (by simp) ?_)))
  show wpAny _ _ (newExc (.type "StopIteration") [] >>= _) _ _ _
  refine wpAny_bind ?_
  simp only [newExc, newTuple]
  refine wpAny_bind (wpAny_newObj_type ?_ (by size_fits))
  refine wpAny_bind (m := firstArgMember _ _) (wpAny_of_eq (a := Value.none) (by first | rfl | (simp only [firstArgMember]; rfl)) ?_)
  refine wpAny_newObj_type ?_ (by size_fits)
  simp only [raiseNew]
  refine wpAny_bind (wpAny_handled ?_)
  rw [show A.in1.handled = none from hh]
  refine wpAny_bind (wpAny_pure (wpAny_throw ?_))
  refine wpAny_bind (wpAny_isInstance (T := "StopIteration") (b := true) ⟨_, Heap.get?_push_size _ rfl, rfl⟩ isSubtype_stop ?_)
  exact wpAny_pure (hQ _ (((Heap.SameBut.update ..).extBut.push _).push _))
theorem iterAt {h h' : Heap} {l : Addr} {j : Nat} (x : h.IsListIter I l j) (k : ∀ o, h.get? I = some o → h'.get? I = some o) : h'.IsListIter I l j := let ⟨o, a, r⟩ := x; ⟨o, k o a, r⟩
/-- a walk over an accumulator of pairs, with unpacking -/
theorem accTuples (hh : A.handled = none) (hne : x ≠ I) (Ts : Nat → Addr) (vals : Nat → Array Value)
    (hit : ∀ j, j < its.size → its[j]? = some (.ref (Ts j))) (hTI : ∀ j, j < its.size → Ts j ≠ I) :
    WalksU PG w A I (I :: x :: (List.range its.size).map Ts) [I] its.size (fun j v => v = vals j)
      (fun j h => h.IsListIter I x j ∧ h.get? x = some (accObj dx its n) ∧ ∀ k, k < its.size → h.IsTuple (Ts k) (vals k))
      (fun j T h => (j < its.size ∧ T = Ts j) ∧ h.IsListIter I x (j + 1) ∧ h.get? x = some (accObj dx its n) ∧ ∀ k, k < its.size → h.IsTuple (Ts k) (vals k)) where
  sub := fun b hb => by simp at hb; simp [hb]
  frame := fun _ _ _ st hk => ⟨iterAt st.1 fun o e => hk I (by simp) o e, hk x (by simp) _ st.2.1,
    fun k hk' => (st.2.2 k hk').at fun o e => hk (Ts k) (List.mem_cons_of_mem _ (List.mem_cons_of_mem _ (List.mem_map.mpr ⟨k, List.mem_range.mpr hk', rfl⟩))) o e⟩
  item := fun i s Q E hi st hQ => by
    refine acc_next st.1 st.2.1 (v := .ref (Ts i)) (hit i hi) fun h' hit' hs' => ?_
    have tup : ∀ k, k < its.size → h'.IsTuple (Ts k) (vals k) := fun k hk' => (st.2.2 k hk').extBut hs'.extBut (hTI k hk')
    exact hQ (Ts i) (vals i) h' s.toks rfl (tup i hi) ⟨⟨hi, rfl⟩, hit', hs'.extBut _ _ hne st.2.1, tup⟩ fun b o hb e => hs'.extBut b o (fun h => hb (by simp [h])) e
  go := fun _ _ _ _ _ s Q _ hm hQ => wpAny_letOwnedTupleGo_listiter hm.2.1 (hQ s.heap hm.2 fun _ _ _ e => e)
  apart := fun j T _ hm hmem => by
    rcases List.mem_cons.mp hmem with e | e
    · exact hTI j hm.1.1 (hm.1.2 ▸ e)
    · cases e
  done := fun s Q E st hQ => acc_end hh st.1 st.2.1 (by simp) fun h' he' => hQ h' s.toks fun b o hb e => he' b o (fun h => hb (by simp [h])) e
  self := fun _ _ _ _ st hQ => wpAny_pyIter_listiter st.1 hQ
/-- a walk over an accumulator -/
theorem accWalk (hh : A.handled = none) (hne : x ≠ I) :
    Walks PG w A I [I, x] [I] its.size (fun j v => its[j]? = some v) (fun j h => h.IsListIter I x j ∧ h.get? x = some (accObj dx its n)) where
  sub := fun b hb => by simp at hb; simp [hb]
  frame := fun _ _ _ st hk => ⟨iterAt st.1 fun o e => hk I (by simp) o e, hk x (by simp) _ st.2⟩
  item := fun i s Q E hi st hQ => by
    refine acc_next st.1 st.2 (v := its[i]) (Array.getElem?_eq_getElem hi) fun h' hit' hs' => ?_
    exact hQ its[i] h' s.toks (Array.getElem?_eq_getElem hi) ⟨hit', hs'.extBut _ _ hne st.2⟩ fun b o hb e => hs'.extBut b o (fun h => hb (by simp [h])) e
  done := fun s Q E st hQ => acc_end hh st.1 st.2 (by simp) fun h' he' => hQ h' s.toks fun b o hb e => he' b o (fun h => hb (by simp [h])) e
  self := fun _ _ _ _ st hQ => wpAny_pyIter_listiter st.1 hQ
end
end Mine
end
section
open PySem PySem.W PyProof.Rows PySem.Calls
set_option maxRecDepth 100000
namespace Mine
section
variable {w : World} {A : Around} {s : Shared} {E : Value → Shared → Prop} {x dx I : Addr} {its : Array Value} {n i : Nat}
theorem mapSeq_acc (f : Array Value → Array Value) : ∃ n', Obj.mapSeq f (accObj dx its n) = accObj dx (f its) n' := by
  simp only [Obj.mapSeq]
  exact ⟨_, rfl⟩
theorem acc_update (f : Array Value → Array Value) {Q : Unit → Shared → Prop} (hx : s.heap.get? x = some (accObj dx its n)) (hsz : its.size ≤ sizeLine) (hsz' : (f its).size ≤ sizeLine + 1)
    (h : ∀ h' n', Heap.SameBut x s.heap h' → h'.get? x = some (accObj dx (f its) n') → Q () { s with heap := h' }) : wpAny (model PG w) A (updateSeq x f) Q E s := by
  obtain ⟨n', e⟩ := mapSeq_acc (dx := dx) (its := its) (n := n) f
  refine wpAny_updateSeq hx rfl (h _ n' (Heap.SameBut.update ..) ?_) hsz hsz'
  rw [Heap.get?_update_self _ hx (by rw [e]; rfl), e]
theorem acc_items {Q : Array Value → Shared → Prop} (hx : s.heap.get? x = some (accObj dx its n)) (h : Q its s) : wpAny (model PG w) A (Builtin.List.listItems (.ref x)) Q E s := by
  unfold Builtin.List.listItems
  exact wpAny_bind (wpAny_seqItems hx rfl (wpAny_pure h))
theorem acc_special {name : Str} {id : String} {args : List Value} {Q : Option Value → Shared → Prop} (X : (hd.heap_39 w.params).In s.heap) (hx : s.heap.get? x = some (accObj dx its n))
    (hs : findIn (hd.heap_39 w.params) (.ref 101) name = some (some (.builtin id))) (hb : ∀ v, bindSpecial (.builtin id) v = pure (.builtin id, [v]))
    (h : wpAny (model PG w) A (call (.builtin id) (.ref x :: args)) (fun v => Q (some v)) E s) : wpAny (model PG w) A (callSpecial? (.ref x) name args) Q E s := by
  unfold callSpecial? specialOf
  refine wpAny_bind (wpAny_bind ((accType hx).here ((looks_findIn X hs).here (wpAny_holding (wpAny_bind (wpAny_of_eq (hb _) (wpAny_bind (wpAny_mono h (fun v s' hv => wpAny_pure hv) fun _ _ z => z))))))))
theorem len_run {Q : Fin → Shared → Prop} (hx : s.heap.get? x = some (accObj dx its n)) (h : Q (.done (.ret (.int its.size s.toks))) { s with toks := s.toks + 1 }) : wpAny (model PG w) A (Builtin.«list.__len__» ⟨[.ref x], []⟩) Q E s := by
  show wpAny _ _ (do retInt (← seqSize x)) _ _ s
  unfold seqSize
  refine wpAny_bind (wpAny_bind (wpAny_load hx ?_))
  refine wpAny_pure (wpAny_bind (wpAny_mkInt (wpAny_pure h)))
theorem init_run {Q : Fin → Shared → Prop} (hx : s.heap.get? x = some (accObj dx its n)) (hsz : its.size ≤ sizeLine) (h : ∀ h' n', Heap.SameBut x s.heap h' → h'.get? x = some (accObj dx #[] n') → Q (.done (.ret .none)) { s with heap := h' }) : wpAny (model PG w) A (Builtin.«list.__init__» ⟨[.ref x], []⟩) Q E s := by
  show wpAny _ _ (Builtin.List.listItems (.ref x) >>= _) _ _ s
  refine wpAny_bind (acc_items hx ?_)
  show wpAny _ _ (updateSeq x (fun _ => #[]) >>= _) _ _ s
  refine wpAny_bind (acc_update (fun _ => #[]) hx hsz (by simp) fun h' n' hs hg => ?_)
  exact wpAny_bind (wpAny_letGo (wpAny_pure (h h' n' hs hg)))
theorem pop_run {y : Value} {Q : Fin → Shared → Prop} (hx : s.heap.get? x = some (accObj dx (its.push y) n)) (hsz : (its.push y).size ≤ sizeLine) (h : ∀ h' n', Heap.SameBut x s.heap h' → h'.get? x = some (accObj dx its n') → Q (.done (.ret y)) { s with heap := h' }) :
    wpAny (model PG w) A (Builtin.«list.pop» ⟨[.ref x], []⟩) Q E s := by
  show wpAny _ _ (Builtin.List.listItems (.ref x) >>= _) _ _ s
  refine wpAny_bind (acc_items hx ?_)
  have he : (its.push y).isEmpty = false := by simp
  rw [he, if_neg (by decide)]
  have hk : ((seqIndex? (-1) (its.push y).size).bind fun k => (its.push y)[k]?.map (k, ·)) = some (its.size, y) := by
    have e : seqIndex? (-1) (its.push y).size = some its.size := by
      simp only [seqIndex?, Array.size_push]
      rw [if_pos (by decide : (-1 : Int) < 0), if_pos (by first | (simp; omega) | (simp) | (rw [Bool.and_eq_true]; constructor <;> (rw [decide_eq_true_iff]; omega)))]
      congr 1; omega
    rw [e]; simp
  rw [hk]
  show wpAny _ _ (updateSeq x (·.eraseIdxIfInBounds its.size) >>= _) _ _ s
  have hf : (its.push y).eraseIdxIfInBounds its.size = its := by
    have e : its.push y = (its.toList ++ [y]).toArray := by rw [← List.push_toArray, Array.toArray_toList]
    rw [e, ← Array.length_toList, kl_erase, List.append_nil]
  refine wpAny_bind (acc_update (·.eraseIdxIfInBounds its.size) hx hsz (by rw [hf]; simp at hsz; omega) fun h' n' hs hg => ?_)
  rw [hf] at hg
  exact wpAny_pure (h h' n' hs hg)
end
end Mine
end
section
open PySem PySem.W PyProof.Rows PySem.Calls
set_option maxRecDepth 100000
namespace Mine
/-- no object of the text is an accumulator or a code's table -/
noncomputable def apartK (K : Frag) : Bool := K.all fun p => match p.2.cls, p.2.data with
  | .none, .fields _ => false
  | .ref 101, _ => false
  | _, _ => true
theorem apart_K (w : World) : apartK (hd.heap_39 w.params) = true := by kernel_rfl
/-- what may be laid aside: an accumulator, a table -/
noncomputable def Aside (o : Obj) : Prop := (∃ dx its n, o = accObj dx its n) ∨ (∃ ps, o = tabObj ps)
theorem Aside.noDict {o : Obj} (h : Aside o) {es : Array DictEntry} {n : Nat} : o.data ≠ .dict es n := by
  rcases h with ⟨_, _, _, rfl⟩ | ⟨_, rfl⟩ <;> intro e <;> cases e
theorem Aside.notK {w : World} {a : Addr} {o : Obj} (h : Aside o) : (hd.heap_39 w.params).lookup a ≠ some o := by
  intro e
  have h2 := List.all_eq_true.mp (apart_K w) (a, o) (mem_of_lookupK e)
  rcases h with ⟨_, _, _, rfl⟩ | ⟨_, rfl⟩ <;> exact absurd (show false = true from h2) Bool.false_ne_true
section
variable {w : World} {h : Heap} {as : List Addr}
theorem ns_hide {a : Addr} {m : Str → Option Value} (ha : ∀ x ∈ as, ∃ o, h.get? x = some o ∧ Aside o) (x : h.Ns a m) : (hideAll h as).Ns a m := by
  obtain ⟨o, es, ep, e, hd, r⟩ := x
  refine ⟨o, es, ep, hideAll_get _ e (fun hm => ?_), hd, r⟩
  obtain ⟨o', e', k⟩ := ha _ hm
  rw [e] at e'; cases e'
  exact k.noDict hd
theorem Cx.hide (C : Cx w h) (ha : ∀ x ∈ as, ∃ o, h.get? x = some o ∧ Aside o) : Cx w (hideAll h as) where
  K := fun a o e => hideAll_get _ (C.K a o e) fun hm => by
    obtain ⟨o', e', k⟩ := ha _ hm
    rw [C.K a o e] at e'; cases e'
    exact k.notK e
  T := by
    obtain ⟨mg, mb, T⟩ := C.T
    exact ⟨mg, mb, ns_hide ha T.g, ns_hide ha T.b, (let ⟨mc, a, r⟩ := T.nolimit; ⟨mc, ns_hide ha a, r⟩), T.builtins, T.free⟩
theorem rebF {B h h₁ : Heap} {L : Addr} {m : Str → Option Value} (F : Fr h L h₁ m) (k : Ext B h) (hs : B.objs.size ≤ h.objs.size) : Fr B L h₁ m := ⟨F.ns, fun b o e => F.keep b o (k b o e), Nat.le_trans hs F.above⟩
theorem rebN {B h h₁ : Heap} {L : Addr} {m : Str → Option Value} {news : List (Addr × Obj)} (F : Fr h L h₁ m) (hN : ∀ p ∈ news, h.get? p.1 = some p.2 ∧ B.get? p.1 = none) : News B L h₁ news :=
  fun p hp => ⟨F.keep _ _ (hN p hp).1, Nat.ne_of_lt (Nat.lt_of_lt_of_le (Heap.lt_size (hN p hp).1) F.above), (hN p hp).2⟩
theorem hideF {h h₁ : Heap} {L : Addr} {m : Str → Option Value} (as : List Addr) (F : Fr h L h₁ m) : Fr (hideAll h as) L h₁ m := rebF F (fun _ _ e => of_hideAll _ e) (Nat.le_of_eq (hideAll_size _ _))
theorem hideN {h h₁ : Heap} {L : Addr} {m : Str → Option Value} {as : List Addr} {news : List (Addr × Obj)} (F : Fr h L h₁ m) (hN : ∀ p ∈ news, h.get? p.1 = some p.2 ∧ p.1 ∈ as) : News (hideAll h as) L h₁ news :=
  rebN F fun p hp => ⟨(hN p hp).1, hideAll_none _ (hN p hp).2⟩
theorem hide_keep {h h' : Heap} {as : List Addr} {L : Addr} {m : Str → Option Value} (F : Fr (hideAll h as) L h' m) : ∀ b o, b ∉ as → h.get? b = some o → h'.get? b = some o := fun b o hb e => F.keep b o (hideAll_get _ e hb)
end
theorem new_of {h : Heap} {as : List Addr} {D : Addr} (hn : (hideAll h as).get? D = none) (hD : D ∉ as) : h.get? D = none := by
  cases e : h.get? D with
  | none => rfl
  | some o => rw [hideAll_get as e hD] at hn; cases hn
theorem apartC {h : Heap} {a b : Addr} {o o' : Obj} (ha : h.get? a = some o) (hb : h.get? b = some o') (hne : o.cls ≠ o'.cls) : a ≠ b := fun e => by
  rw [e, hb] at ha; cases ha; exact hne rfl
noncomputable abbrev pairObj (a : Str) (ta : Tok) (b : Str) (tb : Tok) (n : Nat) : Obj := { cls := .type "tuple", data := .seq #[.str a ta, .str b tb] n }
section
variable {w : World} {A : Around} {s : Shared} {Q E : Value → Shared → Prop} {x dx : Addr} {its : Array Value} {p : Int}
set_option maxHeartbeats 1000000
theorem acc_append_N {B : Heap} {L : Addr} {m : Str → Option Value} {news news' : List (Addr × Obj)} {n : Nat} {v : Value} {Q : Value → Shared → Prop} (F : Fr B L s.heap m) (N : News B L s.heap news) (X : (hd.heap_39 w.params).In B) (U : Upd x (accObj dx its n) (accObj dx (its.push v) (n + 1)) news news') (hsz : its.size ≤ sizeLine)
    (h : ∀ h', Fr B L h' m → News B L h' news' → Q .none { s with heap := h' }) : wpAny (model PG w) A (call (.builtin "list.append") [.ref x, v]) Q E s := by
  obtain ⟨pre, post, rfl, rfl, a, b⟩ := U.split
  have z := N (x, accObj dx its n) (List.mem_append.mpr (.inr (.head _)))
  exact acc_append (X.keeps F.keep) z.1 hsz fun h' hs ho' => h h' (F.change hs z.2.1 z.2.2) (news_set N a b hs ho')
theorem kwB11_1 : True := by (k_with_none; k_with "getMethod ref" => (k_dflt (refine' acc_method ?k1 ?k2 ?k3 ?k4 ?k5 ?k6 ?k7 ?k8 ?_; (case k1 => k_in); (case k2 => exact accInst (News.get (by k_asm) (by k_mem)) (Fr.keep (by k_asm) _ _ (by assumption))); (case k3 => k_is); (case k4 => k_is); (case k5 => k_is); (case k6 => k_is); (case k7 => decide); (case k8 => rfl)))); exact True.intro
theorem kwB11_2 : True := by (k_with "call builtin:list.append" => (k_dflt (refine' acc_append_N ?k1 ?k2 ?k3 ?k4 ?k5 ?_; (case k1 => k_asm); (case k2 => k_asm); (case k3 => k_asm); (case k4 => k_upd); (case k5 => assumption)); intro h' F' N'; (try k_sweep))); exact True.intro
theorem push_call {a b : Str} {ta tb : Tok} (C : Cx w s.heap) (H : AccAt w s.heap x dx its p) (hr : A.depth + 1 < recursionLimit) (hsz : its.size ≤ sizeLine)
    (h : ∀ T h' tk n n', Heap.ExtBut x s.heap h' → s.heap.get? T = none → h'.get? T = some (pairObj a ta b tb n) → h'.get? x = some (accObj dx (its.push (.ref T)) n') → Q .none { s with heap := h', toks := tk }) :
    wpAny (model PG w) A (call (.ref 45) [.ref x, .str a ta, .str b tb]) Q E s := by
  obtain ⟨⟨n, hx⟩, td, tp, nd, hdx⟩ := H
  have hne : dx ≠ x := fun e => by rw [e, hx] at hdx; cases hdx
  have C' := C.hide (as := [x]) (fun y hy => by rw [List.mem_singleton.mp hy]; exact ⟨_, hx, .inl ⟨_, _, _, rfl⟩⟩)
  have hdx' : (hideAll s.heap [x]).get? dx = some (sizeDict w td p tp nd) := hideAll_get _ hdx (by simpa using hne)
  obtain ⟨X, mg, mb, T⟩ := C
  refine wpAny_call ?_
  refine enterK (binds := [(Str.ofString "self", .ref x), (Str.ofString "fws", .str a ta), (Str.ofString "string", .str b tb)]) X T (by omega) (by k_is) (by k_is) (BindsTo.of_eq rfl) (locs rfl) ?_ (by decide)
  intro L h₁ F₀ N X' T'
  clear X T X' T' N
  have F := hideF [x] F₀
  have N : News (hideAll s.heap [x]) L h₁ [(x, accObj dx its n)] := hideN F₀ (by intro q hq; rw [List.mem_singleton.mp hq]; exact ⟨hx, .head _⟩)
  clear F₀
  obtain ⟨X, mg, mb, T⟩ := C'
  dsimp only
  k_steps
  rename Fr _ _ _ _ => Ff
  rename News _ _ _ _ => Nf
  have hk := hide_keep Ff
  refine h _ _ _ _ _ (fun b o hb e => hk b o (by simpa using hb) e) (new_of (Nf _ (.head _)).2.2 ?_) (Nf _ (.head _)).1 (Nf _ (.tail _ (.head _))).1
  simpa using apartC (Nf _ (.head _)).1 (Nf _ (.tail _ (.head _))).1 (by simp)
end
theorem kwB11_end : True := by k_with_none; exact True.intro
end Mine
end
section
open PySem PySem.W PyProof.Rows PySem.Calls
set_option maxRecDepth 100000
namespace Mine
noncomputable abbrev boundObj (bt id : String) (x : Addr) : Obj := { cls := .type bt, data := .fields #[.builtin id, .ref x] }
section
variable {w : World} {A : Around} {s : Shared} {Q E : Value → Shared → Prop} {x dx L q so : Addr} {its : Array Value} {n : Nat} {B : Heap} {m mg mb : Str → Option Value} {news news' : List (Addr × Obj)}
set_option maxHeartbeats 1000000
theorem bound_with {bt id : String} {pos : Pos} {env : Env} (hbt : bt = "builtin_function_or_method" ∨ bt = "method-wrapper") (N : News B L s.heap news) (hm : (q, boundObj bt id x) ∈ news) (h : wpAny (model PG w) A (call (.ref q) []) Q E s) :
    wpAny (model PG w) A (callWith pos (.ref q) [] (backTo pos (starEach [] env)) []) Q E s := by
  refine callWith_of (P := fun h => h.get? q = some (boundObj bt id x)) rfl (fun h e => ⟨.machine, .inr (.inl rfl), ?_⟩) (evalArgs_nil3 ⟨(N _ hm).1, h⟩)
  refine (Looks.ld (part := none) e).andThen ?_
  rcases hbt with rfl | rfl <;> exact .now
theorem super_N {K : Frag} {f cda : Addr} {body : List Stmt} {qn : Str} {scope : Scope} {p0 p1 : Pos} {attr : Str} {whole : Sem Value} {fd : FuncData} {ar : Arg} {vs : Array Value} {file : Str} {tf : Tok} {oc ccl cl : Value} {od cdd cld : Option Addr} {osl ccs csl : Array (Option Value)} {cdD : ClassData}
    (F : Fr B L s.heap m) (N : News B L s.heap news) (X₀ : K.In B) (T : TRd mg mb B)
    (hf : K.lookup f = some ⟨oc, od, .func fd, osl⟩) (hp : (fd.params.posonlyargs ++ fd.params.args).head? = some ar) (hv : m ar.arg = some (.ref x)) (hx : (x, accObj dx its n) ∈ news)
    (hcode : K.lookup cda = some ⟨ccl, cdd, .fields vs, ccs⟩) (hvs : vs[2]? = some (.str file tf)) (hfile : ((PG.main.file : Str) == file) = true)
    (hcell : K.lookup 25 = some ⟨cl, cld, .cell (some (.ref 101)), csl⟩) (hD : clsIn K 101 = some cdD) (hsub : mroIn K 101 (.ref 101) = some true) (hsuper : nsIn K mainGlobals "super" = some none)
    (hat : (attr == ("__class__" : Str)) = false) (hks : scope.names.lookup ("super" : Str) = some .globalImplicit) (hkc : scope.names.lookup ("__class__" : Str) = some .free) (hka : scope.names.lookup ar.arg = some .local) (hk : scope.kind = .function)
    (htop : (PG.main.scope.names.lookup ("super" : Str)).isSome = false) (hboot : bootBuiltins "super" = some (.type "super"))
    (h : ∀ so h', Fr B L h' m → News B L h' ((so, ks_superObj 101 x 101) :: news) → (∀ p ∈ news, p.1 < so) → Q (.ref so) { s with heap := h' }) :
    _root_.PySem.wpAt (model PG w) A (.func body (envX qn scope L f (.ref cda) [("__class__", 25)])) (attributeBase (.Call (.Name "super" p0) [] [] p1) attr (envX qn scope L f (.ref cda) [("__class__", 25)]) whole) Q E s := by
  refine super_here F X₀ T hf hp hv (N _ hx).1 hcode hvs hfile hcell hD hsub hsuper hat hks hkc hka hk htop hboot fun h' k e => ?_
  refine h _ h' (frE F k) (fun p hp => ?_) fun p hp => Heap.lt_size (N p hp).1
  rcases List.mem_cons.mp hp with rfl | hp
  · exact ⟨e, Nat.ne_of_gt F.ns.lt, next_is_new F⟩
  · exact ⟨k _ _ (N p hp).1, (N p hp).2⟩
theorem superm_N {name : Str} {pl : Sem Bool} {id T bt gid : String} {Bg : Builtin} {Q : Value × List Value → Shared → Prop} (F : Fr B L s.heap m) (N : News B L s.heap news) (X₀ : (hd.heap_39 w.params).In B)
    (hso : (so, ks_superObj 101 x 101) ∈ news) (hx : (x, accObj dx its n) ∈ news)
    (S : Slot T "__get__" gid) (hT : typeOf (.builtin id) = pure (.type T)) (hent : entryFor table gid = some Bg) (hargs : argsOk gid ⟨[.builtin id, .ref x, .ref 101], []⟩)
    (run : ∀ {hp : Heap} {g : Array GenState} {d : Drawn} {os : OsState} {t : Nat} {A : Around} {P : Fin → Shared → Prop} {E : Value → Shared → Prop}, hp.get? x = some (accObj dx its n) → Looks (model PG w) hp (isSubtype (.ref 101) (.type "list")) true → P (.done (.ret (.ref hp.objs.size))) ⟨hp.push (boundObj bt id x), g, d, t, os⟩ → wpAny (model PG w) A (Bg ⟨[.builtin id, .ref x, .ref 101], []⟩) P E ⟨hp, g, d, t, os⟩)
    (hf : alongIn (hd.heap_39 w.params) name [.type "list", .type "object"] = some (some (.builtin id))) (hn : (name == ("__class__" : Str)) = false)
    (hq : ∀ q h' tk, Fr B L h' m → News B L h' ((q, boundObj bt id x) :: news) → (∀ p ∈ news, p.1 < q) → Q (.ref q, []) { s with heap := h', toks := tk }) :
    wpAny (model PG w) A (getMethod (.ref so) name pl) Q E s := by
  obtain ⟨hp, g, d, t, os⟩ := s
  have X : (hd.heap_39 w.params).In hp := X₀.keeps F.keep
  have hxa := (N _ hx).1
  have hxC : x ≠ 101 := fun e => by
    have := X _ _ (show (hd.heap_39 w.params).lookup 101 = some _ by k_is)
    rw [← e] at this
    rw [show hp.get? x = some _ from hxa] at this
    cases this
  have LS : Looks (model PG w) hp (isSubtype (.ref 101) (.type "list")) true := looks_mroIn X (by k_is)
  have hC : Looks (model PG w) hp (mroOf (.ref 101)) [.ref 101, .type "list", .type "object"] := (looks_clsIn X (show clsIn (hd.heap_39 w.params) 101 = some _ by k_is)).andThen .now
  have hno : Looks (model PG w) hp (opaqueClassAbove (.ref 101)) none := looks_opaque X (by k_is)
  refine super_method (o := boundObj bt id x) S hT hent hargs (fun h => run hxa LS h) (N _ hso).1 hno hC X hf hxC hn ?_
  exact hq _ _ _ (F.push _) (N.push F _) fun p hp => Heap.lt_size (N p hp).1
end
end Mine
end
section
open PySem PySem.W PyProof.Rows PySem.Calls
set_option maxRecDepth 100000
namespace Mine
theorem along_len (w : World) : alongIn (hd.heap_39 w.params) "__len__" [.type "list", .type "object"] = some (some (.builtin "list.__len__")) := by kernel_rfl
theorem along_pop (w : World) : alongIn (hd.heap_39 w.params) "pop" [.type "list", .type "object"] = some (some (.builtin "list.pop")) := by kernel_rfl
theorem along_init (w : World) : alongIn (hd.heap_39 w.params) "__init__" [.type "list", .type "object"] = some (some (.builtin "list.__init__")) := by kernel_rfl
section
variable {w : World} {A : Around} {s : Shared} {Q E : Value → Shared → Prop} {x dx L q so : Addr} {its : Array Value} {n : Nat} {B : Heap} {m mg mb : Str → Option Value} {news news' : List (Addr × Obj)} {p : Int}
set_option maxHeartbeats 1000000
theorem blen_N (F : Fr B L s.heap m) (N : News B L s.heap news) (hq : (q, boundObj "method-wrapper" "list.__len__" x) ∈ news) (hx : (x, accObj dx its n) ∈ news)
    (h : ∀ t tk, Q (.int its.size t) { s with toks := tk }) : wpAny (model PG w) A (call (.ref q) []) Q E s := by
  obtain ⟨hp, g, d, t, os⟩ := s
  refine wpAny_call (bound_call (.inr rfl) (N _ hq).1 (by decide +kernel) (show entryFor table "list.__len__" = some Builtin.«list.__len__» from entryFor_of_tree (by kernel_rfl)) (fun h => by rw [ck_len]; exact wpAny_pure h) (len_run (N _ hx).1 ?_))
  exact h _ _
theorem bpop_N {y : Value} (F : Fr B L s.heap m) (N : News B L s.heap news) (X₀ : (hd.heap_39 w.params).In B) (hq : (q, boundObj "builtin_function_or_method" "list.pop" x) ∈ news) (U : UpdF x (accObj dx (its.push y) n) news g)
    (hsz : (its.push y).size ≤ sizeLine) (h : ∀ h' n', Fr B L h' m → News B L h' (g (accObj dx its n')) → Q y { s with heap := h' }) : wpAny (model PG w) A (call (.ref q) []) Q E s := by
  obtain ⟨hp, gs, d, t, os⟩ := s
  obtain ⟨pre, post, rfl, hg, a, b⟩ := U.split
  have z := N (x, accObj dx (its.push y) n) (List.mem_append.mpr (.inr (.head _)))
  refine wpAny_call (bound_call (.inl rfl) (N _ hq).1 (by decide +kernel) (show entryFor table "list.pop" = some Builtin.«list.pop» from entryFor_of_tree (by kernel_rfl)) (fun h => ck_pop (X₀.keeps F.keep) z.1 h) (pop_run z.1 hsz fun h' n' hs ho' => ?_))
  refine h h' n' (F.change hs z.2.1 z.2.2) ?_
  rw [hg]
  exact news_set N a b hs ho'
theorem binit_N (F : Fr B L s.heap m) (N : News B L s.heap news) (hq : (q, boundObj "method-wrapper" "list.__init__" x) ∈ news) (U : UpdF x (accObj dx its n) news g)
    (hsz : its.size ≤ sizeLine) (h : ∀ h' n', Fr B L h' m → News B L h' (g (accObj dx #[] n')) → Q .none { s with heap := h' }) : wpAny (model PG w) A (call (.ref q) []) Q E s := by
  obtain ⟨hp, gs, d, t, os⟩ := s
  obtain ⟨pre, post, rfl, hg, a, b⟩ := U.split
  have z := N (x, accObj dx its n) (List.mem_append.mpr (.inr (.head _)))
  refine wpAny_call (bound_call (.inr rfl) (N _ hq).1 (by decide +kernel) (show entryFor table "list.__init__" = some Builtin.«list.__init__» from entryFor_of_tree (by kernel_rfl)) (fun h => by rw [ck_init]; exact wpAny_pure h) (init_run z.1 hsz fun h' n' hs ho' => ?_))
  refine h h' n' (F.change hs z.2.1 z.2.2) ?_
  rw [hg]
  exact news_set N a b hs ho'
theorem kwB13_1 : True := by (k_with_none; k_with "wpAt" => (ks_step "attributeBase Call"; k_dflt (refine super_N (by k_asm) (by k_asm) (by k_asm) (by k_asm) (by k_is) (by rfl) (by rfl) (by k_mem) (by k_is) (by rfl) (by first | rfl | decide +kernel) (by k_is) (by k_is) (by k_is) (by k_is) (by decide) (by rfl) (by rfl) (by rfl) (by rfl) (by decide +kernel) (by first | boot_by_name | rfl | kernel_rfl) ?_; intro so' h' F' N' l1; (try k_lt l1)))); exact True.intro
theorem kwB13_2 : True := by (k_with "getMethod ref" => (k_dflt (refine' superm_N ?k1 ?k2 ?k3 ?k4 ?k5 slot_wd type_len entry_wd (args_wd _ _ _) (fun hx LS h => run_wd (.inl rfl) hx LS h) (along_len _) ?k7 ?_; (case k1 => k_asm); (case k2 => k_asm); (case k3 => k_asm); (case k4 => k_mem); (case k5 => k_mem); (case k7 => decide)); intro q' h' tk' F' N' l1; (try k_lt l1); (try k_sweep))); exact True.intro
theorem kwB13_3 : True := by (k_with "callWith ref" => (k_dflt (refine' bound_with (.inr rfl) ?k1 ?k2 ?_; (case k1 => k_asm); (case k2 => k_mem)))); exact True.intro
theorem kwB13_4 : True := by (k_with "call ref" => (k_dflt (refine' blen_N ?k1 ?k2 ?k3 ?k4 ?_; (case k1 => k_asm); (case k2 => k_asm); (case k3 => k_mem); (case k4 => k_mem)); intro t' tk')); exact True.intro
theorem part_count_call (C : Cx w s.heap) (H : AccAt w s.heap x dx its p) (hr : A.depth + 1 < recursionLimit) : Pure1 w A s (call (.ref 98) [.ref x]) (fun t => .int its.size t) := by
  intro Q E h
  obtain ⟨⟨n, hx⟩, td, tp, nd, hdx⟩ := H
  have C' := C.hide (as := [x]) (fun y hy => by rw [List.mem_singleton.mp hy]; exact ⟨_, hx, .inl ⟨_, _, _, rfl⟩⟩)
  obtain ⟨X, mg, mb, T⟩ := C
  refine wpAny_call ?_
  refine enterAt (binds := [(Str.ofString "self", .ref x)]) X T (by omega) (by k_is) (by k_is) (BindsTo.of_eq rfl) (locs rfl) ?_ (by decide)
  intro L h₁ F₀ N X' T'
  clear X T X' T' N
  have F := hideF [x] F₀
  have N : News (hideAll s.heap [x]) L h₁ [(x, accObj dx its n)] := hideN F₀ (by intro q hq; rw [List.mem_singleton.mp hq]; exact ⟨hx, .head _⟩)
  clear F₀
  obtain ⟨X, mg, mb, T⟩ := C'
  dsimp only
  k_steps
  try dsimp only
  rename Fr _ _ _ _ => Ff
  rename News _ _ _ _ => Nf
  have hk := hide_keep Ff
  have hxn := (Nf _ (.tail _ (.tail _ (.head _)))).1
  refine h _ _ _ fun b o e => ?_
  by_cases hb : b = x
  · subst hb; rw [hx] at e; cases e; exact hxn
  · exact hk b o (by simpa using hb) e
end
theorem kwB13_end : True := by k_with_none; exact True.intro
end Mine
end
section
open PySem PySem.W PyProof.Rows PySem.Calls
set_option maxRecDepth 100000
namespace Mine
section
variable {w : World} {A : Around} {s : Shared} {Q E : Value → Shared → Prop} {x dx L q so : Addr} {its : Array Value} {n : Nat} {B : Heap} {m mg mb : Str → Option Value} {news news' : List (Addr × Obj)} {p : Int}
set_option maxHeartbeats 1000000
theorem bpop_N' {y : Value} {g : Obj → List (Addr × Obj)} (F : Fr B L s.heap m) (N : News B L s.heap news) (X₀ : (hd.heap_39 w.params).In B) (hq : (q, boundObj "builtin_function_or_method" "list.pop" x) ∈ news) (U : UpdF x (accObj dx (its.push y) n) news g)
    (hsz : (its.push y).size ≤ sizeLine) (h : ∀ h' n', Fr B L h' m → News B L h' (g (accObj dx its n')) → Q y { s with heap := h' }) : wpAny (model PG w) A (call (.ref q) []) Q E s := bpop_N F N X₀ hq U hsz h
theorem pc_N (F : Fr B L s.heap m) (N : News B L s.heap news) (X₀ : (hd.heap_39 w.params).In B) (T : TRd mg mb B) (hx : (x, accObj dx its n) ∈ news) {td tp : Tok} {nd : Nat} (hdx : B.get? dx = some (sizeDict w td p tp nd)) (hr : A.depth + 1 < recursionLimit)
    (h : ∀ t h' tk, Fr B L h' m → News B L h' news → Q (.int its.size t) { s with heap := h', toks := tk }) : wpAny (model PG w) A (call (.ref 98) [.ref x]) Q E s :=
  useF (part_count_call (cxF F X₀ T) ⟨⟨n, (N _ hx).1⟩, td, tp, nd, F.keep _ _ hdx⟩ hr) F N h
theorem kwB14_1 : True := by (k_with_none; k_with "wpAt" => (ks_step "attributeBase Call"; k_dflt (refine super_N (by k_asm) (by k_asm) (by k_asm) (by k_asm) (by k_is) (by rfl) (by rfl) (by k_mem) (by k_is) (by rfl) (by first | rfl | decide +kernel) (by k_is) (by k_is) (by k_is) (by k_is) (by decide) (by rfl) (by rfl) (by rfl) (by rfl) (by decide +kernel) (by first | boot_by_name | rfl | kernel_rfl) ?_; intro so' h' F' N' l1; (try k_lt l1)))); exact True.intro
theorem kwB14_2 : True := by (k_with "getMethod ref" => (k_dflt (refine' superm_N ?k1 ?k2 ?k3 ?k4 ?k5 slot_md type_pop entry_md (args_md _ _ _) (fun hx LS h => run_md hx LS h) (along_pop _) ?k7 ?_; (case k1 => k_asm); (case k2 => k_asm); (case k3 => k_asm); (case k4 => k_mem); (case k5 => k_mem); (case k7 => decide)); intro q' h' tk' F' N' l1; (try k_lt l1); (try k_sweep))); exact True.intro
theorem kwB14_3 : True := by (k_with "getMethod ref" => (k_dflt (refine' acc_method ?k1 ?k2 ?k3 ?k4 ?k5 ?k6 ?k7 ?k8 ?_; (case k1 => k_in); (case k2 => exact accInst (News.get (by k_asm) (by k_mem)) (Fr.keep (by k_asm) _ _ (by assumption))); (case k3 => k_is); (case k4 => k_is); (case k5 => k_is); (case k6 => k_is); (case k7 => decide); (case k8 => rfl)))); exact True.intro
theorem kwB14_4 : True := by (k_with "callWith ref" => (k_dflt (refine' bound_with (.inl rfl) ?k1 ?k2 ?_; (case k1 => k_asm); (case k2 => k_mem)))); exact True.intro
theorem kwB14_5 : True := by (k_with "call ref" => (k_dflt (refine' bpop_N' ?k1 ?k2 ?k3 ?k4 ?k5 ?k6 ?_; (case k1 => k_asm); (case k2 => k_asm); (case k3 => k_asm); (case k4 => k_mem); (case k5 => k_updF); (case k6 => assumption)); intro h' n' F' N'; (try dsimp only at N'); (try k_sweep))); exact True.intro
theorem kwB14_6 : True := by (k_with "call ref" => ((try dsimp only [List.nil_append, List.cons_append, List.append_nil]); (with_reducible show wpAny _ _ (call (Value.ref 98) [Value.ref _]) _ _ _); k_dflt (refine' pc_N ?k1 ?k2 ?k3 ?k4 ?k5 ?k6 ?k7 ?_; (case k1 => k_asm); (case k2 => k_asm); (case k3 => k_asm); (case k4 => k_asm); (case k5 => k_mem); (case k6 => assumption); (case k7 => (simp only [depth_deeper]; omega))); intro t' h' tk' F' N'; (try k_sweep))); exact True.intro
theorem pop_empty (C : Cx w s.heap) (H : AccAt w s.heap x dx #[] p) (hr : A.depth + 2 < recursionLimit)
    (h : ∀ T h' tk n ta tb, Ext s.heap h' → s.heap.get? T = none → h'.get? T = some (pairObj (Str.ofString "") ta (Str.ofString "") tb n) → Q (.ref T) { s with heap := h', toks := tk }) :
    wpAny (model PG w) A (call (.ref 61) [.ref x]) Q E s := by
  obtain ⟨⟨n, hx⟩, td, tp, nd, hdx⟩ := H
  have hne : dx ≠ x := fun e => by rw [e, hx] at hdx; cases hdx
  have C' := C.hide (as := [x]) (fun y hy => by rw [List.mem_singleton.mp hy]; exact ⟨_, hx, .inl ⟨_, _, _, rfl⟩⟩)
  have hdx' : (hideAll s.heap [x]).get? dx = some (sizeDict w td p tp nd) := hideAll_get _ hdx (by simpa using hne)
  obtain ⟨X, mg, mb, T⟩ := C
  refine wpAny_call ?_
  refine enterAt (binds := [(Str.ofString "self", .ref x)]) X T (by omega) (by k_is) (by k_is) (BindsTo.of_eq rfl) (locs rfl) ?_ (by decide)
  intro L h₁ F₀ N X' T'
  clear X T X' T' N
  have F := hideF [x] F₀
  have N : News (hideAll s.heap [x]) L h₁ [(x, accObj dx #[] n)] := hideN F₀ (by intro q hq; rw [List.mem_singleton.mp hq]; exact ⟨hx, .head _⟩)
  clear F₀ hdx
  obtain ⟨X, mg, mb, T⟩ := C'
  dsimp only
  k_steps
  · try dsimp only
    rename Fr _ _ _ _ => Ff
    rename News _ _ _ _ => Nf
    have hk := hide_keep Ff
    have hxn := (Nf _ (.tail _ (.head _))).1
    refine h _ _ _ _ _ _ (fun b o e => ?_) (new_of (Nf _ (.head _)).2.2 ?_) (Nf _ (.head _)).1
    · by_cases hb : b = x
      · subst hb; rw [hx] at e; cases e; exact hxn
      · exact hk b o (by simpa using hb) e
    · simpa using apartC (Nf _ (.head _)).1 hxn (by simp)
theorem kwB14_7 : True := by (k_with "wpAt" => (dsimp only; ks_step "execs cons"; refine ks_wpAt_execs_cons ?_; refine ks_wpAt_Return_some ?_; refine Halt.go ?_)); exact True.intro
theorem pop_push {y : Value} (C : Cx w s.heap) (H : AccAt w s.heap x dx (its.push y) p) (hr : A.depth + 2 < recursionLimit) (hsz : (its.push y).size ≤ sizeLine)
    (h : ∀ h' tk n', Heap.ExtBut x s.heap h' → h'.get? x = some (accObj dx its n') → Q y { s with heap := h', toks := tk }) :
    wpAny (model PG w) A (call (.ref 61) [.ref x]) Q E s := by
  obtain ⟨⟨n, hx⟩, td, tp, nd, hdx⟩ := H
  have hne : dx ≠ x := fun e => by rw [e, hx] at hdx; cases hdx
  have C' := C.hide (as := [x]) (fun y hy => by rw [List.mem_singleton.mp hy]; exact ⟨_, hx, .inl ⟨_, _, _, rfl⟩⟩)
  have hdx' : (hideAll s.heap [x]).get? dx = some (sizeDict w td p tp nd) := hideAll_get _ hdx (by simpa using hne)
  have hs1 : ((its.push y).size : Int) ≠ 0 := by simp; omega
  obtain ⟨X, mg, mb, T⟩ := C
  refine wpAny_call ?_
  refine enterAt (binds := [(Str.ofString "self", .ref x)]) X T (by omega) (by k_is) (by k_is) (BindsTo.of_eq rfl) (locs rfl) ?_ (by decide)
  intro L h₁ F₀ N X' T'
  clear X T X' T' N
  have F := hideF [x] F₀
  have N : News (hideAll s.heap [x]) L h₁ [(x, accObj dx (its.push y) n)] := hideN F₀ (by intro q hq; rw [List.mem_singleton.mp hq]; exact ⟨hx, .head _⟩)
  clear F₀ hx hdx
  obtain ⟨X, mg, mb, T⟩ := C'
  dsimp only
  k_steps
  · exact absurd (by assumption) hs1
  · unfold Halt
    dsimp only
    refine ks_wpAt_MethodCall ?_
    k_steps
    dsimp only
    rename Fr _ _ _ _ => Ff
    rename News _ _ _ _ => Nf
    have hk := hide_keep Ff
    exact h _ _ _ (fun b o hb e => hk b o (by simpa using hb) e) (Nf _ (.tail _ (.tail _ (.head _)))).1
end
theorem kwB14_end : True := by k_with_none; exact True.intro
end Mine
end
section
open PySem PySem.W PyProof.Rows PySem.Calls
set_option maxRecDepth 100000
namespace Mine
theorem pick_all (its : Array Value) : slicePick its (some 0) none none = its := by
  have e : sliceBounds (some 0) none none its.size = (((0 : Nat) : Int), (its.size : Int), 1) := by
    have h0 : ¬ ((0 : Int) < 0) := by omega
    simp only [sliceBounds, Option.getD_none, h0, if_false, show (1 : Int) > 0 by decide, if_true]
    congr 1
  rw [kmk_pick_nat its e]
  simp only [List.drop_zero, Nat.sub_zero]
  rw [List.take_of_length_le (by simp), Array.toArray_toList]
section
variable {w : World} {A : Around} {s : Shared} {E : Value → Shared → Prop} {x dx : Addr} {its : Array Value} {n : Nat}
theorem acc_key {k : Value} {name : Str} {Q : Value → Shared → Prop} (X : (hd.heap_39 w.params).In s.heap) (hx : s.heap.get? x = some (accObj dx its n)) (h : Q k s) : wpAny (model PG w) A (sequenceKey (.ref x) k name) Q E s := by
  have LS : Looks (model PG w) s.heap (isSubtype (.ref 101) (.type "collections.deque")) false := looks_mroIn X (by k_is)
  unfold sequenceKey
  refine wpAny_bind ((accType hx).here ?_)
  dsimp only
  simp only [seqItemTypes, List.anyM]
  refine wpAny_bind (wpAny_bind (LS.here ?_))
  refine wpAny_pure ?_
  exact wpAny_pure h
theorem acc_call {id nm : String} {B : Builtin} {args : List Value} {Q : Value → Shared → Prop} (X : (hd.heap_39 w.params).In s.heap) (hx : s.heap.get? x = some (accObj dx its n)) (S : Slot "list" nm id) (hent : entryFor table id = some B)
    (ha : argsOk id ⟨.ref x :: args, []⟩) (hk : builtinKind id = some .slot) (hsp : splitId id = some ("list", nm))
    (h : wpAny (model PG w) A.in1 (B ⟨.ref x :: args, []⟩) (fun fin s' => ∃ v, fin = .done (.ret v) ∧ Q v s') E s) :
    wpAny (model PG w) A (call (.builtin id) (.ref x :: args)) Q E s := by
  obtain ⟨hp, g, d, t, os⟩ := s
  have LI : Looks (model PG w) hp (isInstance (.ref x) (.type "list")) true := accIs X hx
  refine wpAny_call (codeAny_call_builtin S.plain hent (@check_slot (model PG w) _ _ ⟨hp, g, d, t, os⟩ id "list" nm (.ref x) args [] _ hk hsp LI ha ?_))
  refine wpAny_mono h (fun fin s' h' => ?_) fun _ _ h' => h'
  obtain ⟨v, rfl, hv⟩ := h'
  exact hv
theorem acc_callM {id nm : String} {B : Builtin} {args : List Value} {Q : Value → Shared → Prop} (X : (hd.heap_39 w.params).In s.heap) (hx : s.heap.get? x = some (accObj dx its n)) (hpl : plainId id = true) (hent : entryFor table id = some B)
    (ha : argsOk id ⟨.ref x :: args, []⟩) (hk : builtinKind id = some .method) (hsp : splitId id = some ("list", nm))
    (h : wpAny (model PG w) A.in1 (B ⟨.ref x :: args, []⟩) (fun fin s' => ∃ v, fin = .done (.ret v) ∧ Q v s') E s) :
    wpAny (model PG w) A (call (.builtin id) (.ref x :: args)) Q E s := by
  obtain ⟨hp, g, d, t, os⟩ := s
  refine wpAny_call (codeAny_call_builtin hpl hent (check_meth (nm := nm) hk hsp (accIs X hx) ha ?_))
  refine wpAny_mono h (fun fin s' h' => ?_) fun _ _ h' => h'
  obtain ⟨v, rfl, hv⟩ := h'
  exact hv
theorem acc_getSlice {sl : Addr} {vl vu vs : Value} {lo hi st : Option Int} {Q : Value → Shared → Prop} (X : (hd.heap_39 w.params).In s.heap) (hx : s.heap.get? x = some (accObj dx its n))
    (hs : s.heap.IsSliceOf sl vl vu vs) (pl : IsPart vl lo) (pu : IsPart vu hi) (ps : IsPart vs st) (h0 : st ≠ some 0)
    (h : Q (.ref s.heap.objs.size) { s with heap := s.heap.push { cls := .type "list", data := .seq (slicePick its lo hi st) } })
    (hsz : its.size ≤ sizeLine := by size_fits) : wpAny (model PG w) A (getItem (.ref x) (.ref sl)) Q E s := by
  obtain ⟨os, hos, hcs, hds⟩ := id hs
  have hTs : s.TypeIs (.ref sl) "slice" := ⟨os, hos, hcs⟩
  unfold getItem
  try with_reducible refine wpAny_holding ?_
  refine wpAny_bind (acc_key X hx ?_)
  refine wpAny_bind (acc_special X hx (by k_is) slot_list_getitem.bind (acc_callM (nm := "__getitem__") X hx slot_list_getitem.plain entry_list_getitem (args_list_getitem _ _) (by decide +kernel) (by decide +kernel) ?_))
  show wpAny _ _ (Builtin.List.listSubscript? (.ref sl) >>= _) _ _ s
  refine wpAny_bind ?_
  · unfold Builtin.List.listSubscript?
    refine wpAny_bind (wpAny_specialOf hTs slice_no_index ?_)
    refine wpIf rfl (wpAny_pure ?_)
    show wpAny _ _ (typeOf (.ref sl) >>= _) _ _ s
    refine wpAny_bind (wpAny_typeOf hTs ?_)
    rw [if_neg (by decide)]
    rw [listSliceParts_eq]
    have hstep : ¬ ((rawPart st == rawInt 0) = true) := by
      cases st with
      | none => exact Bool.false_ne_true
      | some c =>
        intro hh
        have : c = 0 := by simpa [rawPart, rawInt] using hh
        exact h0 (by rw [this])
    refine wpAny_bind (wpAny_bind (wpAny_field hos hds (x := vs) rfl (wpAny_bind (wpAny_listPart ps ?_))))
    rw [if_neg hstep]
    refine wpAny_bind (wpAny_field hos hds (x := vl) rfl (wpAny_bind (wpAny_listPart pl ?_)))
    refine wpAny_bind (wpAny_field hos hds (x := vu) rfl (wpAny_bind (wpAny_listPart pu (wpAny_pure ?_))))
    refine wpAny_bind (m := Builtin.List.listItems (.ref x)) (acc_items hx ?_)
    refine wpAny_bind (wpAny_of_eq (sliceIndices_raw lo hi st its.size h0) ?_)
    exact wpAny_bind (wpAny_newObj_type (wpAny_pure ⟨_, rfl, wpAny_pure h⟩) (Nat.le_trans (slicePick_size_le its lo hi st) hsz))
theorem acc_setSlice {sl l : Addr} {t : Tok} {Q : Unit → Shared → Prop} (X : (hd.heap_39 w.params).In s.heap) (hx : s.heap.get? x = some (accObj dx its n))
    (hs : s.heap.IsSliceOf sl (.int 0 t) .none .none) (hl : s.heap.IsList l #[])
    (h : ∀ h' n', Heap.SameBut x s.heap h' → h'.get? x = some (accObj dx #[] n') → Q () { s with heap := h' })
    (hsz : its.size ≤ sizeLine := by size_fits) : wpAny (model PG w) A (setItem (.ref x) (.ref sl) (.ref l)) Q E s := by
  obtain ⟨os, hos, hcs, hds⟩ := id hs
  have hTs : s.TypeIs (.ref sl) "slice" := ⟨os, hos, hcs⟩
  obtain ⟨ol, hol, hcl, nl, hdl⟩ := id hl
  unfold setItem
  try with_reducible refine wpAny_holding ?_
  refine wpAny_bind (acc_key X hx ?_)
  refine wpAny_bind (acc_special X hx (by k_is) slot_list_setitem.bind (acc_call X hx slot_list_setitem entry_list_setitem (args_list_setitem _ _ _) (by decide +kernel) (by decide +kernel) ?_))
  show wpAny _ _ (Builtin.List.listSubscript? (.ref sl) >>= _) _ _ s
  refine wpAny_bind ?_
  · unfold Builtin.List.listSubscript?
    refine wpAny_bind (wpAny_specialOf hTs slice_no_index ?_)
    refine wpIf rfl (wpAny_pure ?_)
    show wpAny _ _ (typeOf (.ref sl) >>= _) _ _ s
    refine wpAny_bind (wpAny_typeOf hTs ?_)
    rw [if_neg (by decide)]
    rw [listSliceParts_eq]
    refine wpAny_bind (wpAny_bind (wpAny_field hos hds (x := .none) rfl (wpAny_bind (wpAny_listPart .none ?_))))
    rw [if_neg (show ¬ ((rawPart none == rawInt 0) = true) from Bool.false_ne_true)]
    refine wpAny_bind (wpAny_field hos hds (x := .int 0 t) rfl (wpAny_bind (wpAny_listPart (.int 0 t) ?_)))
    refine wpAny_bind (wpAny_field hos hds (x := .none) rfl (wpAny_bind (wpAny_listPart .none (wpAny_pure ?_))))
    have hxl : x ≠ l := apartC hx hol (by rw [hcl]; simp)
    have hsame : ¬ (Builtin.List.listSameRef (.ref x) (.ref l) = true) := by simp [Builtin.List.listSameRef, hxl]
    refine wpIfN hsame ?_
    refine wpAny_bind (m := Builtin.List.listAllItems _ _) ?_
    unfold Builtin.List.listAllItems
    refine wpAny_bind (wpAny_typeOf ⟨_, hol, hcl⟩ ?_)
    refine wpIf (by decide) ?_
    unfold Builtin.List.listItems
    refine wpAny_bind (wpAny_seqItems hol hdl (wpAny_pure ?_))
    refine wpAny_bind (wpAny_bind (wpAny_seqItems hx rfl (wpAny_pure ?_)))
    refine wpAny_bind (wpAny_of_eq (sliceIndices_raw (some 0) none none its.size (by simp)) ?_)
    have e : sliceBounds (some 0) none none its.size = ((0 : Int), (its.size : Int), 1) := by
      have h0 : ¬ ((0 : Int) < 0) := by omega
      simp only [sliceBounds, Option.getD_none, h0, if_false, show (1 : Int) > 0 by decide, if_true]
      congr 1
    rw [e]
    refine wpIf (by decide) ?_
    refine wpAny_bind (wpAny_rule ?_)
    refine wpIfN (by simp [Builtin.List.listTooLong]; omega) ?_
    refine wpAny_bind ?_
    show wpAny _ _ (updateSeq x _) _ _ _
    have hf : (its.extract 0 (0 : Int).toNat ++ #[] ++ its.extract (max (0 : Int) (its.size : Int)).toNat its.size) = #[] := by
      have : (max (0 : Int) (its.size : Int)).toNat = its.size := by rw [Int.max_eq_right (Int.natCast_nonneg _)]; rfl
      rw [this]; simp
    refine acc_update (fun xs => xs.extract 0 (0 : Int).toNat ++ #[] ++ xs.extract (max (0 : Int) (its.size : Int)).toNat xs.size) hx hsz (by rw [hf]; simp) fun h' n' hs' hg' => ?_
    rw [hf] at hg'
    exact wpAny_bind (wpAny_letGo (wpAny_pure ⟨_, rfl, wpAny_pure (h h' n' hs' hg')⟩))
end
end Mine
end
section
open PySem PySem.W PyProof.Rows PySem.Calls
set_option maxRecDepth 100000
namespace Mine
section
variable {w : World} {A : Around} {s : Shared} {Q E : Value → Shared → Prop} {x dx L q so : Addr} {its : Array Value} {n : Nat} {B : Heap} {m mg mb : Str → Option Value} {news news' : List (Addr × Obj)} {p : Int}
set_option maxHeartbeats 1000000
noncomputable abbrev sliceObj (v : Value) : Obj := { cls := .type "slice", data := .fields #[v, .none, .none] }
theorem popSlice_N {hp : Heap} {g : Array GenState} {d : Drawn} {tk : Nat} {os : OsState} {t : Tok} {value lower : Expr} {p : Pos} (F : Fr B L hp m) (N : News B L hp news) (X₀ : (hd.heap_39 w.params).In B) (hx : (x, accObj dx its n) ∈ news) (hsz : its.size ≤ sizeLine)
    (h : ∀ D h', Fr B L h' m → News B L h' ((D, { cls := .type "list", data := .seq its }) :: news) → (∀ p ∈ news, p.1 < D) → Q (.ref D) ⟨h', g, d, tk, os⟩) :
    wpAny (model PG w) A (subscriptTail value (.Slice (some lower) none none p) (.ref x) (.ref hp.objs.size)) Q E ⟨hp.push (sliceObj (.int 0 t)), g, d, tk, os⟩ := by
  have X : (hd.heap_39 w.params).In (hp.push (sliceObj (.int 0 t))) := X₀.keeps (F.push _).keep
  have hx' : (hp.push (sliceObj (.int 0 t))).get? x = some (accObj dx its n) := Heap.get?_push_of_some _ (N _ hx).1
  have L1 := looks_findIn (M := model PG w) X (show findIn (hd.heap_39 w.params) (.ref 101) "__getitem__" = some (some (.builtin "list.__getitem__")) by k_is)
  unfold subscriptTail
  refine wpAny_bind ?_
  unfold getitemInPython specialOf
  refine wpAny_bind (wpAny_bind ((accType hx').at (L1.at ?_)))
  refine wpAny_pure (wpAny_bind ?_)
  show wpAny _ _ (operate [.ref hp.objs.size, .ref x] (getItem (.ref x) (.ref hp.objs.size))) _ _ _
  refine wpAny_operating (acc_getSlice X hx' (Heap.IsSliceOf.new ..) (.int 0 t) .none .none (by simp) ?_ hsz)
  rw [pick_all]
  refine wpAny_bind (wpAny_letTemporaryGo (wpAny_pure ?_))
  refine h _ _ ((F.push _).push _) ((N.pushKeep _).push (F.push _) _) fun p hp => ?_
  exact Nat.lt_of_lt_of_le (Heap.lt_size (N p hp).1) (by simp only [Heap.size_push]; omega)
theorem setSlice_N {hp : Heap} {g : Array GenState} {d : Drawn} {tk : Nat} {os : OsState} {t : Tok} {l : Addr} {Q : Unit → Shared → Prop} {gn : Obj → List (Addr × Obj)} {ol : Obj} (F : Fr B L hp m) (N : News B L hp news) (X₀ : (hd.heap_39 w.params).In B) (U : UpdF x (accObj dx its n) news gn) (hl : (l, ol) ∈ news) (hol : ∃ k, ol = { cls := .type "list", data := .seq #[] k }) (hsz : its.size ≤ sizeLine)
    (h : ∀ h' n', Fr B L h' m → News B L h' (gn (accObj dx #[] n')) → Q () ⟨h', g, d, tk, os⟩) :
    wpAny (model PG w) A (setItem (.ref x) (.ref hp.objs.size) (.ref l)) Q E ⟨hp.push (sliceObj (.int 0 t)), g, d, tk, os⟩ := by
  have X : (hd.heap_39 w.params).In (hp.push (sliceObj (.int 0 t))) := X₀.keeps (F.push _).keep
  obtain ⟨pre, post, rfl, hg, a, b⟩ := U.split
  have z := N (x, accObj dx its n) (List.mem_append.mpr (.inr (.head _)))
  obtain ⟨k, rfl⟩ := hol
  have hl' : (hp.push (sliceObj (.int 0 t))).IsList l #[] := ⟨_, Heap.get?_push_of_some _ (N _ hl).1, rfl, k, rfl⟩
  refine acc_setSlice X (Heap.get?_push_of_some _ z.1) (Heap.IsSliceOf.new ..) hl' (fun h' n' hs ho' => ?_) hsz
  refine h h' n' ((F.push _).change hs z.2.1 z.2.2) ?_
  rw [hg]
  exact news_set (N.pushKeep _) a b hs ho'
theorem kwB16_1 : True := by (k_with_none; k_with "subscriptTail" => (k_dflt (refine' popSlice_N ?k1 ?k2 ?k3 ?k4 ?k5 ?_; (case k1 => k_asm); (case k2 => k_asm); (case k3 => k_asm); (case k4 => k_mem); (case k5 => assumption)); intro D' h' F' N' l1; (try k_lt l1))); exact True.intro
theorem kwB16_2 : True := by (k_with "setItem" => (k_dflt (refine' setSlice_N ?k1 ?k2 ?k3 ?k4 ?k5 ?k6 ?k7 ?_; (case k1 => k_asm); (case k2 => k_asm); (case k3 => k_asm); (case k4 => k_updF); (case k5 => k_mem); (case k6 => exact ⟨_, rfl⟩); (case k7 => assumption)); intro h' n' F' N'; (try dsimp only at N'))); exact True.intro
theorem pop_from_call {t : Tok} (C : Cx w s.heap) (H : AccAt w s.heap x dx its p) (hr : A.depth + 2 < recursionLimit) (hsz : its.size ≤ sizeLine)
    (h : ∀ D h' tk n', Heap.ExtBut x s.heap h' → h'.get? x = some (accObj dx #[] n') → Q (.ref D) { s with heap := h', toks := tk }) :
    wpAny (model PG w) A (call (.ref 53) [.ref x, .int 0 t]) Q E s := by
  obtain ⟨⟨n, hx⟩, td, tp, nd, hdx⟩ := H
  have hne : dx ≠ x := fun e => by rw [e, hx] at hdx; cases hdx
  have C' := C.hide (as := [x]) (fun y hy => by rw [List.mem_singleton.mp hy]; exact ⟨_, hx, .inl ⟨_, _, _, rfl⟩⟩)
  have hdx' : (hideAll s.heap [x]).get? dx = some (sizeDict w td p tp nd) := hideAll_get _ hdx (by simpa using hne)
  obtain ⟨X, mg, mb, T⟩ := C
  refine wpAny_call ?_
  refine enterK (binds := [(Str.ofString "self", .ref x), (Str.ofString "i", .int 0 t)]) X T (by omega) (by k_is) (by k_is) (kp_binds X fun _ => by rfl) (locs rfl) ?_ (by decide)
  intro L h₁ F₀ N X' T'
  clear X T X' T' N
  have F := hideF [x] F₀
  have N : News (hideAll s.heap [x]) L h₁ [(x, accObj dx its n)] := hideN F₀ (by intro q hq; rw [List.mem_singleton.mp hq]; exact ⟨hx, .head _⟩)
  clear F₀ hx hdx
  obtain ⟨X, mg, mb, T⟩ := C'
  dsimp only
  k_steps
  dsimp only
  rename Fr _ _ _ _ => Ff
  rename News _ _ _ _ => Nf
  have hk := hide_keep Ff
  exact h _ _ _ _ (fun b o hb e => hk b o (by simpa using hb) e) (Nf _ (.tail _ (.tail _ (.head _)))).1
theorem pop_from_dflt (C : Cx w s.heap) (H : AccAt w s.heap x dx its p) (hr : A.depth + 2 < recursionLimit) (hsz : its.size ≤ sizeLine)
    (h : ∀ D h' tk n', Heap.ExtBut x s.heap h' → h'.get? x = some (accObj dx #[] n') → Q (.ref D) { s with heap := h', toks := tk }) :
    wpAny (model PG w) A (call (.ref 53) [.ref x]) Q E s := by
  obtain ⟨⟨n, hx⟩, td, tp, nd, hdx⟩ := H
  have hne : dx ≠ x := fun e => by rw [e, hx] at hdx; cases hdx
  have C' := C.hide (as := [x]) (fun y hy => by rw [List.mem_singleton.mp hy]; exact ⟨_, hx, .inl ⟨_, _, _, rfl⟩⟩)
  have hdx' : (hideAll s.heap [x]).get? dx = some (sizeDict w td p tp nd) := hideAll_get _ hdx (by simpa using hne)
  obtain ⟨X, mg, mb, T⟩ := C
  refine wpAny_call ?_
  refine enterK (binds := [(Str.ofString "self", .ref x), (Str.ofString "i", .int 0 _)]) X T (by omega) (by k_is) (by k_is) (kp_binds X fun _ => by rfl) (locs rfl) ?_ (by decide)
  intro L h₁ F₀ N X' T'
  clear X T X' T' N
  have F := hideF [x] F₀
  have N : News (hideAll s.heap [x]) L h₁ [(x, accObj dx its n)] := hideN F₀ (by intro q hq; rw [List.mem_singleton.mp hq]; exact ⟨hx, .head _⟩)
  clear F₀ hx hdx
  obtain ⟨X, mg, mb, T⟩ := C'
  dsimp only
  k_steps
  dsimp only
  rename Fr _ _ _ _ => Ff
  rename News _ _ _ _ => Nf
  have hk := hide_keep Ff
  exact h _ _ _ _ (fun b o hb e => hk b o (by simpa using hb) e) (Nf _ (.tail _ (.tail _ (.head _)))).1
end
theorem kwB16_end : True := by k_with_none; exact True.intro
end Mine
end
section
open PySem PySem.W PyProof.Rows PySem.Calls Builtin Builtin.ObjectAttr Builtin.Getset_descriptor
set_option maxRecDepth 100000
namespace Mine
noncomputable def makesL (K : Frag) : Bool := match K.lookup 101 with
  | some ⟨_, _, .cls cd, sl⟩ => !cd.abstract && !cd.hasDel && (sl.toList[4]?).join == some (.builtin "list.__new__") && cd.mro == [.ref 101, .type "list", .type "object"] &&
      specialIn K (.ref 101) "__call__" == some (some (.builtin "type.__call__")) && instIn K (.ref 101) (.type "type") == some true
  | _ => false
theorem makesL_K (w : World) : makesL (hd.heap_39 w.params) = true := by kernel_rfl
theorem kind_ln : builtinKind "list.__new__" = some .builtinFn := by decide +kernel
theorem split_ln : splitId "list.__new__" = some ("list", "__new__") := by decide +kernel
theorem sig_ln : (Manifest.signature? "list.__new__").isSome = true := by decide +kernel
theorem sig_lnc (rest : List Value) : Bind.checkArgs "list.__new__" ((Manifest.signature? "list.__new__").get sig_ln) ⟨.ref 101 :: rest, []⟩ = pure () := by kernel_rfl
structure MakesL (M : Model) (h : Heap) : Prop where
  obj : ∃ oc od cd sl, h.get? 101 = some ⟨oc, od, .cls cd, sl⟩ ∧ cd.abstract = false ∧ cd.hasDel = false ∧ cd.mro.isEmpty = false
  made : Looks M h (Bind.madeBy (.ref 101)) (some "list.__new__")
  base : Looks M h (Bind.staticBase (.ref 101)) (.ref 101)
  self : Looks M h (isSubtype (.ref 101) (.ref 101)) true
  lst : Looks M h (isSubtype (.ref 101) (.type "list")) true
  call : Looks M h (specialOf (.ref 101) "__call__") (some (.builtin "type.__call__"))
  typ : Looks M h (isInstance (.ref 101) (.type "type")) true
theorem makesL_of {w : World} {M : Model} {h : Heap} (X : (hd.heap_39 w.params).In h) : MakesL M h := by
  have e := makesL_K w
  unfold makesL at e
  split at e
  · rename_i oc od cd sl ho
    simp only [Bool.and_eq_true, Bool.not_eq_true', beq_iff_eq] at e
    obtain ⟨⟨⟨⟨⟨e1, e2⟩, e3⟩, e4⟩, e7⟩, e8⟩ := e
    have hc : clsIn (hd.heap_39 w.params) 101 = some cd := by unfold clsIn; rw [ho]
    have hm : Looks M h (mroOf (.ref 101)) cd.mro := (looks_clsIn X hc).andThen .now
    have made : Looks M h (Bind.madeBy (.ref 101)) (some "list.__new__") := by
      intro A Q E s k q
      unfold Bind.madeBy
      refine wpAny_bind (hm A _ E s k ?_)
      rw [e4, List.forIn_cons]
      refine wpAny_bind (wpAny_bind (wpAny_bind (wpAny_bind (wpAny_loadPart (k _ _ (X _ _ ho)) (wpAny_pure ?_)))))
      dsimp only
      rw [← Array.getElem?_toList, e3]
      exact wpAny_pure (wpAny_pure (wpAny_pure q))
    refine ⟨⟨oc, od, cd, sl, X _ _ ho, e1, e2, by rw [e4]; rfl⟩, made, ?_, looks_mroIn X (by k_is), looks_mroIn X (by k_is), looks_specialIn X e7, looks_instIn X e8⟩
    · intro A Q E s k q
      unfold Bind.staticBase
      refine wpAny_bind (hm A _ E s k ?_)
      rw [e4, List.forIn_cons]
      exact wpAny_bind (wpAny_bind (wpAny_bind (made A _ E s k (wpAny_pure (wpAny_pure (wpAny_pure q))))))
  · cases e
section
variable {w : World} {A : Around} {R : Result → Shared → Prop} {h : Heap} {g : Array GenState} {d : Drawn} {t : Nat} {os : OsState}
theorem new_L {rest : List Value} (Y : MakesL (model PG w) h)
    (hq : R (.ok (.ret (.ref (h.objs.size + 1)))) ⟨(h.push emptyDict).push (accObj h.objs.size #[] 0), g, d, t, os⟩) :
    codeAny (model PG w) A (.call (.builtin "list.__new__") ⟨.ref 101 :: rest, []⟩) R ⟨h, g, d, t, os⟩ := by
  obtain ⟨⟨oc, od, cd, sl, hC, e1, e2, e4⟩, made, base, self, lst, call, typ⟩ := Y
  have hps := sig_lnc rest
  generalize hg : (Manifest.signature? "list.__new__").get sig_ln = sig at hps
  have hsg : Manifest.signature? "list.__new__" = some sig := by rw [← hg]; exact (Option.some_get _).symm
  have ity : Looks (model PG w) h (isType (.ref 101)) true := by
    refine (Looks.ld (part := none) hC).andThen ?_
    exact .now
  refine codeAny_of_tree ?_
  show wpAny _ A.in1 (do checkBuiltinCall "list.__new__" ⟨.ref 101 :: rest, []⟩; again (.builtin "list.__new__" ⟨.ref 101 :: rest, []⟩)) _ _ _
  refine wpAny_bind ?_
  simp only [checkBuiltinCall, kind_ln, split_ln, hsg, hps]
  repeat (first | simp only [bne_self_eq_false, Bool.false_eq_true, if_false] | lk)
  refine ⟨plainId_quiet F.plain_list_new _, codeAny_builtin_stack F.entry_list_new rfl fun p st => ?_⟩
  rw [Around.under_plainId F.plain_list_new _]
  simp only [owner_list_new]
  have hC' := Heap.get?_push_of_some (accObj h.objs.size #[] 0) (Heap.get?_push_of_some emptyDict hC)
  repeat (first | simp only [bne_self_eq_false, Bool.false_eq_true, if_false, Bool.not_true] | lk)
  rw [e2]
  simp only [Bool.false_eq_true, if_false]
  refine wpAny_pure (wpAny_pure ?_)
  show R _ _
  rw [Heap.size_push]
  exact hq
theorem make_L {rest : List Value} (X : (hd.heap_39 w.params).In h)
    (hq : codeAny (model PG w) (A.under (.builtin "type.__call__" ⟨.ref 101 :: rest, []⟩)) (.call (.ref 38) ⟨.ref (h.objs.size + 1) :: rest, []⟩) (InitBack (h.objs.size + 1) R) ⟨(h.push emptyDict).push (accObj h.objs.size #[] 0), g, d, t, os⟩) :
    codeAny (model PG w) A (.call (.ref 101) ⟨rest, []⟩) R ⟨h, g, d, t, os⟩ := by
  have Y := makesL_of (M := model PG w) X
  have Y' := Y
  obtain ⟨⟨oc, od, cd, sl, hC, e1, e2, e4⟩, made, base, self, lst, call, typ⟩ := Y
  have hi : Looks (model PG w) h (typeLookup (.ref 101) "__init__") (some (.ref 38)) := looks_findIn X (by k_is)
  refine codeAny_of_tree ?_
  show wpAny _ _ (callAny (.ref 101) _) _ _ _
  refine nd_load hC ?_
  show wpAny _ _ (callAny.viaDunder (.ref 101) _) _ _ _
  unfold callAny.viaDunder
  refine wpAny_bind (call.at ?_)
  dsimp only
  rw [tc_bind]
  refine wpAny_bind (wpAny_pure (wpAny_bind (wpAny_pure ?_)))
  refine wpAny_pure (a := Fin.again (.call (.builtin "type.__call__") ⟨.ref 101 :: rest, []⟩)) (And.intro rfl ?_)
  refine codeAny_call_builtin_at (Code.quiet_builtin _ (by decide +kernel)) entry_typeCall (check_slot tc_kind tc_split typ (tc_args _ _ _) ?_)
  unfold Builtin.«type.__call__»
  have hm : Looks (model PG w) h (mroOf (.ref 101)) cd.mro := ((Looks.ld (part := none) hC).andThen .now).andThen .now
  repeat (first | simp only [e4, Bool.false_eq_true, if_false] | with_reducible refine wpAny_call ?_ | lk)
  refine new_L Y' ?_
  have k : ∀ b o, h.get? b = some o → ((h.push emptyDict).push (accObj h.objs.size #[] 0)).get? b = some o := fun b o e => Heap.get?_push_of_some _ (Heap.get?_push_of_some _ e)
  have hx : ((h.push emptyDict).push (accObj h.objs.size #[] 0)).get? (h.objs.size + 1) = some (accObj h.objs.size #[] 0) := by heap_get
  have t1 : Looks (model PG w) ((h.push emptyDict).push (accObj h.objs.size #[] 0)) (typeOf (.ref (h.objs.size + 1))) (.ref 101) := (Looks.ld hx).andThen .now
  have s1 := self.keeps k
  have i1 := hi.keeps k
  have b1 : Looks (model PG w) ((h.push emptyDict).push (accObj h.objs.size #[] 0)) (bindSpecial (.ref 38) (.ref (h.objs.size + 1))) (.ref 38, [.ref (h.objs.size + 1)]) := (bind_fn X (.ref (h.objs.size + 1)) (by k_is)).keeps k
  unfold isInstance callSpecial? specialOf
  repeat (first | with_reducible refine wpAny_call ?_ | lk)
  refine codeAny_mono hq fun r s' z => ?_
  rcases r with e | (v | _ | _ | _) <;> first | exact z | exact z.elim | skip
  obtain ⟨rfl, z⟩ := z
  exact wpAny_pure (wpAny_pure z)
end
end Mine
end
section
open PySem PySem.W PyProof.Rows PySem.Calls Builtin Builtin.ObjectAttr Builtin.Getset_descriptor
set_option maxRecDepth 100000
namespace Mine
theorem refuse_L (self : Value) : refuseLoop self "__setattr__" [.ref 101, .type "list", .type "object"] = pure () := by
  rw [refuseLoop_ref]
  kernel_rfl
noncomputable abbrev nmI : Str := Str.ofString "_initial_size"
noncomputable def clsL (K : Frag) : Bool := (clsIn K 101).any fun cd => cd.mro == [.ref 101, .type "list", .type "object"] && cd.hasDict
theorem clsL_K (w : World) : clsL (hd.heap_39 w.params) = true := by kernel_rfl
section
variable {w : World} {A : Around} {s : Shared} {E : Value → Shared → Prop} {x dx L : Addr} {its : Array Value} {n : Nat} {B : Heap} {m mg mb : Str → Option Value} {news news' : List (Addr × Obj)}
theorem acc_setattr {v : Value} {Q : Unit → Shared → Prop} {gn : Obj → List (Addr × Obj)} (F : Fr B L s.heap m) (N : News B L s.heap news) (X₀ : (hd.heap_39 w.params).In B) (hx : (x, accObj dx its n) ∈ news) (U : UpdF dx (dictOf [] 0) news gn)
    (h : ∀ h' tk tk' n', Fr B L h' m → News B L h' (gn (dictOf [⟨PyData.keyHash w.params nmI, .str nmI tk', v⟩] n')) → Q () { s with heap := h', toks := tk }) :
    wpAny (model PG w) A (setAttr (.ref x) nmI v) Q E s := by
  obtain ⟨hp, g, d, t, os⟩ := s
  dsimp only at F N
  have X : (hd.heap_39 w.params).In hp := X₀.keeps F.keep
  obtain ⟨pre, post, rfl, hg, a, b⟩ := U.split
  have z := (N (dx, dictOf [] 0) (by simp)).1
  have hxg : hp.get? x = some (accObj dx its n) := (N _ hx).1
  have I := accInst (s := ⟨hp, g, d, t, os⟩) hxg z
  have SF := PySem.F.store_object
  refine set_plain (s := ⟨hp, g, d, t, os⟩) X I (by k_is) ?_
  obtain ⟨cd, hc, hcd⟩ := any_some (clsL_K w)
  simp only [Bool.and_eq_true, beq_iff_eq] at hcd
  have LT := accType (M := model PG w) hxg
  have sub : Looks (model PG w) hp (isInstance (.ref x) (.type "object")) true := LT.andThen (looks_mroIn X (by k_is))
  refine codeAny_call_builtin SF.slot.plain SF.entry (@check_slot (model PG w) _ _ ⟨hp, g, d, t + 1, os⟩ "object.__setattr__" "object" "__setattr__" (.ref x) [.str nmI t, v] [] _ SF.kind SF.split sub (SF.args (.ref x) (.str nmI t) v) ?_)
  have hm : Looks (model PG w) hp (mroOf (.ref 101)) cd.mro := (looks_clsIn X hc).andThen .now
  have hfi := looks_findIn (M := model PG w) X (show findIn (hd.heap_39 w.params) (.ref 101) nmI = some none by k_is)
  rw [osa_eq, refuse_eq]
  refine wpAny_bind (wpAny_bind (LT.at (wpAny_bind (hm.at ?_))))
  rw [hcd.1, refuse_L]
  refine wpAny_pure (wpAny_bind (LT.at (wpAny_bind (hfi.at (wpAny_bind (wpAny_pure ?_))))))
  dsimp only
  obtain ⟨U1, U2⟩ := news_upd (f := Obj.putName nmI (PyData.keyHash w.params nmI) (.str nmI (t + 1)) v) F N a b (putName_dict nmI (PyData.keyHash w.params nmI) (.str nmI (t + 1)) v [] 0) rfl
  have D' := (U2 _ (List.mem_append_right _ (.head _))).1
  refine wpAny_bind (wpAny_pure (wpAny_bind (wpAny_bind (wpAny_loadPart hxg (wpAny_bind ((looks_clsIn X hc).at ?_))))))
  rw [hcd.2]
  refine wpAny_pure (a := some dx) (wpAny_bind (wpAny_pure (wpAny_bind ?_)))
  unfold nsSet
  refine wpAny_bind (wpAny_bind (wpAny_askSetting (wpAny_pure (wpAny_bind (wpAny_mkText (wpAny_bind (wpAny_loadPart z ?_)))))))
  dsimp only
  have c : (!(#[] : Array DictEntry).any (·.key.isStr nmI) && (#[] : Array DictEntry).any (·.refKey)) = false := by simp
  rw [aRefKeyMayBeTheName_at, c]
  refine wpAny_updatePart z ?_
  refine wpAny_bind (wpAny_lookBehind D' (pastItsLine_dict (by rw [List.size_toArray]; show 1 ≤ sizeLine + 1; rw [sizeLine_eq]; decide)) ?_)
  refine wpAny_pure (h _ _ (t + 1) (putN nmI [] 0) U1 ?_)
  rw [hg]
  exact U2
end
section
variable {w : World} {A : Around} {s : Shared} {Q E : Value → Shared → Prop} {x dx L q so : Addr} {its : Array Value} {n : Nat} {B : Heap} {m mg mb : Str → Option Value} {news news' : List (Addr × Obj)} {p : Int}
set_option maxHeartbeats 1000000
theorem binit_N' {g : Obj → List (Addr × Obj)} (F : Fr B L s.heap m) (N : News B L s.heap news) (hq : (q, boundObj "method-wrapper" "list.__init__" x) ∈ news) (U : UpdF x (accObj dx its n) news g)
    (hsz : its.size ≤ sizeLine) (h : ∀ h' n', Fr B L h' m → News B L h' (g (accObj dx #[] n')) → Q .none { s with heap := h' }) : wpAny (model PG w) A (call (.ref q) []) Q E s := binit_N F N hq U hsz h
theorem kwB18_1 : True := by (k_with_none; k_with "setAttr" => (k_dflt (refine' acc_setattr ?k1 ?k2 ?k3 ?k4 ?k5 ?_; (case k1 => k_asm); (case k2 => k_asm); (case k3 => k_asm); (case k4 => k_mem); (case k5 => k_updF)); intro h' tk' tk2' n2' F' N'; (try dsimp only at N'); (try k_sweep))); exact True.intro
theorem kwB18_2 : True := by (k_with "wpAt" => (ks_step "attributeBase Call"; k_dflt (refine super_N (by k_asm) (by k_asm) (by k_asm) (by k_asm) (by k_is) (by rfl) (by rfl) (by k_mem) (by k_is) (by rfl) (by first | rfl | decide +kernel) (by k_is) (by k_is) (by k_is) (by k_is) (by decide) (by rfl) (by rfl) (by rfl) (by rfl) (by decide +kernel) (by first | boot_by_name | rfl | kernel_rfl) ?_; intro so' h' F' N' l1; (try k_lt l1)))); exact True.intro
theorem kwB18_3 : True := by (k_with "getMethod ref" => (k_dflt (refine' superm_N ?k1 ?k2 ?k3 ?k4 ?k5 slot_wd type_init entry_wd (args_wd _ _ _) (fun hx LS h => run_wd (.inr rfl) hx LS h) (along_init _) ?k7 ?_; (case k1 => k_asm); (case k2 => k_asm); (case k3 => k_asm); (case k4 => k_mem); (case k5 => k_mem); (case k7 => decide)); intro q' h' tk' F' N' l1; (try k_lt l1); (try k_sweep))); exact True.intro
theorem kwB18_4 : True := by (k_with "callWith ref" => (k_dflt (refine' bound_with (.inr rfl) ?k1 ?k2 ?_; (case k1 => k_asm); (case k2 => k_mem)))); exact True.intro
theorem kwB18_5 : True := by (k_with "call ref" => (k_dflt (refine' binit_N' ?k1 ?k2 ?k4 ?k5 ?k6 ?_; (case k1 => k_asm); (case k2 => k_asm); (case k4 => k_mem); (case k5 => k_updF); (case k6 => decide)); intro h' n' F' N'; (try dsimp only at N'); (try k_sweep))); exact True.intro
theorem kwB18_6 : True := by (k_with "wpAt" => (dsimp only; ks_step "execs cons"; refine ks_wpAt_execs_cons ?_; refine Halt.go ?_)); exact True.intro
theorem mk_acc {tp : Tok} (C : Cx w s.heap) (hr : A.depth + 2 < recursionLimit)
    (h : ∀ x dx h' tk n td nd, Ext s.heap h' → s.heap.get? x = none → s.heap.get? dx = none → x ≠ dx → h'.get? x = some (accObj dx #[] n) → h'.get? dx = some (sizeDict w td p tp nd) → Q (.ref x) { s with heap := h', toks := tk }) :
    wpAny (model PG w) A (call (.ref 101) [.int p tp]) Q E s := by
  obtain ⟨hp, g, d, t, os⟩ := s
  obtain ⟨X, mg, mb, T⟩ := C
  dsimp only at X T
  have hd1 : A.depth + 2 < recursionLimit := hr
  refine wpAny_call (make_L X ?_)
  have k2 : Ext hp ((hp.push emptyDict).push (accObj hp.objs.size #[] 0)) := fun b o e => Heap.get?_push_of_some _ (Heap.get?_push_of_some _ e)
  have hxx : ((hp.push emptyDict).push (accObj hp.objs.size #[] 0)).get? (hp.objs.size + 1) = some (accObj hp.objs.size #[] 0) := by heap_get
  have hdd : ((hp.push emptyDict).push (accObj hp.objs.size #[] 0)).get? hp.objs.size = some (dictOf [] 0) := Heap.get?_push_of_some _ (Heap.get?_push_at rfl rfl)
  have n1 : hp.get? (hp.objs.size + 1) = none := Heap.get?_none_of_le (Nat.le_succ _)
  have n2 : hp.get? hp.objs.size = none := Heap.get?_none_of_le (Nat.le_refl _)
  have nxd : (hp.objs.size + 1 : Nat) ≠ hp.objs.size := by omega
  generalize hH : (hp.push emptyDict).push (accObj hp.objs.size #[] 0) = H at k2 hxx hdd ⊢
  have hsz : hp.objs.size ≤ H.objs.size := by rw [← hH]; simp only [Heap.size_push]; omega
  generalize hX : hp.objs.size + 1 = xx at *
  generalize hD : hp.objs.size = dd at *
  have X2 : (hd.heap_39 w.params).In H := X.keeps k2
  have T2 : TRd mg mb H := T.keeps k2
  refine enterAt (binds := [(Str.ofString "self", .ref xx), (Str.ofString "initial_size", .int p tp)]) X2 T2 (by exact Nat.lt_of_le_of_lt (Nat.le_trans (Nat.le_of_eq rfl) (Nat.le_add_right _ 1)) hd1) (by k_is) (by k_is) (kp_binds X2 fun _ => by rfl) (locs rfl) ?_ (by decide)
  intro L h₁ F₀ N X' T'
  clear X2 T2 X' T' N
  have F := rebF F₀ k2 (by rw [hD]; exact hsz)
  have N : News hp L h₁ [(xx, accObj dd #[] 0), (dd, dictOf [] 0)] := rebN F₀ (by
    intro q hq
    simp only [List.mem_cons, List.not_mem_nil, or_false] at hq
    rcases hq with rfl | rfl
    · exact ⟨hxx, n1⟩
    · exact ⟨hdd, n2⟩)
  have hne := PySem.W.neN nxd
  clear F₀ hxx hdd
  dsimp only
  k_steps
  unfold Halt
  refine ks_wpAt_Expr_any ?_
  refine ks_wpAt_MethodCall ?_
  k_steps
  dsimp only
  rename Fr _ _ _ _ => Ff
  rename News _ _ _ _ => Nf
  exact ⟨rfl, h xx dd _ _ _ _ _ Ff.keep n1 n2 nxd (Nf _ (.tail _ (.tail _ (.head _)))).1 (Nf _ (.tail _ (.tail _ (.tail _ (.head _))))).1⟩
theorem mk_acc0 (C : Cx w s.heap) (hr : A.depth + 2 < recursionLimit)
    (h : ∀ x dx h' tk n td tp nd, Ext s.heap h' → s.heap.get? x = none → s.heap.get? dx = none → x ≠ dx → h'.get? x = some (accObj dx #[] n) → h'.get? dx = some (sizeDict w td 0 tp nd) → Q (.ref x) { s with heap := h', toks := tk }) :
    wpAny (model PG w) A (call (.ref 101) []) Q E s := by
  obtain ⟨hp, g, d, t, os⟩ := s
  obtain ⟨X, mg, mb, T⟩ := C
  dsimp only at X T
  have hd1 : A.depth + 2 < recursionLimit := hr
  refine wpAny_call (make_L X ?_)
  have k2 : Ext hp ((hp.push emptyDict).push (accObj hp.objs.size #[] 0)) := fun b o e => Heap.get?_push_of_some _ (Heap.get?_push_of_some _ e)
  have hxx : ((hp.push emptyDict).push (accObj hp.objs.size #[] 0)).get? (hp.objs.size + 1) = some (accObj hp.objs.size #[] 0) := by heap_get
  have hdd : ((hp.push emptyDict).push (accObj hp.objs.size #[] 0)).get? hp.objs.size = some (dictOf [] 0) := Heap.get?_push_of_some _ (Heap.get?_push_at rfl rfl)
  have n1 : hp.get? (hp.objs.size + 1) = none := Heap.get?_none_of_le (Nat.le_succ _)
  have n2 : hp.get? hp.objs.size = none := Heap.get?_none_of_le (Nat.le_refl _)
  have nxd : (hp.objs.size + 1 : Nat) ≠ hp.objs.size := by omega
  generalize hH : (hp.push emptyDict).push (accObj hp.objs.size #[] 0) = H at k2 hxx hdd ⊢
  have hsz : hp.objs.size ≤ H.objs.size := by rw [← hH]; simp only [Heap.size_push]; omega
  generalize hX : hp.objs.size + 1 = xx at *
  generalize hD : hp.objs.size = dd at *
  have X2 : (hd.heap_39 w.params).In H := X.keeps k2
  have T2 : TRd mg mb H := T.keeps k2
  refine enterAt (binds := [(Str.ofString "self", .ref xx), (Str.ofString "initial_size", .int 0 _)]) X2 T2 (by exact Nat.lt_of_le_of_lt (Nat.le_trans (Nat.le_of_eq rfl) (Nat.le_add_right _ 1)) hd1) (by k_is) (by k_is) (kp_binds X2 fun _ => by rfl) (locs rfl) ?_ (by decide)
  intro L h₁ F₀ N X' T'
  clear X2 T2 X' T' N
  have F := rebF F₀ k2 (by rw [hD]; exact hsz)
  have N : News hp L h₁ [(xx, accObj dd #[] 0), (dd, dictOf [] 0)] := rebN F₀ (by
    intro q hq
    simp only [List.mem_cons, List.not_mem_nil, or_false] at hq
    rcases hq with rfl | rfl
    · exact ⟨hxx, n1⟩
    · exact ⟨hdd, n2⟩)
  have hne := PySem.W.neN nxd
  clear F₀ hxx hdd
  dsimp only
  k_steps
  unfold Halt
  refine ks_wpAt_Expr_any ?_
  refine ks_wpAt_MethodCall ?_
  k_steps
  dsimp only
  rename Fr _ _ _ _ => Ff
  rename News _ _ _ _ => Nf
  exact ⟨rfl, h xx dd _ _ _ _ _ _ Ff.keep n1 n2 nxd (Nf _ (.tail _ (.tail _ (.head _)))).1 (Nf _ (.tail _ (.tail _ (.tail _ (.head _))))).1⟩
end
theorem kwB18_end : True := by k_with_none; exact True.intro
end Mine
end
section
open PySem PySem.W PyProof.Rows PySem.Calls
set_option maxRecDepth 100000
namespace Mine
/-- the module of the built-in names stands -/
noncomputable def Bm (h : Heap) : Prop := ∃ ob, h.get? 4 = some ob ∧ ob.cls = .type "module" ∧ ob.dict = some builtinsNs ∧ ob.data = .plain
theorem Bm.ext {h h' : Heap} (b : Bm h) (k : Ext h h') : Bm h' := let ⟨ob, e, r⟩ := b; ⟨ob, k _ _ e, r⟩
theorem Bm.hide {h : Heap} {as : List Addr} (b : Bm h) (ha : ∀ x ∈ as, ∃ o, h.get? x = some o ∧ Aside o) : Bm (hideAll h as) := by
  obtain ⟨ob, e, e1, e2, e3⟩ := b
  refine ⟨ob, hideAll_get _ e fun hm => ?_, e1, e2, e3⟩
  obtain ⟨o', e', k⟩ := ha _ hm
  rw [e] at e'; cases e'
  rcases k with ⟨_, _, _, rfl⟩ | ⟨_, rfl⟩ <;> cases e1
theorem code67 (w : World) : codeHdIn (hd.heap_39 w.params) 67 63 = true := by kernel_rfl
theorem code74 (w : World) : codeHdIn (hd.heap_39 w.params) 74 70 = true := by kernel_rfl
/-- a code's table that holds at most one code, that of the one place -/
noncomputable def TabSt (pos : Pos) (ps : Array Value) : Prop := ps = #[] ∨ ∃ c' : Addr, ps = #[rawInt pos.line, rawInt pos.col, .ref c']
theorem TabSt.triples {pos : Pos} {ps : Array Value} (h : TabSt pos ps) : TriplesOk ps.toList := by
  rcases h with rfl | ⟨c', rfl⟩
  · exact trivial
  · simp [TriplesOk, rawInt]
section
variable {w : World} {A : Around} {s : Shared} {E : Value → Shared → Prop}
theorem builtins_here {env : Env} {mg mb : Str → Option Value} {Q : Addr → Shared → Prop} (X : (hd.heap_39 w.params).In s.heap) (T : TRd mg mb s.heap) (hb : Bm s.heap) (hg : env.globals = mainGlobals) (h : Q builtinsNs s) : wpAny (model PG w) A (builtinsFor env.globals env.builtins) Q E s := by
  rw [hg]
  obtain ⟨ob, e, e1, e2, e3⟩ := hb
  exact wpAny_builtinsFor T.g (mg_of X T.g (show nsIn (hd.heap_39 w.params) mainGlobals "__builtins__" = some (some (.ref 4)) by k_is)) (by decide) e e1 e2 e3 h
theorem genCode {env : Env} {c P : Addr} {ps : Array Value} {pos : Pos} {qn : Str} {scope : Scope} {Q : Value → Shared → Prop} (hc : env.code = .ref c) (hcd : CodeHd s.heap c P) (hP : s.heap.get? P = some (tabObj ps)) (hps : TabSt pos ps)
    (hQ : ∀ (c' : Addr) ps' h' tk, Heap.ExtBut P s.heap h' → s.heap.objs.size ≤ h'.objs.size → h'.get? P = some (tabObj ps') → TabSt pos ps' → Q (.ref c') { s with heap := h', toks := tk }) :
    wpAny (model PG w) A (genexprCode env pos qn scope) Q E s := by
  have hcode := hcd.code hP hps.triples
  have htab := hcd.tab hP
  rcases hps with rfl | ⟨c', rfl⟩
  · refine wpAny_genexprCodeX hc hcode htab rfl fun c' h' tk hx h1 h2 _ _ ht' _ => ?_
    exact hQ c' _ h' tk hx (Nat.le_trans h1 (Nat.le_of_lt h2)) ht'.2 (.inr ⟨c', by simp⟩)
  · refine wpAny_genexprCode_hit hc hcode (c' := .ref c') (by simp [codeAmong, rawInt]) ?_
    exact hQ c' _ s.heap s.toks (fun b o _ e => e) (Nat.le_refl _) hP (.inr ⟨c', rfl⟩)
end
end Mine
end
section
open PySem PySem.W PyProof.Rows PySem.Calls
set_option maxRecDepth 100000
namespace Mine
theorem passing_all (n : Nat) : passing (fun _ => true) n 0 = List.range n := by simp [passing]
/-- the pieces of an accumulator -/
structure Pcs (h : Heap) (its : Array Value) (Ts : Nat → Addr) (pa pb : Nat → Str) (ta tb : Nat → Tok) : Prop where
  at_ : ∀ j, j < its.size → its[j]? = some (.ref (Ts j))
  tup : ∀ j, j < its.size → h.IsTuple (Ts j) #[.str (pa j) (ta j), .str (pb j) (tb j)]
noncomputable def FnG (n : Nat) (Fn : Nat → Value → Prop) (j : Nat) (y : Value) : Prop := ∃ i, (passing (fun _ => true) n 0)[j]? = some i ∧ i < n ∧ Fn i y
theorem FnG.of {n : Nat} {Fn : Nat → Value → Prop} {j : Nat} {y : Value} (h : FnG n Fn j y) : j < n ∧ Fn j y := by
  obtain ⟨i, e, hi, hf⟩ := h
  rw [passing_all] at e
  rw [List.getElem?_range] at e
  · cases e; exact ⟨hi, hf⟩
  · by_cases hj : j < n
    · exact hj
    · rw [List.getElem?_eq_none (by simpa using hj)] at e; cases e
section
variable {w : World} {A : Around} {s : Shared} {E : Value → Shared → Prop} {x dx L c P : Addr} {its : Array Value} {n : Nat} {B : Heap} {m mg mb : Str → Option Value}
theorem gen_acc {env : Env} {elt iter : Expr} {xa xb : Str} {pa' pb' pt : Pos} {kt : Nat} {scope : Scope} {pos : Pos} {ps : Array Value} {Ts : Nat → Addr} {pa pb : Nat → Str} {ta tb : Nat → Tok} {Fn : Nat → Value → Prop} {Q : Value → Shared → Prop}
    (F : Fr B L s.heap m) (hP : s.heap.get? P = some (tabObj ps)) (hPB : B.get? P = none) (hPL : P < L) (hps : TabSt pos ps) (hcd : CodeHd B c P) (X : (hd.heap_39 w.params).In B) (T : TRd mg mb B) (hb : Bm B) (G : AllBare s.gens)
    (hx : B.get? x = some (accObj dx its n)) (hT : Pcs B its Ts pa pb ta tb) (hcode : env.code = .ref c) (hglob : env.globals = mainGlobals)
    (hh : A.handled = none) (hco : scope.isCoroutine = false) (hclos : closureFor scope env = pure []) (hcell : ∀ y ∈ scope.names, y.2 ≠ .cell) (h0 : scope.names.lookup (".0" : Str) = some NameKind.local)
    (hxa : scope.names.lookup xa = some .local) (hxb : scope.names.lookup xb = some .local) (hab : xa ≠ xb) (hkind : scope.kind = .function) (hroom : A.depth < recursionLimit)
    (heval : ∀ (Q : Value → Shared → Prop), Q (.ref x) s → wpAny (model PG w) A (eval iter env) Q E s)
    (helt : ∀ (c' C : Addr) (A' : Around) E' j (t : Shared) m₂, A'.handled = none → A'.depth ≤ A.depth + 1 → j < its.size → Fr B C t.heap m₂ → m₂ xa = some (.str (pa j) (ta j)) → m₂ xb = some (.str (pb j) (tb j)) →
      wpAny (model PG w) A' (eval elt (genEnv scope [] C (.ref c') builtinsNs env)) (fun y s₃ => Fn j y ∧ Keeps t s₃) E' t)
    (hQ : ∀ a ps' (s' : Shared), Fr B L s'.heap m → s'.heap.get? P = some (tabObj ps') → TabSt pos ps' → AllBare s'.gens → s'.os = s.os → Gen PG w A L a (passing (fun _ => true) its.size 0).length (FnG its.size Fn) s' → Q (.ref a) s')
    (hs : ∀ x, genFold iter env x = pure x) :
    wpAny (model PG w) A (eval (.GeneratorExp elt [⟨.Tuple [.Name xa pa', .Name xb pb'] kt pt, iter, [], 0⟩] scope pos) env) Q E s := by
  obtain ⟨hp, g, d, t, os⟩ := s
  dsimp only at F hP G
  have hxP : x ≠ P := fun e => by rw [e, hPB] at hx; cases hx
  refine wpAny_GeneratorExp_walksQTD hh hco hclos hcell h0 hxa hxb hab hkind hroom (heval _ (acc_iter (X.keeps F.keep) (F.keep _ _ hx) ⟨T.nolimit.keeps (F.push _).keep, ?_⟩)) hs
  dsimp only
  have F1 : Fr B L (hp.push { cls := .type "list_iterator", data := .fields #[.ref x, .int 0 0] }) m := F.push _
  have hI : (hp.push { cls := .type "list_iterator", data := .fields #[.ref x, .int 0 0] }).get? hp.objs.size = some { cls := .type "list_iterator", data := .fields #[.ref x, .int 0 0] } := Heap.get?_push_size _ rfl
  have hLI : L < hp.objs.size := F.ns.lt
  have hBI : B.get? hp.objs.size = none := next_is_new F
  have hIsz : hp.objs.size < (hp.push { cls := .type "list_iterator", data := .fields #[.ref x, .int 0 0] }).objs.size := by rw [Heap.size_push]; exact Nat.lt_succ_self _
  have hP1 : (hp.push { cls := .type "list_iterator", data := .fields #[.ref x, .int 0 0] }).get? P = some (tabObj ps) := Heap.get?_push_of_some _ hP
  generalize hp.push { cls := .type "list_iterator", data := .fields #[.ref x, .int 0 0] } = H1 at F1 hI hIsz hP1 ⊢
  generalize hp.objs.size = I at hLI hBI hIsz hI ⊢
  refine genCode hcode (hcd.keeps F1.keep) hP1 hps fun c' ps' H2 tk2 hx2 hsz2 hP2 hps2 => ?_
  dsimp only at hx2 hsz2
  have hBP : ∀ b o, B.get? b = some o → b ≠ P := fun b o e q => by rw [q, hPB] at e; cases e
  have F2 : Fr B L H2 m := ⟨F1.ns.extBut hx2 (fun q => Nat.lt_irrefl _ (q ▸ hPL)), fun b o e => hx2 b o (hBP b o e) (F1.keep b o e), F1.above⟩
  have hI2 : H2.get? I = some { cls := .type "list_iterator", data := .fields #[.ref x, .int 0 0] } := hx2 _ _ (fun q => Nat.lt_irrefl _ (Nat.lt_trans (q ▸ hPL) hLI)) hI
  refine builtins_here (X.keeps F2.keep) (T.keeps F2.keep) (hb.ext F2.keep) hglob ?_
  dsimp only
  have hne : x ≠ I := fun e => by rw [e, hBI] at hx; cases hx
  have hTI : ∀ j, j < its.size → Ts j ≠ I := fun j hj e => by
    obtain ⟨o, e1, _⟩ := hT.tup j hj
    rw [e, hBI] at e1; cases e1
  have ltB : ∀ b o, B.get? b = some o → b < H2.objs.size := fun b o e => Heap.lt_size (F2.keep b o e)
  refine ⟨I, _, _, _, _, _, _, (fun _ => true), (fun i y => i < its.size ∧ Fn i y), rfl, fun A' hA => (accTuples (dx := dx) (n := n) hA hne Ts (fun j => #[.str (pa j) (ta j), .str (pb j) (tb j)]) hT.at_ hTI).bound, ?_, ?_, ?_, T.nolimit.keeps F2.keep, ?_, ?_, ?_⟩
  · rintro i vals ⟨_, rfl⟩; exact ⟨_, _, rfl⟩
  · exact ⟨⟨_, hI2, rfl, rfl⟩, F2.keep _ _ hx, fun k hk => (hT.tup k hk).at fun o e => F2.keep _ _ e⟩
  · intro b hb'
    rcases List.mem_cons.mp hb' with rfl | hb'
    · exact Heap.lt_size hI2
    · rcases List.mem_cons.mp hb' with rfl | hb'
      · exact ltB _ _ hx
      · obtain ⟨k, hk, rfl⟩ := List.mem_map.mp hb'
        obtain ⟨o, e1, _⟩ := hT.tup k (List.mem_range.mp hk)
        exact ltB _ _ e1
  · intro hm
    have e := List.mem_singleton.mp hm
    obtain ⟨_, hns, _⟩ := T.nolimit
    obtain ⟨o, es, ep, ho, _⟩ := hns
    rw [e, hBI] at ho; cases ho
  · intro href hhref
    have inB : ∀ (u : Shared) m₂, u.heap.Ns H2.objs.size m₂ → (∀ b ∈ List.range H2.objs.size, b ∉ [I] → ∀ o, href.get? b = some o → u.heap.get? b = some o) → Fr B H2.objs.size u.heap m₂ := fun u m₂ hn hkp =>
      ⟨hn, fun b o e => hkp b (List.mem_range.mpr (ltB b o e)) (fun hm => by rw [List.mem_singleton.mp hm, hBI] at e; cases e) o (hhref b o (F2.keep b o e)), Nat.le_trans F2.above (Nat.le_of_lt F2.ns.lt)⟩
    refine ⟨fun A' E' i va vb u m₂ hA hD hU hPt hn hma hmb hkp => wpAny_tests_nil ⟨rfl, _, _, rfl, fun _ _ e => e⟩, fun A' E' i va vb u m₂ hA hD hU hPt hpz hn hma hmb hkp => ?_⟩
    obtain ⟨hi, e⟩ := hPt
    obtain ⟨rfl, rfl⟩ : va = .str (pa i) (ta i) ∧ vb = .str (pb i) (tb i) := by simpa using congrArg Array.toList e
    exact wpAny_mono (helt c' _ A' E' i u m₂ hA hD hi (inB u m₂ hn hkp) hma hmb) (fun y s₃ r => ⟨⟨hi, r.1⟩, r.2⟩) fun _ _ e => e
  · intro a h₅ tk gs hgb hag hsz₅ hk₅ W hat
    refine hQ a ps' _ (F2.keeps hk₅) (hk₅ _ _ hP2) hps2 (G.push hgb) rfl ⟨_, _, _, _, W, hat, (fun i s' st => st.1.typeIs), List.mem_cons_self, ?_, ?_⟩
    · intro b hb'
      show b < h₅.objs.size
      rw [hsz₅]
      rcases List.mem_cons.mp hb' with rfl | hb'
      · exact Nat.lt_succ_self _
      · rcases List.mem_cons.mp hb' with rfl | hb'
        · exact Nat.lt_succ_of_lt hag
        · exact Nat.lt_succ_of_lt (Nat.lt_trans (List.mem_range.mp hb') hag)
    · intro b hb'
      rcases List.mem_cons.mp hb' with rfl | hb'
      · exact F2.ns.lt
      · rw [List.mem_singleton.mp hb']; exact hLI
end
end Mine
end
section
open PySem PySem.W PyProof.Rows PySem.Calls
set_option maxRecDepth 100000
namespace Mine
theorem args_sum2 (a b : Value) : argsOk "sum" ⟨[a, b], []⟩ := by unfold argsOk; kernel_rfl
section
variable {w : World} {A : Around} {s : Shared} {E : Value → Shared → Prop} {R : Result → Shared → Prop} {I L : Addr} {fp wr : List Addr} {G : Array GenState → Array GenState → Prop} {n : Nat} {P : Nat → Value → Prop} {St : Nat → Shared → Prop}
/-- the loop of a sum that began with a number of its own: acc tells what is summed up ahead of each turn -/
theorem sum_turns (W : WalksS PG w A.in1 I fp wr G n P St) (val acc : Nat → Int) (hacc : ∀ i, acc (i + 1) = acc i + val i) (hval : ∀ i v, P i v → ∃ t, v = .int (val i) t) (hfit : ∀ j, j < n → InLong (val j) ∧ InLong (acc (j + 1))) (S : Addr) (hSf : S ∉ fp) :
    ∀ (k i : Nat) (s : Shared) (tA : Tok) (c : Nat), n - i = k → i ≤ n → St i s → s.heap.get? S = some { cls := .type "list", dict := none, data := .seq #[.int (acc i) tA] c, slots := #[] } →
    (∀ s' t', Moved (S :: wr) G s s' → R (.ok (.ret (.int (acc n) t'))) s') → codeAny (model PG w) A (.builtin "sum.loop" ⟨[.ref I, .ref S, rawInt 0, rawInt 0], []⟩) R s := by
  have hSw : S ∉ wr := fun h => hSf (W.sub _ h)
  have up : ∀ b ∈ wr, b ∈ S :: wr := fun b hb => List.mem_cons_of_mem _ hb
  intro k
  induction k with
  | zero =>
    intro i s tA c hk hi hst hS hR
    obtain rfl : i = n := by omega
    refine codeAny_builtin F.entry_sum_loop ?_
    rw [Around.under_plainId F.plain_sum_loop _]
    refine wpAny_bind (m := seqItems? (.ref S)) (wpAny_seqItems hS rfl ?_)
    refine wpAny_bind (m := Sem.tryCatch (pyNext (.ref I)) _) (wpAny_tryCatch (W.done s _ _ hst fun s' hm => ?_))
    exact wpAny_pure (hR s' tA (hm.mono up))
  | succ k ih =>
    intro i s tA c hk hi hst hS hR
    have hlt : i < n := by omega
    refine codeAny_builtin F.entry_sum_loop ?_
    rw [Around.under_plainId F.plain_sum_loop _]
    refine wpAny_bind (m := seqItems? (.ref S)) (wpAny_seqItems hS rfl ?_)
    refine wpAny_bind (m := Sem.tryCatch (pyNext (.ref I)) _) (wpAny_tryCatch (W.item i s _ _ hlt hst fun v s' hP hst' hm => ?_))
    obtain ⟨t, rfl⟩ := hval i v hP
    have hS' := hm.heap S _ hSw hS
    obtain ⟨⟨f1, f2⟩, f3, f4⟩ := hfit i hlt
    rw [hacc] at f3 f4
    have fit : ((decide (-(2 ^ 63) ≤ val i) && decide (val i < 2 ^ 63)) && (decide (-(2 ^ 63) ≤ acc i + val i) && decide (acc i + val i < 2 ^ 63))) = true := by
      simp only [Bool.and_eq_true, decide_eq_true_eq]
      exact ⟨⟨f1, f2⟩, f3, f4⟩
    show wpAny _ A.in1 (if (_ : Bool) = true then (mkInt (acc i + val i) >>= _) else _) _ _ _
    split
    · refine wpAny_bind (wpAny_mkInt ?_)
      refine wpAny_bind (m := updateSeq S (fun _ => #[.int (acc i + val i) s'.toks])) ?_
      refine wpAny_updateSeq hS' rfl (wpAny_pure ⟨plainId_quiet F.plain_sum_loop _, ?_⟩)
      have hS2 := Heap.get?_update_self (h := s'.heap) (Obj.mapSeq fun _ => #[.int (acc i + val i) s'.toks]) hS' rfl
      rw [← hacc] at hS2 ⊢
      refine ih (i + 1) _ s'.toks _ (by omega) hlt (W.frame _ s' _ _ hst' (Nat.le_succ _) fun b hb o e => ?_) hS2 fun s'' t'' hm'' => ?_
      · exact (Heap.get?_update_other _ _ (fun h : S = b => hSf (by rw [h]; exact hb))).trans e
      · refine hR s'' t'' (Moved.trans W.gtrans ((hm.mono up).then_heap (Nat.le_succ _) fun b o hb e => ?_) hm'')
        exact (Heap.get?_update_other _ _ (fun h : S = b => hb (by rw [h]; exact List.mem_cons_self))).trans e
    · rename_i hneg
      exact absurd fit hneg
theorem sum_from {a : Addr} {p : Int} {tp : Tok} {h₀ : Heap} {m : Str → Option Value} {Fn : Nat → Value → Prop} {Q : Value → Shared → Prop} (Fh : Fr h₀ L s.heap m) (Gb : AllBare s.gens) (X : Gen PG w A L a n Fn s) (val : Nat → Int) (hval : ∀ j v, Fn j v → ∃ t, v = .int (val j) t)
    (hp : InLong p) (hfit : ∀ j, j < n → InLong (val j) ∧ InLong (p + preSum val (j + 1)))
    (hQ : ∀ s' t', Fr h₀ L s'.heap m → AllBare s'.gens → s'.os = s.os → (∀ b o, b ≤ L → s.heap.get? b = some o → s'.heap.get? b = some o) → Q (.int (p + preSum val n) t') s') : wpAny (model PG w) A (call (.builtin "sum") [.ref a, .int p tp]) Q E s := by
  obtain ⟨fp, wr, g, St, W, hst, _, _, hfp, hwr⟩ := X
  have W := W.in4_1
  refine call_function_tree F.kind_sum F.plain_sum F.entry_sum (args_sum2 _ _) ?_
  unfold Builtin.«sum»
  simp only [List.length_cons, List.length_nil]
  rw [if_neg (by decide)]
  refine wpAny_bind (wpAny_of_eq (show Builtin.Builtins.bindParams "sum" ["start"] 0 ⟨[.int p tp], []⟩ = pure [some (.int p tp)] from rfl) ?_)
  refine wpAny_bind (W.self 0 _ _ _ hst ?_)
  dsimp only
  obtain ⟨f1, f2⟩ := hp
  have fit : (decide (-(2 ^ 63) ≤ p) && decide (p < 2 ^ 63)) = true := by
    simp only [Bool.and_eq_true, decide_eq_true_eq]
    exact ⟨f1, f2⟩
  split
  · refine wpAny_bind (wpAny_rule (wpAny_bind (wpAny_mkInt (wpAny_bind (wpAny_pure ?_)))))
    simp only [List.forIn_cons, List.forIn_nil]
    refine wpAny_bind (wpAny_bind (wpAny_bind (wpAny_isInstance (T := "int") (b := false) (typeIs_int _ _ _) PySem.sub_int_str ?_)))
    simp only [Bool.false_eq_true, if_false]
    refine wpAny_pure (wpAny_bind (wpAny_bind (wpAny_isInstance (T := "int") (b := false) (typeIs_int _ _ _) PySem.sub_int_bytes ?_)))
    simp only [Bool.false_eq_true, if_false]
    refine wpAny_pure (wpAny_bind (wpAny_bind (wpAny_isInstance (T := "int") (b := false) (typeIs_int _ _ _) PySem.sub_int_bytearray ?_)))
    simp only [Bool.false_eq_true, if_false]
    refine wpAny_pure (wpAny_pure ?_)
    refine wpAny_bind (wpAny_newObj_type ?_)
    have hSf : s.heap.objs.size ∉ fp := fun hm => Nat.lt_irrefl _ (hfp _ hm)
    refine wpAny_pure ⟨plainId_quiet F.plain_sum_loop _, sum_turns W val (fun i => p + preSum val i) (fun i => by simp only [preSum]; omega) hval hfit s.heap.objs.size hSf n 0 _ s.toks 0 rfl (Nat.zero_le _)
      (W.frame 0 s _ _ hst (Nat.le_succ _) fun b _ o e => Heap.get?_push_of_some _ e) ?_ fun s' t' hm => ?_⟩
    · have hpp : p + preSum val 0 = p := by simp [preSum]
      rw [hpp]
      exact Heap.get?_push_size _ rfl
    · have hm' := hm.drop_new (Nat.le_succ _)
      exact hQ s' t' (Fh.moved hm' fun b hb => hwr b hb) (Gb.movedS hm') hm'.os fun b o hb e => hm'.heap b o (fun hmem => Nat.lt_irrefl _ (Nat.lt_of_lt_of_le (hwr b hmem) hb)) e
  · rename_i hneg
    exact absurd fit hneg
end
end Mine
end
section
open PySem PySem.W PyProof.Rows PySem.Calls
set_option maxRecDepth 100000
namespace Mine
theorem Gen.tok {w : World} {A : Around} {L a : Addr} {n : Nat} {F : Nat → Value → Prop} {s : Shared} (X : Gen PG w A L a n F s) {tk : Nat} (h : s.toks ≤ tk) : Gen PG w A L a n F { s with toks := tk } :=
  let ⟨fp, wr, g, St, W, st, h1, h2, h3, h4⟩ := X
  ⟨fp, wr, g, St, W, W.frame 0 s s.heap tk st h fun _ _ _ e => e, h1, h2, h3, h4⟩
/-- a table that stands -/
structure TabAt' (h : Heap) (P : Addr) (pos : Pos) (ps : Array Value) : Prop where
  get : h.get? P = some (tabObj ps)
  st : TabSt pos ps
section
variable {w : World} {A : Around} {s : Shared} {Q E : Value → Shared → Prop} {x dx L q so : Addr} {its : Array Value} {n : Nat} {B : Heap} {m mg mb : Str → Option Value} {news news' : List (Addr × Obj)} {p : Int}
set_option maxHeartbeats 1000000
noncomputable abbrev posLen : Pos := { line := 26, col := 19, endLine := 26, endCol := 63 }
theorem nmL {env : Env} {y : Str} {pos : Pos} {v : Value} {C : Addr} {m₂ : Str → Option Value} (F : Fr B C s.heap m₂) (hv : m₂ y = some v) (h : Q v s) (hC : env.locals = C := by rfl) (hk : env.scope.kind = .function := by rfl) (hl : env.kindOf y = some .local := by rfl) (hd : (y == ("__debug__" : Str)) = false := by decide) :
    wpAny (model PG w) A (eval (.Name y pos) env) Q E s := wpAny_Name (wpAny_loadName_local hk hl (hC ▸ F.ns) hv h) hd
theorem nmB {env : Env} {y : Str} {pos : Pos} {v : Value} {C : Addr} {m₂ : Str → Option Value} (F : Fr B C s.heap m₂) (X : (hd.heap_39 w.params).In B) (T : TRd mg mb B) (hg : env.globals = mainGlobals) (hbi : env.builtins = builtinsNs) (hm : nsIn (hd.heap_39 w.params) mainGlobals y = some none) (hb : bootBuiltins y = some v) (hn : y ≠ Str.ofString "__name__") (h : Q v s)
    (hk : env.scope.kind = .function := by rfl) (hx : env.kindOf y = some .globalImplicit := by rfl) (hd : (y == ("__debug__" : Str)) = false := by decide) : wpAny (model PG w) A (eval (.Name y pos) env) Q E s :=
  wpAny_Name (ks_loadName_global hk hx (loadGlobal_builtin (by rw [hg]; exact T.g.keeps F.keep) (mg_none_of X T.g hm) (by rw [hbi]; exact T.b.keeps F.keep) ((T.builtins _ hn).trans hb) h)) hd
theorem nmG {env : Env} {y : Str} {pos : Pos} {v : Value} {C : Addr} {m₂ : Str → Option Value} (F : Fr B C s.heap m₂) (X : (hd.heap_39 w.params).In B) (T : TRd mg mb B) (hg : env.globals = mainGlobals) (hm : nsIn (hd.heap_39 w.params) mainGlobals y = some (some v)) (h : Q v s)
    (hk : env.scope.kind = .function := by rfl) (hx : env.kindOf y = some .globalImplicit := by rfl) (hd : (y == ("__debug__" : Str)) = false := by decide) : wpAny (model PG w) A (eval (.Name y pos) env) Q E s :=
  wpAny_Name (ks_loadName_global hk hx (loadGlobal_global (by rw [hg]; exact T.g.keeps F.keep) (mg_of X T.g hm) h)) hd
theorem elt_len {scope : Scope} {env : Env} {C c' : Addr} {A' : Around} {E' : Value → Shared → Prop} {t : Shared} {m₂ : Str → Option Value} {a b : Str} {ta tb : Tok} {p1 p2 p3 p4 p5 p6 p7 : Pos} (X : (hd.heap_39 w.params).In B) (T : TRd mg mb B) (hg : env.globals = mainGlobals) (hsc : scope = { kind := ScopeKind.function, names := [(Str.ofString ".0", NameKind.local), (Str.ofString "fws", NameKind.local), (Str.ofString "part", NameKind.local), (Str.ofString "len", NameKind.globalImplicit)], isGenerator := true, isCoroutine := false })
    (F : Fr B C t.heap m₂) (e1 : m₂ (Str.ofString "fws") = some (.str a ta)) (e2 : m₂ (Str.ofString "part") = some (.str b tb)) (la : a.length ≤ 1000) (lb : b.length ≤ 1000) :
    wpAny (model PG w) A' (eval (.BinOp (.Call (.Name (Str.ofString "len") p1) [.Name (Str.ofString "fws") p2] [] p3) .Add (.Call (.Name (Str.ofString "len") p4) [.Name (Str.ofString "part") p5] [] p6) p7) (genEnv scope [] C (.ref c') builtinsNs env))
      (fun y s₃ => (∃ t, y = .int ((a.length : Int) + (b.length : Int)) t) ∧ Keeps t s₃) E' t := by
  subst hsc
  refine wpAny_BinOp (Call_ (nmB F X T hg rfl (by k_is) (by first | boot_by_name | rfl | kernel_rfl) (by decide) (PyProof.Rows.callWith_builtin1 ?_)))
  refine Calls.spliced_cons (nmL F e1 (Calls.spliced_nil ?_))
  refine len_str (by omega) (Call_ (nmB (s := { t with toks := t.toks + 1 + 1 }) F X T hg rfl (by k_is) (by first | boot_by_name | rfl | kernel_rfl) (by decide) (PyProof.Rows.callWith_builtin1 ?_)))
  refine Calls.spliced_cons (nmL (s := { t with toks := t.toks + 1 + 1 }) F e2 (Calls.spliced_nil ?_))
  refine len_str (by omega) (add_int ?_)
  exact ⟨⟨_, rfl⟩, t.heap, _, rfl, fun _ _ e => e⟩
theorem empty_K (w : World) : nsIn (hd.heap_39 w.params) mainGlobals "EMPTYSTRING" = some (some (.str (Str.ofString "") 196)) := by kernel_rfl
theorem join_two (a b : Str) : Txt.join (Str.ofString "") [a, b] = a ++ b := by
  rw [show Txt.join (Str.ofString "") [a, b] = Str.join (Str.ofString "") [a, b] from StrLaws.glued_eq_join _ _]
  show a ++ Str.ofString "" ++ b = a ++ b
  have e : Str.ofString "" = Str.empty := by decide +kernel
  rw [e]
  apply congrArg (· ++ b)
  show Str.mk (a.cps ++ #[]) = a
  simp
theorem elt_str {scope : Scope} {env : Env} {C c' : Addr} {A' : Around} {E' : Value → Shared → Prop} {t : Shared} {m₂ : Str → Option Value} {a b : Str} {ta tb : Tok} {p1 p3 p4 p5 : Pos} {k : Nat} (X : (hd.heap_39 w.params).In B) (T : TRd mg mb B) (hg : env.globals = mainGlobals) (hsc : scope = { kind := ScopeKind.function, names := [(Str.ofString ".0", NameKind.local), (Str.ofString "fws", NameKind.local), (Str.ofString "part", NameKind.local), (Str.ofString "EMPTYSTRING", NameKind.globalImplicit)], isGenerator := true, isCoroutine := false })
    (F : Fr B C t.heap m₂) (e1 : m₂ (Str.ofString "fws") = some (.str a ta)) (e2 : m₂ (Str.ofString "part") = some (.str b tb)) (la : a.length ≤ 1000) (lb : b.length ≤ 1000) :
    wpAny (model PG w) A' (eval (.Call (.Attribute (.Name (Str.ofString "EMPTYSTRING") p1) (Str.ofString "join") ⟨29, 33, 29, 49⟩) [.Tuple [.Name (Str.ofString "fws") p3, .Name (Str.ofString "part") p4] k p5] [] ⟨29, 33, 29, 62⟩) (genEnv scope [] C (.ref c') builtinsNs env))
      (fun y s₃ => (∃ t, y = .str (a ++ b) t) ∧ Keeps t s₃) E' t := by
  subst hsc
  refine MethodCall_ (nmG F X T hg (empty_K w) (GM.join (callWith_method1 ?_)))
  refine Calls.spliced_cons (Tuple_ (k := k) (pos := p5) (Calls.spliced_cons (nmL F e1 (Calls.spliced_cons (nmL F e2 (Calls.spliced_nil (wpAny_newTuple ?_)))))))
  refine Calls.spliced_nil ?_
  have hT : IsTup (t.heap.push { cls := .type "tuple", data := .seq [Value.str a ta, .str b tb].toArray }) t.heap.objs.size #[.str a ta, .str b tb] := ⟨_, Heap.get?_push_size _ rfl, rfl, _, rfl⟩
  refine join_tupleW hT (ys := [a, b]) (.cons _ _ (.cons _ _ .nil)) (by decide) (by simp; omega) fun t' k' => ?_
  rw [join_two]
  exact ⟨⟨_, rfl⟩, _, _, rfl, fun _ _ e => Heap.get?_push_of_some _ e⟩
end
end Mine
end
section
open PySem PySem.W PyProof.Rows PySem.Calls
set_option maxRecDepth 100000
namespace Mine
/-- the pieces' sizes are small -/
noncomputable def Small (n : Nat) (pa pb : Nat → Str) : Prop := n ≤ 100 ∧ ∀ j, j < n → (pa j).length ≤ 100 ∧ (pb j).length ≤ 100
theorem preSum_le {val : Nat → Int} {n : Nat} {c : Int} (h : ∀ j, j < n → 0 ≤ val j ∧ val j ≤ c) : ∀ k, k ≤ n → 0 ≤ preSum val k ∧ preSum val k ≤ (k : Int) * c
  | 0, _ => ⟨Int.le_refl _, by simp [preSum]⟩
  | k + 1, hk => by
    have ih := preSum_le h k (by omega)
    have hv := h k (by omega)
    have e : ((k + 1 : Nat) : Int) * c = (k : Int) * c + c := by rw [Int.natCast_add, Int.add_mul]; simp
    rw [e]
    simp only [preSum]
    omega
noncomputable abbrev lenVal (pa pb : Nat → Str) (j : Nat) : Int := ((pa j).length : Int) + ((pb j).length : Int)
section
variable {w : World} {A : Around} {s : Shared} {Q E : Value → Shared → Prop} {x dx L q so : Addr} {its : Array Value} {n : Nat} {B : Heap} {m mg mb : Str → Option Value} {news news' : List (Addr × Obj)} {p : Int}
set_option maxHeartbeats 1000000
theorem size_attr (F : Fr B L s.heap m) (X : (hd.heap_39 w.params).In B) (hx : B.get? x = some (accObj dx its n)) {td tp : Tok} {nd : Nat} (hdx : B.get? dx = some (sizeDict w td p tp nd)) {expr : Bool} (h : Q (.int p tp) { s with toks := s.toks + 1 }) : wpAny (model PG w) A (getAttr (.ref x) nmI expr) Q E s :=
  acc_getattr (K := hd.heap_39 w.params) (X.keeps F.keep) (accInst (F.keep _ _ hx) (F.keep _ _ hdx)) (by k_is) (by k_is) (by k_is) (findObj_own (by k_is) (show findIn (hd.heap_39 w.params) (.ref 101) nmI = some none by k_is) rfl rfl) rfl h
theorem kwB23_1 : True := by (k_with_none; k_with "eval GeneratorExp" => refine Halt.go ?_); exact True.intro
theorem kwB23_2 : True := by (k_with "call builtin:sum" => refine Halt.go ?_); exact True.intro
theorem kwB23_3 : True := by (k_with "getAttr ref" => (k_dflt (refine' size_attr ?k1 ?k2 ?k3 ?k4 ?_; (case k1 => k_asm); (case k2 => k_asm); (case k3 => assumption); (case k4 => assumption)))); exact True.intro
theorem len_call {Ts : Nat → Addr} {pa pb : Nat → Str} {ta tb : Nat → Tok} {ps : Array Value} (C : Cx w s.heap) (hb : Bm s.heap) (G : AllBare s.gens) (H : AccAt w s.heap x dx its p) (hT : Pcs s.heap its Ts pa pb ta tb) (Tb : TabAt' s.heap 63 posLen ps) (hh : A.handled = none) (hr : A.depth + 2 < recursionLimit)
    (hsm : Small its.size pa pb) (hp : 0 ≤ p ∧ p < 1000)
    (h : ∀ (s' : Shared) t ps', Heap.ExtBut 63 s.heap s'.heap → TabAt' s'.heap 63 posLen ps' → AllBare s'.gens → s'.os = s.os → Q (.int (p + preSum (lenVal pa pb) its.size) t) s') :
    wpAny (model PG w) A (call (.ref 68) [.ref x]) Q E s := by
  obtain ⟨⟨n, hx⟩, td, tp, nd, hdx⟩ := H
  have ha : ∀ y ∈ [(63 : Addr)], ∃ o, s.heap.get? y = some o ∧ Aside o := fun y hy => by rw [List.mem_singleton.mp hy]; exact ⟨_, Tb.get, .inr ⟨_, rfl⟩⟩
  have C' := C.hide ha
  have hb' := hb.hide ha
  have nP : ∀ b o, s.heap.get? b = some o → o.cls ≠ .none → (hideAll s.heap [63]).get? b = some o := fun b o e hc => hideAll_get _ e fun hm => by
    rw [List.mem_singleton.mp hm, Tb.get] at e; cases e; exact hc rfl
  have hx' := nP _ _ hx (by simp)
  have hdx' := nP _ _ hdx (by simp)
  have hT' : Pcs (hideAll s.heap [63]) its Ts pa pb ta tb := ⟨hT.at_, fun j hj => let ⟨o, e, hc, r⟩ := hT.tup j hj; ⟨o, nP _ _ e (by rw [hc]; simp), hc, r⟩⟩
  obtain ⟨X, mg, mb, T⟩ := C
  refine wpAny_call ?_
  refine enterK (binds := [(Str.ofString "self", .ref x)]) X T (by omega) (by k_is) (by k_is) (BindsTo.of_eq rfl) (locs rfl) ?_ (by decide)
  intro L h₁ F₀ N X' T'
  clear X T X' T' N
  have F := hideF [63] F₀
  have hP63 := F₀.keep _ _ Tb.get
  have hPL : 63 < L := Nat.lt_of_lt_of_le (Heap.lt_size Tb.get) F₀.above
  have hPB : (hideAll s.heap [63]).get? 63 = none := hideAll_none _ (.head _)
  clear F₀ hx hdx
  obtain ⟨X, mg, mb, T⟩ := C'
  have hcd := codeHd_of_K X (code67 w)
  have hd2 : ∀ env, (A.deeper env).depth = A.depth + 1 := fun _ => rfl
  dsimp only
  k_steps
  unfold Halt
  refine gen_acc (Fn := fun j y => ∃ t, y = .int (lenVal pa pb j) t) F hP63 hPB hPL Tb.st hcd X T hb' G hx' hT' rfl rfl hh rfl (by rfl) (by decide) rfl rfl rfl (by decide) rfl (by rw [hd2]; omega) (fun Q q => nmL F rfl q) ?_ ?_ (fun _ => rfl)
  · intro c' C A' E' j u m₂ _ _ hj Fu e1 e2
    exact elt_len X T rfl rfl Fu e1 e2 (Nat.le_trans (hsm.2 j hj).1 (by decide)) (Nat.le_trans (hsm.2 j hj).2 (by decide))
  intro a ps' s' F2 hP2 hps2 G2 hos2 Gn
  clear F hP63 G
  obtain ⟨hp2, g2, d2, t2, os2⟩ := s'
  dsimp only at F2 hP2 G2 hos2
  k_steps
  unfold Halt
  have Gn' := Gen.tok Gn (show t2 ≤ t2 + 1 from Nat.le_succ _)
  have hlen : (passing (fun _ => true) its.size 0).length = its.size := by rw [passing_all]; simp
  rw [hlen] at Gn'
  have bnd : ∀ j, j < its.size → 0 ≤ lenVal pa pb j ∧ lenVal pa pb j ≤ 200 := fun j hj => by
    have := hsm.2 j hj
    simp only [lenVal]
    omega
  have hn := hsm.1
  refine sum_from (p := p) F2 G2 Gn' (lenVal pa pb) (fun j v hv => hv.of.2) ⟨by omega, by omega⟩ (fun j hj => ?_) fun s' t' F3 G3 hos3 hk3 => ?_
  · have h1 := bnd j hj
    have h2 := preSum_le bnd (j + 1) hj
    have h3 : ((j + 1 : Nat) : Int) * 200 ≤ 20000 := by omega
    exact ⟨⟨by omega, by omega⟩, ⟨by omega, by omega⟩⟩
  · refine h s' t' ps' (fun b o hbb e => ?_) ⟨hk3 _ _ (Nat.le_of_lt hPL) hP2, hps2⟩ G3 (hos3.trans hos2)
    exact hide_keep F3 b o (by simpa using hbb) e
end
theorem kwB23_end : True := by k_with_none; exact True.intro
end Mine
end
section
open PySem PySem.W PyProof.Rows PySem.Calls
set_option maxRecDepth 100000
namespace Mine
section
variable {w : World} {A : Around} {s : Shared} {Q E : Value → Shared → Prop} {x dx L q so : Addr} {its : Array Value} {n : Nat} {B : Heap} {m mg mb : Str → Option Value} {news news' : List (Addr × Obj)} {p : Int}
set_option maxHeartbeats 1000000
noncomputable abbrev posStr : Pos := { line := 29, col := 32, endLine := 29, endCol := 85 }
theorem kwB24_1 : True := by (k_with_none; k_with "eval GeneratorExp" => refine Halt.go ?_); exact True.intro
theorem kwB24_2 : True := by (k_with "call builtin:str.join" => refine Halt.go ?_); exact True.intro
theorem str_call {Ts : Nat → Addr} {pa pb : Nat → Str} {ta tb : Nat → Tok} {ps : Array Value} (C : Cx w s.heap) (hb : Bm s.heap) (G : AllBare s.gens) (H : AccAt w s.heap x dx its p) (hT : Pcs s.heap its Ts pa pb ta tb) (Tb : TabAt' s.heap 70 posStr ps) (hh : A.handled = none) (hr : A.depth + 2 < recursionLimit)
    (hsm : Small its.size pa pb)
    (h : ∀ (s' : Shared) t ps', Heap.ExtBut 70 s.heap s'.heap → TabAt' s'.heap 70 posStr ps' → AllBare s'.gens → s'.os = s.os → Q (.str (Txt.join (Str.ofString "") ((List.range its.size).map fun j => pa j ++ pb j)) t) s') :
    wpAny (model PG w) A (call (.ref 75) [.ref x]) Q E s := by
  obtain ⟨⟨n, hx⟩, td, tp, nd, hdx⟩ := H
  have ha : ∀ y ∈ [(70 : Addr)], ∃ o, s.heap.get? y = some o ∧ Aside o := fun y hy => by rw [List.mem_singleton.mp hy]; exact ⟨_, Tb.get, .inr ⟨_, rfl⟩⟩
  have C' := C.hide ha
  have hb' := hb.hide ha
  have nP : ∀ b o, s.heap.get? b = some o → o.cls ≠ .none → (hideAll s.heap [70]).get? b = some o := fun b o e hc => hideAll_get _ e fun hm => by
    rw [List.mem_singleton.mp hm, Tb.get] at e; cases e; exact hc rfl
  have hx' := nP _ _ hx (by simp)
  have hdx' := nP _ _ hdx (by simp)
  have hT' : Pcs (hideAll s.heap [70]) its Ts pa pb ta tb := ⟨hT.at_, fun j hj => let ⟨o, e, hc, r⟩ := hT.tup j hj; ⟨o, nP _ _ e (by rw [hc]; simp), hc, r⟩⟩
  obtain ⟨X, mg, mb, T⟩ := C
  refine wpAny_call ?_
  refine enterK (binds := [(Str.ofString "self", .ref x)]) X T (by omega) (by k_is) (by k_is) (BindsTo.of_eq rfl) (locs rfl) ?_ (by decide)
  intro L h₁ F₀ N X' T'
  clear X T X' T' N
  have F := hideF [70] F₀
  have hP70 := F₀.keep _ _ Tb.get
  have hPL : 70 < L := Nat.lt_of_lt_of_le (Heap.lt_size Tb.get) F₀.above
  have hPB : (hideAll s.heap [70]).get? 70 = none := hideAll_none _ (.head _)
  clear F₀ hx hdx
  obtain ⟨X, mg, mb, T⟩ := C'
  have hcd := codeHd_of_K X (code74 w)
  have hd2 : ∀ env, (A.deeper env).depth = A.depth + 1 := fun _ => rfl
  dsimp only
  k_steps
  unfold Halt
  refine gen_acc (Fn := fun j y => ∃ t, y = .str (pa j ++ pb j) t) F hP70 hPB hPL Tb.st hcd X T hb' G hx' hT' rfl rfl hh rfl (by rfl) (by decide) rfl rfl rfl (by decide) rfl (by rw [hd2]; omega) (fun Q q => nmL F rfl q) ?_ ?_ (fun _ => rfl)
  · intro c' C A' E' j u m₂ _ _ hj Fu e1 e2
    exact elt_str X T rfl rfl Fu e1 e2 (Nat.le_trans (hsm.2 j hj).1 (by decide)) (Nat.le_trans (hsm.2 j hj).2 (by decide))
  intro a ps' s' F2 hP2 hps2 G2 hos2 Gn
  clear F hP70 G
  obtain ⟨hp2, g2, d2, t2, os2⟩ := s'
  dsimp only at F2 hP2 G2 hos2
  k_steps
  unfold Halt
  have hlen : (passing (fun _ => true) its.size 0).length = its.size := by rw [passing_all]; simp
  rw [hlen] at Gn
  have hn := hsm.1
  have hE : (Str.ofString "").length = 0 := by decide +kernel
  have hw : ∀ k, k ≤ its.size → (((List.range k).map fun j => pa j ++ pb j).map (·.length)).sum ≤ k * 200 := by
    intro k
    induction k with
    | zero => intro _; simp
    | succ k ih =>
      intro hk
      have h1 := ih (by omega)
      have h2 := hsm.2 k (by omega)
      have h3 : (pa k ++ pb k).length = (pa k).length + (pb k).length := by
        show (pa k ++ pb k).cps.size = (pa k).cps.size + (pb k).cps.size
        exact Array.size_append
      rw [List.range_succ, List.map_append, List.map_append, List.sum_append]
      simp only [List.map_cons, List.map_nil, List.sum_cons, List.sum_nil, h3]
      omega
  refine join_rowsK F2 G2 Gn (Nat.le_refl _) (fun j => pa j ++ pb j) (fun j v hv => hv.of.2) (joinOk_of_weight ?_ (by omega)) (fun s' t' F3 G3 hos3 hk3 => ?_) (by rw [sizeLine_eq]; omega)
  · have := hw its.size (Nat.le_refl _)
    simp only [List.length_map, List.length_range]
    omega
  · refine h s' t' ps' (fun b o hbb e => ?_) ⟨hk3 _ _ (Nat.le_of_lt hPL) hP2, hps2⟩ G3 (hos3.trans hos2)
    exact hide_keep F3 b o (by simpa using hbb) e
end
theorem kwB24_end : True := by k_with_none; exact True.intro
end Mine
end
section
open PySem PySem.W PyProof.Rows PySem.Calls
set_option maxRecDepth 100000
namespace Mine
section
variable {w : World} {A : Around} {s : Shared} {E : Value → Shared → Prop} {x dx L q so : Addr} {its : Array Value} {n : Nat} {B : Heap} {m mg mb : Str → Option Value} {news news' : List (Addr × Obj)} {p : Int}
theorem acc_truthy {od : Obj} {Q : Bool → Shared → Prop} (X : (hd.heap_39 w.params).In s.heap) (hx : s.heap.get? x = some (accObj dx its n)) (hdx : s.heap.get? dx = some od)
    (h : wpAny (model PG w) A.in1 (call (.ref 68) [.ref x]) (fun v s' => ∃ k t, v = .int k t ∧ 0 ≤ k ∧ k < 2 ^ 63 ∧ ∀ tk, Q (k != 0) { s' with toks := tk }) E s) : wpAny (model PG w) A (truthy (.ref x)) Q E s := by
  have I := accInst hx hdx
  have key : wpAny (model PG w) A (runValue (.builtin "len" ⟨[.ref x], []⟩)) (fun r s' => ∃ k t, r = .int k t ∧ Q (k != 0) s') E s := by
    refine wpAny_runValue (codeAny_builtin entry_len ?_)
    rw [Around.under_plainId plain_len _]
    unfold Builtin.«len»
    refine wpAny_bind (m := oneArg "len" _) (wpAny_pure ?_)
    refine wpAny_bind (m := callSpecial? (.ref x) (Str.ofString "__len__")) (special_fn X I (by k_is) (by k_is) (wpAny_mono h (fun r s' hr => ?_) fun _ _ y => y))
    obtain ⟨k, t, rfl, h0, h1, hq⟩ := hr
    refine wpAny_bind (wpAny_holding (wpAny_pure ?_))
    refine wpAny_bind (wpAny_letGo ?_)
    show wpAny _ _ (if k < 0 then _ else _) _ _ _
    rw [if_neg (by omega)]
    show wpAny _ _ (if k ≥ 2 ^ 63 then _ else _) _ _ _
    rw [if_neg (by omega)]
    exact wpAny_bind (wpAny_mkInt (wpAny_pure ⟨_, _, rfl, hq _⟩))
  unfold truthy
  refine wpAny_bind (m := callSpecial? (.ref x) (Str.ofString "__bool__")) (wpAny_bind (wpAny_bind (I.type.here ((looks_findIn X (show findIn (hd.heap_39 w.params) (.ref 101) "__bool__" = some none by k_is)).here (wpAny_pure ?_)))))
  refine wpAny_bind (wpAny_bind (I.type.here ((looks_findIn X (show findIn (hd.heap_39 w.params) (.ref 101) "__len__" = some (some (.ref 68)) by k_is)).here ?_)))
  rw [if_neg (by decide)]
  refine wpAny_bind (wpAny_mono key (fun r s' hr => ?_) fun _ _ y => y)
  obtain ⟨k, t, rfl, hq⟩ := hr
  exact wpAny_pure hq
theorem retQ {α : Type} {Q : α → Shared → Prop} {v v' : α} {S : Shared} (h : Q v S) (e : v = v') : Q v' S := e ▸ h
theorem frBut {P : Addr} {h h' : Heap} (F : Fr B L h m) (k : Heap.ExtBut P h h') (hB : B.get? P = none) (hL : P < L) : Fr B L h' m :=
  ⟨F.ns.extBut k (fun q => Nat.lt_irrefl _ (q ▸ hL)), fun b o e => k b o (fun q => by rw [q, hB] at e; cases e) (F.keep b o e), F.above⟩
theorem Pcs.ext {h h' : Heap} {Ts : Nat → Addr} {pa pb : Nat → Str} {ta tb : Nat → Tok} (T : Pcs h its Ts pa pb ta tb) (k : Ext h h') : Pcs h' its Ts pa pb ta tb := ⟨T.at_, fun j hj => (T.tup j hj).at fun o e => k _ o e⟩
theorem hideKeep2 {h h' : Heap} (F : Fr (hideAll h [63, 70]) L h' m) : ∀ b o, b ≠ 63 → b ≠ 70 → h.get? b = some o → h'.get? b = some o := fun b o h1 h2 e => hide_keep F b o (by simp [h1, h2]) e
/-- two tables apart -/
theorem two_aside {ps qs : Array Value} (T1 : TabAt' s.heap 63 posLen ps) (T2 : TabAt' s.heap 70 posStr qs) : ∀ y ∈ [(63 : Addr), 70], ∃ o, s.heap.get? y = some o ∧ Aside o := fun y hy => by
  simp only [List.mem_cons, List.not_mem_nil, or_false] at hy
  rcases hy with rfl | rfl
  · exact ⟨_, T1.get, .inr ⟨_, rfl⟩⟩
  · exact ⟨_, T2.get, .inr ⟨_, rfl⟩⟩
set_option maxHeartbeats 1000000
theorem kwB25_1 : True := by (k_with_none; k_with "call type:str" => refine Halt.go ?_); exact True.intro
theorem kwB25_2 : True := by (k_with "truthy ref" => refine Halt.go ?_); exact True.intro
theorem kwB25_3 : True := by (k_with "getAttr ref" => (k_dflt (refine' size_attr ?k1 ?k2 ?k3 ?k4 ?_; (case k1 => k_asm); (case k2 => k_asm); (case k3 => assumption); (case k4 => assumption)))); exact True.intro
theorem ws_call {Q : Value → Shared → Prop} {Ts : Nat → Addr} {pa pb : Nat → Str} {ta tb : Nat → Tok} {ps qs : Array Value} (C : Cx w s.heap) (hb : Bm s.heap) (G : AllBare s.gens) (H : AccAt w s.heap x dx its p) (hT : Pcs s.heap its Ts pa pb ta tb) (T1 : TabAt' s.heap 63 posLen ps) (T2 : TabAt' s.heap 70 posStr qs) (hh : A.handled = none) (hr : A.depth + 4 < recursionLimit) (hu : A.units + 20 < cLine)
    (hsm : Small its.size pa pb) (hp : 0 ≤ p ∧ p < 1000)
    (h : ∀ (s' : Shared) ps' qs', (∀ b o, b ≠ 63 → b ≠ 70 → s.heap.get? b = some o → s'.heap.get? b = some o) → TabAt' s'.heap 63 posLen ps' → TabAt' s'.heap 70 posStr qs' → AllBare s'.gens → s'.os = s.os →
      Q (.bool (decide (p = 0) && (decide (preSum (lenVal pa pb) its.size = 0) || Txt.isspace (Txt.join (Str.ofString "") ((List.range its.size).map fun j => pa j ++ pb j))))) s') :
    wpAny (model PG w) A (call (.ref 90) [.ref x]) Q E s := by
  obtain ⟨⟨n, hx⟩, td, tp, nd, hdx⟩ := H
  have ha := two_aside T1 T2
  have C' := C.hide ha
  have hb' := hb.hide ha
  have nP : ∀ b o, s.heap.get? b = some o → o.cls ≠ .none → (hideAll s.heap [63, 70]).get? b = some o := fun b o e hc => hideAll_get _ e fun hm => by
    simp only [List.mem_cons, List.not_mem_nil, or_false] at hm
    rcases hm with rfl | rfl
    · rw [T1.get] at e; cases e; exact hc rfl
    · rw [T2.get] at e; cases e; exact hc rfl
  have hx' := nP _ _ hx (by simp)
  have hdx' := nP _ _ hdx (by simp)
  have hT' : Pcs (hideAll s.heap [63, 70]) its Ts pa pb ta tb := ⟨hT.at_, fun j hj => let ⟨o, e, hc, r⟩ := hT.tup j hj; ⟨o, nP _ _ e (by rw [hc]; simp), hc, r⟩⟩
  obtain ⟨X, mg, mb, T⟩ := C
  refine wpAny_call ?_
  refine enterK (binds := [(Str.ofString "self", .ref x)]) X T (by omega) (by k_is) (by k_is) (BindsTo.of_eq rfl) (locs rfl) ?_ (by decide)
  intro L h₁ F₀ N X' T'
  clear X T X' T' N
  have F := hideF [63, 70] F₀
  have U1 : TabAt' h₁ 63 posLen ps := ⟨F₀.keep _ _ T1.get, T1.st⟩
  have U2 : TabAt' h₁ 70 posStr qs := ⟨F₀.keep _ _ T2.get, T2.st⟩
  have hPL : 63 < L ∧ 70 < L := ⟨Nat.lt_of_lt_of_le (Heap.lt_size T1.get) F₀.above, Nat.lt_of_lt_of_le (Heap.lt_size T2.get) F₀.above⟩
  have hPB : (hideAll s.heap [63, 70]).get? 63 = none ∧ (hideAll s.heap [63, 70]).get? 70 = none := ⟨hideAll_none _ (.head _), hideAll_none _ (.tail _ (.head _))⟩
  clear F₀ hx hdx
  obtain ⟨X, mg, mb, T⟩ := C'
  have hd2 : ∀ env, (A.deeper env).depth = A.depth + 1 := fun _ => rfl
  dsimp only
  have hn := hsm.1
  have bnd : ∀ j, j < its.size → 0 ≤ lenVal pa pb j ∧ lenVal pa pb j ≤ 200 := fun j hj => by
    have := hsm.2 j hj
    simp only [lenVal]
    omega
  have htot := preSum_le bnd its.size (Nat.le_refl _)
  k_steps
  · unfold Halt
    have Cx1 := cxF F X T
    refine acc_truthy (X.keeps F.keep) (F.keep _ _ hx') (F.keep _ _ hdx') (len_call Cx1 (hb'.ext F.keep) G ⟨⟨n, F.keep _ _ hx'⟩, td, tp, nd, F.keep _ _ hdx'⟩ (hT'.ext F.keep) U1 hh (by show A.depth + 1 + 2 < _; omega) hsm hp ?_)
    intro s' t ps' k1 U1' G' hos'
    refine ⟨_, _, rfl, by omega, by omega, fun tk => ?_⟩
    have F' := frBut F k1 hPB.1 hPL.1
    have F0 := F
    have U2' : TabAt' s'.heap 70 posStr qs := ⟨k1 _ _ (by decide) U2.get, U2.st⟩
    clear F U1 U2 G
    obtain ⟨hp2, g2, d2, t2, os2⟩ := s'
    dsimp only at k1 U1' G' hos' F' U2' ⊢
    generalize hz : (p + preSum (lenVal pa pb) its.size != 0) = z
    cases z
    · have hz' : p + preSum (lenVal pa pb) its.size = 0 := by simpa using hz
      k_steps
      refine retQ (h _ ps' qs (fun b o h1 h2 e => k1 b o h1 (hideKeep2 F0 b o h1 h2 e)) U1' U2' G' hos') ?_
      rw [decide_eq_true (show p = 0 by omega), decide_eq_true (show preSum (lenVal pa pb) its.size = 0 by omega)]
      rfl
    · have hz' : p + preSum (lenVal pa pb) its.size ≠ 0 := by simpa using hz
      k_steps
      unfold Halt
      refine kso_call (by show A.units + 3 + 1 + 1 < _; omega) (X.keeps F'.keep) (accInst (s := ⟨hp2, g2, d2, tk, os2⟩) (F'.keep _ _ hx') (F'.keep _ _ hdx')) (by k_is) (by k_is) ?_
      refine str_call (s := ⟨hp2, g2, d2, tk, os2⟩) (cxF F' X T) (hb'.ext F'.keep) G' ⟨⟨n, F'.keep _ _ hx'⟩, td, tp, nd, F'.keep _ _ hdx'⟩ (hT'.ext F'.keep) U2' hh (by show A.depth + 1 + 2 < _; omega) hsm ?_
      intro s3 t3 qs' k3 U3 G3 hos3
      dsimp only at k3 hos3
      have F3 := frBut F' k3 hPB.2 hPL.2
      have U1'' : TabAt' s3.heap 63 posLen ps' := ⟨k3 _ _ (by decide) U1'.get, U1'.st⟩
      show wpAny _ _ _ _ _ _
      generalize hX : Txt.join (Str.ofString "") ((List.range its.size).map fun j => pa j ++ pb j) = txt
      clear F'
      obtain ⟨hp3, g3, d3, tk3, os3⟩ := s3
      dsimp only at k3 hos3 F3 U1'' U3 G3 ⊢
      k_steps
      refine retQ (h _ ps' qs' (fun b o h1 h2 e => k3 b o h2 (k1 b o h1 (hideKeep2 F0 b o h1 h2 e))) U1'' U3 G3 (hos3.trans hos')) ?_
      rw [hX, decide_eq_true (show p = 0 by omega), decide_eq_false (show ¬ preSum (lenVal pa pb) its.size = 0 by omega)]
      rfl
  · dsimp only
    refine retQ (h _ ps qs (hideKeep2 F) U1 U2 G rfl) ?_
    have e0 : (p == 0) = false := by simpa using (show p ≠ 0 by assumption)
    rw [decide_eq_false (by assumption), e0]
    rfl
end
theorem kwB25_end : True := by k_with_none; exact True.intro
end Mine
end
section
open PySem PySem.W PyProof.Rows PySem.Calls
set_option maxRecDepth 100000
namespace Mine
/-- an int's test, an int's image, as of a value -/
noncomputable def pzV (pz : Int → Bool) : Value → Bool
  | .int i _ => pz i
  | _ => false
noncomputable def fV (f : Int → Value → Prop) (v y : Value) : Prop := ∃ i t, v = .int i t ∧ f i y
theorem ints_mem {us : List Value} {is : List Int} (h : IntsAre us is) : ∀ v ∈ us, ∃ i t, v = .int i t ∧ i ∈ is := by
  induction h with
  | nil => intro v hv; cases hv
  | cons i t _ ih =>
    intro v hv
    rcases List.mem_cons.mp hv with rfl | hv
    · exact ⟨i, t, rfl, .head _⟩
    · obtain ⟨j, u, e, hm⟩ := ih v hv
      exact ⟨j, u, e, .tail _ hm⟩
theorem paired_ints {us : List Value} {is : List Int} (h : IntsAre us is) (pz : Int → Bool) {f : Int → Value → Prop} : ∀ {ys : List Value}, Paired (fV f) (us.filter (pzV pz)) ys → Paired f (is.filter pz) ys := by
  induction h with
  | nil => intro ys hp; cases hp; exact .nil
  | cons i t _ ih =>
    intro ys hp
    by_cases hz : pz i = true
    · rw [List.filter_cons_of_pos (by exact hz)] at hp ⊢
      cases hp with
      | cons h1 h2 =>
        obtain ⟨j, u, e, hf⟩ := h1
        cases e
        exact .cons hf (ih h2)
    · rw [List.filter_cons_of_neg (by exact hz)] at hp ⊢
      exact ih hp
theorem list_of_at {its : Array Value} {vs : List Value} (hl : vs.length = its.size) (h : ∀ (j : Nat) (v : Value), vs[j]? = some v → its[j]? = some v) : vs = its.toList := by
  apply List.ext_getElem?
  intro j
  by_cases hj : j < vs.length
  · have e := h j vs[j] (List.getElem?_eq_getElem hj)
    rw [List.getElem?_eq_getElem hj, ← e]; simp
  · rw [List.getElem?_eq_none (by omega), List.getElem?_eq_none (by simp; omega)]
section
variable {prog : Program} {w : World} {A : Around} {s : Shared} {E : Value → Shared → Prop} {env : Env} {elt iter : Expr} {x : Str} {px : Pos} {ifs : List Expr} {scope : Scope} {cl : List (Str × Addr)} {pos : Pos} {Q : Value → Shared → Prop}
theorem comp_ints (pz : Int → Bool) (f : Int → Value → Prop) (hh : A.handled = none)
    (hclos : closureFor scope env = pure cl) (hcell : ∀ y ∈ scope.names, y.2 ≠ .cell) (hkind : scope.kind = .function)
    (hnames : ∀ y ∈ scope.names, y.2 = .local → scope.names.lookup y.1 = some .local) (hx : scope.names.lookup x = some .local)
    (h : wpAny (model prog w) A (eval iter env) (fun xv s₁ => ∃ l us is, xv = .ref l ∧ s₁.heap.IsList l (List.toArray us) ∧ IntsAre us is ∧ is.length ≤ 1000 ∧
      (∀ C i t (s₃ : Shared) m₃ E', i ∈ is → Fr s₁.heap C s₃.heap m₃ → m₃ x = some (.int i t) →
        wpAny (model prog w) A (forIn ifs true fun c r => if r = true then do let ok ← isTrue c (compEnvC scope cl C env) (eval c (compEnvC scope cl C env)); pure (ForInStep.yield ok) else pure (ForInStep.yield r))
          (fun ok s₄ => ok = pz i ∧ Keeps s₃ s₄) E' s₃) ∧
      (∀ C i t (s₃ : Shared) m₃ E', i ∈ is → pz i = true → Fr s₁.heap C s₃.heap m₃ → m₃ x = some (.int i t) →
        wpAny (model prog w) A (eval elt (compEnvC scope cl C env)) (fun y s₄ => f i y ∧ Keeps s₃ s₄) E' s₃) ∧
      (∀ D h' tk ys n, s₁.heap.get? D = none → h'.get? D = some (PySem.W.listOf ys n) → Paired f (is.filter pz) ys.toList → Ext s₁.heap h' → Q (.ref D) { s₁ with heap := h', toks := tk })) E s)
    (hs : ∀ x, foldedSetIterable iter env x = pure x := by intro _; rfl) :
    wpAny (model prog w) A (eval (.ListComp elt [⟨.Name x px, iter, ifs, 0⟩] scope pos) env) Q E s := by
  refine wpAny_ListComp_free (pzV pz) (fV f) hclos hcell hkind hnames hx (wpAny_mono h (fun xv s₁ h₁ => ?_) fun _ _ e => e) hs
  obtain ⟨l, us, is, rfl, hl, hi, hlen, ht, he, hQ⟩ := h₁
  obtain ⟨hp, g, d, tk, os⟩ := s₁
  dsimp only at hl ht he hQ
  obtain ⟨ol, hol, hol'⟩ := id hl
  have hlt : l < hp.objs.size := Heap.lt_size hol
  have hul := hi.length
  refine wpAny_pyIter_list hl ⟨hp.objs.size, _, _, _, _, _, rfl, Walks.list hh hp.objs.size l (Nat.ne_of_lt hlt) us.toArray, by rw [sizeLine_eq, List.size_toArray]; omega, ⟨⟨_, Heap.get?_push_size _ rfl, rfl, rfl⟩, hl.push _⟩, ?_, ⟨?_, ?_⟩, ?_⟩
  · intro b hb
    show b < (hp.push _).objs.size
    rw [Heap.size_push]
    rcases List.mem_cons.mp hb with rfl | hb
    · exact Nat.lt_succ_self _
    · rw [List.mem_singleton.mp hb]; exact Nat.lt_succ_of_lt hlt
  · intro C i v s₃ m₃ E' hC hv hn hm hk _
    have hvm : v ∈ us := List.mem_of_getElem? (by simpa using hv)
    obtain ⟨a, t, rfl, ha⟩ := ints_mem hi v hvm
    refine ht C a t s₃ m₃ E' ha ⟨hn, fun b o e => hk b o (fun hm => ?_) (Heap.get?_push_of_some _ e), ?_⟩ hm
    · rw [List.mem_singleton.mp hm] at e; exact absurd (Heap.lt_size e) (Nat.lt_irrefl _)
    · refine Nat.le_trans ?_ hC
      show hp.objs.size ≤ (hp.push _).objs.size
      rw [Heap.size_push]; exact Nat.le_succ _
  · intro C i v s₃ m₃ E' hC hv hpv hn hm hk _
    have hvm : v ∈ us := List.mem_of_getElem? (by simpa using hv)
    obtain ⟨a, t, rfl, ha⟩ := ints_mem hi v hvm
    refine wpAny_mono (he C a t s₃ m₃ E' ha hpv ⟨hn, fun b o e => hk b o (fun hm => ?_) (Heap.get?_push_of_some _ e), ?_⟩ hm) (fun y s₄ r => ⟨⟨a, t, rfl, r.1⟩, r.2⟩) fun _ _ e => e
    · rw [List.mem_singleton.mp hm] at e; exact absurd (Heap.lt_size e) (Nat.lt_irrefl _)
    · refine Nat.le_trans ?_ hC
      show hp.objs.size ≤ (hp.push _).objs.size
      rw [Heap.size_push]; exact Nat.le_succ _
  · intro D h' tk' ys vs hD _ hpl hvl hvs hF hk
    obtain ⟨n, hDo⟩ := hpl
    have hvs' : vs = us := by simpa using list_of_at hvl hvs
    subst hvs'
    have hD' : hp.get? D = none := by
      cases e : hp.get? D with
      | none => rfl
      | some o => rw [Heap.get?_push_of_some _ e] at hD; cases hD
    refine hQ D h' tk' ys n hD' hDo (paired_ints hi pz hF) fun b o e => hk b o (fun hm => ?_) (Heap.get?_push_of_some _ e)
    rw [List.mem_singleton.mp hm] at e; exact absurd (Heap.lt_size e) (Nat.lt_irrefl _)
end
end Mine
end
section
open PySem PySem.W PyProof.Rows PySem.Calls
set_option maxRecDepth 100000
namespace Mine
theorem paired_eq {α : Type} : ∀ {l₁ l₂ : List α}, Paired (fun v y => y = v) l₁ l₂ → l₂ = l₁
  | _, _, .nil => rfl
  | _, _, .cons h t => by rw [h, paired_eq t]
section
variable {w : World} {A : Around} {s : Shared} {E : Value → Shared → Prop} {env : Env} {elt iter : Expr} {x : Str} {px : Pos} {ifs : List Expr} {scope : Scope} {cl : List (Str × Addr)} {pos : Pos} {Q : Value → Shared → Prop}
theorem comp_acc (hh : A.handled = none)
    (hclos : closureFor scope env = pure cl) (hcell : ∀ y ∈ scope.names, y.2 ≠ .cell) (hkind : scope.kind = .function)
    (hnames : ∀ y ∈ scope.names, y.2 = .local → scope.names.lookup y.1 = some .local) (hx : scope.names.lookup x = some .local)
    (h : wpAny (model PG w) A (eval iter env) (fun xv s₁ => ∃ a dx its n, xv = .ref a ∧ s₁.heap.get? a = some (accObj dx its n) ∧ (hd.heap_39 w.params).In s₁.heap ∧ its.size ≤ sizeLine ∧
      (∀ C v (s₃ : Shared) m₃ E', Fr s₁.heap C s₃.heap m₃ → m₃ x = some v →
        wpAny (model PG w) A (eval elt (compEnvC scope cl C env)) (fun y s₄ => y = v ∧ Keeps s₃ s₄) E' s₃) ∧
      (∀ D h' tk n, s₁.heap.get? D = none → h'.get? D = some (PySem.W.listOf its n) → Ext s₁.heap h' → Q (.ref D) { s₁ with heap := h', toks := tk })) E s)
    (hs : ∀ x, foldedSetIterable iter env x = pure x := by intro _; rfl) :
    wpAny (model PG w) A (eval (.ListComp elt [⟨.Name x px, iter, [], 0⟩] scope pos) env) Q E s := by
  refine wpAny_ListComp_free (fun _ => true) (fun v y => y = v) hclos hcell hkind hnames hx (wpAny_mono h (fun xv s₁ h₁ => ?_) fun _ _ e => e) hs
  obtain ⟨a, dx, its, n, rfl, ha, X, hsz, he, hQ⟩ := h₁
  obtain ⟨hp, g, d, tk, os⟩ := s₁
  dsimp only at ha X he hQ
  have hlt : a < hp.objs.size := Heap.lt_size ha
  refine acc_iter (s := ⟨hp, g, d, tk, os⟩) X ha ⟨hp.objs.size, _, _, _, _, _, rfl, accWalk (dx := dx) (its := its) (n := n) hh (Nat.ne_of_lt hlt), hsz, ⟨⟨_, Heap.get?_push_size _ rfl, rfl, rfl⟩, Heap.get?_push_of_some _ ha⟩, ?_, ⟨?_, ?_⟩, ?_⟩
  · intro b hb
    show b < (hp.push _).objs.size
    rw [Heap.size_push]
    rcases List.mem_cons.mp hb with rfl | hb
    · exact Nat.lt_succ_self _
    · rw [List.mem_singleton.mp hb]; exact Nat.lt_succ_of_lt hlt
  · intro C i v s₃ m₃ E' hC hv hn hm hk _
    exact wpAny_tests_nil ⟨rfl, _, _, rfl, fun _ _ e => e⟩
  · intro C i v s₃ m₃ E' hC hv hpv hn hm hk _
    refine he C v s₃ m₃ E' ⟨hn, fun b o e => hk b o (fun hm => ?_) (Heap.get?_push_of_some _ e), ?_⟩ hm
    · rw [List.mem_singleton.mp hm] at e; exact absurd (Heap.lt_size e) (Nat.lt_irrefl _)
    · refine Nat.le_trans ?_ hC
      show hp.objs.size ≤ (hp.push _).objs.size
      rw [Heap.size_push]; exact Nat.le_succ _
  · intro D h' tk' ys vs hD _ hpl hvl hvs hF hk
    obtain ⟨n, hDo⟩ := hpl
    have hvs' : vs = its.toList := list_of_at hvl hvs
    have hys := paired_eq hF
    rw [List.filter_eq_self.mpr (fun _ _ => rfl), hvs'] at hys
    have hys' : ys = its := by cases ys; cases its; exact congrArg Array.mk hys
    rw [hys'] at hDo
    have hD' : hp.get? D = none := by
      cases e : hp.get? D with
      | none => rfl
      | some o => rw [Heap.get?_push_of_some _ e] at hD; cases hD
    refine hQ D h' tk' n hD' hDo fun b o e => hk b o (fun hm => ?_) (Heap.get?_push_of_some _ e)
    rw [List.mem_singleton.mp hm] at e; exact absurd (Heap.lt_size e) (Nat.lt_irrefl _)
/-- a comprehension of tuples, over ints -/
theorem comp_tup (G : Int → Array Value → Prop) (hh : A.handled = none)
    (hclos : closureFor scope env = pure cl) (hcell : ∀ y ∈ scope.names, y.2 ≠ .cell) (hkind : scope.kind = .function)
    (hnames : ∀ y ∈ scope.names, y.2 = .local → scope.names.lookup y.1 = some .local) (hx : scope.names.lookup x = some .local)
    (h : wpAny (model PG w) A (eval iter env) (fun xv s₁ => ∃ l us is, xv = .ref l ∧ s₁.heap.IsList l (List.toArray us) ∧ IntsAre us is ∧ is.length ≤ 1000 ∧
      (∀ C i t (s₃ : Shared) m₃ E', i ∈ is → Fr s₁.heap C s₃.heap m₃ → m₃ x = some (.int i t) →
        wpAny (model PG w) A (eval elt (compEnvC scope cl C env)) (fun y s₄ => (∃ T vs, y = .ref T ∧ s₃.heap.get? T = none ∧ s₄.heap.IsTuple T vs ∧ G i vs) ∧ Keeps s₃ s₄) E' s₃) ∧
      (∀ D h' tk ys, s₁.heap.get? D = none → h'.IsList D ys → Paired (fun i y => ∃ T vs, y = .ref T ∧ h'.IsTuple T vs ∧ G i vs) is ys.toList → Ext s₁.heap h' → Q (.ref D) { s₁ with heap := h', toks := tk })) E s)
    (hs : ∀ x, foldedSetIterable iter env x = pure x := by intro _; rfl) :
    wpAny (model PG w) A (eval (.ListComp elt [⟨.Name x px, iter, [], 0⟩] scope pos) env) Q E s := by
  rw [eval_ListComp]
  refine wpAny_comprehension_free (use := none) rfl hs hclos hkind hnames (wpAny_mono h (fun xv s₁ h₁ => ?_) fun _ _ e => e)
  obtain ⟨l, us, is, rfl, hl, hi, hlen, he, hQ⟩ := h₁
  obtain ⟨hp, g, d, tk, os⟩ := s₁
  dsimp only at hl he hQ
  obtain ⟨ol, hol, hol'⟩ := id hl
  have hlt : l < hp.objs.size := Heap.lt_size hol
  have hul := hi.length
  refine wpAny_pyIter_list hl (wpAny_newObj_type (wpAny_newFunctionEnv hcell (by intro y hy; simp at hy) (fun h₁ hns₁ hsb₁ => ?_) hkind))
  dsimp only at hns₁ hsb₁ ⊢
  have z1 : (hp.push { cls := .type "list_iterator", data := .fields #[.ref l, .int 0 0] }).objs.size = hp.objs.size + 1 := Heap.size_push ..
  have hI1 : (hp.push { cls := .type "list_iterator", data := .fields #[.ref l, .int 0 0] }).get? hp.objs.size = some { cls := .type "list_iterator", data := .fields #[.ref l, .int 0 0] } := Heap.get?_push_size _ rfl
  have k1 : Ext hp (hp.push { cls := .type "list_iterator", data := .fields #[.ref l, .int 0 0] }) := fun _ _ e => Heap.get?_push_of_some _ e
  generalize hp.push { cls := .type "list_iterator", data := .fields #[.ref l, .int 0 0] } = H1 at z1 hI1 k1 hns₁ hsb₁ ⊢
  have z2 : (H1.push { cls := .type "list", dict := none, data := .seq ([] : List Value).toArray }).objs.size = hp.objs.size + 2 := by rw [Heap.size_push, z1]
  have hD2 : (H1.push { cls := .type "list", dict := none, data := .seq ([] : List Value).toArray }).get? H1.objs.size = some { cls := .type "list", dict := none, data := .seq ([] : List Value).toArray } := Heap.get?_push_size _ rfl
  have k2 : Ext H1 (H1.push { cls := .type "list", dict := none, data := .seq ([] : List Value).toArray }) := fun _ _ e => Heap.get?_push_of_some _ e
  generalize H1.push { cls := .type "list", dict := none, data := .seq ([] : List Value).toArray } = H2 at z2 hD2 k2 hns₁ hsb₁ ⊢
  rw [z2] at hns₁ hsb₁ ⊢
  rw [z1] at hD2 ⊢
  have k3 : ∀ b o, b ≠ hp.objs.size + 2 → H2.get? b = some o → h₁.get? b = some o := fun b o hb e => hsb₁.extBut b o hb (Heap.get?_push_of_some _ e)
  have old : ∀ b o, hp.get? b = some o → h₁.get? b = some o ∧ b ≠ hp.objs.size ∧ b ≠ hp.objs.size + 1 ∧ b ≠ hp.objs.size + 2 := fun b o e => by
    have hb := Heap.lt_size e
    have e1 : b ≠ hp.objs.size := Nat.ne_of_lt hb
    have e2 : b ≠ hp.objs.size + 1 := Nat.ne_of_lt (Nat.lt_succ_of_lt hb)
    have e3 : b ≠ hp.objs.size + 2 := Nat.ne_of_lt (Nat.lt_succ_of_lt (Nat.lt_succ_of_lt hb))
    exact ⟨k3 b o e3 (k2 _ _ (k1 _ _ e)), e1, e2, e3⟩
  have n01 : (hp.objs.size + 1 : Nat) ≠ hp.objs.size := Nat.succ_ne_self _
  have n02 : (hp.objs.size : Nat) ≠ hp.objs.size + 2 := by omega
  have n12 : (hp.objs.size + 1 : Nat) ≠ hp.objs.size + 2 := by omega
  have hit : h₁.IsListIter hp.objs.size l 0 := ⟨_, k3 _ _ n02 (k2 _ _ hI1), rfl, rfl⟩
  have hacc : h₁.IsList (hp.objs.size + 1) #[] := ⟨_, k3 _ _ n12 hD2, rfl, _, rfl⟩
  have hl₁ : h₁.IsList l us.toArray := ⟨ol, (old _ _ hol).1, hol'⟩
  have loop : ∀ s₂ : Shared, s₂ = { heap := h₁, gens := g, drawn := d, toks := tk + ([] : List (Str × Value)).length, os := os } →
      codeAny (model PG w) A (.compLoop (.ListComp elt [⟨.Name x px, iter, [], 0⟩] scope pos) 0 (.ref hp.objs.size) (.ref (hp.objs.size + 1)) (compEnvC scope cl (hp.objs.size + 2) env))
        (compPost (model PG w) A E none Q (.ref (hp.objs.size + 1)) (hp.objs.size + 2)) s₂ := by
    rintro s₂ rfl
    refine codeAny_compLoop_tup (hsz := by rw [sizeLine_eq, List.size_toArray]; omega) (cenv := compEnvC scope cl (hp.objs.size + 2) env) (fun _ => true) (fun v vs => ∃ i t, v = .int i t ∧ G i vs) hh (lookup_relabel_local hx) (by simp [compEnvC, relabel, hkind]) n01 n12 n02
      (old _ _ hol).2.1 (old _ _ hol).2.2.2 (old _ _ hol).2.2.1 hit hl₁ hacc hns₁ (fun v s₂ m₂ hv hn hm hk => wpAny_tests_nil ⟨rfl, _, _, rfl, fun _ _ e => e⟩) (fun v s₂ m₂ hv _ hn hm hk => ?_) fun h' tk' m' ys hn ha hF hk => ?_
    · obtain ⟨i, t, rfl, hmem⟩ := ints_mem hi v (by simpa using hv)
      refine wpAny_mono (he (hp.objs.size + 2) i t s₂ m₂ _ hmem ⟨hn, fun b o e => hk b o (old b o e).2.2.2 (old b o e).2.1 (old b o e).2.2.1 (old b o e).1, Nat.le_add_right _ 2⟩ hm) (fun y s₄ r => ?_) fun _ _ e => e
      obtain ⟨⟨T, vs, e1, e2, e3, e4⟩, r2⟩ := r
      exact ⟨⟨T, vs, e1, e2, e3, i, t, rfl, e4⟩, r2⟩
    · refine ⟨m', hn, fun h'' hs'' => hQ _ h'' tk' ys (Heap.get?_none_of_le (Nat.le_succ _)) (ha.extBut hs''.extBut n12) ?_ fun b o e => hs''.extBut b o (old b o e).2.2.2 (hk b o (old b o e).2.2.2 (old b o e).2.1 (old b o e).2.2.1 (old b o e).1)⟩
      rw [List.filter_eq_self.mpr (fun _ _ => rfl)] at hF
      have conv : ∀ {us : List Value} {is : List Int} {yl : List Value}, IntsAre us is → Paired (TupAt (hp.objs.size + 2) hp.objs.size (hp.objs.size + 1) (fun v vs => ∃ i t, v = .int i t ∧ G i vs) h') us yl →
          Paired (fun i y => ∃ T vs, y = .ref T ∧ h''.IsTuple T vs ∧ G i vs) is yl := by
        intro us is yl hu
        induction hu generalizing yl with
        | nil => intro hp; cases hp; exact .nil
        | cons i t _ ih =>
          intro hp
          cases hp with
          | cons a b =>
            refine .cons ?_ (ih b)
            obtain ⟨T, vs, rfl, hC, _, _, hT, j, u, e, hG⟩ := a
            cases e
            exact ⟨T, vs, rfl, hT.at fun o eo => hs''.extBut T o hC eo, hG⟩
      exact conv hi hF
  exact codeAny_compStart_list (loop _ rfl) (wpAny_pyIter_listiter hit (loop _ rfl))
end
end Mine
end
section
open PySem PySem.W PyProof.Rows PySem.Calls
set_option maxRecDepth 100000
namespace Mine
section
variable {w : World} {A : Around} {s : Shared} {E : Value → Shared → Prop} {B : Heap} {L : Addr} {m mg mb : Str → Option Value} {news : List (Addr × Obj)}
theorem newAt {h h' : Heap} (F : Fr B L h m) (k : Ext h h') {D : Addr} {o : Obj} (hn : h.get? D = none) (hD : h'.get? D = some o) : h'.get? D = some o ∧ D ≠ L ∧ B.get? D = none :=
  ⟨hD, (fun e => by obtain ⟨oL, _, _, hL, _⟩ := F.ns; rw [e, hL] at hn; cases hn), by
    cases e : B.get? D with
    | none => rfl
    | some o' => rw [F.keep _ _ e] at hn; cases hn⟩
theorem newLt {h : Heap} {D : Addr} (N : News B L h news) (hn : h.get? D = none) : ∀ p ∈ news, p.1 ≠ D := fun p hp e => by have := (N p hp).1; rw [e, hn] at this; cases this
theorem mk0_N {Q : Value → Shared → Prop} (F : Fr B L s.heap m) (N : News B L s.heap news) (X : (hd.heap_39 w.params).In B) (T : TRd mg mb B) (hr : A.depth + 2 < recursionLimit)
    (h : ∀ x dx h' tk n td tp nd, Fr B L h' m → News B L h' ((x, accObj dx #[] n) :: (dx, sizeDict w td 0 tp nd) :: news) → x ≠ dx → (∀ p ∈ news, p.1 ≠ x) → (∀ p ∈ news, p.1 ≠ dx) → Q (.ref x) { s with heap := h', toks := tk }) :
    wpAny (model PG w) A (call (.ref 101) []) Q E s := by
  refine mk_acc0 (cxF F X T) hr fun x dx h' tk n td tp nd k hx hd hne e1 e2 => ?_
  refine h x dx h' tk n td tp nd (frE F k) ?_ hne (newLt N hx) (newLt N hd)
  intro q hq
  rcases List.mem_cons.mp hq with rfl | hq
  · exact newAt F k hx e1
  · rcases List.mem_cons.mp hq with rfl | hq
    · exact newAt F k hd e2
    · exact newsE N k q hq
theorem mk1_N {Q : Value → Shared → Prop} {p : Int} {tp : Tok} (F : Fr B L s.heap m) (N : News B L s.heap news) (X : (hd.heap_39 w.params).In B) (T : TRd mg mb B) (hr : A.depth + 2 < recursionLimit)
    (h : ∀ x dx h' tk n td nd, Fr B L h' m → News B L h' ((x, accObj dx #[] n) :: (dx, sizeDict w td p tp nd) :: news) → x ≠ dx → (∀ p ∈ news, p.1 ≠ x) → (∀ p ∈ news, p.1 ≠ dx) → Q (.ref x) { s with heap := h', toks := tk }) :
    wpAny (model PG w) A (call (.ref 101) [.int p tp]) Q E s := by
  refine mk_acc (cxF F X T) hr fun x dx h' tk n td nd k hx hd hne e1 e2 => ?_
  refine h x dx h' tk n td nd (frE F k) ?_ hne (newLt N hx) (newLt N hd)
  intro q hq
  rcases List.mem_cons.mp hq with rfl | hq
  · exact newAt F k hx e1
  · rcases List.mem_cons.mp hq with rfl | hq
    · exact newAt F k hd e2
    · exact newsE N k q hq
theorem worths_N {Q : Value → Shared → Prop} {W : Addr} {vs : List Value} {cs : List Int} (F : Fr B L s.heap m) (N : News B L s.heap news) (X : (hd.heap_39 w.params).In B) (T : TRd mg mb B) (hr : A.depth + 1 < recursionLimit) (hh : A.handled = none)
    (hW : s.heap.IsList W vs.toArray) (hv : IntsAre vs cs) (hl : cs.length < 1000)
    (h : ∀ D us n h' tk, Fr B L h' m → News B L h' ((D, PySem.W.listOf (List.toArray us) n) :: news) → IntsAre us ((List.range cs.length).map (worthOf cs)) → (∀ p ∈ news, p.1 ≠ D) → Q (.ref D) { s with heap := h', toks := tk }) :
    wpAny (model PG w) A (call (.ref 182) [.ref W]) Q E s := by
  refine lawworths_call (cxF F X T) hr hh hW hv hl Q E fun D us n h' tk k hD e hi => ?_
  refine h D us n h' tk (frE F k) ?_ hi (newLt N hD)
  intro q hq
  rcases List.mem_cons.mp hq with rfl | hq
  · exact newAt F k hD e
  · exact newsE N k q hq
/-- a comprehension over ints, its result in the ledger -/
theorem compN {env : Env} {elt iter : Expr} {x : Str} {px : Pos} {ifs : List Expr} {scope : Scope} {cl : List (Str × Addr)} {pos : Pos} {Q : Value → Shared → Prop} (pz : Int → Bool) (f : Int → Value → Prop) (hh : A.handled = none)
    (hclos : closureFor scope env = pure cl) (hcell : ∀ y ∈ scope.names, y.2 ≠ .cell) (hkind : scope.kind = .function)
    (hnames : ∀ y ∈ scope.names, y.2 = .local → scope.names.lookup y.1 = some .local) (hx : scope.names.lookup x = some .local)
    (h : wpAny (model PG w) A (eval iter env) (fun xv s₁ => Halt (∃ l us is m news, xv = .ref l ∧ s₁.heap.IsList l (List.toArray us) ∧ IntsAre us is ∧ is.length ≤ 1000 ∧ Fr B L s₁.heap m ∧ News B L s₁.heap news ∧
      (∀ C i t (s₃ : Shared) m₃ E', i ∈ is → Fr s₁.heap C s₃.heap m₃ → m₃ x = some (.int i t) →
        wpAny (model PG w) A (forIn ifs true fun c r => if r = true then do let ok ← isTrue c (compEnvC scope cl C env) (eval c (compEnvC scope cl C env)); pure (ForInStep.yield ok) else pure (ForInStep.yield r))
          (fun ok s₄ => ok = pz i ∧ Keeps s₃ s₄) E' s₃) ∧
      (∀ C i t (s₃ : Shared) m₃ E', i ∈ is → pz i = true → Fr s₁.heap C s₃.heap m₃ → m₃ x = some (.int i t) →
        wpAny (model PG w) A (eval elt (compEnvC scope cl C env)) (fun y s₄ => f i y ∧ Keeps s₃ s₄) E' s₃) ∧
      (∀ D h' tk ys n, Fr B L h' m → News B L h' ((D, PySem.W.listOf ys n) :: news) → (∀ p ∈ news, p.1 ≠ D) → Paired f (is.filter pz) ys.toList → Q (.ref D) { s₁ with heap := h', toks := tk }))) E s)
    (hs : ∀ x, foldedSetIterable iter env x = pure x := by intro _; rfl) :
    wpAny (model PG w) A (eval (.ListComp elt [⟨.Name x px, iter, ifs, 0⟩] scope pos) env) Q E s := by
  refine comp_ints pz f hh hclos hcell hkind hnames hx (wpAny_mono h (fun xv s₁ h₁ => ?_) fun _ _ e => e) hs
  obtain ⟨l, us, is, m, news, e, hl, hi, hlen, F, N, ht, he, hQ⟩ := h₁
  refine ⟨l, us, is, e, hl, hi, hlen, ht, he, fun D h' tk ys n hD eD hp k => hQ D h' tk ys n (frE F k) ?_ (newLt N hD) hp⟩
  intro q hq
  rcases List.mem_cons.mp hq with rfl | hq
  · exact newAt F k hD eD
  · exact newsE N k q hq
theorem also {h : Heap} (N : News B L h news) {p : Addr × Obj} (hm : p ∈ news) {r : List (Addr × Obj)} (R : News B L h r) : News B L h (p :: r) := fun q hq => by
  rcases List.mem_cons.mp hq with rfl | hq
  · exact N _ hm
  · exact R q hq
theorem ints_of_paired {f : Int → Int} : ∀ {is : List Int} {ys : List Value}, Paired (fun i y => ∃ t, y = .int (f i) t) is ys → IntsAre ys (is.map f)
  | _, _, .nil => .nil
  | _, _, .cons ⟨t, e⟩ r => by rw [e]; exact .cons _ _ (ints_of_paired r)
end
end Mine
end
section
open PySem PySem.W PyProof.Rows PySem.Calls
set_option maxRecDepth 100000
namespace Mine
noncomputable def numsOf (ns : List Int) : List Int := (ns.take 10).map (fun i => i.fmod 1000000000) ++ [20, 24, 3, 1, 29]
noncomputable def codesOf (nums : List Int) : List Int := nums.map fun n => ((codeOf n : Nat) : Int)
noncomputable def lawStmts (K : Frag) : List Stmt := match K.lookup 201 with
  | some ⟨_, _, .func fd, _⟩ => (match fd.body with | .stmts b => b | _ => [])
  | _ => []
noncomputable def lawScope (K : Frag) : Scope := match K.lookup 201 with
  | some ⟨_, _, .func fd, _⟩ => fd.scope
  | _ => default
noncomputable def theFor : List Stmt → List Stmt
  | [] => []
  | .For _ _ b _ _ :: _ => b
  | _ :: r => theFor r
noncomputable abbrev loopBody (w : World) : List Stmt := theFor (lawStmts (hd.heap_39 w.params))
noncomputable abbrev lawEnv (w : World) (L : Addr) : Env := envOfC (Str.ofString "law") (lawScope (hd.heap_39 w.params)) L 201 (.ref 200)
/-- a thing that no step of the law changes -/
noncomputable def Stat (o : Obj) : Prop := (∀ dx its n, o ≠ accObj dx its n) ∧ ∀ ps, o ≠ tabObj ps
theorem Stat.list {ys : Array Value} {n : Nat} : Stat (PySem.W.listOf ys n) := ⟨fun _ _ _ e => (by cases e), fun _ e => (by cases e)⟩
theorem Stat.tuple {ys : Array Value} {n : Nat} : Stat { cls := .type "tuple", data := .seq ys n } := ⟨fun _ _ _ e => (by cases e), fun _ e => (by cases e)⟩
theorem Stat.dict {w : World} {tk : Tok} {p : Int} {tp : Tok} {n : Nat} : Stat (sizeDict w tk p tp n) := ⟨fun _ _ _ e => (by cases e), fun _ e => (by cases e)⟩
theorem Stat.cell {o : Obj} {v : Option Value} (h : o.data = .cell v) : Stat o := ⟨fun _ _ _ e => (by subst e; cases h), fun _ e => (by subst e; cases h)⟩
section
variable {w : World} {A : Around} {s : Shared} {E : Value → Shared → Prop} {B : Heap} {L : Addr} {m mg mb : Str → Option Value} {rs : List (Addr × Obj)} {h h' : Heap}
theorem apartS (N : News B L h rs) (hs : ∀ p ∈ rs, Stat p.2) {a : Addr} {o : Obj} (ha : h.get? a = some o) (ho : Aside o) : ∀ p ∈ rs, p.1 ≠ a := fun p hp e => by
  have e1 := (N p hp).1
  rw [e, ha] at e1
  have e2 := Option.some.inj e1
  rcases ho with ⟨dx, its, n, rfl⟩ | ⟨ps, rfl⟩
  · exact (hs p hp).1 _ _ _ e2.symm
  · exact (hs p hp).2 _ e2.symm
theorem newsBut {a : Addr} (N : News B L h rs) (k : Heap.ExtBut a h h') (ha : ∀ p ∈ rs, p.1 ≠ a) : News B L h' rs := fun p hp => ⟨k _ _ (ha p hp) (N p hp).1, (N p hp).2⟩
theorem newsS {a : Addr} {o : Obj} (N : News B L h rs) (hs : ∀ p ∈ rs, Stat p.2) (ha : h.get? a = some o) (ho : Aside o) (k : Heap.ExtBut a h h') : News B L h' rs := newsBut N k (apartS N hs ha ho)
theorem frBut' {a : Addr} (F : Fr B L h m) (k : Heap.ExtBut a h h') (hB : B.get? a = none) (hL : a ≠ L) : Fr B L h' m :=
  ⟨F.ns.extBut k (Ne.symm hL), fun b o e => k b o (fun q => by rw [q, hB] at e; cases e) (F.keep b o e), F.above⟩
theorem newsCons {p : Addr × Obj} (hp : h.get? p.1 = some p.2 ∧ p.1 ≠ L ∧ B.get? p.1 = none) (N : News B L h rs) : News B L h (p :: rs) := fun q hq => by
  rcases List.mem_cons.mp hq with rfl | hq
  · exact hp
  · exact N q hq
/-- a name of the law's own stored -/
theorem stL {env : Env} {y : Str} {v : Value} {Q : Unit → Shared → Prop} (F : Fr B L s.heap m)
    (h : ∀ h', Fr B L h' (fun z => if z = y then some v else m z) → (∀ b o, b ≠ L → s.heap.get? b = some o → h'.get? b = some o) → Q () { s with heap := h', toks := s.toks + 1 })
    (hC : env.locals = L := by rfl) (hl : env.kindOf y = some .local := by rfl) (hp : (env.scope.kind == .class || (env.scope.kind == .module && env.locals != env.globals)) = false := by rfl) :
    wpAny (model PG w) A (storeName env y v) Q E s := by
  subst hC
  exact wpAny_storeName_local hl F.ns (fun h' hn hs => h h' (F.set hn hs) fun b o hb e => (hs.2 b hb).trans e) hp
/-- a cell of the law's stored -/
theorem stC {env : Env} {y : Str} {v : Value} {v₀ : Option Value} {c : Addr} {o : Obj} {Q : Unit → Shared → Prop} (F : Fr B L s.heap m) (ho : s.heap.get? c = some o) (hd : o.data = .cell v₀) (hcL : c ≠ L) (hcB : B.get? c = none)
    (hc : env.cells.lookup y = some c)
    (h : ∀ h' o', Fr B L h' m → (∀ b o, b ≠ c → s.heap.get? b = some o → h'.get? b = some o) → h'.get? c = some o' → o'.data = .cell (some v) → Q () { s with heap := h' })
    (hk : env.scope.kind = .function := by rfl) (hl : env.kindOf y = some .cell := by rfl) :
    wpAny (model PG w) A (storeName env y v) Q E s := by
  refine wpAny_storeName_cell hk hl hc ⟨o, ho, hd⟩ fun h' hv hs => ?_
  obtain ⟨o', ho', hd'⟩ := hv
  exact h h' o' (F.change hs hcL hcB) (fun b o hb e => (hs.2 b hb).trans e) ho' hd'
theorem nmC {env : Env} {y : Str} {pos : Pos} {v : Value} {c : Addr} {o : Obj} {Q : Value → Shared → Prop} (ho : s.heap.get? c = some o) (hd : o.data = .cell (some v)) (hc : env.cells.lookup y = some c) (h : Q v s)
    (hk : env.scope.kind = .function := by rfl) (hl : env.kindOf y = some .cell := by rfl) (hdb : (y == ("__debug__" : Str)) = false := by decide) : wpAny (model PG w) A (eval (.Name y pos) env) Q E s :=
  wpAny_Name (wpAny_loadName_cell hk hl hc ⟨o, ho, hd⟩ h) hdb
theorem newsL (N : News B L h rs) (k : ∀ b o, b ≠ L → h.get? b = some o → h'.get? b = some o) : News B L h' rs := fun p hp => ⟨k _ _ (N p hp).2.1 (N p hp).1, (N p hp).2⟩
theorem callFn1 {f : Addr} {e : Expr} {pos : Pos} {env : Env} {Q : Value → Shared → Prop} (hf : FnAt f s.heap) (h : wpAny (model PG w) A (eval e env) (fun v s₁ => Ext s.heap s₁.heap ∧ wpAny (model PG w) A (call (.ref f) [v]) Q E s₁) E s)
    (he : starEach [e] env = [(false, eval e env)] := by rfl) : wpAny (model PG w) A (callWith pos (.ref f) [] (backTo pos (starEach [e] env)) []) Q E s := by
  refine callWith_F hf ?_ he rfl
  rw [he]
  refine Calls.spliced_cons (wpAny_mono h (fun v s₁ h₁ => Calls.spliced_nil ⟨?_, h₁.2⟩) fun _ _ x => x)
  obtain ⟨oc, od, fd, sl, ef⟩ := hf
  exact ⟨oc, od, fd, sl, h₁.1 _ _ ef⟩
theorem fnAt_of {f : Addr} {h : Heap} (X : (hd.heap_39 w.params).In h) {oc : Value} {od : Option Addr} {fd : FuncData} {sl : Array (Option Value)} (e : (hd.heap_39 w.params).lookup f = some ⟨oc, od, .func fd, sl⟩) : FnAt f h := ⟨oc, od, fd, sl, X _ _ e⟩
theorem keepsP {t : Shared} {h' : Heap} {tk : Nat} (k : Ext t.heap h') : Keeps t { t with heap := h', toks := tk } := ⟨h', tk, rfl, k⟩
theorem sumN {l : Addr} {vs : List Value} {ns : List Int} {Q : Value → Shared → Prop} (F : Fr B L s.heap m) (N : News B L s.heap rs) (hh : A.handled = none) (hl : s.heap.IsList l vs.toArray) (hi : IntsAre vs ns)
    (h : ∀ h' tk t', Fr B L h' m → News B L h' rs → Q (.int ns.sum t') { s with heap := h', toks := tk }) : wpAny (model PG w) A (call (.builtin "sum") [.ref l]) Q E s := by
  obtain ⟨xs, hxs⟩ := hi.allInts.items
  rw [hxs] at hl
  refine sum_intListG hh hl fun h' tk t' k => ?_
  have h2 := h h' tk t' (frE F k) (newsE N k)
  have e : ns.sum = preSum (numAt xs) xs.size := by
    have e1 := hi.numsOf
    rw [show vs = vs.toArray.toList from rfl, hxs, nums_intItems] at e1
    rw [preSum_eq, List.take_of_length_le (by simp), ← e1]
  rwa [e] at h2
end
end Mine
end
section
open PySem PySem.W PyProof.Rows PySem.Calls
set_option maxRecDepth 100000
namespace Mine
noncomputable def worthsOf (nums : List Int) : List Int := (List.range (codesOf nums).length).map (worthOf (codesOf nums))
/-- the machine that reads the keys one by one -/
structure FS where
  S : List Int
  b : Int
  q : Bool
noncomputable def fStep (cs : List Int) (st : FS) (k : Nat) : FS :=
  if st.q = false ∧ cs.getD k 0 = 22 then ⟨st.S, st.b, true⟩
  else if st.q = false ∧ (cs.getD k 0 = 8 ∨ cs.getD k 0 = 127) then ⟨st.S.dropLast, if st.S = [] then st.b + 1 else st.b, st.q⟩
  else if st.q = false ∧ cs.getD k 0 = 21 then ⟨[], st.b, st.q⟩
  else ⟨st.S ++ [(k : Int)], st.b, false⟩
noncomputable def fRun (cs : List Int) : Nat → FS
  | 0 => ⟨[], 0, false⟩
  | k + 1 => fStep cs (fRun cs k) k
/-- the addresses of the law's own things -/
structure Ad where
  L : Addr
  x1 : Addr
  x2 : Addr
  d1 : Addr
  d2 : Addr
  DN : Addr
  DC : Addr
  DW : Addr
  DP : Addr
  DH : Addr
noncomputable def picR (i : Int) (y : Value) : Prop := ∃ t, y = .str (picC i.toNat) t
noncomputable def whiR (i : Int) (y : Value) : Prop := y = .bool (whiteC i.toNat)
/-- what stands from the loop's start on -/
structure ST (w : World) (a : Ad) (nums : List Int) (p : Int) (rs : List (Addr × Obj)) : Prop where
  num : ∃ wn n, (a.DN, PySem.W.listOf (List.toArray wn) n) ∈ rs ∧ IntsAre wn nums
  cod : ∃ wc n, (a.DC, PySem.W.listOf (List.toArray wc) n) ∈ rs ∧ IntsAre wc (codesOf nums)
  wor : ∃ ww n, (a.DW, PySem.W.listOf (List.toArray ww) n) ∈ rs ∧ IntsAre ww (worthsOf nums)
  pic : ∃ (wp : List Value) (n : Nat), (a.DP, PySem.W.listOf (List.toArray wp) n) ∈ rs ∧ Paired picR (codesOf nums) wp
  whi : ∃ (wh : List Value) (n : Nat), (a.DH, PySem.W.listOf (List.toArray wh) n) ∈ rs ∧ Paired whiR (codesOf nums) wh
  c1 : ∃ o : Obj, (a.L + 1, o) ∈ rs ∧ o.data = .cell (some (.ref a.DC))
  c2 : ∃ o : Obj, (a.L + 1 + 1, o) ∈ rs ∧ o.data = .cell (some (.ref a.DP))
  c3 : ∃ o : Obj, (a.L + 1 + 1 + 1, o) ∈ rs ∧ o.data = .cell (some (.ref a.DH))
  d1 : ∃ td tp n, (a.d1, sizeDict w td 0 tp n) ∈ rs
  d2 : ∃ td tp n, (a.d2, sizeDict w td p tp n) ∈ rs
theorem ST.more {w : World} {a : Ad} {nums : List Int} {p : Int} {rs rs' : List (Addr × Obj)} (h : ST w a nums p rs) (k : ∀ q ∈ rs, q ∈ rs') : ST w a nums p rs' where
  num := let ⟨x, n, m, r⟩ := h.num; ⟨x, n, k _ m, r⟩
  cod := let ⟨x, n, m, r⟩ := h.cod; ⟨x, n, k _ m, r⟩
  wor := let ⟨x, n, m, r⟩ := h.wor; ⟨x, n, k _ m, r⟩
  pic := let ⟨x, n, m, r⟩ := h.pic; ⟨x, n, k _ m, r⟩
  whi := let ⟨x, n, m, r⟩ := h.whi; ⟨x, n, k _ m, r⟩
  c1 := let ⟨o, m, r⟩ := h.c1; ⟨o, k _ m, r⟩
  c2 := let ⟨o, m, r⟩ := h.c2; ⟨o, k _ m, r⟩
  c3 := let ⟨o, m, r⟩ := h.c3; ⟨o, k _ m, r⟩
  d1 := let ⟨x, y, n, m⟩ := h.d1; ⟨x, y, n, k _ m⟩
  d2 := let ⟨x, y, n, m⟩ := h.d2; ⟨x, y, n, k _ m⟩
/-- the names that stay -/
structure SN (a : Ad) (p : Int) (m : Str → Option Value) : Prop where
  numbers : m (Str.ofString "numbers") = some (.ref a.DN)
  prompt : ∃ t, m (Str.ofString "prompt") = some (.int p t)
  worths : m (Str.ofString "worths") = some (.ref a.DW)
  line : m (Str.ofString "line") = some (.ref a.x1)
  echo : m (Str.ofString "echo") = some (.ref a.x2)
/-- an accumulator's items are these pairs -/
noncomputable def PC (rs : List (Addr × Obj)) (its : Array Value) (pr : List (Str × Str)) : Prop :=
  its.size = pr.length ∧ ∀ j, j < its.size → ∃ T ta tb n, its[j]? = some (.ref T) ∧ (T, pairObj (pr.getD j (Str.empty, Str.empty)).1 ta (pr.getD j (Str.empty, Str.empty)).2 tb n) ∈ rs
noncomputable def codeAt (cs : List Int) (i : Int) : Nat := (cs.getD i.toNat 0).toNat
noncomputable def lineP (cs : List Int) (S : List Int) : List (Str × Str) := S.map fun i => (Str.ofString "", ⟨#[codeAt cs i]⟩)
/-- a text's all but the last sign, its last sign -/
noncomputable def butLast (x : Str) : Str := ⟨x.cps.extract 0 (x.cps.size - 1)⟩
noncomputable def lastOf (x : Str) : Str := ⟨x.cps.extract (x.cps.size - 1) x.cps.size⟩
noncomputable def echoP (cs : List Int) (S : List Int) : List (Str × Str) := S.map fun i => (butLast (picC (codeAt cs i)), lastOf (picC (codeAt cs i)))
structure LV (a : Ad) (cs : List Int) (S : List Int) (rs : List (Addr × Obj)) (h : Heap) : Prop where
  g1 : ∃ its n, h.get? a.x1 = some (accObj a.d1 its n) ∧ PC rs its (lineP cs S)
  g2 : ∃ its n, h.get? a.x2 = some (accObj a.d2 its n) ∧ PC rs its (echoP cs S)
  t1 : ∃ ps, TabAt' h 63 posLen ps
  t2 : ∃ qs, TabAt' h 70 posStr qs
/-- the base -/
structure BF (w : World) (B : Heap) (a : Ad) : Prop where
  C : Cx w B
  b : Bm B
  n1 : B.get? a.x1 = none
  n2 : B.get? a.x2 = none
  n3 : B.get? 63 = none
  n4 : B.get? 70 = none
  l1 : a.x1 ≠ a.L
  l2 : a.x2 ≠ a.L
  l3 : 63 < a.L
  l4 : 70 < a.L
  l5 : a.x1 ≠ a.x2
/-- the law at work, ahead of a key or behind it -/
structure LI (w : World) (B : Heap) (a : Ad) (nums : List Int) (p : Int) (os : OsState) (st : FS) (rs : List (Addr × Obj)) (m : Str → Option Value) (s : Shared) : Prop where
  F : Fr B a.L s.heap m
  N : News B a.L s.heap rs
  S : ∀ q ∈ rs, Stat q.2
  T : ST w a nums p rs
  n : SN a p m
  V : LV a (codesOf nums) st.S rs s.heap
  q : m (Str.ofString "quoted") = some (.bool st.q)
  b : ∃ t, m (Str.ofString "bells") = some (.int st.b t)
  g : AllBare s.gens
  o : s.os = os
theorem PC.more {rs rs' : List (Addr × Obj)} {its : Array Value} {pr : List (Str × Str)} (h : PC rs its pr) (k : ∀ q ∈ rs, q ∈ rs') : PC rs' its pr :=
  ⟨h.1, fun j hj => let ⟨T, ta, tb, n, e, m⟩ := h.2 j hj; ⟨T, ta, tb, n, e, k _ m⟩⟩
theorem PC.push {rs : List (Addr × Obj)} {its : Array Value} {pr : List (Str × Str)} {T : Addr} {a b : Str} {ta tb : Tok} {n : Nat} (h : PC rs its pr) (hm : (T, pairObj a ta b tb n) ∈ rs) : PC rs (its.push (.ref T)) (pr ++ [(a, b)]) := by
  refine ⟨by simp [h.1], fun j hj => ?_⟩
  rw [Array.size_push] at hj
  by_cases e : j = its.size
  · subst e
    refine ⟨T, ta, tb, n, by simp, ?_⟩
    rw [h.1]
    simpa using hm
  · have hj' : j < its.size := by omega
    obtain ⟨T', ta', tb', n', e1, e2⟩ := h.2 j hj'
    refine ⟨T', ta', tb', n', by rw [Array.getElem?_push_lt hj']; rw [Array.getElem?_eq_getElem hj'] at e1; exact e1, ?_⟩
    have hj2 : j < pr.length := by rw [← h.1]; exact hj'
    have eg : (pr ++ [(a, b)]).getD j (Str.empty, Str.empty) = pr.getD j (Str.empty, Str.empty) := by
      rw [List.getD_eq_getElem?_getD, List.getD_eq_getElem?_getD, List.getElem?_append_left hj2]
    rw [eg]; exact e2
theorem PC.pop {rs : List (Addr × Obj)} {its : Array Value} {pr : List (Str × Str)} {v : Value} (h : PC rs (its.push v) pr) : PC rs its pr.dropLast ∧
    ∃ T ta tb n, v = .ref T ∧ (T, pairObj (pr.getLastD (Str.empty, Str.empty)).1 ta (pr.getLastD (Str.empty, Str.empty)).2 tb n) ∈ rs := by
  have hl := h.1
  rw [Array.size_push] at hl
  refine ⟨⟨by rw [List.length_dropLast]; omega, fun j hj => ?_⟩, ?_⟩
  · obtain ⟨T, ta, tb, n, e1, e2⟩ := h.2 j (by rw [Array.size_push]; omega)
    refine ⟨T, ta, tb, n, by rw [Array.getElem?_push_lt hj] at e1; rw [Array.getElem?_eq_getElem hj]; exact e1, ?_⟩
    have eg : pr.dropLast.getD j (Str.empty, Str.empty) = pr.getD j (Str.empty, Str.empty) := by
      rw [List.getD_eq_getElem?_getD, List.getD_eq_getElem?_getD, List.getElem?_dropLast, if_pos (by omega)]
    rw [eg]; exact e2
  · obtain ⟨T, ta, tb, n, e1, e2⟩ := h.2 its.size (by rw [Array.size_push]; omega)
    have e1' : v = .ref T := by simpa using e1
    refine ⟨T, ta, tb, n, e1', ?_⟩
    have eg : pr.getLastD (Str.empty, Str.empty) = pr.getD its.size (Str.empty, Str.empty) := by
      rw [List.getLastD_eq_getLast?, List.getLast?_eq_getElem?, List.getD_eq_getElem?_getD]
      congr 2; omega
    rw [eg]; exact e2
/-- as the methods' contracts want it -/
theorem PC.pcs {rs : List (Addr × Obj)} {its : Array Value} {pr : List (Str × Str)} {B h : Heap} {L : Addr} (H : PC rs its pr) (N : News B L h rs) : ∃ Ts ta tb, Pcs h its Ts (fun j => (pr.getD j (Str.empty, Str.empty)).1) (fun j => (pr.getD j (Str.empty, Str.empty)).2) ta tb := by
  have hc : ∀ j, ∃ x : Addr × Tok × Tok × Nat, j < its.size → its[j]? = some (.ref x.1) ∧ (x.1, pairObj (pr.getD j (Str.empty, Str.empty)).1 x.2.1 (pr.getD j (Str.empty, Str.empty)).2 x.2.2.1 x.2.2.2) ∈ rs := fun j => by
    by_cases hj : j < its.size
    · obtain ⟨T, ta, tb, n, e1, e2⟩ := H.2 j hj
      exact ⟨(T, ta, tb, n), fun _ => ⟨e1, e2⟩⟩
    · exact ⟨(0, 0, 0, 0), fun h => absurd h hj⟩
  obtain ⟨f, hf⟩ := Classical.axiomOfChoice hc
  exact ⟨fun j => (f j).1, fun j => (f j).2.1, fun j => (f j).2.2.1, fun j hj => (hf j hj).1, fun j hj => ⟨_, (N _ (hf j hj).2).1, rfl, _, rfl⟩⟩
end Mine
end
section
open PySem PySem.W PyProof.Rows PySem.Calls
set_option maxRecDepth 100000
namespace Mine
/-- a name stored, as one word -/
noncomputable def mset (m : Str → Option Value) (y : Str) (v : Value) : Str → Option Value := fun z => if z = y then some v else m z
theorem mset_eq {m : Str → Option Value} {y : Str} {v : Value} : mset m y v y = some v := if_pos rfl
theorem mset_ne {m : Str → Option Value} {y x : Str} {v : Value} {r : Option Value} (h : x ≠ y) (e : m x = r) : mset m y v x = r := (if_neg h).trans e
section
variable {w : World} {A : Around} {s : Shared} {E : Value → Shared → Prop} {B : Heap} {L : Addr} {m : Str → Option Value}
theorem stM {env : Env} {y : Str} {v : Value} {Q : Unit → Shared → Prop} (F : Fr B L s.heap m) (h : ∀ h', Fr B L h' (mset m y v) → Q () { s with heap := h', toks := s.toks + 1 })
    (hC : env.locals = L := by rfl) (hl : env.kindOf y = some .local := by rfl) (hp : (env.scope.kind == .class || (env.scope.kind == .module && env.locals != env.globals)) = false := by rfl) :
    wpAny (model PG w) A (storeName env y v) Q E s := stL F (fun h' F' _ => h h' F') hC hl hp
theorem spl_int {env : Env} {x : Int} {k : Nat} {p1 p : Pos} {rest : List Expr} {Q : List Value → Shared → Prop}
    (h : wpAny (model PG w) A (spliced (backTo p (starEach rest env))) (fun vs s₁ => Q (.int x s.toks :: vs) s₁) E { s with toks := s.toks + 1 }) : wpAny (model PG w) A (spliced (backTo p (starEach (.Constant (.int x) k p1 :: rest) env))) Q E s := by
  have he : starEach (.Constant (.int x) k p1 :: rest) env = (false, eval (.Constant (.int x) k p1) env) :: starEach rest env := rfl
  rw [he]
  exact Calls.spliced_cons (wpAny_Constant_int (k := k) (pos := p1) h)
theorem spl_nil {env : Env} {p : Pos} {Q : List Value → Shared → Prop} (h : Q [] s) : wpAny (model PG w) A (spliced (backTo p (starEach [] env))) Q E s := Calls.spliced_nil h
theorem itemTI {value slice : Expr} {l : Addr} {vs : List Value} {ns : List Int} {k : Int} {u : Tok} {Q : Value → Shared → Prop} (hl : IsTup s.heap l vs.toArray) (hi : IntsAre vs ns) (h0 : 0 ≤ k) (h1 : k < ns.length) (hfit : k < 2 ^ 63) {v : Int} (hv : ns.getD k.toNat 0 = v) (h : ∀ t, Q (.int v t) s)
    (hs : subscripted slice false (.ref l) (.int k u) = operate [.ref l, .int k u] (getItem (.ref l) (.int k u)) := by rfl) : wpAny (model PG w) A (subscriptTail value slice (.ref l) (.int k u)) Q E s := by
  subst hv
  obtain ⟨t, hx⟩ := hi.get k.toNat _ (ints_getD h0 h1)
  exact item_tupleT (j := k.toNat) hl (by omega) hfit (seqIndex_of h0 (by simpa [hi.length] using h1)) (by simpa using hx) (h t) hs
/-- the test that both texts make -/
theorem condHeld {env : Env} {n : Int} {t t' : Tok} {k1 k2 k3 k4 k5 : Nat} {p1 p2 p3 p4 p5 p6 p7 p8 p9 p10 p11 p12 p13 p14 p15 : Pos} {whole : Sem Value} {Q : Bool → Shared → Prop} (F : Fr B L s.heap m) (en : m (Str.ofString "n") = some (.int n t)) (eh : m (Str.ofString "held") = some (.int ((n.fdiv 10).fmod 4) t')) (hl : s.heap.NoLimit)
    (h : ∀ tk, Q (heldC n) { s with toks := tk })
    (hC : env.locals = L := by rfl) (hk : env.scope.kind = .function := by rfl) (hkn : env.kindOf (Str.ofString "n") = some .local := by rfl) (hkh : env.kindOf (Str.ofString "held") = some .local := by rfl) :
    wpAny (model PG w) A (isTrue (.BoolOp .Or [.Compare (.Name (Str.ofString "held") p1) [.Lt] [.Constant (.int 2) k1 p2] p3, .BoolOp .And [.Compare (.Name (Str.ofString "held") p4) [.Eq] [.Constant (.int 3) k2 p5] p6, .Compare (.BinOp (.BinOp (.Name (Str.ofString "n") p7) .FloorDiv (.Constant (.int 40) k3 p8) p9) .Mod (.Constant (.int 2) k4 p10) p11) [.Eq] [.Constant (.int 1) k5 p12] p13] p14] p15) env whole) Q E s := by
  refine isTrue_or (wpAny_isTrue_Compare1 (nmL F eh (wpAny_Constant_int (PyProof.Rows.lt_int (wpAny_truthy_bool ?_))) hC hk hkh))
  have e1 : ∀ b1 b2 b3 : Bool, decide ((n.fdiv 10).fmod 4 < 2) = b1 → decide ((n.fdiv 10).fmod 4 = 3) = b2 → decide ((n.fdiv 40).fmod 2 = 1) = b3 → heldC n = (b1 || (b2 && b3)) := fun b1 b2 b3 h1 h2 h3 => by rw [heldC, h1, h2, h3]
  generalize hb1 : decide ((n.fdiv 10).fmod 4 < 2) = b1
  cases b1 with
  | true =>
    simp only [if_true]
    have := e1 true _ _ hb1 rfl rfl
    rw [Bool.true_or] at this
    rw [← this]
    exact h _
  | false =>
    simp only [Bool.false_eq_true, if_false]
    refine isTrue_or (isTrue_and (wpAny_isTrue_Compare1 (nmL (s := { s with toks := _ }) F eh (wpAny_Constant_int (PyProof.Rows.eq_int (wpAny_truthy_bool ?_))) hC hk hkh)))
    have e2 : ((n.fdiv 10).fmod 4 == 3) = decide ((n.fdiv 10).fmod 4 = 3) := by rw [Bool.eq_iff_iff]; simp
    rw [e2]
    generalize hb2 : decide ((n.fdiv 10).fmod 4 = 3) = b2
    cases b2 with
    | false =>
      simp only [Bool.false_eq_true, if_false]
      refine isTrue_or_nil ?_
      have := e1 _ _ _ hb1 hb2 rfl
      rw [Bool.false_and, Bool.or_false] at this
      rw [← this]
      exact h _
    | true =>
      simp only [if_true]
      refine isTrue_and (wpAny_isTrue_Compare1 (wpAny_BinOp (wpAny_BinOp (nmL (s := { s with toks := _ }) F en (wpAny_Constant_int (PyProof.Rows.floordiv_int (by decide) ?_ (Or.inl (PyProof.noPylong_of_log2 (by decide +kernel))))) hC hk hkn))))
      refine wpAny_Constant_int (PyProof.Rows.mod_int (by decide) (wpAny_Constant_int (PyProof.Rows.eq_int (wpAny_truthy_bool ?_))))
      have e3 : ((n.fdiv 40).fmod 2 == 1) = decide ((n.fdiv 40).fmod 2 = 1) := by rw [Bool.eq_iff_iff]; simp
      rw [e3]
      generalize hb3 : decide ((n.fdiv 40).fmod 2 = 1) = b3
      have := e1 _ _ _ hb1 hb2 hb3
      rw [Bool.true_and, Bool.false_or] at this
      cases b3 with
      | true =>
        simp only [if_true]
        refine isTrue_and_nil ?_
        simp only [if_true]
        rw [← this]
        exact h _
      | false =>
        simp only [Bool.false_eq_true, if_false]
        refine isTrue_or_nil ?_
        rw [← this]
        exact h _
end
/-- behind the text's if -/
inductive HeldI (s : Shared) (L : Addr) (y : Str) (n : Int) (v : Tok → Value) (s' : Shared) : Prop
  | mk (h' : Heap) (tk : Nat) (m : Str → Option Value) (t1 t2 : Tok) (e : s' = { s with heap := h', toks := tk }) (F : Fr s.heap L h' m) (e1 : m (Str.ofString "held") = some (.int ((n.fdiv 10).fmod 4) t1)) (e2 : m y = some (v t2))
theorem fmodN (a : Nat) {b : Nat} (hb : 0 < b) : ((a : Nat) : Int).fmod (b : Int) = ((a % b : Nat) : Int) := by
  rw [Int.fmod_eq_emod_of_nonneg _ (by omega)]; omega
section
variable {w : World} {A : Around} {s : Shared}
set_option maxHeartbeats 2000000
theorem lawcode_int {n : Int} {t : Tok} (C : Cx w s.heap) (hr : A.depth + 1 < recursionLimit) : Pure1 w A s (call (.ref 168) [.int n t]) (fun t => .int (codeOf n : Nat) t) := by
  intro Q E h
  obtain ⟨X, mg, mb, T⟩ := C
  refine wpAny_call ?_
  refine enterK (binds := [(Str.ofString "n", .int n t)]) X T (by omega) (by k_is) (by k_is) (BindsTo.of_eq rfl) (locs rfl) ?_ (by decide)
  intro L h₁ F N X' T'
  clear X' T' N
  obtain ⟨m, en, F⟩ : ∃ m : Str → Option Value, m (Str.ofString "n") = some (.int n t) ∧ Fr s.heap L h₁ m := ⟨_, by kernel_rfl, F⟩
  refine wpAny_execs_cons ?_
  refine wpAny_Assign_Name ?_
  refine Subscript_ ?_
  refine Tuple_ ?_
  iterate 10 refine spl_int ?_
  refine spl_nil (wpAny_newTuple ?_)
  refine wpAny_BinOp ?_
  refine nmL (F.push _) en ?_
  refine wpAny_Constant_int ?_
  refine PyProof.Rows.mod_int (by decide) ?_
  have hf := tab_fin _ (fmod10 n)
  have h0 := fmod_lo n (n := 10) (by omega)
  have h1 := fmod_hi n (n := 10) (by omega)
  refine itemTI (ns := [101, 72, 104, 86, 32, 85, 104, 105, 92, 127]) ⟨_, Heap.get?_push_size _ rfl, rfl, _, rfl⟩ ?_ h0 (by simpa using h1) (by omega) hf.1 fun u => ?_
  · exact .cons _ _ (.cons _ _ (.cons _ _ (.cons _ _ (.cons _ _ (.cons _ _ (.cons _ _ (.cons _ _ (.cons _ _ (.cons _ _ .nil)))))))))
  refine stM (F.push _) fun h2 F2 => ?_
  refine wpAny_execs_cons ?_
  refine wpAny_Assign_Name ?_
  refine wpAny_BinOp ?_
  refine wpAny_BinOp ?_
  refine nmL (s := { s with heap := h2, toks := _ }) F2 (mset_ne (by decide) en) ?_
  refine wpAny_Constant_int ?_
  refine PyProof.Rows.floordiv_int (by decide) ?_ (Or.inl (PyProof.noPylong_of_log2 (by decide +kernel)))
  refine wpAny_Constant_int ?_
  refine PyProof.Rows.mod_int (by decide) ?_
  refine stM (s := { s with heap := h2, toks := _ }) F2 fun h3 F3 => ?_
  refine wpAny_execs_cons ?_
  refine wpAny_mono (Q := fun f s' => f = .next ∧ HeldI s L (Str.ofString "code") n (fun t => .int (lowOf n : Nat) t) s') (wpAny_If ?_) ?_ (fun _ _ e => e)
  · refine condHeld (s := { s with heap := h3, toks := _ }) F3 (mset_ne (by decide) (mset_ne (by decide) en)) mset_eq (T.nolimit.keeps F3.keep) fun tk4 => ?_
    have el : lowOf n = if heldC n = true then tabN.getD (n.fmod 10).toNat 0 % 32 else tabN.getD (n.fmod 10).toNat 0 := rfl
    by_cases hc : heldC n = true
    · rw [if_pos hc] at el ⊢
      refine execs_one ?_
      refine wpAny_Assign_Name ?_
      refine wpAny_BinOp ?_
      refine nmL (s := { s with heap := h3, toks := _ }) F3 (mset_ne (by decide) mset_eq) ?_
      refine wpAny_Constant_int ?_
      refine PyProof.Rows.mod_int (by decide) ?_
      refine stM (s := { s with heap := h3, toks := _ }) F3 fun h4 F4 => ?_
      refine ⟨rfl, ⟨_, _, _, _, _, rfl, F4, mset_ne (by decide) mset_eq, mset_eq.trans (congrArg (fun x => some (Value.int x _)) ?_)⟩⟩
      rw [el]
      exact fmodN _ (b := 32) (by decide)
    · rw [if_neg hc] at el ⊢
      refine wpAny_execs_nil ⟨rfl, ⟨_, _, _, _, _, rfl, F3, mset_eq, (mset_ne (by decide) mset_eq).trans (congrArg (fun x : Nat => some (Value.int x _)) el.symm)⟩⟩
  rintro f s4 ⟨rfl, h4, tk5, m4, t5, t6, rfl, F4, eh4, ec4⟩
  clear F F2 F3 en
  refine execs_one ?_
  refine wpAny_Return_some ?_
  refine wpAny_IfExp (wpAny_isTrue_Compare1 (nmL (s := { s with heap := h4, toks := _ }) F4 eh4 (wpAny_Constant_int (PyProof.Rows.eq_int (wpAny_truthy_bool ?_)))))
  have ek : codeOf n = if (n.fdiv 10).fmod 4 = 3 then lowOf n + 128 else lowOf n := rfl
  by_cases hb : (n.fdiv 10).fmod 4 = 3
  · rw [if_pos hb] at ek
    refine ite_pos (beq_iff_eq.mpr hb) ?_
    refine wpAny_BinOp (nmL (s := { s with heap := h4, toks := _ }) F4 ec4 (wpAny_Constant_int (PyProof.Rows.add_int ?_)))
    refine retV (h _ _ _ F4.keep) (congrArg (Value.int · _) ?_)
    rw [ek]; rfl
  · rw [if_neg hb] at ek
    refine ite_neg (fun e => hb (beq_iff_eq.mp e)) ?_
    refine nmL (s := { s with heap := h4, toks := _ }) F4 ec4 ?_
    refine retV (h _ _ _ F4.keep) (congrArg (Value.int · _) ?_)
    rw [ek]
theorem kwL2_1 : True := by (k_with_none; k_with "call builtin:chr" => (refine chr_nat (by omega) ?_)); exact True.intro
theorem kwL2_2 : True := by (k_with "exec If" => refine Halt.go ?_); exact True.intro
theorem lawkey_int {n : Int} {t : Tok} (C : Cx w s.heap) (hr : A.depth + 2 < recursionLimit) : Pure1 w A s (call (.ref 161) [.int n t]) (fun t => .str ⟨#[codeOf n]⟩ t) := by
  intro Q E h
  obtain ⟨X, mg, mb, T⟩ := C
  refine wpAny_call ?_
  refine enterK (binds := [(Str.ofString "n", .int n t)]) X T (by omega) (by k_is) (by k_is) (BindsTo.of_eq rfl) (locs rfl) ?_ (by decide)
  intro L h₁ F N X' T'
  clear X' T'
  dsimp only
  k_steps
  unfold Halt
  rename Fr _ _ _ _ => F3
  have hc0 := (tab_fin _ (fmod10 n)).2
  have ei : Txt.item (Str.ofString "eHhV Uhi\\\x7f") (n.fmod 10) = ⟨#[tabN.getD (n.fmod 10).toNat 0]⟩ := by rw [← char_eq]; rfl
  obtain ⟨m, F, ⟨t3, eh⟩, ⟨t4, es⟩, en⟩ : ∃ m : Str → Option Value, Fr s.heap L _ m ∧ (∃ t3, m (Str.ofString "held") = some (.int ((n.fdiv 10).fmod 4) t3)) ∧ (∃ t4, m (Str.ofString "sign") = some (.str ⟨#[tabN.getD (n.fmod 10).toNat 0]⟩ t4)) ∧ m (Str.ofString "n") = some (.int n t) :=
    ⟨_, F3, ⟨_, rfl⟩, ⟨_, (rfl : _ = some (Value.str (Txt.item (Str.ofString "eHhV Uhi\\\x7f") (n.fmod 10)) _)).trans (congrArg (fun x => some (Value.str x _)) ei)⟩, rfl⟩
  clear F3
  refine wpAny_mono (Q := fun f s' => f = .next ∧ HeldI s L (Str.ofString "sign") n (fun t => .str ⟨#[lowOf n]⟩ t) s') (wpAny_If ?_) ?_ (fun _ _ e => e)
  · refine condHeld (s := { s with heap := _, toks := _ }) F en eh (T.nolimit.keeps F.keep) fun tk4 => ?_
    have el : lowOf n = if heldC n = true then tabN.getD (n.fmod 10).toNat 0 % 32 else tabN.getD (n.fmod 10).toNat 0 := rfl
    by_cases hc : heldC n = true
    · rw [if_pos hc] at el ⊢
      refine execs_one ?_
      refine wpAny_Assign_Name ?_
      refine Call_ (nmG (s := { s with heap := _, toks := _ }) F X T rfl (by k_is) (callFn1 (fnAt_of (X.keeps F.keep) (by k_is)) (nmL (s := { s with heap := _, toks := _ }) F es ⟨Ext.refl _, ?_⟩)))
      refine ctrl_str (cxF F X T) (by simp only [depth_deeper]; omega) _ _ fun t' h4 tk k => ?_
      refine stM (s := { s with heap := h4, toks := tk }) (frE F k) fun h5 F5 => ?_
      refine ⟨rfl, ⟨_, _, _, _, _, rfl, F5, mset_ne (by decide) eh, mset_eq.trans (congrArg (fun x : Nat => some (Value.str ⟨#[x]⟩ _)) el.symm)⟩⟩
    · rw [if_neg hc] at el ⊢
      refine wpAny_execs_nil ⟨rfl, ⟨_, _, _, _, _, rfl, F, eh, es.trans (congrArg (fun x : Nat => some (Value.str ⟨#[x]⟩ _)) el.symm)⟩⟩
  rintro f s4 ⟨rfl, h4, tk5, m4, t5, t6, rfl, F4, eh4, ec4⟩
  clear F en eh es
  refine execs_one ?_
  refine wpAny_Return_some ?_
  refine wpAny_IfExp (wpAny_isTrue_Compare1 (nmL (s := { s with heap := h4, toks := _ }) F4 eh4 (wpAny_Constant_int (PyProof.Rows.eq_int (wpAny_truthy_bool ?_)))))
  have ek : codeOf n = if (n.fdiv 10).fmod 4 = 3 then lowOf n + 128 else lowOf n := rfl
  have hl := low_lt n
  by_cases hb : (n.fdiv 10).fmod 4 = 3
  · rw [if_pos hb] at ek
    refine ite_pos (beq_iff_eq.mpr hb) ?_
    refine Call_ (nmG (s := { s with heap := h4, toks := _ }) F4 X T rfl (by k_is) (callFn1 (fnAt_of (X.keeps F4.keep) (by k_is)) (nmL (s := { s with heap := h4, toks := _ }) F4 ec4 ⟨Ext.refl _, ?_⟩)))
    refine alt_str (cxF F4 X T) (by simp only [depth_deeper]; omega) hl _ _ fun t' h5 tk k => ?_
    refine retV (h _ _ _ (fun b o e => k b o (F4.keep b o e))) (congrArg (fun x : Nat => Value.str ⟨#[x]⟩ _) ?_)
    rw [ek]
  · rw [if_neg hb] at ek
    refine ite_neg (fun e => hb (beq_iff_eq.mp e)) ?_
    refine nmL (s := { s with heap := h4, toks := _ }) F4 ec4 ?_
    refine retV (h _ _ _ F4.keep) (congrArg (fun x : Nat => Value.str ⟨#[x]⟩ _) ?_)
    rw [ek]
theorem kwL2_end : True := by k_with_none; exact True.intro
end
end Mine
end
section
open PySem PySem.W PyProof.Rows PySem.Calls
namespace Mine
/-- the machine told by worths -/
noncomputable def fwd (ws : List Int) : Nat → List Int × Int
  | 0 => ([], 0)
  | k + 1 =>
    if ws.getD k 0 = 9 then ([], (fwd ws k).2)
    else if ws.getD k 0 = -1 then ((fwd ws k).1.dropLast, if (fwd ws k).1 = [] then (fwd ws k).2 + 1 else (fwd ws k).2)
    else if ws.getD k 0 = 1 then ((fwd ws k).1 ++ [(k : Int)], (fwd ws k).2)
    else fwd ws k
/-- the walk back from k on -/
noncomputable def bkFrom (ws : List Int) : Nat → Bk → Bk
  | 0, b => b
  | k + 1, b => bkFrom ws k (bkStep ws b (k : Int))
theorem bkFrom_run (ws : List Int) (n : Nat) (now : Int) (hn : now + 1 = (n : Int)) : ∀ j, j ≤ n → bkFrom ws n ⟨[], 0, 0, false⟩ = bkFrom ws (n - j) (bkRun ws now j)
  | 0, _ => rfl
  | j + 1, hj => by
    rw [bkFrom_run ws n now hn j (Nat.le_of_succ_le hj)]
    obtain ⟨m, rfl⟩ := Nat.exists_eq_add_of_le hj
    have e : (j + 1 + m) - j = ((j + 1 + m) - (j + 1)) + 1 := by rw [Nat.add_sub_cancel_left, Nat.add_assoc, Nat.add_sub_cancel_left, Nat.add_comm]
    rw [e]
    show bkFrom ws ((j + 1 + m) - (j + 1)) (bkStep ws (bkRun ws now j) (((j + 1 + m) - (j + 1) : Nat) : Int)) = bkFrom ws ((j + 1 + m) - (j + 1)) (bkStep ws (bkRun ws now j) (now - (j : Int)))
    have e2 : (((j + 1 + m) - (j + 1) : Nat) : Int) = now - (j : Int) := by rw [Nat.add_sub_cancel_left]; clear e; omega
    rw [e2]
theorem ar1 (r f : Int) (o n : Nat) (e : n = 0) : r + f + ((o + 1 - n : Nat) : Int) = r + (f + 1) + ((o - (n - 1) : Nat) : Int) := by
  subst e
  show r + f + ((o + 1 : Nat) : Int) = r + (f + 1) + (o : Int)
  rw [Int.natCast_succ, Int.add_assoc r f, Int.add_assoc r, Int.add_assoc f, Int.add_comm (o : Int) 1]
theorem ar2 (o n : Nat) (e : n ≠ 0) : o + 1 - n = o - (n - 1) := by
  cases n with
  | zero => exact absurd rfl e
  | succ m => rw [Nat.add_sub_add_right, Nat.add_sub_cancel]
theorem tk1 (l : List Int) (o : Nat) : l.take (l.length - (o + 1)) = l.dropLast.take (l.dropLast.length - o) := by
  rw [List.length_dropLast, List.dropLast_eq_take, List.take_take]
  rw [Nat.min_eq_left (Nat.sub_le _ _), Nat.sub_sub, Nat.add_comm o 1]
theorem tk2 (l : List Int) (x : Int) (o : Nat) : (l ++ [x]).take ((l ++ [x]).length - (o + 1)) = l.take (l.length - o) := by
  rw [List.length_append, List.length_singleton, Nat.add_sub_add_right, List.take_append_of_le_length (Nat.sub_le _ _)]
theorem back_fwd (ws : List Int) : ∀ (k : Nat) (left : List Int) (o : Nat) (r : Int) (kd : Bool),
    (bkFrom ws k ⟨left, o, r, kd⟩).left = (if kd then left else (fwd ws k).1.take ((fwd ws k).1.length - o) ++ left) ∧
    (bkFrom ws k ⟨left, o, r, kd⟩).rung + (bkFrom ws k ⟨left, o, r, kd⟩).owed = r + (fwd ws k).2 + ((o - (fwd ws k).1.length : Nat) : Int)
  | 0, left, o, r, kd => by
    refine ⟨?_, ?_⟩
    · cases kd
      · show left = ([] : List Int).take (0 - o) ++ left
        rw [List.take_nil]; rfl
      · rfl
    · show r + (o : Int) = r + 0 + ((o - 0 : Nat) : Int)
      rw [Int.add_zero, Nat.sub_zero]
  | k + 1, left, o, r, kd => by
    show (bkFrom ws k (bkStep ws ⟨left, o, r, kd⟩ (k : Int))).left = _ ∧ (bkFrom ws k (bkStep ws ⟨left, o, r, kd⟩ (k : Int))).rung + (bkFrom ws k (bkStep ws ⟨left, o, r, kd⟩ (k : Int))).owed = _
    unfold bkStep fwd
    rw [Int.toNat_natCast]
    have ih := back_fwd ws k
    generalize bkFrom ws k = G at *
    generalize fwd ws k = p at *
    generalize ws.getD k 0 = c at *
    obtain ⟨l, f⟩ := p
    dsimp only at *
    by_cases c9 : c = 9
    · rw [if_pos c9, if_pos c9]
      obtain ⟨h1, h2⟩ := ih left 0 (r + o) true
      refine ⟨h1.trans ?_, h2.trans ?_⟩
      · cases kd
        · show left = ([] : List Int).take (0 - o) ++ left
          rw [List.take_nil]; rfl
        · rfl
      · show r + (o : Int) + f + ((0 - l.length : Nat) : Int) = r + f + ((o - 0 : Nat) : Int)
        rw [Nat.zero_sub, Nat.sub_zero, Int.add_assoc r, Int.add_comm (o : Int) f, ← Int.add_assoc]
        exact Int.add_zero _
    rw [if_neg c9, if_neg c9]
    by_cases c1 : c = -1
    · rw [if_pos c1, if_pos c1]
      obtain ⟨h1, h2⟩ := ih left (o + 1) r kd
      refine ⟨h1.trans ?_, h2.trans ?_⟩
      · rw [tk1]
      · show r + f + ((o + 1 - l.length : Nat) : Int) = r + (if l = [] then f + 1 else f) + ((o - l.dropLast.length : Nat) : Int)
        rw [List.length_dropLast]
        by_cases hS : l = []
        · rw [if_pos hS]
          exact ar1 r f o _ (by rw [hS]; rfl)
        · rw [if_neg hS, ar2 o _ (fun e => hS (List.length_eq_zero_iff.mp e))]
    rw [if_neg c1, if_neg c1]
    by_cases cp : c = 1
    · rw [if_pos cp]
      cases o with
      | succ o =>
        rw [if_pos ⟨cp, Int.natCast_succ_pos o⟩]
        obtain ⟨h1, h2⟩ := ih left o r kd
        have eo : ((o + 1 : Nat) : Int) - 1 = (o : Int) := by omega
        rw [eo]
        refine ⟨h1.trans ?_, h2.trans ?_⟩
        · show _ = if kd then left else (l ++ [(k : Int)]).take ((l ++ [(k : Int)]).length - (o + 1)) ++ left
          rw [tk2]
        · show r + f + ((o - l.length : Nat) : Int) = r + f + ((o + 1 - (l ++ [(k : Int)]).length : Nat) : Int)
          rw [List.length_append, List.length_singleton, Nat.add_sub_add_right]
      | zero =>
        rw [if_neg fun h => absurd h.2 (Int.lt_irrefl 0)]
        cases kd with
        | false =>
          rw [if_pos ⟨cp, rfl⟩]
          obtain ⟨h1, h2⟩ := ih ((k : Int) :: left) 0 r false
          refine ⟨h1.trans ?_, h2.trans ?_⟩
          · show l.take l.length ++ (k : Int) :: left = (l ++ [(k : Int)]).take (l ++ [(k : Int)]).length ++ left
            rw [List.take_length, List.take_length, List.append_assoc]; rfl
          · show r + f + ((0 - l.length : Nat) : Int) = r + f + ((0 - (l ++ [(k : Int)]).length : Nat) : Int)
            rw [Nat.zero_sub, Nat.zero_sub]
        | true =>
          rw [if_neg fun h => Bool.noConfusion h.2]
          obtain ⟨h1, h2⟩ := ih left 0 r true
          refine ⟨h1, h2.trans ?_⟩
          show r + f + ((0 - l.length : Nat) : Int) = r + f + ((0 - (l ++ [(k : Int)]).length : Nat) : Int)
          rw [Nat.zero_sub, Nat.zero_sub]
    · rw [if_neg fun h => cp h.1, if_neg fun h => cp h.1, if_neg cp]
      exact ih left o r kd
theorem par1 {a : Nat} (h : a % 2 = 1) : ¬ (a + 1) % 2 = 1 := by omega
theorem par2 {a : Nat} (h : ¬ a % 2 = 1) : (a + 1) % 2 = 1 := by omega
/-- quoted: an odd number of 22s right ahead -/
theorem q_ahead (cs : List Int) : ∀ k, (fRun cs k).q = decide (aheadN cs k % 2 = 1)
  | 0 => by simp [fRun, aheadN]
  | k + 1 => by
    have ih := q_ahead cs k
    simp only [fRun, fStep, aheadN]
    by_cases hq : aheadN cs k % 2 = 1
    · have hq' : (fRun cs k).q = true := by rw [ih]; exact decide_eq_true hq
      simp only [hq', Bool.true_eq_false, false_and, if_false]
      refine (decide_eq_false ?_).symm
      split
      · exact par1 hq
      · exact Nat.noConfusion
    · have hq' : (fRun cs k).q = false := by rw [ih]; exact decide_eq_false hq
      simp only [hq', true_and]
      by_cases c : cs.getD k 0 = 22
      · simp only [if_pos c]
        exact (decide_eq_true (par2 hq)).symm
      · simp only [if_neg c]
        (repeat' split) <;> simp
theorem worth_at (nums : List Int) (k : Nat) (hk : k < (codesOf nums).length) : (worthsOf nums).getD k 0 = worthOf (codesOf nums) k := by
  unfold worthsOf
  rw [List.getD_eq_getElem?_getD, List.getElem?_map, List.getElem?_range hk]
  rfl
theorem run_fwd (nums : List Int) : ∀ k, k ≤ (codesOf nums).length → (fRun (codesOf nums) k).S = (fwd (worthsOf nums) k).1 ∧ (fRun (codesOf nums) k).b = (fwd (worthsOf nums) k).2
  | 0, _ => ⟨rfl, rfl⟩
  | k + 1, hk => by
    obtain ⟨h1, h2⟩ := run_fwd nums k (by omega)
    have hq := q_ahead (codesOf nums) k
    simp only [fRun, fStep, fwd, worth_at nums k (by omega), worthOf]
    generalize (codesOf nums).getD k 0 = c0
    by_cases c : aheadN (codesOf nums) k % 2 = 1
    · rw [decide_eq_true c] at hq
      simp [hq, c, h1, h2]
    · rw [decide_eq_false c] at hq
      simp only [hq, if_neg c, true_and]
      by_cases c22 : c0 = 22
      · subst c22; simp [h1, h2]
      · by_cases c8 : c0 = 8 ∨ c0 = 127
        · have c21 : ¬ c0 = 21 := by omega
          simp [c22, c8, c21, h1, h2]
        · by_cases c21 : c0 = 21
          · subst c21; simp [h1, h2]
          · simp [c22, c8, c21, h1, h2]
/-- the law's main word: the walk back tells what the machine did -/
theorem back_run (nums : List Int) (now : Nat) (hn : now < (codesOf nums).length) :
    (bkRun (worthsOf nums) now ((now : Int) - -1).toNat).left = (fRun (codesOf nums) (now + 1)).S ∧
    (bkRun (worthsOf nums) now ((now : Int) - -1).toNat).rung + (bkRun (worthsOf nums) now ((now : Int) - -1).toNat).owed = (fRun (codesOf nums) (now + 1)).b := by
  have e : ((now : Int) - -1).toNat = now + 1 := by omega
  have e1 := bkFrom_run (worthsOf nums) (now + 1) now (by omega) (now + 1) (Nat.le_refl _)
  rw [Nat.sub_self] at e1
  have e2 : bkFrom (worthsOf nums) 0 (bkRun (worthsOf nums) now (now + 1)) = bkRun (worthsOf nums) now (now + 1) := rfl
  obtain ⟨h1, h2⟩ := back_fwd (worthsOf nums) (now + 1) [] 0 0 false
  obtain ⟨r1, r2⟩ := run_fwd nums (now + 1) hn
  replace e1 := e1.trans e2
  rw [show (((0 : Nat) : Int)) = 0 from rfl, e1] at h1 h2
  rw [e, r1, r2, h1, h2]
  refine ⟨?_, ?_⟩
  · simp
  · simp
/-- what is left lies ahead of k -/
theorem run_mem (cs : List Int) : ∀ k, ∀ i ∈ (fRun cs k).S, 0 ≤ i ∧ i < (k : Int)
  | 0, i, h => by simp [fRun] at h
  | k + 1, i, h => by
    have ih := run_mem cs k
    simp only [fRun, fStep] at h
    have step : i ∈ (fRun cs k).S → 0 ≤ i ∧ i < ((k + 1 : Nat) : Int) := fun h => by have := ih i h; omega
    split at h
    · exact step h
    · split at h
      · exact step (List.dropLast_subset _ h)
      · split at h
        · cases h
        · rcases List.mem_append.mp h with h | h
          · exact step h
          · rw [List.mem_singleton.mp h]; omega
theorem run_len (cs : List Int) : ∀ k, (fRun cs k).S.length ≤ k
  | 0 => Nat.le_refl _
  | k + 1 => by
    have ih := run_len cs k
    simp only [fRun, fStep]
    split
    · show (fRun cs k).S.length ≤ k + 1; omega
    · split
      · show (fRun cs k).S.dropLast.length ≤ k + 1; rw [List.length_dropLast]; omega
      · split
        · exact Nat.zero_le _
        · show ((fRun cs k).S ++ [(k : Int)]).length ≤ k + 1
          simp; omega
end Mine
end
section
open PySem PySem.W PyProof.Rows PySem.Calls
set_option maxRecDepth 100000
namespace Mine
theorem white_ok : ∀ c : Nat, c < 256 → Unicode.isSpace c = whiteC c := by decide +kernel
theorem pic_ok : ∀ c : Nat, c < 256 → (picC c).cps.all Unicode.isSpace = decide (c = 32) ∧ 1 ≤ (picC c).length ∧ (picC c).length ≤ 4 := by decide +kernel
theorem cut_ok (x : Str) : butLast x ++ lastOf x = x := by
  show Str.mk (x.cps.extract 0 (x.cps.size - 1) ++ x.cps.extract (x.cps.size - 1) x.cps.size) = x
  rw [Array.extract_append_extract]
  simp
theorem cat_list : ∀ (ts : List Str), (Txt.join (Str.ofString "") ts).cps.toList = ts.flatMap (·.cps.toList) := by
  intro ts
  rw [show Txt.join (Str.ofString "") ts = Str.join (Str.ofString "") ts from StrLaws.glued_eq_join _ _]
  induction ts with
  | nil => rfl
  | cons a r ih =>
    cases r with
    | nil => simp [Str.join]
    | cons b r =>
      rw [List.flatMap_cons, ← ih]
      have e0 : (Str.ofString "").cps = #[] := by decide +kernel
      show ((a.cps ++ (Str.ofString "").cps) ++ (Str.join (Str.ofString "") (b :: r)).cps).toList = _
      rw [e0]; simp
theorem cat_len (ts : List Str) : (Txt.join (Str.ofString "") ts).length = (ts.map (·.length)).sum := by
  show (Txt.join (Str.ofString "") ts).cps.size = _
  rw [← Array.length_toList, cat_list, List.length_flatMap]
  rfl
theorem cat_space (ts : List Str) : Txt.isspace (Txt.join (Str.ofString "") ts) = (decide (0 < (ts.map (·.length)).sum) && ts.all fun t => t.cps.all Unicode.isSpace) := by
  unfold Txt.isspace
  rw [cat_len]
  congr 1
  rw [← Array.all_toList, cat_list, List.all_flatMap]
  apply congrArg (fun f => List.all ts f)
  funext t
  simp
theorem getD_map (pr : List (Str × Str)) (f : Str × Str → Str) : ((List.range pr.length).map fun j => f (pr.getD j (Str.empty, Str.empty))) = pr.map f := by
  apply List.ext_getElem
  · simp
  · intro j h1 h2
    simp only [List.length_map, List.length_range] at h1
    simp [List.getElem?_eq_getElem h1]
theorem preSum_list (pr : List (Str × Str)) : ∀ k, k ≤ pr.length → preSum (lenVal (fun j => (pr.getD j (Str.empty, Str.empty)).1) (fun j => (pr.getD j (Str.empty, Str.empty)).2)) k = ((((pr.take k).map fun q => q.1.length + q.2.length).sum : Nat) : Int)
  | 0, _ => by simp [preSum]
  | k + 1, hk => by
    have ih := preSum_list pr k (by omega)
    simp only [preSum, ih]
    rw [List.take_add_one, List.map_append, List.sum_append, List.getElem?_eq_getElem (by omega)]
    simp only [Option.toList_some, List.map_cons, List.map_nil, List.sum_cons, List.sum_nil]
    have e : pr.getD k (Str.empty, Str.empty) = pr[k] := by rw [List.getD_eq_getElem?_getD, List.getElem?_eq_getElem (by omega)]; rfl
    simp only [lenVal, e]
    omega
theorem str_append_len (a b : Str) : (a ++ b).length = a.length + b.length := by
  show (a.cps ++ b.cps).size = a.cps.size + b.cps.size
  exact Array.size_append
/-- what is_onlyws finds -/
theorem ws_value (pr : List (Str × Str)) : (decide (preSum (lenVal (fun j => (pr.getD j (Str.empty, Str.empty)).1) (fun j => (pr.getD j (Str.empty, Str.empty)).2)) pr.length = 0) || Txt.isspace (Txt.join (Str.ofString "") ((List.range pr.length).map fun j => (pr.getD j (Str.empty, Str.empty)).1 ++ (pr.getD j (Str.empty, Str.empty)).2))) =
    (pr.map fun q => q.1 ++ q.2).all fun t => t.cps.all Unicode.isSpace := by
  rw [preSum_list pr _ (Nat.le_refl _), List.take_length, getD_map pr (fun q => q.1 ++ q.2), cat_space]
  have e : (((pr.map fun q => q.1 ++ q.2).map (·.length)).sum : Nat) = (pr.map fun q => q.1.length + q.2.length).sum := by
    rw [List.map_map]
    congr 1
    apply List.map_congr_left
    intro q _
    exact str_append_len _ _
  rw [e]
  by_cases h : (pr.map fun q => q.1.length + q.2.length).sum = 0
  · rw [h]
    simp only [Int.natCast_zero, decide_true, Bool.true_or]
    symm
    rw [List.all_eq_true]
    intro t ht
    obtain ⟨q, hq, rfl⟩ := List.mem_map.mp ht
    have h0 : (q.1 ++ q.2).length = 0 := by
      have := List.sum_eq_zero_iff_forall_eq_nat.mp h (q.1.length + q.2.length) (List.mem_map_of_mem hq)
      rw [str_append_len]; exact this
    have : (q.1 ++ q.2).cps = #[] := Array.eq_empty_of_size_eq_zero h0
    rw [this]; simp
  · generalize hz : (pr.map fun q => q.1.length + q.2.length).sum = z at h ⊢
    have h1 : decide ((z : Int) = 0) = false := decide_eq_false (by omega)
    rw [h1, decide_eq_true (show 0 < z by omega), Bool.true_and, Bool.false_or]
theorem line_ws (cs S : List Int) (hc : ∀ i ∈ S, codeAt cs i < 256) : ((lineP cs S).map fun q => q.1 ++ q.2).all (fun t => t.cps.all Unicode.isSpace) = S.all fun i => whiteC (codeAt cs i) := by
  unfold lineP
  rw [List.map_map, List.all_map]
  rw [Bool.eq_iff_iff, List.all_eq_true, List.all_eq_true]
  have e0 : (Str.ofString "").cps = #[] := by decide +kernel
  have key : ∀ i ∈ S, ((Str.ofString "" ++ Str.mk #[codeAt cs i]).cps.all Unicode.isSpace) = whiteC (codeAt cs i) := fun i hi => by
    show (((Str.ofString "").cps ++ #[codeAt cs i]).all Unicode.isSpace) = _
    rw [e0, ← white_ok _ (hc i hi)]; simp
  constructor
  · intro h i hi; rw [← key i hi]; exact h i hi
  · intro h i hi; show ((Str.ofString "" ++ Str.mk #[codeAt cs i]).cps.all Unicode.isSpace) = true; rw [key i hi]; exact h i hi
theorem echo_ws (cs S : List Int) (hc : ∀ i ∈ S, codeAt cs i < 256) : ((echoP cs S).map fun q => q.1 ++ q.2).all (fun t => t.cps.all Unicode.isSpace) = S.all fun i => decide (codeAt cs i = 32) := by
  unfold echoP
  rw [List.map_map, List.all_map]
  rw [Bool.eq_iff_iff, List.all_eq_true, List.all_eq_true]
  have key : ∀ i ∈ S, ((butLast (picC (codeAt cs i)) ++ lastOf (picC (codeAt cs i))).cps.all Unicode.isSpace) = decide (codeAt cs i = 32) := fun i hi => by
    rw [cut_ok]; exact (pic_ok _ (hc i hi)).1
  constructor
  · intro h i hi; rw [← key i hi]; exact h i hi
  · intro h i hi; show ((butLast (picC (codeAt cs i)) ++ lastOf (picC (codeAt cs i))).cps.all Unicode.isSpace) = true; rw [key i hi]; exact h i hi
theorem echo_text (cs S : List Int) : ((echoP cs S).map fun q => q.1 ++ q.2) = S.map fun i => picC (codeAt cs i) := by
  unfold echoP
  rw [List.map_map]
  apply List.map_congr_left
  intro i _
  exact cut_ok _
end Mine
end
section
open PySem PySem.W PyProof.Rows PySem.Calls
set_option maxRecDepth 100000
namespace Mine
theorem ints_get {us : List Value} {is : List Int} (h : IntsAre us is) : ∀ j, j < is.length → ∃ t, us[j]? = some (.int (is.getD j 0) t) := by
  induction h with
  | nil => intro j hj; cases hj
  | cons i t _ ih =>
    intro j hj
    cases j with
    | zero => exact ⟨t, rfl⟩
    | succ j => exact ih j (by simpa using hj)
section
variable {w : World} {A : Around} {s : Shared} {E : Value → Shared → Prop} {B : Heap} {a : Ad} {nums : List Int} {p : Int} {os : OsState} {st : FS} {rs : List (Addr × Obj)} {m mg mb : Str → Option Value} {h' : Heap} {tk : Nat}
theorem LV.ext {cs S : List Int} {h : Heap} (V : LV a cs S rs h) (k : Ext h h') : LV a cs S rs h' where
  g1 := let ⟨its, n, e, r⟩ := V.g1; ⟨its, n, k _ _ e, r⟩
  g2 := let ⟨its, n, e, r⟩ := V.g2; ⟨its, n, k _ _ e, r⟩
  t1 := let ⟨ps, t⟩ := V.t1; ⟨ps, k _ _ t.get, t.st⟩
  t2 := let ⟨ps, t⟩ := V.t2; ⟨ps, k _ _ t.get, t.st⟩
theorem LV.but {cs S : List Int} {h : Heap} {b : Addr} (V : LV a cs S rs h) (k : Heap.ExtBut b h h') (n1 : a.x1 ≠ b) (n2 : a.x2 ≠ b) (n3 : 63 ≠ b) (n4 : 70 ≠ b) : LV a cs S rs h' where
  g1 := let ⟨its, n, e, r⟩ := V.g1; ⟨its, n, k _ _ n1 e, r⟩
  g2 := let ⟨its, n, e, r⟩ := V.g2; ⟨its, n, k _ _ n2 e, r⟩
  t1 := let ⟨ps, t⟩ := V.t1; ⟨ps, k _ _ n3 t.get, t.st⟩
  t2 := let ⟨ps, t⟩ := V.t2; ⟨ps, k _ _ n4 t.get, t.st⟩
theorem LI.ext (H : LI w B a nums p os st rs m s) (k : Ext s.heap h') : LI w B a nums p os st rs m { s with heap := h', toks := tk } :=
  ⟨frE H.F k, newsE H.N k, H.S, H.T, H.n, H.V.ext k, H.q, H.b, H.g, H.o⟩
/-- names that the law's word does not speak of -/
noncomputable def Free (y : Str) : Prop := y ≠ Str.ofString "numbers" ∧ y ≠ Str.ofString "prompt" ∧ y ≠ Str.ofString "worths" ∧ y ≠ Str.ofString "line" ∧ y ≠ Str.ofString "echo" ∧ y ≠ Str.ofString "quoted" ∧ y ≠ Str.ofString "bells"
theorem SN.set {y : Str} {v : Value} (n : SN a p m) (hy : y ≠ Str.ofString "numbers" ∧ y ≠ Str.ofString "prompt" ∧ y ≠ Str.ofString "worths" ∧ y ≠ Str.ofString "line" ∧ y ≠ Str.ofString "echo") : SN a p (fun z => if z = y then some v else m z) where
  numbers := by rw [if_neg (Ne.symm hy.1)]; exact n.numbers
  prompt := by rw [if_neg (Ne.symm hy.2.1)]; exact n.prompt
  worths := by rw [if_neg (Ne.symm hy.2.2.1)]; exact n.worths
  line := by rw [if_neg (Ne.symm hy.2.2.2.1)]; exact n.line
  echo := by rw [if_neg (Ne.symm hy.2.2.2.2)]; exact n.echo
theorem LI.set {y : Str} {v : Value} (H : LI w B a nums p os st rs m s) (bf : BF w B a) (hy : Free y) (F' : Fr B a.L h' (fun z => if z = y then some v else m z)) (k : ∀ b o, b ≠ a.L → s.heap.get? b = some o → h'.get? b = some o) :
    LI w B a nums p os st rs (fun z => if z = y then some v else m z) { s with heap := h', toks := tk } :=
  ⟨F', newsL H.N k, H.S, H.T, H.n.set ⟨hy.1, hy.2.1, hy.2.2.1, hy.2.2.2.1, hy.2.2.2.2.1⟩, H.V.but (fun b o hb e => k b o hb e) bf.l1 bf.l2 (Nat.ne_of_lt bf.l3) (Nat.ne_of_lt bf.l4),
    by rw [if_neg (Ne.symm hy.2.2.2.2.2.1)]; exact H.q, by rw [if_neg (Ne.symm hy.2.2.2.2.2.2)]; exact H.b, H.g, H.o⟩
theorem LI.K (H : LI w B a nums p os st rs m s) (bf : BF w B a) : (hd.heap_39 w.params).In s.heap := bf.C.K.keeps H.F.keep
theorem LI.cx (H : LI w B a nums p os st rs m s) (bf : BF w B a) : Cx w s.heap := let ⟨_, _, T⟩ := bf.C.T; cxF H.F bf.C.K T
theorem LI.bm (H : LI w B a nums p os st rs m s) (bf : BF w B a) : Bm s.heap := bf.b.ext H.F.keep
/-- the room that the law wants -/
structure Room (A : Around) : Prop where
  h : A.handled = none
  d : A.depth + 8 < recursionLimit
  u : A.units + 100 < cLine
theorem getL {l : Addr} {us : List Value} {is : List Int} {k : Nat} {t : Tok} {value slice : Expr} {Q : Value → Shared → Prop} (hl : s.heap.IsList l us.toArray) (hi : IntsAre us is) (hk : k < is.length) (hb : is.length ≤ 1000) (h : ∀ u, Q (.int (is.getD k 0) u) s)
    (hs : subscripted slice false (.ref l) (.int (k : Int) t) = operate [.ref l, .int (k : Int) t] (getItem (.ref l) (.int (k : Int) t)) := by rfl) :
    wpAny (model PG w) A (subscriptTail value slice (.ref l) (.int (k : Int) t)) Q E s := by
  obtain ⟨u, e⟩ := ints_get hi k hk
  exact tail_any hl.typeIs slot_list_getitem.lookup (wpAny_getItem_list hl (by omega) (by omega) (by simpa using e) (h u)) hs
set_option maxHeartbeats 1000000
theorem st1 {now : Nat} {t : Tok} {Q : Flow → Shared → Prop} (bf : BF w B a) (R : Room A) (H : LI w B a nums p os st rs m s) (hnow : m (Str.ofString "now") = some (.int (now : Int) t)) (hn : now < nums.length) (hl : nums.length ≤ 15)
    (h : ∀ h' tk v t', v = .str ⟨#[codeOf (nums.getD now 0)]⟩ t' → LI w B a nums p os st rs (fun z => if z = Str.ofString "key" then some v else m z) { s with heap := h', toks := tk } → Q .next { s with heap := h', toks := tk }) :
    wpAny (model PG w) A (exec ((loopBody w).getD 0 (.Pass default)) (lawEnv w a.L)) Q E s := by
  obtain ⟨mg, mb, T⟩ := bf.C.T
  have X := bf.C.K
  obtain ⟨wn, n, mem, hwn⟩ := H.T.num
  refine wpAny_Assign_Name (Call_ (nmG H.F X T rfl (by k_is) (callFn1 (fnAt_of (H.K bf) (by k_is)) (Subscript_ (nmL H.F H.n.numbers (nmL H.F hnow (getL ⟨_, (H.N _ mem).1, rfl, _, rfl⟩ hwn hn (by omega) fun u => ⟨Ext.refl _, ?_⟩)))))))
  refine lawkey_int (H.cx bf) (by have := R.d; omega) _ _ fun t' h' tk k => ?_
  have H2 := H.ext (tk := tk) k
  refine stL (s := { s with heap := h', toks := tk }) H2.F fun h'' F'' k'' => ?_
  exact h h'' _ _ t' rfl (H2.set bf (by unfold Free; decide) F'' k'')
end
end Mine
end
section
open PySem PySem.W PyProof.Rows PySem.Calls
set_option maxRecDepth 100000
namespace Mine
noncomputable def ifB : Stmt → List Stmt
  | .If _ b _ _ => b
  | _ => []
noncomputable def ifE : Stmt → List Stmt
  | .If _ _ e _ => e
  | _ => []
noncomputable abbrev stIf (w : World) : Stmt := (loopBody w).getD 1 (.Pass default)
noncomputable abbrev bodyV (w : World) : List Stmt := ifB (stIf w)
noncomputable abbrev stH (w : World) : Stmt := (ifE (stIf w)).getD 0 (.Pass default)
noncomputable abbrev bodyH (w : World) : List Stmt := ifB (stH w)
noncomputable abbrev stU (w : World) : Stmt := (ifE (stH w)).getD 0 (.Pass default)
noncomputable abbrev bodyU (w : World) : List Stmt := ifB (stU w)
noncomputable abbrev bodyP (w : World) : List Stmt := ifE (stU w)
section
variable {w : World} {A : Around} {s : Shared} {E : Value → Shared → Prop} {B : Heap} {a : Ad} {nums : List Int} {p : Int} {os : OsState} {st : FS} {rs : List (Addr × Obj)} {m mg mb : Str → Option Value} {h' : Heap} {tk : Nat}
theorem LI.setq {q : Bool} (H : LI w B a nums p os st rs m s) (bf : BF w B a) (F' : Fr B a.L h' (fun z => if z = Str.ofString "quoted" then some (.bool q) else m z)) (k : ∀ b o, b ≠ a.L → s.heap.get? b = some o → h'.get? b = some o) :
    LI w B a nums p os ⟨st.S, st.b, q⟩ rs (fun z => if z = Str.ofString "quoted" then some (.bool q) else m z) { s with heap := h', toks := tk } :=
  ⟨F', newsL H.N k, H.S, H.T, H.n.set (by decide), H.V.but (fun b o hb e => k b o hb e) bf.l1 bf.l2 (Nat.ne_of_lt bf.l3) (Nat.ne_of_lt bf.l4),
    if_pos rfl, by rw [if_neg (by decide)]; exact H.b, H.g, H.o⟩
theorem LI.setb {b : Int} {t : Tok} (H : LI w B a nums p os st rs m s) (bf : BF w B a) (F' : Fr B a.L h' (fun z => if z = Str.ofString "bells" then some (.int b t) else m z)) (k : ∀ b o, b ≠ a.L → s.heap.get? b = some o → h'.get? b = some o) :
    LI w B a nums p os ⟨st.S, b, st.q⟩ rs (fun z => if z = Str.ofString "bells" then some (.int b t) else m z) { s with heap := h', toks := tk } :=
  ⟨F', newsL H.N k, H.S, H.T, H.n.set (by decide), H.V.but (fun b o hb e => k b o hb e) bf.l1 bf.l2 (Nat.ne_of_lt bf.l3) (Nat.ne_of_lt bf.l4),
    by rw [if_neg (by decide)]; exact H.q, ⟨t, if_pos rfl⟩, H.g, H.o⟩
theorem acc_m {x d : Addr} {its : Array Value} {n nd : Nat} {td tp : Tok} {pp : Int} {name : Str} {f : Addr} {pl : Sem Bool} {Q : Value × List Value → Shared → Prop} (X : (hd.heap_39 w.params).In s.heap) (hx : s.heap.get? x = some (accObj d its n)) (hdd : s.heap.get? d = some (sizeDict w td pp tp nd))
    (hf : findIn (hd.heap_39 w.params) (.ref 101) name = some (some (.ref f))) (ht : typeIn (hd.heap_39 w.params) (.ref f) = some (.type "function")) (hs : shadowIn (some (sizeDict w td pp tp nd)) name = some false) (h : Q (.ref f, [.ref x]) s) :
    wpAny (model PG w) A (getMethod (.ref x) name pl) Q E s := acc_method X (accInst hx hdd) (by k_is) (by k_is) hf ht rfl hs h
theorem condQ {p1 p2 : Pos} {whole : Sem Value} {Q : Bool → Shared → Prop} (H : LI w B a nums p os st rs m s) (h : Q (!st.q) s) : wpAny (model PG w) A (isTrue (.UnaryOp .Not (.Name (Str.ofString "quoted") p1) p2) (lawEnv w a.L) whole) Q E s :=
  isTrue_not (isTrue_plain (nmL H.F H.q (wpAny_truthy_bool h)))
theorem one_eq (c d : Nat) : ((Str.mk #[c]) == (Str.mk #[d])) = decide (c = d) := by
  rw [Bool.eq_iff_iff]
  simp
theorem condCtrl {x : Str} {c d : Nat} {t : Tok} {k : Nat} {p1 p2 p3 p4 p5 : Pos} {whole : Sem Value} {Q : Bool → Shared → Prop} (bf : BF w B a) (R : Room A) (H : LI w B a nums p os st rs m s) (hk : m (Str.ofString "key") = some (.str ⟨#[c]⟩ t)) (hx : x = ⟨#[d]⟩)
    (h : ∀ h' tk, Ext s.heap h' → Q (decide (c = d % 32)) { s with heap := h', toks := tk }) :
    wpAny (model PG w) A (isTrue (.Compare (.Name (Str.ofString "key") p1) [.Eq] [.Call (.Name (Str.ofString "ctrl") p2) [.Constant (.str x) k p3] [] p4] p5) (lawEnv w a.L) whole) Q E s := by
  obtain ⟨mg, mb, T⟩ := bf.C.T
  refine wpAny_isTrue_Compare1 (nmL H.F hk (Call_ (nmG H.F bf.C.K T rfl (by k_is) (callFn1 (fnAt_of (H.K bf) (by k_is)) (Calls.Constant_str ⟨fun _ _ e => e, ?_⟩)))))
  subst hx
  have H2 := H.ext (h' := s.heap) (tk := s.toks + 1) (Ext.refl _)
  refine ctrl_str (s := { s with toks := s.toks + 1 }) (H2.cx bf) (by have := R.d; omega) _ _ fun t' h' tk k => ?_
  refine PyProof.Rows.eq_str (wpAny_truthy_bool ?_)
  rw [one_eq]
  exact h h' tk k
end
end Mine
end
section
open PySem PySem.W PyProof.Rows PySem.Calls
set_option maxRecDepth 100000
namespace Mine
section
variable {w : World} {A : Around} {s : Shared} {E : Value → Shared → Prop} {B : Heap} {a : Ad} {nums : List Int} {p : Int} {os : OsState} {st : FS} {rs : List (Addr × Obj)} {m mg mb : Str → Option Value} {h' : Heap} {tk : Nat}
theorem acc_tab {h : Heap} {x d : Addr} {its ps : Array Value} {n : Nat} {P : Addr} (hx : h.get? x = some (accObj d its n)) (hP : h.get? P = some (tabObj ps)) : x ≠ P := apartC hx hP (by simp)
/-- the first accumulator changed -/
theorem LI.up1 {its : Array Value} {n : Nat} {S' : List Int} {b' : Int} (H : LI w B a nums p os st rs m s) (bf : BF w B a) (k : Heap.ExtBut a.x1 s.heap h') (e : h'.get? a.x1 = some (accObj a.d1 its n)) (hp : PC rs its (lineP (codesOf nums) S')) (he : ∃ its n, h'.get? a.x2 = some (accObj a.d2 its n) ∧ PC rs its (echoP (codesOf nums) S')) :
    LI w B a nums p os ⟨S', st.b, st.q⟩ rs m { s with heap := h', toks := tk } := by
  obtain ⟨i1, n1, g1, _⟩ := H.V.g1
  obtain ⟨ps, t1⟩ := H.V.t1
  obtain ⟨qs, t2⟩ := H.V.t2
  have y1 := acc_tab g1 t1.get
  have y2 := acc_tab g1 t2.get
  exact ⟨frBut' H.F k bf.n1 bf.l1, newsS H.N H.S g1 (.inl ⟨_, _, _, rfl⟩) k, H.S, H.T, H.n, ⟨⟨its, n, e, hp⟩, he, ⟨ps, k _ _ (Ne.symm y1) t1.get, t1.st⟩, ⟨qs, k _ _ (Ne.symm y2) t2.get, t2.st⟩⟩, H.q, H.b, H.g, H.o⟩
/-- the law between the two changes -/
structure LH (w : World) (B : Heap) (a : Ad) (nums : List Int) (p : Int) (os : OsState) (st : FS) (S' : List Int) (rs : List (Addr × Obj)) (m : Str → Option Value) (s : Shared) : Prop where
  F : Fr B a.L s.heap m
  N : News B a.L s.heap rs
  S : ∀ q ∈ rs, Stat q.2
  T : ST w a nums p rs
  n : SN a p m
  g1 : ∃ its n, s.heap.get? a.x1 = some (accObj a.d1 its n) ∧ PC rs its (lineP (codesOf nums) S')
  g2 : ∃ its n, s.heap.get? a.x2 = some (accObj a.d2 its n) ∧ PC rs its (echoP (codesOf nums) st.S)
  t1 : ∃ ps, TabAt' s.heap 63 posLen ps
  t2 : ∃ qs, TabAt' s.heap 70 posStr qs
  q : m (Str.ofString "quoted") = some (.bool st.q)
  b : ∃ t, m (Str.ofString "bells") = some (.int st.b t)
  g : AllBare s.gens
  o : s.os = os
theorem LI.half {its : Array Value} {n : Nat} {S' : List Int} (H : LI w B a nums p os st rs m s) (bf : BF w B a) (k : Heap.ExtBut a.x1 s.heap h') (e : h'.get? a.x1 = some (accObj a.d1 its n)) (hp : PC rs its (lineP (codesOf nums) S')) :
    LH w B a nums p os st S' rs m { s with heap := h', toks := tk } := by
  obtain ⟨i1, n1, g1, _⟩ := H.V.g1
  obtain ⟨ps, t1⟩ := H.V.t1
  obtain ⟨qs, t2⟩ := H.V.t2
  obtain ⟨i2, n2, g2, r2⟩ := H.V.g2
  have y1 := acc_tab g1 t1.get
  have y2 := acc_tab g1 t2.get
  exact ⟨frBut' H.F k bf.n1 bf.l1, newsS H.N H.S g1 (.inl ⟨_, _, _, rfl⟩) k, H.S, H.T, H.n, ⟨its, n, e, hp⟩, ⟨i2, n2, k _ _ (Ne.symm bf.l5) g2, r2⟩, ⟨ps, k _ _ (Ne.symm y1) t1.get, t1.st⟩, ⟨qs, k _ _ (Ne.symm y2) t2.get, t2.st⟩, H.q, H.b, H.g, H.o⟩
theorem LH.ext {S' : List Int} (H : LH w B a nums p os st S' rs m s) (k : Ext s.heap h') : LH w B a nums p os st S' rs m { s with heap := h', toks := tk } :=
  ⟨frE H.F k, newsE H.N k, H.S, H.T, H.n, (let ⟨i, n, e, r⟩ := H.g1; ⟨i, n, k _ _ e, r⟩), (let ⟨i, n, e, r⟩ := H.g2; ⟨i, n, k _ _ e, r⟩), (let ⟨ps, t⟩ := H.t1; ⟨ps, k _ _ t.get, t.st⟩), (let ⟨ps, t⟩ := H.t2; ⟨ps, k _ _ t.get, t.st⟩), H.q, H.b, H.g, H.o⟩
theorem LH.more {S' : List Int} {rs' : List (Addr × Obj)} (H : LH w B a nums p os st S' rs m s) (hs : ∀ q ∈ rs, q ∈ rs') (N' : News B a.L s.heap rs') (hS : ∀ q ∈ rs', Stat q.2) : LH w B a nums p os st S' rs' m s :=
  ⟨H.F, N', hS, H.T.more hs, H.n, (let ⟨i, n, e, r⟩ := H.g1; ⟨i, n, e, r.more hs⟩), (let ⟨i, n, e, r⟩ := H.g2; ⟨i, n, e, r.more hs⟩), H.t1, H.t2, H.q, H.b, H.g, H.o⟩
theorem LI.more {rs' : List (Addr × Obj)} (H : LI w B a nums p os st rs m s) (hs : ∀ q ∈ rs, q ∈ rs') (N' : News B a.L s.heap rs') (hS : ∀ q ∈ rs', Stat q.2) : LI w B a nums p os st rs' m s :=
  ⟨H.F, N', hS, H.T.more hs, H.n, ⟨(let ⟨i, n, e, r⟩ := H.V.g1; ⟨i, n, e, r.more hs⟩), (let ⟨i, n, e, r⟩ := H.V.g2; ⟨i, n, e, r.more hs⟩), H.V.t1, H.V.t2⟩, H.q, H.b, H.g, H.o⟩
/-- the second accumulator follows -/
theorem LH.whole {its : Array Value} {n : Nat} {S' : List Int} (H : LH w B a nums p os st S' rs m s) (bf : BF w B a) (k : Heap.ExtBut a.x2 s.heap h') (e : h'.get? a.x2 = some (accObj a.d2 its n)) (hp : PC rs its (echoP (codesOf nums) S')) :
    LI w B a nums p os ⟨S', st.b, st.q⟩ rs m { s with heap := h', toks := tk } := by
  obtain ⟨i1, n1, g1, r1⟩ := H.g1
  obtain ⟨ps, t1⟩ := H.t1
  obtain ⟨qs, t2⟩ := H.t2
  obtain ⟨i2, n2, g2, r2⟩ := H.g2
  have y1 := acc_tab g2 t1.get
  have y2 := acc_tab g2 t2.get
  exact ⟨frBut' H.F k bf.n2 bf.l2, newsS H.N H.S g2 (.inl ⟨_, _, _, rfl⟩) k, H.S, H.T, H.n, ⟨⟨i1, n1, k _ _ bf.l5 g1, r1⟩, ⟨its, n, e, hp⟩, ⟨ps, k _ _ (Ne.symm y1) t1.get, t1.st⟩, ⟨qs, k _ _ (Ne.symm y2) t2.get, t2.st⟩⟩, H.q, H.b, H.g, H.o⟩
theorem LH.setb {S' : List Int} {b : Int} {t : Tok} (H : LH w B a nums p os st S' rs m s) (bf : BF w B a) (F' : Fr B a.L h' (fun z => if z = Str.ofString "bells" then some (.int b t) else m z)) (k : ∀ b o, b ≠ a.L → s.heap.get? b = some o → h'.get? b = some o) :
    LH w B a nums p os ⟨st.S, b, st.q⟩ S' rs (fun z => if z = Str.ofString "bells" then some (.int b t) else m z) { s with heap := h', toks := tk } :=
  ⟨F', newsL H.N k, H.S, H.T, H.n.set (by decide), (let ⟨i, n, e, r⟩ := H.g1; ⟨i, n, k _ _ bf.l1 e, r⟩), (let ⟨i, n, e, r⟩ := H.g2; ⟨i, n, k _ _ bf.l2 e, r⟩), (let ⟨ps, t⟩ := H.t1; ⟨ps, k _ _ (Nat.ne_of_lt bf.l3) t.get, t.st⟩), (let ⟨ps, t⟩ := H.t2; ⟨ps, k _ _ (Nat.ne_of_lt bf.l4) t.get, t.st⟩),
    by rw [if_neg (by decide)]; exact H.q, ⟨t, if_pos rfl⟩, H.g, H.o⟩
theorem LH.cx {S' : List Int} (H : LH w B a nums p os st S' rs m s) (bf : BF w B a) : Cx w s.heap := let ⟨_, _, T⟩ := bf.C.T; cxF H.F bf.C.K T
theorem LH.K {S' : List Int} (H : LH w B a nums p os st S' rs m s) (bf : BF w B a) : (hd.heap_39 w.params).In s.heap := bf.C.K.keeps H.F.keep
/-- a method of an accumulator called without arguments -/
theorem meth0 {x d : Addr} {its : Array Value} {n nd : Nat} {td tp : Tok} {pp : Int} {name y : Str} {f : Addr} {p1 p2 p3 : Pos} {L : Addr} {Q : Value → Shared → Prop} (F : Fr B L s.heap m) (X : (hd.heap_39 w.params).In s.heap) (hy : m y = some (.ref x)) (hx : s.heap.get? x = some (accObj d its n)) (hdd : s.heap.get? d = some (sizeDict w td pp tp nd))
    (hf : findIn (hd.heap_39 w.params) (.ref 101) name = some (some (.ref f))) (ht : typeIn (hd.heap_39 w.params) (.ref f) = some (.type "function")) (hs : shadowIn (some (sizeDict w td pp tp nd)) name = some false) (hfn : FnAt f s.heap)
    (h : wpAny (model PG w) A (call (.ref f) [.ref x]) Q E s)
    (hk : (lawEnv w L).scope.kind = .function := by rfl) (hl : (lawEnv w L).kindOf y = some .local := by rfl) (hd2 : (y == ("__debug__" : Str)) = false := by decide)
    {pl : Sem Bool} (he : eval (.Call (.Attribute (.Name y p1) name p2) [] [] p3) (lawEnv w L) = (do
      let ov ← eval (.Name y p1) (lawEnv w L)
      standAt p2.atName
      let (f, first) ← holding [ov] (getMethod ov name pl)
      callWith p3 f first (backTo p3 (starEach [] (lawEnv w L))) []) := by rfl) :
    wpAny (model PG w) A (eval (.Call (.Attribute (.Name y p1) name p2) [] [] p3) (lawEnv w L)) Q E s :=
  MethodCall_ (nmL F hy (acc_m X hx hdd hf ht hs (callWith_F0 hfn h)) rfl hk hl hd2) he
end
end Mine
end
section
open PySem PySem.W PyProof.Rows PySem.Calls
set_option maxRecDepth 100000
namespace Mine
theorem eqv_empty : PyData.eqv (.tuple [.str (Str.ofString ""), .str (Str.ofString "")]) (.tuple [.str (Str.ofString ""), .str (Str.ofString "")]) = true := by decide +kernel
theorem ofStr_empty : (Str.ofString "").cps = #[] := by decide +kernel
theorem one_ne_empty (c : Nat) : (Str.mk #[c]) ≠ Str.ofString "" := fun e => by
  have h := congrArg (fun x : Str => x.cps.size) e
  simp [ofStr_empty] at h
theorem eqv_key (c : Nat) : PyData.eqv (.tuple [.str (Str.ofString ""), .str ⟨#[c]⟩]) (.tuple [.str (Str.ofString ""), .str (Str.ofString "")]) = false := by
  simp [PyData.eqv, PyData.eqvAll]
  exact one_ne_empty c
theorem strOk_empty : PyData.strOk (Str.ofString "") = true := by decide +kernel
theorem strOk_one {c : Nat} (h : c < 256) : PyData.strOk ⟨#[c]⟩ = true := by
  simp [PyData.strOk]; omega
theorem shaped_two {a b : Str} (ha : PyData.strOk a = true) (hb : PyData.strOk b = true) : SeqAt.shaped (.tuple [.str a, .str b]) = true := by
  simp [SeqAt.shaped, PyData.canLay0, PyData.canLayAll0, PyData.depth, PyData.depthAll, ha, hb]
/-- a pair of texts written down -/
theorem Tup2 {w : World} {A : Around} {s : Shared} {E : Value → Shared → Prop} {env : Env} {x y : Str} {k1 k2 k : Nat} {p1 p2 p3 : Pos} {Q : Value → Shared → Prop}
    (h : Q (.ref s.heap.objs.size) { s with heap := s.heap.push { cls := .type "tuple", data := .seq [Value.str x s.toks, .str y (s.toks + 1)].toArray }, toks := s.toks + 1 + 1 }) :
    wpAny (model PG w) A (eval (.Tuple [.Constant (.str x) k1 p1, .Constant (.str y) k2 p2] k p3) env) Q E s := by
  refine Tuple_ ?_
  refine Calls.spliced_cons (rest := [(false, eval (.Constant (.str y) k2 p2) env)]) (x := eval (.Constant (.str x) k1 p1) env) ?_
  refine Calls.Constant_str ?_
  refine Calls.spliced_cons (x := eval (.Constant (.str y) k2 p2) env) (rest := []) ?_
  refine Calls.Constant_str ?_
  exact Calls.spliced_nil (wpAny_newTuple h)
section
variable {w : World} {A : Around} {s : Shared} {E : Value → Shared → Prop} {B : Heap} {a : Ad} {nums : List Int} {p : Int} {os : OsState} {st : FS} {rs : List (Addr × Obj)} {m mg mb : Str → Option Value} {h' : Heap} {tk : Nat}
theorem LI.toH (H : LI w B a nums p os st rs m s) : LH w B a nums p os st st.S rs m s := ⟨H.F, H.N, H.S, H.T, H.n, H.V.g1, H.V.g2, H.V.t1, H.V.t2, H.q, H.b, H.g, H.o⟩
theorem LH.toI (H : LH w B a nums p os st st.S rs m s) : LI w B a nums p os st rs m s := ⟨H.F, H.N, H.S, H.T, H.n, ⟨H.g1, H.g2, H.t1, H.t2⟩, H.q, H.b, H.g, H.o⟩
theorem reads_pair {h : Heap} {T : Addr} {x y : Str} {tx ty : Tok} {n : Nat} (e : h.get? T = some (pairObj x tx y ty n)) : Reads h (.ref T) (.tuple [.str x, .str y]) [] :=
  .tuple e rfl rfl (.cons (.str x tx) (.cons (.str y ty) .nil))
theorem PC.nil_of {its : Array Value} {pr : List (Str × Str)} (h : PC rs its pr) (e : pr = []) : its = #[] := by
  have := h.1
  rw [e] at this
  exact Array.eq_empty_of_size_eq_zero this
theorem PC.snoc_of {its : Array Value} {pr : List (Str × Str)} (h : PC rs its pr) (e : pr ≠ []) : ∃ (i' : Array Value) (v : Value), its = i'.push v := by
  have hl := h.1
  have h0 : 0 < its.size := by rw [hl]; exact List.length_pos_iff.mpr e
  obtain ⟨i', v, e⟩ := Array.exists_push_of_size_pos h0
  exact ⟨i', v, e⟩
set_option maxHeartbeats 1000000
/-- echo.pop() as a statement -/
theorem echo_pop {Q : Flow → Shared → Prop} (bf : BF w B a) (R : Room A) {S' : List Int} (hS : S' = st.S.dropLast) (hlen : st.S.length ≤ 100) (H : LH w B a nums p os st S' rs m s)
    (h : ∀ h' tk, LI w B a nums p os ⟨S', st.b, st.q⟩ rs m { s with heap := h', toks := tk } → Q .next { s with heap := h', toks := tk }) :
    wpAny (model PG w) A (exec ((bodyH w).getD 1 (.Pass default)) (lawEnv w a.L)) Q E s := by
  obtain ⟨its, n, g2, r2⟩ := H.g2
  obtain ⟨td, tp, nd, hd2⟩ := H.T.d2
  have hdd := (H.N _ hd2).1
  have hdep := R.d
  refine wpAny_Expr_any (meth0 H.F (H.K bf) H.n.echo g2 hdd (f := 61) (by k_is) (by k_is) rfl (fnAt_of (H.K bf) (by k_is)) ?_)
  by_cases hS0 : st.S = []
  · have hi := r2.nil_of (by rw [hS0]; rfl)
    subst hi
    refine pop_empty (H.cx bf) ⟨⟨n, g2⟩, td, tp, nd, hdd⟩ (by first | exact dn R.d rfl | exact dn R.u rfl | exact (Int.toNat_lt (by assumption)).mpr (by assumption) | omega) fun T h' tk n ta tb k hT eT => ?_
    have e : S' = st.S := by rw [hS, hS0]; rfl
    subst e
    exact h h' tk (H.ext k).toI
  · have hne : echoP (codesOf nums) st.S ≠ [] := by simpa [echoP] using hS0
    obtain ⟨i', v, rfl⟩ := r2.snoc_of hne
    have hsz := r2.1
    have r3 := r2.pop.1
    refine pop_push (H.cx bf) ⟨⟨n, g2⟩, td, tp, nd, hdd⟩ (by first | exact dn R.d rfl | exact dn R.u rfl | exact (Int.toNat_lt (by assumption)).mpr (by assumption) | omega) (by rw [hsz, sizeLine_eq]; simp [echoP]; omega) fun h' tk n' k e => ?_
    refine h h' tk (H.whole bf k e ?_)
    rw [hS]
    have : echoP (codesOf nums) st.S.dropLast = (echoP (codesOf nums) st.S).dropLast := by unfold echoP; rw [List.map_dropLast]
    rw [this]; exact r3
theorem br_H {Q : Flow → Shared → Prop} (bf : BF w B a) (R : Room A) (hcs : ∀ i, codeAt (codesOf nums) i < 256) (hlen : st.S.length ≤ 100) (H : LI w B a nums p os st rs m s)
    (h : ∀ h' tk m', LI w B a nums p os ⟨st.S.dropLast, if st.S = [] then st.b + 1 else st.b, st.q⟩ rs m' { s with heap := h', toks := tk } → m' (Str.ofString "now") = m (Str.ofString "now") → Q .next { s with heap := h', toks := tk }) :
    wpAny (model PG w) A (execs (bodyH w) (lawEnv w a.L)) Q E s := by
  obtain ⟨its, n, g1, r1⟩ := H.V.g1
  obtain ⟨td, tp, nd, hd1⟩ := H.T.d1
  have hdd := (H.N _ hd1).1
  have hdep := R.d
  have hu := R.u
  refine wpAny_execs_cons (wpAny_If (wpAny_isTrue_Compare1 (meth0 H.F (H.K bf) H.n.line g1 hdd (f := 61) (by k_is) (by k_is) rfl (fnAt_of (H.K bf) (by k_is)) ?_)))
  by_cases hS0 : st.S = []
  · have hi := r1.nil_of (by rw [hS0]; rfl)
    subst hi
    refine pop_empty (H.cx bf) ⟨⟨n, g1⟩, td, tp, nd, hdd⟩ (by first | exact dn R.d rfl | exact dn R.u rfl | exact (Int.toNat_lt (by assumption)).mpr (by assumption) | omega) fun T h' tk n ta tb k hT eT => ?_
    refine Tup2 ?_
    dsimp only
    refine eq_dataH (reads_pair (Heap.get?_push_of_some _ eT)) (reads_pair (Heap.get?_push_size _ rfl)) (shaped_two strOk_empty (by first | exact strOk_empty | exact strOk_one (hcs _))) (shaped_two strOk_empty strOk_empty) (by first | exact dn R.d rfl | exact dn R.u rfl | exact (Int.toNat_lt (by assumption)).mpr (by assumption) | omega) (wpAny_truthy_bool ?_)
    rw [eqv_empty]
    simp only [if_true]
    have H2 := (H.ext (tk := tk + 1 + 1) k).toH
    have H3 := H2.ext (h' := h'.push { cls := .type "tuple", data := .seq [Value.str (Str.ofString "") tk, .str (Str.ofString "") (tk + 1)].toArray }) (tk := tk + 1 + 1) (fun _ _ e => Heap.get?_push_of_some _ e)
    obtain ⟨tb0, hb0⟩ := H3.b
    refine wpAny_execs_cons (wpAny_Assign_Name (wpAny_BinOp (nmL H3.F hb0 (wpAny_Constant_int (add_int (stL (s := { s with heap := _, toks := _ }) H3.F fun h'' F'' k'' => ?_))))))
    have H4 := H3.setb (tk := tk + 1 + 1 + 1 + 1 + 1) bf F'' k''
    refine wpAny_execs_nil ?_
    refine wpAny_execs_cons ?_
    refine echo_pop bf R (st := ⟨st.S, st.b + 1, st.q⟩) (S' := st.S) (by rw [hS0]; rfl) hlen H4 fun h5 tk5 H5 => ?_
    refine wpAny_execs_nil ?_
    have e : st.S.dropLast = st.S := by rw [hS0]; rfl
    rw [e, if_pos hS0] at h
    exact h _ _ _ H5 (if_neg (by decide))
  · have hne : lineP (codesOf nums) st.S ≠ [] := by simpa [lineP] using hS0
    obtain ⟨i', v, rfl⟩ := r1.snoc_of hne
    have hsz := r1.1
    obtain ⟨r3, T, ta, tb, nt, rfl, hmem⟩ := r1.pop
    refine pop_push (H.cx bf) ⟨⟨n, g1⟩, td, tp, nd, hdd⟩ (by first | exact dn R.d rfl | exact dn R.u rfl | exact (Int.toNat_lt (by assumption)).mpr (by assumption) | omega) (by rw [hsz, sizeLine_eq]; simp [lineP]; omega) fun h' tk n' k e => ?_
    have hlp : lineP (codesOf nums) st.S.dropLast = (lineP (codesOf nums) st.S).dropLast := by unfold lineP; rw [List.map_dropLast]
    have H2 := H.half (tk := tk) bf k e (hlp ▸ r3)
    have eT := (H2.N _ hmem).1
    have hlast : (lineP (codesOf nums) st.S).getLastD (Str.empty, Str.empty) = (Str.ofString "", ⟨#[codeAt (codesOf nums) (st.S.getLast hS0)]⟩) := by
      unfold lineP
      rw [List.getLastD_eq_getLast?, List.getLast?_map, List.getLast?_eq_some_getLast hS0]
      rfl
    rw [hlast] at eT
    refine Tup2 ?_
    dsimp only at eT ⊢
    refine eq_dataH (reads_pair (Heap.get?_push_of_some _ eT)) (reads_pair (Heap.get?_push_size _ rfl)) (shaped_two strOk_empty (by first | exact strOk_empty | exact strOk_one (hcs _))) (shaped_two strOk_empty strOk_empty) (by first | exact dn R.d rfl | exact dn R.u rfl | exact (Int.toNat_lt (by assumption)).mpr (by assumption) | omega) (wpAny_truthy_bool ?_)
    rw [eqv_key]
    simp only [Bool.false_eq_true, if_false]
    have H3 := H2.ext (h' := h'.push { cls := .type "tuple", data := .seq [Value.str (Str.ofString "") tk, .str (Str.ofString "") (tk + 1)].toArray }) (tk := tk + 1 + 1) (fun _ _ e => Heap.get?_push_of_some _ e)
    refine wpAny_execs_nil ?_
    refine wpAny_execs_cons ?_
    refine echo_pop bf R rfl hlen H3 fun h5 tk5 H5 => ?_
    refine wpAny_execs_nil (h _ _ _ ?_ rfl)
    rw [if_neg hS0]
    exact H5
end
end Mine
end
section
open PySem PySem.W PyProof.Rows PySem.Calls
set_option maxRecDepth 100000
namespace Mine
theorem slice_cut {x : Str} (h1 : 1 ≤ x.length) : Txt.slice x none (some (-1)) = butLast x := by
  have e : Txt.slice x none (some (-1)) = StrLaws.sliceText x none (some (-1)) := rfl
  have h2 : -(x.length : Int) ≤ -1 := Int.neg_le_neg (Int.ofNat_le.mpr h1)
  rw [e, StrLaws.sliceText_to_neg (by decide) h2]
  unfold butLast
  congr 1
  apply Array.ext'
  rw [Array.toList_extract]
  simp only [List.extract_eq_take_drop, List.drop_zero]
  congr 1
  obtain ⟨n, hn⟩ : ∃ n, x.cps.size = n + 1 := ⟨x.cps.size - 1, (Nat.sub_add_cancel h1).symm⟩
  have hs : x.length = n + 1 := hn
  rw [hs, hn, show (-1 + ((n + 1 : Nat) : Int) - 0) = (n : Int) by omega, Int.toNat_natCast, Nat.add_sub_cancel, Nat.sub_zero]
theorem last_at {x : Str} (h1 : 1 ≤ x.length) : ∃ c, (seqIndex? (-1) x.length).bind (x.cps[·]?) = some c ∧ lastOf x = ⟨#[c]⟩ := by
  obtain ⟨n, hn⟩ : ∃ n, x.cps.size = n + 1 := ⟨x.cps.size - 1, (Nat.sub_add_cancel h1).symm⟩
  have hs : x.length = n + 1 := hn
  have hlt : n < x.cps.size := hn ▸ Nat.lt_succ_self n
  refine ⟨x.cps[n], StrLaws.at_neg (by decide) (by clear hlt hn h1; omega) ?_, ?_⟩
  · have e : (-1 + (x.length : Int)).toNat = n := by
      rw [hs, show (-1 + ((n + 1 : Nat) : Int)) = (n : Int) by omega, Int.toNat_natCast]
    rw [e]; exact Array.getElem?_eq_getElem hlt
  · unfold lastOf
    congr 1
    rw [hn, Nat.add_sub_cancel]
    apply Array.ext'
    rw [Array.toList_extract, List.extract_eq_take_drop, Nat.add_sub_cancel_left]
    rw [List.drop_eq_getElem_cons (by rw [Array.length_toList]; exact hlt)]
    rfl
section
variable {w : World} {A : Around} {s : Shared} {E : Value → Shared → Prop} {env : Env}
theorem sliceP {value slice : Expr} {x : Str} {t : Tok} {j : Int} {uj : Tok} {Q : Value → Shared → Prop} (hsz : x.length ≤ sizeLine) (h : ∀ h' t' k, Ext s.heap h' → Q (.str (Txt.slice x none (some j)) t') { s with heap := h', toks := k })
    (hs : ∀ a, subscripted slice false (.str x t) (.ref a) = operate [.ref a, .str x t] (getItem (.str x t) (.ref a)) := by intro _; rfl) :
    wpAny (model PG w) A (subscriptTail value slice (.str x t) (.ref s.heap.objs.size)) Q E { s with heap := s.heap.push { cls := .type "slice", data := .fields #[.none, .int j uj, .none] } } := by
  obtain ⟨T, id, hl, hT, hg⟩ := SBH.sliceItem_ns (prog := PG) (w := w) (A := A) (E := E) (P := fun h' => Ext s.heap h') (uj := uj) (t := t) (fun _ _ e b o g => Heap.get?_push_of_some _ (e b o g)) (Ext.refl s.heap) h hsz
  exact tail_any hT hl hg (hs _)
/-- a text but its last sign -/
theorem cutB {e : Expr} {k : Nat} {p1 p2 p3 p4 : Pos} {Q : Value → Shared → Prop}
    (h : wpAny (model PG w) A (eval e env) (fun v s₁ => ∃ x t, v = .str x t ∧ 1 ≤ x.length ∧ x.length ≤ 1000 ∧ ∀ h' t' k, Ext s₁.heap h' → Q (.str (butLast x) t') { s₁ with heap := h', toks := k }) E s) :
    wpAny (model PG w) A (eval (.Subscript e (.Slice none (some (.UnaryOp .USub (.Constant (.int 1) k p1) p2)) none p3) p4) env) Q E s := by
  refine Subscript_ (wpAny_mono h (fun v s₁ h₁ => ?_) fun _ _ x => x)
  obtain ⟨x, t, rfl, hx, hz, hq⟩ := h₁
  refine wpAny_Slice (evalPart_none_step (evalPart_some_step (UnaryOp_ (wpAny_Constant_int (neg_int (evalPart_none_step ?_))))))
  refine sliceP (s := { s₁ with toks := _ }) (by rw [sizeLine_eq]; omega) fun h' t' k e => ?_
  rw [slice_cut hx]
  exact hq h' t' k e
theorem lastL {e : Expr} {k : Nat} {p1 p2 p4 : Pos} {Q : Value → Shared → Prop}
    (h : wpAny (model PG w) A (eval e env) (fun v s₁ => ∃ x t, v = .str x t ∧ 1 ≤ x.length ∧ ∀ t' k, Q (.str (lastOf x) t') { s₁ with toks := k }) E s) :
    wpAny (model PG w) A (eval (.Subscript e (.UnaryOp .USub (.Constant (.int 1) k p1) p2) p4) env) Q E s := by
  refine Subscript_ (wpAny_mono h (fun v s₁ h₁ => ?_) fun _ _ x => x)
  obtain ⟨x, t, rfl, hx, hq⟩ := h₁
  refine UnaryOp_ (wpAny_Constant_int (neg_int ?_))
  obtain ⟨c, hc, hl⟩ := last_at hx
  refine tail_any (typeIs_str _ _ _) slot_str_getitem.lookup (PyProof.Rows.getItem_str (by decide) hc ?_) (by rfl)
  rw [← hl]
  exact hq _ _
theorem callS1 {f : Addr} {v₀ : Value} {e : Expr} {pos : Pos} {Q : Value → Shared → Prop} (hf : FnAt f s.heap) (h : wpAny (model PG w) A (eval e env) (fun v s₁ => Ext s.heap s₁.heap ∧ wpAny (model PG w) A (call (.ref f) [v₀, v]) Q E s₁) E s)
    (he : starEach [e] env = [(false, eval e env)] := by rfl) : wpAny (model PG w) A (callWith pos (.ref f) [v₀] (backTo pos (starEach [e] env)) []) Q E s := by
  refine callWith_F hf ?_ he rfl
  rw [he]
  refine Calls.spliced_cons (wpAny_mono h (fun v s₁ h₁ => Calls.spliced_nil ⟨?_, h₁.2⟩) fun _ _ x => x)
  obtain ⟨oc, od, fd, sl, ef⟩ := hf
  exact ⟨oc, od, fd, sl, h₁.1 _ _ ef⟩
theorem callS2 {f : Addr} {v₀ : Value} {e₁ e₂ : Expr} {pos : Pos} {Q : Value → Shared → Prop} (hf : FnAt f s.heap)
    (h : wpAny (model PG w) A (eval e₁ env) (fun v s₁ => wpAny (model PG w) A (eval e₂ env) (fun v' s₂ => Ext s.heap s₂.heap ∧ wpAny (model PG w) A (call (.ref f) [v₀, v, v']) Q E s₂) E s₁) E s)
    (he : starEach [e₁, e₂] env = [(false, eval e₁ env), (false, eval e₂ env)] := by rfl) (he1 : starEach [e₂] env = [(false, eval e₂ env)] := by rfl) : wpAny (model PG w) A (callWith pos (.ref f) [v₀] (backTo pos (starEach [e₁, e₂] env)) []) Q E s := by
  refine callWith_F hf ?_ (by rw [he, he1]) (by rw [he1]; rfl)
  rw [he]
  refine Calls.spliced_cons (wpAny_mono h (fun v s₁ h₁ => ?_) fun _ _ x => x)
  refine Calls.spliced_cons (wpAny_mono h₁ (fun v' s₂ h₂ => Calls.spliced_nil ⟨?_, h₂.2⟩) fun _ _ x => x)
  obtain ⟨oc, od, fd, sl, ef⟩ := hf
  exact ⟨oc, od, fd, sl, h₂.1 _ _ ef⟩
end
section
variable {w : World} {A : Around} {s : Shared} {E : Value → Shared → Prop} {B : Heap} {a : Ad} {nums : List Int} {p : Int} {os : OsState} {st : FS} {rs : List (Addr × Obj)} {m mg mb : Str → Option Value} {h' : Heap} {tk : Nat}
set_option maxHeartbeats 1000000
theorem br_V {Q : Flow → Shared → Prop} (bf : BF w B a) (H : LI w B a nums p os st rs m s)
    (h : ∀ h' tk m', LI w B a nums p os ⟨st.S, st.b, true⟩ rs m' { s with heap := h', toks := tk } → m' (Str.ofString "now") = m (Str.ofString "now") → Q .next { s with heap := h', toks := tk }) :
    wpAny (model PG w) A (execs (bodyV w) (lawEnv w a.L)) Q E s := by
  refine wpAny_execs_cons (wpAny_Assign_Name (wpAny_Constant_bool (stL H.F fun h'' F'' k'' => ?_)))
  exact wpAny_execs_nil (h _ _ _ (H.setq bf F'' k'') (if_neg (show ¬ (Str.ofString "now" = Str.ofString "quoted") by decide)))
theorem br_U {Q : Flow → Shared → Prop} (bf : BF w B a) (R : Room A) (hlen : st.S.length ≤ 100) (H : LI w B a nums p os st rs m s)
    (h : ∀ h' tk, LI w B a nums p os ⟨[], st.b, st.q⟩ rs m { s with heap := h', toks := tk } → Q .next { s with heap := h', toks := tk }) :
    wpAny (model PG w) A (execs (bodyU w) (lawEnv w a.L)) Q E s := by
  obtain ⟨its, n, g1, r1⟩ := H.V.g1
  obtain ⟨td, tp, nd, hd1⟩ := H.T.d1
  have hdd := (H.N _ hd1).1
  have hdep := R.d
  have hz1 := r1.1
  refine wpAny_execs_cons (wpAny_Expr_any (MethodCall_ (nmL H.F H.n.line (acc_m (H.K bf) g1 hdd (by k_is) (by k_is) rfl (callS1 (fnAt_of (H.K bf) (by k_is)) (wpAny_Constant_int ⟨Ext.refl _, ?_⟩)))) rfl))
  have H1 := H.ext (h' := s.heap) (tk := s.toks + 1) (Ext.refl _)
  refine pop_from_call (s := { s with toks := s.toks + 1 }) (H1.cx bf) ⟨⟨n, g1⟩, td, tp, nd, hdd⟩ (by first | exact dn R.d rfl | exact dn R.u rfl | exact (Int.toNat_lt (by assumption)).mpr (by assumption) | omega) (by rw [hz1, sizeLine_eq]; simp [lineP]; omega) fun D h' tk n' k e => ?_
  have H2 : LH w B a nums p os st [] rs m { s with heap := h', toks := tk } := H.half bf k e ⟨rfl, fun j hj => absurd hj (Nat.not_lt_zero _)⟩
  obtain ⟨its2, n2, g2, r2⟩ := H2.g2
  obtain ⟨td2, tp2, nd2, hd2⟩ := H2.T.d2
  have hdd2 := (H2.N _ hd2).1
  have hz2 := r2.1
  refine wpAny_execs_cons (wpAny_Expr_any (meth0 H2.F (H2.K bf) H2.n.echo g2 hdd2 (f := 53) (by k_is) (by k_is) rfl (fnAt_of (H2.K bf) (by k_is)) ?_))
  refine pop_from_dflt (H2.cx bf) ⟨⟨n2, g2⟩, td2, tp2, nd2, hdd2⟩ (by first | exact dn R.d rfl | exact dn R.u rfl | exact (Int.toNat_lt (by assumption)).mpr (by assumption) | omega) (by rw [hz2, sizeLine_eq]; simp [echoP]; omega) fun D h' tk n' k e => ?_
  exact wpAny_execs_nil (h _ _ (H2.whole bf k e ⟨rfl, fun j hj => absurd hj (Nat.not_lt_zero _)⟩))
theorem pair_stat {x y : Str} {tx ty : Tok} {n : Nat} : Stat (pairObj x tx y ty n) := Stat.tuple
theorem newOf {L : Addr} {h h' : Heap} (F : Fr B L h m) {D : Addr} {o : Obj} (hn : h.get? D = none) (hD : h'.get? D = some o) : h'.get? D = some o ∧ D ≠ L ∧ B.get? D = none :=
  ⟨hD, (fun e => by obtain ⟨oL, _, _, hL, _⟩ := F.ns; rw [e, hL] at hn; cases hn), by
    cases e : B.get? D with
    | none => rfl
    | some o' => rw [F.keep _ _ e] at hn; cases hn⟩
theorem consS {T : Addr} {o : Obj} (S : ∀ q ∈ rs, Stat q.2) (ho : Stat o) : ∀ q ∈ (T, o) :: rs, Stat q.2 := fun q hq => by
  rcases List.mem_cons.mp hq with rfl | hq
  · exact ho
  · exact S q hq
theorem LI.halfP {its : Array Value} {n : Nat} {S' : List Int} {T : Addr} {o : Obj} (H : LI w B a nums p os st rs m s) (bf : BF w B a) (k : Heap.ExtBut a.x1 s.heap h') (e : h'.get? a.x1 = some (accObj a.d1 its n)) (hT : s.heap.get? T = none) (eT : h'.get? T = some o) (ho : Stat o)
    (hp : PC ((T, o) :: rs) its (lineP (codesOf nums) S')) : LH w B a nums p os st S' ((T, o) :: rs) m { s with heap := h', toks := tk } := by
  obtain ⟨i1, n1, g1, _⟩ := H.V.g1
  obtain ⟨ps, t1⟩ := H.V.t1
  obtain ⟨qs, t2⟩ := H.V.t2
  obtain ⟨i2, n2, g2, r2⟩ := H.V.g2
  have y1 := acc_tab g1 t1.get
  have y2 := acc_tab g1 t2.get
  have hm : ∀ q ∈ rs, q ∈ (T, o) :: rs := fun q hq => List.mem_cons_of_mem _ hq
  exact ⟨frBut' H.F k bf.n1 bf.l1, newsCons (newOf H.F hT eT) (newsS H.N H.S g1 (.inl ⟨_, _, _, rfl⟩) k), consS H.S ho, H.T.more hm, H.n, ⟨its, n, e, hp⟩, ⟨i2, n2, k _ _ (Ne.symm bf.l5) g2, r2.more hm⟩, ⟨ps, k _ _ (Ne.symm y1) t1.get, t1.st⟩, ⟨qs, k _ _ (Ne.symm y2) t2.get, t2.st⟩, H.q, H.b, H.g, H.o⟩
theorem LH.wholeP {its : Array Value} {n : Nat} {S' : List Int} {T : Addr} {o : Obj} (H : LH w B a nums p os st S' rs m s) (bf : BF w B a) (k : Heap.ExtBut a.x2 s.heap h') (e : h'.get? a.x2 = some (accObj a.d2 its n)) (hT : s.heap.get? T = none) (eT : h'.get? T = some o) (ho : Stat o)
    (hp : PC ((T, o) :: rs) its (echoP (codesOf nums) S')) : LI w B a nums p os ⟨S', st.b, st.q⟩ ((T, o) :: rs) m { s with heap := h', toks := tk } := by
  obtain ⟨i1, n1, g1, r1⟩ := H.g1
  obtain ⟨ps, t1⟩ := H.t1
  obtain ⟨qs, t2⟩ := H.t2
  obtain ⟨i2, n2, g2, r2⟩ := H.g2
  have y1 := acc_tab g2 t1.get
  have y2 := acc_tab g2 t2.get
  have hm : ∀ q ∈ rs, q ∈ (T, o) :: rs := fun q hq => List.mem_cons_of_mem _ hq
  exact ⟨frBut' H.F k bf.n2 bf.l2, newsCons (newOf H.F hT eT) (newsS H.N H.S g2 (.inl ⟨_, _, _, rfl⟩) k), consS H.S ho, H.T.more hm, H.n, ⟨⟨i1, n1, k _ _ bf.l5 g1, r1.more hm⟩, ⟨its, n, e, hp⟩, ⟨ps, k _ _ (Ne.symm y1) t1.get, t1.st⟩, ⟨qs, k _ _ (Ne.symm y2) t2.get, t2.st⟩⟩, H.q, H.b, H.g, H.o⟩
theorem lineP_push {cs S : List Int} {now : Nat} {c : Nat} (h : codeAt cs now = c) : lineP cs (S ++ [(now : Int)]) = lineP cs S ++ [(Str.ofString "", ⟨#[c]⟩)] := by
  unfold lineP
  rw [List.map_append, List.map_singleton, h]
theorem echoP_push {cs S : List Int} {now : Nat} {c : Nat} (h : codeAt cs now = c) : echoP cs (S ++ [(now : Int)]) = echoP cs S ++ [(butLast (picC c), lastOf (picC c))] := by
  unfold echoP
  rw [List.map_append, List.map_singleton, h]
theorem getKeyP {c : Nat} {t : Tok} {p1 p2 p3 : Pos} {Q : Value → Shared → Prop} (bf : BF w B a) (R : Room A) {S' : List Int} (H : LH w B a nums p os st S' rs m s) (hk : m (Str.ofString "key") = some (.str ⟨#[c]⟩ t)) (hc : c < 256)
    (h : ∀ t h' tk, Ext s.heap h' → Q (.str (picC c) t) { s with heap := h', toks := tk }) :
    wpAny (model PG w) A (eval (.Call (.Name (Str.ofString "unctrl") p1) [.Name (Str.ofString "key") p2] [] p3) (lawEnv w a.L)) Q E s := by
  obtain ⟨mg, mb, T⟩ := bf.C.T
  refine Call_ (nmG H.F bf.C.K T rfl (by k_is) (callFn1 (fnAt_of (H.K bf) (by k_is)) (nmL H.F hk ⟨Ext.refl _, ?_⟩)))
  exact unctrl_str (H.cx bf) (dn R.d rfl) hc _ _ fun t' h' tk k => h t' h' tk k
theorem br_P {Q : Flow → Shared → Prop} {c : Nat} {t : Tok} {now : Nat} (bf : BF w B a) (R : Room A) (hlen : st.S.length ≤ 100) (H : LI w B a nums p os st rs m s) (hk : m (Str.ofString "key") = some (.str ⟨#[c]⟩ t)) (hc : c < 256) (hcn : codeAt (codesOf nums) now = c)
    (h : ∀ h' tk rs' m', LI w B a nums p os ⟨st.S ++ [(now : Int)], st.b, false⟩ rs' m' { s with heap := h', toks := tk } → m' (Str.ofString "now") = m (Str.ofString "now") → (∀ q ∈ rs, q ∈ rs') → Q .next { s with heap := h', toks := tk }) :
    wpAny (model PG w) A (execs (bodyP w) (lawEnv w a.L)) Q E s := by
  refine wpAny_execs_cons (wpAny_Assign_Name (wpAny_Constant_bool (stL H.F fun h1 F1 k1 => ?_)))
  have H1 := H.setq (tk := s.toks + 1) bf F1 k1
  have hk1 : (fun z => if z = Str.ofString "quoted" then some (.bool false) else m z) (Str.ofString "key") = some (.str ⟨#[c]⟩ t) := (if_neg (show ¬ (Str.ofString "key" = Str.ofString "quoted") by decide)).trans hk
  have hnow : (fun z => if z = Str.ofString "quoted" then some (.bool false) else m z) (Str.ofString "now") = m (Str.ofString "now") := if_neg (show ¬ (Str.ofString "now" = Str.ofString "quoted") by decide)
  generalize (fun z => if z = Str.ofString "quoted" then some (.bool false) else m z) = m1 at H1 hk1 hnow
  clear F1 k1 hk H
  obtain ⟨its, n, g1, r1⟩ := H1.V.g1
  obtain ⟨td, tp, nd, hd1⟩ := H1.T.d1
  have hdd := (H1.N _ hd1).1
  have hdep := R.d
  have hz1 := r1.1
  refine wpAny_execs_cons (wpAny_Expr_any (MethodCall_ (nmL H1.F H1.n.line (acc_m (H1.K bf) g1 hdd (by k_is) (by k_is) rfl (callS2 (fnAt_of (H1.K bf) (by k_is)) (Calls.Constant_str (nmL H1.F hk1 ⟨Ext.refl _, ?_⟩))))) rfl))
  have H1' := H1.ext (h' := h1) (tk := s.toks + 1 + 1) (Ext.refl _)
  refine push_call (s := { s with heap := h1, toks := s.toks + 1 + 1 }) (H1'.cx bf) ⟨⟨n, g1⟩, td, tp, nd, hdd⟩ (by first | exact dn R.d rfl | exact dn R.u rfl | exact (Int.toNat_lt (by assumption)).mpr (by assumption) | omega) (by rw [hz1, sizeLine_eq]; simp [lineP]; omega) fun T h2 tk n2 n' k hT eT e => ?_
  have H2 := H1.halfP (tk := tk) (S' := st.S ++ [(now : Int)]) bf k e hT eT pair_stat (by rw [lineP_push hcn]; exact (r1.more fun q hq => List.mem_cons_of_mem _ hq).push (List.mem_cons_self ..))
  obtain ⟨its2, n2, g2, r2⟩ := H2.g2
  obtain ⟨td2, tp2, nd2, hd2⟩ := H2.T.d2
  have hdd2 := (H2.N _ hd2).1
  have hz2 := r2.1
  have hpic := pic_ok c hc
  refine wpAny_execs_cons (wpAny_Expr_any (MethodCall_ (nmL H2.F H2.n.echo (acc_m (H2.K bf) g2 hdd2 (by k_is) (by k_is) rfl (callS2 (fnAt_of (H2.K bf) (by k_is)) (cutB (getKeyP bf R H2 hk1 hc fun t3 h3 tk3 k3 => ⟨_, _, rfl, hpic.2.1, by omega, fun h4 t4 tk4 k4 => ?_⟩))))) rfl))
  have H3 := (H2.ext (tk := tk3) k3)
  have H4 := (H3.ext (tk := tk4) k4)
  refine lastL (getKeyP bf R H4 hk1 hc fun t5 h5 tk5 k5 => ⟨_, _, rfl, hpic.2.1, fun t6 tk6 => ⟨(k3.trans k4).trans k5, ?_⟩⟩)
  have H5 := (H4.ext (tk := tk6) k5)
  have g5 : h5.get? a.x2 = some (accObj a.d2 its2 n2) := ((k3.trans k4).trans k5) _ _ g2
  have hdd5 := (H5.N _ hd2).1
  refine push_call (s := { s with heap := h5, toks := tk6 }) (H5.cx bf) ⟨⟨n2, g5⟩, td2, tp2, nd2, hdd5⟩ (by first | exact dn R.d rfl | exact dn R.u rfl | exact (Int.toNat_lt (by assumption)).mpr (by assumption) | omega) (by rw [hz2, sizeLine_eq]; simp [echoP]; omega) fun T2 h6 tk7 n6 n7 k6 hT2 eT2 e2 => ?_
  have H6 := H5.wholeP (tk := tk7) (S' := st.S ++ [(now : Int)]) bf k6 e2 hT2 eT2 pair_stat (by rw [echoP_push hcn]; exact (r2.more fun q hq => List.mem_cons_of_mem _ hq).push (List.mem_cons_self ..))
  exact wpAny_execs_nil (h _ _ _ _ H6 hnow fun q hq => List.mem_cons_of_mem _ (List.mem_cons_of_mem _ hq))
end
end Mine
end
section
open PySem PySem.W PyProof.Rows PySem.Calls
set_option maxRecDepth 100000
namespace Mine
section
variable {w : World} {A : Around} {s : Shared} {E : Value → Shared → Prop} {B : Heap} {a : Ad} {nums : List Int} {p : Int} {os : OsState} {st : FS} {rs : List (Addr × Obj)} {m mg mb : Str → Option Value} {h' : Heap} {tk : Nat}
set_option maxHeartbeats 1000000
theorem condDel {c : Nat} {t : Tok} {p1 p2 p3 p4 p5 : Pos} {whole : Sem Value} {Q : Bool → Shared → Prop} (bf : BF w B a) (R : Room A) (H : LI w B a nums p os st rs m s) (hk : m (Str.ofString "key") = some (.str ⟨#[c]⟩ t))
    (h : ∀ h' tk, Ext s.heap h' → Q (decide (c = 127)) { s with heap := h', toks := tk }) :
    wpAny (model PG w) A (isTrue (.Compare (.Name (Str.ofString "key") p1) [.Eq] [.Call (.Name (Str.ofString "chr") p2) [.Name (Str.ofString "DEL") p3] [] p4] p5) (lawEnv w a.L) whole) Q E s := by
  obtain ⟨mg, mb, T⟩ := bf.C.T
  refine wpAny_isTrue_Compare1 (nmL H.F hk (Call_ ?_))
  refine nmB H.F bf.C.K T rfl rfl (by k_is) (by first | boot_by_name | rfl | kernel_rfl) (by decide) (PyProof.Rows.callWith_builtin1 ?_)
  refine Calls.spliced_cons (nmG H.F bf.C.K T rfl (v := .int 127 298) (by k_is) (Calls.spliced_nil ?_))
  refine chr_nat (c := 127) (by omega) (PyProof.Rows.eq_str (wpAny_truthy_bool ?_))
  rw [one_eq]
  exact h s.heap _ (Ext.refl _)
theorem fs_push {cs : List Int} {now c : Nat} (hcd : cs.getD now 0 = (c : Int)) (hq : st.q = true ∨ (c ≠ 22 ∧ c ≠ 8 ∧ c ≠ 127 ∧ c ≠ 21)) : fStep cs st now = ⟨st.S ++ [(now : Int)], st.b, false⟩ := by
  unfold fStep
  rw [hcd]
  clear hcd
  rcases hq with hq | ⟨h1, h2, h3, h4⟩
  · rw [hq, if_neg (fun e => Bool.noConfusion e.1), if_neg (fun e => Bool.noConfusion e.1), if_neg (fun e => Bool.noConfusion e.1)]
  · rw [if_neg (fun e => h1 (Int.ofNat.inj e.2)), if_neg (fun e => e.2.elim (fun e => h2 (Int.ofNat.inj e)) fun e => h3 (Int.ofNat.inj e)), if_neg (fun e => h4 (Int.ofNat.inj e.2))]
theorem fs_V {cs : List Int} {now c : Nat} (hcd : cs.getD now 0 = (c : Int)) (hq : st.q = false) (e : c = 22) : fStep cs st now = ⟨st.S, st.b, true⟩ := by
  subst e
  unfold fStep
  rw [hcd, if_pos ⟨hq, rfl⟩]
theorem fs_H {cs : List Int} {now c : Nat} (hcd : cs.getD now 0 = (c : Int)) (hq : st.q = false) (e : c = 8 ∨ c = 127) : fStep cs st now = ⟨st.S.dropLast, if st.S = [] then st.b + 1 else st.b, st.q⟩ := by
  unfold fStep
  rw [hcd]
  rcases e with rfl | rfl
  · rw [if_neg (fun e => absurd e.2 (by decide)), if_pos ⟨hq, .inl rfl⟩]
  · rw [if_neg (fun e => absurd e.2 (by decide)), if_pos ⟨hq, .inr rfl⟩]
theorem fs_U {cs : List Int} {now c : Nat} (hcd : cs.getD now 0 = (c : Int)) (hq : st.q = false) (e : c = 21) : fStep cs st now = ⟨[], st.b, st.q⟩ := by
  subst e
  unfold fStep
  rw [hcd, if_neg (fun e => absurd e.2 (by decide)), if_neg (fun e => absurd e.2 (by decide)), if_pos ⟨hq, rfl⟩]
theorem nq {b : Bool} (h : b = false) : (!b) = true := by rw [h]; rfl
theorem nq' {b : Bool} (h : b = true) : ¬ (!b) = true := by rw [h]; exact Bool.noConfusion
theorem dt {p : Prop} [Decidable p] (h : p) : decide p = true := decide_eq_true h
theorem df {p : Prop} [Decidable p] (h : ¬ p) : ¬ decide p = true := fun e => h (of_decide_eq_true e)
/-- the turn's chain of tests -/
theorem st2 {Q : Flow → Shared → Prop} {c : Nat} {t : Tok} {now : Nat} (bf : BF w B a) (R : Room A) (hcs : ∀ i, codeAt (codesOf nums) i < 256) (hlen : st.S.length ≤ 100) (H : LI w B a nums p os st rs m s) (hk : m (Str.ofString "key") = some (.str ⟨#[c]⟩ t)) (hc : c < 256)
    (hcn : codeAt (codesOf nums) now = c) (hcd : (codesOf nums).getD now 0 = (c : Int))
    (h : ∀ h' tk rs' m', LI w B a nums p os (fStep (codesOf nums) st now) rs' m' { s with heap := h', toks := tk } → m' (Str.ofString "now") = m (Str.ofString "now") → (∀ q ∈ rs, q ∈ rs') → Q .next { s with heap := h', toks := tk }) :
    wpAny (model PG w) A (exec (stIf w) (lawEnv w a.L)) Q E s := by
  have push : ∀ {h₁ : Heap} {tk₁ : Nat}, st.q = true ∨ (c ≠ 22 ∧ c ≠ 8 ∧ c ≠ 127 ∧ c ≠ 21) → LI w B a nums p os st rs m { s with heap := h₁, toks := tk₁ } → wpAny (model PG w) A (execs (bodyP w) (lawEnv w a.L)) Q E { s with heap := h₁, toks := tk₁ } := fun hq H₁ =>
    br_P bf R hlen H₁ hk hc hcn fun h' tk rs' m' H' e hr => h h' tk rs' m' (by rw [fs_push hcd hq]; exact H') e hr
  refine wpAny_If (isTrue_and (condQ H ?_))
  cases hq : st.q with
  | true =>
    refine ite_neg Bool.noConfusion (execs_one (wpAny_If (isTrue_and (condQ H ?_))))
    refine ite_neg (nq' hq) (execs_one (wpAny_If (isTrue_and (condQ H ?_))))
    exact ite_neg (nq' hq) (push (h₁ := s.heap) (tk₁ := s.toks) (.inl hq) H)
  | false =>
    refine ite_pos rfl (isTrue_and (condCtrl (d := 118) bf R H hk (by decide +kernel) fun h1 tk1 k1 => ?_))
    have H1 := H.ext (tk := tk1) k1
    by_cases e1 : c = 22
    · refine ite_pos (dt e1) (isTrue_and_nil (ite_pos rfl ?_))
      exact br_V bf H1 fun h' tk m' H' e => h h' tk rs m' (by rw [fs_V hcd hq e1]; exact H') e fun _ hq => hq
    refine ite_neg (df e1) (execs_one (wpAny_If (isTrue_and (condQ H1 ?_))))
    have goH : ∀ {h₁ : Heap} {tk₁ : Nat}, (c = 8 ∨ c = 127) → LI w B a nums p os st rs m { s with heap := h₁, toks := tk₁ } → wpAny (model PG w) A (execs (bodyH w) (lawEnv w a.L)) Q E { s with heap := h₁, toks := tk₁ } := fun hcc H₁ =>
      br_H bf R hcs hlen H₁ fun h' tk m' H' e => h h' tk rs m' (by rw [fs_H hcd hq hcc]; exact H') e fun _ hq => hq
    refine ite_pos (nq hq) (isTrue_and (isTrue_or (condCtrl (d := 104) bf R H1 hk (by decide +kernel) fun h2 tk2 k2 => ?_)))
    have H2 := H1.ext (tk := tk2) k2
    by_cases e2 : c = 8
    · exact ite_pos (dt e2) (isTrue_and_nil (ite_pos rfl (goH (.inl e2) H2)))
    refine ite_neg (df e2) (isTrue_or (condDel bf R H2 hk fun h3 tk3 k3 => ?_))
    have H3 := H2.ext (tk := tk3) k3
    by_cases e3 : c = 127
    · exact ite_pos (dt e3) (isTrue_and_nil (ite_pos rfl (goH (.inr e3) H3)))
    refine ite_neg (df e3) (isTrue_or_nil (ite_neg Bool.noConfusion (execs_one (wpAny_If (isTrue_and (condQ H3 ?_))))))
    refine ite_pos (nq hq) (isTrue_and (condCtrl (d := 117) bf R H3 hk (by decide +kernel) fun h4 tk4 k4 => ?_))
    have H4 := H3.ext (tk := tk4) k4
    by_cases e4 : c = 21
    · refine ite_pos (dt e4) (isTrue_and_nil (ite_pos rfl ?_))
      exact br_U bf R hlen H4 fun h' tk H' => h h' tk rs m (by rw [fs_U hcd hq e4]; exact H') rfl fun _ hq => hq
    exact ite_neg (df e4) (push (.inr ⟨e1, e2, e3, e4⟩) H4)
end
end Mine
end
section
open PySem PySem.W PyProof.Rows PySem.Calls
set_option maxRecDepth 100000
namespace Mine
theorem paired_at {β : Type} {R : Int → β → Prop} {d : Int} : ∀ {is : List Int} {ys : List β}, Paired R is ys → ∀ k, k < is.length → ∃ y, ys[k]? = some y ∧ R (is.getD k d) y
  | _, _, .nil, k, h => absurd h (Nat.not_lt_zero _)
  | _, _, .cons h0 r, 0, _ => ⟨_, rfl, h0⟩
  | _, _, .cons h0 r, k + 1, h => by
    obtain ⟨y, e, hy⟩ := paired_at (d := d) r k (by simpa using h)
    exact ⟨y, by simpa using e, by simpa using hy⟩
/-- what the turn's checks read -/
structure LF (nums : List Int) (st : FS) (rs : List (Addr × Obj)) (m : Str → Option Value) : Prop where
  left : ∃ D us n, m (Str.ofString "left") = some (.ref D) ∧ (D, PySem.W.listOf (List.toArray us) n) ∈ rs ∧ IntsAre us st.S
  rung : ∃ t, m (Str.ofString "rung") = some (.int st.b t)
section
variable {w : World} {A : Around} {s : Shared} {E : Value → Shared → Prop} {env : Env} {B : Heap} {a : Ad} {nums : List Int} {p : Int} {os : OsState} {st : FS} {rs : List (Addr × Obj)} {m mg mb : Str → Option Value} {h' : Heap} {tk : Nat}
theorem callF2 {f : Addr} {e₁ e₂ : Expr} {pos : Pos} {Q : Value → Shared → Prop} (hf : FnAt f s.heap)
    (h : wpAny (model PG w) A (eval e₁ env) (fun v s₁ => wpAny (model PG w) A (eval e₂ env) (fun v' s₂ => Ext s.heap s₂.heap ∧ wpAny (model PG w) A (call (.ref f) [v, v']) Q E s₂) E s₁) E s)
    (he : starEach [e₁, e₂] env = [(false, eval e₁ env), (false, eval e₂ env)] := by rfl) (he1 : starEach [e₂] env = [(false, eval e₂ env)] := by rfl) : wpAny (model PG w) A (callWith pos (.ref f) [] (backTo pos (starEach [e₁, e₂] env)) []) Q E s := by
  refine callWith_F hf ?_ (by rw [he, he1]) (by rw [he1]; rfl)
  rw [he]
  refine Calls.spliced_cons (wpAny_mono h (fun v s₁ h₁ => ?_) fun _ _ x => x)
  refine Calls.spliced_cons (wpAny_mono h₁ (fun v' s₂ h₂ => Calls.spliced_nil ⟨?_, h₂.2⟩) fun _ _ x => x)
  obtain ⟨oc, od, fd, sl, ef⟩ := hf
  exact ⟨oc, od, fd, sl, h₂.1 _ _ ef⟩
theorem itemL {l : Addr} {us : List Value} {i : Int} {t : Tok} {y : Value} {value slice : Expr} {Q : Value → Shared → Prop} (hl : s.heap.IsList l us.toArray) (h0 : 0 ≤ i) (hb : i < 1000) (e : us[i.toNat]? = some y) (h : Q y s)
    (hs : subscripted slice false (.ref l) (.int i t) = operate [.ref l, .int i t] (getItem (.ref l) (.int i t)) := by rfl) :
    wpAny (model PG w) A (subscriptTail value slice (.ref l) (.int i t)) Q E s :=
  tail_any hl.typeIs slot_list_getitem.lookup (wpAny_getItem_list hl h0 (by first | exact dn R.d rfl | exact dn R.u rfl | exact (Int.toNat_lt (by assumption)).mpr (by assumption) | omega) (by simpa using e) h) hs
theorem nmF {env : Env} {y : Str} {pos : Pos} {v : Value} {c : Addr} {o : Obj} {Q : Value → Shared → Prop} (ho : s.heap.get? c = some o) (hd : o.data = .cell (some v)) (hc : env.cells.lookup y = some c) (h : Q v s)
    (hk : env.scope.kind = .function := by rfl) (hl : env.kindOf y = some .free := by rfl) (hcd : (y == ("__classdict__" : Str)) = false := by decide) (hdb : (y == ("__debug__" : Str)) = false := by decide) : wpAny (model PG w) A (eval (.Name y pos) env) Q E s :=
  wpAny_Name (wpAny_loadName_free hk hl hc ⟨o, ho, hd⟩ h hcd) hdb
theorem LI.consR {T : Addr} {o : Obj} (H : LI w B a nums p os st rs m s) (hT : s.heap.get? T = none) (k : Ext s.heap h') (eT : h'.get? T = some o) (ho : Stat o) : LI w B a nums p os st ((T, o) :: rs) m { s with heap := h', toks := tk } :=
  (H.ext k).more (fun q hq => List.mem_cons_of_mem _ hq) (newsCons (newOf H.F hT eT) (newsE H.N k)) (consS H.S ho)
theorem worthsOf_len (nums : List Int) : (worthsOf nums).length = nums.length := by unfold worthsOf codesOf; simp
theorem codesOf_len (nums : List Int) : (codesOf nums).length = nums.length := by unfold codesOf; simp
set_option maxHeartbeats 1000000
theorem st3 {Q : Flow → Shared → Prop} {now : Nat} {t : Tok} (bf : BF w B a) (R : Room A) (H : LI w B a nums p os (fRun (codesOf nums) (now + 1)) rs m s) (hnow : m (Str.ofString "now") = some (.int (now : Int) t)) (hn : now < nums.length) (hl : nums.length ≤ 15)
    (h : ∀ h' tk rs' m', LI w B a nums p os (fRun (codesOf nums) (now + 1)) rs' m' { s with heap := h', toks := tk } → LF nums (fRun (codesOf nums) (now + 1)) rs' m' → (∀ q ∈ rs, q ∈ rs') → Q .next { s with heap := h', toks := tk }) :
    wpAny (model PG w) A (exec ((loopBody w).getD 2 (.Pass default)) (lawEnv w a.L)) Q E s := by
  obtain ⟨mg, mb, T⟩ := bf.C.T
  have X := bf.C.K
  obtain ⟨ww, n, mem, hww⟩ := H.T.wor
  have hdep := R.d
  obtain ⟨r1, r2⟩ := back_run nums now (by rw [codesOf_len]; exact hn)
  refine Assign_Tuple (Call_ (nmG H.F X T rfl (by k_is) (callF2 (fnAt_of (H.K bf) (by k_is)) (nmL H.F H.n.worths (nmL H.F hnow ⟨Ext.refl _, ?_⟩))))) 
  refine lawback_call (H.cx bf) (by first | exact dn R.d rfl | exact dn R.u rfl | exact (Int.toNat_lt (by assumption)).mpr (by assumption) | omega) R.h ⟨_, (H.N _ mem).1, rfl, _, rfl⟩ hww (by first | exact dn R.d rfl | exact dn R.u rfl | exact (Int.toNat_lt (by assumption)).mpr (by assumption) | omega) (by rw [worthsOf_len]; omega) (by rw [worthsOf_len]; omega) _ _ fun Tt D tt us n1 n2 h1 tk1 k1 hT hD eT eD hus => ?_
  rw [r2] at eT
  rw [r1] at hus
  have H1 := (H.consR (tk := tk1) hD k1 eD Stat.list)
  refine assign_Tuple_tuple R.h ⟨_, eT, rfl, _, rfl⟩ rfl rfl fun h2 k2 => ?_
  have k2' : Ext h1 h2 := fun b o e => k2 b o (Nat.ne_of_lt (Heap.lt_size e)) e
  have H2 := H1.ext (tk := tk1) k2'
  refine assignInOrder_cons (assign_Name (stL (s := { s with heap := h2, toks := tk1 }) H2.F fun h3 F3 k3 => ?_))
  have H3 := H2.set (tk := tk1 + 1) bf (by unfold Free; decide) F3 k3
  refine assignInOrder_cons (assign_Name (stL (s := { s with heap := h3, toks := tk1 + 1 }) H3.F fun h4 F4 k4 => ?_))
  have H4 := H3.set (tk := tk1 + 1 + 1) bf (by unfold Free; decide) F4 k4
  refine assignInOrder_nil (h _ _ _ _ H4 ⟨⟨D, us, n2, ?_, .head _, hus⟩, ⟨tt, if_pos rfl⟩⟩ fun q hq => List.mem_cons_of_mem _ hq)
  exact (if_neg (show ¬ Str.ofString "left" = Str.ofString "rung" by decide)).trans (if_pos rfl)
end
end Mine
end
section
open PySem PySem.W PyProof.Rows PySem.Calls
set_option maxRecDepth 100000
namespace Mine
theorem strs_of_paired {f : Int → Str} : ∀ {is : List Int} {ys : List Value}, Paired (fun i y => ∃ t, y = .str (f i) t) is ys → StrsAre ys (is.map f)
  | _, _, .nil => .nil
  | _, _, .cons ⟨t, e⟩ r => by rw [e]; exact .cons _ _ (strs_of_paired r)
noncomputable def shownOf (cs S : List Int) : Str := Txt.join (Str.ofString "") (S.map fun i => picC (codeAt cs i))
theorem sum_le : ∀ (l : List Nat) (c : Nat), (∀ x ∈ l, x ≤ c) → l.sum ≤ l.length * c
  | [], _, _ => by simp
  | x :: r, c, h => by
    have h1 := sum_le r c fun y hy => h y (.tail _ hy)
    have h2 := h x (.head _)
    rw [List.sum_cons, List.length_cons, Nat.succ_mul]; omega
theorem pics_sum (cs S : List Int) (hc : ∀ i, codeAt cs i < 256) : ((S.map fun i => picC (codeAt cs i)).map (·.length)).sum ≤ S.length * 4 := by
  have := sum_le ((S.map fun i => picC (codeAt cs i)).map (·.length)) 4 (by
    intro x hx
    rw [List.map_map] at hx
    obtain ⟨i, _, rfl⟩ := List.mem_map.mp hx
    exact (pic_ok _ (hc i)).2.2)
  simpa using this
section
variable {w : World} {A : Around} {s : Shared} {E : Value → Shared → Prop} {env : Env} {B : Heap} {a : Ad} {nums : List Int} {p : Int} {os : OsState} {st : FS} {rs : List (Addr × Obj)} {m mg mb : Str → Option Value} {h' : Heap} {tk : Nat}
set_option maxHeartbeats 1000000
theorem st4 {Q : Flow → Shared → Prop} (bf : BF w B a) (R : Room A) (hcs : ∀ i, codeAt (codesOf nums) i < 256) (hin : ∀ i ∈ st.S, 0 ≤ i ∧ i < nums.length) (hlen : st.S.length ≤ 15) (hl : nums.length ≤ 15) (H : LI w B a nums p os st rs m s) (G : LF nums st rs m)
    (h : ∀ h' tk m', LI w B a nums p os st rs m' { s with heap := h', toks := tk } → LF nums st rs m' → (∃ t, m' (Str.ofString "shown") = some (.str (shownOf (codesOf nums) st.S) t)) → Q .next { s with heap := h', toks := tk }) :
    wpAny (model PG w) A (exec ((loopBody w).getD 3 (.Pass default)) (lawEnv w a.L)) Q E s := by
  obtain ⟨D, us, n, eL, mem, hus⟩ := G.left
  obtain ⟨t0, eR⟩ := G.rung
  obtain ⟨o2, mem2, ho2⟩ := H.T.c2
  obtain ⟨wp, np, memp, hwp⟩ := H.T.pic
  refine wpAny_Assign_Name (MethodCall_ (Calls.Constant_str (GM.join (callWith_method1 ?_))))
  have H0 := H.ext (h' := s.heap) (tk := s.toks + 1) (Ext.refl _)
  refine Calls.spliced_cons (comp_ints (fun _ => true) (fun i y => ∃ t, y = .str (picC (codeAt (codesOf nums) i)) t) R.h (cl := [(Str.ofString "pictures", a.L + 1 + 1)]) (by rfl) (by decide) rfl (by decide) rfl
    (nmL H0.F eL ⟨D, us, st.S, rfl, ⟨_, (H0.N _ mem).1, rfl, _, rfl⟩, hus, by omega, ?_, ?_, ?_⟩))
  · intro C i t s₃ m₃ E' _ _ _
    exact wpAny_pure ⟨rfl, ⟨_, _, rfl, fun _ _ e => e⟩⟩
  · intro C i t s₃ m₃ E' hi _ F3 e3
    obtain ⟨h0, h1⟩ := hin i hi
    obtain ⟨y, ey, t9, rfl⟩ := paired_at (d := 0) hwp i.toNat (by rw [codesOf_len]; first | exact (Int.toNat_lt (by assumption)).mpr (by assumption) | omega)
    refine Subscript_ (nmC (F3.keep _ _ (H0.N _ mem2).1) ho2 rfl (nmL F3 e3 (itemL ⟨_, F3.keep _ _ (H0.N _ memp).1, rfl, _, rfl⟩ h0 (by first | exact dn R.d rfl | exact dn R.u rfl | exact (Int.toNat_lt (by assumption)).mpr (by assumption) | omega) ey ⟨⟨t9, rfl⟩, ⟨_, _, rfl, fun _ _ e => e⟩⟩)))
  · intro D' h' tk ys n' hD eD hp k
    refine Calls.spliced_nil ?_
    rw [List.filter_eq_self.mpr (fun _ _ => rfl)] at hp
    have hs := strs_of_paired (f := fun i => picC (codeAt (codesOf nums) i)) hp
    have hsum := pics_sum (codesOf nums) st.S hcs
    refine join_listW ⟨_, eD, rfl, _, rfl⟩ hs (by decide +kernel) (by rw [List.length_map]; omega) fun t' k' => ?_
    have H1 := H.ext (tk := k') k
    refine stL (s := { s with heap := h', toks := k' }) H1.F fun h'' F'' k'' => ?_
    refine h _ _ _ (H1.set bf (by unfold Free; decide) F'' k'') ⟨⟨D, us, n, (if_neg (by decide)).trans eL, mem, hus⟩, ⟨t0, (if_neg (by decide)).trans eR⟩⟩ ⟨t', if_pos rfl⟩
end
end Mine
end
section
open PySem PySem.W PyProof.Rows PySem.Calls
set_option maxRecDepth 100000
namespace Mine
noncomputable def pairD (q : Str × Str) : PyData := .tuple [.str q.1, .str q.2]
theorem ok_pic : ∀ c : Nat, c < 256 → PyData.strOk (butLast (picC c)) = true ∧ PyData.strOk (lastOf (picC c)) = true := by decide +kernel
theorem lay_all : ∀ (pr : List (Str × Str)), (∀ q ∈ pr, PyData.strOk q.1 = true ∧ PyData.strOk q.2 = true) → PyData.canLayAll0 (pr.map pairD) = true
  | [], _ => rfl
  | q :: r, h => by
    have h1 := lay_all r fun x hx => h x (.tail _ hx)
    have h2 := h q (.head _)
    simp [PyData.canLayAll0, PyData.canLay0, pairD, h2]
    simpa [pairD] using h1
theorem depth_all : ∀ (pr : List (Str × Str)), PyData.depthAll (pr.map pairD) ≤ 1
  | [] => by simp [PyData.depthAll]
  | q :: r => by
    have h1 := depth_all r
    simp only [List.map_cons, PyData.depthAll]
    have : PyData.depth (pairD q) = 1 := by simp [pairD, PyData.depth, PyData.depthAll]
    omega
theorem lay_pairs {pr : List (Str × Str)} (h : ∀ q ∈ pr, PyData.strOk q.1 = true ∧ PyData.strOk q.2 = true) : (PyData.list (pr.map pairD)).canLay0 = true := by
  simp only [PyData.canLay0]; exact lay_all pr h
theorem shaped_pairs {pr : List (Str × Str)} (h : ∀ q ∈ pr, PyData.strOk q.1 = true ∧ PyData.strOk q.2 = true) : SeqAt.shaped (.list (pr.map pairD)) = true := by
  unfold SeqAt.shaped
  rw [lay_pairs h]
  have := depth_all pr
  simp [PyData.depth]; omega
theorem readsAll_idx {h : Heap} : ∀ (vs : List Value) (pr : List (Str × Str)), vs.length = pr.length → (∀ j, j < vs.length → ∃ v, vs[j]? = some v ∧ Reads h v (pairD (pr.getD j (Str.empty, Str.empty))) []) → ReadsAll h vs (pr.map pairD) []
  | [], [], _, _ => .nil
  | [], _ :: _, e, _ => by simp at e
  | _ :: _, [], e, _ => by simp at e
  | v :: vs, q :: r, e, hj => by
    obtain ⟨v', e1, h1⟩ := hj 0 (by simp)
    have ev : v = v' := by simpa using e1
    subst ev
    have h2 := readsAll_idx vs r (by simpa using e) fun j hlt => by
      obtain ⟨v2, e2, h3⟩ := hj (j + 1) (by simpa using hlt)
      exact ⟨v2, by simpa using e2, by simpa using h3⟩
    exact .cons (as := []) (bs := []) (by simpa using h1) h2
theorem reads_pc {B h : Heap} {L D : Addr} {rs : List (Addr × Obj)} {its : Array Value} {n : Nat} {pr : List (Str × Str)} (N : News B L h rs) (P : PC rs its pr) {h' : Heap} (k : Ext h h') (e : h'.get? D = some (PySem.W.listOf its n)) : Reads h' (.ref D) (.list (pr.map pairD)) [D] := by
  refine .list (as := []) e rfl rfl (readsAll_idx _ _ (by rw [Array.length_toList]; exact P.1) fun j hj => ?_)
  rw [Array.length_toList] at hj
  obtain ⟨T, ta, tb, n', e1, e2⟩ := P.2 j hj
  exact ⟨_, by simpa using e1, reads_pair (k _ _ (N _ e2).1)⟩
theorem readsAll_tup {h : Heap} {F : Int → Str × Str} : ∀ {is : List Int} {ys : List Value}, Paired (fun i y => ∃ T vs, y = .ref T ∧ h.IsTuple T vs ∧ ∃ ta tb, vs = #[.str (F i).1 ta, .str (F i).2 tb]) is ys → ReadsAll h ys (is.map fun i => pairD (F i)) []
  | _, _, .nil => .nil
  | _, _, .cons ⟨T, vs, e, ⟨o, ho, hc, n, hd⟩, ta, tb, ev⟩ r => by
    subst ev
    rw [e]
    exact .cons (as := []) (bs := []) (.tuple ho hc hd (.cons (as := []) (bs := []) (.str _ ta) (.cons (as := []) (bs := []) (.str _ tb) .nil))) (readsAll_tup r)
theorem reads_tup {h : Heap} {D : Addr} {F : Int → Str × Str} {is : List Int} {ys : Array Value} (hl : h.IsList D ys) (hp : Paired (fun i y => ∃ T vs, y = .ref T ∧ h.IsTuple T vs ∧ ∃ ta tb, vs = #[.str (F i).1 ta, .str (F i).2 tb]) is ys.toList) : Reads h (.ref D) (.list ((is.map F).map pairD)) [D] := by
  obtain ⟨o, ho, hc, n, hd⟩ := hl
  rw [List.map_map]
  exact .list (as := []) ho hc hd (readsAll_tup hp)
section
variable {w : World} {A : Around} {s : Shared} {E : Value → Shared → Prop} {env : Env} {B : Heap} {a : Ad} {nums : List Int} {p : Int} {os : OsState} {st : FS} {rs : List (Addr × Obj)} {m mg mb : Str → Option Value} {h' : Heap} {tk : Nat}
set_option maxHeartbeats 1000000
theorem none_size (h : Heap) : h.get? h.objs.size = none := by
  cases e : h.get? h.objs.size with
  | none => rfl
  | some o => exact absurd (Heap.lt_size e) (Nat.lt_irrefl _)
theorem TupE {e₁ e₂ : Expr} {k : Nat} {pos : Pos} {Q : Value → Shared → Prop}
    (h : wpAny (model PG w) A (eval e₁ env) (fun v s₁ => wpAny (model PG w) A (eval e₂ env) (fun v' s₂ => Q (.ref s₂.heap.objs.size) { s₂ with heap := s₂.heap.push { cls := .type "tuple", data := .seq [v, v'].toArray } }) E s₁) E s)
    (he : starEach [e₁, e₂] env = [(false, eval e₁ env), (false, eval e₂ env)] := by rfl) : wpAny (model PG w) A (eval (.Tuple [e₁, e₂] k pos) env) Q E s := by
  refine Tuple_ ?_
  rw [he]
  refine Calls.spliced_cons (wpAny_mono h (fun v s₁ h₁ => ?_) fun _ _ x => x)
  refine Calls.spliced_cons (wpAny_mono h₁ (fun v' s₂ h₂ => Calls.spliced_nil (wpAny_newTuple h₂)) fun _ _ x => x)
theorem getL_any {l : Addr} {us : List Value} {is : List Int} {i : Int} {t : Tok} {value slice : Expr} {Q : Value → Shared → Prop} (hl : s.heap.IsList l us.toArray) (hi : IntsAre us is) (h0 : 0 ≤ i) (hk : i < is.length) (hb : is.length ≤ 1000) (h : ∀ u, Q (.int (is.getD i.toNat 0) u) s)
    (hs : subscripted slice false (.ref l) (.int i t) = operate [.ref l, .int i t] (getItem (.ref l) (.int i t)) := by rfl) :
    wpAny (model PG w) A (subscriptTail value slice (.ref l) (.int i t)) Q E s := by
  obtain ⟨u, e⟩ := ints_get hi i.toNat (by first | exact dn R.d rfl | exact dn R.u rfl | exact (Int.toNat_lt (by assumption)).mpr (by assumption) | omega)
  exact itemL hl h0 (by first | exact dn R.d rfl | exact dn R.u rfl | exact (Int.toNat_lt (by assumption)).mpr (by assumption) | omega) e (h u) hs
theorem codeAt_int (nums : List Int) (i : Int) : (codesOf nums).getD i.toNat 0 = ((codeAt (codesOf nums) i : Nat) : Int) := by
  unfold codeAt codesOf
  rw [List.getD_eq_getElem?_getD, List.getElem?_map]
  cases nums[i.toNat]? <;> simp
theorem st5 {Q : Flow → Shared → Prop} (bf : BF w B a) (R : Room A) (hcs : ∀ i, codeAt (codesOf nums) i < 256) (hin : ∀ i ∈ st.S, 0 ≤ i ∧ i < nums.length) (hlen : st.S.length ≤ 15) (hl : nums.length ≤ 15) (H : LI w B a nums p os st rs m s) (G : LF nums st rs m)
    (h : ∀ h' tk, Ext s.heap h' → Q .next { s with heap := h', toks := tk }) :
    wpAny (model PG w) A (exec ((loopBody w).getD 4 (.Pass default)) (lawEnv w a.L)) Q E s := by
  obtain ⟨D, us, n, eL, mem, hus⟩ := G.left
  obtain ⟨o1, mem1, ho1⟩ := H.T.c1
  obtain ⟨wc, nc, memc, hwc⟩ := H.T.cod
  obtain ⟨its, n1, g1, r1⟩ := H.V.g1
  have hu := R.u
  have hz1 := r1.1
  have X := H.K bf
  refine wpAny_If (wpAny_isTrue_Compare1 (comp_acc R.h (cl := []) (by rfl) (by decide) rfl (by decide) rfl
    (nmL H.F H.n.line ⟨a.x1, a.d1, its, n1, rfl, g1, X, (by rw [hz1, sizeLine_eq]; simp [lineP]; omega), (fun C v s₃ m₃ E' F3 e3 => nmL F3 e3 ⟨rfl, _, _, rfl, fun _ _ e => e⟩), ?_⟩)))
  intro D1 h1 tk1 nn hD1 eD1 k1
  have H1 := H.ext (tk := tk1) k1
  obtain ⟨X1, mg, mb, T1⟩ := H1.cx bf
  refine comp_tup (fun i vs => ∃ ta tb, vs = #[.str (Str.ofString "") ta, .str ⟨#[codeAt (codesOf nums) i]⟩ tb]) R.h (cl := [(Str.ofString "codes", a.L + 1)]) (by rfl) (by decide) rfl (by decide) rfl
    (nmL H1.F eL ⟨D, us, st.S, rfl, ⟨_, (H1.N _ mem).1, rfl, _, rfl⟩, hus, by omega, ?_, ?_⟩)
  · intro C i t s₃ m₃ E' hi F3 e3
    obtain ⟨h0, h1⟩ := hin i hi
    have hci := hcs i
    refine TupE (Calls.Constant_str ?_)
    refine (Call_ (nmB (s := { s₃ with toks := s₃.toks + 1 }) F3 X1 T1 rfl rfl (by k_is) (by first | boot_by_name | rfl | kernel_rfl) (by decide) (PyProof.Rows.callWith_builtin1 ?_)))
    refine Calls.spliced_cons (Subscript_ (nmC (F3.keep _ _ (H1.N _ mem1).1) ho1 rfl (nmL (s := { s₃ with toks := s₃.toks + 1 }) F3 e3 (getL_any ⟨_, F3.keep _ _ (H1.N _ memc).1, rfl, _, rfl⟩ hwc h0 (by rw [codesOf_len]; first | exact (Int.toNat_lt (by assumption)).mpr (by assumption) | omega) (by rw [codesOf_len]; first | exact (Int.toNat_lt (by assumption)).mpr (by assumption) | omega) fun u => Calls.spliced_nil ?_))))
    have ec : (codesOf nums).getD i.toNat 0 = ((codeAt (codesOf nums) i : Nat) : Int) := codeAt_int nums i
    rw [ec]
    refine chr_nat (by first | exact dn R.d rfl | exact dn R.u rfl | exact (Int.toNat_lt (by assumption)).mpr (by assumption) | omega) ?_
    refine ⟨⟨_, _, rfl, none_size _, ⟨_, Heap.get?_push_size _ rfl, rfl, _, rfl⟩, _, _, rfl⟩, _, _, rfl, fun _ _ e => Heap.get?_push_of_some _ e⟩
  intro D2 h2 tk2 ys hD2 eD2 hp2 k2
  have hok : ∀ q ∈ lineP (codesOf nums) st.S, PyData.strOk q.1 = true ∧ PyData.strOk q.2 = true := fun q hq => by
    obtain ⟨i, _, rfl⟩ := List.mem_map.mp hq
    exact ⟨strOk_empty, strOk_one (hcs i)⟩
  refine ne_dataH (s := { s with heap := h2, toks := tk2 }) (reads_pc H.N r1 (k1.trans k2) (k2 _ _ eD1)) (reads_tup (F := fun i => (Str.ofString "", ⟨#[codeAt (codesOf nums) i]⟩)) eD2 hp2) (shaped_pairs hok) (shaped_pairs hok) (by first | exact dn R.d rfl | exact dn R.u rfl | exact (Int.toNat_lt (by assumption)).mpr (by assumption) | omega) (wpAny_truthy_bool ?_)
  rw [show (List.map (fun i => (Str.ofString "", Str.mk #[codeAt (codesOf nums) i])) st.S) = lineP (codesOf nums) st.S from rfl, SeqAt.eqv_refl _ (lay_pairs hok)]
  exact wpAny_execs_nil (h _ _ (k1.trans k2))
end
end Mine
end
section
open PySem PySem.W PyProof.Rows PySem.Calls
set_option maxRecDepth 100000
namespace Mine
section
variable {w : World} {A : Around} {s : Shared} {E : Value → Shared → Prop} {env : Env} {B : Heap} {a : Ad} {nums : List Int} {p : Int} {os : OsState} {st : FS} {rs : List (Addr × Obj)} {m mg mb : Str → Option Value} {h' : Heap} {tk : Nat}
set_option maxHeartbeats 1000000
theorem none_grow {h h' : Heap} (k : Ext h h') : h.get? h'.objs.size = none := by
  cases e : h.get? h'.objs.size with
  | none => rfl
  | some o => exact absurd (Heap.lt_size (k _ _ e)) (Nat.lt_irrefl _)
theorem st6 {Q : Flow → Shared → Prop} (bf : BF w B a) (R : Room A) (hcs : ∀ i, codeAt (codesOf nums) i < 256) (hin : ∀ i ∈ st.S, 0 ≤ i ∧ i < nums.length) (hlen : st.S.length ≤ 15) (hl : nums.length ≤ 15) (H : LI w B a nums p os st rs m s) (G : LF nums st rs m)
    (h : ∀ h' tk, Ext s.heap h' → Q .next { s with heap := h', toks := tk }) :
    wpAny (model PG w) A (exec ((loopBody w).getD 5 (.Pass default)) (lawEnv w a.L)) Q E s := by
  obtain ⟨D, us, n, eL, mem, hus⟩ := G.left
  obtain ⟨o2, mem2, ho2⟩ := H.T.c2
  obtain ⟨wp, np, memp, hwp⟩ := H.T.pic
  obtain ⟨its, n1, g1, r1⟩ := H.V.g2
  have hu := R.u
  have hz1 := r1.1
  have X := H.K bf
  refine wpAny_If (wpAny_isTrue_Compare1 (comp_acc R.h (cl := []) (by rfl) (by decide) rfl (by decide) rfl
    (nmL H.F H.n.echo ⟨a.x2, a.d2, its, n1, rfl, g1, X, (by rw [hz1, sizeLine_eq]; simp [echoP]; omega), (fun C v s₃ m₃ E' F3 e3 => nmL F3 e3 ⟨rfl, _, _, rfl, fun _ _ e => e⟩), ?_⟩)))
  intro D1 h1 tk1 nn hD1 eD1 k1
  have H1 := H.ext (tk := tk1) k1
  refine comp_tup (fun i vs => ∃ ta tb, vs = #[.str (butLast (picC (codeAt (codesOf nums) i))) ta, .str (lastOf (picC (codeAt (codesOf nums) i))) tb]) R.h (cl := [(Str.ofString "pictures", a.L + 1 + 1)]) (by rfl) (by decide) rfl (by decide) rfl
    (nmL H1.F eL ⟨D, us, st.S, rfl, ⟨_, (H1.N _ mem).1, rfl, _, rfl⟩, hus, by omega, ?_, ?_⟩)
  · intro C i t s₃ m₃ E' hi F3 e3
    obtain ⟨h0, h1⟩ := hin i hi
    have hci := pic_ok _ (hcs i)
    obtain ⟨y, ey, t9, rfl⟩ := paired_at (d := 0) hwp i.toNat (by rw [codesOf_len]; first | exact (Int.toNat_lt (by assumption)).mpr (by assumption) | omega)
    refine TupE (cutB (Subscript_ (nmC (F3.keep _ _ (H1.N _ mem2).1) ho2 rfl (nmL F3 e3 (itemL ⟨_, F3.keep _ _ (H1.N _ memp).1, rfl, _, rfl⟩ h0 (by first | exact dn R.d rfl | exact dn R.u rfl | exact (Int.toNat_lt (by assumption)).mpr (by assumption) | omega) ey ⟨_, t9, rfl, hci.2.1, by have := hci.2.2; show (picC (codeAt (codesOf nums) i)).length ≤ 1000; omega, ?_⟩)))))
    intro h4 t4 k4 x4
    have F4 := frE (h' := h4) F3 x4
    refine lastL (Subscript_ (nmC (s := { s₃ with heap := h4, toks := k4 }) (F4.keep _ _ (H1.N _ mem2).1) ho2 rfl (nmL (s := { s₃ with heap := h4, toks := k4 }) F4 e3 (itemL ⟨_, F4.keep _ _ (H1.N _ memp).1, rfl, _, rfl⟩ h0 (by first | exact dn R.d rfl | exact dn R.u rfl | exact (Int.toNat_lt (by assumption)).mpr (by assumption) | omega) ey ⟨_, t9, rfl, hci.2.1, ?_⟩))))
    intro t5 k5
    refine ⟨⟨_, _, rfl, none_grow x4, ⟨_, Heap.get?_push_size _ rfl, rfl, _, rfl⟩, _, _, rfl⟩, _, _, rfl, fun _ _ e => Heap.get?_push_of_some _ (x4 _ _ e)⟩
  intro D2 h2 tk2 ys hD2 eD2 hp2 k2
  have hok : ∀ q ∈ echoP (codesOf nums) st.S, PyData.strOk q.1 = true ∧ PyData.strOk q.2 = true := fun q hq => by
    obtain ⟨i, _, rfl⟩ := List.mem_map.mp hq
    exact ok_pic _ (hcs i)
  refine ne_dataH (s := { s with heap := h2, toks := tk2 }) (reads_pc H.N r1 (k1.trans k2) (k2 _ _ eD1)) (reads_tup (F := fun i => (butLast (picC (codeAt (codesOf nums) i)), lastOf (picC (codeAt (codesOf nums) i)))) eD2 hp2) (shaped_pairs hok) (shaped_pairs hok) (by first | exact dn R.d rfl | exact dn R.u rfl | exact (Int.toNat_lt (by assumption)).mpr (by assumption) | omega) (wpAny_truthy_bool ?_)
  rw [show (List.map (fun i => (butLast (picC (codeAt (codesOf nums) i)), lastOf (picC (codeAt (codesOf nums) i)))) st.S) = echoP (codesOf nums) st.S from rfl, SeqAt.eqv_refl _ (lay_pairs hok)]
  exact wpAny_execs_nil (h _ _ (k1.trans k2))
end
end Mine
end
section
open PySem PySem.W PyProof.Rows PySem.Calls
set_option maxRecDepth 100000
namespace Mine
section
variable {w : World} {A : Around} {s : Shared} {E : Value → Shared → Prop} {env : Env} {B : Heap} {a : Ad} {nums : List Int} {p : Int} {os : OsState} {st : FS} {rs : List (Addr × Obj)} {m mg mb : Str → Option Value} {h' : Heap} {tk : Nat} {x dx : Addr} {its : Array Value} {n : Nat}
theorem acc_len {od : Obj} {Q : Value → Shared → Prop} (X : (hd.heap_39 w.params).In s.heap) (hx : s.heap.get? x = some (accObj dx its n)) (hdx : s.heap.get? dx = some od)
    (h : wpAny (model PG w) A.in1 (call (.ref 68) [.ref x]) (fun v s' => ∃ k t, v = .int k t ∧ 0 ≤ k ∧ k < 2 ^ 63 ∧ ∀ t' tk, Q (.int k t') { s' with toks := tk }) E s) : wpAny (model PG w) A (call (.builtin "len") [.ref x]) Q E s := by
  have I := accInst hx hdx
  refine Calls.call_function_entry kind_len plain_len entry_len (args_len1 _) ?_
  unfold Builtin.«len»
  refine wpAny_bind (m := oneArg "len" _) (wpAny_pure ?_)
  refine wpAny_bind (m := callSpecial? (.ref x) (Str.ofString "__len__")) (special_fn X I (by k_is) (by k_is) (wpAny_mono h (fun r s' hr => ?_) fun _ _ y => y))
  obtain ⟨k, t, rfl, h0, h1, hq⟩ := hr
  refine wpAny_bind (wpAny_holding (wpAny_pure ?_))
  refine wpAny_bind (wpAny_letGo ?_)
  show wpAny _ _ (if k < 0 then _ else _) _ _ _
  rw [if_neg (by first | exact dn R.d rfl | exact dn R.u rfl | exact (Int.toNat_lt (by assumption)).mpr (by assumption) | omega)]
  show wpAny _ _ (if k ≥ 2 ^ 63 then _ else _) _ _ _
  rw [if_neg (by first | exact dn R.d rfl | exact dn R.u rfl | exact (Int.toNat_lt (by assumption)).mpr (by assumption) | omega)]
  exact wpAny_bind (wpAny_mkInt (wpAny_pure ⟨_, rfl, hq _ _⟩))
theorem LI.tabs {s' : Shared} {ps qs : Array Value} (H : LI w B a nums p os st rs m s) (bf : BF w B a) (k : ∀ b o, b ≠ 63 → b ≠ 70 → s.heap.get? b = some o → s'.heap.get? b = some o) (U1 : TabAt' s'.heap 63 posLen ps) (U2 : TabAt' s'.heap 70 posStr qs) (G : AllBare s'.gens) (ho : s'.os = s.os) : LI w B a nums p os st rs m s' := by
  obtain ⟨ps0, t1⟩ := H.V.t1
  obtain ⟨qs0, t2⟩ := H.V.t2
  obtain ⟨i1, n1, g1, r1⟩ := H.V.g1
  obtain ⟨i2, n2, g2, r2⟩ := H.V.g2
  have a1 := apartS H.N H.S t1.get (.inr ⟨_, rfl⟩)
  have a2 := apartS H.N H.S t2.get (.inr ⟨_, rfl⟩)
  have F' : Fr B a.L s'.heap m := by
    refine ⟨?_, fun b o e => k b o (fun q => ?_) (fun q => ?_) (H.F.keep b o e), H.F.above⟩
    · obtain ⟨oL, x, y, hL, r⟩ := H.F.ns
      exact ⟨oL, x, y, k _ _ (Ne.symm (Nat.ne_of_lt bf.l3)) (Ne.symm (Nat.ne_of_lt bf.l4)) hL, r⟩
    · rw [q, bf.n3] at e; cases e
    · rw [q, bf.n4] at e; cases e
  exact ⟨F', fun q hq => ⟨k _ _ (a1 q hq) (a2 q hq) (H.N q hq).1, (H.N q hq).2⟩, H.S, H.T, H.n, ⟨⟨i1, n1, k _ _ (acc_tab g1 t1.get) (acc_tab g1 t2.get) g1, r1⟩, ⟨i2, n2, k _ _ (acc_tab g2 t1.get) (acc_tab g2 t2.get) g2, r2⟩, ⟨ps, U1⟩, ⟨qs, U2⟩⟩, H.q, H.b, G, ho.trans H.o⟩
theorem small_line {cs S : List Int} (h : S.length ≤ 15) : Small (lineP cs S).length (fun j => ((lineP cs S).getD j (Str.empty, Str.empty)).1) (fun j => ((lineP cs S).getD j (Str.empty, Str.empty)).2) := by
  refine ⟨by simp [lineP]; omega, fun j hj => ?_⟩
  have hj' : j < S.length := by simpa [lineP] using hj
  have e : (lineP cs S).getD j (Str.empty, Str.empty) = (Str.ofString "", ⟨#[codeAt cs S[j]]⟩) := by
    unfold lineP
    rw [List.getD_eq_getElem?_getD, List.getElem?_map, List.getElem?_eq_getElem hj']; rfl
  dsimp only
  rw [e]
  have e0 : (Str.ofString "").length = 0 := by decide +kernel
  exact ⟨by rw [e0]; decide, (by decide : 1 ≤ 100)⟩
theorem small_echo {cs S : List Int} (hcs : ∀ i, codeAt cs i < 256) (h : S.length ≤ 15) : Small (echoP cs S).length (fun j => ((echoP cs S).getD j (Str.empty, Str.empty)).1) (fun j => ((echoP cs S).getD j (Str.empty, Str.empty)).2) := by
  refine ⟨by simp [echoP]; omega, fun j hj => ?_⟩
  have hj' : j < S.length := by simpa [echoP] using hj
  have e : (echoP cs S).getD j (Str.empty, Str.empty) = (butLast (picC (codeAt cs S[j])), lastOf (picC (codeAt cs S[j]))) := by
    unfold echoP
    rw [List.getD_eq_getElem?_getD, List.getElem?_map, List.getElem?_eq_getElem hj']; rfl
  dsimp only
  rw [e]
  have hp := pic_ok _ (hcs S[j])
  have hs : (picC (codeAt cs S[j])).cps.size ≤ 100 := Nat.le_trans hp.2.2 (by decide)
  refine ⟨?_, ?_⟩
  · show (Array.extract _ _ _).size ≤ 100
    rw [Array.size_extract]
    exact Nat.le_trans (Nat.sub_le _ _) (Nat.le_trans (Nat.min_le_right _ _) hs)
  · show (Array.extract _ _ _).size ≤ 100
    rw [Array.size_extract]
    exact Nat.le_trans (Nat.sub_le _ _) (Nat.le_trans (Nat.min_le_right _ _) hs)
theorem presum_shown (cs S : List Int) : preSum (lenVal (fun j => ((echoP cs S).getD j (Str.empty, Str.empty)).1) (fun j => ((echoP cs S).getD j (Str.empty, Str.empty)).2)) (echoP cs S).length = ((shownOf cs S).length : Int) := by
  rw [preSum_list _ _ (Nat.le_refl _), List.take_length]
  unfold shownOf
  rw [← echo_text, cat_len]
  congr 2
  rw [List.map_map]
  apply List.map_congr_left
  intro q _
  exact (str_append_len _ _).symm
theorem shown_len (cs S : List Int) (hc : ∀ i, codeAt cs i < 256) (h : S.length ≤ 15) : (shownOf cs S).length ≤ 60 := by
  unfold shownOf
  rw [cat_len]
  have := pics_sum cs S hc
  omega
theorem str_ne_self (x : Str) : (x != x) = false := by
  rw [bne_eq_false_iff_eq]
set_option maxHeartbeats 1000000
theorem st7 {Q : Flow → Shared → Prop} {tp : Tok} (bf : BF w B a) (R : Room A) (hcs : ∀ i, codeAt (codesOf nums) i < 256) (hlen : st.S.length ≤ 15) (hp : 0 ≤ p ∧ p < 1000) (H : LI w B a nums p os st rs m s) (hsh : m (Str.ofString "shown") = some (.str (shownOf (codesOf nums) st.S) tp))
    (h : ∀ s', LI w B a nums p os st rs m s' → Q .next s') :
    wpAny (model PG w) A (exec ((loopBody w).getD 6 (.Pass default)) (lawEnv w a.L)) Q E s := by
  obtain ⟨its, n1, g1, r1⟩ := H.V.g2
  obtain ⟨Ts, ta, tb, hT⟩ := r1.pcs H.N
  obtain ⟨ps0, t1⟩ := H.V.t1
  obtain ⟨qs0, t2⟩ := H.V.t2
  obtain ⟨td2, tp2, nd2, hd2⟩ := H.T.d2
  obtain ⟨tpr, hpr⟩ := H.n.prompt
  have hdd := (H.N _ hd2).1
  have hu := R.u
  have hdep := R.d
  have hz1 := r1.1
  have hsm := small_echo hcs hlen (S := st.S)
  rw [← hz1] at hsm
  obtain ⟨X, mg, mb, T⟩ := H.cx bf
  obtain ⟨mg0, mb0, T0⟩ := bf.C.T
  have htxt : Txt.join (Str.ofString "") ((List.range its.size).map fun j => ((echoP (codesOf nums) st.S).getD j (Str.empty, Str.empty)).1 ++ ((echoP (codesOf nums) st.S).getD j (Str.empty, Str.empty)).2) = shownOf (codesOf nums) st.S := by
    rw [hz1, getD_map (echoP (codesOf nums) st.S) (fun q => q.1 ++ q.2), echo_text]; rfl
  refine wpAny_If (isTrue_or (wpAny_isTrue_Compare1 (Call_ (nmB H.F bf.C.K T0 rfl rfl (by k_is) (by first | boot_by_name | rfl | kernel_rfl) (by decide) (PyProof.Rows.callWith_type1 (Calls.spliced_cons (nmL H.F H.n.echo (Calls.spliced_nil ?_))))))))
  refine kso_call (show A.units + 2 < _ from dn R.u rfl) X (accInst g1 hdd) (by k_is) (by k_is) ?_
  refine str_call (H.cx bf) (H.bm bf) H.g ⟨⟨n1, g1⟩, td2, tp2, nd2, hdd⟩ hT t2 R.h (dn R.d rfl) hsm ?_
  intro s3 t3 qs' k3 U3 G3 hos3
  have H3 := H.tabs bf (fun b o _ h2 e => k3 b o h2 e) ⟨k3 _ _ (by decide) t1.get, t1.st⟩ U3 G3 hos3
  show wpAny _ _ _ _ _ _
  refine nmL H3.F hsh (PyProof.Rows.ne_str (wpAny_truthy_bool ?_))
  refine ite_neg (by rw [htxt, str_ne_self]; exact Bool.noConfusion) (isTrue_or (wpAny_isTrue_Compare1 (Call_ (nmB H3.F bf.C.K T0 rfl rfl (by k_is) (by first | boot_by_name | rfl | kernel_rfl) (by decide) (PyProof.Rows.callWith_builtin1 (Calls.spliced_cons (nmL H3.F H3.n.echo (Calls.spliced_nil ?_))))))))
  have g3 : s3.heap.get? a.x2 = some (accObj a.d2 its n1) := k3 _ _ (acc_tab g1 t2.get) g1
  have hdd3 := (H3.N _ hd2).1
  obtain ⟨Ts3, ta3, tb3, hT3⟩ := r1.pcs H3.N
  have hps : preSum (lenVal (fun j => ((echoP (codesOf nums) st.S).getD j (Str.empty, Str.empty)).1) (fun j => ((echoP (codesOf nums) st.S).getD j (Str.empty, Str.empty)).2)) its.size = ((shownOf (codesOf nums) st.S).length : Int) := by rw [hz1]; exact presum_shown _ _
  have hsl := shown_len (codesOf nums) st.S hcs hlen
  refine acc_len (H3.K bf) g3 hdd3 (len_call (H3.cx bf) (H3.bm bf) H3.g ⟨⟨n1, g3⟩, td2, tp2, nd2, hdd3⟩ hT3 ⟨k3 _ _ (by decide) t1.get, t1.st⟩ R.h (dn R.d rfl) hsm hp ?_)
  intro s4 t4 ps' k4 U4 G4 hos4
  have H4 := H3.tabs bf (fun b o h1 _ e => k4 b o h1 e) U4 ⟨k4 _ _ (by decide) U3.get, U3.st⟩ G4 hos4
  refine ⟨_, _, congrArg (fun z => Value.int (p + z) _) hps, by omega, by omega, fun t5 tk5 => ?_⟩
  have H5 := H4.ext (h' := s4.heap) (tk := tk5) (Ext.refl _)
  refine wpAny_BinOp (nmL H5.F hpr (Call_ (nmB H5.F bf.C.K T0 rfl rfl (by k_is) (by first | boot_by_name | rfl | kernel_rfl) (by decide) (PyProof.Rows.callWith_builtin1 (Calls.spliced_cons (nmL H5.F hsh (Calls.spliced_nil ?_)))))))
  refine len_str (by first | exact dn R.d rfl | exact dn R.u rfl | exact (Int.toNat_lt (by assumption)).mpr (by assumption) | omega) (add_int (PyProof.Rows.ne_int (wpAny_truthy_bool ?_)))
  refine ite_neg (by rw [bne_self_eq_false]; exact Bool.noConfusion) (isTrue_or_nil (ite_neg Bool.noConfusion ?_))
  refine wpAny_execs_nil (h _ ?_)
  exact H5.ext (Ext.refl _)
end
end Mine
end
section
open PySem PySem.W PyProof.Rows PySem.Calls
set_option maxRecDepth 100000
namespace Mine
theorem eqv_nil (l : List Int) : PyData.eqv (.list (l.map PyData.int)) (.list []) = l.isEmpty := by
  cases l <;> simp [PyData.eqv, PyData.eqvAll]
theorem all_filter (f g : Int → Bool) (hg : ∀ i, g i = !f i) (S : List Int) : S.all f = (S.filter g).isEmpty := by
  induction S with
  | nil => rfl
  | cons i r ih =>
    rw [List.all_cons, List.filter_cons, hg]
    cases f i
    · simp
    · simpa using ih
theorem readsAll_ints' {h : Heap} : ∀ {vs : List Value} {is : List Int}, IntsAre vs is → ReadsAll h vs (is.map PyData.int) []
  | _, _, .nil => .nil
  | _, _, .cons i t r => .cons (as := []) (bs := []) (.int i t) (readsAll_ints' r)
theorem lay_ints : ∀ l : List Int, PyData.canLayAll0 (l.map PyData.int) = true
  | [] => rfl
  | _ :: r => by simp only [List.map_cons, PyData.canLayAll0, PyData.canLay0, Bool.true_and]; exact lay_ints r
theorem depth_ints : ∀ l : List Int, PyData.depthAll (l.map PyData.int) = 0
  | [] => by simp [PyData.depthAll]
  | _ :: r => by simp only [List.map_cons, PyData.depthAll, PyData.depth, depth_ints r]; rfl
theorem shaped_ints (l : List Int) : SeqAt.shaped (.list (l.map PyData.int)) = true := by
  unfold SeqAt.shaped
  simp [PyData.canLay0, lay_ints, PyData.depth, depth_ints]
theorem shaped_bool (b : Bool) : SeqAt.shaped (.bool b) = true := by cases b <;> decide
section
variable {w : World} {A : Around} {s : Shared} {E : Value → Shared → Prop} {env : Env} {B : Heap} {a : Ad} {nums : List Int} {p : Int} {os : OsState} {st : FS} {rs : List (Addr × Obj)} {m mg mb : Str → Option Value} {h' : Heap} {tk : Nat} {x dx : Addr} {its : Array Value} {n : Nat}
theorem if_one {c : Expr} {env' : Env} {Q : Bool → Shared → Prop} (h : wpAny (model PG w) A (isTrue c env' (eval c env')) Q E s) :
    wpAny (model PG w) A (forIn [c] true fun c r => if r = true then do let ok ← isTrue c env' (eval c env'); pure (ForInStep.yield ok) else pure (ForInStep.yield r)) Q E s := by
  simp only [List.forIn_cons, List.forIn_nil, if_true]
  refine wpAny_bind (wpAny_bind (wpAny_mono h (fun ok s' hq => wpAny_pure ?_) fun _ _ e => e))
  exact wpAny_pure hq
theorem if_none {c : Expr} {env' : Env} {Q : Bool → Shared → Prop} (h : Q true s) :
    wpAny (model PG w) A (forIn ([] : List Expr) true fun c r => if r = true then do let ok ← isTrue c env' (eval c env'); pure (ForInStep.yield ok) else pure (ForInStep.yield r)) Q E s := wpAny_pure h
theorem bool_ne {b c : Bool} {Q : Value → Shared → Prop} (hu : A.units + 64 < cLine) (e : b = c) (h : Q (.bool false) s) : wpAny (model PG w) A (compareOp .NotEq (.bool b) (.bool c)) Q E s := by
  subst e
  refine ne_dataH (.bool b) (.bool b) (shaped_bool b) (shaped_bool b) hu ?_
  rw [SeqAt.eqv_refl _ (by cases b <;> rfl)]
  exact h
/-- `[i for i in left if ..] == []` -/
theorem comp_nil {elt iter : Expr} {x : Str} {px : Pos} {ifs : List Expr} {scope : Scope} {cl : List (Str × Addr)} {pos p2 p3 : Pos} {Q : Value → Shared → Prop} (pz : Int → Bool) (hh : A.handled = none) (hu : A.units + 64 < cLine)
    (hclos : closureFor scope env = pure cl) (hcell : ∀ y ∈ scope.names, y.2 ≠ .cell) (hkind : scope.kind = .function)
    (hnames : ∀ y ∈ scope.names, y.2 = .local → scope.names.lookup y.1 = some .local) (hx : scope.names.lookup x = some .local)
    (h : wpAny (model PG w) A (eval iter env) (fun xv s₁ => ∃ l us is, xv = .ref l ∧ s₁.heap.IsList l (List.toArray us) ∧ IntsAre us is ∧ is.length ≤ 1000 ∧
      (∀ C i t (s₃ : Shared) m₃ E', i ∈ is → Fr s₁.heap C s₃.heap m₃ → m₃ x = some (.int i t) →
        wpAny (model PG w) A (forIn ifs true fun c r => if r = true then do let ok ← isTrue c (compEnvC scope cl C env) (eval c (compEnvC scope cl C env)); pure (ForInStep.yield ok) else pure (ForInStep.yield r))
          (fun ok s₄ => ok = pz i ∧ Keeps s₃ s₄) E' s₃) ∧
      (∀ C i t (s₃ : Shared) m₃ E', i ∈ is → pz i = true → Fr s₁.heap C s₃.heap m₃ → m₃ x = some (.int i t) →
        wpAny (model PG w) A (eval elt (compEnvC scope cl C env)) (fun y s₄ => (∃ t', y = .int i t') ∧ Keeps s₃ s₄) E' s₃) ∧
      (∀ h' tk, Ext s₁.heap h' → Q (.bool (is.filter pz).isEmpty) { s₁ with heap := h', toks := tk })) E s)
    (hs : ∀ x, foldedSetIterable iter env x = pure x := by intro _; rfl) :
    wpAny (model PG w) A (eval (.Compare (.ListComp elt [⟨.Name x px, iter, ifs, 0⟩] scope pos) [.Eq] [.List [] p2] p3) env) Q E s := by
  refine wpAny_Compare1 (comp_ints pz (fun i y => ∃ t, y = .int i t) hh hclos hcell hkind hnames hx (wpAny_mono h (fun xv s₁ h₁ => ?_) fun _ _ e => e) hs)
  obtain ⟨l, us, is, e, hl, hi, hlen, h1, h2, hq⟩ := h₁
  refine ⟨l, us, is, e, hl, hi, hlen, h1, h2, fun D h' tk ys n hD eD hp k => ?_⟩
  refine List_ (Calls.spliced_nil (wpAny_newList ?_))
  have hints : IntsAre ys.toList (is.filter pz) := by
    have := ints_of_paired (f := fun i => i) hp
    simpa using this
  refine eq_dataH (.list (as := []) (Heap.get?_push_of_some _ eD) rfl rfl (readsAll_ints' hints)) (.list (xs := []) (as := []) (Heap.get?_push_size _ rfl) rfl rfl .nil) (shaped_ints _) (by decide) hu ?_
  rw [eqv_nil]
  exact hq _ _ (k.trans fun _ _ e => Heap.get?_push_of_some _ e)
set_option maxHeartbeats 1000000
theorem st8 {Q : Flow → Shared → Prop} (bf : BF w B a) (R : Room A) (hcs : ∀ i, codeAt (codesOf nums) i < 256) (hin : ∀ i ∈ st.S, 0 ≤ i ∧ i < nums.length) (hlen : st.S.length ≤ 15) (hl : nums.length ≤ 15) (H : LI w B a nums p os st rs m s) (G : LF nums st rs m)
    (h : ∀ s', LI w B a nums p os st rs m s' → Q .next s') :
    wpAny (model PG w) A (exec ((loopBody w).getD 7 (.Pass default)) (lawEnv w a.L)) Q E s := by
  obtain ⟨D, us, n, eL, mem, hus⟩ := G.left
  obtain ⟨o3, mem3, ho3⟩ := H.T.c3
  obtain ⟨wh, nh, memh, hwh⟩ := H.T.whi
  obtain ⟨its, n1, g1, r1⟩ := H.V.g1
  obtain ⟨Ts, ta, tb, hT⟩ := r1.pcs H.N
  obtain ⟨ps0, t1⟩ := H.V.t1
  obtain ⟨qs0, t2⟩ := H.V.t2
  obtain ⟨td, tp, nd, hd1⟩ := H.T.d1
  have hdd := (H.N _ hd1).1
  have hu := R.u
  have hdep := R.d
  have hz1 := r1.1
  have hsm := small_line (cs := codesOf nums) (S := st.S) hlen
  rw [← hz1] at hsm
  refine wpAny_If (wpAny_isTrue_Compare1 (meth0 H.F (H.K bf) H.n.line g1 hdd (f := 90) (by k_is) (by k_is) rfl (fnAt_of (H.K bf) (by k_is)) ?_))
  refine ws_call (H.cx bf) (H.bm bf) H.g ⟨⟨n1, g1⟩, td, tp, nd, hdd⟩ hT t1 t2 R.h (by first | exact dn R.d rfl | exact dn R.u rfl | exact (Int.toNat_lt (by assumption)).mpr (by assumption) | omega) (by first | exact dn R.d rfl | exact dn R.u rfl | exact (Int.toNat_lt (by assumption)).mpr (by assumption) | omega) hsm (by first | exact dn R.d rfl | exact dn R.u rfl | exact (Int.toNat_lt (by assumption)).mpr (by assumption) | omega) ?_
  intro s1 ps1 qs1 k1 U1 V1 G1 os1
  have H1 := H.tabs bf k1 U1 V1 G1 os1
  have hval := ws_value (lineP (codesOf nums) st.S)
  rw [← hz1] at hval
  rw [hval, line_ws _ _ fun i _ => hcs i]
  refine comp_nil (fun i => !whiteC (codeAt (codesOf nums) i)) R.h (by first | exact dn R.d rfl | exact dn R.u rfl | exact (Int.toNat_lt (by assumption)).mpr (by assumption) | omega) (cl := [(Str.ofString "white", a.L + 1 + 1 + 1)]) (by rfl) (by decide) rfl (by decide) rfl
    (nmL H1.F eL ⟨D, us, st.S, rfl, ⟨_, (H1.N _ mem).1, rfl, _, rfl⟩, hus, by omega, ?_, ?_, ?_⟩)
  · intro C i t s₃ m₃ E' hi F3 e3
    obtain ⟨h0, h1⟩ := hin i hi
    obtain ⟨y, ey, rfl⟩ := paired_at (d := 0) hwh i.toNat (by rw [codesOf_len]; first | exact (Int.toNat_lt (by assumption)).mpr (by assumption) | omega)
    refine if_one (isTrue_not (isTrue_plain (Subscript_ (nmC (F3.keep _ _ (H1.N _ mem3).1) ho3 rfl (nmL F3 e3 (itemL ⟨_, F3.keep _ _ (H1.N _ memh).1, rfl, _, rfl⟩ h0 (by first | exact dn R.d rfl | exact dn R.u rfl | exact (Int.toNat_lt (by assumption)).mpr (by assumption) | omega) ey (wpAny_truthy_bool ?_)))))))
    exact ⟨rfl, _, _, rfl, fun _ _ e => e⟩
  · intro C i t s₃ m₃ E' _ _ F3 e3
    exact nmL F3 e3 ⟨⟨t, rfl⟩, _, _, rfl, fun _ _ e => e⟩
  intro h2 tk2 k2
  refine bool_ne (by first | exact dn R.d rfl | exact dn R.u rfl | exact (Int.toNat_lt (by assumption)).mpr (by assumption) | omega) ?_ (wpAny_truthy_bool ?_)
  · rw [all_filter (fun i => whiteC (codeAt (codesOf nums) i)) (fun i => !whiteC (codeAt (codesOf nums) i)) (fun _ => rfl)]
    rfl
  · exact wpAny_execs_nil (h _ (H1.ext k2))
end
end Mine
end
section
open PySem PySem.W PyProof.Rows PySem.Calls
set_option maxRecDepth 100000
namespace Mine
theorem codeAt_small (nums : List Int) (i : Int) : codeAt (codesOf nums) i < 256 := by
  unfold codeAt codesOf
  rw [List.getD_eq_getElem?_getD, List.getElem?_map]
  cases nums[i.toNat]? with
  | none => simp
  | some n => simpa using codeOf_small n
section
variable {w : World} {A : Around} {s : Shared} {E : Value → Shared → Prop} {env : Env} {B : Heap} {a : Ad} {nums : List Int} {p : Int} {os : OsState} {st : FS} {rs : List (Addr × Obj)} {m mg mb : Str → Option Value} {h' : Heap} {tk : Nat} {x dx : Addr} {its : Array Value} {n : Nat}
set_option maxHeartbeats 1000000
theorem st9 {Q : Flow → Shared → Prop} (bf : BF w B a) (R : Room A) (hcs : ∀ i, codeAt (codesOf nums) i < 256) (hin : ∀ i ∈ st.S, 0 ≤ i ∧ i < nums.length) (hlen : st.S.length ≤ 15) (hl : nums.length ≤ 15) (hp : 0 ≤ p ∧ p < 1000) (H : LI w B a nums p os st rs m s) (G : LF nums st rs m)
    (h : ∀ s', LI w B a nums p os st rs m s' → Q .next s') :
    wpAny (model PG w) A (exec ((loopBody w).getD 8 (.Pass default)) (lawEnv w a.L)) Q E s := by
  obtain ⟨D, us, n, eL, mem, hus⟩ := G.left
  obtain ⟨o1, mem1, ho1⟩ := H.T.c1
  obtain ⟨wc, nc, memc, hwc⟩ := H.T.cod
  obtain ⟨its, n1, g1, r1⟩ := H.V.g2
  obtain ⟨Ts, ta, tb, hT⟩ := r1.pcs H.N
  obtain ⟨ps0, t1⟩ := H.V.t1
  obtain ⟨qs0, t2⟩ := H.V.t2
  obtain ⟨td, tp, nd, hd2⟩ := H.T.d2
  obtain ⟨tpr, hpr⟩ := H.n.prompt
  have hdd := (H.N _ hd2).1
  have hu := R.u
  have hdep := R.d
  have hz1 := r1.1
  have hsm := small_echo (cs := codesOf nums) (S := st.S) hcs hlen
  rw [← hz1] at hsm
  refine wpAny_If (wpAny_isTrue_Compare1 (meth0 H.F (H.K bf) H.n.echo g1 hdd (f := 90) (by k_is) (by k_is) rfl (fnAt_of (H.K bf) (by k_is)) ?_))
  refine ws_call (H.cx bf) (H.bm bf) H.g ⟨⟨n1, g1⟩, td, tp, nd, hdd⟩ hT t1 t2 R.h (by first | exact dn R.d rfl | exact dn R.u rfl | exact (Int.toNat_lt (by assumption)).mpr (by assumption) | omega) (by first | exact dn R.d rfl | exact dn R.u rfl | exact (Int.toNat_lt (by assumption)).mpr (by assumption) | omega) hsm hp ?_
  intro s1 ps1 qs1 k1 U1 V1 G1 os1
  have H1 := H.tabs bf k1 U1 V1 G1 os1
  have hval := ws_value (echoP (codesOf nums) st.S)
  rw [← hz1] at hval
  rw [hval, echo_ws _ _ fun i _ => hcs i]
  refine BoolOp_and (wpAny_Compare1 (nmL H1.F hpr (wpAny_Constant_int (PyProof.Rows.eq_int (wpAny_truthy_bool ?_)))))
  have H2 := H1.ext (h' := s1.heap) (tk := s1.toks + 1) (Ext.refl _)
  by_cases hp0 : p = 0
  · rw [decide_eq_true hp0, show (p == 0) = true by rw [hp0]; rfl]
    simp only [if_true, Bool.true_and]
    refine BoolOp_one (comp_nil (fun i => !decide (codeAt (codesOf nums) i = 32)) R.h (by first | exact dn R.d rfl | exact dn R.u rfl | exact (Int.toNat_lt (by assumption)).mpr (by assumption) | omega) (cl := [(Str.ofString "codes", a.L + 1)]) (by rfl) (by decide) rfl (by decide) rfl
      (nmL H2.F eL ⟨D, us, st.S, rfl, ⟨_, (H2.N _ mem).1, rfl, _, rfl⟩, hus, by omega, ?_, ?_, ?_⟩))
    · intro C i t s₃ m₃ E' hi F3 e3
      obtain ⟨h0, h1⟩ := hin i hi
      refine if_one (wpAny_isTrue_Compare1 (Subscript_ (nmC (F3.keep _ _ (H2.N _ mem1).1) ho1 rfl (nmL F3 e3 (getL_any ⟨_, F3.keep _ _ (H2.N _ memc).1, rfl, _, rfl⟩ hwc h0 (by rw [codesOf_len]; first | exact (Int.toNat_lt (by assumption)).mpr (by assumption) | omega) (by rw [codesOf_len]; first | exact (Int.toNat_lt (by assumption)).mpr (by assumption) | omega) fun u => wpAny_Constant_int (PyProof.Rows.ne_int (wpAny_truthy_bool ?_)))))))
      refine ⟨?_, _, _, rfl, fun _ _ e => e⟩
      rw [codeAt_int nums i]
      by_cases e : codeAt (codesOf nums) i = 32
      · rw [decide_eq_true e, e]; rfl
      · rw [decide_eq_false e]
        have : ((codeAt (codesOf nums) i : Nat) : Int) ≠ 32 := by omega
        simpa using this
    · intro C i t s₃ m₃ E' _ _ F3 e3
      exact nmL F3 e3 ⟨⟨t, rfl⟩, _, _, rfl, fun _ _ e => e⟩
    intro h2 tk2 k2
    refine bool_ne (by first | exact dn R.d rfl | exact dn R.u rfl | exact (Int.toNat_lt (by assumption)).mpr (by assumption) | omega) ?_ (wpAny_truthy_bool ?_)
    · rw [all_filter (fun i => decide (codeAt (codesOf nums) i = 32)) (fun i => !decide (codeAt (codesOf nums) i = 32)) (fun _ => rfl)]
    · exact wpAny_execs_nil (h _ (H2.ext k2))
  · rw [decide_eq_false hp0, show (p == 0) = false by simpa using hp0]
    simp only [Bool.false_eq_true, if_false, Bool.false_and]
    refine bool_ne (by first | exact dn R.d rfl | exact dn R.u rfl | exact (Int.toNat_lt (by assumption)).mpr (by assumption) | omega) rfl (wpAny_truthy_bool ?_)
    exact wpAny_execs_nil (h _ H2)
theorem st10 {Q : Flow → Shared → Prop} (H : LI w B a nums p os st rs m s) (G : LF nums st rs m) (h : Q .next s) :
    wpAny (model PG w) A (exec ((loopBody w).getD 9 (.Pass default)) (lawEnv w a.L)) Q E s := by
  obtain ⟨t1, e1⟩ := H.b
  obtain ⟨t2, e2⟩ := G.rung
  refine wpAny_If (wpAny_isTrue_Compare1 (nmL H.F e1 (nmL H.F e2 (PyProof.Rows.ne_int (wpAny_truthy_bool ?_)))))
  rw [bne_self_eq_false]
  exact wpAny_execs_nil h
theorem turnL {Q : Flow → Shared → Prop} {now : Nat} {t : Tok} (bf : BF w B a) (R : Room A) (hl : nums.length ≤ 15) (hn : now < nums.length) (hp : 0 ≤ p ∧ p < 1000) (H : LI w B a nums p os (fRun (codesOf nums) now) rs m s) (hnow : m (Str.ofString "now") = some (.int (now : Int) t))
    (h : ∀ s' rs' m', LI w B a nums p os (fRun (codesOf nums) (now + 1)) rs' m' s' → (∀ q ∈ rs, q ∈ rs') → Q .next s') :
    wpAny (model PG w) A (execs (loopBody w) (lawEnv w a.L)) Q E s := by
  have hcs := codeAt_small nums
  have hlen0 := run_len (codesOf nums) now
  have hlen := run_len (codesOf nums) (now + 1)
  have hin : ∀ i ∈ (fRun (codesOf nums) (now + 1)).S, 0 ≤ i ∧ i < nums.length := fun i hi => by
    have := run_mem (codesOf nums) (now + 1) i hi; omega
  refine wpAny_execs_cons (st1 bf R H hnow hn hl fun h1 tk1 v t1 hv H1 => ?_)
  subst hv
  have hcd : (codesOf nums).getD now 0 = ((codeOf (nums.getD now 0) : Nat) : Int) := by
    unfold codesOf
    rw [List.getD_eq_getElem?_getD, List.getElem?_map, List.getD_eq_getElem?_getD, List.getElem?_eq_getElem hn]; rfl
  have hcn : codeAt (codesOf nums) now = codeOf (nums.getD now 0) := by
    unfold codeAt
    rw [Int.toNat_natCast, hcd, Int.toNat_natCast]
  refine wpAny_execs_cons (st2 bf R hcs (by first | exact dn R.d rfl | exact dn R.u rfl | exact (Int.toNat_lt (by assumption)).mpr (by assumption) | omega) H1 (if_pos rfl) (codeOf_small _) hcn hcd fun h2 tk2 rs2 m2 H2 e2 hr2 => ?_)
  have hnow2 : m2 (Str.ofString "now") = some (.int (now : Int) t) := e2.trans ((if_neg (by decide)).trans hnow)
  refine wpAny_execs_cons (st3 bf R (show LI w B a nums p os (fRun (codesOf nums) (now + 1)) rs2 m2 _ from H2) hnow2 hn hl fun h3 tk3 rs3 m3 H3 G3 hr3 => ?_)
  refine wpAny_execs_cons (st4 bf R hcs hin (by first | exact dn R.d rfl | exact dn R.u rfl | exact (Int.toNat_lt (by assumption)).mpr (by assumption) | omega) hl H3 G3 fun h4 tk4 m4 H4 G4 e4 => ?_)
  obtain ⟨t4, e4⟩ := e4
  refine wpAny_execs_cons (st5 bf R hcs hin (by first | exact dn R.d rfl | exact dn R.u rfl | exact (Int.toNat_lt (by assumption)).mpr (by assumption) | omega) hl H4 G4 fun h5 tk5 k5 => ?_)
  have H5 := H4.ext (tk := tk5) k5
  refine wpAny_execs_cons (st6 bf R hcs hin (by first | exact dn R.d rfl | exact dn R.u rfl | exact (Int.toNat_lt (by assumption)).mpr (by assumption) | omega) hl H5 G4 fun h6 tk6 k6 => ?_)
  have H6 := H5.ext (tk := tk6) k6
  refine wpAny_execs_cons (st7 bf R hcs (by first | exact dn R.d rfl | exact dn R.u rfl | exact (Int.toNat_lt (by assumption)).mpr (by assumption) | omega) hp H6 e4 fun s7 H7 => ?_)
  refine wpAny_execs_cons (st8 bf R hcs hin (by first | exact dn R.d rfl | exact dn R.u rfl | exact (Int.toNat_lt (by assumption)).mpr (by assumption) | omega) hl H7 G4 fun s8 H8 => ?_)
  refine wpAny_execs_cons (st9 bf R hcs hin (by first | exact dn R.d rfl | exact dn R.u rfl | exact (Int.toNat_lt (by assumption)).mpr (by assumption) | omega) hl hp H8 G4 fun s9 H9 => ?_)
  refine wpAny_execs_cons (st10 H9 G4 ?_)
  exact wpAny_execs_nil (h _ _ _ H9 fun q hq => hr3 q (hr2 q hq))
end
end Mine
end
section
open PySem PySem.W PyProof.Rows PySem.Calls
set_option maxRecDepth 100000
namespace Mine
noncomputable def Listy (rs : List (Addr × Obj)) : Prop := ∀ q ∈ rs, ∃ ys n, q.2 = PySem.W.listOf ys n
theorem Listy.cons {rs : List (Addr × Obj)} {D : Addr} {ys : Array Value} {n : Nat} (h : Listy rs) : Listy ((D, PySem.W.listOf ys n) :: rs) := fun q hq => by
  rcases List.mem_cons.mp hq with rfl | hq
  · exact ⟨_, _, rfl⟩
  · exact h q hq
theorem neAd {a b : Nat} (h : a ≠ b) : @Ne Addr a b := h
theorem ltAd {a b : Nat} (h : a < b) : @LT.lt Addr _ a b := h
/-- the law ahead of its loop -/
structure PR (w : World) (B : Heap) (L : Addr) (nums : List Int) (p : Int) (os : OsState) (v1 v2 v3 : Option Value) (rs : List (Addr × Obj)) (m : Str → Option Value) (s : Shared) : Prop where
  F : Fr B L s.heap m
  N : News B L s.heap rs
  S : Listy rs
  c1 : ∃ o, s.heap.get? (L + 1) = some o ∧ o.data = .cell v1
  c2 : ∃ o, s.heap.get? (L + 1 + 1) = some o ∧ o.data = .cell v2
  c3 : ∃ o, s.heap.get? (L + 1 + 1 + 1) = some o ∧ o.data = .cell v3
  pr : ∃ t, m (Str.ofString "prompt") = some (.int p t)
  g : AllBare s.gens
  o : s.os = os
  t1 : ∃ ps, TabAt' s.heap 63 posLen ps
  t2 : ∃ qs, TabAt' s.heap 70 posStr qs
/-- the prefix's base -/
structure PB (w : World) (B : Heap) (L : Addr) : Prop where
  C : Cx w B
  b : Bm B
  n3 : B.get? 63 = none
  n4 : B.get? 70 = none
  l3 : 63 < L
  l4 : 70 < L
section
variable {w : World} {A : Around} {s : Shared} {E : Value → Shared → Prop} {B : Heap} {L : Addr} {nums : List Int} {p : Int} {os : OsState} {v1 v2 v3 : Option Value} {rs : List (Addr × Obj)} {m : Str → Option Value} {h' : Heap} {tk : Nat}
theorem above_none (F : Fr B L s.heap m) {c : Addr} (h : L < c) : B.get? c = none := by
  cases e : B.get? c with
  | none => rfl
  | some o => exact absurd (Nat.lt_of_lt_of_le (Heap.lt_size e) F.above) (Nat.not_lt_of_gt h)
theorem PR.ext (H : PR w B L nums p os v1 v2 v3 rs m s) (k : Ext s.heap h') : PR w B L nums p os v1 v2 v3 rs m { s with heap := h', toks := tk } :=
  ⟨frE H.F k, newsE H.N k, H.S, (let ⟨o, e, d⟩ := H.c1; ⟨o, k _ _ e, d⟩), (let ⟨o, e, d⟩ := H.c2; ⟨o, k _ _ e, d⟩), (let ⟨o, e, d⟩ := H.c3; ⟨o, k _ _ e, d⟩), H.pr, H.g, H.o, (let ⟨ps, t⟩ := H.t1; ⟨ps, k _ _ t.get, t.st⟩), (let ⟨ps, t⟩ := H.t2; ⟨ps, k _ _ t.get, t.st⟩)⟩
theorem PR.cons {D : Addr} {ys : Array Value} {n : Nat} (H : PR w B L nums p os v1 v2 v3 rs m s) (hD : s.heap.get? D = none) (k : Ext s.heap h') (e : h'.get? D = some (PySem.W.listOf ys n)) : PR w B L nums p os v1 v2 v3 ((D, PySem.W.listOf ys n) :: rs) m { s with heap := h', toks := tk } :=
  let H' := H.ext (tk := tk) k
  ⟨H'.F, newsCons (newOf H.F hD e) H'.N, H.S.cons, H'.c1, H'.c2, H'.c3, H'.pr, H'.g, H'.o, H'.t1, H'.t2⟩
theorem PR.set {y : Str} {v : Value} (b : PB w B L) (H : PR w B L nums p os v1 v2 v3 rs m s) (hy : y ≠ Str.ofString "prompt") (F' : Fr B L h' (fun z => if z = y then some v else m z)) (k : ∀ b o, b ≠ L → s.heap.get? b = some o → h'.get? b = some o) :
    PR w B L nums p os v1 v2 v3 rs (fun z => if z = y then some v else m z) { s with heap := h', toks := tk } :=
  ⟨F', newsL H.N k, H.S, (let ⟨o, e, d⟩ := H.c1; ⟨o, k _ _ (neAd (by first | exact dn R.d rfl | exact dn R.u rfl | exact (Int.toNat_lt (by assumption)).mpr (by assumption) | omega)) e, d⟩), (let ⟨o, e, d⟩ := H.c2; ⟨o, k _ _ (neAd (by first | exact dn R.d rfl | exact dn R.u rfl | exact (Int.toNat_lt (by assumption)).mpr (by assumption) | omega)) e, d⟩), (let ⟨o, e, d⟩ := H.c3; ⟨o, k _ _ (neAd (by first | exact dn R.d rfl | exact dn R.u rfl | exact (Int.toNat_lt (by assumption)).mpr (by assumption) | omega)) e, d⟩), by rw [if_neg (Ne.symm hy)]; exact H.pr, H.g, H.o,
    (let ⟨ps, t⟩ := H.t1; ⟨ps, k _ _ (Nat.ne_of_lt b.l3) t.get, t.st⟩), (let ⟨ps, t⟩ := H.t2; ⟨ps, k _ _ (Nat.ne_of_lt b.l4) t.get, t.st⟩)⟩
theorem newsCell {h h' : Heap} {c : Addr} {o : Obj} {v : Option Value} (N : News B L h rs) (S : Listy rs) (ho : h.get? c = some o) (hd : o.data = .cell v) (k : ∀ b o, b ≠ c → h.get? b = some o → h'.get? b = some o) : News B L h' rs := fun q hq => by
  refine ⟨k _ _ (fun e => ?_) (N q hq).1, (N q hq).2⟩
  obtain ⟨ys, n, eq⟩ := S q hq
  have e1 := (N q hq).1
  rw [e, ho, eq] at e1
  have := Option.some.inj e1
  rw [this] at hd
  cases hd
theorem PR.cell1 {v : Value} (b : PB w B L) (H : PR w B L nums p os v1 v2 v3 rs m s) {o o' : Obj} (ho : s.heap.get? (L + 1) = some o) (hd : o.data = .cell v1) (F' : Fr B L h' m) (k : ∀ b o, b ≠ L + 1 → s.heap.get? b = some o → h'.get? b = some o) (ho' : h'.get? (L + 1) = some o') (hd' : o'.data = .cell (some v)) :
    PR w B L nums p os (some v) v2 v3 rs m { s with heap := h' } :=
  have l3 : @LT.lt Nat _ 63 L := b.l3
  have l4 : @LT.lt Nat _ 70 L := b.l4
  ⟨F', newsCell H.N H.S ho hd k, H.S, ⟨o', ho', hd'⟩, (let ⟨o, e, d⟩ := H.c2; ⟨o, k _ _ (neAd (by first | exact dn R.d rfl | exact dn R.u rfl | exact (Int.toNat_lt (by assumption)).mpr (by assumption) | omega)) e, d⟩), (let ⟨o, e, d⟩ := H.c3; ⟨o, k _ _ (neAd (by first | exact dn R.d rfl | exact dn R.u rfl | exact (Int.toNat_lt (by assumption)).mpr (by assumption) | omega)) e, d⟩), H.pr, H.g, H.o, (let ⟨ps, t⟩ := H.t1; ⟨ps, k _ _ (neAd (by first | exact dn R.d rfl | exact dn R.u rfl | exact (Int.toNat_lt (by assumption)).mpr (by assumption) | omega)) t.get, t.st⟩), (let ⟨ps, t⟩ := H.t2; ⟨ps, k _ _ (neAd (by first | exact dn R.d rfl | exact dn R.u rfl | exact (Int.toNat_lt (by assumption)).mpr (by assumption) | omega)) t.get, t.st⟩)⟩
theorem PR.cell2 {v : Value} (b : PB w B L) (H : PR w B L nums p os v1 v2 v3 rs m s) {o o' : Obj} (ho : s.heap.get? (L + 1 + 1) = some o) (hd : o.data = .cell v2) (F' : Fr B L h' m) (k : ∀ b o, b ≠ L + 1 + 1 → s.heap.get? b = some o → h'.get? b = some o) (ho' : h'.get? (L + 1 + 1) = some o') (hd' : o'.data = .cell (some v)) :
    PR w B L nums p os v1 (some v) v3 rs m { s with heap := h' } :=
  have l3 : @LT.lt Nat _ 63 L := b.l3
  have l4 : @LT.lt Nat _ 70 L := b.l4
  ⟨F', newsCell H.N H.S ho hd k, H.S, (let ⟨o, e, d⟩ := H.c1; ⟨o, k _ _ (neAd (by first | exact dn R.d rfl | exact dn R.u rfl | exact (Int.toNat_lt (by assumption)).mpr (by assumption) | omega)) e, d⟩), ⟨o', ho', hd'⟩, (let ⟨o, e, d⟩ := H.c3; ⟨o, k _ _ (neAd (by first | exact dn R.d rfl | exact dn R.u rfl | exact (Int.toNat_lt (by assumption)).mpr (by assumption) | omega)) e, d⟩), H.pr, H.g, H.o, (let ⟨ps, t⟩ := H.t1; ⟨ps, k _ _ (neAd (by first | exact dn R.d rfl | exact dn R.u rfl | exact (Int.toNat_lt (by assumption)).mpr (by assumption) | omega)) t.get, t.st⟩), (let ⟨ps, t⟩ := H.t2; ⟨ps, k _ _ (neAd (by first | exact dn R.d rfl | exact dn R.u rfl | exact (Int.toNat_lt (by assumption)).mpr (by assumption) | omega)) t.get, t.st⟩)⟩
theorem PR.cell3 {v : Value} (b : PB w B L) (H : PR w B L nums p os v1 v2 v3 rs m s) {o o' : Obj} (ho : s.heap.get? (L + 1 + 1 + 1) = some o) (hd : o.data = .cell v3) (F' : Fr B L h' m) (k : ∀ b o, b ≠ L + 1 + 1 + 1 → s.heap.get? b = some o → h'.get? b = some o) (ho' : h'.get? (L + 1 + 1 + 1) = some o') (hd' : o'.data = .cell (some v)) :
    PR w B L nums p os v1 v2 (some v) rs m { s with heap := h' } :=
  have l3 : @LT.lt Nat _ 63 L := b.l3
  have l4 : @LT.lt Nat _ 70 L := b.l4
  ⟨F', newsCell H.N H.S ho hd k, H.S, (let ⟨o, e, d⟩ := H.c1; ⟨o, k _ _ (neAd (by first | exact dn R.d rfl | exact dn R.u rfl | exact (Int.toNat_lt (by assumption)).mpr (by assumption) | omega)) e, d⟩), (let ⟨o, e, d⟩ := H.c2; ⟨o, k _ _ (neAd (by first | exact dn R.d rfl | exact dn R.u rfl | exact (Int.toNat_lt (by assumption)).mpr (by assumption) | omega)) e, d⟩), ⟨o', ho', hd'⟩, H.pr, H.g, H.o, (let ⟨ps, t⟩ := H.t1; ⟨ps, k _ _ (neAd (by first | exact dn R.d rfl | exact dn R.u rfl | exact (Int.toNat_lt (by assumption)).mpr (by assumption) | omega)) t.get, t.st⟩), (let ⟨ps, t⟩ := H.t2; ⟨ps, k _ _ (neAd (by first | exact dn R.d rfl | exact dn R.u rfl | exact (Int.toNat_lt (by assumption)).mpr (by assumption) | omega)) t.get, t.st⟩)⟩
theorem PR.K (H : PR w B L nums p os v1 v2 v3 rs m s) (b : PB w B L) : (hd.heap_39 w.params).In s.heap := b.C.K.keeps H.F.keep
theorem PR.cx (H : PR w B L nums p os v1 v2 v3 rs m s) (b : PB w B L) : Cx w s.heap := let ⟨_, _, T⟩ := b.C.T; cxF H.F b.C.K T
noncomputable abbrev stL_ (w : World) (k : Nat) : Stmt := (lawStmts (hd.heap_39 w.params)).getD k (.Pass default)
set_option maxHeartbeats 1000000
theorem p2 {Q : Flow → Shared → Prop} {DN : Addr} {wn : List Value} {n : Nat} (b : PB w B L) (R : Room A) (H : PR w B L nums p os none v2 v3 rs m s) (hm : m (Str.ofString "numbers") = some (.ref DN)) (hN : (DN, PySem.W.listOf (List.toArray wn) n) ∈ rs) (hn : IntsAre wn nums) (hl : nums.length ≤ 15)
    (h : ∀ DC wc n' h' tk, IntsAre wc (codesOf nums) → PR w B L nums p os (some (.ref DC)) v2 v3 ((DC, PySem.W.listOf (List.toArray wc) n') :: rs) m { s with heap := h', toks := tk } → Q .next { s with heap := h', toks := tk }) :
    wpAny (model PG w) A (exec (stL_ w 2) (lawEnv w L)) Q E s := by
  have hdep := R.d
  refine wpAny_Assign_Name (comp_ints (fun _ => true) (fun i y => ∃ t, y = .int ((codeOf i : Nat) : Int) t) R.h (cl := []) (by rfl) (by decide) rfl (by decide) rfl
    (nmL H.F hm ⟨DN, wn, nums, rfl, ⟨_, (H.N _ hN).1, rfl, _, rfl⟩, hn, by omega, ?_, ?_, ?_⟩))
  · intro C i t s₃ m₃ E' _ _ _
    exact wpAny_pure ⟨rfl, _, _, rfl, fun _ _ e => e⟩
  · intro C i t s₃ m₃ E' _ _ F3 e3
    obtain ⟨X3, mg, mb, T3⟩ := H.cx b
    refine Call_ (nmG F3 X3 T3 rfl (by k_is) (callFn1 (fnAt_of (X3.keeps F3.keep) (by k_is)) (nmL F3 e3 ⟨Ext.refl _, ?_⟩)))
    exact lawcode_int (cxF F3 X3 T3) (by first | exact dn R.d rfl | exact dn R.u rfl | exact (Int.toNat_lt (by assumption)).mpr (by assumption) | omega) _ _ fun t h' tk k => ⟨⟨t, rfl⟩, keepsP k⟩
  · intro DC h1 tk1 ys n1 hD eD hp k
    rw [List.filter_eq_self.mpr (fun _ _ => rfl)] at hp
    have hcs := ints_of_paired hp
    change IntsAre _ (codesOf nums) at hcs
    have eD' : h1.get? DC = some (PySem.W.listOf (List.toArray ys.toList) n1) := by simpa using eD
    have H1 := H.cons (tk := tk1) hD k eD'
    obtain ⟨o, ho, hd⟩ := H1.c1
    refine stC (s := { s with heap := h1, toks := tk1 }) (c := L + 1) H1.F ho hd (neAd (by first | exact dn R.d rfl | exact dn R.u rfl | exact (Int.toNat_lt (by assumption)).mpr (by assumption) | omega)) (above_none H1.F (ltAd (by first | exact dn R.d rfl | exact dn R.u rfl | exact (Int.toNat_lt (by assumption)).mpr (by assumption) | omega))) rfl fun h2 o' F2 k2 ho' hd' => ?_
    exact h DC _ _ h2 tk1 hcs (H1.cell1 b ho hd F2 k2 ho' hd')
end
end Mine
end
section
open PySem PySem.W PyProof.Rows PySem.Calls
set_option maxRecDepth 100000
namespace Mine
theorem mem_codes {nums : List Int} {i : Int} (h : i ∈ codesOf nums) : ∃ c : Nat, i = (c : Int) ∧ c < 256 := by
  unfold codesOf at h
  obtain ⟨n, _, rfl⟩ := List.mem_map.mp h
  exact ⟨_, rfl, codeOf_small n⟩
theorem codes_len (nums : List Int) : (codesOf nums).length = nums.length := codesOf_len nums
section
variable {w : World} {A : Around} {s : Shared} {E : Value → Shared → Prop} {B : Heap} {L : Addr} {nums : List Int} {p : Int} {os : OsState} {v1 v2 v3 : Option Value} {rs : List (Addr × Obj)} {m : Str → Option Value} {h' : Heap} {tk : Nat}
theorem keepsQ {t : Shared} {h' : Heap} {tk : Nat} (k : Ext t.heap h') : Keeps t { t with heap := h', toks := tk } := ⟨h', tk, rfl, k⟩
set_option maxHeartbeats 1000000
theorem p3 {Q : Flow → Shared → Prop} {DC : Addr} {wc : List Value} {n : Nat} (b : PB w B L) (R : Room A) (H : PR w B L nums p os (some (.ref DC)) v2 v3 rs m s) (hC : (DC, PySem.W.listOf (List.toArray wc) n) ∈ rs) (hc : IntsAre wc (codesOf nums)) (hl : nums.length ≤ 15)
    (h : ∀ DW ww n' h' tk, IntsAre ww (worthsOf nums) → PR w B L nums p os (some (.ref DC)) v2 v3 ((DW, PySem.W.listOf (List.toArray ww) n') :: rs) (fun z => if z = Str.ofString "worths" then some (.ref DW) else m z) { s with heap := h', toks := tk } → Q .next { s with heap := h', toks := tk }) :
    wpAny (model PG w) A (exec (stL_ w 3) (lawEnv w L)) Q E s := by
  have hdep := R.d
  obtain ⟨mg, mb, T⟩ := b.C.T
  obtain ⟨o, ho, hd⟩ := H.c1
  refine wpAny_Assign_Name (Call_ (nmG H.F b.C.K T rfl (by k_is) (callFn1 (fnAt_of (H.K b) (by k_is)) (nmC ho hd rfl ⟨Ext.refl _, ?_⟩))))
  refine lawworths_call (H.cx b) (by first | exact dn R.d rfl | exact dn R.u rfl | exact (Int.toNat_lt (by assumption)).mpr (by assumption) | omega) R.h ⟨_, (H.N _ hC).1, rfl, _, rfl⟩ hc (by rw [codes_len]; omega) _ _ fun D us n' h1 tk1 k hD eD hi => ?_
  have H1 := H.cons (tk := tk1) hD k eD
  refine stL (s := { s with heap := h1, toks := tk1 }) H1.F fun h2 F2 k2 => ?_
  exact h D us n' h2 (tk1 + 1) hi (PR.set (s := { s with heap := h1, toks := tk1 }) (tk := tk1 + 1) b H1 (by decide) F2 k2)
theorem p4 {Q : Flow → Shared → Prop} {DC : Addr} {wc : List Value} {n : Nat} (b : PB w B L) (R : Room A) (H : PR w B L nums p os (some (.ref DC)) v2 v3 rs m s) (hC : (DC, PySem.W.listOf (List.toArray wc) n) ∈ rs) (hc : IntsAre wc (codesOf nums)) (hl : nums.length ≤ 15)
    (h : ∀ DP wp n' h' tk, Paired picR (codesOf nums) wp → PR w B L nums p os (some (.ref DC)) (some (.ref DP)) v3 ((DP, PySem.W.listOf (List.toArray wp) n') :: rs) m { s with heap := h', toks := tk } → Q .next { s with heap := h', toks := tk }) :
    wpAny (model PG w) A (exec (stL_ w 4) (lawEnv w L)) Q E s := by
  have hdep := R.d
  obtain ⟨o, ho, hd⟩ := H.c1
  refine wpAny_Assign_Name (comp_ints (fun _ => true) picR R.h (cl := []) (by rfl) (by decide) rfl (by decide) rfl
    (nmC ho hd rfl ⟨DC, wc, codesOf nums, rfl, ⟨_, (H.N _ hC).1, rfl, _, rfl⟩, hc, by rw [codes_len]; omega, ?_, ?_, ?_⟩))
  · intro C i t s₃ m₃ E' _ _ _
    exact wpAny_pure ⟨rfl, _, _, rfl, fun _ _ e => e⟩
  · intro C i t s₃ m₃ E' hi _ F3 e3
    obtain ⟨c, rfl, hc⟩ := mem_codes hi
    obtain ⟨X3, mg, mb, T3⟩ := H.cx b
    refine Call_ (nmG F3 X3 T3 rfl (by k_is) (callFn1 (fnAt_of (X3.keeps F3.keep) (by k_is)) (nmL F3 e3 ⟨Ext.refl _, ?_⟩)))
    exact lawshown_int (cxF F3 X3 T3) (by first | exact dn R.d rfl | exact dn R.u rfl | exact (Int.toNat_lt (by assumption)).mpr (by assumption) | omega) hc _ _ fun t h' tk k => ⟨⟨t, rfl⟩, keepsQ k⟩
  · intro D h1 tk1 ys n1 hD eD hp k
    rw [List.filter_eq_self.mpr (fun _ _ => rfl)] at hp
    have eD' : h1.get? D = some (PySem.W.listOf (List.toArray ys.toList) n1) := by simpa using eD
    have H1 := H.cons (tk := tk1) hD k eD'
    obtain ⟨o, ho, hd⟩ := H1.c2
    refine stC (s := { s with heap := h1, toks := tk1 }) (c := L + 1 + 1) H1.F ho hd (neAd (by first | exact dn R.d rfl | exact dn R.u rfl | exact (Int.toNat_lt (by assumption)).mpr (by assumption) | omega)) (above_none H1.F (ltAd (by first | exact dn R.d rfl | exact dn R.u rfl | exact (Int.toNat_lt (by assumption)).mpr (by assumption) | omega))) rfl fun h2 o' F2 k2 ho' hd' => ?_
    exact h D _ _ h2 tk1 hp (H1.cell2 b ho hd F2 k2 ho' hd')
theorem p5 {Q : Flow → Shared → Prop} {DC : Addr} {wc : List Value} {n : Nat} (b : PB w B L) (R : Room A) (H : PR w B L nums p os (some (.ref DC)) v2 v3 rs m s) (hC : (DC, PySem.W.listOf (List.toArray wc) n) ∈ rs) (hc : IntsAre wc (codesOf nums)) (hl : nums.length ≤ 15)
    (h : ∀ DH wh n' h' tk, Paired whiR (codesOf nums) wh → PR w B L nums p os (some (.ref DC)) v2 (some (.ref DH)) ((DH, PySem.W.listOf (List.toArray wh) n') :: rs) m { s with heap := h', toks := tk } → Q .next { s with heap := h', toks := tk }) :
    wpAny (model PG w) A (exec (stL_ w 5) (lawEnv w L)) Q E s := by
  have hdep := R.d
  obtain ⟨o, ho, hd⟩ := H.c1
  refine wpAny_Assign_Name (comp_ints (fun _ => true) whiR R.h (cl := []) (by rfl) (by decide) rfl (by decide) rfl
    (nmC ho hd rfl ⟨DC, wc, codesOf nums, rfl, ⟨_, (H.N _ hC).1, rfl, _, rfl⟩, hc, by rw [codes_len]; omega, ?_, ?_, ?_⟩))
  · intro C i t s₃ m₃ E' _ _ _
    exact wpAny_pure ⟨rfl, _, _, rfl, fun _ _ e => e⟩
  · intro C i t s₃ m₃ E' hi _ F3 e3
    obtain ⟨c, rfl, hc⟩ := mem_codes hi
    obtain ⟨X3, mg, mb, T3⟩ := H.cx b
    refine Call_ (nmG F3 X3 T3 rfl (by k_is) (callFn1 (fnAt_of (X3.keeps F3.keep) (by k_is)) (nmL F3 e3 ⟨Ext.refl _, ?_⟩)))
    exact lawwhite_int (cxF F3 X3 T3) (by first | exact dn R.d rfl | exact dn R.u rfl | exact (Int.toNat_lt (by assumption)).mpr (by assumption) | omega) hc _ _ fun t h' tk k => ⟨rfl, keepsQ k⟩
  · intro D h1 tk1 ys n1 hD eD hp k
    rw [List.filter_eq_self.mpr (fun _ _ => rfl)] at hp
    have eD' : h1.get? D = some (PySem.W.listOf (List.toArray ys.toList) n1) := by simpa using eD
    have H1 := H.cons (tk := tk1) hD k eD'
    obtain ⟨o, ho, hd⟩ := H1.c3
    refine stC (s := { s with heap := h1, toks := tk1 }) (c := L + 1 + 1 + 1) H1.F ho hd (neAd (by first | exact dn R.d rfl | exact dn R.u rfl | exact (Int.toNat_lt (by assumption)).mpr (by assumption) | omega)) (above_none H1.F (ltAd (by first | exact dn R.d rfl | exact dn R.u rfl | exact (Int.toNat_lt (by assumption)).mpr (by assumption) | omega))) rfl fun h2 o' F2 k2 ho' hd' => ?_
    exact h D _ _ h2 tk1 hp (H1.cell3 b ho hd F2 k2 ho' hd')
end
end Mine
end
section
open PySem PySem.W PyProof.Rows PySem.Calls
set_option maxRecDepth 100000
namespace Mine
noncomputable def noI (I : Addr) (rs : List (Addr × Obj)) : List (Addr × Obj) := rs.filter fun q => decide (q.1 ≠ I)
theorem mem_noI {I : Addr} {rs : List (Addr × Obj)} {q : Addr × Obj} (h : q ∈ rs) (e : q.1 ≠ I) : q ∈ noI I rs := List.mem_filter.mpr ⟨h, decide_eq_true e⟩
theorem of_noI {I : Addr} {rs : List (Addr × Obj)} {q : Addr × Obj} (h : q ∈ noI I rs) : q ∈ rs ∧ q.1 ≠ I := ⟨(List.mem_filter.mp h).1, of_decide_eq_true (List.mem_filter.mp h).2⟩
/-- no iterator -/
noncomputable def NotIt (d : Data) : Prop := ∀ fs, d ≠ .fields fs
section
variable {w : World} {A : Around} {s : Shared} {E : Value → Shared → Prop} {B : Heap} {a : Ad} {nums : List Int} {p : Int} {os : OsState} {st : FS} {rs : List (Addr × Obj)} {m : Str → Option Value} {h' : Heap} {tk : Nat}
theorem offI {I x : Addr} {o : Obj} {h : Heap} {L : Addr} {fs : Array Value} {oI : Obj} (N : News B L h rs) (hI : h.get? I = some oI) (hf : oI.data = .fields fs) (hm : (x, o) ∈ rs) (hn : NotIt o.data) : (x, o) ∈ noI I rs := by
  refine mem_noI hm fun e => ?_
  have e1 := (N _ hm).1
  dsimp only at e e1
  rw [e, hI] at e1
  have := Option.some.inj e1
  exact hn fs (by rw [← this]; exact hf)
theorem nit_seq {ys : Array Value} {n : Nat} : NotIt (.seq ys n) := fun _ e => by cases e
theorem nit_cell {d : Data} {v : Option Value} (h : d = .cell v) : NotIt d := fun _ e => by rw [h] at e; cases e
theorem nit_dict {td : Tok} {p : Int} {tp : Tok} {n : Nat} : NotIt (sizeDict w td p tp n).data := fun _ e => by cases e
theorem LI.drop0 {I : Addr} {fs : Array Value} {oI : Obj} (bf : BF w B a) (H : LI w B a nums p os st rs m s) (hI : s.heap.get? I = some oI) (hf : oI.data = .fields fs) (hc : oI.cls = .type "range_iterator") (hLI : a.L < I) (hk : ∀ b o, b ∉ [I] → s.heap.get? b = some o → h'.get? b = some o) :
    LI w B a nums p os st (noI I rs) m { s with heap := h', toks := tk } := by
  have go : ∀ {x o}, (x, o) ∈ rs → NotIt o.data → (x, o) ∈ noI I rs := fun hm hn => offI H.N hI hf hm hn
  have hk' : ∀ b o, b ≠ I → s.heap.get? b = some o → h'.get? b = some o := fun b o hb e => hk b o (by simpa using hb) e
  have accI : ∀ {x d its n}, s.heap.get? x = some (accObj d its n) → x ≠ I := fun e q => by
    rw [q, hI] at e
    have := Option.some.inj e
    rw [this] at hf
    cases hf
  have goP : ∀ {its pr}, PC rs its pr → PC (noI I rs) its pr := fun h => ⟨h.1, fun j hj => let ⟨T, ta, tb, n, e, hm⟩ := h.2 j hj; ⟨T, ta, tb, n, e, go hm nit_seq⟩⟩
  obtain ⟨i1, n1, g1, r1⟩ := H.V.g1
  obtain ⟨i2, n2, g2, r2⟩ := H.V.g2
  obtain ⟨ps, t1⟩ := H.V.t1
  obtain ⟨qs, t2⟩ := H.V.t2
  refine ⟨LCg.fr_but H.F hk (Nat.ne_of_lt hLI) (above_none H.F hLI), fun q hq => ⟨hk' _ _ (of_noI hq).2 (H.N q (of_noI hq).1).1, (H.N q (of_noI hq).1).2⟩, fun q hq => H.S q (of_noI hq).1, ?_, H.n, ⟨⟨i1, n1, hk' _ _ (accI g1) g1, goP r1⟩, ⟨i2, n2, hk' _ _ (accI g2) g2, goP r2⟩, ⟨ps, hk' _ _ (Nat.ne_of_lt (Nat.lt_trans bf.l3 hLI)) t1.get, t1.st⟩, ⟨qs, hk' _ _ (Nat.ne_of_lt (Nat.lt_trans bf.l4 hLI)) t2.get, t2.st⟩⟩, H.q, H.b, H.g, H.o⟩
  exact { num := let ⟨x, n, m, r⟩ := H.T.num; ⟨x, n, go m nit_seq, r⟩
          cod := let ⟨x, n, m, r⟩ := H.T.cod; ⟨x, n, go m nit_seq, r⟩
          wor := let ⟨x, n, m, r⟩ := H.T.wor; ⟨x, n, go m nit_seq, r⟩
          pic := let ⟨x, n, m, r⟩ := H.T.pic; ⟨x, n, go m nit_seq, r⟩
          whi := let ⟨x, n, m, r⟩ := H.T.whi; ⟨x, n, go m nit_seq, r⟩
          c1 := let ⟨o, m, r⟩ := H.T.c1; ⟨o, go m (nit_cell r), r⟩
          c2 := let ⟨o, m, r⟩ := H.T.c2; ⟨o, go m (nit_cell r), r⟩
          c3 := let ⟨o, m, r⟩ := H.T.c3; ⟨o, go m (nit_cell r), r⟩
          d1 := let ⟨x, y, n, m⟩ := H.T.d1; ⟨x, y, n, go m nit_dict⟩
          d2 := let ⟨x, y, n, m⟩ := H.T.d2; ⟨x, y, n, go m nit_dict⟩ }
theorem LI.withI {I : Addr} {fs : Array Value} {oI : Obj} (H : LI w B a nums p os st rs m s) (hI : s.heap.get? I = some oI) (hc : oI.cls = .type "range_iterator") (hf : oI.data = .fields fs) (hLI : a.L < I) : LI w B a nums p os st ((I, oI) :: rs) m s :=
  H.more (fun q hq => List.mem_cons_of_mem _ hq) (newsCons ⟨hI, Ne.symm (Nat.ne_of_lt hLI), above_none H.F hLI⟩ H.N) (consS H.S ⟨fun dx its n e => (by rw [e] at hf; cases hf), fun ps e => (by rw [e] at hc; cases hc)⟩)
set_option maxHeartbeats 1000000
theorem law_loop {R' : Result → Shared → Prop} {I : Addr} {px : Pos} (bf : BF w B a) (R : Room A) (hl : nums.length ≤ 15) (hp : 0 ≤ p ∧ p < 1000) (H : LI w B a nums p os (fRun (codesOf nums) 0) rs m s) (hI : IsRangeIter s.heap I 0 nums.length 1) (hLI : a.L < I)
    (h : ∀ s' rs' m', LI w B a nums p os (fRun (codesOf nums) nums.length) rs' m' s' → R' (.ok .next) s') :
    codeAny (model PG w) A (.forLoop (.Name (Str.ofString "now") px) (.ref I) (loopBody w) [] (lawEnv w a.L)) R' s := by
  refine forL (Walks.range R.h I 0 1 nums.length) (fun i s' => ∃ rs' m', LI w B a nums p os (fRun (codesOf nums) i) rs' m' s') (by simpa using hI) ⟨_, _, H⟩ ?_ ?_
  · rintro i v s1 h₁ tk₁ hi ⟨t, rfl⟩ ⟨rs1, m1, H1⟩ hst hst' hk
    have H2 := (H1.drop0 (tk := tk₁) bf hst rfl rfl hLI hk).withI (I := I) hst' rfl rfl hLI
    refine stL (s := { s1 with heap := h₁, toks := tk₁ }) H2.F fun h2 F2 k2 => ?_
    have H3 := H2.set (tk := tk₁ + 1) bf (by unfold Free; decide) F2 k2
    have ei : (0 + (i : Int) * 1) = (i : Int) := by omega
    refine turnL (now := i) (t := t) bf R hl hi hp H3 ((if_pos rfl).trans (by rw [ei])) fun s3 rs3 m3 H4 hr => ?_
    exact ⟨(H4.N _ (hr _ (.head _))).1, _, _, H4⟩
  · rintro s1 h₁ tk₁ ⟨rs1, m1, H1⟩ hst hk
    exact h _ _ _ (H1.drop0 (tk := tk₁) bf hst rfl rfl hLI hk)
theorem law_for {Q : Flow → Shared → Prop} (bf : BF w B a) (R : Room A) (hl : nums.length ≤ 15) (hp : 0 ≤ p ∧ p < 1000) (H : LI w B a nums p os (fRun (codesOf nums) 0) rs m s)
    (h : ∀ s' rs' m', LI w B a nums p os (fRun (codesOf nums) nums.length) rs' m' s' → Q .next s') :
    wpAny (model PG w) A (exec (stL_ w 10) (lawEnv w a.L)) Q (fun _ _ => False) s := by
  obtain ⟨mg, mb, T⟩ := bf.C.T
  obtain ⟨wn, n, memn, hwn⟩ := H.T.num
  have hlen := hwn.length
  have hL0 : a.L < s.heap.objs.size := H.F.ns.lt
  refine wpAny_For (Call_ (nmB H.F bf.C.K T rfl rfl (by k_is) (by first | boot_by_name | rfl | kernel_rfl) (by decide) (PyProof.Rows.callWith_type1 (Calls.spliced_cons (Call_ (nmB H.F bf.C.K T rfl rfl (by k_is) (by first | boot_by_name | rfl | kernel_rfl) (by decide) (PyProof.Rows.callWith_builtin1 (Calls.spliced_cons (nmL H.F H.n.numbers (Calls.spliced_nil ?_)))))))))) 
  refine PyProof.Rows.len_list ⟨_, (H.N _ memn).1, rfl, _, rfl⟩ (by simp; omega) (Calls.spliced_nil ?_)
  refine call_range_1 ?_
  refine wpAny_pyIter_range (IsRange.new ..) (small_one (by omega) (by omega) (by simp <;> omega) (by simp; omega)) ?_
  rw [rangeSize_nat]
  have hnn : (((List.toArray wn).size : Int) - 0).toNat = nums.length := by simp; omega
  rw [hnn]
  refine law_loop (s := { s with heap := _, toks := _ }) bf R hl hp (H.ext (fun b o e => Heap.get?_push_of_some _ (Heap.get?_push_of_some _ e))) (Heap.get?_push_size _ rfl) ?_ fun s' rs' m' H' => h s' rs' m' H'
  rw [Heap.size_push]
  exact Nat.lt_succ_of_lt hL0
end
end Mine
end
section
open PySem PySem.W PyProof.Rows PySem.Calls
set_option maxRecDepth 100000
namespace Mine
section
variable {w : World} {A : Around} {s : Shared} {B : Heap} {L : Addr} {nums : List Int} {p : Int} {os : OsState} {v1 v2 v3 : Option Value} {rs : List (Addr × Obj)} {m : Str → Option Value} {h' : Heap} {tk : Nat}
theorem pc_nil {rs : List (Addr × Obj)} : PC rs #[] [] := ⟨rfl, fun _ hj => absurd hj (Nat.not_lt_zero _)⟩
set_option maxHeartbeats 2000000
theorem law_rest {Q : Flow → Shared → Prop} {DN : Addr} {wn : List Value} {n : Nat} (b : PB w B L) (R : Room A) (hp : 0 ≤ p ∧ p < 1000) (H : PR w B L nums p os none none none rs m s) (hm : m (Str.ofString "numbers") = some (.ref DN)) (hN : (DN, PySem.W.listOf (List.toArray wn) n) ∈ rs) (hn : IntsAre wn nums) (hl : nums.length ≤ 15)
    (h : ∀ s' a m' rs' st, LI w B a nums p os st rs' m' s' → Q (.ret (.bool true)) s') :
    wpAny (model PG w) A (exec (stL_ w 2) (lawEnv w L)) (fun f s' => match f with | .next => wpAny (model PG w) A (execs ((lawStmts (hd.heap_39 w.params)).drop 3) (lawEnv w L)) Q (fun _ _ => False) s' | f => Q f s') (fun _ _ => False) s := by
  have hdep := R.d
  obtain ⟨mg, mb, T⟩ := b.C.T
  refine p2 b R H hm hN hn hl fun DC wc n1 h1 tk1 hc H1 => ?_
  refine wpAny_execs_cons (p3 (s := { s with heap := h1, toks := tk1 }) b R H1 (.head _) hc hl fun DW ww n2 h2 tk2 hw H2 => ?_)
  refine wpAny_execs_cons (p4 (s := { s with heap := h2, toks := tk2 }) b R H2 (.tail _ (.head _)) hc hl fun DP wp n3 h3 tk3 hpi H3 => ?_)
  refine wpAny_execs_cons (p5 (s := { s with heap := h3, toks := tk3 }) b R H3 (.tail _ (.tail _ (.head _))) hc hl fun DH wh n4 h4 tk4 hwh H4 => ?_)
  have hm4 : (fun z => if z = Str.ofString "worths" then some (Value.ref DW) else m z) (Str.ofString "numbers") = some (.ref DN) := (if_neg (by decide)).trans hm
  have hw4 : (fun z => if z = Str.ofString "worths" then some (Value.ref DW) else m z) (Str.ofString "worths") = some (.ref DW) := if_pos rfl
  generalize (fun z => if z = Str.ofString "worths" then some (Value.ref DW) else m z) = m4 at H4 hm4 hw4
  clear H H1 H2 H3
  -- line
  refine wpAny_execs_cons (wpAny_Assign_Name (Call_ (nmG (s := { s with heap := h4, toks := tk4 }) H4.F b.C.K T rfl (by k_is) (callWith_K0 (H4.K b) (by k_is) (mk_acc0 (H4.cx b) (by first | exact dn R.d rfl | exact dn R.u rfl | exact (Int.toNat_lt (by assumption)).mpr (by assumption) | omega) fun x1 d1 h5 tk5 c5 td1 tp1 nd1 k5 hx1 hd1 hne1 e1 f1 => ?_)))))
  have H5 := H4.ext (tk := tk5) k5
  have nx1 := newOf H4.F hx1 e1
  have nd1' := newOf H4.F hd1 f1
  refine stL (s := { s with heap := h5, toks := tk5 }) H5.F fun h6 F6 k6 => ?_
  have H6 := PR.set (s := { s with heap := h5, toks := tk5 }) (tk := tk5 + 1) b H5 (by decide) F6 k6
  have e1' := k6 _ _ nx1.2.1 e1
  have f1' := k6 _ _ nd1'.2.1 f1
  have hm6 : (fun z => if z = Str.ofString "line" then some (Value.ref x1) else m4 z) (Str.ofString "numbers") = some (.ref DN) := (if_neg (by decide)).trans hm4
  have hw6 : (fun z => if z = Str.ofString "line" then some (Value.ref x1) else m4 z) (Str.ofString "worths") = some (.ref DW) := (if_neg (by decide)).trans hw4
  have hl6 : (fun z => if z = Str.ofString "line" then some (Value.ref x1) else m4 z) (Str.ofString "line") = some (.ref x1) := if_pos rfl
  generalize (fun z => if z = Str.ofString "line" then some (Value.ref x1) else m4 z) = m6 at H6 hm6 hw6 hl6
  clear H4 H5 e1 f1 F6 k6
  -- echo
  obtain ⟨tpr, hpr⟩ := H6.pr
  refine wpAny_execs_cons (wpAny_Assign_Name (Call_ (nmG (s := { s with heap := h6, toks := tk5 + 1 }) H6.F b.C.K T rfl (by k_is) (callWith_K (H6.K b) (by k_is) (Calls.spliced_cons (nmL H6.F hpr (Calls.spliced_nil ⟨H6.K b, mk_acc (H6.cx b) (by first | exact dn R.d rfl | exact dn R.u rfl | exact (Int.toNat_lt (by assumption)).mpr (by assumption) | omega) fun x2 d2 h7 tk7 c7 td2 nd2 k7 hx2 hd2 hne2 e2 f2 => ?_⟩)))))))
  have H7 := H6.ext (tk := tk7) k7
  have nx2 := newOf H6.F hx2 e2
  have nd2' := newOf H6.F hd2 f2
  have hx12 : x1 ≠ x2 := fun q => by rw [q, hx2] at e1'; cases e1'
  refine stL (s := { s with heap := h7, toks := tk7 }) H7.F fun h8 F8 k8 => ?_
  have H8 := PR.set (s := { s with heap := h7, toks := tk7 }) (tk := tk7 + 1) b H7 (by decide) F8 k8
  have e2' := k8 _ _ nx2.2.1 e2
  have f2' := k8 _ _ nd2'.2.1 f2
  have e1'' := k8 _ _ nx1.2.1 (k7 _ _ e1')
  have f1'' := k8 _ _ nd1'.2.1 (k7 _ _ f1')
  have hm8 : (fun z => if z = Str.ofString "echo" then some (Value.ref x2) else m6 z) (Str.ofString "numbers") = some (.ref DN) := (if_neg (by decide)).trans hm6
  have hw8 : (fun z => if z = Str.ofString "echo" then some (Value.ref x2) else m6 z) (Str.ofString "worths") = some (.ref DW) := (if_neg (by decide)).trans hw6
  have hl8 : (fun z => if z = Str.ofString "echo" then some (Value.ref x2) else m6 z) (Str.ofString "line") = some (.ref x1) := (if_neg (by decide)).trans hl6
  have he8 : (fun z => if z = Str.ofString "echo" then some (Value.ref x2) else m6 z) (Str.ofString "echo") = some (.ref x2) := if_pos rfl
  generalize (fun z => if z = Str.ofString "echo" then some (Value.ref x2) else m6 z) = m8 at H8 hm8 hw8 hl8 he8
  clear H6 H7 e1' f1' e2 f2 F8 k8
  -- quoted
  refine wpAny_execs_cons (wpAny_Assign_Name (wpAny_Constant_bool (stL (s := { s with heap := h8, toks := tk7 + 1 }) H8.F fun h9 F9 k9 => ?_)))
  have H9 := PR.set (s := { s with heap := h8, toks := tk7 + 1 }) (tk := tk7 + 1 + 1) b H8 (by decide) F9 k9
  have hm9 : (fun z => if z = Str.ofString "quoted" then some (Value.bool false) else m8 z) (Str.ofString "numbers") = some (.ref DN) := (if_neg (by decide)).trans hm8
  have hw9 : (fun z => if z = Str.ofString "quoted" then some (Value.bool false) else m8 z) (Str.ofString "worths") = some (.ref DW) := (if_neg (by decide)).trans hw8
  have hl9 : (fun z => if z = Str.ofString "quoted" then some (Value.bool false) else m8 z) (Str.ofString "line") = some (.ref x1) := (if_neg (by decide)).trans hl8
  have he9 : (fun z => if z = Str.ofString "quoted" then some (Value.bool false) else m8 z) (Str.ofString "echo") = some (.ref x2) := (if_neg (by decide)).trans he8
  have hq9 : (fun z => if z = Str.ofString "quoted" then some (Value.bool false) else m8 z) (Str.ofString "quoted") = some (.bool false) := if_pos rfl
  generalize (fun z => if z = Str.ofString "quoted" then some (Value.bool false) else m8 z) = m9 at H9 hm9 hw9 hl9 he9 hq9
  -- bells
  refine wpAny_execs_cons (wpAny_Assign_Name (wpAny_Constant_int (stL (s := { s with heap := h9, toks := tk7 + 1 + 1 + 1 }) H9.F fun h10 F10 k10 => ?_)))
  have H10 := PR.set (s := { s with heap := h9, toks := tk7 + 1 + 1 }) (tk := tk7 + 1 + 1 + 1 + 1) b H9 (by decide) F10 k10
  have g1 := k10 _ _ nx1.2.1 (k9 _ _ nx1.2.1 e1'')
  have g2 := k10 _ _ nx2.2.1 (k9 _ _ nx2.2.1 e2')
  have gd1 := k10 _ _ nd1'.2.1 (k9 _ _ nd1'.2.1 f1'')
  have gd2 := k10 _ _ nd2'.2.1 (k9 _ _ nd2'.2.1 f2')
  obtain ⟨o1, ho1, hdd1⟩ := H10.c1
  obtain ⟨o2, ho2, hdd2⟩ := H10.c2
  obtain ⟨o3, ho3, hdd3⟩ := H10.c3
  have bf : BF w B ⟨L, x1, x2, d1, d2, DN, DC, DW, DP, DH⟩ := ⟨b.C, b.b, nx1.2.2, nx2.2.2, b.n3, b.n4, nx1.2.1, nx2.2.1, b.l3, b.l4, hx12⟩
  have N : News B L h10 ((L + 1, o1) :: (L + 1 + 1, o2) :: (L + 1 + 1 + 1, o3) :: (d1, sizeDict w td1 0 tp1 nd1) :: (d2, sizeDict w td2 p tpr nd2) :: (DH, PySem.W.listOf (List.toArray wh) n4) :: (DP, PySem.W.listOf (List.toArray wp) n3) :: (DW, PySem.W.listOf (List.toArray ww) n2) :: (DC, PySem.W.listOf (List.toArray wc) n1) :: rs) :=
    newsCons ⟨ho1, neAd (by first | exact dn R.d rfl | exact dn R.u rfl | exact (Int.toNat_lt (by assumption)).mpr (by assumption) | omega), above_none H10.F (ltAd (by first | exact dn R.d rfl | exact dn R.u rfl | exact (Int.toNat_lt (by assumption)).mpr (by assumption) | omega))⟩ (newsCons ⟨ho2, neAd (by first | exact dn R.d rfl | exact dn R.u rfl | exact (Int.toNat_lt (by assumption)).mpr (by assumption) | omega), above_none H10.F (ltAd (by first | exact dn R.d rfl | exact dn R.u rfl | exact (Int.toNat_lt (by assumption)).mpr (by assumption) | omega))⟩ (newsCons ⟨ho3, neAd (by first | exact dn R.d rfl | exact dn R.u rfl | exact (Int.toNat_lt (by assumption)).mpr (by assumption) | omega), above_none H10.F (ltAd (by first | exact dn R.d rfl | exact dn R.u rfl | exact (Int.toNat_lt (by assumption)).mpr (by assumption) | omega))⟩ (newsCons ⟨gd1, nd1'.2.1, nd1'.2.2⟩ (newsCons ⟨gd2, nd2'.2.1, nd2'.2.2⟩ H10.N))))
  have S : ∀ q ∈ ((L + 1, o1) :: (L + 1 + 1, o2) :: (L + 1 + 1 + 1, o3) :: (d1, sizeDict w td1 0 tp1 nd1) :: (d2, sizeDict w td2 p tpr nd2) :: (DH, PySem.W.listOf (List.toArray wh) n4) :: (DP, PySem.W.listOf (List.toArray wp) n3) :: (DW, PySem.W.listOf (List.toArray ww) n2) :: (DC, PySem.W.listOf (List.toArray wc) n1) :: rs), Stat q.2 :=
    consS (consS (consS (consS (consS (fun q hq => by obtain ⟨ys, n, e⟩ := H10.S q hq; rw [e]; exact Stat.list) Stat.dict) Stat.dict) (Stat.cell hdd3)) (Stat.cell hdd2)) (Stat.cell hdd1)
  have hprm : ∃ t, (fun z => if z = Str.ofString "bells" then some (Value.int 0 (tk7 + 1 + 1)) else m9 z) (Str.ofString "prompt") = some (.int p t) := H10.pr
  have HL : LI w B ⟨L, x1, x2, d1, d2, DN, DC, DW, DP, DH⟩ nums p os (fRun (codesOf nums) 0) ((L + 1, o1) :: (L + 1 + 1, o2) :: (L + 1 + 1 + 1, o3) :: (d1, sizeDict w td1 0 tp1 nd1) :: (d2, sizeDict w td2 p tpr nd2) :: (DH, PySem.W.listOf (List.toArray wh) n4) :: (DP, PySem.W.listOf (List.toArray wp) n3) :: (DW, PySem.W.listOf (List.toArray ww) n2) :: (DC, PySem.W.listOf (List.toArray wc) n1) :: rs) (fun z => if z = Str.ofString "bells" then some (Value.int 0 (tk7 + 1 + 1)) else m9 z) { s with heap := h10, toks := tk7 + 1 + 1 + 1 + 1 } := by
    refine ⟨H10.F, N, S, ?_, ?_, ?_, (if_neg (by decide)).trans hq9, ⟨_, if_pos rfl⟩, H10.g, H10.o⟩
    · exact {
        num := ⟨wn, n, .tail _ (.tail _ (.tail _ (.tail _ (.tail _ (.tail _ (.tail _ (.tail _ (.tail _ hN)))))))), hn⟩
        cod := ⟨wc, n1, .tail _ (.tail _ (.tail _ (.tail _ (.tail _ (.tail _ (.tail _ (.tail _ (.head _)))))))), hc⟩
        wor := ⟨ww, n2, .tail _ (.tail _ (.tail _ (.tail _ (.tail _ (.tail _ (.tail _ (.head _))))))), hw⟩
        pic := ⟨wp, n3, .tail _ (.tail _ (.tail _ (.tail _ (.tail _ (.tail _ (.head _)))))), hpi⟩
        whi := ⟨wh, n4, .tail _ (.tail _ (.tail _ (.tail _ (.tail _ (.head _))))), hwh⟩
        c1 := ⟨o1, .head _, hdd1⟩
        c2 := ⟨o2, .tail _ (.head _), hdd2⟩
        c3 := ⟨o3, .tail _ (.tail _ (.head _)), hdd3⟩
        d1 := ⟨_, _, _, .tail _ (.tail _ (.tail _ (.head _)))⟩
        d2 := ⟨_, _, _, .tail _ (.tail _ (.tail _ (.tail _ (.head _))))⟩ }
    · exact ⟨(if_neg (by decide)).trans hm9, hprm, (if_neg (by decide)).trans hw9, (if_neg (by decide)).trans hl9, (if_neg (by decide)).trans he9⟩
    · exact ⟨⟨_, _, g1, pc_nil⟩, ⟨_, _, g2, pc_nil⟩, H10.t1, H10.t2⟩
  refine wpAny_execs_cons (law_for (a := ⟨L, x1, x2, d1, d2, DN, DC, DW, DP, DH⟩) (s := { s with heap := h10, toks := tk7 + 1 + 1 + 1 + 1 }) bf R hl hp HL fun s11 rs11 m11 H11 => ?_)
  refine wpAny_execs_cons (wpAny_Return_some (wpAny_Constant_bool ?_))
  exact h _ _ _ _ _ H11
end
end Mine
end
section
open PySem PySem.W PyProof.Rows PySem.Calls
set_option maxRecDepth 100000
namespace Mine
section
variable {w : World} {A : Around} {s : Shared}
set_option maxHeartbeats 2000000
theorem kwP5_1 : True := by (k_with_none; k_with "call builtin:sum" => (k_dflt (refine' sumN ?k1 ?k2 ?k3 ?k4 ?k5 ?_; (case k1 => k_asm); (case k2 => k_asm); (case k3 => assumption); (case k4 => is_list); (case k5 => assumption)); intro h' tk' t' F' N'; (try k_sweep))); exact True.intro
theorem kwP5_2 : True := by (k_with "eval ListComp" => refine Halt.go ?_); exact True.intro
theorem kwP5_3 : True := by (k_with "exec Assign cons ListComp" => refine Halt.go ?_); exact True.intro
theorem law_run {R : Result → Shared → Prop} {D : Addr} {vs : List Value} {ns : List Int} {ps qs : Array Value} (C : Cx w s.heap) (hb : Bm s.heap) (G : AllBare s.gens) (T1 : TabAt' s.heap 63 posLen ps) (T2 : TabAt' s.heap 70 posStr qs) (hD : s.heap.IsList D vs.toArray) (hv : IntsAre vs ns) (hl : ns.length ≤ 63) (hr : A.depth + 20 < recursionLimit) (hh : A.handled = none) (hu : A.units + 110 < cLine)
    (h : ∀ s' : Shared, (∀ b o, b ≠ 63 → b ≠ 70 → s.heap.get? b = some o → s'.heap.get? b = some o) → (∃ ps, TabAt' s'.heap 63 posLen ps) → (∃ qs, TabAt' s'.heap 70 posStr qs) → AllBare s'.gens → s'.os = s.os → R (.ok (.ret (.bool true))) s') :
    codeAny (model PG w) A (.call (.ref 201) ⟨[.ref D], []⟩) R s := by
  have ha := two_aside T1 T2
  have C' := C.hide ha
  have hb' := hb.hide ha
  have hD' : (hideAll s.heap [63, 70]).IsList D vs.toArray := by
    obtain ⟨o, ho, hc, n, hd⟩ := hD
    refine ⟨o, hideAll_get _ ho fun hm => ?_, hc, n, hd⟩
    simp only [List.mem_cons, List.not_mem_nil, or_false] at hm
    rcases hm with rfl | rfl
    · rw [T1.get] at ho; cases ho; cases hc
    · rw [T2.get] at ho; cases ho; cases hc
  obtain ⟨X₀, mg₀, mb₀, T₀⟩ := C
  refine call_cellsN_ret (name := Str.ofString "law") (cd := .ref 200) (binds := [(Str.ofString "script", .ref D)]) (by omega) (X₀ _ _ (by k_is)) rfl T₀.nolimit (codeRec_of X₀ (by k_is)) rfl (kinds_of ⟨.inl rfl, trivial⟩) (by decide) ?_
  intro h₁ tk cells F₀ N₀ Y
  clear X₀ T₀
  have F := hideF [63, 70] F₀
  have N : News (hideAll s.heap [63, 70]) s.heap.objs.size h₁ cells := fun q hq => ⟨(N₀ q hq).1, (N₀ q hq).2.1, by
    cases e : (hideAll s.heap [63, 70]).get? q.1 with
    | none => rfl
    | some o => have := of_hideAll _ e; rw [(N₀ q hq).2.2] at this; cases this⟩
  obtain ⟨o1, o2, o3, rfl, d1, d2, d3⟩ := CellsAre.three Y
  clear Y N₀
  have e1 : o1.data = .cell none := d1
  have e2 : o2.data = .cell none := d2
  have e3 : o3.data = .cell none := d3
  clear d1 d2 d3
  have U1 : TabAt' h₁ 63 posLen ps := ⟨F₀.keep _ _ T1.get, T1.st⟩
  have U2 : TabAt' h₁ 70 posStr qs := ⟨F₀.keep _ _ T2.get, T2.st⟩
  have hPL1 : 63 < s.heap.objs.size := Heap.lt_size T1.get
  have hPL2 : 70 < s.heap.objs.size := Heap.lt_size T2.get
  have hkeep : ∀ b o, b ≠ 63 → b ≠ 70 → s.heap.get? b = some o → (hideAll s.heap [63, 70]).get? b = some o := fun b o h1 h2 e => hideAll_get _ e (by simp [h1, h2])
  have hn3 : (hideAll s.heap [63, 70]).get? 63 = none := hideAll_none _ (.head _)
  have hn4 : (hideAll s.heap [63, 70]).get? 70 = none := hideAll_none _ (.tail _ (.head _))
  obtain ⟨X, mg, mb, T⟩ := C'
  have hLL : s.heap.objs.size < s.heap.objs.size + 1 + 1 + 1 := by omega
  clear F₀ T1 T2 hD ha
  have Nt : News (hideAll s.heap [63, 70]) s.heap.objs.size h₁ [(s.heap.objs.size + 1 + 1 + 1, o1), (s.heap.objs.size + 1 + 1, o2), (s.heap.objs.size + 1, o3), (63, tabObj ps), (70, tabObj qs)] := by
    intro q hq
    simp only [List.mem_cons, List.not_mem_nil, or_false] at hq
    rcases hq with rfl | rfl | rfl | rfl | rfl
    · exact N _ (by k_mem)
    · exact N _ (by k_mem)
    · exact N _ (by k_mem)
    · exact ⟨U1.get, Nat.ne_of_lt hPL1, hn3⟩
    · exact ⟨U2.get, Nat.ne_of_lt hPL2, hn4⟩
  have sps := U1.st
  have sqs := U2.st
  clear U1 U2 N
  generalize hideAll s.heap [63, 70] = BB at *
  generalize hL : s.heap.objs.size = L at *
  k_steps
  unfold Halt
  refine compN (B := BB) (L := L) (fun _ => true) (fun i y => ∃ t, y = .int (i.fmod 1000000000) t) hh rfl (by decide) rfl (by decide) rfl ?_
  k_steps
  refine Halt.mk ?_
  rename IntsAre _ (List.take 10 ns) => hi1
  rename Fr _ _ _ _ => F1
  rename News _ _ _ _ => N1
  refine ⟨_, _, _, _, _, rfl, News.isList N1 (by k_mem), hi1, by simp; omega, F1, N1, ?_, ?_, ?_⟩
  · intro C i t s₃ m₃ E' _ _ _
    exact wpAny_tests_nil ⟨rfl, _, _, rfl, fun _ _ e => e⟩
  · intro C i t s₃ m₃ E' _ _ F3 hm
    refine wpAny_BinOp (nmL F3 hm (wpAny_BinOp (wpAny_Constant_int (wpAny_Constant_int (pow_int_small (by decide) (by decide) (by decide) ?_)))))
    refine mod_int (by decide) ?_
    exact ⟨⟨_, rfl⟩, s₃.heap, _, rfl, fun _ _ e => e⟩
  intro D1 h2 tk2 ys n F2 N2 l2 hp
  rw [List.filter_eq_self.mpr (fun _ _ => rfl)] at hp
  have hi2 := ints_of_paired hp
  clear hp F1 N1
  k_steps
  rename IntsAre _ (List.map (fun i => i.fmod 1000000000) (List.take 10 ns) ++ [20, 24, 3, 1, 29]) => hnums
  rename Fr _ _ _ _ => Ff
  rename News _ _ _ _ => Nf
  unfold Halt
  have hp3 : 0 ≤ (List.take 60 ns).sum.fmod 3 ∧ (List.take 60 ns).sum.fmod 3 < 1000 := by
    rw [Int.fmod_eq_emod_of_nonneg _ (show (0 : Int) ≤ 3 by decide)]
    exact ⟨Int.emod_nonneg _ (by decide), Int.lt_trans (Int.emod_lt_of_pos _ (by decide)) (by decide)⟩
  have hnl : (numsOf ns).length ≤ 15 := by simp [numsOf]; exact Nat.min_le_left _ _
  have b : PB w BB L := ⟨⟨X, mg, mb, T⟩, hb', hn3, hn4, hPL1, hPL2⟩
  have N2 : News BB L _ [_] := fun q hq => Nf q (by rw [List.mem_singleton.mp hq]; exact .tail _ (.head _))
  refine law_rest (nums := numsOf ns) (p := (List.take 60 ns).sum.fmod 3) (os := s.os) (B := BB) (L := L) (rs := [_]) b ⟨hh, (by show A.depth + 1 + 8 < _; omega), (by show A.units + _ + 100 < _; omega)⟩ hp3 ⟨Ff, N2, ?_, ⟨o3, (Nf (L + 1, o3) (by k_mem)).1, e3⟩, ⟨o2, (Nf (L + 1 + 1, o2) (by k_mem)).1, e2⟩, ⟨o1, (Nf (L + 1 + 1 + 1, o1) (by k_mem)).1, e1⟩, ⟨_, rfl⟩, G, rfl, ⟨ps, (Nf (63, tabObj ps) (by k_mem)).1, sps⟩, ⟨qs, (Nf (70, tabObj qs) (by k_mem)).1, sqs⟩⟩ rfl (.head _) hnums hnl ?_
  · intro q hq
    rw [List.mem_singleton.mp hq]
    exact ⟨_, _, rfl⟩
  · intro s' a m' rs' st H'
    refine h s' (fun b o h1 h2 e => H'.F.keep _ _ (hkeep b o h1 h2 e)) H'.V.t1 H'.V.t2 H'.g H'.o
end
theorem kwP5_end : True := by k_with_none; exact True.intro
end Mine
end
section
open PySem PySem.W PyProof.Rows PySem.Calls
set_option maxRecDepth 100000
namespace Mine
theorem law_is {w : World} {mg mb : Str → Option Value} {h : Heap} {fa : Addr} (X : (hd.heap_39 w.params).In h) (T : TRd mg mb h) (e : mg (Str.ofString "law") = some (.ref fa)) : fa = 201 := by
  have e1 := mg_of X T.g (show nsIn (hd.heap_39 w.params) mainGlobals (Str.ofString "law") = some (some (.ref 201)) by k_is)
  rw [e] at e1
  cases e1
  rfl
theorem law_end {w : World} {mg mb : Str → Option Value} {s₁ : Shared} {l fa : Addr} {us : List Value} {ns : List Int} {R : Result → Shared → Prop} (X : (hd.heap_39 w.params).In s₁.heap) (tabs : ∀ P ∈ [(63 : Addr), 70], s₁.heap.get? P = some (tabObj #[])) (T : TRd mg mb s₁.heap)
    (bm : ∃ bm ob, mg "__builtins__" = some (.ref bm) ∧ bm ≠ builtinsNs ∧ s₁.heap.get? bm = some ob ∧ ob.cls = .type "module" ∧ ob.dict = some builtinsNs ∧ ob.data = .plain)
    (hfa : mg (Str.ofString "law") = some (.ref fa)) (hg : s₁.gens = #[]) (hL : s₁.heap.IsList l us.toArray) (hI : IntsAre us ns) (hn : ns.length ≤ 63)
    (h : ∀ s' : Shared, OldK s₁.heap s'.heap → s'.os = s₁.os → AllBare s'.gens → R (.ok (.ret (.bool true))) s') : codeAny (model PG w) callerA (.call (.ref fa) ⟨[.ref l], []⟩) R s₁ := by
  have := law_is X T hfa
  subst this
  have hb : Bm s₁.heap := by
    obtain ⟨bm, ob, e0, _, e1, e2, e3, e4⟩ := bm
    have e5 := mg_of X T.g (show nsIn (hd.heap_39 w.params) mainGlobals "__builtins__" = some (some (.ref 4)) by k_is)
    rw [e0] at e5
    cases e5
    exact ⟨ob, e1, e2, e3, e4⟩
  have t1 : s₁.heap.get? 63 = some (tabObj #[]) := tabs 63 (.head _)
  have t2 : s₁.heap.get? 70 = some (tabObj #[]) := tabs 70 (.tail _ (.head _))
  have c1 : isCodeTable s₁.heap 63 := ((codeHd_of_K (c := 67) (P := 63) X (code67 w)).tab t1).isCodeTable
  have c2 : isCodeTable s₁.heap 70 := ((codeHd_of_K (c := 74) (P := 70) X (code74 w)).tab t2).isCodeTable
  refine law_run (ps := #[]) (qs := #[]) ⟨X, mg, mb, T⟩ hb (by rw [hg]; exact AllBare.empty) ⟨t1, .inl rfl⟩ ⟨t2, .inl rfl⟩ hL hI hn (by decide) rfl (by decide) fun s' k ⟨ps, p1⟩ ⟨qs, p2⟩ G ho => ?_
  refine h s' ⟨fun b o e => ?_, fun b o e => ?_⟩ ho G
  · by_cases e1 : b = 63
    · subst e1
      rw [t1] at e
      cases e
      exact .inr (.inl ⟨c1, rfl, #[], ps, rfl, by rw [Array.empty_append]; exact p1.get⟩)
    · by_cases e2 : b = 70
      · subst e2
        rw [t2] at e
        cases e
        exact .inr (.inl ⟨c2, rfl, #[], qs, rfl, by rw [Array.empty_append]; exact p2.get⟩)
      · exact .inl (k b o e1 e2 e)
  · by_cases e1 : b = 63
    · subst e1; exact ⟨_, p1.get⟩
    · by_cases e2 : b = 70
      · subst e2; exact ⟨_, p2.get⟩
      · exact ⟨o, k b o e1 e2 e⟩
end Mine
end
open PySem PySem.W PyProof.Rows PySem.Calls Mine
set_option maxRecDepth 100000
set_option maxHeartbeats 8000000 in
theorem PySem.Challenge.cw_pg0068_01_holds : PySem.Challenge.rw_pg0068_01.Holds := by
  refine Mine.hd ?_
  intro w s₀ s₁ mg mb G Y fa o pm cd doc dV kV ho hd hcd hD hmg hg args vals as hpre hlay hrd hwl hlo
  have KX := km_in_of Y
  have KT := km_tabs_of Y
  have X := (Ground.X G).1
  have V := (Ground.X G).2
  refine Ground.open G ?_
  intro T B D TE TW
  try (refine guard_noD D (by decide +kernel) ?_; clear D)
  wrow_args hpre hlay hrd hwl hlo
  all_goals (first | refine callC_kw (enter_call ?_) | refine enter_call ?_)
  all_goals w_top on
  rename Top _ _ _ _ _ _ => T9
  rename Heap.IsList _ _ _ => L9
  rename IntsAre _ _ => I9
  refine law_end KX KT (topRead_of T9) T9.bmain hmg hg L9 I9 (by omega) fun s' hk ho hb => ⟨.inl ⟨_, .bool true, [], rfl, fun _ => rfl, ReadsW.bool true, ?_, fun _ => ⟨List.nodup_nil, fun _ hm => (nomatch hm)⟩⟩, hk, ho, hb⟩
  first | rfl | wrow_post
