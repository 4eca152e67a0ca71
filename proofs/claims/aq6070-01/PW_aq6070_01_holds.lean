import PyProof.Rows.All
import Wide.All
import OpenK.AllK
import Wide.FinOn
import PyProof.Rows.EqBoolInt
import PySem.Challenge.RW_aq6070_01
open PySem PySem.W PyProof.Rows
set_option Elab.async false
set_option maxRecDepth 100000
set_option maxHeartbeats 8000000
open_top hd for PySem.Challenge.rw_aq6070_01
namespace Mine
section

/-- the number of a key: 0 the octets 'a', 1 the empty octets, 2 one (or True), 3 the text 'a', 4 the octets 'first'; 9 any other value -/
def kcode : Value → Nat
  | .bytes b _ => if b.toList = [97] then 0 else if b.toList = [] then 1 else if b.toList = [102, 105, 114, 115, 116] then 4 else 9
  | .int i _ => if i = 1 then 2 else 9
  | .bool b => if b = true then 2 else 9
  | .str x _ => if x = Str.ofString "a" then 3 else 9
  | _ => 9
def kis (k : Nat) (v : Value) : Bool := decide (kcode v = k) && decide (k < 9)
def khash (w : World) (k : Nat) : Int :=
  if k = 0 then hashW w.params (.bytes [97]) else if k = 1 then hashW w.params (.bytes []) else if k = 4 then hashW w.params (.bytes [102, 105, 114, 115, 116])
  else if k = 2 then 1 else hashStr w (Str.ofString "a")

/-- the shapes of a key -/
inductive KShape : Nat → Value → Prop
  | a (t : Tok) : KShape 0 (.bytes #[97] t)
  | e (t : Tok) : KShape 1 (.bytes #[] t)
  | f (t : Tok) : KShape 4 (.bytes #[102, 105, 114, 115, 116] t)
  | i (t : Tok) : KShape 2 (.int 1 t)
  | b : KShape 2 (.bool true)
  | t (t : Tok) : KShape 3 (.str (Str.ofString "a") t)
theorem kshape {k : Nat} {v : Value} (h : kis k v = true) : KShape k v := by
  simp only [kis, Bool.and_eq_true, decide_eq_true_eq] at h
  obtain ⟨h1, h2⟩ := h
  cases v with
  | bytes b t =>
    obtain ⟨l⟩ := b
    simp only [kcode] at h1
    split at h1
    · rename_i e; subst e; subst h1; exact .a t
    · split at h1
      · rename_i e; subst e; subst h1; exact .e t
      · split at h1
        · rename_i e; subst e; subst h1; exact .f t
        · omega
  | int i t =>
    simp only [kcode] at h1
    split at h1
    · rename_i e; subst e; subst h1; exact .i t
    · omega
  | bool b =>
    simp only [kcode] at h1
    split at h1
    · rename_i e; subst e; subst h1; exact .b
    · omega
  | str x t =>
    simp only [kcode] at h1
    split at h1
    · rename_i e; subst e; subst h1; exact .t t
    · omega
  | _ => simp only [kcode] at h1; omega
theorem KShape.lt {k : Nat} {v : Value} (h : KShape k v) : k < 9 := by cases h <;> omega

section
variable {prog : Program} {w : World} {A : Around} {E : Value → Shared → Prop} {s : Shared}
theorem eqBool_of_cmp {u v : Value} {r : Bool} {Q : Bool → Shared → Prop} (hne : (u == v) = false) (hf : ∀ b t, u ≠ .float b t)
    (h : wpAny (model prog w) A (richCompare .Eq u v) (fun x s' => x = .bool r ∧ Q r s') E s) : wpAny (model prog w) A (eqBool u v) Q E s := by
  unfold eqBool
  refine wpAny_holding ?_
  rw [if_neg (by rw [hne]; exact Bool.false_ne_true)]
  have tail : wpAny (model prog w) A (richCompare .Eq u v >>= fun x => truthOfDropped x) Q E s := by
    refine wpAny_bind (wpAny_mono h (fun x s' hx => ?_) fun _ _ e => e)
    obtain ⟨rfl, hq⟩ := hx
    exact wpAny_truthy_bool hq
  cases u with
  | float b t => exact absurd rfl (hf b t)
  | _ => exact tail
theorem eqBool_same {u : Value} {Q : Bool → Shared → Prop} (h : Q true s) : wpAny (model prog w) A (eqBool u u) Q E s := by
  unfold eqBool
  refine wpAny_holding ?_
  rw [if_pos (by simp)]
  exact wpAny_bind (wpAny_rule (wpAny_pure h))
end

theorem sub_str_bytes : isSubtype (.type "str") (.type "bytes") = pure false := by rw [isSubtype_type]; kernel_rfl
theorem sub_int_bytes : isSubtype (.type "int") (.type "bytes") = pure false := by rw [isSubtype_type]; kernel_rfl
theorem sub_bool_bytes : isSubtype (.type "bool") (.type "bytes") = pure false := by rw [isSubtype_type]; kernel_rfl
theorem sub_bytes_str : isSubtype (.type "bytes") (.type "str") = pure false := by rw [isSubtype_type]; kernel_rfl
theorem sub_bytes_int : isSubtype (.type "bytes") (.type "int") = pure false := by rw [isSubtype_type]; kernel_rfl
theorem sub_bytes_bool : isSubtype (.type "bytes") (.type "bool") = pure false := by rw [isSubtype_type]; kernel_rfl
theorem g_bytes_str (a : Array UInt8) (t : Tok) (b : Str) (u : Tok) : Gives (Builtin.«bytes.__eq__» ⟨[.bytes a t, .str b u], []⟩) (.val Value.notImplemented) := by
  refine .of_wp fun M A E s Q hq => ?_
  show wpAny M A (isInstance (.str b u) (.type "bytes") >>= fun r => _) _ E s
  refine wpAny_bind (wpAny_isInstance (T := "str") (b := false) rfl sub_str_bytes ?_)
  show wpAny M A (rule _ >>= fun _ => ret Value.notImplemented) _ E s
  exact wpAny_bind (wpAny_rule (wpAny_pure ⟨_, rfl, hq⟩))
theorem g_bytes_int (a : Array UInt8) (t : Tok) (b : Int) (u : Tok) : Gives (Builtin.«bytes.__eq__» ⟨[.bytes a t, .int b u], []⟩) (.val Value.notImplemented) := by
  refine .of_wp fun M A E s Q hq => ?_
  show wpAny M A (isInstance (.int b u) (.type "bytes") >>= fun r => _) _ E s
  refine wpAny_bind (wpAny_isInstance (T := "int") (b := false) rfl sub_int_bytes ?_)
  show wpAny M A (rule _ >>= fun _ => ret Value.notImplemented) _ E s
  exact wpAny_bind (wpAny_rule (wpAny_pure ⟨_, rfl, hq⟩))
theorem g_bytes_bool (a : Array UInt8) (t : Tok) (b : Bool) : Gives (Builtin.«bytes.__eq__» ⟨[.bytes a t, .bool b], []⟩) (.val Value.notImplemented) := by
  refine .of_wp fun M A E s Q hq => ?_
  show wpAny M A (isInstance (.bool b) (.type "bytes") >>= fun r => _) _ E s
  refine wpAny_bind (wpAny_isInstance (T := "bool") (b := false) rfl sub_bool_bytes ?_)
  show wpAny M A (rule _ >>= fun _ => ret Value.notImplemented) _ E s
  exact wpAny_bind (wpAny_rule (wpAny_pure ⟨_, rfl, hq⟩))
theorem g_str_bytes (a : Str) (t : Tok) (b : Array UInt8) (u : Tok) : Gives (Builtin.«str.__eq__» ⟨[.str a t, .bytes b u], []⟩) (.val Value.notImplemented) :=
  .of_wp fun M A E s Q h => by obtain ⟨hp, g, d, tk, os⟩ := s; wp_walk; exact ⟨_, rfl, h⟩
theorem g_int_bytes (a : Int) (t : Tok) (b : Array UInt8) (u : Tok) : Gives (Builtin.«int.__eq__» ⟨[.int a t, .bytes b u], []⟩) (.val Value.notImplemented) :=
  .of_wp fun M A E s Q h => by obtain ⟨hp, g, d, tk, os⟩ := s; wp_walk; exact ⟨_, rfl, h⟩
theorem g_bool_bytes (a : Bool) (b : Array UInt8) (u : Tok) : Gives (Builtin.«int.__eq__» ⟨[.bool a, .bytes b u], []⟩) (.val Value.notImplemented) :=
  .of_wp fun M A E s Q h => by obtain ⟨hp, g, d, tk, os⟩ := s; wp_walk; exact ⟨_, rfl, h⟩
theorem slot_bytes_eq_refl : Slot "bytes" (cmpInfo .Eq).2.2 "bytes.__eq__" := FB.slot_bytes_eq
section
variable {prog : Program} {w : World} {A : Around} {E : Value → Shared → Prop} {s : Shared} {Q : Value → Shared → Prop}
theorem rc_bytes_str {a : Array UInt8} {t : Tok} {b : Str} {u : Tok} (h : Q (.bool false) s) : wpAny (model prog w) A (richCompare .Eq (.bytes a t) (.str b u)) Q E s :=
  EqNone.wpAny_richCompare_eq_decline (k := false) (fun _ => rfl) (fun _ => rfl) (by decide) sub_str_bytes FB.slot_bytes_eq F.slot_str_eq_refl rfl
    (call_gives FB.slot_bytes_eq rfl FB.entry_bytes_eq (FB.args_bytes_eq_2 _ _) (g_bytes_str a t b u)
      ⟨rfl, call_gives F.slot_str_eq_refl rfl F.entry_str_eq (F.args_str_eq_2 _ _) (g_str_bytes b u a t) ⟨rfl, h⟩⟩)
theorem rc_str_bytes {a : Str} {t : Tok} {b : Array UInt8} {u : Tok} (h : Q (.bool false) s) : wpAny (model prog w) A (richCompare .Eq (.str a t) (.bytes b u)) Q E s :=
  EqNone.wpAny_richCompare_eq_decline (k := false) (fun _ => rfl) (fun _ => rfl) (by decide) sub_bytes_str F.slot_str_eq slot_bytes_eq_refl rfl
    (call_gives F.slot_str_eq rfl F.entry_str_eq (F.args_str_eq_2 _ _) (g_str_bytes a t b u)
      ⟨rfl, call_gives slot_bytes_eq_refl rfl FB.entry_bytes_eq (FB.args_bytes_eq_2 _ _) (g_bytes_str b u a t) ⟨rfl, h⟩⟩)
theorem rc_bytes_int {a : Array UInt8} {t : Tok} {b : Int} {u : Tok} (h : Q (.bool false) s) : wpAny (model prog w) A (richCompare .Eq (.bytes a t) (.int b u)) Q E s :=
  EqNone.wpAny_richCompare_eq_decline (k := false) (fun _ => rfl) (fun _ => rfl) (by decide) sub_int_bytes FB.slot_bytes_eq F.slot_int_eq_refl rfl
    (call_gives FB.slot_bytes_eq rfl FB.entry_bytes_eq (FB.args_bytes_eq_2 _ _) (g_bytes_int a t b u)
      ⟨rfl, call_gives F.slot_int_eq_refl rfl F.entry_int_eq (F.args_int_eq_2 _ _) (g_int_bytes b u a t) ⟨rfl, h⟩⟩)
theorem rc_int_bytes {a : Int} {t : Tok} {b : Array UInt8} {u : Tok} (h : Q (.bool false) s) : wpAny (model prog w) A (richCompare .Eq (.int a t) (.bytes b u)) Q E s :=
  EqNone.wpAny_richCompare_eq_decline (k := false) (fun _ => rfl) (fun _ => rfl) (by decide) sub_bytes_int F.slot_int_eq slot_bytes_eq_refl rfl
    (call_gives F.slot_int_eq rfl F.entry_int_eq (F.args_int_eq_2 _ _) (g_int_bytes a t b u)
      ⟨rfl, call_gives slot_bytes_eq_refl rfl FB.entry_bytes_eq (FB.args_bytes_eq_2 _ _) (g_bytes_int b u a t) ⟨rfl, h⟩⟩)
theorem rc_bytes_bool {a : Array UInt8} {t : Tok} {b : Bool} (h : Q (.bool false) s) : wpAny (model prog w) A (richCompare .Eq (.bytes a t) (.bool b)) Q E s :=
  EqNone.wpAny_richCompare_eq_decline (k := false) (fun _ => rfl) (fun _ => rfl) (by decide) sub_bool_bytes FB.slot_bytes_eq F.slot_bool_eq_refl rfl
    (call_gives FB.slot_bytes_eq rfl FB.entry_bytes_eq (FB.args_bytes_eq_2 _ _) (g_bytes_bool a t b)
      ⟨rfl, call_gives F.slot_bool_eq_refl rfl F.entry_int_eq (F.args_int_eq_2 _ _) (g_bool_bytes b a t) ⟨rfl, h⟩⟩)
theorem rc_bool_bytes {a : Bool} {b : Array UInt8} {u : Tok} (h : Q (.bool false) s) : wpAny (model prog w) A (richCompare .Eq (.bool a) (.bytes b u)) Q E s :=
  EqNone.wpAny_richCompare_eq_decline (k := false) (fun _ => rfl) (fun _ => rfl) (by decide) sub_bytes_bool F.slot_bool_eq slot_bytes_eq_refl rfl
    (call_gives F.slot_bool_eq rfl F.entry_int_eq (F.args_int_eq_2 _ _) (g_bool_bytes a b u)
      ⟨rfl, call_gives slot_bytes_eq_refl rfl FB.entry_bytes_eq (FB.args_bytes_eq_2 _ _) (g_bytes_bool b u a) ⟨rfl, h⟩⟩)
end
section
variable {prog : Program} {w : World} {A : Around} {E : Value → Shared → Prop} {s : Shared}
theorem keq_rc {a b : Nat} {u v : Value} {Q : Bool → Shared → Prop} (hu : KShape a u) (hv : KShape b v) (h : Q (decide (a = b)) s) : wpAny (model prog w) A (eqBool u v) Q E s := by
  have F : ∀ {x y : Value}, x ≠ y → (x == y) = false := fun h => beq_eq_false_iff_ne.mpr h
  cases hu with
  | a t | e t | f t =>
    cases hv with
    | a u | e u | f u => exact eqBool_bytes h
    | i u => exact eqBool_of_cmp (F fun e => nomatch e) (fun _ _ e => nomatch e) (rc_bytes_int ⟨rfl, h⟩)
    | b => exact eqBool_of_cmp (F fun e => nomatch e) (fun _ _ e => nomatch e) (rc_bytes_bool ⟨rfl, h⟩)
    | t u => exact eqBool_of_cmp (F fun e => nomatch e) (fun _ _ e => nomatch e) (rc_bytes_str ⟨rfl, h⟩)
  | i t =>
    cases hv with
    | a u | e u | f u => exact eqBool_of_cmp (F fun e => nomatch e) (fun _ _ e => nomatch e) (rc_int_bytes ⟨rfl, h⟩)
    | i u => exact wpAny_eqBool_int h
    | b => exact eqBool_of_cmp (F fun e => nomatch e) (fun _ _ e => nomatch e) (EqBoolInt.eq_int_bool ⟨rfl, h⟩)
    | t u => exact eqBool_of_cmp (F fun e => nomatch e) (fun _ _ e => nomatch e) (EqMixed.eq_int_str ⟨rfl, h⟩)
  | b =>
    cases hv with
    | a u | e u | f u => exact eqBool_of_cmp (F fun e => nomatch e) (fun _ _ e => nomatch e) (rc_bool_bytes ⟨rfl, h⟩)
    | i u => exact eqBool_of_cmp (F fun e => nomatch e) (fun _ _ e => nomatch e) (EqBoolInt.eq_bool_int ⟨rfl, h⟩)
    | b => exact eqBool_same h
    | t u => exact eqBool_of_cmp (F fun e => nomatch e) (fun _ _ e => nomatch e) (EqMixed.eq_bool_str ⟨rfl, h⟩)
  | t t =>
    cases hv with
    | a u | e u | f u => exact eqBool_of_cmp (F fun e => nomatch e) (fun _ _ e => nomatch e) (rc_str_bytes ⟨rfl, h⟩)
    | i u => exact eqBool_of_cmp (F fun e => nomatch e) (fun _ _ e => nomatch e) (EqMixed.eq_str_int ⟨rfl, h⟩)
    | b => exact eqBool_of_cmp (F fun e => nomatch e) (fun _ _ e => nomatch e) (EqMixed.eq_str_bool ⟨rfl, h⟩)
    | t u => exact wpAny_eqBool_str h
theorem khash_one : hashInt 1 = 1 := by decide
theorem bool_hash {v : Value} {Q : Int → Shared → Prop} (hv : v = .bool true) (h : Q 1 { s with toks := s.toks + 1 }) : wpAny (model prog w) A (pyHash v) Q E s := by
  subst hv
  refine pyHash_slot (T := "bool") rfl F.slot_bool_hash entry_int_hash (args_int_hash _) (beq_builtin_none _) (.inl rfl) ?_
  exact (show wpAny _ _ (do ret (← mkInt 1)) _ _ s from wpAny_bind (wpAny_mkInt (wpAny_pure ⟨_, _, rfl, h⟩)))
end
def mkind (prog : Program) (w : World) : KeyKind prog w Nat where
  is := kis
  hash := khash w
  inj v a b ha hb := by
    simp only [kis, Bool.and_eq_true, decide_eq_true_eq] at ha hb
    exact ha.1.symm.trans hb.1
  byValue k v h := by cases kshape h <;> rfl
  pyHash := fun {A E s k v Q} hv h => by
    cases kshape hv with
    | a t => exact (bytesKind prog w).pyHash (k := [97]) (bytesKind_is prog w [97] t) h
    | e t => exact (bytesKind prog w).pyHash (k := []) (bytesKind_is prog w [] t) h
    | f t => exact (bytesKind prog w).pyHash (k := [102, 105, 114, 115, 116]) (bytesKind_is prog w [102, 105, 114, 115, 116] t) h
    | i t => exact wpAny_pyHash_int (by rw [khash_one]; exact h)
    | b => exact bool_hash rfl h
    | t t => exact wpAny_pyHash_str h
  eqBool := fun hu hv h => keq_rc (kshape hu) (kshape hv) h
  «strs» k x t v h := by
    cases kshape h
    cases v with
    | str y u =>
      by_cases hy : y = Str.ofString "a"
      · subst hy; simp [kis, kcode, Value.isStr]
      · have : (y == Str.ofString "a") = false := beq_eq_false_iff_ne.mpr hy
        simp [kis, kcode, Value.isStr, hy]
    | bytes b u =>
      simp only [kis, kcode, Value.isStr]
      split <;> first | rfl | (split <;> first | rfl | (split <;> rfl))
    | int i u => simp only [kis, kcode, Value.isStr]; split <;> rfl
    | bool b => cases b <;> rfl
    | _ => rfl
end
end Mine
namespace Mine
section
abbrev prog : Program := PySem.Challenge.rw_aq6070_01.prog
local macro_rules | `(tactic| k_room) => `(tactic| ((simp only [depth_under_make, depth_under_kw, depth_in1, depth_deeper, depth_caller, recursionLimit] at *); omega))
local macro_rules | `(tactic| k_mem) => `(tactic| assumption)
theorem kpart {k : Nat} {key : Value} (h : kis k key = true) : (keyPart key).isSome = true := by cases kshape h <;> rfl
/-- a value of the pool: None, 0, the empty text, or an object of the class Persistent -/
inductive PV (news : List (Addr × Obj)) : Value → Prop
  | none : PV news .none
  | int (t : Tok) : PV news (.int 0 t)
  | str (t : Tok) : PV news (.str (Str.ofString "") t)
  | obj (q dq : Addr) (es : List DictEntry) (n : Nat) : (q, instObj 343 dq) ∈ news → (dq, dictOf es n) ∈ news → PV news (.ref q)
theorem is_self_no {M : Model} {A : Around} {E : Value → Shared → Prop} {s : Shared} {Q : Value → Shared → Prop} {h₀ : Heap} {L x dx : Addr} {news : List (Addr × Obj)} {v : Value} (hp : PV news v) (hx : (x, instObj 109 dx) ∈ news) (N : News h₀ L s.heap news)
    (h : Q (.bool false) s) : wpAny M A (compareOp .Is v (.ref x)) Q E s := by
  cases hp with
  | none => exact wpAny_is_plain (by rfl) h
  | int t => exact wpAny_is_plain (by rfl) h
  | str t => exact wpAny_is_plain (by rfl) h
  | obj q dq es n h1 _ =>
    have e1 := (N _ h1).1
    have e2 := (N _ hx).1
    refine wpAny_is_ref_other (fun e => ?_) e1 e2 (fun e => nomatch e) h
    subst e
    rw [e1] at e2
    have e3 := congrArg Obj.cls (Option.some.inj e2)
    injection e3 with e3
    exact absurd e3 (by decide)
section
variable {w : World} {A A₀ : Around} {s : Shared} {base h₀ : Heap} {L : Addr} {m mg mb : Str → Option Value} {news : List (Addr × Obj)} {p : Program} {loose : List Str} {mean : ExcName → Option Value} {env : Env} {outer : List Env} {R : Result → Shared → Prop} {oid obj key v : Value}
  {x dx d : Addr} {o : Obj} {hs : Int} {tk : Tok} {kvs : List (Nat × Value)} {k : Nat} {g : Obj → List (Addr × Obj)}

theorem from_addr_ok {self : Value}
    (B : Below A₀ base outer h₀) (F : Fr h₀ L s.heap m) (X : (hd.heap_39 w.params).In h₀) (N : News h₀ L s.heap news) (T : Top p loose mean mg mb h₀) (hA : A.frames = some (env :: outer)) (hf : env.frame = some L) (hke : env.scope.kind = .function)
    (hdep : A.depth + 5 < 1000)

    (h : ∀ h' tk, Fr h₀ L h' m → News h₀ L h' news → R (.ok (.ret obj)) { s with heap := h', toks := tk }) :
    codeAny (model prog w) A (.call (.ref 49) ⟨[self, obj], []⟩) R s := by
  revert X; unfold prog; k_fill; intro X
  refine' code_def B F X N T hA hf hke ?k6 ?k7 ?k8 ?k9 ?kB ?_ ?c2 ?c3 ?c4 ?c5
  case k6 => k_is
  case k7 => k_is
  case k8 => k_room
  case k9 => exact BindsTo.of_eq rfl
  case kB => exact locs rfl
  case c2 => exact rfl
  case c3 => exact rfl
  case c4 => exact rfl
  case c5 => decide
  intro g' L' h' FG' F' N' B' X' T'
  try dsimp only
  k_steps
  exact h _ _ (by assumption) (by assumption)

theorem save_addr_ok {self : Value}
    (B : Below A₀ base outer h₀) (F : Fr h₀ L s.heap m) (X : (hd.heap_39 w.params).In h₀) (N : News h₀ L s.heap news) (T : Top p loose mean mg mb h₀) (hA : A.frames = some (env :: outer)) (hf : env.frame = some L) (hke : env.scope.kind = .function)
    (hdep : A.depth + 5 < 1000)

    (h : ∀ h' tk, Fr h₀ L h' m → News h₀ L h' news → R (.ok (.ret obj)) { s with heap := h', toks := tk }) :
    codeAny (model prog w) A (.call (.ref 56) ⟨[self, oid, obj], []⟩) R s := by
  revert X; unfold prog; k_fill; intro X
  refine' code_def B F X N T hA hf hke ?k6 ?k7 ?k8 ?k9 ?kB ?_ ?c2 ?c3 ?c4 ?c5
  case k6 => k_is
  case k7 => k_is
  case k8 => k_room
  case k9 => exact BindsTo.of_eq rfl
  case kB => exact locs rfl
  case c2 => exact rfl
  case c3 => exact rfl
  case c4 => exact rfl
  case c5 => decide
  intro g' L' h' FG' F' N' B' X' T'
  try dsimp only
  k_steps
  exact h _ _ (by assumption) (by assumption)

theorem contains_ok 
    (B : Below A₀ base outer h₀) (F : Fr h₀ L s.heap m) (X : (hd.heap_39 w.params).In h₀) (N : News h₀ L s.heap news) (T : Top p loose mean mg mb h₀) (hA : A.frames = some (env :: outer)) (hf : env.frame = some L) (hke : env.scope.kind = .function)
    (hdep : A.depth + 5 < 1000)
    (hx : (x, instObj 109 dx) ∈ news) (hdx : (dx, dictOf [⟨hs, .str (Str.ofString "_data") tk, .ref d⟩] 1) ∈ news)    (hdo : (d, o) ∈ news) (hD : o.IsDictOf (mkind prog w) kvs) (hk : kis k key = true) (lo : (d == sysModules) = false)
    (h : ∀ h' tk, Fr h₀ L h' m → News h₀ L h' news → R (.ok (.ret (.bool (valueAt kvs k).isSome))) { s with heap := h', toks := tk }) :
    codeAny (model prog w) A (.call (.ref 63) ⟨[.ref x, key], []⟩) R s := by
  revert X; unfold prog; k_fill; intro X
  refine' code_def B F X N T hA hf hke ?k6 ?k7 ?k8 ?k9 ?kB ?_ ?c2 ?c3 ?c4 ?c5
  case k6 => k_is
  case k7 => k_is
  case k8 => k_room
  case k9 => exact BindsTo.of_eq rfl
  case kB => exact locs rfl
  case c2 => exact rfl
  case c3 => exact rfl
  case c4 => exact rfl
  case c5 => decide
  intro g' L' h' FG' F' N' B' X' T'
  try dsimp only
  k_steps
  refine kda_in (knd := mkind _ _) (by k_asm) hdo hD lo hk _ rfl ?_
  dsimp only
  k_steps
  exact h _ _ (by assumption) (by assumption)

theorem len_ok 
    (B : Below A₀ base outer h₀) (F : Fr h₀ L s.heap m) (X : (hd.heap_39 w.params).In h₀) (N : News h₀ L s.heap news) (T : Top p loose mean mg mb h₀) (hA : A.frames = some (env :: outer)) (hf : env.frame = some L) (hke : env.scope.kind = .function)
    (hdep : A.depth + 5 < 1000)
    (hx : (x, instObj 109 dx) ∈ news) (hdx : (dx, dictOf [⟨hs, .str (Str.ofString "_data") tk, .ref d⟩] 1) ∈ news)    (hdo : (d, o) ∈ news) (hD : o.IsDictOf (mkind prog w) kvs) (lo : (d == sysModules) = false) (hl : kvs.length ≤ 16777216)
    (h : ∀ h' tk t, Fr h₀ L h' m → News h₀ L h' news → R (.ok (.ret (.int kvs.length t))) { s with heap := h', toks := tk }) :
    codeAny (model prog w) A (.call (.ref 70) ⟨[.ref x], []⟩) R s := by
  revert X; unfold prog; k_fill; intro X
  refine' code_def B F X N T hA hf hke ?k6 ?k7 ?k8 ?k9 ?kB ?_ ?c2 ?c3 ?c4 ?c5
  case k6 => k_is
  case k7 => k_is
  case k8 => k_room
  case k9 => exact BindsTo.of_eq rfl
  case kB => exact locs rfl
  case c2 => exact rfl
  case c3 => exact rfl
  case c4 => exact rfl
  case c5 => decide
  intro g' L' h' FG' F' N' B' X' T'
  try dsimp only
  k_steps
  refine kda_len (knd := mkind _ _) (by k_asm) hdo hD lo hl ?_
  dsimp only
  k_steps
  exact h _ _ _ (by assumption) (by assumption)

theorem setitem_ok 
    (B : Below A₀ base outer h₀) (F : Fr h₀ L s.heap m) (X : (hd.heap_39 w.params).In h₀) (N : News h₀ L s.heap news) (T : Top p loose mean mg mb h₀) (hA : A.frames = some (env :: outer)) (hf : env.frame = some L) (hke : env.scope.kind = .function)
    (hdep : A.depth + 10 < 1000)
    (hx : (x, instObj 109 dx) ∈ news) (hdx : (dx, dictOf [⟨hs, .str (Str.ofString "_data") tk, .ref d⟩] 1) ∈ news)    (U : UpdF d o news g) (hD : o.IsDictOf (mkind prog w) kvs) (hk : kis k key = true) (hl : kvs.length ≤ sizeLine)
    (h : ∀ h' tk o', Fr h₀ L h' m → News h₀ L h' (g o') → o'.IsDictOf (mkind prog w) (stored kvs k v) → R (.ok (.ret .none)) { s with heap := h', toks := tk }) :
    codeAny (model prog w) A (.call (.ref 77) ⟨[.ref x, key, v], []⟩) R s := by
  revert X; unfold prog; k_fill; intro X
  refine' code_def B F X N T hA hf hke ?k6 ?k7 ?k8 ?k9 ?kB ?_ ?c2 ?c3 ?c4 ?c5
  case k6 => k_is
  case k7 => k_is
  case k8 => k_room
  case k9 => exact BindsTo.of_eq rfl
  case kB => exact locs rfl
  case c2 => exact rfl
  case c3 => exact rfl
  case c4 => exact rfl
  case c5 => decide
  intro g' L' h' FG' F' N' B' X' T'
  try dsimp only
  k_steps
  refine wpAny_call (save_addr_ok B' (by assumption) X' (by assumption) T' (Around.frames_deeper B'.stack) rfl rfl (by k_room) fun h'' tk'' F'' N'' => ?_)
  dsimp only
  k_steps
  refine kda_set (knd := mkind _ _) (by k_asm) (by k_asm) U hD hk hl fun h3 o3 F3 N3 hd3 => ?_
  dsimp only
  k_steps
  exact h _ _ _ (by assumption) (by assumption) (by assumption)

theorem getitem_ok 
    (B : Below A₀ base outer h₀) (F : Fr h₀ L s.heap m) (X : (hd.heap_39 w.params).In h₀) (N : News h₀ L s.heap news) (T : Top p loose mean mg mb h₀) (hA : A.frames = some (env :: outer)) (hf : env.frame = some L) (hke : env.scope.kind = .function)
    (hdep : A.depth + 10 < 1000)
    (hx : (x, instObj 109 dx) ∈ news) (hdx : (dx, dictOf [⟨hs, .str (Str.ofString "_data") tk, .ref d⟩] 1) ∈ news)    (hdo : (d, o) ∈ news) (hD : o.IsDictOf (mkind prog w) kvs) (hk : kis k key = true) (hv : valueAt kvs k = some v)
    (h : ∀ h' tk, Fr h₀ L h' m → News h₀ L h' news → R (.ok (.ret v)) { s with heap := h', toks := tk }) :
    codeAny (model prog w) A (.call (.ref 106) ⟨[.ref x, key], []⟩) R s := by
  revert X; unfold prog; k_fill; intro X
  refine' code_def B F X N T hA hf hke ?k6 ?k7 ?k8 ?k9 ?kB ?_ ?c2 ?c3 ?c4 ?c5
  case k6 => k_is
  case k7 => k_is
  case k8 => k_room
  case k9 => exact BindsTo.of_eq rfl
  case kB => exact locs rfl
  case c2 => exact rfl
  case c3 => exact rfl
  case c4 => exact rfl
  case c5 => decide
  intro g' L' h' FG' F' N' B' X' T'
  try dsimp only
  k_steps
  refine kda_item (knd := mkind _ _) (by k_asm) hdo hD hk hv ?_
  dsimp only
  k_steps
  refine wpAny_call (from_addr_ok B' (by assumption) X' (by assumption) T' (Around.frames_deeper B'.stack) rfl rfl (by k_room) fun h'' tk'' F'' N'' => ?_)
  dsimp only
  k_steps
  exact h _ _ (by assumption) (by assumption)

theorem pop_ok 
    (B : Below A₀ base outer h₀) (F : Fr h₀ L s.heap m) (X : (hd.heap_39 w.params).In h₀) (N : News h₀ L s.heap news) (T : Top p loose mean mg mb h₀) (hA : A.frames = some (env :: outer)) (hf : env.frame = some L) (hke : env.scope.kind = .function)
    (hdep : A.depth + 10 < 1000)
    (hx : (x, instObj 109 dx) ∈ news) (hdx : (dx, dictOf [⟨hs, .str (Str.ofString "_data") tk, .ref d⟩] 1) ∈ news)    (hdo : (d, o) ∈ news) (U : UpdF d o news g) (hD : o.IsDictOf (mkind prog w) kvs) (hk : kis k key = true) (hv : valueAt kvs k = some v) (hl : kvs.length ≤ sizeLine)
    (h : ∀ h' tk o', Fr h₀ L h' m → News h₀ L h' (g o') → o'.IsDictOf (mkind prog w) (without kvs k) → R (.ok (.ret v)) { s with heap := h', toks := tk }) :
    codeAny (model prog w) A (.call (.ref 84) ⟨[.ref x, key], []⟩) R s := by
  revert X; unfold prog; k_fill; intro X
  refine' code_def B F X N T hA hf hke ?k6 ?k7 ?k8 ?k9 ?kB ?_ ?c2 ?c3 ?c4 ?c5
  case k6 => k_is
  case k7 => k_is
  case k8 => k_room
  case k9 => exact BindsTo.of_eq rfl
  case kB => exact locs rfl
  case c2 => exact rfl
  case c3 => exact rfl
  case c4 => exact rfl
  case c5 => decide
  intro g' L' h' FG' F' N' B' X' T'
  try dsimp only
  k_steps
  refine kob_method (knd := mkind _ _) PySem.F.slot_dict_pop PySem.F.type_dict_pop (by k_asm) hdo hD ?_
  k_steps
  refine kob_pop (knd := mkind _ _) (more := []) (by k_asm) (by k_asm) U hD hk (.inl rfl) (kpart hk) (PySem.F.args_dict_pop_2 _ _) hv hl fun h3 o3 F3 N3 hd3 => ?_
  dsimp only
  k_steps
  refine wpAny_call (from_addr_ok B' (by assumption) X' (by assumption) T' (Around.frames_deeper B'.stack) rfl rfl (by k_room) fun h'' tk'' F'' N'' => ?_)
  dsimp only
  k_steps
  exact h _ _ _ (by assumption) (by assumption) (by assumption)

theorem get1_ok 
    (B : Below A₀ base outer h₀) (F : Fr h₀ L s.heap m) (X : (hd.heap_39 w.params).In h₀) (N : News h₀ L s.heap news) (T : Top p loose mean mg mb h₀) (hA : A.frames = some (env :: outer)) (hf : env.frame = some L) (hke : env.scope.kind = .function)
    (hdep : A.depth + 10 < 1000)
    (hx : (x, instObj 109 dx) ∈ news) (hdx : (dx, dictOf [⟨hs, .str (Str.ofString "_data") tk, .ref d⟩] 1) ∈ news)    (hdo : (d, o) ∈ news) (hD : o.IsDictOf (mkind prog w) kvs) (hk : kis k key = true) (lo : (d == sysModules) = false) (hv : valueAt kvs k = some v) (hp : PV news v)
    (h : ∀ h' tk, Fr h₀ L h' m → News h₀ L h' news → R (.ok (.ret v)) { s with heap := h', toks := tk }) :
    codeAny (model prog w) A (.call (.ref 99) ⟨[.ref x, key], []⟩) R s := by
  revert X; unfold prog; k_fill; intro X
  refine' code_def B F X N T hA hf hke ?k6 ?k7 ?k8 ?k9 ?kB ?_ ?c2 ?c3 ?c4 ?c5
  case k6 => k_is
  case k7 => k_is
  case k8 => k_room
  case k9 => first | exact BindsTo.of_eq rfl | exact binds_K (by k_in) rfl (by k_is) rfl rfl rfl
  case kB => exact locs rfl
  case c2 => exact rfl
  case c3 => exact rfl
  case c4 => exact rfl
  case c5 => decide
  intro g' L' h' FG' F' N' B' X' T'
  try dsimp only
  k_steps
  refine kob_method (knd := mkind _ _) PySem.F.slot_dict_get PySem.F.type_dict_get (by k_asm) hdo hD ?_
  k_steps
  refine call_meetsIn PySem.F.slot_dict_get (kda_dict (by k_asm) hdo hD).typeIs PySem.F.entry_dict_get (PySem.F.args_dict_get_3 _ _ _) (meets_dict_get_default (mkind _ _) _ hk lo _) ⟨_, (kda_dict (by k_asm) hdo hD).mapOf, ?_⟩
  rw [hv]
  dsimp only [Option.getD_some, Option.getD_none]
  k_steps
  refine is_self_no hp hx (by k_asm) ?_
  k_steps
  refine wpAny_call (from_addr_ok B' (by assumption) X' (by assumption) T' (Around.frames_deeper B'.stack) rfl rfl (by k_room) fun h'' tk'' F'' N'' => ?_)
  dsimp only
  k_steps
  exact h _ _ (by assumption) (by assumption)

theorem get1_none 
    (B : Below A₀ base outer h₀) (F : Fr h₀ L s.heap m) (X : (hd.heap_39 w.params).In h₀) (N : News h₀ L s.heap news) (T : Top p loose mean mg mb h₀) (hA : A.frames = some (env :: outer)) (hf : env.frame = some L) (hke : env.scope.kind = .function)
    (hdep : A.depth + 10 < 1000)
    (hx : (x, instObj 109 dx) ∈ news) (hdx : (dx, dictOf [⟨hs, .str (Str.ofString "_data") tk, .ref d⟩] 1) ∈ news)    (hdo : (d, o) ∈ news) (hD : o.IsDictOf (mkind prog w) kvs) (hk : kis k key = true) (lo : (d == sysModules) = false) (hv : valueAt kvs k = none)
    (h : ∀ h' tk, Fr h₀ L h' m → News h₀ L h' news → R (.ok (.ret .none)) { s with heap := h', toks := tk }) :
    codeAny (model prog w) A (.call (.ref 99) ⟨[.ref x, key], []⟩) R s := by
  revert X; unfold prog; k_fill; intro X
  refine' code_def B F X N T hA hf hke ?k6 ?k7 ?k8 ?k9 ?kB ?_ ?c2 ?c3 ?c4 ?c5
  case k6 => k_is
  case k7 => k_is
  case k8 => k_room
  case k9 => first | exact BindsTo.of_eq rfl | exact binds_K (by k_in) rfl (by k_is) rfl rfl rfl
  case kB => exact locs rfl
  case c2 => exact rfl
  case c3 => exact rfl
  case c4 => exact rfl
  case c5 => decide
  intro g' L' h' FG' F' N' B' X' T'
  try dsimp only
  k_steps
  refine kob_method (knd := mkind _ _) PySem.F.slot_dict_get PySem.F.type_dict_get (by k_asm) hdo hD ?_
  k_steps
  refine call_meetsIn PySem.F.slot_dict_get (kda_dict (by k_asm) hdo hD).typeIs PySem.F.entry_dict_get (PySem.F.args_dict_get_3 _ _ _) (meets_dict_get_default (mkind _ _) _ hk lo _) ⟨_, (kda_dict (by k_asm) hdo hD).mapOf, ?_⟩
  rw [hv]
  dsimp only [Option.getD_some, Option.getD_none]
  k_steps
  exact h _ _ (by assumption) (by assumption)

theorem get2_ok 
    (B : Below A₀ base outer h₀) (F : Fr h₀ L s.heap m) (X : (hd.heap_39 w.params).In h₀) (N : News h₀ L s.heap news) (T : Top p loose mean mg mb h₀) (hA : A.frames = some (env :: outer)) (hf : env.frame = some L) (hke : env.scope.kind = .function)
    (hdep : A.depth + 10 < 1000)
    (hx : (x, instObj 109 dx) ∈ news) (hdx : (dx, dictOf [⟨hs, .str (Str.ofString "_data") tk, .ref d⟩] 1) ∈ news)    (hdo : (d, o) ∈ news) (hD : o.IsDictOf (mkind prog w) kvs) (hk : kis k key = true) (lo : (d == sysModules) = false) (hv : valueAt kvs k = some v) (hp : PV news v)
    (h : ∀ h' tk, Fr h₀ L h' m → News h₀ L h' news → R (.ok (.ret v)) { s with heap := h', toks := tk }) :
    codeAny (model prog w) A (.call (.ref 99) ⟨[.ref x, key, oid], []⟩) R s := by
  revert X; unfold prog; k_fill; intro X
  refine' code_def B F X N T hA hf hke ?k6 ?k7 ?k8 ?k9 ?kB ?_ ?c2 ?c3 ?c4 ?c5
  case k6 => k_is
  case k7 => k_is
  case k8 => k_room
  case k9 => first | exact BindsTo.of_eq rfl | exact binds_K (by k_in) rfl (by k_is) rfl rfl rfl
  case kB => exact locs rfl
  case c2 => exact rfl
  case c3 => exact rfl
  case c4 => exact rfl
  case c5 => decide
  intro g' L' h' FG' F' N' B' X' T'
  try dsimp only
  k_steps
  refine kob_method (knd := mkind _ _) PySem.F.slot_dict_get PySem.F.type_dict_get (by k_asm) hdo hD ?_
  k_steps
  refine call_meetsIn PySem.F.slot_dict_get (kda_dict (by k_asm) hdo hD).typeIs PySem.F.entry_dict_get (PySem.F.args_dict_get_3 _ _ _) (meets_dict_get_default (mkind _ _) _ hk lo _) ⟨_, (kda_dict (by k_asm) hdo hD).mapOf, ?_⟩
  rw [hv]
  dsimp only [Option.getD_some, Option.getD_none]
  k_steps
  refine is_self_no hp hx (by k_asm) ?_
  k_steps
  refine wpAny_call (from_addr_ok B' (by assumption) X' (by assumption) T' (Around.frames_deeper B'.stack) rfl rfl (by k_room) fun h'' tk'' F'' N'' => ?_)
  dsimp only
  k_steps
  exact h _ _ (by assumption) (by assumption)

theorem get2_none 
    (B : Below A₀ base outer h₀) (F : Fr h₀ L s.heap m) (X : (hd.heap_39 w.params).In h₀) (N : News h₀ L s.heap news) (T : Top p loose mean mg mb h₀) (hA : A.frames = some (env :: outer)) (hf : env.frame = some L) (hke : env.scope.kind = .function)
    (hdep : A.depth + 10 < 1000)
    (hx : (x, instObj 109 dx) ∈ news) (hdx : (dx, dictOf [⟨hs, .str (Str.ofString "_data") tk, .ref d⟩] 1) ∈ news)    (hdo : (d, o) ∈ news) (hD : o.IsDictOf (mkind prog w) kvs) (hk : kis k key = true) (lo : (d == sysModules) = false) (hv : valueAt kvs k = none)
    (h : ∀ h' tk, Fr h₀ L h' m → News h₀ L h' news → R (.ok (.ret oid)) { s with heap := h', toks := tk }) :
    codeAny (model prog w) A (.call (.ref 99) ⟨[.ref x, key, oid], []⟩) R s := by
  revert X; unfold prog; k_fill; intro X
  refine' code_def B F X N T hA hf hke ?k6 ?k7 ?k8 ?k9 ?kB ?_ ?c2 ?c3 ?c4 ?c5
  case k6 => k_is
  case k7 => k_is
  case k8 => k_room
  case k9 => first | exact BindsTo.of_eq rfl | exact binds_K (by k_in) rfl (by k_is) rfl rfl rfl
  case kB => exact locs rfl
  case c2 => exact rfl
  case c3 => exact rfl
  case c4 => exact rfl
  case c5 => decide
  intro g' L' h' FG' F' N' B' X' T'
  try dsimp only
  k_steps
  refine kob_method (knd := mkind _ _) PySem.F.slot_dict_get PySem.F.type_dict_get (by k_asm) hdo hD ?_
  k_steps
  refine call_meetsIn PySem.F.slot_dict_get (kda_dict (by k_asm) hdo hD).typeIs PySem.F.entry_dict_get (PySem.F.args_dict_get_3 _ _ _) (meets_dict_get_default (mkind _ _) _ hk lo _) ⟨_, (kda_dict (by k_asm) hdo hD).mapOf, ?_⟩
  rw [hv]
  dsimp only [Option.getD_some, Option.getD_none]
  k_steps
  exact h _ _ (by assumption) (by assumption)

end
end
end Mine
namespace Mine
section
local macro_rules | `(tactic| k_room) => `(tactic| ((simp only [depth_under_make, depth_under_kw, depth_in1, depth_deeper, depth_caller, recursionLimit] at *); omega))
local macro_rules | `(tactic| k_mem) => `(tactic| assumption)

section
variable {A₀ A : Around} {M : Model} {E : Value → Shared → Prop} {s' : Shared} {base g g₂ h : Heap} {outer : List Env} {L a e : Addr} {m : Str → Option Value} {env : Env} {Q : Unit → Shared → Prop} {news : List (Addr × Obj)}
theorem mem_frames {b : Addr} (hf : env.frame = some L) (hm : b ∈ (env :: outer).filterMap (·.frame)) : b = L ∨ b ∈ outer.filterMap (·.frame) := by
  obtain ⟨en, he, hf'⟩ := List.mem_filterMap.mp hm
  rcases List.mem_cons.mp he with rfl | he
  · exact .inl (Option.some.inj (hf'.symm.trans hf))
  · exact .inr (List.mem_filterMap.mpr ⟨en, he, hf'⟩)
theorem leave_onAny {cls : Value} (hf : env.frame = some L) (K : Below A base outer g) (F : Fr g L g₂ m) (R : RaisedSN base g₂ (env :: outer) e cls news s'.heap) (hsm : g₂.UpToSlots s'.heap)
    (hQ : ∀ h', RaisedSN base g outer e cls news h' → g.UpToSlots h' → Q () { s' with heap := h' }) :
    wpAny M (A.deeper env) (leaving env (.ref e)) Q E s' := by
  obtain ⟨B, a0, hB, hBG, hl, hfl⟩ := R
  exact wpAny_leaves_onW (Around.frames_deeper K.stack) hf hfl fun h' x1 x2 =>
    have R : RaisedSN base g outer e cls news h' := ⟨B, a0, hB, fun b o q nm => hBG b o (F.keep b o q) (fun hm => by
      rcases mem_frames hf hm with z | z
      · rw [z, kts_self F] at q
        cases q
      · exact nm z), fun q hq => ⟨(hl q hq).1, kts_none F.keep (hl q hq).2.1, (hl q hq).2.2⟩, x1⟩
    hQ h' R ((Heap.UpToSlots.of_keeps F.keep).trans (hsm.trans x2))
end
section
variable {prog : Program} {w : World} {A₀ A : Around} {s : Shared} {base h₀ g₀ : Heap} {outer : List Env} {L a : Addr} {m : Str → Option Value} {env : Env} {news : List (Addr × Obj)} {K : Frag} {p : Program} {loose : List Str} {mean : ExcName → Option Value} {mg mb : Str → Option Value}
    {R : Result → Shared → Prop} {name qual : Str} {params : Arguments} {body : List Stmt} {scope : Scope} {dV kV doc pm cdv ct oc : Value} {an od : Option Addr} {osl : Array (Option Value)} {f : Addr} {args : Args} {binds : List (Str × Value)}
theorem enter_any (B : Below A₀ base outer h₀) (F : Fr h₀ L s.heap m) (N : News h₀ L s.heap news) (hA : A.frames = some (env :: outer)) (hf : env.frame = some L) (hke : env.scope.kind = .function) :
    ∃ oL es ep, (hideAll s.heap (news.map (·.1))).get? L = some oL ∧ oL.data = .dict es ep ∧ (∀ h', h'.get? L = some oL → Heap.Ns h' L m) ∧ (∀ (sl : Array (Option Value)) h', h'.get? L = some { oL with slots := sl } → Heap.Ns h' L m) ∧
      h₀.StaysIn (hideAll s.heap (news.map (·.1))) ∧ Below A base (env :: outer) (hideAll s.heap (news.map (·.1))) := by
  have nm : ∀ b o, h₀.get? b = some o → b ∉ news.map (·.1) := fun b o e q => by
    obtain ⟨p, hp, rfl⟩ := List.mem_map.mp q
    rw [(N p hp).2.2] at e; cases e
  have st : h₀.StaysIn (hideAll s.heap (news.map (·.1))) := fun b o e => hideAll_get _ (F.keep b o e) (nm b o e)
  obtain ⟨oL, es, ep, hL, hLd, hLk, hLf⟩ := F.ns
  have nL : L ∉ news.map (·.1) := fun q => by
    obtain ⟨p, hp, e⟩ := List.mem_map.mp q
    exact (N p hp).2.1 e
  have hLg := hideAll_get (news.map (·.1)) hL nL
  have B₁ := pushX (env := env) B F hf hke
  exact ⟨oL, es, ep, hLg, hLd, fun h' e => ⟨oL, es, ep, e, hLd, hLk, hLf⟩, fun sl h' e => ⟨_, es, ep, e, hLd, hLk, hLf⟩, st, ⟨hA, fun b o e => st b o (B.stays b o e), funFrames_hideAll B₁.frames fun en he b hb hf' => by
    cases he with
    | head => exact nL ((Option.some.inj (hf.symm.trans hf') : L = b) ▸ hb)
    | tail _ he =>
      obtain ⟨L₁, o₁, hf₁, ho₁⟩ := funFrames_in B.frames en he
      rw [hf₁] at hf'
      exact nm L₁ o₁ ho₁ ((Option.some.inj hf' : L₁ = b) ▸ hb)⟩⟩
theorem code_try (B : Below A₀ base [] h₀) (F : Fr h₀ L s.heap m) (X₀ : K.In h₀) (N : News h₀ L s.heap news) (T : Top p loose mean mg mb h₀) (hA : A.frames = some [env]) (hf : env.frame = some L) (hke : env.scope.kind = .function)
    (ho : K.lookup f = some ⟨oc, od, .func (fnOf name qual params body scope dV kV doc pm an cdv ct), osl⟩) (hcd : codeIn K cdv qual = true) (hroom : A.depth < recursionLimit)
    (hbind : BindsTo s (fnOf name qual params body scope dV kV doc pm an cdv ct) args binds) (hloc : ∀ y ∈ binds, scope.names.lookup y.1 = some .local)
    (h : ∀ g L' h₁, Fr h₀ L g m → Fr g L' h₁ (fun y => binds.reverse.lookup y) → News g L' h₁ news → Below A base [env] g → K.In g → Top p loose mean mg mb g → KtsDicts ([env].filterMap (·.frame)) g →
      wpAny (model prog w) (A.deeper (envOf qual scope L' f cdv)) (execs body (envOf qual scope L' f cdv))
        (fun fl s' => LeaveS0 ([env].filterMap (·.frame)) h₀ L m g R (match fl with | .ret v => v | _ => .none) s')
        (fun e s' => wpAny (model prog w) (A.deeper (envOf qual scope L' f cdv)) (leaving (envOf qual scope L' f cdv) e) (fun _ s'' => R (.error e) s'') (fun e' s'' => R (.error e') s'') s')
        { s with heap := h₁, toks := s.toks + binds.length })
    (hco : scope.isCoroutine = false) (hgen : scope.isGenerator = false) (hk : scope.kind = .function)
    (hcell : ∀ x ∈ scope.names, x.2 ≠ .cell) : codeAny (model prog w) A (.call (.ref f) args) R s := by
  have X := X₀.keeps F.keep
  refine codeAny_call_def (fd := fnOf name qual params body scope dV kV doc pm an cdv ct) (body := body) (binds := binds) hroom (X _ _ ho) rfl (T.nolimit.keeps F.keep) (codeRec_of X hcd) rfl hbind hcell hloc (fun h₁ hns hk₁ => ?_) hco hgen hk
  obtain ⟨oL, es, ep, hLg, hLd, hN, hNs, st, B₂⟩ := enter_any B F N hA hf hke
  refine wpAny_mono (h _ s.heap.objs.size h₁ ⟨hN _ hLg, st, F.above⟩ ⟨hns, fun b o e => hk₁ b o (of_hideAll _ e), Nat.le_of_eq (hideAll_size _ _)⟩
    (fun p hp => ⟨hk₁ _ _ (N p hp).1, Nat.ne_of_lt (Heap.lt_size (N p hp).1), hideAll_none _ (List.mem_map_of_mem hp)⟩) B₂ (X₀.keeps st) (T.keeps st) (fun b hb => by
      rcases mem_frames hf hb with rfl | z
      · exact ⟨oL, es, ep, hLg, hLd⟩
      · simp at z)) (fun fl s' hl => ?_) fun _ _ y => y
  obtain ⟨g', L', m', news', T', F', N', k⟩ := hl
  have nL₀ : h₀.get? L = none := kts_self F
  obtain ⟨sl, hs⟩ := T'.up hLg
  refine k ⟨hNs sl _ (F'.keep _ _ hs), fun b o e => F'.keep b o (T'.other b o (st b o e) (fun q => by
    rcases mem_frames hf q with z | z
    · rw [z, nL₀] at e
      cases e
    · simp at z)), F.above⟩ fun p hp => ⟨(N' p hp).1, fun q => ?_, ?_⟩
  · have := (N' p hp).2.2; rw [q, hs] at this; cases this
  · cases q : h₀.get? p.1 with
    | none => rfl
    | some o =>
      obtain ⟨sl', hs'⟩ := T'.up (st _ _ q)
      have := (N' p hp).2.2
      rw [hs'] at this
      cases this
end

section
variable {prog : Program} {w : World} {K : Type} [DecidableEq K] {knd : KeyKind prog w K} {A : Around} {E : Value → Shared → Prop} {s : Shared} {h₀ : Heap} {L d : Addr} {news : List (Addr × Obj)} {o : Obj} {kvs : List (K × Value)} {k : K} {key : Value}
theorem item_none {value slice : PySem.Expr} {Q : Value → Shared → Prop} (N : News h₀ L s.heap news) (hp : (d, o) ∈ news) (hd : o.IsDictOf knd kvs) (hkey : knd.is k key = true) (lo : (d == sysModules) = false) (hh : A.handled = none) (hl : valueAt kvs k = none)
    (h : ∀ h' e, Heap.NewExc s.heap h' e "KeyError" → E (.ref e) { s with heap := h', toks := s.toks + 1 })
    (hs : subscripted slice false (.ref d) key = operate [.ref d, key] (getItem (.ref d) key) := by with_unfolding_all rfl) (hg : ∀ r, letTemporaryGo value (.ref d) r = pure () := by intro _; with_unfolding_all rfl) :
    wpAny (model prog w) A (subscriptTail value slice (.ref d) key) Q E s :=
  have hD := kda_dict N hp hd
  subscriptTail_builtin hD.typeIs slot_dict_getitem.lookup (wpAny_getItem_missing_of hkey lo hh hD.mapOf hl h) hs hg
theorem pop_none' {Q : Value → Shared → Prop} (N : News h₀ L s.heap news) (hp : (d, o) ∈ news) (hd : o.IsDictOf knd kvs) (hkey : knd.is k key = true) (hpart : (keyPart key).isSome = true) (lo : (d == sysModules) = false) (hh : A.handled = none) (hl : valueAt kvs k = none)
    (h : ∀ h' e, Heap.NewExc s.heap h' e "KeyError" → E (.ref e) { s with heap := h', toks := s.toks + 1 }) : wpAny (model prog w) A (call (.builtin "dict.pop") [.ref d, key]) Q E s :=
  have hD := kda_dict N hp hd
  call_meetsIn PySem.F.slot_dict_pop hD.typeIs PySem.F.entry_dict_pop (PySem.F.args_dict_pop_2 _ _) (meets_dict_pop_missing knd _ hkey lo hpart) ⟨hh, kvs, hD, hl, h⟩
end

section
variable {w : World} {A A₀ : Around} {s : Shared} {base h₀ : Heap} {L : Addr} {m mg mb : Str → Option Value} {news : List (Addr × Obj)} {p : Program} {loose : List Str} {mean : ExcName → Option Value} {env : Env} {outer : List Env} {R : Result → Shared → Prop} {oid obj key v : Value}
  {x dx d : Addr} {o : Obj} {hs : Int} {tk : Tok} {kvs : List (Nat × Value)} {k : Nat} {g : Obj → List (Addr × Obj)}

theorem getitem_none 
    (B : Below A₀ base outer h₀) (F : Fr h₀ L s.heap m) (X : (hd.heap_39 w.params).In h₀) (N : News h₀ L s.heap news) (T : Top p loose mean mg mb h₀) (hA : A.frames = some (env :: outer)) (hf : env.frame = some L) (hke : env.scope.kind = .function)
    (hdep : A.depth + 10 < 1000)
    (hx : (x, instObj 109 dx) ∈ news) (hdx : (dx, dictOf [⟨hs, .str (Str.ofString "_data") tk, .ref d⟩] 1) ∈ news)    (hdo : (d, o) ∈ news) (hD : o.IsDictOf (mkind prog w) kvs) (hk : kis k key = true) (lo : (d == sysModules) = false) (hh : A.handled = none) (hv : valueAt kvs k = none)
    (h : ∀ gz h' tk e, Fr h₀ L gz m → RaisedSN base gz (env :: outer) e (.type "KeyError") news h' → gz.UpToSlots h' → R (.error (.ref e)) { s with heap := h', toks := tk }) :
    codeAny (model prog w) A (.call (.ref 106) ⟨[.ref x, key], []⟩) R s := by
  revert X; unfold prog; k_fill; intro X
  refine' code_def B F X N T hA hf hke ?k6 ?k7 ?k8 ?k9 ?kB ?_ ?c2 ?c3 ?c4 ?c5
  case k6 => k_is
  case k7 => k_is
  case k8 => k_room
  case k9 => exact BindsTo.of_eq rfl
  case kB => exact locs rfl
  case c2 => exact rfl
  case c3 => exact rfl
  case c4 => exact rfl
  case c5 => decide
  intro g' L' h' FG' F' N' B' X' T'
  try dsimp only
  k_steps
  refine item_none (knd := mkind _ _) (by k_asm) hdo hD hk lo hh hv fun h3 e3 hx3 => ?_
  exact leave_newS B' hx3 (by assumption) (by assumption) fun h4 R1 R2 U1 => h _ _ _ _ FG' R1 U1

theorem pop_none 
    (B : Below A₀ base outer h₀) (F : Fr h₀ L s.heap m) (X : (hd.heap_39 w.params).In h₀) (N : News h₀ L s.heap news) (T : Top p loose mean mg mb h₀) (hA : A.frames = some (env :: outer)) (hf : env.frame = some L) (hke : env.scope.kind = .function)
    (hdep : A.depth + 10 < 1000)
    (hx : (x, instObj 109 dx) ∈ news) (hdx : (dx, dictOf [⟨hs, .str (Str.ofString "_data") tk, .ref d⟩] 1) ∈ news)    (hdo : (d, o) ∈ news) (hD : o.IsDictOf (mkind prog w) kvs) (hk : kis k key = true) (lo : (d == sysModules) = false) (hh : A.handled = none) (hv : valueAt kvs k = none)
    (h : ∀ gz h' tk e, Fr h₀ L gz m → RaisedSN base gz (env :: outer) e (.type "KeyError") news h' → gz.UpToSlots h' → R (.error (.ref e)) { s with heap := h', toks := tk }) :
    codeAny (model prog w) A (.call (.ref 84) ⟨[.ref x, key], []⟩) R s := by
  revert X; unfold prog; k_fill; intro X
  refine' code_def B F X N T hA hf hke ?k6 ?k7 ?k8 ?k9 ?kB ?_ ?c2 ?c3 ?c4 ?c5
  case k6 => k_is
  case k7 => k_is
  case k8 => k_room
  case k9 => exact BindsTo.of_eq rfl
  case kB => exact locs rfl
  case c2 => exact rfl
  case c3 => exact rfl
  case c4 => exact rfl
  case c5 => decide
  intro g' L' h' FG' F' N' B' X' T'
  try dsimp only
  k_steps
  refine kob_method (knd := mkind _ _) PySem.F.slot_dict_pop PySem.F.type_dict_pop (by k_asm) hdo hD ?_
  k_steps
  refine pop_none' (knd := mkind _ _) (by k_asm) hdo hD hk (kpart hk) lo hh hv fun h3 e3 hx3 => ?_
  exact leave_newS B' hx3 (by assumption) (by assumption) fun h4 R1 R2 U1 => h _ _ _ _ FG' R1 U1

end
end
end Mine
namespace Mine
section
local macro_rules | `(tactic| k_room) => `(tactic| ((simp only [depth_under_make, depth_under_kw, depth_in1, depth_deeper, depth_caller, recursionLimit] at *); omega))
local macro_rules | `(tactic| k_mem) => `(tactic| assumption)
local macro_rules | `(tactic| walk_at "eval Name") => `(tactic| (k_here; k_dflt (refine' nameX_F ?N ?c ?m ?d ?_ ?a ?b; (case a => rfl); (case b => rfl); (case N => k_asm); (case c => rfl); (case m => k_mem); (case d => k_asm); k_whole)))

theorem sub_KeyError : isSubtype (.type "KeyError") (.type "KeyError") = pure true := by rw [isSubtype_type]; kernel_rfl
abbrev lamScope : Scope := { kind := .function, names := [(Str.ofString "kept", .free), (Str.ofString "key", .free)], isGenerator := false, isCoroutine := false, more := [] }
abbrev lamParams : Arguments := { posonlyargs := [], args := [], vararg := none, kwonlyargs := [], kw_defaults := [], kwarg := none, defaults := [] }
section
variable {w : World} {A A₀ : Around} {s : Shared} {base h₀ : Heap} {L : Addr} {m mg mb : Str → Option Value} {news : List (Addr × Obj)} {p : Program} {loose : List Str} {mean : ExcName → Option Value} {env : Env} {outer : List Env} {R : Result → Shared → Prop} {oid obj key v : Value}
  {x dx d : Addr} {o : Obj} {hs : Int} {tk : Tok} {kvs : List (Nat × Value)} {k : Nat} {g : Obj → List (Addr × Obj)} {p1 p2 p3 p4 : Pos} {fa c' ck cy : Addr} {qual : Str} {pm ctv : Value} {oc okc oky : Obj} {cvs : Array Value} {ct : Tok}

theorem told_item_ok
    (B : Below A₀ h₀ [] h₀) (F : Fr h₀ L s.heap m) (X : (hd.heap_39 w.params).In h₀) (N : News h₀ L s.heap news) (T : Top p loose mean mg mb h₀) (hA : A.frames = some [env]) (hf : env.frame = some L) (hke : env.scope.kind = .function)
    (hdep : A.depth + 20 < 1000) (hh : A.handled = none)
    (hx : (x, instObj 109 dx) ∈ news) (hdx : (dx, dictOf [⟨hs, .str (Str.ofString "_data") tk, .ref d⟩] 1) ∈ news)    (hdo : (d, o) ∈ news) (hD : o.IsDictOf (mkind prog w) kvs) (hk : kis k key = true) (hv : valueAt kvs k = some v)
    (hfun : (fa, kla_obj "<lambda>" qual lamParams (.Subscript (.Name (Str.ofString "kept") p1) (.Name (Str.ofString "key") p2) p3) lamScope [(Str.ofString "key", cy), (Str.ofString "kept", ck)] pm c' ctv) ∈ news) (hoc : (c', oc) ∈ news) (hocd : oc.data = .fields cvs) (hocv : cvs[1]? = some (.str qual ct))
    (hck : (ck, okc) ∈ news) (hckd : okc.data = .cell (some (.ref x))) (hcy : (cy, oky) ∈ news) (hcyd : oky.data = .cell (some key))
    (h : ∀ h' tk q, Fr h₀ L h' m → News h₀ L h' ((q, { cls := .type "tuple", data := .seq #[.bool true, v] }) :: news) → R (.ok (.ret (.ref q))) { s with heap := h', toks := tk }) :
    codeAny (model prog w) A (.call (.ref 361) ⟨[.ref fa], []⟩) R s := by
  revert X; unfold prog; k_fill; intro X
  refine' code_try B F X N T hA hf hke ?k6 ?k7 ?k8 ?k9 ?kB ?_ ?c2 ?c3 ?c4 ?c5
  case k6 => k_is
  case k7 => k_is
  case k8 => k_room
  case k9 => exact BindsTo.of_eq rfl
  case kB => exact locs rfl
  case c2 => exact rfl
  case c3 => exact rfl
  case c4 => exact rfl
  case c5 => decide
  intro g' L' h' FG' F' N' B' X' T' D'
  try dsimp only
  k_steps
  refine callWith_F0 (FnAt.of (by k_asm) hfun) ?_
  refine wpAny_call (kla_code B' (by assumption) X' (by assumption) T' (Around.frames_deeper B'.stack) rfl rfl hfun (codeRec_news (by k_asm) hoc hocd hocv) (by k_room) rfl (locs rfl) (fun g2 L2 h2 FG2 F2 N2 B2 X2 T2 => ?_) rfl rfl rfl (by decide))
  try dsimp only
  k_steps
  refine wpAny_call (getitem_ok B2 (by assumption) X2 (by assumption) T2 (Around.frames_deeper B2.stack) rfl rfl (by k_room) hx hdx hdo hD hk hv fun h3 tk3 F3 N3 => ?_)
  dsimp only
  k_steps
  exact h _ _ _ (by assumption) (by assumption)

theorem told_item_none
    (B : Below A₀ h₀ [] h₀) (F : Fr h₀ L s.heap m) (X : (hd.heap_39 w.params).In h₀) (N : News h₀ L s.heap news) (T : Top p loose mean mg mb h₀) (hA : A.frames = some [env]) (hf : env.frame = some L) (hke : env.scope.kind = .function)
    (hdep : A.depth + 20 < 1000) (hh : A.handled = none)
    (hx : (x, instObj 109 dx) ∈ news) (hdx : (dx, dictOf [⟨hs, .str (Str.ofString "_data") tk, .ref d⟩] 1) ∈ news)    (hdo : (d, o) ∈ news) (hD : o.IsDictOf (mkind prog w) kvs) (hk : kis k key = true) (lo : (d == sysModules) = false) (hv : valueAt kvs k = none)
    (hfun : (fa, kla_obj "<lambda>" qual lamParams (.Subscript (.Name (Str.ofString "kept") p1) (.Name (Str.ofString "key") p2) p3) lamScope [(Str.ofString "key", cy), (Str.ofString "kept", ck)] pm c' ctv) ∈ news) (hoc : (c', oc) ∈ news) (hocd : oc.data = .fields cvs) (hocv : cvs[1]? = some (.str qual ct))
    (hck : (ck, okc) ∈ news) (hckd : okc.data = .cell (some (.ref x))) (hcy : (cy, oky) ∈ news) (hcyd : oky.data = .cell (some key))
    (h : ∀ h' tk q, Fr h₀ L h' m → News h₀ L h' ((q, { cls := .type "tuple", data := .seq #[.bool false, .none] }) :: news) → R (.ok (.ret (.ref q))) { s with heap := h', toks := tk }) :
    codeAny (model prog w) A (.call (.ref 361) ⟨[.ref fa], []⟩) R s := by
  revert X; unfold prog; k_fill; intro X
  refine' code_try B F X N T hA hf hke ?k6 ?k7 ?k8 ?k9 ?kB ?_ ?c2 ?c3 ?c4 ?c5
  case k6 => k_is
  case k7 => k_is
  case k8 => k_room
  case k9 => exact BindsTo.of_eq rfl
  case kB => exact locs rfl
  case c2 => exact rfl
  case c3 => exact rfl
  case c4 => exact rfl
  case c5 => decide
  intro g' L' h' FG' F' N' B' X' T' D'
  try dsimp only
  k_steps
  refine callWith_F0 (FnAt.of (by k_asm) hfun) ?_
  refine wpAny_call (kla_code B' (by assumption) X' (by assumption) T' (Around.frames_deeper B'.stack) rfl rfl hfun (codeRec_news (by k_asm) hoc hocd hocv) (by k_room) rfl (locs rfl) (fun g2 L2 h2 FG2 F2 N2 B2 X2 T2 => ?_) rfl rfl rfl (by decide))
  try dsimp only
  k_steps
  refine wpAny_call (getitem_none B2 (by assumption) X2 (by assumption) T2 (Around.frames_deeper B2.stack) rfl rfl (by k_room) hx hdx hdo hD hk lo hh hv fun g3 h3 tk3 e3 F3 R3 U3 => ?_)
  dsimp only
  · refine leave_onAny rfl B2 F3 R3 U3 fun h5 R5 U5 => ?_
    refine caught_SN0 R5 FG2 B' U5 X T D' KtsTurn.refl (by k_is) (by boot_fast) (by decide) kr_isExc_KeyError kr_notTuple_KeyError sub_KeyError (fun h6 g6 T6 F6 N6 K6 X6 P6 D6 => ?_)
    clear X' B' T' N' F' FG' FG2 F2 N2 B2 X2 T2 R5 U5 R3 U3 F3
    dsimp only
    k_steps
    exact h _ _ _ (by assumption) (by assumption)

theorem told_pop_ok
    (B : Below A₀ h₀ [] h₀) (F : Fr h₀ L s.heap m) (X : (hd.heap_39 w.params).In h₀) (N : News h₀ L s.heap news) (T : Top p loose mean mg mb h₀) (hA : A.frames = some [env]) (hf : env.frame = some L) (hke : env.scope.kind = .function)
    (hdep : A.depth + 20 < 1000) (hh : A.handled = none)
    (hx : (x, instObj 109 dx) ∈ news) (hdx : (dx, dictOf [⟨hs, .str (Str.ofString "_data") tk, .ref d⟩] 1) ∈ news)    (hdo : (d, o) ∈ news) (U : UpdF d o news g) (hD : o.IsDictOf (mkind prog w) kvs) (hk : kis k key = true) (hv : valueAt kvs k = some v) (hl : kvs.length ≤ sizeLine)
    (hfun : (fa, kla_obj "<lambda>" qual lamParams (.Call (.Attribute (.Name (Str.ofString "kept") ⟨342, 33, 342, 37⟩) (Str.ofString "pop") ⟨342, 33, 342, 41⟩) [.Name (Str.ofString "key") ⟨342, 42, 342, 45⟩] [] ⟨342, 33, 342, 46⟩) lamScope [(Str.ofString "key", cy), (Str.ofString "kept", ck)] pm c' ctv) ∈ news) (hoc : (c', oc) ∈ news) (hocd : oc.data = .fields cvs) (hocv : cvs[1]? = some (.str qual ct))
    (hck : (ck, okc) ∈ news) (hckd : okc.data = .cell (some (.ref x))) (hcy : (cy, oky) ∈ news) (hcyd : oky.data = .cell (some key))
    (h : ∀ h' tk q o', o'.IsDictOf (mkind prog w) (without kvs k) → Fr h₀ L h' m → News h₀ L h' ((q, { cls := .type "tuple", data := .seq #[.bool true, v] }) :: g o') → R (.ok (.ret (.ref q))) { s with heap := h', toks := tk }) :
    codeAny (model prog w) A (.call (.ref 361) ⟨[.ref fa], []⟩) R s := by
  revert X; unfold prog; k_fill; intro X
  refine' code_try B F X N T hA hf hke ?k6 ?k7 ?k8 ?k9 ?kB ?_ ?c2 ?c3 ?c4 ?c5
  case k6 => k_is
  case k7 => k_is
  case k8 => k_room
  case k9 => exact BindsTo.of_eq rfl
  case kB => exact locs rfl
  case c2 => exact rfl
  case c3 => exact rfl
  case c4 => exact rfl
  case c5 => decide
  intro g' L' h' FG' F' N' B' X' T' D'
  try dsimp only
  k_steps
  refine callWith_F0 (FnAt.of (by k_asm) hfun) ?_
  refine wpAny_call (kla_code B' (by assumption) X' (by assumption) T' (Around.frames_deeper B'.stack) rfl rfl hfun (codeRec_news (by k_asm) hoc hocd hocv) (by k_room) rfl (locs rfl) (fun g2 L2 h2 FG2 F2 N2 B2 X2 T2 => ?_) rfl rfl rfl (by decide))
  try dsimp only
  k_steps
  refine wpAny_call (pop_ok B2 (by assumption) X2 (by assumption) T2 (Around.frames_deeper B2.stack) rfl rfl (by k_room) hx hdx hdo U hD hk hv hl fun h3 tk3 o3 F3 N3 hD3 => ?_)
  dsimp only
  k_steps
  exact h _ _ _ _ hD3 (by assumption) (by assumption)

theorem told_pop_none
    (B : Below A₀ h₀ [] h₀) (F : Fr h₀ L s.heap m) (X : (hd.heap_39 w.params).In h₀) (N : News h₀ L s.heap news) (T : Top p loose mean mg mb h₀) (hA : A.frames = some [env]) (hf : env.frame = some L) (hke : env.scope.kind = .function)
    (hdep : A.depth + 20 < 1000) (hh : A.handled = none)
    (hx : (x, instObj 109 dx) ∈ news) (hdx : (dx, dictOf [⟨hs, .str (Str.ofString "_data") tk, .ref d⟩] 1) ∈ news)    (hdo : (d, o) ∈ news) (hD : o.IsDictOf (mkind prog w) kvs) (hk : kis k key = true) (lo : (d == sysModules) = false) (hv : valueAt kvs k = none)
    (hfun : (fa, kla_obj "<lambda>" qual lamParams (.Call (.Attribute (.Name (Str.ofString "kept") ⟨342, 33, 342, 37⟩) (Str.ofString "pop") ⟨342, 33, 342, 41⟩) [.Name (Str.ofString "key") ⟨342, 42, 342, 45⟩] [] ⟨342, 33, 342, 46⟩) lamScope [(Str.ofString "key", cy), (Str.ofString "kept", ck)] pm c' ctv) ∈ news) (hoc : (c', oc) ∈ news) (hocd : oc.data = .fields cvs) (hocv : cvs[1]? = some (.str qual ct))
    (hck : (ck, okc) ∈ news) (hckd : okc.data = .cell (some (.ref x))) (hcy : (cy, oky) ∈ news) (hcyd : oky.data = .cell (some key))
    (h : ∀ h' tk q, Fr h₀ L h' m → News h₀ L h' ((q, { cls := .type "tuple", data := .seq #[.bool false, .none] }) :: news) → R (.ok (.ret (.ref q))) { s with heap := h', toks := tk }) :
    codeAny (model prog w) A (.call (.ref 361) ⟨[.ref fa], []⟩) R s := by
  revert X; unfold prog; k_fill; intro X
  refine' code_try B F X N T hA hf hke ?k6 ?k7 ?k8 ?k9 ?kB ?_ ?c2 ?c3 ?c4 ?c5
  case k6 => k_is
  case k7 => k_is
  case k8 => k_room
  case k9 => exact BindsTo.of_eq rfl
  case kB => exact locs rfl
  case c2 => exact rfl
  case c3 => exact rfl
  case c4 => exact rfl
  case c5 => decide
  intro g' L' h' FG' F' N' B' X' T' D'
  try dsimp only
  k_steps
  refine callWith_F0 (FnAt.of (by k_asm) hfun) ?_
  refine wpAny_call (kla_code B' (by assumption) X' (by assumption) T' (Around.frames_deeper B'.stack) rfl rfl hfun (codeRec_news (by k_asm) hoc hocd hocv) (by k_room) rfl (locs rfl) (fun g2 L2 h2 FG2 F2 N2 B2 X2 T2 => ?_) rfl rfl rfl (by decide))
  try dsimp only
  k_steps
  refine wpAny_call (pop_none B2 (by assumption) X2 (by assumption) T2 (Around.frames_deeper B2.stack) rfl rfl (by k_room) hx hdx hdo hD hk lo hh hv fun g3 h3 tk3 e3 F3 R3 U3 => ?_)
  dsimp only
  · refine leave_onAny rfl B2 F3 R3 U3 fun h5 R5 U5 => ?_
    refine caught_SN0 R5 FG2 B' U5 X T D' KtsTurn.refl (by k_is) (by boot_fast) (by decide) kr_isExc_KeyError kr_notTuple_KeyError sub_KeyError (fun h6 g6 T6 F6 N6 K6 X6 P6 D6 => ?_)
    clear X' B' T' N' F' FG' FG2 F2 N2 B2 X2 T2 R5 U5 R3 U3 F3
    dsimp only
    k_steps
    exact h _ _ _ (by assumption) (by assumption)

end
end
end Mine
namespace Mine
section
local macro_rules | `(tactic| k_room) => `(tactic| ((simp only [depth_under_make, depth_under_kw, depth_in1, depth_deeper, depth_caller, recursionLimit] at *); omega))
local macro_rules | `(tactic| k_mem) => `(tactic| assumption)
abbrev pos (a b c d : Nat) : Pos := { line := a, col := b, endLine := c, endCol := d }
abbrev itTarget : Expr := .Tuple [.Name (Str.ofString "oid") (pos 36 12 36 15), .Name (Str.ofString "addr") (pos 36 17 36 21)] 0 (pos 36 12 36 21)
abbrev itIter : Expr := .Call (.Attribute (.Attribute (.Name (Str.ofString "self") (pos 36 25 36 29)) (Str.ofString "_data") (pos 36 25 36 35)) (Str.ofString "items") (pos 36 25 36 41)) [] [] (pos 36 25 36 43)
abbrev itPair : Expr := .Tuple [.Name (Str.ofString "oid") (pos 37 19 37 22), .Call (.Name (Str.ofString "from_addr") (pos 37 24 37 33)) [.Name (Str.ofString "addr") (pos 37 34 37 38)] [] (pos 37 24 37 39)] 0 (pos 37 18 37 40)
abbrev itYield : Stmt := .Expr (.Yield (some itPair) (pos 37 12 37 40)) (pos 37 12 37 40)
abbrev itHead : Stmt := .Assign [.Name (Str.ofString "from_addr") (pos 35 8 35 17)] (.Attribute (.Name (Str.ofString "self") (pos 35 20 35 24)) (Str.ofString "_from_addr") (pos 35 20 35 35)) (pos 35 8 35 35)
abbrev itFor : Stmt := .For itTarget itIter [itYield] [] (pos 36 8 37 40)
abbrev itBody : List Stmt := [itHead, itFor]
abbrev itScope : Scope := { kind := .function, names := [(Str.ofString "self", .local), (Str.ofString "from_addr", .local), (Str.ofString "oid", .local), (Str.ofString "addr", .local)], isGenerator := true, isCoroutine := false }
abbrev itParams : Arguments := { posonlyargs := [], args := [{ arg := Str.ofString "self", annotation := none, pos := pos 34 14 34 18 }], vararg := none, kwonlyargs := [], kw_defaults := [], kwarg := none, defaults := [] }
abbrev itQual : Str := Str.ofString "_WeakValueDictionary.items"
abbrev itEnv (C : Addr) : Env := envOf itQual itScope C 91 (.ref 90)
section
variable {w : World} {A A₀ : Around} {s : Shared} {base h₀ : Heap} {L C : Addr} {m mg mb : Str → Option Value} {news : List (Addr × Obj)} {p : Program} {loose : List Str} {mean : ExcName → Option Value} {env : Env} {outer : List Env} {R : Result → Shared → Prop} {oid obj key v : Value}
  {x dx d q : Addr} {o : Obj} {hs : Int} {tk : Tok} {kvs : List (Nat × Value)} {k : Nat} {g : Obj → List (Addr × Obj)}

theorem it_head {Q : Flow → Shared → Prop} {E : Value → Shared → Prop}
    (B : Below A₀ base outer h₀) (F : Fr h₀ C s.heap (fun y => [(Str.ofString "self", Value.ref x)].reverse.lookup y)) (X : (hd.heap_39 w.params).In h₀) (N : News h₀ C s.heap news) (T : Top p loose mean mg mb h₀) (hA : A.frames = some (itEnv C :: outer))
    (hdep : A.depth + 5 < 1000) (hx : (x, instObj 109 dx) ∈ news) (hdx : (dx, dictOf [⟨hs, .str (Str.ofString "_data") tk, .ref d⟩] 1) ∈ news)
    (h : ∀ h' tk q m', Fr h₀ C h' m' → News h₀ C h' ((q, methodObj (.ref 49) (.ref x)) :: news) → m' (Str.ofString "from_addr") = some (.ref q) → m' (Str.ofString "self") = some (.ref x) → Q .next { s with heap := h', toks := tk }) :
    wpAny (model prog w) A (exec itHead (itEnv C)) Q E s := by
  revert X; unfold prog; k_fill; intro X
  k_steps
  exact h _ _ _ _ (by assumption) (by assumption) rfl rfl

theorem it_iter {Q : Value → Shared → Prop} {E : Value → Shared → Prop} (hms : m (Str.ofString "self") = some (.ref x))
    (B : Below A₀ base outer h₀) (F : Fr h₀ C s.heap m) (X : (hd.heap_39 w.params).In h₀) (N : News h₀ C s.heap news) (T : Top p loose mean mg mb h₀) (hA : A.frames = some (itEnv C :: outer))
    (hdep : A.depth + 5 < 1000) (hx : (x, instObj 109 dx) ∈ news) (hdx : (dx, dictOf [⟨hs, .str (Str.ofString "_data") tk, .ref d⟩] 1) ∈ news)
    (hdo : (d, o) ∈ news) (hD : o.IsDictOf (mkind prog w) kvs) (lo : (d == sysModules) = false)
    (h : ∀ h' tk D, Fr h₀ C h' m → News h₀ C h' ((D, { cls := .type "dict_items", data := .fields #[.ref d] }) :: news) → Q (.ref D) { s with heap := h', toks := tk }) :
    wpAny (model prog w) A (eval itIter (itEnv C)) Q E s := by
  revert X; unfold prog; k_fill; intro X
  k_steps
  refine ld (by k_asm) hms ?_
  k_steps
  refine kob_method (knd := mkind _ _) PySem.F.slot_dict_items PySem.F.type_dict_items (by k_asm) hdo hD ?_
  dsimp only
  k_steps
  refine kdx_view (knd := mkind _ _) F (by k_asm) hdo hD lo fun D h' F' N' _ => ?_
  dsimp only
  k_steps
  exact h _ _ _ F' N'

theorem it_pair {Q : Value → Shared → Prop} {E : Value → Shared → Prop} (hm1 : m (Str.ofString "oid") = some key) (hm2 : m (Str.ofString "addr") = some v) (hm3 : m (Str.ofString "from_addr") = some (.ref q))
    (B : Below A₀ base outer h₀) (F : Fr h₀ C s.heap m) (X : (hd.heap_39 w.params).In h₀) (N : News h₀ C s.heap news) (T : Top p loose mean mg mb h₀) (hA : A.frames = some (itEnv C :: outer))
    (hdep : A.depth + 10 < 1000) (hq : (q, methodObj (.ref 49) (.ref x)) ∈ news)
    (h : ∀ h' tk t, Fr h₀ C h' m → News h₀ C h' ((t, { cls := .type "tuple", data := .seq #[key, v] }) :: news) → (∀ p ∈ news, p.1 < t) → Q (.ref t) { s with heap := h', toks := tk }) :
    wpAny (model prog w) A (eval itPair (itEnv C)) Q E s := by
  revert X; unfold prog; k_fill; intro X
  k_steps
  refine ld (by k_asm) hm1 ?_
  k_steps
  refine ld (by k_asm) hm3 ?_
  k_steps
  refine ld (by k_asm) hm2 ?_
  k_steps
  refine call_meth (by k_asm) hq ?_
  refine from_addr_ok B F X N T hA rfl rfl (by omega) fun h1 tk1 F1 N1 => ?_
  dsimp only
  k_steps
  exact h _ _ _ (by assumption) (by assumption) (by assumption)
end
end
end Mine
namespace Mine
section
section
variable {h₀ h h' : Heap} {L a : Addr} {o : Obj} {m m' : Str → Option Value}
def allNews (h₀ : Heap) (L : Addr) (h : Heap) : List (Addr × Obj) :=
  (List.range h.objs.size).filterMap fun a => if a = L then none else match h₀.get? a with | some _ => none | none => (h.get? a).map fun o => (a, o)
theorem allNews_mem (e : h.get? a = some o) (hL : a ≠ L) (hn : h₀.get? a = none) : (a, o) ∈ allNews h₀ L h := by
  refine List.mem_filterMap.mpr ⟨a, List.mem_range.mpr (Heap.lt_size e), ?_⟩
  rw [if_neg hL, hn, e]; rfl
theorem allNews_news : News h₀ L h (allNews h₀ L h) := by
  intro p hp
  obtain ⟨a, _, ha⟩ := List.mem_filterMap.mp hp
  by_cases hL : a = L
  · rw [if_pos hL] at ha; cases ha
  · rw [if_neg hL] at ha
    cases hn : h₀.get? a with
    | some o => rw [hn] at ha; cases ha
    | none =>
      rw [hn] at ha
      dsimp only at ha
      cases e : h.get? a with
      | none => rw [e] at ha; cases ha
      | some o =>
        rw [e] at ha
        cases ha
        exact ⟨e, hL, hn⟩
theorem keep_all (F : Fr h₀ L h m) (F' : Fr h₀ L h' m') (N' : News h₀ L h' (allNews h₀ L h)) : ∀ b o, b ≠ L → h.get? b = some o → h'.get? b = some o := by
  intro b o hb e
  cases hn : h₀.get? b with
  | none => exact (N' _ (allNews_mem e hb hn)).1
  | some o' =>
    have e1 := F.keep b o' hn
    rw [e] at e1
    cases e1
    exact F'.keep b o hn
end

section
variable {M : Model} {A : Around} {R : GenEnd} {Y : Protocol} {n : Nat} {s₀ : Shared} {c : Code} {fs : List Frame} {s : Shared} {env : Env}
  {K : Flow → Sem Fin} {H : Value → Sem Fin} {gd : Bool → Bool} {lv : List Value → List Value}
abbrev forBack (env : Env) (K : Flow → Sem Fin) (H : Value → Sem Fin) (gd : Bool → Bool) (lv : List Value → List Value) : Result → Sem Fin :=
  fun r => ((match r with | .ok f => (.pure f : Sem Flow) | .error e => .raise e).onRaise fun (x : Value) => do
        if (← field x 1) == Value.none then unsupported "frame.own-activation:exception-without-traceback"
        setFlight x env.frame).wrap K H gd lv
theorem seg_For {target iter : Expr} {body orelse : List Stmt} {pos : Pos} (hs : ∀ x, foldedSetIterable iter env x = pure x)
    (h : wpAny M (A.over c fs) (eval iter env) (fun x s₁ => wpAny M (A.over c fs) (pyIter x) (fun it s₂ =>
      ∀ p, Seg M A R Y n s₀ (.forLoop target it body orelse env) (M.den (.forLoop target it body orelse env)) (.ret (forBack env K H gd lv) none (gd false) (lv []) c p [] :: fs) s₂) (fun _ _ => False) s₁) (fun _ _ => False) s) :
    Seg M A R Y n s₀ c ((exec (.For target iter body orelse pos) env).wrap K H gd lv) fs s := by
  rw [exec_For]
  rw [Sem.bind_eq_wrap', Sem.wrap_wrap]
  refine seg_wrap (wpAny_standAt ?_)
  rw [Sem.bind_eq_wrap', Sem.wrap_wrap]
  refine seg_wrap (wpAny_mono h (fun x s₁ h₁ => ?_) fun _ _ e => e.elim)
  rw [Sem.bind_eq_wrap', Sem.wrap_wrap]
  refine seg_wrap (wpAny_of_eq (hs x) ?_)
  rw [Sem.bind_eq_wrap', Sem.wrap_wrap]
  refine seg_wrap (wpAny_standAt ?_)
  rw [Sem.bind_eq_wrap', Sem.wrap_wrap]
  refine seg_wrap (wpAny_holding (wpAny_mono h₁ (fun it s₂ h₂ => ?_) fun _ _ e => e.elim))
  exact seg_call h₂
end
section
variable {prog : Program} {w : World} {A : Around} {R : GenEnd} {Y : Protocol} {n : Nat} {s₀ : Shared} {fs : List Frame} {s : Shared} {env : Env}
abbrev forStep (target : Expr) (it : Value) (body orelse : List Stmt) (env : Env) : Flow → Sem Fin := fun f => match f with
  | .next | .cont => .pure (.again (.forLoop target it body orelse env))
  | .brk => .pure (.done .next)
  | .ret v => .pure (.done (.ret v))
theorem seg_forLoop {target : Expr} {it : Value} {body orelse : List Stmt}
    (h : wpAny (model prog w) (A.over (.forLoop target it body orelse env) fs) (pyNext it) (fun r s' => match r with
      | none => Seg (model prog w) A R Y n s₀ (.forLoop target it body orelse env) (.pure (.again (.block orelse env))) fs s'
      | some v => wpAny (model prog w) (A.over (.forLoop target it body orelse env) fs) (letOwnedTupleGo target it v) (fun _ s₁ => wpAny (model prog w) (A.over (.forLoop target it body orelse env) fs) (assign target env v) (fun _ s₂ =>
          Seg (model prog w) A R Y n s₀ (.forLoop target it body orelse env) ((execs body env).wrap (forStep target it body orelse env) (fun e => (do noteFrame e env; theTreesLotGoes e : Sem Unit).wrap (fun _ => .raise e) .raise id id) id id) fs s₂)
          (fun _ _ => False) s₁) (fun _ _ => False) s') (fun _ _ => False) s) :
    Seg (model prog w) A R Y n s₀ (.forLoop target it body orelse env) ((model prog w).den (.forLoop target it body orelse env)) fs s := by
  show Seg _ A R Y n s₀ _ ((forTurn target it body orelse env).onRaise (fun x => do noteFrame x env; theTreesLotGoes x)) fs s
  unfold forTurn
  rw [Sem.onRaise_eq_wrap, Sem.bind_eq_wrap', Sem.wrap_wrap]
  refine seg_wrap (wpAny_standAt ?_)
  rw [Sem.bind_eq_wrap', Sem.wrap_wrap]
  refine seg_wrap (wpAny_onRaise (wpAny_mono h (fun r s' hr => ?_) fun _ _ e => e.elim))
  cases r with
  | none => exact hr
  | some v =>
    dsimp only at hr ⊢
    rw [Sem.bind_eq_wrap', Sem.wrap_wrap]
    refine seg_wrap (wpAny_mono hr (fun _ s₁ h₁ => ?_) fun _ _ e => e.elim)
    rw [Sem.bind_eq_wrap', Sem.wrap_wrap]
    refine seg_wrap (wpAny_mono h₁ (fun _ s₂ h₂ => ?_) fun _ _ e => e.elim)
    rw [Sem.bind_eq_wrap', Sem.wrap_wrap]
    rw [Sem.wrap_congr (execs body env) _ _ (K' := forStep target it body orelse env) (H' := (fun e => (do noteFrame e env; theTreesLotGoes e : Sem Unit).wrap (fun _ => .raise e) .raise id id))
        (fun f => by cases f <;> rfl)
        (fun e => by first | exact Sem.bind_eq_wrap _ _ | (show (do noteFrame e env; theTreesLotGoes e : Sem Unit).bind (fun _ => .raise e) = _; rw [Sem.bind_eq_wrap]))]
    exact h₂
end
end
end Mine
namespace Mine
section
section
variable {prog : Program} {w : World} {A : Around} {E : Value → Shared → Prop} {s : Shared}
/-- one step of a generator made by a def, with the bareness of what it leaves -/
theorem pyNext_own {a : Addr} {g n : Nat} {gs : GenState} {P : Nat → Shared → Shared → Prop} {Y : Protocol} {Q : Option Value → Shared → Prop} (hh : A.handled = none)
    (hl : s.heap.NoLimit) (hroom : A.depth < recursionLimit) (hg : s.heap.IsGen a g) (hgs : s.gens[g]? = some gs)
    (hgo : gs.Goes (model prog w) A.in1 (fun n s₀ r s₁ => r = .ok (.ret .none) ∧ P n s₀ s₁) Y n (.send .none) (s.setGen g .running))
    (hY : ∀ v s₁ gs', gs'.bare = true → Y (n - 1) (s.setGen g .running) v s₁ (fun r' s'' => match n with
        | 0 => False
        | m + 1 => gs'.Goes (model prog w) A.in1 (fun n s₀ r s₁ => r = .ok (.ret .none) ∧ P n s₀ s₁) Y m r' s'') → Q (some v) (s₁.setGen g gs'))
    (hP : ∀ s₁, P n (s.setGen g .running) s₁ → ∀ h', (∀ b o, s₁.heap.get? b = some o → h'.get? b = some o) → Q none { s₁.setGen g .finished with heap := h' }) :
    wpAny (model prog w) A (pyNext (.ref a)) Q E s := by
  unfold pyNext
  refine wpAny_bind (wpAny_attempt (wpAny_callSpecial?_slot (name := Str.ofString "__next__") hg.typeIs slot_gen_next
    (wpAny_call_entry slot_gen_next hg.typeIs entry_gen_next ?_ (args_gen_next _))))
  show wpAny _ _ (Builtin.Generator.genWake (.ref a) (.send .none)) _ _ s
  unfold Builtin.Generator.genWake
  refine wpAny_bind (wpAny_holding (wpAny_genNumber hg (wpAny_bind (wpAny_genState hgs ?_))))
  cases gs with
  | running => exact hgo.elim
  | finished => exact hgo.elim
  | _ =>
    refine wpAny_bind (wpAny_roomToWake hl hroom ?_)
    show wpAny _ _ (.resume g (.send .none) [] _) _ _ s
    refine wpAny_resumeQ hgs hgo (fun x s₁ hx => ?_) (fun v s₁ gs' hb hv => wpAny_pure ⟨v, rfl, wpAny_pure (hY v s₁ gs' hb hv)⟩)
    obtain ⟨rfl, hp⟩ := hx
    show wpAny _ _ (newExc (.type "StopIteration") [] >>= _) _ _ _
    simp only [newExc, newTuple]
    refine wpAny_bind (wpAny_bind (wpAny_newObj_type (wpAny_bind (m := firstArgMember _ _) (wpAny_of_eq (a := Value.none) (by first | rfl | (simp only [firstArgMember]; rfl)) (wpAny_newObj_type ?_ (by size_fits)))) (by size_fits)))
    simp only [raiseNew]
    refine wpAny_bind (wpAny_bind (wpAny_handled ?_))
    rw [show A.in1.handled = none from hh]
    exact wpAny_throw (wpAny_bind (wpAny_isInstance (T := "StopIteration") (b := true) ⟨_, Heap.get?_push_size _ rfl, rfl⟩ isSubtype_stop
      (wpAny_pure (hP s₁ hp _ fun b o hb => Heap.get?_push_of_some _ (Heap.get?_push_of_some _ hb)))))
end

/-- what the generator of `items` holds between two yields -/
structure GenD (w : World) (g : Heap) (C it q x d : Addr) (kvs : List (Nat × Value)) (ep i : Nat) (h : Heap) : Prop where
  fr : ∃ m, Fr g C h m ∧ m (Str.ofString "from_addr") = some (.ref q)
  hq : h.get? q = some (methodObj (.ref 49) (.ref x))
  it : ∃ ok ov, IsItemIter h it d i kvs.length ep ok ov
  dict : h.DictAt (mkind prog w) d kvs ep
theorem GenD.al {w : World} {g : Heap} {C S it q x d : Addr} {kvs : List (Nat × Value)} {ep i : Nat} {h h' : Heap} (D : GenD w g C it q x d kvs ep i h) (hCS : C < S) (hSi : S < it) (hqS : q ≠ S) (hdS : d ≠ S)
    (k : ∀ b o, b ≠ S → h.get? b = some o → h'.get? b = some o) : GenD w g C it q x d kvs ep i h' := by
  obtain ⟨⟨m, F, hm⟩, hq, ⟨ok, ov, hit⟩, hd⟩ := D
  refine ⟨⟨m, ⟨F.ns.at fun o e => k _ o (Nat.ne_of_lt hCS) e, fun b o e => k b o (Nat.ne_of_lt (Nat.lt_trans (Nat.lt_of_lt_of_le (Heap.lt_size e) F.above) hCS)) (F.keep b o e), F.above⟩, hm⟩, k _ _ hqS hq, ⟨ok, ov, k _ _ (Nat.ne_of_gt hSi) hit⟩, hd.at' fun o e => k _ o hdS e⟩
def Step (C N0 : Addr) (s₀ s₁ : Shared) : Prop :=
  ∃ h tk, s₁ = { s₀ with heap := h, toks := tk } ∧ ∀ b o, b ≠ C → (b < N0 ∨ o.cls ≠ .type "dict_itemiterator") → s₀.heap.get? b = some o → h.get? b = some o
def Yld (w : World) (C S : Addr) (kvs : List (Nat × Value)) (i : Nat) (v : Value) (s : Shared) : Prop :=
  ∃ t k val key, v = .ref t ∧ kvs[i]? = some (k, val) ∧ (mkind prog w).is k key = true ∧ (t ≠ C ∧ S < t) ∧ s.heap.get? t = some { cls := .type "tuple", data := .seq #[key, val] }
abbrev itR (C N0 : Addr) : GenEnd := fun n s₀ r s₁ => r = .ok (.ret .none) ∧ (n = 0 ∧ Step C N0 s₀ s₁)
abbrev itY (w : World) (C S N0 : Addr) (kvs : List (Nat × Value)) : Protocol := fun n s₀ v s₁ kap =>
  Step C N0 s₀ s₁ ∧ Yld w C S kvs (kvs.length - 1 - n) v s₁ ∧ ∀ s'', (∃ oS, s''.heap.get? S = some oS) → (∀ b o, b ≠ S → s₁.heap.get? b = some o → s''.heap.get? b = some o) → kap (.send .none) s''
theorem Step.refl {C N0 : Addr} (s : Shared) : Step C N0 s s := ⟨s.heap, s.toks, rfl, fun _ _ _ _ e => e⟩
theorem Step.then {C N0 it : Addr} {s₀ s₁ : Shared} (hN : N0 ≤ it) {h : Heap} {tk : Nat} (S : Step C N0 s₀ s₁) (hit : ∀ o, s₁.heap.get? it = some o → o.cls = .type "dict_itemiterator")
    (hk : ∀ b o, b ≠ C → b ≠ it → s₁.heap.get? b = some o → h.get? b = some o) : Step C N0 s₀ { s₁ with heap := h, toks := tk } := by
  obtain ⟨h₁, tk₁, rfl, k⟩ := S
  refine ⟨h, tk, rfl, fun b o hC hb e => hk b o hC (fun q => ?_) (k b o hC hb e)⟩
  subst q
  rcases hb with hb | hb
  · exact absurd hb (Nat.not_lt.mpr hN)
  · exact hb (hit o (k b o hC (.inr hb) e))

section
variable {w : World} {A₀ Ag : Around} {base g : Heap} {outer : List Env} {C S N0 it q x d : Addr} {kvs : List (Nat × Value)} {ep : Nat} {mg mb : Str → Option Value} {p : Program} {loose : List Str} {mean : ExcName → Option Value}
theorem over_loop (hAg : Ag.frames = some outer) (hh : Ag.handled = none) {it : Value} {kb : Result → Sem PySem.Fin} {pb : Pos} :
    (Ag.over (.forLoop itTarget it [itYield] [] (itEnv C)) [.ret kb none false [] (.func itBody (itEnv C)) pb []]).frames = some (itEnv C :: outer) ∧
    (Ag.over (.forLoop itTarget it [itYield] [] (itEnv C)) [.ret kb none false [] (.func itBody (itEnv C)) pb []]).handled = none ∧
    (Ag.over (.forLoop itTarget it [itYield] [] (itEnv C)) [.ret kb none false [] (.func itBody (itEnv C)) pb []]).depth ≤ Ag.depth + 5 := by
  refine ⟨?_, ?_, ?_⟩
  · simp only [Around.over, hAg]; rfl
  · simp only [Around.over, hh]; rfl
  · show Ag.depth + 1 + 0 ≤ _
    omega
theorem over_func (hAg : Ag.frames = some outer) (hh : Ag.handled = none) :
    (Ag.over (.func itBody (itEnv C)) []).frames = some (itEnv C :: outer) ∧ (Ag.over (.func itBody (itEnv C)) []).handled = none ∧ (Ag.over (.func itBody (itEnv C)) []).depth ≤ Ag.depth + 5 := by
  refine ⟨?_, ?_, ?_⟩
  · simp only [Around.over, hAg]; rfl
  · simp only [Around.over, hh]; rfl
  · show Ag.depth + 0 + 1 ≤ _
    omega

theorem it_loop (B : Below A₀ base outer g) (X : (hd.heap_39 w.params).In g) (T : Top p loose mean mg mb g) (hAg : Ag.frames = some outer) (hhd : Ag.handled = none) (hdep : Ag.depth + 30 < 1000)
    (hCS : C < S) (hSi : S < it) (hNi : N0 ≤ it) (hqC : q ≠ C) (hgq : g.get? q = none) (hqS : q ≠ S) (hqi : q ≠ it) (hdC : d ≠ C) (hdS : d ≠ S) (hdi : d ≠ it)
    (kb : Result → Sem PySem.Fin) (pb : Pos) (hkb : ∀ s₀ s', Step C N0 s₀ s' → Seg (model prog w) Ag (itR C N0) (itY w C S N0 kvs) 0 s₀ (.func itBody (itEnv C)) (kb (.ok .next)) [] s') :
    ∀ (j i : Nat) (s₀ s : Shared), kvs.length - i = j → i ≤ kvs.length → GenD w g C it q x d kvs ep i s.heap → (∃ oS, s.heap.get? S = some oS) → Step C N0 s₀ s →
      Seg (model prog w) Ag (itR C N0) (itY w C S N0 kvs) j s₀ (.forLoop itTarget (.ref it) [itYield] [] (itEnv C)) ((model prog w).den (.forLoop itTarget (.ref it) [itYield] [] (itEnv C))) [.ret kb none false [] (.func itBody (itEnv C)) pb []] s := by
  have hCi : it ≠ C := Nat.ne_of_gt (Nat.lt_trans hCS hSi)
  intro j
  induction j with
  | zero =>
    intro i s₀ s hj hi D hSs St
    obtain ⟨oS, hS⟩ := hSs
    obtain ⟨ok, ov, hit⟩ := D.it
    obtain ⟨e1, e2, e3⟩ := over_loop (C := C) (it := .ref it) (kb := kb) (pb := pb) hAg hhd
    refine seg_forLoop (wpAny_pyNext_items_end e2 hit D.dict (List.getElem?_eq_none (by omega)) fun h' he => ?_)
    refine seg_again rfl ?_
    show Seg _ _ _ _ _ _ _ (leafOf (.ok .next)) _ _
    exact seg_leaf (.ok .next) (hkb _ _ (St.then (tk := s.toks) hNi (fun o e => by rw [hit] at e; cases e; rfl) fun b o _ hb e => he b o hb e))
  | succ j ih =>
    intro i s₀ s hj hi D hSs St
    obtain ⟨oS, hS⟩ := hSs
    obtain ⟨ok, ov, hit⟩ := D.it
    have hlt : i < kvs.length := by omega
    obtain ⟨⟨k, v⟩, hv⟩ : ∃ p, kvs[i]? = some p := ⟨kvs[i], List.getElem?_eq_getElem hlt⟩
    obtain ⟨e1, e2, e3⟩ := over_loop (C := C) (it := .ref it) (kb := kb) (pb := pb) hAg hhd
    obtain ⟨m', F, hmq⟩ := D.fr
    refine seg_forLoop (wpAny_pyNext_items_item hit D.dict hv fun key h₁ hkey heo ht₁ hz₁ hk₁ => ?_)
    refine wpAny_letOwnedTupleGo_items heo fun h₂ he₂ hs₂ => ?_
    replace hs₂ : Heap.SameBut it h₁ h₂ := hs₂
    have hiH : it < s.heap.objs.size := Heap.lt_size hit
    have ht₂ : h₂.IsTuple s.heap.objs.size #[key, v] := ⟨_, (hs₂.2 _ (Nat.ne_of_gt hiH)).trans ht₁, rfl, _, rfl⟩
    have k₂ : ∀ b o, b ≠ it → s.heap.get? b = some o → h₂.get? b = some o := fun b o hb e => hs₂.extBut b o hb (hk₁ b o hb e)
    have hz₂ : h₂.objs.size = s.heap.objs.size + 1 := hs₂.1.trans hz₁
    refine wpAny_assign_Tuple e2 ht₂ rfl rfl fun h₃ hx₃ => ?_
    replace hx₃ : Heap.ExtBut h₂.objs.size h₂ h₃ := hx₃
    have k₃ : ∀ b o, h₂.get? b = some o → h₃.get? b = some o := fun b o e => hx₃ b o (Nat.ne_of_lt (Heap.lt_size e)) e
    have hn₃ : h₃.Ns C m' := ((F.ns.at fun o e => k₂ _ o (Ne.symm hCi) e)).at fun o e => k₃ _ o e
    show wpAny _ _ (do holding [v] (assign (.Name (Str.ofString "oid") (pos 36 12 36 15)) (itEnv C) key); do holding [] (assign (.Name (Str.ofString "addr") (pos 36 17 36 21)) (itEnv C) v); pure ()) _ _ _
    refine wpAny_bind (wpAny_holding (wpAny_assign_Name (wpAny_storeName_local rfl hn₃ (fun h₄ hn₄ hs₄ => ?_) rfl)))
    replace hs₄ : Heap.SameBut C h₃ h₄ := hs₄
    refine wpAny_bind (wpAny_holding (wpAny_assign_Name (wpAny_storeName_local rfl hn₄ (fun h₅ hn₅ hs₅ => wpAny_pure ?_) rfl)))
    replace hs₅ : Heap.SameBut C h₄ h₅ := hs₅
    have k₅ : ∀ b o, b ≠ C → h₂.get? b = some o → h₅.get? b = some o := fun b o hb e => hs₅.extBut b o hb (hs₄.extBut b o hb (k₃ b o e))
    obtain ⟨m₅, F₅, e51, e52, e53⟩ : ∃ m₅, Fr g C h₅ m₅ ∧ m₅ (Str.ofString "oid") = some key ∧ m₅ (Str.ofString "addr") = some v ∧ m₅ (Str.ofString "from_addr") = some (.ref q) := by
      refine ⟨fun y => if y = Str.ofString "addr" then some v else if y = Str.ofString "oid" then some key else m' y, ?_, rfl, rfl, hmq⟩
      exact ⟨hn₅, fun b o e => k₅ b o (Nat.ne_of_lt (Nat.lt_of_lt_of_le (Heap.lt_size e) F.above)) (k₂ b o (Nat.ne_of_lt (Nat.lt_of_lt_of_le (Heap.lt_size e) (Nat.le_trans F.above (Nat.le_of_lt (Nat.lt_trans hCS hSi))))) (F.keep b o e)), F.above⟩
    have hS₅ : h₅.get? S = some oS := k₅ _ _ (Nat.ne_of_gt hCS) (k₂ _ _ (Nat.ne_of_lt hSi) hS)
    have hgS : g.get? S = none := by
      cases e : g.get? S with
      | none => rfl
      | some _ => exact absurd (Heap.lt_size e) (Nat.not_lt.mpr (Nat.le_of_lt (Nat.lt_of_le_of_lt F.above hCS)))
    refine seg_execs_cons (seg_Expr_Yield rfl rfl rfl ?_)
    refine it_pair (news := allNews g C h₅) (key := key) (v := v) (q := q) (x := x) e51 e52 e53 B F₅ X allNews_news T e1 (by omega) (allNews_mem (k₅ _ _ hqC (k₂ _ _ hqi D.hq)) hqC hgq) fun h₆ tk₆ t F₆ N₆ lt₆ => ?_
    have k₆ := keep_all F₅ F₆ fun p hp => N₆ p (.tail _ hp)
    have kk : ∀ b o, b ≠ C → b ≠ it → s.heap.get? b = some o → h₆.get? b = some o := fun b o h1 h2 e => k₆ b o h1 (k₅ b o h1 (k₂ b o h2 e))
    have hit₆ : IsItemIter h₆ it d (i + 1) kvs.length ep key v := k₆ _ _ hCi (k₅ _ _ hCi he₂)
    intro kap hkap
    have hidx : kvs.length - 1 - j = i := by omega
    refine ⟨St.then (tk := tk₆) hNi (fun o e => by rw [hit] at e; cases e; rfl) kk, ⟨t, k, v, key, rfl, by rw [hidx]; exact hv, hkey, ⟨(N₆ _ (.head _)).2.1, lt₆ (S, oS) (allNews_mem hS₅ (Nat.ne_of_gt hCS) hgS)⟩, (N₆ _ (.head _)).1⟩, fun s'' hSn hal => hkap .none s'' ?_⟩
    show Seg _ _ _ _ _ _ _ (.pure (.again (.forLoop itTarget (.ref it) [itYield] [] (itEnv C)))) _ _
    have D₆ : GenD w g C it q x d kvs ep (i + 1) h₆ := ⟨⟨m₅, F₆, e53⟩, kk _ _ hqC hqi D.hq, ⟨key, v, hit₆⟩, D.dict.at' fun o e => kk _ o hdC hdi e⟩
    exact seg_again rfl (ih (i + 1) s'' s'' (by omega) (by omega) (D₆.al hCS hSi hqS hdS hal) hSn (Step.refl _))
end
end
end Mine
namespace Mine
section
abbrev listObj (acc : Array Value) (c : Nat) : Obj := { cls := .type "list", dict := none, data := .seq acc c, slots := #[] }
/-- the generator of `items` before its first step -/
structure GenF (w : World) (g : Heap) (C x dx d : Addr) (kvs : List (Nat × Value)) (h : Heap) : Prop where
  fr : Fr g C h (fun y => [(Str.ofString "self", Value.ref x)].reverse.lookup y)
  hx : h.get? x = some (instObj 109 dx) ∧ x ≠ C ∧ g.get? x = none
  hdx : ∃ hs tk, h.get? dx = some (dictOf [⟨hs, .str (Str.ofString "_data") tk, .ref d⟩] 1) ∧ dx ≠ C ∧ g.get? dx = none
  hd : ∃ o, h.get? d = some o ∧ d ≠ C ∧ g.get? d = none ∧ o.IsDictOf (mkind prog w) kvs
theorem GenF.al {w : World} {g : Heap} {C S x dx d : Addr} {kvs : List (Nat × Value)} {h h' : Heap} (D : GenF w g C x dx d kvs h) (hCS : C < S) (hx : x < S) (hdx : dx < S) (hd : d < S)
    (k : ∀ b o, b ≠ S → h.get? b = some o → h'.get? b = some o) : GenF w g C x dx d kvs h' := by
  obtain ⟨F, ⟨x1, x2, x3⟩, ⟨hs, tk, y1, y2, y3⟩, ⟨o, z1, z2, z3, z4⟩⟩ := D
  exact ⟨⟨F.ns.at fun o e => k _ o (Nat.ne_of_lt hCS) e, fun b o e => k b o (Nat.ne_of_lt (Nat.lt_trans (Nat.lt_of_lt_of_le (Heap.lt_size e) F.above) hCS)) (F.keep b o e), F.above⟩, ⟨k _ _ (Nat.ne_of_lt hx) x1, x2, x3⟩,
    ⟨hs, tk, k _ _ (Nat.ne_of_lt hdx) y1, y2, y3⟩, ⟨o, k _ _ (Nat.ne_of_lt hd) z1, z2, z3, z4⟩⟩
section
variable {w : World} {A A₀ Ag : Around} {E : Value → Shared → Prop} {s : Shared} {base g : Heap} {outer : List Env} {C S x dx d : Addr} {kvs : List (Nat × Value)} {mg mb : Str → Option Value} {p : Program} {loose : List Str} {mean : ExcName → Option Value}
theorem it_start (B : Below A₀ base outer g) (X : (hd.heap_39 w.params).In g) (T : Top p loose mean mg mb g) (hAg : Ag.frames = some outer) (hhd : Ag.handled = none) (hdep : Ag.depth + 30 < 1000)
    (hCS : C < S) (D : GenF w g C x dx d kvs s.heap) (hd : d < S) (lo : (d == sysModules) = false) {acc : Array Value} {c : Nat} (hS : s.heap.get? S = some (listObj acc c)) :
    Seg (model prog w) Ag (itR C S) (itY w C S S kvs) kvs.length s (.func itBody (itEnv C)) ((model prog w).den (.func itBody (itEnv C))) [] s := by
  obtain ⟨F, ⟨x1, x2, x3⟩, ⟨hs, tk, y1, y2, y3⟩, ⟨o, z1, z2, z3, z4⟩⟩ := D
  obtain ⟨e1, e2, e3⟩ := over_func (C := C) hAg hhd
  have hgS : g.get? S = none := by
    cases e : g.get? S with
    | none => rfl
    | some _ => exact absurd (Heap.lt_size e) (Nat.not_lt.mpr (Nat.le_of_lt (Nat.lt_of_le_of_lt F.above hCS)))
  refine seg_func (seg_execs_cons (seg_wrap ?_))
  refine it_head (news := allNews g C s.heap) (hs := hs) (tk := tk) (d := d) B F X allNews_news T e1 (by omega) (allNews_mem x1 x2 x3) (allNews_mem y1 y2 y3) fun h₁ tk₁ q m₁ F₁ N₁ hmq hms => ?_
  have k₁ := keep_all F F₁ fun p hp => N₁ p (.tail _ hp)
  have hq := N₁ _ (.head _)
  have hSq : q ≠ S := by
    intro e
    have h1 := hq.1
    subst e
    have h2 := k₁ _ _ hq.2.1 hS
    rw [h1] at h2
    have h3 := congrArg Obj.cls (Option.some.inj h2)
    injection h3 with h3
    exact absurd h3 (by decide)
  refine seg_execs_cons (seg_For (fun x => rfl) ?_)
  refine it_iter (news := allNews g C h₁) (x := x) (dx := dx) (hs := hs) (tk := tk) (d := d) (o := o) (kvs := kvs) hms B F₁ X allNews_news T e1 (by omega) (allNews_mem (k₁ _ _ x2 x1) x2 x3) (allNews_mem (k₁ _ _ y2 y1) y2 y3) (allNews_mem (k₁ _ _ z2 z1) z2 z3) z4 lo fun h₂ tk₂ V F₂ N₂ => ?_
  have k₂ := keep_all F₁ F₂ fun p hp => N₂ p (.tail _ hp)
  have hdo : h₂.get? d = some o := k₂ _ _ z2 (k₁ _ _ z2 z1)
  obtain ⟨ep, hD⟩ := (Heap.dictOf_iff.mpr ⟨o, hdo, z4⟩ : h₂.DictOf (mkind prog w) d kvs).dictAt
  refine wpAny_pyIter_items (knd := mkind prog w) ⟨_, (N₂ _ (.head _)).1, rfl, rfl⟩ hD ?_
  intro pb
  have hS₂ : h₂.get? S = some (listObj acc c) := k₂ _ _ (Nat.ne_of_gt hCS) (k₁ _ _ (Nat.ne_of_gt hCS) hS)
  have hq₂ := k₂ _ _ hq.2.1 hq.1
  have hSi : S < h₂.objs.size := Heap.lt_size hS₂
  refine it_loop (ep := ep) (q := q) (x := x) (d := d) B X T hAg hhd hdep hCS hSi (Nat.le_of_lt hSi) hq.2.1 hq.2.2 hSq (Nat.ne_of_lt (Heap.lt_size hq₂)) z2 (Nat.ne_of_lt hd) (Nat.ne_of_lt (Heap.lt_size hdo)) _ pb (fun s₀ s' St => ?_) kvs.length 0 s _ (Nat.sub_zero _) (Nat.zero_le _) ?_ ⟨_, Heap.get?_push_of_some _ hS₂⟩ ?_
  · show Seg _ _ _ _ _ _ _ (leafOf (.ok (.ret .none))) [] _
    exact seg_end _ ⟨rfl, rfl, St⟩
  · exact ⟨⟨m₁, F₂.push _, hmq⟩, Heap.get?_push_of_some _ hq₂, ⟨.none, .none, Heap.get?_push_size _ rfl⟩, hD.push _⟩
  · exact ⟨_, _, rfl, fun b o hb _ e => Heap.get?_push_of_some _ (k₂ _ _ hb (k₁ _ _ hb e))⟩

/-- what stands when `i` items were taken from the generator -/
structure LS (w : World) (Ag : Around) (hB : Heap) (C S a gi : Nat) (kvs : List (Nat × Value)) (s₀ : Shared) (i : Nat) (acc : Array Value) (c : Nat) (s : Shared) : Prop where
  isgen : s.heap.IsGen a gi
  hlist : s.heap.get? S = some (listObj acc c)
  size : acc.size = i
  items : ∀ j v, acc[j]? = some v → Yld w C S kvs j v s
  keep : ∀ b o, b ≠ C → hB.get? b = some o → s.heap.get? b = some o
  bare : AllBare s.gens
  same : s.os = s₀.os ∧ s.drawn = s₀.drawn
  go : ∃ gs, s.gens[gi]? = some gs ∧ gs.Goes (model prog w) Ag (itR C S) (itY w C S S kvs) (kvs.length - i) (.send .none) (s.setGen gi .running)
/-- what stands at the end -/
structure LE (w : World) (hB : Heap) (C S : Nat) (kvs : List (Nat × Value)) (s₀ : Shared) (acc : Array Value) (c : Nat) (s : Shared) : Prop where
  hlist : s.heap.get? S = some (listObj acc c)
  size : acc.size = kvs.length
  items : ∀ j v, acc[j]? = some v → Yld w C S kvs j v s
  keep : ∀ b o, b ≠ C → hB.get? b = some o → s.heap.get? b = some o
  bare : AllBare s.gens
  same : s.os = s₀.os ∧ s.drawn = s₀.drawn
theorem bare_set {gens : Array GenState} {g : Nat} {y : GenState} (x : AllBare gens) (hy : y.bare = true) : AllBare (gens.setIfInBounds g y) := by
  intro z hz
  obtain ⟨i, hi, rfl⟩ := Array.mem_iff_getElem.mp hz
  rw [Array.getElem_setIfInBounds (by simpa using hi)]
  split
  · exact hy
  · exact x _ (Array.getElem_mem (by simpa using hi))
theorem setSet {s : Shared} {g : Nat} {x y : GenState} : (s.setGen g x).setGen g y = s.setGen g y := by
  simp [Shared.setGen]

theorem it_extend {R : Result → Shared → Prop} {hB : Heap} {a gi : Nat} {s₀ : Shared} (hh : A.handled = none) (hdep : A.depth + 40 < 1000) (hCS : C < S) (haS : a < S) (haC : a ≠ C) (hSB : S = hB.objs.size)
    (hl : hB.NoLimit) (hlC : cStatics ≠ C) (hag : hB.IsGen a gi) (hn : kvs.length ≤ sizeLine) (res : Value)
    (hR : ∀ s' acc c, LE w hB C S kvs s₀ acc c s' → R (.ok (.ret res)) s') :
    ∀ (k i : Nat) (s : Shared) (acc : Array Value) (c : Nat), kvs.length - i = k → i ≤ kvs.length → LS w A.in1.in1 hB C S a gi kvs s₀ i acc c s →
      codeAny (model prog w) A (.builtin "list.extend.loop" ⟨[.ref S, .ref a, res], []⟩) R s := by
  have lim : ∀ {s : Shared}, (∀ b o, b ≠ C → hB.get? b = some o → s.heap.get? b = some o) → s.heap.NoLimit := fun k => let ⟨mc, hns, hnn⟩ := hl; ⟨mc, hns.at fun o e => k _ o hlC e, hnn⟩
  have hroom : A.in1.depth < recursionLimit := by show A.depth < 1000; omega
  intro k
  induction k with
  | zero =>
    intro i s acc c hk hi L
    obtain ⟨gs, hgs, hgo⟩ := L.go
    have e0 : kvs.length - i = 0 := hk
    rw [e0] at hgo
    refine codeAny_builtin PySem.F.entry_extend_loop ?_
    rw [Around.under_plainId PySem.F.plain_extend_loop _]
    show wpAny _ A.in1 (pyNext (.ref a) >>= _) _ _ s
    refine wpAny_bind (pyNext_own (A := A.in1) (P := fun n s₀ s₁ => n = 0 ∧ Step C S s₀ s₁) hh (lim L.keep) hroom L.isgen hgs hgo (fun v s₁ gs' hb hv => ?dead) (fun s₁ hp h' hk' => ?_))
    case dead =>
      obtain ⟨⟨h₁, tk₁, rfl, k₁⟩, _, hkap⟩ := hv
      exact (hkap _ ⟨_, k₁ _ _ (Nat.ne_of_gt hCS) (.inr (by simp)) L.hlist⟩ fun _ _ _ e => e).elim
    obtain ⟨_, h₁, tk₁, rfl, k₁⟩ := hp
    have kk : ∀ b o, b ≠ C → (b < S ∨ o.cls ≠ .type "dict_itemiterator") → s.heap.get? b = some o → h'.get? b = some o := fun b o h1 h2 e => hk' b o (k₁ b o h1 h2 e)
    refine wpAny_pure (hR _ acc c ⟨kk _ _ (Nat.ne_of_gt hCS) (.inr (by simp)) L.hlist, by rw [L.size]; omega, fun j v e => ?_, fun b o hb e => kk b o hb (.inl (by rw [hSB]; exact Heap.lt_size e)) (L.keep b o hb e), bare_set (bare_set L.bare rfl) rfl, L.same⟩)
    obtain ⟨t, k, val, key, e1, e2, e3, e4, e5⟩ := L.items j v e
    exact ⟨t, k, val, key, e1, e2, e3, e4, kk _ _ e4.1 (.inr (by simp)) e5⟩
  | succ k ih =>
    intro i s acc c hk hi L
    obtain ⟨gs, hgs, hgo⟩ := L.go
    rw [hk] at hgo
    refine codeAny_builtin PySem.F.entry_extend_loop ?_
    rw [Around.under_plainId PySem.F.plain_extend_loop _]
    show wpAny _ A.in1 (pyNext (.ref a) >>= _) _ _ s
    refine wpAny_bind (pyNext_own (A := A.in1) (P := fun n s₀ s₁ => n = 0 ∧ Step C S s₀ s₁) hh (lim L.keep) hroom L.isgen hgs hgo (fun v s₁ gs' hb hv => ?_) (fun s₁ hp h' hk' => absurd hp.1 (Nat.succ_ne_zero k)))
    obtain ⟨⟨h₁, tk₁, rfl, k₁⟩, hy, hkap⟩ := hv
    have hidx : kvs.length - 1 - (k + 1 - 1) = i := by omega
    rw [hidx] at hy
    have hS' : h₁.get? S = some (listObj acc c) := k₁ _ _ (Nat.ne_of_gt hCS) (.inr (by simp)) L.hlist
    have up : ∀ b o, b ≠ S → h₁.get? b = some o → (h₁.update S (Obj.mapSeq (·.push v))).get? b = some o := fun b o hb e => (Heap.get?_update_other _ _ (Ne.symm hb)).trans e
    have hYS : ∀ j v', Yld w C S kvs j v' { s.setGen gi .running with heap := h₁, toks := tk₁ } → Yld w C S kvs j v' { s with heap := h₁.update S (Obj.mapSeq (·.push v)), gens := (s.gens.setIfInBounds gi .running).setIfInBounds gi gs', toks := tk₁ } := by
      rintro j v' ⟨t, k, val, key, e1, e2, e3, e4, e5⟩
      refine ⟨t, k, val, key, e1, e2, e3, e4, up _ _ (fun q => ?_) e5⟩
      subst q
      have e6 : h₁.get? t = _ := e5
      rw [hS'] at e6
      have h3 := congrArg Obj.cls (Option.some.inj e6)
      injection h3 with h3
      exact absurd h3 (by decide)
    show wpAny _ A.in1 (updateSeq S (·.push v) >>= _) _ _ _
    refine wpAny_bind ?_
    refine wpAny_updateSeq (s := ({ s.setGen gi .running with heap := h₁, toks := tk₁ } : Shared).setGen gi gs') hS' rfl (wpAny_pure ⟨plainId_quiet PySem.F.plain_extend_loop _, ih (i + 1) _ (acc.push v) _ (by omega) (by omega) ⟨?_, Heap.get?_update_self _ hS' rfl, by rw [Array.size_push, L.size], ?_, ?_, ?_, L.same, gs', ?_, ?_⟩⟩) (by rw [L.size]; omega) (by show (acc.push v).size ≤ sizeLine + 1; rw [Array.size_push, L.size]; omega)
    · obtain ⟨o, nm, qn, ho, r⟩ := L.isgen
      exact ⟨o, nm, qn, up _ _ (Nat.ne_of_lt haS) (k₁ _ _ haC (.inl haS) ho), r⟩
    · intro j v' e
      rw [Array.getElem?_push] at e
      split at e
      · rename_i e'
        cases e
        rw [e', L.size]
        exact hYS i v hy
      · obtain ⟨t, k, val, key, e1, e2, e3, e4, e5⟩ := L.items j v' e
        exact hYS j v' ⟨t, k, val, key, e1, e2, e3, e4, k₁ _ _ e4.1 (.inr (by simp)) e5⟩
    · intro b o hb e
      have hbS : b < S := by rw [hSB]; exact Heap.lt_size e
      exact up b o (Nat.ne_of_lt hbS) (k₁ b o hb (.inl hbS) (L.keep b o hb e))
    · exact bare_set (bare_set L.bare rfl) hb
    · exact setGen_self (gs := .running) (setGen_self hgs)
    · have e : kvs.length - (i + 1) = k := by omega
      rw [e]
      exact hkap _ ⟨_, Heap.get?_update_self _ hS' rfl⟩ fun b o hb e => up b o hb e

theorem it_list {Q : Value → Shared → Prop} {a gi : Nat} (hh : A.handled = none) (hA : A.frames = some outer) (hdep : A.depth + 50 < 1000)
    (B : Below A₀ base outer g) (X : (hd.heap_39 w.params).In g) (T : Top p loose mean mg mb g) (D : GenF w g C x dx d kvs s.heap) (lo : (d == sysModules) = false)
    (haC : a ≠ C) (hag : s.heap.IsGen a gi) (hgen : s.gens[gi]? = some (.fresh (.func itBody (itEnv C)))) (hb : AllBare s.gens) (hn : kvs.length ≤ sizeLine)
    (hQ : ∀ s' acc c, LE w s.heap C s.heap.objs.size kvs s acc c s' → Q (.ref s.heap.objs.size) s') :
    wpAny (model prog w) A (call (.type "list") [.ref a]) Q E s := by
  obtain ⟨F, hx, hdx, hd⟩ := id D
  have hC : C < s.heap.objs.size := F.ns.lt
  have haS : a < s.heap.objs.size := let ⟨_, _, _, ho, _⟩ := hag; Heap.lt_size ho
  have hxS : x < s.heap.objs.size := Heap.lt_size hx.1
  have hdxS : dx < s.heap.objs.size := let ⟨_, _, ho, _⟩ := hdx; Heap.lt_size ho
  have hdS : d < s.heap.objs.size := let ⟨_, ho, _⟩ := hd; Heap.lt_size ho
  have hgk : ∀ b o, g.get? b = some o → b ≠ C := fun b o e => Nat.ne_of_lt (Nat.lt_of_lt_of_le (Heap.lt_size e) F.above)
  have hlC : cStatics ≠ C := by
    obtain ⟨mc, ⟨o, es, ep, ho, _⟩, _⟩ := T.nolimit
    exact hgk _ _ ho
  refine callType_codes (Q₁ := fun obj s₁ => obj = .ref s.heap.objs.size ∧ s₁ = { s with heap := s.heap.push { cls := .type "list", data := .seq #[] } }) PySem.F.called_list (PySem.F.typeCall_list_1 _) PySem.F.entry_list_init
    (code_list_new _ ⟨rfl, rfl⟩) fun obj s₁ h₁ => ?_
  obtain ⟨rfl, rfl⟩ := h₁
  have hS : (s.heap.push { cls := .type "list", data := .seq #[] }).get? s.heap.objs.size = some { cls := .type "list", data := .seq #[] } := Heap.get?_push_size _ rfl
  refine ⟨⟨_, hS, rfl⟩, PySem.F.args_list_init_2 _ _, ?_⟩
  generalize hSd : s.heap.objs.size = S at *
  have k0 : ∀ b o, b ≠ S → s.heap.get? b = some o → (s.heap.push { cls := .type "list", data := .seq #[] }).get? b = some o := fun b o _ e => Heap.get?_push_of_some _ e
  generalize hH : s.heap.push { cls := .type "list", data := .seq #[] } = H at *
  show wpAny _ A.in1.in1 (do let old ← Builtin.List.listItems (.ref S); Builtin.List.listUpdate (.ref S) (fun _ => #[]); letGo old.toList.reverse; Builtin.List.listExtendWith (.ref S) (.ref a) .none) _ _ _
  refine wpAny_bind ?_
  unfold Builtin.List.listItems
  refine wpAny_bind (wpAny_seqItems hS rfl (wpAny_pure ?_))
  show wpAny _ A.in1.in1 (updateSeq S (fun _ => #[]) >>= fun _ => letGo (#[] : Array Value).toList.reverse >>= fun _ => Builtin.List.listExtendWith (.ref S) (.ref a) .none) _ _ _
  refine wpAny_bind (wpAny_updateSeq hS rfl ?_)
  have hS₂ := Heap.get?_update_self (Obj.mapSeq (fun _ => (#[] : Array Value))) hS rfl
  have k2 : ∀ b o, b ≠ S → s.heap.get? b = some o → (H.update S (Obj.mapSeq (fun _ => (#[] : Array Value)))).get? b = some o :=
    fun b o hb e => (Heap.get?_update_other _ _ (Ne.symm hb)).trans (k0 b o hb e)
  generalize hH2 : H.update S (Obj.mapSeq (fun _ => (#[] : Array Value))) = H2 at *
  refine wpAny_bind (wpAny_letGo ?_)
  have gen2 : H2.IsGen a gi := let ⟨o, nm, qn, ho, r⟩ := hag; ⟨o, nm, qn, k2 _ _ (Nat.ne_of_lt haS) ho, r⟩
  unfold Builtin.List.listExtendWith
  refine wpAny_bind (wpAny_typeOf (s := { s with heap := H2 }) gen2.typeIs ?_)
  have h1 : Builtin.List.listSameRef (.ref S) (.ref a) = false := by simp [Builtin.List.listSameRef, Nat.ne_of_gt haS]
  have h2 : (Value.type "generator" == Value.type "list") = false := by decide
  have h3 : (Value.type "generator" == Value.type "tuple") = false := by decide
  simp only [h1, h2, h3, Bool.or_false, Bool.false_eq_true, if_false]
  refine wpAny_bind (wpAny_pyIter_gen gen2 ?_)
  refine wpAny_bind (wpAny_holding ?_)
  unfold Builtin.List.listLengthHint
  refine wpAny_bind (wpAny_specialOf (s := { s with heap := H2 }) gen2.typeIs PySem.F.gen_no_len ?_)
  show wpAny _ A.in1.in1 (specialOf (Value.ref a) (Str.ofString "__length_hint__") >>= _) _ _ _
  refine wpAny_bind (wpAny_specialOf (s := { s with heap := H2 }) gen2.typeIs PySem.F.gen_no_hint ?_)
  refine wpAny_pure ?_
  show wpAny _ A.in1.in1 (rule "list.extend.makes-room" >>= fun _ => Builtin.List.listTouch (.ref S) >>= fun _ =>
    again (.builtin "list.extend.loop" ⟨[.ref S, .ref a, .none], []⟩)) _ _ _
  refine wpAny_bind (wpAny_rule ?_)
  refine wpAny_bind ?_
  show wpAny _ A.in1.in1 (updateSeq S (·.push .none) >>= fun _ => updateSeq S (·.pop)) _ _ _
  refine wpAny_bind (wpAny_updateSeq (s := { s with heap := H2 }) hS₂ rfl ?_)
  have hS₃ := Heap.get?_update_self (Obj.mapSeq (·.push Value.none)) hS₂ rfl
  refine wpAny_updateSeq (hz := by seq_fits) hS₃ rfl ?_
  have hS₄ := Heap.get?_update_self (Obj.mapSeq (·.pop)) hS₃ rfl
  have k4 : ∀ b o, b ≠ S → s.heap.get? b = some o → ((H2.update S (Obj.mapSeq (·.push Value.none))).update S (Obj.mapSeq (·.pop))).get? b = some o :=
    fun b o hb e => (Heap.get?_update_other _ _ (Ne.symm hb)).trans ((Heap.get?_update_other _ _ (Ne.symm hb)).trans (k2 b o hb e))
  generalize hH4 : (H2.update S (Obj.mapSeq (·.push Value.none))).update S (Obj.mapSeq (·.pop)) = H4 at *
  refine wpAny_pure ⟨plainId_quiet PySem.F.plain_extend_loop _, it_extend (A := A.in1) (hB := s.heap) (s₀ := s) (a := a) (gi := gi) (C := C) (S := S) (kvs := kvs) hh (by show A.depth + 40 < 1000; omega) hC haS haC hSd.symm (T.nolimit.keeps F.keep) hlC hag hn .none
    (fun s' acc c L => ⟨rfl, hQ s' acc c L⟩) kvs.length 0 _ #[] _ (Nat.sub_zero _) (Nat.zero_le _) ⟨?_, hS₄, rfl, fun j v e => by simp at e, fun b o _ e => k4 b o (by rw [← hSd]; exact Nat.ne_of_lt (Heap.lt_size e)) e, hb, ⟨rfl, rfl⟩, _, hgen, ?_⟩⟩
  · exact let ⟨o, nm, qn, ho, r⟩ := hag; ⟨o, nm, qn, k4 _ _ (Nat.ne_of_lt haS) ho, r⟩
  · refine ⟨rfl, ?_⟩
    exact it_start (Ag := A.in1.in1.in1) B X T hA hh (by show A.depth + 30 < 1000; omega) hC (D.al hC hxS hdxS hdS k4) hdS lo hS₄
end
end
end Mine
namespace Mine
section
local macro_rules | `(tactic| k_room) => `(tactic| ((simp only [depth_under_make, depth_under_kw, depth_in1, depth_deeper, depth_caller, recursionLimit] at *); omega))
local macro_rules | `(tactic| k_mem) => `(tactic| assumption)
section
variable {w : World} {A A₀ : Around} {s : Shared} {base h₀ : Heap} {L : Addr} {m mg mb : Str → Option Value} {news : List (Addr × Obj)} {p : Program} {loose : List Str} {mean : ExcName → Option Value} {env : Env} {outer : List Env} {R : Result → Shared → Prop} {oid obj key v : Value}
  {x dx d : Addr} {o : Obj} {hs : Int} {tk : Tok} {kvs : List (Nat × Value)} {k : Nat} {g : Obj → List (Addr × Obj)}
theorem code_gen {K : Frag} {name qual : Str} {params : Arguments} {body : List Stmt} {scope : Scope} {dV kV doc pm cdv ct oc : Value} {an od : Option Addr} {osl : Array (Option Value)} {f : Addr} {args : Args} {binds : List (Str × Value)}
    (B : Below A₀ base outer h₀) (F : Fr h₀ L s.heap m) (X₀ : K.In h₀) (N : News h₀ L s.heap news) (T : Top p loose mean mg mb h₀) (hA : A.frames = some (env :: outer)) (hf : env.frame = some L) (hke : env.scope.kind = .function)
    (ho : K.lookup f = some ⟨oc, od, .func (fnOf name qual params body scope dV kV doc pm an cdv ct), osl⟩) (hcd : codeIn K cdv qual = true) (hroom : A.depth < recursionLimit)
    (hbind : BindsTo s (fnOf name qual params body scope dV kV doc pm an cdv ct) args binds) (hloc : ∀ y ∈ binds, scope.names.lookup y.1 = some .local)
    (h : ∀ g C h₁ tk, Fr h₀ L h₁ m → News h₀ L h₁ news → Fr g C h₁ (fun y => binds.reverse.lookup y) → Below A base (env :: outer) g → K.In g → Top p loose mean mg mb g → (∀ b o, s.heap.get? b = some o → b ≠ C ∧ h₁.get? b = some o) → C ≠ L → (∀ q ∈ news, g.get? q.1 = none) →
      ∀ a nm qn, a ≠ C → h₁.get? a = some { cls := .type "generator", data := .fields #[.int s.gens.size 0, nm, qn] } →
      R (.ok (.ret (.ref a))) { s with heap := h₁, gens := s.gens.push (.fresh (.func body (envOf qual scope C f cdv))), toks := tk })
    (hco : scope.isCoroutine = false) (hgen : scope.isGenerator = true) (hk : scope.kind = .function) (hcell : ∀ x ∈ scope.names, x.2 ≠ .cell) : codeAny (model prog w) A (.call (.ref f) args) R s := by
  obtain ⟨FG, BG, st, lv⟩ := groundX (R := R) B F N hA hf hke
  have st' : ∀ b o, h₀.get? b = some o → (hideAll s.heap (news.map (·.1))).get? b = some o := st
  refine codeAny_call_generator (fd := fnOf name qual params body scope dV kV doc pm an cdv ct) (body := body) hroom ((X₀.keeps F.keep) _ _ ho) rfl hco hgen rfl (codeRec_of (X₀.keeps F.keep) hcd) (hbind _ _ _ _ (wpAny_newFunctionEnv hcell hloc (fun h' hns hsb => ?_) hk))
  have kk : ∀ b o, s.heap.get? b = some o → h'.get? b = some o := fun b o e => hsb.extBut b o (Nat.ne_of_lt (Heap.lt_size e)) (Heap.get?_push_of_some _ e)
  have hsz : h'.objs.size = s.heap.objs.size + 1 := by rw [hsb.1, Heap.size_push]
  refine ⟨T.nolimit.keeps fun b o e => kk b o (F.keep b o e), ?_⟩
  have kp : ∀ b o, s.heap.get? b = some o → (h'.push { cls := .type "generator", data := .fields #[.int s.gens.size 0, .str name (s.toks + binds.length), .str qual (s.toks + binds.length + 1)] }).get? b = some o := fun b o e => Heap.get?_push_of_some _ (kk b o e)
  refine h (hideAll s.heap (news.map (·.1))) s.heap.objs.size _ _ (F.keeps kp) (fun q hq => ⟨kp _ _ (N q hq).1, (N q hq).2⟩) ⟨hns.at fun o e => Heap.get?_push_of_some _ e, fun b o e => kp b o (of_hideAll _ e), Nat.le_of_eq (hideAll_size _ _)⟩ BG (X₀.keeps st') (T.keeps st') (fun b o e => ⟨Nat.ne_of_lt (Heap.lt_size e), kp b o e⟩) (Nat.ne_of_gt F.ns.lt) (fun q hq => hideAll_none _ (List.mem_map_of_mem hq)) _ _ _ (by rw [hsz]; exact Nat.succ_ne_self _) (Heap.get?_push_size _ rfl)

/-- what `items()` leaves: a generator that has not begun -/
structure GenN (w : World) (A : Around) (base : Heap) (outer : List Env) (p : Program) (loose : List Str) (mean : ExcName → Option Value) (mg mb : Str → Option Value) (x dx d : Addr) (kvs : List (Nat × Value)) (h₀ : Heap) (L : Addr) (news : List (Addr × Obj)) (g : Heap) (C a gi : Nat) (s : Shared) : Prop where
  below : Below A base outer g
  inn : (hd.heap_39 w.params).In g
  top : Top p loose mean mg mb g
  gf : GenF w g C x dx d kvs s.heap
  haC : a ≠ C
  isgen : s.heap.IsGen a gi
  hgen : s.gens[gi]? = some (.fresh (.func itBody (itEnv C)))
  cL : C ≠ L
  c0 : ∀ b o, h₀.get? b = some o → b ≠ C
  cN : ∀ q ∈ news, q.1 ≠ C

theorem items_call (B : Below A₀ base outer h₀) (F : Fr h₀ L s.heap m) (X : (hd.heap_39 w.params).In h₀) (N : News h₀ L s.heap news) (T : Top p loose mean mg mb h₀) (hA : A.frames = some (env :: outer)) (hf : env.frame = some L) (hke : env.scope.kind = .function)
    (hdep : A.depth + 5 < 1000) (hx : (x, instObj 109 dx) ∈ news) (hdx : (dx, dictOf [⟨hs, .str (Str.ofString "_data") tk, .ref d⟩] 1) ∈ news) (hdo : (d, o) ∈ news) (hD : o.IsDictOf (mkind prog w) kvs)
    (h : ∀ g C a h' tk, Fr h₀ L h' m → News h₀ L h' news → GenN w A base (env :: outer) p loose mean mg mb x dx d kvs h₀ L news g C a s.gens.size { s with heap := h', gens := s.gens.push (.fresh (.func itBody (itEnv C))), toks := tk } →
      R (.ok (.ret (.ref a))) { s with heap := h', gens := s.gens.push (.fresh (.func itBody (itEnv C))), toks := tk }) :
    codeAny (model prog w) A (.call (.ref 91) ⟨[.ref x], []⟩) R s := by
  revert X; unfold prog; k_fill; intro X
  refine' code_gen B F X N T hA hf hke ?k6 ?k7 ?k8 ?k9 ?kB ?_ ?c2 ?c3 ?c4 ?c5
  case k6 => k_is
  case k7 => k_is
  case k8 => show A.depth < 1000; omega
  case k9 => exact BindsTo.of_eq rfl
  case kB => exact locs rfl
  case c2 => exact rfl
  case c3 => exact rfl
  case c4 => exact rfl
  case c5 => decide
  intro g' C h' tk' F' N' FG BG XG TG kk hCL hgn a nm qn haC ha
  refine h g' C a h' tk' F' N' ⟨BG, XG, TG, ⟨FG, ⟨(N' _ hx).1, (kk _ _ (N _ hx).1).1, hgn _ hx⟩, ⟨hs, tk, (N' _ hdx).1, (kk _ _ (N _ hdx).1).1, hgn _ hdx⟩, ⟨o, (N' _ hdo).1, (kk _ _ (N _ hdo).1).1, hgn _ hdo, hD⟩⟩, haC, ⟨_, nm, qn, ha, rfl, rfl, rfl⟩, ?_, hCL, fun b o e => (kk b o (F.keep b o e)).1, fun q hq => (kk _ _ (N q hq).1).1⟩
  simp

theorem items_list {E : Value → Shared → Prop} {Q : Value → Shared → Prop} {gh : Heap} {C a gi : Nat} (hh : A.handled = none) (hA : A.frames = some outer) (hdep : A.depth + 50 < 1000) (F : Fr h₀ L s.heap m) (N : News h₀ L s.heap news)
    (G : GenN w A₀ base outer p loose mean mg mb x dx d kvs h₀ L news gh C a gi s) (lo : (d == sysModules) = false) (hb : AllBare s.gens) (hn : kvs.length ≤ 16777216)
    (hQ : ∀ (s' : Shared) (S : Addr) (acc : Array Value) (c : Nat), Fr h₀ L s'.heap m → News h₀ L s'.heap ((S, listObj acc c) :: news) → acc.size = kvs.length →
      (∀ (j : Nat) (v : Value), acc[j]? = some v → ∃ (t : Addr) (k : Nat) (val key : Value), v = Value.ref t ∧ kvs[j]? = some (k, val) ∧ kis k key = true ∧ t ≠ L ∧ h₀.get? t = none ∧ s'.heap.get? t = some { cls := .type "tuple", data := .seq #[key, val] }) →
      AllBare s'.gens → s'.os = s.os → Q (.ref S) s') :
    wpAny (model prog w) A (call (.type "list") [.ref a]) Q E s := by
  refine it_list hh hA hdep G.below G.inn G.top G.gf lo G.haC G.isgen G.hgen hb (by rw [sizeLine_eq]; omega) fun s' acc c L' => ?_
  have kp : ∀ b o, h₀.get? b = some o → s'.heap.get? b = some o := fun b o e => L'.keep b o (G.c0 b o e) (F.keep b o e)
  have FL : Fr h₀ L s'.heap m := ⟨F.ns.at fun o e => L'.keep L o (Ne.symm G.cL) e, kp, F.above⟩
  have hLs : L < s.heap.objs.size := F.ns.lt
  refine hQ s' _ acc c FL (fun q hq => ?_) L'.size (fun j v e => ?_) L'.bare L'.same.1
  · rcases List.mem_cons.mp hq with rfl | hq
    · refine ⟨L'.hlist, Nat.ne_of_gt hLs, ?_⟩
      cases e : h₀.get? s.heap.objs.size with
      | none => rfl
      | some _ => exact absurd (Heap.lt_size (F.keep _ _ e)) (Nat.lt_irrefl _)
    · exact ⟨L'.keep _ _ (G.cN q hq) (N q hq).1, (N q hq).2⟩
  · obtain ⟨t, k, val, key, e1, e2, e3, e4, e5⟩ := L'.items j v e
    refine ⟨t, k, val, key, e1, e2, e3, Nat.ne_of_gt (Nat.lt_trans hLs e4.2), ?_, e5⟩
    cases e : h₀.get? t with
    | none => rfl
    | some _ => exact absurd (Heap.lt_size e) (Nat.not_lt.mpr (Nat.le_trans F.above (Nat.le_of_lt (Nat.lt_trans hLs e4.2))))
end
end
end Mine
namespace Mine
section
section
variable {w : World} {A : Around} {s : Shared} {E : Value → Shared → Prop} {h₀ : Heap} {L : Addr} {m : Str → Option Value} {news : List (Addr × Obj)} {v : Value}
theorem ne_pv {Q : Value → Shared → Prop} (X : (hd.heap_39 w.params).In h₀) (F : Fr h₀ L s.heap m) (N : News h₀ L s.heap news) (hu : A.units + 1 < cLine) (hp : PV news v)
    (h : Q (.bool false) s) : wpAny (model prog w) A (compareOp .NotEq v v) Q E s := by
  cases hp with
  | none => exact PySem.EqNone.ne_none_none h
  | int t => exact ne_int h
  | str t => exact ne_str (by simpa using h)
  | obj q dq es n h1 _ =>
    revert X; unfold prog; k_fill; intro X
    have hns : ∃ ns, s.heap.get? 342 = some ns ∧ s.heap.isNs 342 = true ∧ s.heap.nsMap 342 "__eq__" = none ∧ s.heap.nsMap 342 "__ne__" = none := by
      have e1 := F.keep _ _ (X 342 _ (by k_is))
      refine ⟨_, e1, ?_, ?_, ?_⟩
      · unfold Heap.isNs; rw [e1]; dsimp only; rw [← Array.all_toList]; rfl
      · unfold Heap.nsMap; rw [e1]; rfl
      · unfold Heap.nsMap; rw [e1]; rfl
    obtain ⟨ns, e1, e2, e3, e4⟩ := hns
    have hC : s.heap.CmpInst q 343 [.type "object"] := ⟨_, _, _, 342, _, _, _, _, _, _, _, _, _, _, _, _, _, _, (N _ h1).1, rfl, F.keep _ _ (X 343 _ (by k_is)), Heap.Ns.of_isNs e2, e3, e4⟩
    exact compareOp_ne_same PySem.F.cmp_object hC hu h
theorem ne_key {Q : Value → Shared → Prop} {a b : Value} {k : Nat} (ha : kis k a = true) (hb : kis k b = true) (h : Q (.bool false) s) : wpAny (model prog w) A (compareOp .NotEq a b) Q E s := by
  have sa := kshape ha
  have sb := kshape hb
  cases sa <;> cases sb
  · exact ne_bytes h
  · exact ne_bytes h
  · exact ne_bytes h
  · exact ne_int h
  · exact PySem.EqBoolInt.ne_int_bool h
  · exact PySem.EqBoolInt.ne_bool_int h
  · exact ne_bool h
  · exact ne_str (by simpa using h)
theorem ne_pair {Q : Value → Shared → Prop} {a b : Addr} {x y : Value} {c1 c2 : Nat} (ha : s.heap.get? a = some { cls := .type "tuple", data := .seq #[x, y] c1 }) (hb : s.heap.get? b = some { cls := .type "tuple", data := .seq #[x, y] c2 }) (hu : A.units < cLine)
    (h : Q (.bool false) s) : wpAny (model prog w) A (compareOp .NotEq (.ref a) (.ref b)) Q E s := by
  refine PySem.EqBoolInt.of_rcne (SeqAt.RcNeAt.tuples (e := fun _ => true) ⟨_, ha, rfl, _, rfl⟩ ⟨_, hb, rfl, _, rfl⟩ hu fun j h1 h2 => SeqAt.EqAt.same _) ?_
  have e : (!((List.range (min (#[x, y] : Array Value).size (#[x, y] : Array Value).size)).all (fun _ => true) && (#[x, y] : Array Value).size == (#[x, y] : Array Value).size)) = false := by simp
  rw [e]; exact h
end
end
end Mine
namespace Mine
section
local macro_rules | `(tactic| k_room) => `(tactic| ((simp only [depth_under_make, depth_under_kw, depth_in1, depth_deeper, depth_caller, recursionLimit] at *); omega))
local macro_rules | `(tactic| k_mem) => `(tactic| assumption)

abbrev smTurn : Stmt := Stmt.If (Expr.BoolOp BoolOp.Or [(((Expr.Name (Str.ofString "told") (pos 309 11 309 15)).Subscript (Expr.Name (Str.ofString "i") (pos 309 16 309 17)) (pos 309 11 309 18)).Subscript (Expr.Constant (Const.int 0) 0 (pos 309 19 309 20)) (pos 309 11 309 21)).Compare [CmpOp.NotEq] [((Expr.Name (Str.ofString "due") (pos 309 25 309 28)).Subscript (Expr.Name (Str.ofString "i") (pos 309 29 309 30)) (pos 309 25 309 31)).Subscript (Expr.Constant (Const.int 0) 0 (pos 309 32 309 33)) (pos 309 25 309 34)] (pos 309 11 309 34), (((Expr.Name (Str.ofString "told") (pos 309 38 309 42)).Subscript (Expr.Name (Str.ofString "i") (pos 309 43 309 44)) (pos 309 38 309 45)).Subscript (Expr.Constant (Const.int 1) 0 (pos 309 46 309 47)) (pos 309 38 309 48)).Compare [CmpOp.NotEq] [((Expr.Name (Str.ofString "due") (pos 309 52 309 55)).Subscript (Expr.Name (Str.ofString "i") (pos 309 56 309 57)) (pos 309 52 309 58)).Subscript (Expr.Constant (Const.int 1) 0 (pos 309 59 309 60)) (pos 309 52 309 61)] (pos 309 38 309 61)] (pos 309 11 309 61)) [Stmt.Return (some (Expr.Constant (Const.bool false) 0 (pos 310 19 310 24))) (pos 310 12 310 24)] [] (pos 309 8 310 24)
abbrev smFor : Stmt := Stmt.For (Expr.Name (Str.ofString "i") (pos 308 8 308 9)) ((Expr.Name (Str.ofString "range") (pos 308 13 308 18)).Call [(Expr.Name (Str.ofString "len") (pos 308 19 308 22)).Call [Expr.Name (Str.ofString "told") (pos 308 23 308 27)] [] (pos 308 19 308 28)] [] (pos 308 13 308 29)) [smTurn] [] (pos 308 4 310 24)
abbrev smScope : Scope := { kind := .function, names := [(Str.ofString "kept", .local), (Str.ofString "twin", .local), (Str.ofString "told", .local), (Str.ofString "due", .local), (Str.ofString "i", .local), (Str.ofString "list", .globalImplicit), (Str.ofString "len", .globalImplicit), (Str.ofString "range", .globalImplicit)], isGenerator := false, isCoroutine := false }
abbrev smEnv (L : Addr) : Env := envOf (Str.ofString "_law_same") smScope L 368 (.ref 367)
section
variable {w : World} {A A₀ : Around} {s : Shared} {base h₀ : Heap} {L : Addr} {m mg mb : Str → Option Value} {news : List (Addr × Obj)} {p : Program} {loose : List Str} {mean : ExcName → Option Value} {env : Env} {outer : List Env} {R : Result → Shared → Prop} {oid obj key v : Value}
  {x dx d e : Addr} {o oe : Obj} {hs : Int} {tk : Tok} {kvs : List (Nat × Value)} {k : Nat} {g : Obj → List (Addr × Obj)} {S1 S2 t1 t2 : Addr} {acc1 acc2 : Array Value} {c1 c2 : Nat} {j : Nat} {tj : Tok} {k1 k2 val : Value}
theorem item_l {Q : Value → Shared → Prop} {E : Value → Shared → Prop} {value slice : PySem.Expr} {l : Addr} {acc : Array Value} {c : Nat} {u : Tok} (N : News h₀ L s.heap news) (hm : (l, listObj acc c) ∈ news) (hj : acc[j]? = some v) (hjs : j < 2000) (h : Q v s)
    (hs : subscripted slice false (.ref l) (.int (j : Int) u) = operate [.ref l, .int (j : Int) u] (getItem (.ref l) (.int (j : Int) u)) := by with_unfolding_all rfl) :
    wpAny (model prog w) A (subscriptTail value slice (.ref l) (.int (j : Int) u)) Q E s :=
  have hl : s.heap.IsList l acc := ⟨_, (N _ hm).1, rfl, c, rfl⟩
  tail_any hl.typeIs slot_list_getitem.lookup (wpAny_getItem_list hl (by omega) (by omega) (by simpa using hj) h) hs
section
local macro_rules | `(tactic| walk_at "eval Name") => `(tactic| k_dflt (refine' ld ?F ?hv ?_; (case F => k_asm); (case hv => assumption)))
theorem same_turn {Q : Flow → Shared → Prop} {E : Value → Shared → Prop}
    (B : Below A₀ base outer h₀) (F : Fr h₀ L s.heap m) (X : (hd.heap_39 w.params).In h₀) (N : News h₀ L s.heap news) (T : Top p loose mean mg mb h₀) (hA : A.frames = some (smEnv L :: outer)) (hdep : A.depth + 10 < 1000) (hun : A.units + 100 < 9900)
    (hm1 : m (Str.ofString "told") = some (.ref S1)) (hm2 : m (Str.ofString "due") = some (.ref S2)) (hm3 : m (Str.ofString "i") = some (.int (j : Int) tj)) (hj : j < 2000)
    (hS1 : (S1, listObj acc1 c1) ∈ news) (hS2 : (S2, listObj acc2 c2) ∈ news) (ha1 : acc1[j]? = some (.ref t1)) (ha2 : acc2[j]? = some (.ref t2))
    (ht1 : (t1, { cls := .type "tuple", data := .seq #[k1, val] }) ∈ news) (ht2 : (t2, { cls := .type "tuple", data := .seq #[k2, val] }) ∈ news) (hk1 : kis k k1 = true) (hk2 : kis k k2 = true) (hv : PV news val)
    (h : ∀ h' tk, Fr h₀ L h' m → News h₀ L h' news → Q .next { s with heap := h', toks := tk }) :
    wpAny (model prog w) A (exec smTurn (smEnv L)) Q E s := by
  revert X; unfold prog; k_fill; intro X
  k_steps
  refine item_l (by k_asm) hS1 ha1 hj ?_
  k_steps
  refine item_l (by k_asm) hS2 ha2 hj ?_
  k_steps
  refine ne_key hk1 hk2 ?_
  k_steps
  refine item_l (by k_asm) hS1 ha1 hj ?_
  k_steps
  refine item_l (by k_asm) hS2 ha2 hj ?_
  k_steps
  refine ne_pv X (by k_asm) (by k_asm) (by show A.units + 1 < 9900; omega) hv ?_
  k_steps
  exact h _ _ (by assumption) (by assumption)
end
end
end
end Mine
namespace Mine
section
local macro_rules | `(tactic| k_room) => `(tactic| ((simp only [depth_under_make, depth_under_kw, depth_in1, depth_deeper, depth_caller, recursionLimit] at *); omega))
local macro_rules | `(tactic| k_mem) => `(tactic| assumption)


section
variable {w : World} {A A₀ : Around} {s : Shared} {base h₀ : Heap} {L : Addr} {m mg mb : Str → Option Value} {news : List (Addr × Obj)} {p : Program} {loose : List Str} {mean : ExcName → Option Value} {env : Env} {outer : List Env} {R : Result → Shared → Prop} {oid obj key v : Value}
  {x dx d e : Addr} {o oe : Obj} {hs : Int} {tk : Tok} {kvs : List (Nat × Value)} {k : Nat} {g : Obj → List (Addr × Obj)} {S1 S2 t1 t2 : Addr} {acc1 acc2 : Array Value} {c1 c2 : Nat} {j n : Nat} {tj : Tok} {k1 k2 val : Value}
section
local macro_rules | `(tactic| walk_at "eval Name") => `(tactic| k_dflt (refine' ld ?F ?hv ?_; (case F => k_asm); (case hv => assumption)))
theorem small_range (n : Nat) (hn : n ≤ 1000) : Builtin.Range.small 0 n 1 = true ∧ Builtin.Range.rangeSize 0 n 1 = (n : Int) := by
  have e : Builtin.Range.rangeSize 0 n 1 = (n : Int) := by
    unfold Builtin.Range.rangeSize
    rw [if_pos (by decide)]
    by_cases h : (0 : Int) < n
    · rw [if_pos h, Int.ediv_one]; omega
    · rw [if_neg h]; omega
  refine ⟨?_, e⟩
  have f : ∀ i : Int, 0 ≤ i → i ≤ 2000 → Builtin.Range.rangeFitsLong i = true := by
    intro i h1 h2
    unfold Builtin.Range.rangeFitsLong
    rw [Bool.and_eq_true, decide_eq_true_eq, decide_eq_true_eq]
    constructor <;> omega
  unfold Builtin.Range.small
  rw [e, if_pos (by decide), f 0 (by omega) (by omega), f 1 (by omega) (by omega), f n (by omega) (by omega), f (n + (1 - 1)) (by omega) (by omega), Bool.or_true]
  rfl
def RowAt (news : List (Addr × Obj)) (acc1 acc2 : Array Value) (j : Nat) : Prop :=
  ∃ (t1 t2 : Addr) (k : Nat) (k1 k2 val : Value), acc1[j]? = some (.ref t1) ∧ acc2[j]? = some (.ref t2) ∧ (t1, { cls := .type "tuple", data := .seq #[k1, val] }) ∈ news ∧ (t2, { cls := .type "tuple", data := .seq #[k2, val] }) ∈ news ∧ kis k k1 = true ∧ kis k k2 = true ∧ PV news val
theorem PV.mono {n1 n2 : List (Addr × Obj)} (h : ∀ q ∈ n1, q ∈ n2) {v : Value} (p : PV n1 v) : PV n2 v := by
  cases p with
  | none => exact .none
  | int t => exact .int t
  | str t => exact .str t
  | obj q dq es n a b => exact .obj q dq es n (h _ a) (h _ b)
theorem same_loop {Q : Flow → Shared → Prop} {E : Value → Shared → Prop} {r : Addr} {tt u v : Tok}
    (B : Below A₀ base outer h₀) (F : Fr h₀ L s.heap m) (X : (hd.heap_39 w.params).In h₀) (N : News h₀ L s.heap news) (T : Top p loose mean mg mb h₀) (hA : A.frames = some (smEnv L :: outer)) (hdep : A.depth + 10 < 1000) (hun : A.units + 100 < 9900) (hh : A.handled = none)
    (hm1 : m (Str.ofString "told") = some (.ref S1)) (hm2 : m (Str.ofString "due") = some (.ref S2)) (hn : n ≤ 1000)
    (hS1 : (S1, listObj acc1 c1) ∈ news) (hS2 : (S2, listObj acc2 c2) ∈ news) (rows : ∀ j, j < n → RowAt news acc1 acc2 j) (hr : IsRange s.heap r 0 n 1 tt u v)
    (h : ∀ h' tk m', Fr h₀ L h' m' → News h₀ L h' news → Q .next { s with heap := h', toks := tk }) :
    wpAny (model prog w) A (pyIter (.ref r)) (fun it s₂ => codeAny (model prog w) A (.forLoop (.Name (Str.ofString "i") (pos 308 8 308 9)) it [smTurn] [] (smEnv L)) (fun r s' => match r with | .ok f => Q f s' | .error e => cameBackBy (model prog w) A (smEnv L) E e s') s₂) E s := by
  refine wpAny_pyIter_range hr (small_range n hn).1 ?_
  rw [(small_range n hn).2]
  have hIL : s.heap.objs.size ≠ L := Nat.ne_of_gt F.ns.lt
  have hI0 : h₀.get? s.heap.objs.size = none := by
    cases e : h₀.get? s.heap.objs.size with
    | none => rfl
    | some _ => exact absurd (Heap.lt_size (F.keep _ _ e)) (Nat.lt_irrefl _)
  have hIN : ∀ q ∈ news, q.1 ≠ s.heap.objs.size := fun q hq => Nat.ne_of_lt (Heap.lt_size (N q hq).1)
  have hit0 : IsRangeIter (s.heap.push { cls := .type "range_iterator", data := .fields #[rawInt 0, rawInt n, rawInt 1] }) s.heap.objs.size 0 n 1 := Heap.get?_push_size _ rfl
  have F0 := F.push { cls := .type "range_iterator", data := .fields #[rawInt 0, rawInt n, rawInt 1] }
  have N0 : News h₀ L (s.heap.push { cls := .type "range_iterator", data := .fields #[rawInt 0, rawInt n, rawInt 1] }) news := fun q hq => ⟨Heap.get?_push_of_some _ (N q hq).1, (N q hq).2⟩
  generalize s.heap.push { cls := .type "range_iterator", data := .fields #[rawInt 0, rawInt n, rawInt 1] } = H at *
  generalize s.heap.objs.size = I at *
  refine codeAny_forLoop
    (fun k s' => ∃ h' tk m' i, s' = { s with heap := h', toks := tk } ∧ IsRangeIter h' I ((i : Nat) : Int) ((n : Int) - (i : Nat)) 1 ∧ Fr h₀ L h' m' ∧ News h₀ L h' news ∧ m' (Str.ofString "told") = some (.ref S1) ∧ m' (Str.ofString "due") = some (.ref S2) ∧ i ≤ n ∧ k = n + 1 - i)
    ?_ (n + 1) ⟨H, s.toks, m, 0, rfl, by simpa using hit0, F0, N0, hm1, hm2, Nat.zero_le _, rfl⟩
  rintro k s' ⟨h', tk, m', i, rfl, hit', F', N', e1, e2, hi, rfl⟩
  by_cases hlt : i < n
  · refine wpAny_pyNext_range_item hit' (by omega) fun h₂ hit₂ hs₂ => ?_
    replace hs₂ : Heap.SameBut I h' h₂ := hs₂
    have F₂ : Fr h₀ L h₂ m' := ⟨F'.ns.sameBut hs₂ (Ne.symm hIL), fun b o e => hs₂.extBut b o (fun q => by rw [q, hI0] at e; cases e) (F'.keep b o e), F'.above⟩
    have N₂ : News h₀ L h₂ ((I, { cls := .type "range_iterator", dict := none, data := .fields #[rawInt ((i : Int) + 1), rawInt ((n : Int) - (i : Nat) - 1), rawInt 1], slots := #[] }) :: news) := fun q hq => by
      rcases List.mem_cons.mp hq with rfl | hq
      · exact ⟨hit₂, hIL, hI0⟩
      · exact ⟨hs₂.extBut _ _ (hIN q hq) (N' q hq).1, (N' q hq).2⟩
    refine wpAny_assign_Name (stN F₂ N₂ (fun h₃ F₃ N₃ => ?_) rfl rfl)
    obtain ⟨t1, t2, k, k1, k2, val, a1, a2, a3, a4, a5, a6, a7⟩ := rows i hlt
    refine wpAny_execs_cons (same_turn (m := fun y => if y = Str.ofString "i" then some (.int (i : Int) tk) else m' y) (j := i) (tj := tk) B F₃ X N₃ T hA hdep hun e1 e2 rfl (by omega) (.tail _ hS1) (.tail _ hS2) a1 a2 (.tail _ a3) (.tail _ a4) a5 a6 (PV.mono (fun q hq => .tail _ hq) a7) fun h₄ tk₄ F₄ N₄ => ?_)
    refine wpAny_execs_nil ?_
    refine ⟨n + 1 - (i + 1), by omega, h₄, tk₄, _, i + 1, rfl, ?_, F₄, fun q hq => N₄ q (.tail _ hq), e1, e2, hlt, rfl⟩
    have e := (N₄ _ (.head _)).1
    have e3 : ((i + 1 : Nat) : Int) = (i : Int) + 1 := by push_cast; rfl
    have e4 : (n : Int) - ((i + 1 : Nat) : Int) = (n : Int) - (i : Int) - 1 := by push_cast; omega
    rw [e3, e4.trans rfl] at *
    exact e
  · have hin : i = n := by omega
    subst hin
    refine wpAny_pyNext_range_end hh hit' (by omega) fun h₂ he₂ => wpAny_execs_nil ?_
    replace he₂ : Heap.ExtBut I h' h₂ := he₂
    exact h h₂ tk m' ⟨F'.ns.extBut he₂ (Ne.symm hIL), fun b o e => he₂ b o (fun q => by rw [q, hI0] at e; cases e) (F'.keep b o e), F'.above⟩ fun q hq => ⟨he₂ _ _ (hIN q hq) (N' q hq).1, (N' q hq).2⟩
theorem same_for {Q : Flow → Shared → Prop} {E : Value → Shared → Prop}
    (B : Below A₀ base outer h₀) (F : Fr h₀ L s.heap m) (X : (hd.heap_39 w.params).In h₀) (N : News h₀ L s.heap news) (T : Top p loose mean mg mb h₀) (hA : A.frames = some (smEnv L :: outer)) (hdep : A.depth + 10 < 1000) (hun : A.units + 100 < 9900) (hh : A.handled = none)
    (hm1 : m (Str.ofString "told") = some (.ref S1)) (hm2 : m (Str.ofString "due") = some (.ref S2)) (hn : n ≤ 1000)
    (hS1 : (S1, listObj acc1 c1) ∈ news) (hS2 : (S2, listObj acc2 c2) ∈ news) (hz1 : acc1.size = n) (rows : ∀ j, j < n → RowAt news acc1 acc2 j)
    (h : ∀ h' tk m', Fr h₀ L h' m' → News h₀ L h' news → Q .next { s with heap := h', toks := tk }) :
    wpAny (model prog w) A (exec smFor (smEnv L)) Q E s := by
  refine wpAny_For ?_
  have X0 := X
  revert X; unfold prog; k_fill; intro X
  k_steps
  exact same_loop B (by assumption) X0 (by assumption) T hA hdep hun hh hm1 hm2 hn hS1 hS2 rows (by assumption) h
end
end
end
end Mine
namespace Mine
section
local macro_rules | `(tactic| k_room) => `(tactic| ((simp only [depth_under_make, depth_under_kw, depth_in1, depth_deeper, depth_caller, recursionLimit] at *); omega))
local macro_rules | `(tactic| k_mem) => `(tactic| assumption)



section
variable {w : World} {A A₀ : Around} {s : Shared} {base h₀ : Heap} {L : Addr} {m mg mb : Str → Option Value} {news : List (Addr × Obj)} {p : Program} {loose : List Str} {mean : ExcName → Option Value} {env : Env} {outer : List Env} {R : Result → Shared → Prop} {oid obj key v : Value}
  {x dx d e : Addr} {o oe : Obj} {hs : Int} {tk : Tok} {kvs : List (Nat × Value)} {k : Nat} {g : Obj → List (Addr × Obj)}
/-- the rows of a list of pairs -/
def Pairs1 (kvs : List (Nat × Value)) (nw : List (Addr × Obj)) (acc : Array Value) : Prop :=
  ∀ (j : Nat) (v : Value), acc[j]? = some v → ∃ (t : Addr) (k : Nat) (val key : Value), v = Value.ref t ∧ kvs[j]? = some (k, val) ∧ kis k key = true ∧ (t, { cls := .type "tuple", data := .seq #[key, val] }) ∈ nw
theorem Pairs1.mono {nw nw' : List (Addr × Obj)} {acc : Array Value} (p : Pairs1 kvs nw acc) (h : ∀ q ∈ nw, q ∈ nw') : Pairs1 kvs nw' acc := fun j v e =>
  let ⟨t, k, val, key, a, b, c, d⟩ := p j v e; ⟨t, k, val, key, a, b, c, h _ d⟩
theorem items_list' {E : Value → Shared → Prop} {Q : Value → Shared → Prop} {gh : Heap} {C a gi : Nat} (hh : A.handled = none) (hA : A.frames = some outer) (hdep : A.depth + 50 < 1000) (F : Fr h₀ L s.heap m) (N : News h₀ L s.heap news)
    (G : GenN w A₀ base outer p loose mean mg mb x dx d kvs h₀ L news gh C a gi s) (lo : (d == sysModules) = false) (hb : AllBare s.gens) (hn : kvs.length ≤ 1000)
    (hQ : ∀ (s' : Shared) (S : Addr) (acc : Array Value) (c : Nat) (nw : List (Addr × Obj)), Fr h₀ L s'.heap m → News h₀ L s'.heap nw → (∀ q ∈ news, q ∈ nw) → (S, listObj acc c) ∈ nw → acc.size = kvs.length → Pairs1 kvs nw acc → AllBare s'.gens → s'.os = s.os → Q (.ref S) s') :
    wpAny (model prog w) A (call (.type "list") [.ref a]) Q E s := by
  refine items_list hh hA hdep F N G lo hb (by omega) fun s' S acc c F' N' hz hacc hb' hos => ?_
  refine hQ s' S acc c (allNews h₀ L s'.heap) F' allNews_news (fun q hq => allNews_mem (N' q (.tail _ hq)).1 (N' q (.tail _ hq)).2.1 (N' q (.tail _ hq)).2.2) (allNews_mem (N' _ (.head _)).1 (N' _ (.head _)).2.1 (N' _ (.head _)).2.2) hz (fun j v e => ?_) hb' hos
  obtain ⟨t, k, val, key, e1, e2, e3, e4, e5, e6⟩ := hacc j v e
  exact ⟨t, k, val, key, e1, e2, e3, allNews_mem e6 e4 e5⟩
theorem due_list {E : Value → Shared → Prop} {Q : Value → Shared → Prop} {D : Addr} (hh : A.handled = none) (F : Fr h₀ L s.heap m) (N : News h₀ L s.heap news) (hv : (D, { cls := .type "dict_items", data := .fields #[.ref d] }) ∈ news)
    (hdo : (d, o) ∈ news) (hD : o.IsDictOf (mkind prog w) kvs) (hn : kvs.length ≤ 1000)
    (hQ : ∀ (h' : Heap) (tk : Nat) (S : Addr) (acc : Array Value) (c : Nat) (nw : List (Addr × Obj)), Fr h₀ L h' m → News h₀ L h' nw → (∀ q ∈ news, q ∈ nw) → (S, listObj acc c) ∈ nw → acc.size = kvs.length → Pairs1 kvs nw acc → Q (.ref S) { s with heap := h', toks := tk }) :
    wpAny (model prog w) A (call (.type "list") [.ref D]) Q E s := by
  obtain ⟨ep, hd⟩ := (kda_dict N hdo hD).dictAt
  refine kdx_call (knd := mkind prog w) hh ⟨_, (N _ hv).1, rfl, rfl⟩ hd (by rw [sizeLine_eq]; omega) fun h' tk acc c as hk hS hl hG hacc => ?_
  have hLs : L < s.heap.objs.size := F.ns.lt
  have F' := F.keeps hk
  have mem : ∀ {b : Addr} {o : Obj}, s.heap.objs.size ≤ b → h'.get? b = some o → (b, o) ∈ allNews h₀ L h' := fun {b o} hb e => by
    refine allNews_mem e (Nat.ne_of_gt (Nat.lt_of_lt_of_le hLs hb)) ?_
    cases e' : h₀.get? b with
    | none => rfl
    | some _ => exact absurd (Heap.lt_size (F.keep _ _ e')) (Nat.not_lt.mpr hb)
  refine hQ h' tk _ acc c (allNews h₀ L h') F' allNews_news (fun q hq => allNews_mem (hk _ _ (N q hq).1) (N q hq).2.1 (N q hq).2.2) (mem (Nat.le_refl _) hS) (by rw [← Array.length_toList, hacc, List.length_map, hl]) fun j v e => ?_
  rw [← Array.getElem?_toList, hacc, List.getElem?_map] at e
  obtain ⟨t, ht, rfl⟩ := Option.map_eq_some_iff.mp e
  obtain ⟨key, k, x, e1, e2, e3⟩ := hG.pairs j t ht
  exact ⟨t, k, x, key, rfl, e1, e2, mem (Nat.le_of_lt (hG.above t (List.mem_of_getElem? ht))) e3⟩
theorem rows_of {nw : List (Addr × Obj)} {acc1 acc2 : Array Value} (p1 : Pairs1 kvs nw acc1) (p2 : Pairs1 kvs nw acc2) (z1 : acc1.size = kvs.length) (z2 : acc2.size = kvs.length) (hp : ∀ q ∈ kvs, PV nw q.2) : ∀ j, j < kvs.length → RowAt nw acc1 acc2 j := by
  intro j hj
  have e1 : acc1[j]? = some acc1[j] := Array.getElem?_eq_getElem (by omega)
  have e2 : acc2[j]? = some acc2[j] := Array.getElem?_eq_getElem (by omega)
  obtain ⟨t1, k, val, k1, a1, a2, a3, a4⟩ := p1 j _ e1
  obtain ⟨t2, k', val', k2, b1, b2, b3, b4⟩ := p2 j _ e2
  rw [a2] at b2
  cases b2
  exact ⟨t1, t2, k, k1, k2, val, a1 ▸ e1, b1 ▸ e2, a4, b4, a3, b3, hp _ (List.mem_of_getElem? a2)⟩

theorem same_ok (B : Below A₀ base outer h₀) (F : Fr h₀ L s.heap m) (X : (hd.heap_39 w.params).In h₀) (N : News h₀ L s.heap news) (T : Top p loose mean mg mb h₀) (hA : A.frames = some (env :: outer)) (hf : env.frame = some L) (hke : env.scope.kind = .function)
    (hdep : A.depth + 100 < 1000) (hun : A.units + 200 < 9900) (hh : A.handled = none) (hb : AllBare s.gens)
    (hx : (x, instObj 109 dx) ∈ news) (hdx : (dx, dictOf [⟨hs, .str (Str.ofString "_data") tk, .ref d⟩] 1) ∈ news) (hdo : (d, o) ∈ news) (hD : o.IsDictOf (mkind prog w) kvs) (lo : (d == sysModules) = false)
    (heo : (e, oe) ∈ news) (hE : oe.IsDictOf (mkind prog w) kvs) (loe : (e == sysModules) = false) (hn : kvs.length ≤ 1000) (hp : ∀ q ∈ kvs, PV news q.2)
    (h : ∀ s', Fr h₀ L s'.heap m → News h₀ L s'.heap news → AllBare s'.gens → s'.os = s.os → R (.ok (.ret (.bool true))) s') :
    codeAny (model prog w) A (.call (.ref 368) ⟨[.ref x, .ref e], []⟩) R s := by
  revert X; unfold prog; k_fill; intro X
  refine' code_def B F X N T hA hf hke ?k6 ?k7 ?k8 ?k9 ?kB ?_ ?c2 ?c3 ?c4 ?c5
  case k6 => k_is
  case k7 => k_is
  case k8 => show A.depth < 1000; omega
  case k9 => exact BindsTo.of_eq rfl
  case kB => exact locs rfl
  case c2 => exact rfl
  case c3 => exact rfl
  case c4 => exact rfl
  case c5 => decide
  intro g' L' h' FG' F' N' B' X' T'
  try dsimp only
  generalize hFs : Stmt.For (Expr.Name (Str.ofString "i") (pos 308 8 308 9)) ((Expr.Name (Str.ofString "range") (pos 308 13 308 18)).Call [(Expr.Name (Str.ofString "len") (pos 308 19 308 22)).Call [Expr.Name (Str.ofString "told") (pos 308 23 308 27)] [] (pos 308 19 308 28)] [] (pos 308 13 308 29)) [Stmt.If (Expr.BoolOp BoolOp.Or [(((Expr.Name (Str.ofString "told") (pos 309 11 309 15)).Subscript (Expr.Name (Str.ofString "i") (pos 309 16 309 17)) (pos 309 11 309 18)).Subscript (Expr.Constant (Const.int 0) 0 (pos 309 19 309 20)) (pos 309 11 309 21)).Compare [CmpOp.NotEq] [((Expr.Name (Str.ofString "due") (pos 309 25 309 28)).Subscript (Expr.Name (Str.ofString "i") (pos 309 29 309 30)) (pos 309 25 309 31)).Subscript (Expr.Constant (Const.int 0) 0 (pos 309 32 309 33)) (pos 309 25 309 34)] (pos 309 11 309 34), (((Expr.Name (Str.ofString "told") (pos 309 38 309 42)).Subscript (Expr.Name (Str.ofString "i") (pos 309 43 309 44)) (pos 309 38 309 45)).Subscript (Expr.Constant (Const.int 1) 0 (pos 309 46 309 47)) (pos 309 38 309 48)).Compare [CmpOp.NotEq] [((Expr.Name (Str.ofString "due") (pos 309 52 309 55)).Subscript (Expr.Name (Str.ofString "i") (pos 309 56 309 57)) (pos 309 52 309 58)).Subscript (Expr.Constant (Const.int 1) 0 (pos 309 59 309 60)) (pos 309 52 309 61)] (pos 309 38 309 61)] (pos 309 11 309 61)) [Stmt.Return (some (Expr.Constant (Const.bool false) 0 (pos 310 19 310 24))) (pos 310 12 310 24)] [] (pos 309 8 310 24)] [] (pos 308 4 310 24) = Fs
  k_steps
  refine wpAny_call (items_call B' (by assumption) X' (by assumption) T' (Around.frames_deeper B'.stack) rfl rfl (by k_room) hx hdx hdo hD fun gh C a h1 tk1 F1 N1 G1 => ?_)
  dsimp only
  k_steps
  refine items_list' (by show A.handled = none; exact hh) (Around.frames_deeper B'.stack) (by k_room) F1 N1 G1 lo (AllBare.push hb rfl) hn fun s2 S acc c nw F2 N2 sub hS hsz hacc hb2 hos2 => ?_
  clear F1 N1 G1 N'
  have hx2 := sub _ hx
  have hdx2 := sub _ hdx
  have hdo2 := sub _ hdo
  have heo2 := sub _ heo
  k_steps
  refine kob_method (knd := mkind _ _) PySem.F.slot_dict_items PySem.F.type_dict_items (by k_asm) heo2 hE ?_
  dsimp only
  k_steps
  refine kdx_view (knd := mkind _ _) (by k_asm) (by k_asm) heo2 hE loe fun D h3 F3 N3 _ => ?_
  dsimp only
  k_steps
  refine due_list (by show A.handled = none; exact hh) F3 N3 (.head _) (.tail _ heo2) hE hn fun h4 tk4 S2 acc2 c2 nw4 F4 N4 sub4 hS2 hsz2 hacc2 => ?_
  have hx4 := sub4 _ (.tail _ hx2)
  have hdx4 := sub4 _ (.tail _ hdx2)
  have hdo4 := sub4 _ (.tail _ hdo2)
  have heo4 := sub4 _ (.tail _ heo2)
  have hS4 := sub4 _ (.tail _ hS)
  have hacc4 := hacc.mono fun q hq => sub4 q (.tail _ hq)
  have rows := rows_of hacc4 hacc2 hsz hsz2 fun q hq => PV.mono (fun q hq => sub4 q (.tail _ (sub q hq))) (hp q hq)
  have keepn : ∀ q ∈ news, q ∈ nw4 := fun q hq => sub4 q (.tail _ (sub q hq))
  clear F3 N3 hacc hacc2 hacc4
  dsimp only
  k_steps
  refine wpAny_call (len_ok B' (by assumption) X' (by assumption) T' (Around.frames_deeper B'.stack) rfl rfl (by k_room) hx4 hdx4 hdo4 hD lo (by omega) fun h5 tk5 t5 F5 N5 => ?_)
  refine ⟨⟨by omega, by omega⟩, ?_⟩
  dsimp only
  k_steps
  refine kda_len (knd := mkind _ _) (by k_asm) heo4 hE loe (by omega) ?_
  dsimp only
  k_steps
  · exact absurd rfl (by assumption)
  · exact absurd rfl (by assumption)
  · subst hFs
    refine wpAny_mono (same_for (n := kvs.length) (acc1 := acc) (acc2 := acc2) B' (by assumption) X' (by assumption) T' (Around.frames_deeper B'.stack) (by k_room) (by simp only [units_deeper]; omega) (by show A.handled = none; exact hh) rfl rfl hn hS4 hS2 hsz rows (Q := fun fl s' => fl = .next ∧ ∃ h' tk m', Fr g' L' h' m' ∧ News g' L' h' nw4 ∧ s' = { s2 with heap := h', toks := tk }) (E := fun _ _ => False) fun h' tk m' F6 N6 => ⟨rfl, h', tk, m', F6, N6, rfl⟩) (fun fl s' hfl => ?_) fun _ _ e => e.elim
    obtain ⟨rfl, h6, tk6, m6, F6, N6, rfl⟩ := hfl
    dsimp only
    k_steps
    exact h _ (by assumption) (fun q hq => (by assumption : News h₀ L _ nw4) q (keepn q hq)) hb2 hos2
end
end
end Mine
namespace Mine
section
local macro_rules | `(tactic| k_room) => `(tactic| ((simp only [depth_under_make, depth_under_kw, depth_in1, depth_deeper, depth_caller, recursionLimit] at *); omega))
local macro_rules | `(tactic| k_mem) => `(tactic| assumption)


abbrev tS0 : Stmt := Stmt.Assign [Expr.Tuple [Expr.Name (Str.ofString "kept") (pos 321 8 321 12), Expr.Name (Str.ofString "twin") (pos 321 14 321 18)] 0 (pos 321 8 321 18)] ((Expr.Name (Str.ofString "worlds") (pos 321 21 321 27)).Subscript (((Expr.Name (Str.ofString "v") (pos 321 28 321 29)).BinOp Operator.FloorDiv (Expr.Constant (Const.int 150) 0 (pos 321 33 321 36)) (pos 321 28 321 36)).BinOp Operator.Mod (Expr.Constant (Const.int 2) 0 (pos 321 39 321 40)) (pos 321 28 321 40)) (pos 321 21 321 41)) (pos 321 8 321 41)
abbrev tS1 : Stmt := Stmt.Assign [Expr.Name (Str.ofString "kind") (pos 322 8 322 12)] ((Expr.Name (Str.ofString "v") (pos 322 15 322 16)).BinOp Operator.Mod (Expr.Constant (Const.int 6) 0 (pos 322 19 322 20)) (pos 322 15 322 20)) (pos 322 8 322 20)
abbrev tS2 : Stmt := Stmt.Assign [Expr.Name (Str.ofString "key") (pos 323 8 323 11)] ((Expr.Name (Str.ofString "keys") (pos 323 14 323 18)).Subscript (((Expr.Name (Str.ofString "v") (pos 323 19 323 20)).BinOp Operator.FloorDiv (Expr.Constant (Const.int 6) 0 (pos 323 24 323 25)) (pos 323 19 323 25)).BinOp Operator.Mod (Expr.Constant (Const.int 5) 0 (pos 323 28 323 29)) (pos 323 19 323 29)) (pos 323 14 323 30)) (pos 323 8 323 30)
abbrev tS3 : Stmt := Stmt.Assign [Expr.Name (Str.ofString "value") (pos 324 8 324 13)] ((Expr.Name (Str.ofString "pool") (pos 324 16 324 20)).Subscript (((Expr.Name (Str.ofString "v") (pos 324 21 324 22)).BinOp Operator.FloorDiv (Expr.Constant (Const.int 30) 0 (pos 324 26 324 28)) (pos 324 21 324 28)).BinOp Operator.Mod (Expr.Constant (Const.int 5) 0 (pos 324 31 324 32)) (pos 324 21 324 32)) (pos 324 16 324 33)) (pos 324 8 324 33)
abbrev tS4 : Stmt := Stmt.Assign [Expr.Name (Str.ofString "there") (pos 325 8 325 13)] ((Expr.Name (Str.ofString "key") (pos 325 16 325 19)).Compare [CmpOp.In] [Expr.Name (Str.ofString "twin") (pos 325 23 325 27)] (pos 325 16 325 27)) (pos 325 8 325 27)
abbrev tS5 : Stmt := Stmt.If ((Expr.Name (Str.ofString "kind") (pos 326 11 326 15)).Compare [CmpOp.Eq] [Expr.Constant (Const.int 0) 0 (pos 326 19 326 20)] (pos 326 11 326 20)) [Stmt.If ((((Expr.Name (Str.ofString "kept") (pos 327 15 327 19)).Attribute (Str.ofString "_from_addr") (pos 327 15 327 30)).Call [((Expr.Name (Str.ofString "kept") (pos 327 31 327 35)).Attribute (Str.ofString "_save_addr") (pos 327 31 327 46)).Call [Expr.Name (Str.ofString "key") (pos 327 47 327 50), Expr.Name (Str.ofString "value") (pos 327 52 327 57)] [] (pos 327 31 327 58)] [] (pos 327 15 327 59)).Compare [CmpOp.NotEq] [Expr.Name (Str.ofString "value") (pos 327 63 327 68)] (pos 327 15 327 68)) [Stmt.Return (some (Expr.Constant (Const.bool false) 0 (pos 328 23 328 28))) (pos 328 16 328 28)] [] (pos 327 12 328 28), Stmt.Assign [(Expr.Name (Str.ofString "kept") (pos 329 12 329 16)).Subscript (Expr.Name (Str.ofString "key") (pos 329 17 329 20)) (pos 329 12 329 21)] (Expr.Name (Str.ofString "value") (pos 329 24 329 29)) (pos 329 12 329 29), Stmt.Assign [(Expr.Name (Str.ofString "twin") (pos 330 12 330 16)).Subscript (Expr.Name (Str.ofString "key") (pos 330 17 330 20)) (pos 330 12 330 21)] (Expr.Name (Str.ofString "value") (pos 330 24 330 29)) (pos 330 12 330 29)] [Stmt.If ((Expr.Name (Str.ofString "kind") (pos 331 13 331 17)).Compare [CmpOp.Eq] [Expr.Constant (Const.int 1) 0 (pos 331 21 331 22)] (pos 331 13 331 22)) [Stmt.If ((((Expr.Name (Str.ofString "kept") (pos 332 15 332 19)).Attribute (Str.ofString "get") (pos 332 15 332 23)).Call [Expr.Name (Str.ofString "key") (pos 332 24 332 27)] [] (pos 332 15 332 28)).Compare [CmpOp.NotEq] [((Expr.Name (Str.ofString "twin") (pos 332 32 332 36)).Attribute (Str.ofString "get") (pos 332 32 332 40)).Call [Expr.Name (Str.ofString "key") (pos 332 41 332 44)] [] (pos 332 32 332 45)] (pos 332 15 332 45)) [Stmt.Return (some (Expr.Constant (Const.bool false) 0 (pos 333 23 333 28))) (pos 333 16 333 28)] [] (pos 332 12 333 28)] [Stmt.If ((Expr.Name (Str.ofString "kind") (pos 334 13 334 17)).Compare [CmpOp.Eq] [Expr.Constant (Const.int 2) 0 (pos 334 21 334 22)] (pos 334 13 334 22)) [Stmt.If ((((Expr.Name (Str.ofString "kept") (pos 335 15 335 19)).Attribute (Str.ofString "get") (pos 335 15 335 23)).Call [Expr.Name (Str.ofString "key") (pos 335 24 335 27), Expr.Name (Str.ofString "box") (pos 335 29 335 32)] [] (pos 335 15 335 33)).Compare [CmpOp.NotEq] [((Expr.Name (Str.ofString "twin") (pos 335 37 335 41)).Attribute (Str.ofString "get") (pos 335 37 335 45)).Call [Expr.Name (Str.ofString "key") (pos 335 46 335 49), Expr.Name (Str.ofString "box") (pos 335 51 335 54)] [] (pos 335 37 335 55)] (pos 335 15 335 55)) [Stmt.Return (some (Expr.Constant (Const.bool false) 0 (pos 336 23 336 28))) (pos 336 16 336 28)] [] (pos 335 12 336 28)] [Stmt.If ((Expr.Name (Str.ofString "kind") (pos 337 13 337 17)).Compare [CmpOp.Eq] [Expr.Constant (Const.int 3) 0 (pos 337 21 337 22)] (pos 337 13 337 22)) [Stmt.If (((Expr.Name (Str.ofString "_law_told") (pos 338 15 338 24)).Call [Expr.Lambda { posonlyargs := [], args := [], vararg := none, kwonlyargs := [], kw_defaults := [], kwarg := none, defaults := [] } ((Expr.Name (Str.ofString "kept") (pos 338 33 338 37)).Subscript (Expr.Name (Str.ofString "key") (pos 338 38 338 41)) (pos 338 33 338 42)) { kind := ScopeKind.function, names := [(Str.ofString "kept", NameKind.free), (Str.ofString "key", NameKind.free)], isGenerator := false, isCoroutine := false } (pos 338 25 338 42)] [] (pos 338 15 338 43)).Compare [CmpOp.NotEq] [Expr.Tuple [Expr.Name (Str.ofString "there") (pos 338 48 338 53), (Expr.Name (Str.ofString "there") (pos 338 68 338 73)).IfExp ((Expr.Name (Str.ofString "twin") (pos 338 55 338 59)).Subscript (Expr.Name (Str.ofString "key") (pos 338 60 338 63)) (pos 338 55 338 64)) (Expr.Constant Const.none 0 (pos 338 79 338 83)) (pos 338 55 338 83)] 0 (pos 338 47 338 84)] (pos 338 15 338 84)) [Stmt.Return (some (Expr.Constant (Const.bool false) 0 (pos 339 23 339 28))) (pos 339 16 339 28)] [] (pos 338 12 339 28)] [Stmt.If ((Expr.Name (Str.ofString "kind") (pos 340 13 340 17)).Compare [CmpOp.Eq] [Expr.Constant (Const.int 4) 0 (pos 340 21 340 22)] (pos 340 13 340 22)) [Stmt.Assign [Expr.Name (Str.ofString "due") (pos 341 12 341 15)] (Expr.Tuple [Expr.Name (Str.ofString "there") (pos 341 19 341 24), (Expr.Name (Str.ofString "there") (pos 341 43 341 48)).IfExp (((Expr.Name (Str.ofString "twin") (pos 341 26 341 30)).Attribute (Str.ofString "pop") (pos 341 26 341 34)).Call [Expr.Name (Str.ofString "key") (pos 341 35 341 38)] [] (pos 341 26 341 39)) (Expr.Constant Const.none 0 (pos 341 54 341 58)) (pos 341 26 341 58)] 0 (pos 341 18 341 59)) (pos 341 12 341 59), Stmt.If (((Expr.Name (Str.ofString "_law_told") (pos 342 15 342 24)).Call [Expr.Lambda { posonlyargs := [], args := [], vararg := none, kwonlyargs := [], kw_defaults := [], kwarg := none, defaults := [] } (((Expr.Name (Str.ofString "kept") (pos 342 33 342 37)).Attribute (Str.ofString "pop") (pos 342 33 342 41)).Call [Expr.Name (Str.ofString "key") (pos 342 42 342 45)] [] (pos 342 33 342 46)) { kind := ScopeKind.function, names := [(Str.ofString "kept", NameKind.free), (Str.ofString "key", NameKind.free)], isGenerator := false, isCoroutine := false } (pos 342 25 342 46)] [] (pos 342 15 342 47)).Compare [CmpOp.NotEq] [Expr.Name (Str.ofString "due") (pos 342 51 342 54)] (pos 342 15 342 54)) [Stmt.Return (some (Expr.Constant (Const.bool false) 0 (pos 343 23 343 28))) (pos 343 16 343 28)] [] (pos 342 12 343 28)] [Stmt.If (((Expr.Name (Str.ofString "key") (pos 344 14 344 17)).Compare [CmpOp.In] [Expr.Name (Str.ofString "kept") (pos 344 21 344 25)] (pos 344 14 344 25)).Compare [CmpOp.NotEq] [Expr.Name (Str.ofString "there") (pos 344 30 344 35)] (pos 344 13 344 35)) [Stmt.Return (some (Expr.Constant (Const.bool false) 0 (pos 345 19 345 24))) (pos 345 12 345 24)] [] (pos 344 8 345 24)] (pos 340 8 345 24)] (pos 337 8 345 24)] (pos 334 8 345 24)] (pos 331 8 345 24)] (pos 326 8 345 24)
abbrev tS6 : Stmt := Stmt.If (Expr.BoolOp BoolOp.Or [Expr.UnaryOp UnaryOp.Not ((Expr.Name (Str.ofString "_law_same") (pos 346 15 346 24)).Call [((Expr.Name (Str.ofString "worlds") (pos 346 25 346 31)).Subscript (Expr.Constant (Const.int 0) 0 (pos 346 32 346 33)) (pos 346 25 346 34)).Subscript (Expr.Constant (Const.int 0) 0 (pos 346 35 346 36)) (pos 346 25 346 37), ((Expr.Name (Str.ofString "worlds") (pos 346 39 346 45)).Subscript (Expr.Constant (Const.int 0) 0 (pos 346 46 346 47)) (pos 346 39 346 48)).Subscript (Expr.Constant (Const.int 1) 0 (pos 346 49 346 50)) (pos 346 39 346 51)] [] (pos 346 15 346 52)) (pos 346 11 346 52), Expr.UnaryOp UnaryOp.Not ((Expr.Name (Str.ofString "_law_same") (pos 346 60 346 69)).Call [((Expr.Name (Str.ofString "worlds") (pos 346 70 346 76)).Subscript (Expr.Constant (Const.int 1) 0 (pos 346 77 346 78)) (pos 346 70 346 79)).Subscript (Expr.Constant (Const.int 0) 0 (pos 346 80 346 81)) (pos 346 70 346 82), ((Expr.Name (Str.ofString "worlds") (pos 346 84 346 90)).Subscript (Expr.Constant (Const.int 1) 0 (pos 346 91 346 92)) (pos 346 84 346 93)).Subscript (Expr.Constant (Const.int 1) 0 (pos 346 94 346 95)) (pos 346 84 346 96)] [] (pos 346 60 346 97)) (pos 346 56 346 97)] (pos 346 11 346 97)) [Stmt.Return (some (Expr.Constant (Const.bool false) 0 (pos 347 19 347 24))) (pos 347 12 347 24)] [] (pos 346 8 347 24)
abbrev lwIter : Expr := ((Expr.List [Expr.Constant (Const.int 2) 0 (pos 320 14 320 15)] (pos 320 13 320 16)).BinOp Operator.Add ((Expr.Name (Str.ofString "script") (pos 320 19 320 25)).Subscript (Expr.Slice none (some (Expr.Constant (Const.int 30) 0 (pos 320 27 320 29))) none (pos 320 26 320 29)) (pos 320 19 320 30)) (pos 320 13 320 30))
abbrev lwBody : List Stmt := [tS0, tS1, tS2, tS3, tS4, tS5, tS6]
abbrev lwFor : Stmt := Stmt.For (Expr.Name (Str.ofString "v") (pos 320 8 320 9)) lwIter lwBody [] (pos 320 4 347 24)
abbrev lw0 : Stmt := Stmt.Assign [Expr.Name (Str.ofString "box") (pos 313 4 313 7)] ((Expr.Name (Str.ofString "Persistent") (pos 313 10 313 20)).Call [] [] (pos 313 10 313 22)) (pos 313 4 313 22)
abbrev lw1 : Stmt := Stmt.Assign [Expr.Name (Str.ofString "pool") (pos 314 4 314 8)] (Expr.Tuple [(Expr.Name (Str.ofString "Persistent") (pos 314 12 314 22)).Call [] [] (pos 314 12 314 24), (Expr.Name (Str.ofString "Persistent") (pos 314 26 314 36)).Call [] [] (pos 314 26 314 38), Expr.Constant Const.none 0 (pos 314 40 314 44), Expr.Constant (Const.int 0) 0 (pos 314 46 314 47), Expr.Constant (Const.str (Str.ofString "")) 0 (pos 314 49 314 51)] 0 (pos 314 11 314 52)) (pos 314 4 314 52)
abbrev lw2 : Stmt := Stmt.Assign [Expr.Name (Str.ofString "keys") (pos 315 4 315 8)] (Expr.Tuple [Expr.Constant (Const.bytes [97]) 0 (pos 315 12 315 16), Expr.Constant (Const.bytes []) 0 (pos 315 18 315 21), Expr.Constant (Const.int 1) 0 (pos 315 23 315 24), Expr.Constant (Const.bool true) 0 (pos 315 26 315 30), Expr.Constant (Const.str (Str.ofString "a")) 0 (pos 315 32 315 35)] 0 (pos 315 11 315 36)) (pos 315 4 315 36)
abbrev lw3 : Stmt := Stmt.Assign [Expr.Name (Str.ofString "worlds") (pos 316 4 316 10)] (Expr.List [Expr.Tuple [(Expr.Name (Str.ofString "_WeakValueDictionary") (pos 316 15 316 35)).Call [] [] (pos 316 15 316 37), Expr.Dict [] [] (pos 316 39 316 41)] 0 (pos 316 14 316 42), Expr.Tuple [(Expr.Name (Str.ofString "_WeakValueDictionary") (pos 316 45 316 65)).Call [] [] (pos 316 45 316 67), Expr.Dict [] [] (pos 316 69 316 71)] 0 (pos 316 44 316 72)] (pos 316 13 316 73)) (pos 316 4 316 73)
abbrev lw4 : Stmt := Stmt.Assign [Expr.Tuple [Expr.Name (Str.ofString "kept") (pos 317 4 317 8), Expr.Name (Str.ofString "twin") (pos 317 10 317 14)] 0 (pos 317 4 317 14)] ((Expr.Name (Str.ofString "worlds") (pos 317 17 317 23)).Subscript (Expr.Constant (Const.int 0) 0 (pos 317 24 317 25)) (pos 317 17 317 26)) (pos 317 4 317 26)
abbrev lw5 : Stmt := Stmt.Assign [(Expr.Name (Str.ofString "kept") (pos 318 4 318 8)).Subscript (Expr.Constant (Const.bytes [102, 105, 114, 115, 116]) 0 (pos 318 9 318 17)) (pos 318 4 318 18)] ((Expr.Name (Str.ofString "pool") (pos 318 21 318 25)).Subscript (Expr.Constant (Const.int 0) 0 (pos 318 26 318 27)) (pos 318 21 318 28)) (pos 318 4 318 28)
abbrev lw6 : Stmt := Stmt.Assign [(Expr.Name (Str.ofString "twin") (pos 319 4 319 8)).Subscript (Expr.Constant (Const.bytes [102, 105, 114, 115, 116]) 0 (pos 319 9 319 17)) (pos 319 4 319 18)] ((Expr.Name (Str.ofString "pool") (pos 319 21 319 25)).Subscript (Expr.Constant (Const.int 0) 0 (pos 319 26 319 27)) (pos 319 21 319 28)) (pos 319 4 319 28)
abbrev lw8 : Stmt := Stmt.Return (some (((Expr.Name (Str.ofString "len") (pos 348 11 348 14)).Call [((Expr.Name (Str.ofString "worlds") (pos 348 15 348 21)).Subscript (Expr.Constant (Const.int 0) 0 (pos 348 22 348 23)) (pos 348 15 348 24)).Subscript (Expr.Constant (Const.int 0) 0 (pos 348 25 348 26)) (pos 348 15 348 27)] [] (pos 348 11 348 28)).Compare [CmpOp.Eq] [(Expr.Name (Str.ofString "len") (pos 348 32 348 35)).Call [((Expr.Name (Str.ofString "worlds") (pos 348 36 348 42)).Subscript (Expr.Constant (Const.int 0) 0 (pos 348 43 348 44)) (pos 348 36 348 45)).Subscript (Expr.Constant (Const.int 1) 0 (pos 348 46 348 47)) (pos 348 36 348 48)] [] (pos 348 32 348 49)] (pos 348 11 348 49))) (pos 348 4 348 49)
abbrev lwScope : Scope := { kind := .function, names := [(Str.ofString "script", NameKind.local), (Str.ofString "box", NameKind.local), (Str.ofString "pool", NameKind.local), (Str.ofString "keys", NameKind.local), (Str.ofString "worlds", NameKind.local), (Str.ofString "twin", NameKind.local), (Str.ofString "v", NameKind.local), (Str.ofString "kind", NameKind.local), (Str.ofString "value", NameKind.local), (Str.ofString "there", NameKind.local), (Str.ofString "due", NameKind.local), (Str.ofString "kept", NameKind.cell), (Str.ofString "key", NameKind.cell), (Str.ofString "Persistent", NameKind.globalImplicit), (Str.ofString "_WeakValueDictionary", NameKind.globalImplicit), (Str.ofString "_law_told", NameKind.globalImplicit), (Str.ofString "_law_same", NameKind.globalImplicit), (Str.ofString "len", NameKind.globalImplicit)], isGenerator := false, isCoroutine := false }
abbrev lwEnv (fa L ck cy : Addr) : Env := envX (Str.ofString "law") lwScope L fa (.ref 374) [(Str.ofString "key", cy), (Str.ofString "kept", ck)]
section
variable {h₀ h h' : Heap} {L a : Addr} {o : Obj} {m m' : Str → Option Value}
/-- a ledger of all that stands beside the frame, with chosen objects at its head -/
theorem led (F : Fr h₀ L h m) (ds : List (Addr × Obj)) (hds : ∀ q ∈ ds, h.get? q.1 = some q.2 ∧ q.1 ≠ L ∧ h₀.get? q.1 = none) :
    ∃ oth, News h₀ L h (ds ++ oth) ∧ (∀ q ∈ oth, q.1 ∉ ds.map (·.1)) ∧ (∀ a o, h.get? a = some o → a ≠ L → h₀.get? a = none → a ∉ ds.map (·.1) → (a, o) ∈ oth) ∧
      ∀ h' m', Fr h₀ L h' m' → News h₀ L h' oth → ∀ b o, b ≠ L → b ∉ ds.map (·.1) → h.get? b = some o → h'.get? b = some o := by
  refine ⟨(allNews h₀ L h).filter (fun p => decide (p.1 ∉ ds.map (·.1))), fun q hq => ?_, fun q hq => of_decide_eq_true (List.mem_filter.mp hq).2, fun a o e hL hn hd => List.mem_filter.mpr ⟨allNews_mem e hL hn, decide_eq_true hd⟩, fun h' m' F' N' b o hb hd e => ?_⟩
  · rcases List.mem_append.mp hq with hq | hq
    · exact hds q hq
    · exact allNews_news q (List.mem_filter.mp hq).1
  · cases hn : h₀.get? b with
    | none => exact (N' _ (List.mem_filter.mpr ⟨allNews_mem e hb hn, decide_eq_true hd⟩)).1
    | some o' =>
      have e1 := F.keep b o' hn
      rw [e] at e1
      cases e1
      exact F'.keep b o hn
end
section
variable {fa : Addr} {w : World} {A : Around} {s : Shared} {h₀ : Heap} {L : Addr} {news : List (Addr × Obj)} {v : Value}
theorem item_t {Q : Value → Shared → Prop} {E : Value → Shared → Prop} {value slice : PySem.Expr} {l : Addr} {items : Array Value} {i : Nat} {u : Tok} (N : News h₀ L s.heap news) (hm : (l, { cls := .type "tuple", data := .seq items }) ∈ news) (hj : items[i]? = some v) (hjs : i < 2000) (h : Q v s)
    (hs : subscripted slice false (.ref l) (.int (i : Int) u) = operate [.ref l, .int (i : Int) u] (getItem (.ref l) (.int (i : Int) u)) := by with_unfolding_all rfl) :
    wpAny (model prog w) A (subscriptTail value slice (.ref l) (.int (i : Int) u)) Q E s := by
  have hlt : i < items.size := by
    rcases Nat.lt_or_ge i items.size with h' | h'
    · exact h'
    · rw [Array.getElem?_eq_none h'] at hj; cases hj
  have ht : IsTup s.heap l items := ⟨_, (N _ hm).1, rfl, _, rfl⟩
  refine tail_any ht.typeIs slot_tuple_getitem.lookup (getItem_tuple ht (by omega) (by omega) (j := i) ?_ hj h) hs
  have hn : ¬ ((i : Int) < 0) := by omega
  simp [seqIndex?, hn, hlt]
end
end
end Mine
namespace Mine
section
local macro_rules | `(tactic| k_room) => `(tactic| ((simp only [depth_under_make, depth_under_kw, depth_in1, depth_deeper, depth_caller, recursionLimit] at *); omega))
local macro_rules | `(tactic| k_mem) => `(tactic| assumption)
section
variable {fa : Addr} {w : World} {A A₀ : Around} {s : Shared} {h₀ : Heap} {L : Addr} {m mg mb : Str → Option Value} {p : Program} {loose : List Str} {mean : ExcName → Option Value} {key val : Value} {x dx d e ck cy : Addr} {o oe oc oy : Obj} {kvs : List (Nat × Value)} {k : Nat}
section
local macro_rules | `(tactic| walk_at "eval Name") => `(tactic| (k_dflt (first | (refine' nameX_L ?F ?hv ?_; (case F => k_asm); (case hv => assumption); k_whole) | (refine' nameX_C ?N ?c ?m ?d ?_; (case N => k_asm); (case c => rfl); (case m => k_mem); (case d => assumption); k_whole))))

theorem p1 {Q : Flow → Shared → Prop} {E : Value → Shared → Prop} {oth : List (Addr × Obj)} {rest : List Stmt} {v : Int} {tv : Tok} {wl tw0 tw1 ky pl : Addr} {c1 : Nat} {v0 v1 : Option Value}
    (B : Below A₀ h₀ [] h₀) (F : Fr h₀ L s.heap m) (X : (hd.heap_39 w.params).In h₀) (N : News h₀ L s.heap ((ck, oc) :: (cy, oy) :: oth)) (T : Top p loose mean mg mb h₀) (hA : A.frames = some [lwEnv fa L ck cy]) (hdep : A.depth + 200 < 1000) (hun : A.units + 300 < 9900) (hh : A.handled = none)
    (hm1 : m (Str.ofString "v") = some (.int v tv)) (hm2 : m (Str.ofString "worlds") = some (.ref wl)) (hm3 : m (Str.ofString "keys") = some (.ref ky)) (hm4 : m (Str.ofString "pool") = some (.ref pl))
    {i0 i1 i2 : Nat} (hi0 : (v.fdiv 150).fmod 2 = (i0 : Int)) (hi1 : (v.fdiv 6).fmod 5 = (i1 : Int)) (hi2 : (v.fdiv 30).fmod 5 = (i2 : Int)) (b0 : i0 < 2) (b1 : i1 < 5) (b2 : i2 < 5) {tw : Addr} {keysA poolA : Array Value}
    (hwl : (wl, listObj #[.ref tw0, .ref tw1] c1) ∈ oth) (hwi : (#[.ref tw0, .ref tw1] : Array Value)[i0]? = some (.ref tw)) (htw : (tw, { cls := .type "tuple", data := .seq #[.ref x, .ref e] }) ∈ oth)
    (hky : (ky, { cls := .type "tuple", data := .seq keysA }) ∈ oth) (hk1 : keysA[i1]? = some key) (hpl : (pl, { cls := .type "tuple", data := .seq poolA }) ∈ oth) (hk2 : poolA[i2]? = some val)
    (hoc : oc.data = .cell v0) (hoy : oy.data = .cell v1) (ho1 : ∀ q ∈ oth, q.1 ≠ ck) (ho2 : ∀ q ∈ oth, q.1 ≠ cy) (hcc : cy ≠ ck)
    (heo : (e, oe) ∈ oth) (hE : oe.IsDictOf (mkind prog w) kvs) (loe : (e == sysModules) = false) (hkk : kis k key = true)
    (h : ∀ h' tk m' tk1 o4 o6, Fr h₀ L h' m' → News h₀ L h' ((ck, o4) :: (cy, o6) :: oth) → o4.data = .cell (some (.ref x)) → o6.data = .cell (some key) → m' (Str.ofString "twin") = some (.ref e) → m' (Str.ofString "kind") = some (.int (v.fmod 6) tk1) → m' (Str.ofString "value") = some val → m' (Str.ofString "there") = some (.bool (valueAt kvs k).isSome) →
      (∀ y, y ≠ Str.ofString "twin" → y ≠ Str.ofString "kind" → y ≠ Str.ofString "value" → y ≠ Str.ofString "there" → m' y = m y) → wpAny (model prog w) A (execs rest (lwEnv fa L ck cy)) Q E { s with heap := h', toks := tk })
    : wpAny (model prog w) A (execs (tS0 :: tS1 :: tS2 :: tS3 :: tS4 :: rest) (lwEnv fa L ck cy)) Q E s := by
  revert X; unfold prog; k_fill; intro X
  k_steps
  rw [hi0]
  refine item_l (by k_asm) (.tail _ (.tail _ hwl)) hwi (by omega) ?_
  dsimp only
  k_steps
  have ht : s.heap.IsTuple tw #[.ref x, .ref e] := ⟨_, (N _ (.tail _ (.tail _ htw))).1, rfl, _, rfl⟩
  refine wpAny_assign_Tuple hh ht rfl rfl fun h3 hx3 => ?_
  have k3 : ∀ b o, s.heap.get? b = some o → h3.get? b = some o := fun b o e => hx3 b o (Nat.ne_of_lt (Heap.lt_size e)) e
  have F3 : Fr h₀ L h3 m := F.keeps k3
  have N3 : News h₀ L h3 ((ck, oc) :: (cy, oy) :: oth) := fun q hq => ⟨k3 _ _ (N q hq).1, (N q hq).2⟩
  clear F N
  show wpAny _ _ (do holding [.ref e] (assign (.Name (Str.ofString "kept") (pos 321 8 321 12)) (lwEnv fa L ck cy) (.ref x)); do holding [] (assign (.Name (Str.ofString "twin") (pos 321 14 321 18)) (lwEnv fa L ck cy) (.ref e)); pure ()) _ _ _
  refine wpAny_bind (wpAny_holding (wpAny_assign_Name (storeX_C F3 N3 rfl (g := fun o' => (ck, o') :: (cy, oy) :: oth) (UpdF.head (List.forall_mem_cons.mpr ⟨hcc, ho1⟩)) hoc (fun h4 o4 F4 N4 d4 => ?_) rfl rfl)))
  refine wpAny_bind (wpAny_holding (wpAny_assign_Name (storeX_L F4 N4 (fun h5 F5 N5 => wpAny_pure ?_) rfl rfl)))
  dsimp only
  clear F3 N3 F4 N4
  k_steps
  rw [hi1]
  refine item_t (by k_asm) (.tail _ (.tail _ hky)) hk1 (by omega) ?_
  dsimp only
  k_steps
  refine storeX_C (by k_asm) (by k_asm) rfl (g := fun o' => (ck, o4) :: (cy, o') :: oth) (UpdF.tail (Ne.symm hcc) (UpdF.head ho2)) hoy (fun h6 o6 F6 N6 d6 => ?_) rfl rfl
  dsimp only
  k_steps
  rw [hi2]
  refine item_t (by k_asm) (.tail _ (.tail _ hpl)) hk2 (by omega) ?_
  dsimp only
  k_steps
  refine kda_in (knd := mkind _ _) (by k_asm) (.tail _ (.tail _ heo)) hE loe hkk _ rfl ?_
  dsimp only
  k_steps
  refine h _ _ _ _ _ _ (by assumption) (by assumption) d4 d6 rfl rfl rfl rfl (fun y h1 h2 h3 h4 => ?_)
  dsimp only
  rw [if_neg h4, if_neg h3, if_neg h2, if_neg h1]
end
end
end
end Mine
namespace Mine
section
local macro_rules | `(tactic| k_room) => `(tactic| ((simp only [depth_under_make, depth_under_kw, depth_in1, depth_deeper, depth_caller, recursionLimit] at *); omega))
local macro_rules | `(tactic| k_mem) => `(tactic| assumption)
section
variable {fa : Addr} {w : World} {A A₀ : Around} {s : Shared} {h₀ : Heap} {L : Addr} {m mg mb : Str → Option Value} {p : Program} {loose : List Str} {mean : ExcName → Option Value} {key val v : Value} {x dx d e ck cy : Addr} {o oe oc oy : Obj} {kvs : List (Nat × Value)} {k : Nat} {hs : Int} {tk tk0 : Tok} {oth nw : List (Addr × Obj)} {Q : Flow → Shared → Prop} {E : Value → Shared → Prop} {bx : Addr}
section
local macro_rules | `(tactic| walk_at "eval Name") => `(tactic| (k_dflt (first | (refine' nameX_L ?F ?hv ?_; (case F => k_asm); (case hv => assumption); k_whole) | (refine' nameX_C ?N ?c ?m ?d ?_; (case N => k_asm); (case c => rfl); (case m => k_mem); (case d => assumption); k_whole))))
theorem kind5
    (B : Below A₀ h₀ [] h₀) (F : Fr h₀ L s.heap m) (X : (hd.heap_39 w.params).In h₀) (N : News h₀ L s.heap ((ck, oc) :: (cy, oy) :: oth)) (T : Top p loose mean mg mb h₀) (hA : A.frames = some [lwEnv fa L ck cy]) (hdep : A.depth + 200 < 1000) (hun : A.units + 300 < 9900) (hh : A.handled = none)
    (hm1 : m (Str.ofString "kind") = some (.int 5 tk0)) (hm2 : m (Str.ofString "twin") = some (.ref e)) (hm3 : m (Str.ofString "value") = some val) (hm4 : m (Str.ofString "there") = some (.bool (valueAt kvs k).isSome)) (hm5 : m (Str.ofString "box") = some (.ref bx))
    (hoc : oc.data = .cell (some (.ref x))) (hoy : oy.data = .cell (some key))
    (hx : (x, instObj 109 dx) ∈ oth) (hdx : (dx, dictOf [⟨hs, .str (Str.ofString "_data") tk, .ref d⟩] 1) ∈ oth)
    (hdo : (d, o) ∈ oth) (heo : (e, oe) ∈ oth)
    (hD : o.IsDictOf (mkind prog w) kvs) (lo : (d == sysModules) = false) (hE : oe.IsDictOf (mkind prog w) kvs) (loe : (e == sysModules) = false) (hkk : kis k key = true) (hn : kvs.length ≤ 1000)
    (h : ∀ h' tk, Fr h₀ L h' m → News h₀ L h' ((ck, oc) :: (cy, oy) :: oth) → Q .next { s with heap := h', toks := tk }) :
    wpAny (model prog w) A (exec tS5 (lwEnv fa L ck cy)) Q E s := by
  revert X; unfold prog; k_fill; intro X
  k_steps
  refine wpAny_call (contains_ok B (by k_asm) X (by k_asm) T hA rfl rfl (by omega) (.tail _ (.tail _ hx)) (.tail _ (.tail _ hdx)) (.tail _ (.tail _ hdo)) hD hkk lo fun h1 tk1 F1 N1 => ?_)
  dsimp only
  k_steps
  · rename_i hc
    rw [bne_self_eq_false] at hc
    cases hc
  · exact h _ _ (by assumption) (by assumption)
theorem kind1_some
    (B : Below A₀ h₀ [] h₀) (F : Fr h₀ L s.heap m) (X : (hd.heap_39 w.params).In h₀) (N : News h₀ L s.heap ((ck, oc) :: (cy, oy) :: oth)) (T : Top p loose mean mg mb h₀) (hA : A.frames = some [lwEnv fa L ck cy]) (hdep : A.depth + 200 < 1000) (hun : A.units + 300 < 9900) (hh : A.handled = none)
    (hm1 : m (Str.ofString "kind") = some (.int 1 tk0)) (hm2 : m (Str.ofString "twin") = some (.ref e)) (hm3 : m (Str.ofString "value") = some val) (hm4 : m (Str.ofString "there") = some (.bool (valueAt kvs k).isSome)) (hm5 : m (Str.ofString "box") = some (.ref bx))
    (hoc : oc.data = .cell (some (.ref x))) (hoy : oy.data = .cell (some key))
    (hx : (x, instObj 109 dx) ∈ oth) (hdx : (dx, dictOf [⟨hs, .str (Str.ofString "_data") tk, .ref d⟩] 1) ∈ oth)
    (hdo : (d, o) ∈ oth) (heo : (e, oe) ∈ oth)
    (hD : o.IsDictOf (mkind prog w) kvs) (lo : (d == sysModules) = false) (hE : oe.IsDictOf (mkind prog w) kvs) (loe : (e == sysModules) = false) (hkk : kis k key = true) (hn : kvs.length ≤ 1000) (hv : valueAt kvs k = some v) (hpv : PV oth v)
    (h : ∀ h' tk, Fr h₀ L h' m → News h₀ L h' ((ck, oc) :: (cy, oy) :: oth) → Q .next { s with heap := h', toks := tk }) :
    wpAny (model prog w) A (exec tS5 (lwEnv fa L ck cy)) Q E s := by
  revert X; unfold prog; k_fill; intro X
  k_steps
  refine wpAny_call (get1_ok B (by k_asm) X (by k_asm) T hA rfl rfl (by omega) (.tail _ (.tail _ hx)) (.tail _ (.tail _ hdx)) (.tail _ (.tail _ hdo)) hD hkk lo hv (PV.mono (fun q hq => .tail _ (.tail _ hq)) hpv) fun h1 tk1 F1 N1 => ?_)
  dsimp only
  k_steps
  refine kob_method (knd := mkind _ _) PySem.F.slot_dict_get PySem.F.type_dict_get (by k_asm) (.tail _ (.tail _ heo)) hE ?_
  k_steps
  refine call_meetsIn PySem.F.slot_dict_get (kda_dict (by k_asm) (.tail _ (.tail _ heo)) hE).typeIs PySem.F.entry_dict_get (PySem.F.args_dict_get_2 _ _) (meets_dict_get (mkind _ _) _ hkk loe) ⟨_, (kda_dict (by k_asm) (.tail _ (.tail _ heo)) hE).mapOf, ?_⟩
  rw [hv]
  dsimp only [Option.getD_some, Option.getD_none]
  k_steps
  refine ne_pv X (by k_asm) (by k_asm) (by show A.units + 1 < 9900; omega) (PV.mono (fun q hq => .tail _ (.tail _ hq)) hpv) ?_
  k_steps
  exact h _ _ (by assumption) (by assumption)
theorem kind1_none
    (B : Below A₀ h₀ [] h₀) (F : Fr h₀ L s.heap m) (X : (hd.heap_39 w.params).In h₀) (N : News h₀ L s.heap ((ck, oc) :: (cy, oy) :: oth)) (T : Top p loose mean mg mb h₀) (hA : A.frames = some [lwEnv fa L ck cy]) (hdep : A.depth + 200 < 1000) (hun : A.units + 300 < 9900) (hh : A.handled = none)
    (hm1 : m (Str.ofString "kind") = some (.int 1 tk0)) (hm2 : m (Str.ofString "twin") = some (.ref e)) (hm3 : m (Str.ofString "value") = some val) (hm4 : m (Str.ofString "there") = some (.bool (valueAt kvs k).isSome)) (hm5 : m (Str.ofString "box") = some (.ref bx))
    (hoc : oc.data = .cell (some (.ref x))) (hoy : oy.data = .cell (some key))
    (hx : (x, instObj 109 dx) ∈ oth) (hdx : (dx, dictOf [⟨hs, .str (Str.ofString "_data") tk, .ref d⟩] 1) ∈ oth)
    (hdo : (d, o) ∈ oth) (heo : (e, oe) ∈ oth)
    (hD : o.IsDictOf (mkind prog w) kvs) (lo : (d == sysModules) = false) (hE : oe.IsDictOf (mkind prog w) kvs) (loe : (e == sysModules) = false) (hkk : kis k key = true) (hn : kvs.length ≤ 1000) (hv : valueAt kvs k = none)
    (h : ∀ h' tk, Fr h₀ L h' m → News h₀ L h' ((ck, oc) :: (cy, oy) :: oth) → Q .next { s with heap := h', toks := tk }) :
    wpAny (model prog w) A (exec tS5 (lwEnv fa L ck cy)) Q E s := by
  revert X; unfold prog; k_fill; intro X
  k_steps
  refine wpAny_call (get1_none B (by k_asm) X (by k_asm) T hA rfl rfl (by omega) (.tail _ (.tail _ hx)) (.tail _ (.tail _ hdx)) (.tail _ (.tail _ hdo)) hD hkk lo hv fun h1 tk1 F1 N1 => ?_)
  dsimp only
  k_steps
  refine kob_method (knd := mkind _ _) PySem.F.slot_dict_get PySem.F.type_dict_get (by k_asm) (.tail _ (.tail _ heo)) hE ?_
  k_steps
  refine call_meetsIn PySem.F.slot_dict_get (kda_dict (by k_asm) (.tail _ (.tail _ heo)) hE).typeIs PySem.F.entry_dict_get (PySem.F.args_dict_get_2 _ _) (meets_dict_get (mkind _ _) _ hkk loe) ⟨_, (kda_dict (by k_asm) (.tail _ (.tail _ heo)) hE).mapOf, ?_⟩
  rw [hv]
  dsimp only [Option.getD_some, Option.getD_none]
  k_steps
  exact h _ _ (by assumption) (by assumption)
theorem kind2_some
    (B : Below A₀ h₀ [] h₀) (F : Fr h₀ L s.heap m) (X : (hd.heap_39 w.params).In h₀) (N : News h₀ L s.heap ((ck, oc) :: (cy, oy) :: oth)) (T : Top p loose mean mg mb h₀) (hA : A.frames = some [lwEnv fa L ck cy]) (hdep : A.depth + 200 < 1000) (hun : A.units + 300 < 9900) (hh : A.handled = none)
    (hm1 : m (Str.ofString "kind") = some (.int 2 tk0)) (hm2 : m (Str.ofString "twin") = some (.ref e)) (hm3 : m (Str.ofString "value") = some val) (hm4 : m (Str.ofString "there") = some (.bool (valueAt kvs k).isSome)) (hm5 : m (Str.ofString "box") = some (.ref bx))
    (hoc : oc.data = .cell (some (.ref x))) (hoy : oy.data = .cell (some key))
    (hx : (x, instObj 109 dx) ∈ oth) (hdx : (dx, dictOf [⟨hs, .str (Str.ofString "_data") tk, .ref d⟩] 1) ∈ oth)
    (hdo : (d, o) ∈ oth) (heo : (e, oe) ∈ oth)
    (hD : o.IsDictOf (mkind prog w) kvs) (lo : (d == sysModules) = false) (hE : oe.IsDictOf (mkind prog w) kvs) (loe : (e == sysModules) = false) (hkk : kis k key = true) (hn : kvs.length ≤ 1000) (hv : valueAt kvs k = some v) (hpv : PV oth v)
    (h : ∀ h' tk, Fr h₀ L h' m → News h₀ L h' ((ck, oc) :: (cy, oy) :: oth) → Q .next { s with heap := h', toks := tk }) :
    wpAny (model prog w) A (exec tS5 (lwEnv fa L ck cy)) Q E s := by
  revert X; unfold prog; k_fill; intro X
  k_steps
  refine wpAny_call (get2_ok B (by k_asm) X (by k_asm) T hA rfl rfl (by omega) (.tail _ (.tail _ hx)) (.tail _ (.tail _ hdx)) (.tail _ (.tail _ hdo)) hD hkk lo hv (PV.mono (fun q hq => .tail _ (.tail _ hq)) hpv) fun h1 tk1 F1 N1 => ?_)
  dsimp only
  k_steps
  refine kob_method (knd := mkind _ _) PySem.F.slot_dict_get PySem.F.type_dict_get (by k_asm) (.tail _ (.tail _ heo)) hE ?_
  k_steps
  refine call_meetsIn PySem.F.slot_dict_get (kda_dict (by k_asm) (.tail _ (.tail _ heo)) hE).typeIs PySem.F.entry_dict_get (PySem.F.args_dict_get_3 _ _ _) (meets_dict_get_default (mkind _ _) _ hkk loe _) ⟨_, (kda_dict (by k_asm) (.tail _ (.tail _ heo)) hE).mapOf, ?_⟩
  rw [hv]
  dsimp only [Option.getD_some, Option.getD_none]
  k_steps
  refine ne_pv X (by k_asm) (by k_asm) (by show A.units + 1 < 9900; omega) (PV.mono (fun q hq => .tail _ (.tail _ hq)) hpv) ?_
  k_steps
  exact h _ _ (by assumption) (by assumption)
theorem kind2_none
    (B : Below A₀ h₀ [] h₀) (F : Fr h₀ L s.heap m) (X : (hd.heap_39 w.params).In h₀) (N : News h₀ L s.heap ((ck, oc) :: (cy, oy) :: oth)) (T : Top p loose mean mg mb h₀) (hA : A.frames = some [lwEnv fa L ck cy]) (hdep : A.depth + 200 < 1000) (hun : A.units + 300 < 9900) (hh : A.handled = none)
    (hm1 : m (Str.ofString "kind") = some (.int 2 tk0)) (hm2 : m (Str.ofString "twin") = some (.ref e)) (hm3 : m (Str.ofString "value") = some val) (hm4 : m (Str.ofString "there") = some (.bool (valueAt kvs k).isSome)) (hm5 : m (Str.ofString "box") = some (.ref bx))
    (hoc : oc.data = .cell (some (.ref x))) (hoy : oy.data = .cell (some key))
    (hx : (x, instObj 109 dx) ∈ oth) (hdx : (dx, dictOf [⟨hs, .str (Str.ofString "_data") tk, .ref d⟩] 1) ∈ oth)
    (hdo : (d, o) ∈ oth) (heo : (e, oe) ∈ oth)
    (hD : o.IsDictOf (mkind prog w) kvs) (lo : (d == sysModules) = false) (hE : oe.IsDictOf (mkind prog w) kvs) (loe : (e == sysModules) = false) (hkk : kis k key = true) (hn : kvs.length ≤ 1000) (hv : valueAt kvs k = none) (hpv : PV oth (.ref bx))
    (h : ∀ h' tk, Fr h₀ L h' m → News h₀ L h' ((ck, oc) :: (cy, oy) :: oth) → Q .next { s with heap := h', toks := tk }) :
    wpAny (model prog w) A (exec tS5 (lwEnv fa L ck cy)) Q E s := by
  revert X; unfold prog; k_fill; intro X
  k_steps
  refine wpAny_call (get2_none B (by k_asm) X (by k_asm) T hA rfl rfl (by omega) (.tail _ (.tail _ hx)) (.tail _ (.tail _ hdx)) (.tail _ (.tail _ hdo)) hD hkk lo hv fun h1 tk1 F1 N1 => ?_)
  dsimp only
  k_steps
  refine kob_method (knd := mkind _ _) PySem.F.slot_dict_get PySem.F.type_dict_get (by k_asm) (.tail _ (.tail _ heo)) hE ?_
  k_steps
  refine call_meetsIn PySem.F.slot_dict_get (kda_dict (by k_asm) (.tail _ (.tail _ heo)) hE).typeIs PySem.F.entry_dict_get (PySem.F.args_dict_get_3 _ _ _) (meets_dict_get_default (mkind _ _) _ hkk loe _) ⟨_, (kda_dict (by k_asm) (.tail _ (.tail _ heo)) hE).mapOf, ?_⟩
  rw [hv]
  dsimp only [Option.getD_some, Option.getD_none]
  k_steps
  refine ne_pv X (by k_asm) (by k_asm) (by show A.units + 1 < 9900; omega) (PV.mono (fun q hq => .tail _ (.tail _ hq)) hpv) ?_
  k_steps
  exact h _ _ (by assumption) (by assumption)
end
end
end
end Mine
namespace Mine
section
local macro_rules | `(tactic| k_room) => `(tactic| ((simp only [depth_under_make, depth_under_kw, depth_in1, depth_deeper, depth_caller, recursionLimit] at *); omega))
local macro_rules | `(tactic| k_mem) => `(tactic| assumption)

abbrev lp1 : Pos := pos 338 25 338 42
abbrev lp2 : Pos := pos 342 25 342 46
abbrev lamQual : Str := Str.ofString "law.<locals>." ++ Str.ofString "<lambda>"
def TabOK (ps : Array Value) (rest : List (Addr × Obj)) : Prop :=
  TriplesOk ps.toList ∧ ∀ q, q = lp1 ∨ q = lp2 → codeAmong q ps.toList = none ∨ ∃ (c' : Addr) (oc : Obj) (vs : Array Value) (t : Tok), codeAmong q ps.toList = some (.ref c') ∧ (c', oc) ∈ rest ∧ oc.data = .fields vs ∧ vs[1]? = some (.str lamQual t)
theorem TabOK.mono {ps : Array Value} {r r' : List (Addr × Obj)} (h : TabOK ps r) (k : ∀ q ∈ r, q ∈ r') : TabOK ps r' :=
  ⟨h.1, fun q hq => (h.2 q hq).imp id fun ⟨c', oc, vs, t, a, b, c, d⟩ => ⟨c', oc, vs, t, a, k _ b, c, d⟩⟩
theorem codeAmong_other {p q : Pos} {c : Value} (hpq : ¬ (q.line = p.line ∧ q.col = p.col)) : ∀ (l : List Value), TriplesOk l → codeAmong p (l ++ [rawInt q.line, rawInt q.col, c]) = codeAmong p l := by
  intro l h
  fun_induction TriplesOk l with
  | case1 =>
    simp only [List.nil_append, rawInt, codeAmong]
    rw [if_neg]
    intro hc
    simp only [Bool.and_eq_true, beq_iff_eq] at hc
    exact hpq ⟨by omega, by omega⟩
  | case2 a t b u x rest ih =>
    simp only [List.cons_append, codeAmong]
    split
    · rfl
    · exact ih h
  | case3 l h1 h2 => exact h.elim
theorem TabOK.step {ps : Array Value} {r : List (Addr × Obj)} {q : Pos} {c' : Addr} {oc : Obj} {vs : Array Value} {t : Tok} (h : TabOK ps r) (hq : q = lp1 ∨ q = lp2) (hn : codeAmong q ps.toList = none) (hoc : oc.data = .fields vs) (hvs : vs[1]? = some (.str lamQual t)) :
    TabOK (ps ++ #[rawInt q.line, rawInt q.col, .ref c']) ((c', oc) :: r) := by
  have e : (ps ++ #[rawInt q.line, rawInt q.col, Value.ref c']).toList = ps.toList ++ [rawInt q.line, rawInt q.col, .ref c'] := by simp
  refine ⟨by rw [e]; exact TriplesOk_snoc _ _ _ _ h.1, fun p hp => ?_⟩
  rw [e]
  by_cases hpq : q.line = p.line ∧ q.col = p.col
  · have : p = q := by
      rcases hp with rfl | rfl <;> rcases hq with rfl | rfl <;> first | rfl | (exact absurd hpq (by decide))
    subst this
    exact .inr ⟨c', oc, vs, t, codeAmong_snoc _ h.1 hn, .head _, hoc, hvs⟩
  · rw [codeAmong_other hpq _ h.1]
    exact (h.2 p hp).imp id fun ⟨c', oc, vs, t, a, b, c, d⟩ => ⟨c', oc, vs, t, a, .tail _ b, c, d⟩
section
variable {fa : Addr} {w : World} {A A₀ : Around} {s : Shared} {h₀ : Heap} {L : Addr} {m mg mb : Str → Option Value} {p : Program} {loose : List Str} {mean : ExcName → Option Value} {ck cy : Addr} {Q : Value → Shared → Prop} {E : Value → Shared → Prop}
theorem lam_mk {ps : Array Value} {rest : List (Addr × Obj)} {body : Expr} {lp : Pos} (F : Fr h₀ L s.heap m) (hC : CodeHd h₀ 374 370) (N : News h₀ L s.heap ((370, tabObj ps) :: rest)) (T : Top p loose mean mg mb h₀)
    (hr : ∀ q ∈ rest, q.1 ≠ 370) (tab : TabOK ps rest) (hlp : lp = lp1 ∨ lp = lp2)
    (h : ∀ (f c' : Addr) (oc : Obj) (vs : Array Value) (t : Tok) (pm ctv : Value) (h' : Heap) (tk : Nat) (ps' : Array Value) (rest' : List (Addr × Obj)), Fr h₀ L h' m →
      News h₀ L h' ((f, kla_obj (Str.ofString "<lambda>") lamQual lamParams body lamScope [(Str.ofString "key", cy), (Str.ofString "kept", ck)] pm c' ctv) :: (370, tabObj ps') :: rest') → (∀ q ∈ rest, q ∈ rest') → (∀ q ∈ rest', q.1 ≠ 370) →
      (c', oc) ∈ rest' → oc.data = .fields vs → vs[1]? = some (.str lamQual t) → TabOK ps' rest' → Q (.ref f) { s with heap := h', toks := tk }) :
    wpAny (model prog w) A (eval (.Lambda lamParams body lamScope lp) (lwEnv fa L ck cy)) Q E s := by
  refine kla_eval rfl ?_
  rcases tab.2 lp hlp with hn | ⟨c', oc, vs, t, a, b, c, d⟩
  · refine kla_nest (c := 374) (P := 370) (ps := ps) (g := fun o' => (370, o') :: rest) (clos := [(Str.ofString "key", cy), (Str.ofString "kept", ck)]) F N T hC rfl (UpdF.head hr) tab.1 hn rfl fun f c' oc vs t ctv h' tk F' N' hoc hvs hlt _ => ?_
    have h370 : 370 < c' := hlt _ (.head _)
    refine h f c' oc vs t ((mg "__name__").getD .none) ctv h' tk _ ((c', oc) :: rest) F' (fun q hq => N' q ?_) (fun q hq => .tail _ hq) (List.forall_mem_cons.mpr ⟨Nat.ne_of_gt h370, hr⟩) (.head _) hoc hvs (tab.step hlp hn hoc hvs)
    rcases List.mem_cons.mp hq with rfl | hq
    · exact .head _
    · rcases List.mem_cons.mp hq with rfl | hq
      · exact .tail _ (.tail _ (.head _))
      · rcases List.mem_cons.mp hq with rfl | hq
        · exact .tail _ (.head _)
        · exact .tail _ (.tail _ (.tail _ hq))
  · refine kla_hit (c := 374) (P := 370) (ps := ps) (clos := [(Str.ofString "key", cy), (Str.ofString "kept", ck)]) F N T hC rfl (.head _) tab.1 a rfl fun f ctv h' tk F' N' _ => ?_
    exact h f c' oc vs t ((mg "__name__").getD .none) ctv h' tk ps rest F' N' (fun q hq => hq) hr b c d tab
end
end
end Mine
namespace Mine
section
local macro_rules | `(tactic| k_room) => `(tactic| ((simp only [depth_under_make, depth_under_kw, depth_in1, depth_deeper, depth_caller, recursionLimit] at *); omega))
local macro_rules | `(tactic| k_mem) => `(tactic| assumption)

theorem refront {h₀ h : Heap} {L d : Addr} {o : Obj} {nw : List (Addr × Obj)} (N : News h₀ L h nw) (hd : (d, o) ∈ nw) :
    ∃ oth, News h₀ L h ((d, o) :: oth) ∧ (∀ q ∈ oth, q.1 ≠ d) ∧ ∀ q ∈ nw, q.1 ≠ d → q ∈ oth := by
  refine ⟨nw.filter (fun q => decide (q.1 ≠ d)), fun q hq => ?_, fun q hq => of_decide_eq_true (List.mem_filter.mp hq).2, fun q hq hn => List.mem_filter.mpr ⟨hq, decide_eq_true hn⟩⟩
  rcases List.mem_cons.mp hq with rfl | hq
  · exact N _ hd
  · exact N _ (List.mem_filter.mp hq).1
theorem ne_dict {w : World} {h₀ h : Heap} {L d : Addr} {o : Obj} {nw : List (Addr × Obj)} {kvs : List (Nat × Value)} {q : Addr × Obj} (N : News h₀ L h nw) (hd : (d, o) ∈ nw) (hD : o.IsDictOf (mkind prog w) kvs) (hq : q ∈ nw) (hne : ∀ es ep, q.2.data ≠ .dict es ep) : q.1 ≠ d := by
  intro e
  have h1 := (N q hq).1
  rw [e, (N _ hd).1] at h1
  cases h1
  obtain ⟨es, ep, _, hdat, _⟩ := hD
  exact hne _ _ hdat

/-- the places of the turn, all apart (a structure, so that omega does not split on it) -/
structure Dist (ck cy d e : Addr) (oth : List (Addr × Obj)) : Prop where
  n1 : ck ≠ d
  n2 : cy ≠ d
  n3 : (370 : Nat) ≠ d
  n4 : ck ≠ e
  n5 : cy ≠ e
  n6 : (370 : Nat) ≠ e
  n7 : d ≠ e
  n8 : ∀ q ∈ oth, q.1 ≠ d
  n9 : ∀ q ∈ oth, q.1 ≠ e
  n10 : ∀ q ∈ oth, q.1 ≠ 370
  n11 : ck ≠ 370
  n12 : cy ≠ 370
structure DistB (ck cy d e : Addr) (oth : List (Addr × Obj)) : Prop where
  get : Dist ck cy d e oth
theorem dist_of {ck cy d e : Addr} {oth : List (Addr × Obj)} (hnd : List.Nodup [370, ck, cy, d, e]) (ho : ∀ q ∈ oth, q.1 ∉ [370, ck, cy, d, e]) : DistB ck cy d e oth := by
  refine ⟨?_, ?_, ?_, ?_, ?_, ?_, ?_, ?_, ?_, ?_, ?_, ?_⟩
  · exact fun q => by simp [q] at hnd
  · exact fun q => by simp [q] at hnd
  · exact fun q => by simp [q] at hnd
  · exact fun q => by simp [q] at hnd
  · exact fun q => by simp [q] at hnd
  · exact fun q => by simp [q] at hnd
  · exact fun q => by simp [q] at hnd
  · exact fun q hq e' => ho q hq (by simp [e'])
  · exact fun q hq e' => ho q hq (by simp [e'])
  · exact fun q hq e' => ho q hq (by simp [e'])
  · exact fun q => by simp [q] at hnd
  · exact fun q => by simp [q] at hnd
section
variable {fa : Addr} {w : World} {A A₀ : Around} {s : Shared} {h₀ : Heap} {L : Addr} {m mg mb : Str → Option Value} {p : Program} {loose : List Str} {mean : ExcName → Option Value} {key val v : Value} {x dx d e ck cy : Addr} {o oe oc oy : Obj} {kvs : List (Nat × Value)} {k : Nat} {hs : Int} {tk tk0 : Tok} {oth nw : List (Addr × Obj)} {Q : Flow → Shared → Prop} {E : Value → Shared → Prop} {bx : Addr} {ps : Array Value}
section
local macro_rules | `(tactic| walk_at "compareOp NotEq ref ref") => `(tactic| (refine' ne_pair (News.get ?N1 ?m1) (News.get ?N2 ?m2) ?u ?_; (case N1 => k_asm); (case m1 => k_mem); (case N2 => k_asm); (case m2 => k_mem); (case u => (show _ < 9900; omega))))
local macro_rules | `(tactic| walk_at "eval Name") => `(tactic| (k_dflt (first | (refine' nameX_L ?F ?hv ?_; (case F => k_asm); (case hv => assumption); k_whole) | (refine' nameX_C ?N ?c ?m ?d ?_; (case N => k_asm); (case c => rfl); (case m => k_mem); (case d => assumption); k_whole))))
theorem kind3_some
    (B : Below A₀ h₀ [] h₀) (F : Fr h₀ L s.heap m) (X : (hd.heap_39 w.params).In h₀) (N : News h₀ L s.heap ((370, tabObj ps) :: (ck, oc) :: (cy, oy) :: (d, o) :: (e, oe) :: oth)) (T : Top p loose mean mg mb h₀) (hA : A.frames = some [lwEnv fa L ck cy]) (hdep : A.depth + 200 < 1000) (hun : A.units + 300 < 9900) (hh : A.handled = none)
    (hm1 : m (Str.ofString "kind") = some (.int 3 tk0)) (hm2 : m (Str.ofString "twin") = some (.ref e)) (hm3 : m (Str.ofString "value") = some val) (hm4 : m (Str.ofString "there") = some (.bool (valueAt kvs k).isSome)) (hm5 : m (Str.ofString "box") = some (.ref bx))
    (hoc : oc.data = .cell (some (.ref x))) (hoy : oy.data = .cell (some key))
    (hx : (x, instObj 109 dx) ∈ oth) (hdx : (dx, dictOf [⟨hs, .str (Str.ofString "_data") tk, .ref d⟩] 1) ∈ oth)
    (hD : o.IsDictOf (mkind prog w) kvs) (lo : (d == sysModules) = false) (hE : oe.IsDictOf (mkind prog w) kvs) (loe : (e == sysModules) = false) (hkk : kis k key = true) (hn : kvs.length ≤ 1000) (hC : CodeHd h₀ 374 370) (hnd : List.Nodup [370, ck, cy, d, e]) (ho : ∀ q ∈ oth, q.1 ∉ [370, ck, cy, d, e]) (tab : TabOK ps oth)
    (hv : valueAt kvs k = some v)
    (h : ∀ h' tk ps' rest', Fr h₀ L h' m → News h₀ L h' ((370, tabObj ps') :: rest') → (∀ q ∈ (ck, oc) :: (cy, oy) :: (d, o) :: (e, oe) :: oth, q ∈ rest') → TabOK ps' rest' → Q .next { s with heap := h', toks := tk }) :
    wpAny (model prog w) A (exec tS5 (lwEnv fa L ck cy)) Q E s := by
  rw [hv] at hm4
  dsimp only [Option.isSome_some, Option.isSome_none] at hm4
  have X0 := X
  have n := (dist_of hnd ho).get
  clear hnd ho
  revert X; unfold prog; k_fill; intro X
  k_steps
  have N0 := N
  refine lam_mk F hC N T (List.forall_mem_cons.mpr ⟨n.n11, List.forall_mem_cons.mpr ⟨n.n12, List.forall_mem_cons.mpr ⟨Ne.symm n.n3, List.forall_mem_cons.mpr ⟨Ne.symm n.n6, n.n10⟩⟩⟩⟩) (tab.mono fun q hq => (.tail _ (.tail _ (.tail _ (.tail _ hq))))) (.inl rfl) fun f c' oc' vs tt pm ctv h1 tk1 ps' rest' F1 N1 hs1 hr1 hc1 hd1 hv1 tab1 => ?_
  clear F N N0
  have mo : ∀ q ∈ oth, q ∈ rest' := fun q hq => hs1 q (.tail _ (.tail _ (.tail _ (.tail _ hq))))
  k_steps
  have hckm : (ck, oc) ∈ rest' := hs1 _ (.head _)
  have hcym : (cy, oy) ∈ rest' := hs1 _ (.tail _ (.head _))
  have hem : (e, oe) ∈ rest' := hs1 _ (.tail _ (.tail _ (.tail _ (.head _))))
  refine wpAny_call (told_item_ok B F1 X N1 T hA rfl rfl (by omega) hh (.tail _ (.tail _ (mo _ hx))) (.tail _ (.tail _ (mo _ hdx))) (.tail _ (.tail _ (hs1 _ (.tail _ (.tail _ (.head _)))))) hD hkk hv (.head _) (.tail _ (.tail _ hc1)) hd1 hv1 (.tail _ (.tail _ (hs1 _ (.head _)))) hoc (.tail _ (.tail _ (hs1 _ (.tail _ (.head _))))) hoy fun h2 tk2 q F2 N2 => ?_)
  dsimp only
  k_steps
  refine kda_item (knd := mkind _ _) (by k_asm) (.tail _ (.tail _ (.tail _ hem))) hE hkk hv ?_
  dsimp only
  walk1
  walk1
  refine ne_pair (News.get (by k_asm) (by k_mem)) (News.get (by k_asm) (by k_mem)) (by show _ < 9900; omega) ?_
  repeat' (first | exact h _ _ _ _ (by assumption) (fun z hz => (show News h₀ L _ _ from by assumption) z (.tail _ (.tail _ (.tail _ hz)))) hs1 tab1 | (k_unfold; (try dsimp only)) | walk1 | (dsimp only; walk1))
theorem kind3_none
    (B : Below A₀ h₀ [] h₀) (F : Fr h₀ L s.heap m) (X : (hd.heap_39 w.params).In h₀) (N : News h₀ L s.heap ((370, tabObj ps) :: (ck, oc) :: (cy, oy) :: (d, o) :: (e, oe) :: oth)) (T : Top p loose mean mg mb h₀) (hA : A.frames = some [lwEnv fa L ck cy]) (hdep : A.depth + 200 < 1000) (hun : A.units + 300 < 9900) (hh : A.handled = none)
    (hm1 : m (Str.ofString "kind") = some (.int 3 tk0)) (hm2 : m (Str.ofString "twin") = some (.ref e)) (hm3 : m (Str.ofString "value") = some val) (hm4 : m (Str.ofString "there") = some (.bool (valueAt kvs k).isSome)) (hm5 : m (Str.ofString "box") = some (.ref bx))
    (hoc : oc.data = .cell (some (.ref x))) (hoy : oy.data = .cell (some key))
    (hx : (x, instObj 109 dx) ∈ oth) (hdx : (dx, dictOf [⟨hs, .str (Str.ofString "_data") tk, .ref d⟩] 1) ∈ oth)
    (hD : o.IsDictOf (mkind prog w) kvs) (lo : (d == sysModules) = false) (hE : oe.IsDictOf (mkind prog w) kvs) (loe : (e == sysModules) = false) (hkk : kis k key = true) (hn : kvs.length ≤ 1000) (hC : CodeHd h₀ 374 370) (hnd : List.Nodup [370, ck, cy, d, e]) (ho : ∀ q ∈ oth, q.1 ∉ [370, ck, cy, d, e]) (tab : TabOK ps oth)
    (hv : valueAt kvs k = none)
    (h : ∀ h' tk ps' rest', Fr h₀ L h' m → News h₀ L h' ((370, tabObj ps') :: rest') → (∀ q ∈ (ck, oc) :: (cy, oy) :: (d, o) :: (e, oe) :: oth, q ∈ rest') → TabOK ps' rest' → Q .next { s with heap := h', toks := tk }) :
    wpAny (model prog w) A (exec tS5 (lwEnv fa L ck cy)) Q E s := by
  rw [hv] at hm4
  dsimp only [Option.isSome_some, Option.isSome_none] at hm4
  have X0 := X
  have n := (dist_of hnd ho).get
  clear hnd ho
  revert X; unfold prog; k_fill; intro X
  k_steps
  have N0 := N
  refine lam_mk F hC N T (List.forall_mem_cons.mpr ⟨n.n11, List.forall_mem_cons.mpr ⟨n.n12, List.forall_mem_cons.mpr ⟨Ne.symm n.n3, List.forall_mem_cons.mpr ⟨Ne.symm n.n6, n.n10⟩⟩⟩⟩) (tab.mono fun q hq => (.tail _ (.tail _ (.tail _ (.tail _ hq))))) (.inl rfl) fun f c' oc' vs tt pm ctv h1 tk1 ps' rest' F1 N1 hs1 hr1 hc1 hd1 hv1 tab1 => ?_
  clear F N N0
  have mo : ∀ q ∈ oth, q ∈ rest' := fun q hq => hs1 q (.tail _ (.tail _ (.tail _ (.tail _ hq))))
  k_steps
  have hckm : (ck, oc) ∈ rest' := hs1 _ (.head _)
  have hcym : (cy, oy) ∈ rest' := hs1 _ (.tail _ (.head _))
  have hem : (e, oe) ∈ rest' := hs1 _ (.tail _ (.tail _ (.tail _ (.head _))))
  refine wpAny_call (told_item_none B F1 X N1 T hA rfl rfl (by omega) hh (.tail _ (.tail _ (mo _ hx))) (.tail _ (.tail _ (mo _ hdx))) (.tail _ (.tail _ (hs1 _ (.tail _ (.tail _ (.head _)))))) hD hkk lo hv (.head _) (.tail _ (.tail _ hc1)) hd1 hv1 (.tail _ (.tail _ (hs1 _ (.head _)))) hoc (.tail _ (.tail _ (hs1 _ (.tail _ (.head _))))) hoy fun h2 tk2 q F2 N2 => ?_)
  dsimp only
  repeat' (first | exact h _ _ _ _ (by assumption) (fun z hz => (show News h₀ L _ _ from by assumption) z (.tail _ (.tail _ (.tail _ hz)))) hs1 tab1 | (k_unfold; (try dsimp only)) | walk1 | (dsimp only; walk1))
end
end
end
end Mine
namespace Mine
section
local macro_rules | `(tactic| k_room) => `(tactic| ((simp only [depth_under_make, depth_under_kw, depth_in1, depth_deeper, depth_caller, recursionLimit] at *); omega))
local macro_rules | `(tactic| k_mem) => `(tactic| assumption)
section
variable {fa : Addr} {w : World} {A A₀ : Around} {s : Shared} {h₀ : Heap} {L : Addr} {m mg mb : Str → Option Value} {p : Program} {loose : List Str} {mean : ExcName → Option Value} {key val v : Value} {x dx d e ck cy : Addr} {o oe oc oy : Obj} {kvs : List (Nat × Value)} {k : Nat} {hs : Int} {tk tk0 : Tok} {oth nw : List (Addr × Obj)} {Q : Flow → Shared → Prop} {E : Value → Shared → Prop} {bx : Addr} {ps : Array Value}
section
local macro_rules | `(tactic| walk_at "eval Name") => `(tactic| (k_dflt (first | (refine' nameX_L ?F ?hv ?_; (case F => k_asm); (case hv => assumption); k_whole) | (refine' nameX_C ?N ?c ?m ?d ?_; (case N => k_asm); (case c => rfl); (case m => k_mem); (case d => assumption); k_whole))))
theorem kind4_some
    (B : Below A₀ h₀ [] h₀) (F : Fr h₀ L s.heap m) (X : (hd.heap_39 w.params).In h₀) (N : News h₀ L s.heap ((370, tabObj ps) :: (ck, oc) :: (cy, oy) :: (d, o) :: (e, oe) :: oth)) (T : Top p loose mean mg mb h₀) (hA : A.frames = some [lwEnv fa L ck cy]) (hdep : A.depth + 200 < 1000) (hun : A.units + 300 < 9900) (hh : A.handled = none)
    (hm1 : m (Str.ofString "kind") = some (.int 4 tk0)) (hm2 : m (Str.ofString "twin") = some (.ref e)) (hm3 : m (Str.ofString "value") = some val) (hm4 : m (Str.ofString "there") = some (.bool (valueAt kvs k).isSome)) (hm5 : m (Str.ofString "box") = some (.ref bx))
    (hoc : oc.data = .cell (some (.ref x))) (hoy : oy.data = .cell (some key))
    (hx : (x, instObj 109 dx) ∈ oth) (hdx : (dx, dictOf [⟨hs, .str (Str.ofString "_data") tk, .ref d⟩] 1) ∈ oth)
    (hD : o.IsDictOf (mkind prog w) kvs) (lo : (d == sysModules) = false) (hE : oe.IsDictOf (mkind prog w) kvs) (loe : (e == sysModules) = false) (hkk : kis k key = true) (hn : kvs.length ≤ 1000) (hC : CodeHd h₀ 374 370) (hnd : List.Nodup [370, ck, cy, d, e]) (ho : ∀ q ∈ oth, q.1 ∉ [370, ck, cy, d, e]) (tab : TabOK ps oth)
    (hv : valueAt kvs k = some v)
    (h : ∀ h' tk m' ps' o' oe' rest', Fr h₀ L h' m' → (∀ y, y ≠ Str.ofString "due" → m' y = m y) → News h₀ L h' ((370, tabObj ps') :: (d, o') :: (e, oe') :: rest') → (∀ q ∈ (ck, oc) :: (cy, oy) :: oth, q ∈ rest') → TabOK ps' rest' →
      o'.IsDictOf (mkind prog w) (without kvs k) → oe'.IsDictOf (mkind prog w) (without kvs k) → Q .next { s with heap := h', toks := tk }) :
    wpAny (model prog w) A (exec tS5 (lwEnv fa L ck cy)) Q E s := by
  rw [hv] at hm4
  dsimp only [Option.isSome_some, Option.isSome_none] at hm4
  have X0 := X
  have n := (dist_of hnd ho).get
  clear hnd ho
  revert X; unfold prog; k_fill; intro X
  k_steps
  refine kob_method (knd := mkind _ _) PySem.F.slot_dict_pop PySem.F.type_dict_pop (by k_asm) (.tail _ (.tail _ (.tail _ (.tail _ (.head _))))) hE ?_
  dsimp only
  k_steps
  refine kob_pop (knd := mkind _ _) (more := []) (g := fun o' => (370, tabObj ps) :: (ck, oc) :: (cy, oy) :: (d, o) :: (e, o') :: oth) F N (UpdF.tail n.n6 (UpdF.tail n.n4 (UpdF.tail n.n5 (UpdF.tail n.n7 (UpdF.head n.n9))))) hE hkk (.inl rfl) (kpart hkk) (PySem.F.args_dict_pop_2 _ _) hv (by rw [sizeLine_eq]; omega) fun h3 oe3 F3 N3 hE3 => ?_
  clear F N
  dsimp only
  k_steps
  rename_i D1 h4 l1 h5 F5 N5
  have N6 : News h₀ L h5 ((370, tabObj ps) :: (D1, { cls := .type "tuple", data := .seq #[.bool true, v] }) :: (ck, oc) :: (cy, oy) :: (d, o) :: (e, oe3) :: oth) :=
    List.forall_mem_cons.mpr ⟨N5 _ (.tail _ (.head _)), List.forall_mem_cons.mpr ⟨N5 _ (.head _), fun z hz => N5 z (.tail _ (.tail _ hz))⟩⟩
  refine lam_mk F5 hC N6 T (List.forall_mem_cons.mpr ⟨Nat.ne_of_gt l1.1, List.forall_mem_cons.mpr ⟨n.n11, List.forall_mem_cons.mpr ⟨n.n12, List.forall_mem_cons.mpr ⟨Ne.symm n.n3, List.forall_mem_cons.mpr ⟨Ne.symm n.n6, n.n10⟩⟩⟩⟩⟩) (tab.mono fun q hq => (.tail _ (.tail _ (.tail _ (.tail _ (.tail _ hq)))))) (.inr rfl) fun f c' oc' vs tt pm ctv h6 tk6 ps' rest' F6 N7 hs1 hr1 hc1 hd1 hv1 tab1 => ?_
  have mo : ∀ q ∈ oth, q ∈ rest' := fun q hq => hs1 q (.tail _ (.tail _ (.tail _ (.tail _ (.tail _ hq)))))
  have hD1m : (D1, { cls := .type "tuple", data := .seq #[.bool true, v] }) ∈ rest' := hs1 _ (.head _)
  have hckm : (ck, oc) ∈ rest' := hs1 _ (.tail _ (.head _))
  have hcym : (cy, oy) ∈ rest' := hs1 _ (.tail _ (.tail _ (.head _)))
  have hdm : (d, o) ∈ rest' := hs1 _ (.tail _ (.tail _ (.tail _ (.head _))))
  have hem : (e, oe3) ∈ rest' := hs1 _ (.tail _ (.tail _ (.tail _ (.tail _ (.head _)))))
  clear N5 N6 F5
  walk1
  walk1
  obtain ⟨o2, N8, hd2, hm2⟩ := refront N7 (.tail _ (.tail _ hdm))
  have nf : f ≠ d := ne_dict (q := (f, _)) N7 (.tail _ (.tail _ hdm)) hD (.head _) (fun _ _ e => nomatch e)
  have nc : c' ≠ d := ne_dict (q := (c', oc')) N7 (.tail _ (.tail _ hdm)) hD (.tail _ (.tail _ hc1)) (fun _ _ e => by rw [hd1] at e; cases e)
  refine wpAny_call (told_pop_ok B F6 X N8 T hA rfl rfl (by omega) hh (.tail _ (hm2 _ (.tail _ (.tail _ (mo _ hx))) (n.n8 _ hx))) (.tail _ (hm2 _ (.tail _ (.tail _ (mo _ hdx))) (n.n8 _ hdx))) (.head _) (UpdF.head hd2) hD hkk hv (by rw [sizeLine_eq]; omega) (.tail _ (hm2 _ (.head _) nf)) (.tail _ (hm2 _ (.tail _ (.tail _ hc1)) nc)) hd1 hv1 (.tail _ (hm2 _ (.tail _ (.tail _ hckm)) n.n1)) hoc (.tail _ (hm2 _ (.tail _ (.tail _ hcym)) n.n2)) hoy fun h7 tk7 q o' hD' F7 N9 => ?_)
  have hD1o : (D1, { cls := .type "tuple", data := .seq #[.bool true, v] }) ∈ o2 := hm2 _ (.tail _ (.tail _ hD1m)) (Nat.ne_of_gt l1.2.2.2.1)
  have N10 : News h₀ L h7 ((370, tabObj ps') :: (d, o') :: (e, oe3) :: o2) :=
    List.forall_mem_cons.mpr ⟨N9 _ (.tail _ (.tail _ (hm2 _ (.tail _ (.head _)) n.n3))), List.forall_mem_cons.mpr ⟨N9 _ (.tail _ (.head _)), List.forall_mem_cons.mpr ⟨N9 _ (.tail _ (.tail _ (hm2 _ (.tail _ (.tail _ hem)) (Ne.symm n.n7)))), fun z hz => N9 z (.tail _ (.tail _ hz))⟩⟩⟩
  have hsub : ∀ z ∈ (ck, oc) :: (cy, oy) :: oth, z ∈ o2 := List.forall_mem_cons.mpr ⟨hm2 _ (.tail _ (.tail _ hckm)) n.n1, List.forall_mem_cons.mpr ⟨hm2 _ (.tail _ (.tail _ hcym)) n.n2, fun z hz => hm2 _ (.tail _ (.tail _ (mo _ hz))) (n.n8 _ hz)⟩⟩
  dsimp only
  refine nameX_L F7 rfl ?_
  refine ne_pair (News.get N9 (.head _)) (News.get N9 (.tail _ (.tail _ hD1o))) (by show _ < 9900; omega) ?_
  have tab2 : TabOK ps' o2 := ⟨tab1.1, fun z hz => (tab1.2 z hz).imp id fun ⟨c2, oc2, vs2, t2, a, b, c, dd⟩ => ⟨c2, oc2, vs2, t2, a, hm2 _ (.tail _ (.tail _ b)) (ne_dict (q := (c2, oc2)) N7 (.tail _ (.tail _ hdm)) hD (.tail _ (.tail _ b)) (fun _ _ e => by rw [c] at e; cases e)), c, dd⟩⟩
  repeat' (first | exact h _ _ _ _ _ _ _ (by assumption) (fun y hy => if_neg hy) N10 hsub tab2 hD' hE3 | (k_unfold; (try dsimp only)) | walk1 | (dsimp only; walk1))
theorem kind4_none
    (B : Below A₀ h₀ [] h₀) (F : Fr h₀ L s.heap m) (X : (hd.heap_39 w.params).In h₀) (N : News h₀ L s.heap ((370, tabObj ps) :: (ck, oc) :: (cy, oy) :: (d, o) :: (e, oe) :: oth)) (T : Top p loose mean mg mb h₀) (hA : A.frames = some [lwEnv fa L ck cy]) (hdep : A.depth + 200 < 1000) (hun : A.units + 300 < 9900) (hh : A.handled = none)
    (hm1 : m (Str.ofString "kind") = some (.int 4 tk0)) (hm2 : m (Str.ofString "twin") = some (.ref e)) (hm3 : m (Str.ofString "value") = some val) (hm4 : m (Str.ofString "there") = some (.bool (valueAt kvs k).isSome)) (hm5 : m (Str.ofString "box") = some (.ref bx))
    (hoc : oc.data = .cell (some (.ref x))) (hoy : oy.data = .cell (some key))
    (hx : (x, instObj 109 dx) ∈ oth) (hdx : (dx, dictOf [⟨hs, .str (Str.ofString "_data") tk, .ref d⟩] 1) ∈ oth)
    (hD : o.IsDictOf (mkind prog w) kvs) (lo : (d == sysModules) = false) (hE : oe.IsDictOf (mkind prog w) kvs) (loe : (e == sysModules) = false) (hkk : kis k key = true) (hn : kvs.length ≤ 1000) (hC : CodeHd h₀ 374 370) (hnd : List.Nodup [370, ck, cy, d, e]) (ho : ∀ q ∈ oth, q.1 ∉ [370, ck, cy, d, e]) (tab : TabOK ps oth)
    (hv : valueAt kvs k = none)
    (h : ∀ h' tk m' ps' o' oe' rest', Fr h₀ L h' m' → (∀ y, y ≠ Str.ofString "due" → m' y = m y) → News h₀ L h' ((370, tabObj ps') :: (d, o') :: (e, oe') :: rest') → (∀ q ∈ (ck, oc) :: (cy, oy) :: oth, q ∈ rest') → TabOK ps' rest' →
      o'.IsDictOf (mkind prog w) (kvs) → oe'.IsDictOf (mkind prog w) (kvs) → Q .next { s with heap := h', toks := tk }) :
    wpAny (model prog w) A (exec tS5 (lwEnv fa L ck cy)) Q E s := by
  rw [hv] at hm4
  dsimp only [Option.isSome_some, Option.isSome_none] at hm4
  have X0 := X
  have n := (dist_of hnd ho).get
  clear hnd ho
  revert X; unfold prog; k_fill; intro X
  k_steps
  rename_i D1 h4 l1 h5 F5 N5
  have N6 : News h₀ L h5 ((370, tabObj ps) :: (D1, { cls := .type "tuple", data := .seq #[.bool false, .none] }) :: (ck, oc) :: (cy, oy) :: (d, o) :: (e, oe) :: oth) :=
    List.forall_mem_cons.mpr ⟨N5 _ (.tail _ (.head _)), List.forall_mem_cons.mpr ⟨N5 _ (.head _), fun z hz => N5 z (.tail _ (.tail _ hz))⟩⟩
  refine lam_mk F5 hC N6 T (List.forall_mem_cons.mpr ⟨Nat.ne_of_gt l1.1, List.forall_mem_cons.mpr ⟨n.n11, List.forall_mem_cons.mpr ⟨n.n12, List.forall_mem_cons.mpr ⟨Ne.symm n.n3, List.forall_mem_cons.mpr ⟨Ne.symm n.n6, n.n10⟩⟩⟩⟩⟩) (tab.mono fun q hq => (.tail _ (.tail _ (.tail _ (.tail _ (.tail _ hq)))))) (.inr rfl) fun f c' oc' vs tt pm ctv h6 tk6 ps' rest' F6 N7 hs1 hr1 hc1 hd1 hv1 tab1 => ?_
  have mo : ∀ q ∈ oth, q ∈ rest' := fun q hq => hs1 q (.tail _ (.tail _ (.tail _ (.tail _ (.tail _ hq)))))
  have hD1m : (D1, { cls := .type "tuple", data := .seq #[.bool false, .none] }) ∈ rest' := hs1 _ (.head _)
  have hckm : (ck, oc) ∈ rest' := hs1 _ (.tail _ (.head _))
  have hcym : (cy, oy) ∈ rest' := hs1 _ (.tail _ (.tail _ (.head _)))
  have hdm : (d, o) ∈ rest' := hs1 _ (.tail _ (.tail _ (.tail _ (.head _))))
  have hem : (e, oe) ∈ rest' := hs1 _ (.tail _ (.tail _ (.tail _ (.tail _ (.head _)))))
  clear N5 N6 F5
  walk1
  walk1
  refine wpAny_call (told_pop_none B F6 X N7 T hA rfl rfl (by omega) hh (.tail _ (.tail _ (mo _ hx))) (.tail _ (.tail _ (mo _ hdx))) (.tail _ (.tail _ hdm)) hD hkk lo hv (.head _) (.tail _ (.tail _ hc1)) hd1 hv1 (.tail _ (.tail _ hckm)) hoc (.tail _ (.tail _ hcym)) hoy fun h7 tk7 q F7 N9 => ?_)
  have N10 : News h₀ L h7 ((370, tabObj ps') :: (d, o) :: (e, oe) :: rest') :=
    List.forall_mem_cons.mpr ⟨N9 _ (.tail _ (.tail _ (.head _))), List.forall_mem_cons.mpr ⟨N9 _ (.tail _ (.tail _ (.tail _ hdm))), List.forall_mem_cons.mpr ⟨N9 _ (.tail _ (.tail _ (.tail _ hem))), fun z hz => N9 z (.tail _ (.tail _ (.tail _ hz)))⟩⟩⟩
  have hsub : ∀ z ∈ (ck, oc) :: (cy, oy) :: oth, z ∈ rest' := List.forall_mem_cons.mpr ⟨hckm, List.forall_mem_cons.mpr ⟨hcym, mo⟩⟩
  dsimp only
  refine nameX_L F7 rfl ?_
  refine ne_pair (News.get N9 (.head _)) (News.get N9 (.tail _ (.tail _ (.tail _ hD1m)))) (by show _ < 9900; omega) ?_
  repeat' (first | exact h _ _ _ _ _ _ _ (by assumption) (fun y hy => if_neg hy) N10 hsub tab1 hD hE | (k_unfold; (try dsimp only)) | walk1 | (dsimp only; walk1))
end
end
end
end Mine
namespace Mine
section
local macro_rules | `(tactic| k_room) => `(tactic| ((simp only [depth_under_make, depth_under_kw, depth_in1, depth_deeper, depth_caller, recursionLimit] at *); omega))
local macro_rules | `(tactic| k_mem) => `(tactic| assumption)
section
variable {fa : Addr} {w : World} {A A₀ : Around} {s : Shared} {h₀ : Heap} {L : Addr} {m mg mb : Str → Option Value} {p : Program} {loose : List Str} {mean : ExcName → Option Value} {key val v : Value} {x dx d e ck cy : Addr} {o oe oc oy : Obj} {kvs : List (Nat × Value)} {k : Nat} {hs : Int} {tk tk0 : Tok} {oth nw : List (Addr × Obj)} {Q : Flow → Shared → Prop} {E : Value → Shared → Prop} {bx : Addr} {ps : Array Value}
section
local macro_rules | `(tactic| walk_at "eval Name") => `(tactic| (k_dflt (first | (refine' nameX_L ?F ?hv ?_; (case F => k_asm); (case hv => assumption); k_whole) | (refine' nameX_C ?N ?c ?m ?d ?_; (case N => k_asm); (case c => rfl); (case m => k_mem); (case d => assumption); k_whole))))
theorem kind0
    (B : Below A₀ h₀ [] h₀) (F : Fr h₀ L s.heap m) (X : (hd.heap_39 w.params).In h₀) (N : News h₀ L s.heap ((370, tabObj ps) :: (ck, oc) :: (cy, oy) :: (d, o) :: (e, oe) :: oth)) (T : Top p loose mean mg mb h₀) (hA : A.frames = some [lwEnv fa L ck cy]) (hdep : A.depth + 200 < 1000) (hun : A.units + 300 < 9900) (hh : A.handled = none)
    (hm1 : m (Str.ofString "kind") = some (.int 0 tk0)) (hm2 : m (Str.ofString "twin") = some (.ref e)) (hm3 : m (Str.ofString "value") = some val) (hm4 : m (Str.ofString "there") = some (.bool (valueAt kvs k).isSome)) (hm5 : m (Str.ofString "box") = some (.ref bx))
    (hoc : oc.data = .cell (some (.ref x))) (hoy : oy.data = .cell (some key))
    (hx : (x, instObj 109 dx) ∈ oth) (hdx : (dx, dictOf [⟨hs, .str (Str.ofString "_data") tk, .ref d⟩] 1) ∈ oth)
    (hD : o.IsDictOf (mkind prog w) kvs) (lo : (d == sysModules) = false) (hE : oe.IsDictOf (mkind prog w) kvs) (loe : (e == sysModules) = false) (hkk : kis k key = true) (hn : kvs.length ≤ 1000) (hC : CodeHd h₀ 374 370) (hnd : List.Nodup [370, ck, cy, d, e]) (ho : ∀ q ∈ oth, q.1 ∉ [370, ck, cy, d, e]) (tab : TabOK ps oth)
 (hpv : PV oth val)
    (h : ∀ h' tk m' ps' o' oe' rest', Fr h₀ L h' m' → (∀ y, y ≠ Str.ofString "due" → m' y = m y) → News h₀ L h' ((370, tabObj ps') :: (d, o') :: (e, oe') :: rest') → (∀ q ∈ (ck, oc) :: (cy, oy) :: oth, q ∈ rest') → TabOK ps' rest' →
      o'.IsDictOf (mkind prog w) (stored kvs k val) → oe'.IsDictOf (mkind prog w) (stored kvs k val) → Q .next { s with heap := h', toks := tk }) :
    wpAny (model prog w) A (exec tS5 (lwEnv fa L ck cy)) Q E s := by
  have X0 := X
  have n := (dist_of hnd ho).get
  clear hnd ho
  revert X; unfold prog; k_fill; intro X
  k_steps
  refine wpAny_call (save_addr_ok B (by k_asm) X (by k_asm) T hA rfl rfl (by omega) fun h1 tk1 F1 N1 => ?_)
  dsimp only
  k_steps
  refine wpAny_call (from_addr_ok B (by k_asm) X (by k_asm) T hA rfl rfl (by omega) fun h2 tk2 F2 N2 => ?_)
  dsimp only
  walk1
  refine ne_pv X F2 N2 (by show A.units + 1 < 9900; omega) (PV.mono (fun q hq => (.tail _ (.tail _ (.tail _ (.tail _ (.tail _ hq)))))) hpv) ?_
  k_steps
  refine wpAny_call (setitem_ok (g := fun o' => (370, tabObj ps) :: (ck, oc) :: (cy, oy) :: (d, o') :: (e, oe) :: oth) B F2 X N2 T hA rfl rfl (by omega) (.tail _ (.tail _ (.tail _ (.tail _ (.tail _ hx))))) (.tail _ (.tail _ (.tail _ (.tail _ (.tail _ hdx))))) (UpdF.tail n.n3 (UpdF.tail n.n1 (UpdF.tail n.n2 (UpdF.head (List.forall_mem_cons.mpr ⟨Ne.symm n.n7, n.n8⟩))))) hD hkk (by rw [sizeLine_eq]; omega) fun h3 tk3 o' F3 N3 hD' => ?_)
  dsimp only
  k_steps
  refine kda_set (knd := mkind _ _) (g := fun oe' => (370, tabObj ps) :: (ck, oc) :: (cy, oy) :: (d, o') :: (e, oe') :: oth) F3 N3 (UpdF.tail n.n6 (UpdF.tail n.n4 (UpdF.tail n.n5 (UpdF.tail n.n7 (UpdF.head n.n9))))) hE hkk (by rw [sizeLine_eq]; omega) fun h4 oe' F4 N4 hE' => ?_
  have N10 : News h₀ L h4 ((370, tabObj ps) :: (d, o') :: (e, oe') :: (ck, oc) :: (cy, oy) :: oth) :=
    List.forall_mem_cons.mpr ⟨N4 _ (.head _), List.forall_mem_cons.mpr ⟨N4 _ (.tail _ (.tail _ (.tail _ (.head _)))), List.forall_mem_cons.mpr ⟨N4 _ (.tail _ (.tail _ (.tail _ (.tail _ (.head _))))), List.forall_mem_cons.mpr ⟨N4 _ (.tail _ (.head _)), List.forall_mem_cons.mpr ⟨N4 _ (.tail _ (.tail _ (.head _))), fun z hz => N4 z (.tail _ (.tail _ (.tail _ (.tail _ (.tail _ hz)))))⟩⟩⟩⟩⟩
  dsimp only
  repeat' (first | exact h _ _ _ _ _ _ _ F4 (fun _ _ => rfl) N10 (fun _ hz => hz) (tab.mono fun z hz => .tail _ (.tail _ hz)) hD' hE' | (k_unfold; (try dsimp only)) | walk1 | (dsimp only; walk1))
end
end
end
end Mine
namespace Mine
section
local macro_rules | `(tactic| k_room) => `(tactic| ((simp only [depth_under_make, depth_under_kw, depth_in1, depth_deeper, depth_caller, recursionLimit] at *); omega))
local macro_rules | `(tactic| k_mem) => `(tactic| assumption)
section
variable {fa : Addr} {w : World} {A A₀ : Around} {s : Shared} {h₀ : Heap} {L : Addr} {m mg mb : Str → Option Value} {p : Program} {loose : List Str} {mean : ExcName → Option Value} {key val v : Value} {x dx d e ck cy : Addr} {o oe oc oy : Obj} {kvs : List (Nat × Value)} {k : Nat} {hs : Int} {tk tk0 : Tok} {oth nw : List (Addr × Obj)} {Q : Flow → Shared → Prop} {E : Value → Shared → Prop} {x0 dx0 d0 e0 x1 dx1 d1 e1 tw0 tw1 wl : Addr} {hs0 hs1 : Int} {tk1 : Tok} {o0 oe0 o1 oe1 : Obj} {kv0 kv1 : List (Nat × Value)} {c1 : Nat}
section
local macro_rules | `(tactic| walk_at "eval Name") => `(tactic| (k_dflt (first | (refine' nameX_L ?F ?hv ?_; (case F => k_asm); (case hv => assumption); k_whole) | (refine' nameX_C ?N ?c ?m ?d ?_; (case N => k_asm); (case c => rfl); (case m => k_mem); (case d => assumption); k_whole))))
theorem s6
    (B : Below A₀ h₀ [] h₀) (F : Fr h₀ L s.heap m) (X : (hd.heap_39 w.params).In h₀) (N : News h₀ L s.heap nw) (T : Top p loose mean mg mb h₀) (hA : A.frames = some [lwEnv fa L ck cy]) (hdep : A.depth + 200 < 1000) (hun : A.units + 300 < 9900) (hh : A.handled = none)
    (hm1 : m (Str.ofString "worlds") = some (.ref wl)) (hwl : (wl, listObj #[.ref tw0, .ref tw1] c1) ∈ nw) (hb : AllBare s.gens)
    (hx0 : (x0, instObj 109 dx0) ∈ nw) (hdx0 : (dx0, dictOf [⟨hs0, .str (Str.ofString "_data") tk0, .ref d0⟩] 1) ∈ nw) (hd0 : (d0, o0) ∈ nw) (he0 : (e0, oe0) ∈ nw) (hD0 : o0.IsDictOf (mkind prog w) kv0) (hE0 : oe0.IsDictOf (mkind prog w) kv0)
    (lo0 : (d0 == sysModules) = false) (loe0 : (e0 == sysModules) = false) (hn0 : kv0.length ≤ 1000) (hp0 : ∀ q ∈ kv0, PV nw q.2) (htw0 : (tw0, { cls := .type "tuple", data := .seq #[.ref x0, .ref e0] }) ∈ nw)
    (hx1 : (x1, instObj 109 dx1) ∈ nw) (hdx1 : (dx1, dictOf [⟨hs1, .str (Str.ofString "_data") tk1, .ref d1⟩] 1) ∈ nw) (hd1 : (d1, o1) ∈ nw) (he1 : (e1, oe1) ∈ nw) (hD1 : o1.IsDictOf (mkind prog w) kv1) (hE1 : oe1.IsDictOf (mkind prog w) kv1)
    (lo1 : (d1 == sysModules) = false) (loe1 : (e1 == sysModules) = false) (hn1 : kv1.length ≤ 1000) (hp1 : ∀ q ∈ kv1, PV nw q.2) (htw1 : (tw1, { cls := .type "tuple", data := .seq #[.ref x1, .ref e1] }) ∈ nw)
    (h : ∀ s', Fr h₀ L s'.heap m → News h₀ L s'.heap nw → AllBare s'.gens → s'.os = s.os → Q .next s') :
    wpAny (model prog w) A (exec tS6 (lwEnv fa L ck cy)) Q E s := by
  have X0 := X
  revert X; unfold prog; k_fill; intro X
  k_steps
  refine item_l (j := 0) (v := .ref tw0) (by k_asm) hwl rfl (by omega) ?_
  (try dsimp only)
  k_steps
  refine item_l (j := 0) (v := .ref tw0) (by k_asm) hwl rfl (by omega) ?_
  (try dsimp only)
  k_steps
  refine wpAny_call (same_ok B (by k_asm) X (by k_asm) T hA rfl rfl (by omega) (by omega) hh hb hx0 hdx0 hd0 hD0 lo0 he0 hE0 loe0 hn0 hp0 fun s1 F1 N1 hb1 hos1 => ?_)
  dsimp only
  k_steps
  refine item_l (j := 1) (v := .ref tw1) (by k_asm) hwl rfl (by omega) ?_
  (try dsimp only)
  k_steps
  refine item_l (j := 1) (v := .ref tw1) (by k_asm) hwl rfl (by omega) ?_
  (try dsimp only)
  k_steps
  refine wpAny_call (same_ok B (by k_asm) X (by k_asm) T hA rfl rfl (by omega) (by omega) hh hb1 hx1 hdx1 hd1 hD1 lo1 he1 hE1 loe1 hn1 hp1 fun s2 F2 N2 hb2 hos2 => ?_)
  dsimp only
  k_steps
  exact h s2 F2 N2 hb2 (hos2.trans hos1)
end
end
end
end Mine
namespace Mine
section
local macro_rules | `(tactic| k_room) => `(tactic| ((simp only [depth_under_make, depth_under_kw, depth_in1, depth_deeper, depth_caller, recursionLimit] at *); omega))
local macro_rules | `(tactic| k_mem) => `(tactic| assumption)

theorem fmod_nat (a : Int) (b : Nat) (hb : 0 < b) : ∃ i : Nat, i < b ∧ a.fmod b = (i : Int) := by
  have h1 : 0 ≤ a.fmod b := Int.fmod_nonneg_of_pos a (by omega)
  have h2 : a.fmod b < b := Int.fmod_lt_of_pos a (by omega)
  exact ⟨(a.fmod b).toNat, by omega, by omega⟩
section
variable {fa : Addr} {w : World} {A A₀ : Around} {s : Shared} {h₀ h h' : Heap} {L : Addr} {m mg mb : Str → Option Value} {p : Program} {loose : List Str} {mean : ExcName → Option Value} {key val v' : Value} {x dx d e ck cy : Addr} {o oe oc oy : Obj} {kvs : List (Nat × Value)} {k : Nat} {hs : Int} {tk tk0 : Tok} {nw cn : List (Addr × Obj)} {Q : Flow → Shared → Prop} {E : Value → Shared → Prop} {bx : Addr} {ps : Array Value}
theorem tab_oth {D : List Addr} {oth : List (Addr × Obj)} (N : News h₀ L h nw) (tab : TabOK ps nw) (h1 : (370, tabObj ps) ∈ nw) (hD : ∀ a ∈ D, a = 370 ∨ ∃ ob, (a, ob) ∈ nw ∧ ∀ vs, ob.data ≠ .fields vs) (ho : ∀ q ∈ nw, q.1 ∉ D → q ∈ oth) : TabOK ps oth := by
  refine ⟨tab.1, fun z hz => (tab.2 z hz).imp id fun ⟨c', oc', vs, t, a, b, c, dd⟩ => ⟨c', oc', vs, t, a, ho _ b fun hm => ?_, c, dd⟩⟩
  rcases hD c' hm with rfl | ⟨ob, hob, hne⟩
  · have e1 := (N _ h1).1
    rw [(N _ b).1] at e1
    have e2 := Option.some.inj e1
    subst e2
    have e3 : ps = vs := by injection c
    subst e3
    exact triples_no_str tab.1 lamQual t (by rw [Array.getElem?_toList]; exact dd)
  · have e1 := (N _ hob).1
    rw [(N _ b).1] at e1
    have e2 := Option.some.inj e1
    subst e2
    exact hne _ c
theorem dict_nf {o : Obj} (hD : o.IsDictOf (mkind prog w) kvs) : ∀ vs, o.data ≠ .fields vs := by
  obtain ⟨es, ep, _, hdat, _⟩ := hD
  intro vs e
  rw [hdat] at e
  cases e
theorem stored_pv {cn : List (Addr × Obj)} {v : Value} (hp : ∀ q ∈ kvs, PV cn q.2) (hv : PV cn v) : ∀ q ∈ stored kvs k v, PV cn q.2 := by
  intro q hq
  unfold stored at hq
  split at hq
  · obtain ⟨z, hz, rfl⟩ := List.mem_map.mp hq
    split
    · exact hv
    · exact hp z hz
  · rcases List.mem_append.mp hq with hq | hq
    · exact hp q hq
    · rw [List.mem_singleton.mp hq]; exact hv
theorem value_pv {v : Value} (hp : ∀ q ∈ kvs, PV cn q.2) (hv : valueAt kvs k = some v) : PV cn v := by
  unfold valueAt at hv
  obtain ⟨q, hq, rfl⟩ := Option.map_eq_some_iff.mp hv
  exact hp q (List.mem_of_find?_eq_some hq)
theorem mid {rest : List Stmt} {v : Int} {tv : Tok} {wl tw0 tw1 tw ky pl : Addr} {c1 : Nat} {v0 v1 : Option Value} {i0 i1 i2 : Nat} {keysA poolA : Array Value}
    (B : Below A₀ h₀ [] h₀) (F : Fr h₀ L s.heap m) (X : (hd.heap_39 w.params).In h₀) (N : News h₀ L s.heap nw) (T : Top p loose mean mg mb h₀) (hA : A.frames = some [lwEnv fa L ck cy]) (hdep : A.depth + 200 < 1000) (hun : A.units + 300 < 9900) (hh : A.handled = none) (hC : CodeHd h₀ 374 370)
    (hm1 : m (Str.ofString "v") = some (.int v tv)) (hm2 : m (Str.ofString "worlds") = some (.ref wl)) (hm3 : m (Str.ofString "keys") = some (.ref ky)) (hm4 : m (Str.ofString "pool") = some (.ref pl)) (hm5 : m (Str.ofString "box") = some (.ref bx))
    (hi0 : (v.fdiv 150).fmod 2 = (i0 : Int)) (hi1 : (v.fdiv 6).fmod 5 = (i1 : Int)) (hi2 : (v.fdiv 30).fmod 5 = (i2 : Int)) (b0 : i0 < 2) (b1 : i1 < 5) (b2 : i2 < 5)
    (hsub : ∀ q ∈ cn, q ∈ nw) (hwl : (wl, listObj #[.ref tw0, .ref tw1] c1) ∈ cn) (hwi : (#[.ref tw0, .ref tw1] : Array Value)[i0]? = some (.ref tw)) (htw : (tw, { cls := .type "tuple", data := .seq #[.ref x, .ref e] }) ∈ cn)
    (hky : (ky, { cls := .type "tuple", data := .seq keysA }) ∈ cn) (hk1 : keysA[i1]? = some key) (hpl : (pl, { cls := .type "tuple", data := .seq poolA }) ∈ cn) (hk2 : poolA[i2]? = some val) (hkk : kis k key = true) (hpv : PV cn val) (hpb : PV cn (.ref bx))
    (hx : (x, instObj 109 dx) ∈ cn) (hdx : (dx, dictOf [⟨hs, .str (Str.ofString "_data") tk, .ref d⟩] 1) ∈ cn)
    (htab : (370, tabObj ps) ∈ nw) (tab : TabOK ps nw) (hck : (ck, oc) ∈ nw) (hcy : (cy, oy) ∈ nw) (hoc : oc.data = .cell v0) (hoy : oy.data = .cell v1)
    (hdo : (d, o) ∈ nw) (heo : (e, oe) ∈ nw) (hD : o.IsDictOf (mkind prog w) kvs) (hE : oe.IsDictOf (mkind prog w) kvs) (lo : (d == sysModules) = false) (loe : (e == sysModules) = false) (hp : ∀ q ∈ kvs, PV cn q.2) (hn : kvs.length ≤ 1000)
    (hnd : List.Nodup [370, ck, cy, d, e]) (hap : ∀ q ∈ cn, q.1 ∉ [370, ck, cy, d, e])
    (h : ∀ h' tk m' ps' o' oe' oc' oy' kvs' rest', Fr h₀ L h' m' → (∀ y, y ≠ Str.ofString "twin" → y ≠ Str.ofString "kind" → y ≠ Str.ofString "value" → y ≠ Str.ofString "there" → y ≠ Str.ofString "due" → m' y = m y) → News h₀ L h' ((370, tabObj ps') :: (d, o') :: (e, oe') :: rest') →
      (∀ q ∈ nw, q.1 ∉ [370, ck, cy, d, e] → q ∈ rest') → (ck, oc') ∈ rest' → (cy, oy') ∈ rest' → oc'.data = .cell (some (.ref x)) → oy'.data = .cell (some key) → TabOK ps' rest' → o'.IsDictOf (mkind prog w) kvs' → oe'.IsDictOf (mkind prog w) kvs' → (∀ q ∈ kvs', PV cn q.2) → kvs'.length ≤ kvs.length + 1 →
      wpAny (model prog w) A (execs rest (lwEnv fa L ck cy)) Q E { s with heap := h', toks := tk }) :
    wpAny (model prog w) A (execs (tS0 :: tS1 :: tS2 :: tS3 :: tS4 :: tS5 :: rest) (lwEnv fa L ck cy)) Q E s := by
  obtain ⟨oth, hoth, hom⟩ : ∃ oth : List (Addr × Obj), (∀ q ∈ oth, q ∈ nw ∧ q.1 ∉ [370, ck, cy, d, e]) ∧ ∀ q ∈ nw, q.1 ∉ [370, ck, cy, d, e] → q ∈ oth :=
    ⟨nw.filter (fun q => decide (q.1 ∉ [370, ck, cy, d, e])), fun q hq => ⟨(List.mem_filter.mp hq).1, of_decide_eq_true (List.mem_filter.mp hq).2⟩, fun q hq hn => List.mem_filter.mpr ⟨hq, decide_eq_true hn⟩⟩
  have hcn : ∀ q ∈ cn, q ∈ oth := fun q hq => hom q (hsub q hq) (hap q hq)
  have ho : ∀ q ∈ oth, q.1 ∉ [370, ck, cy, d, e] := fun q hq => (hoth q hq).2
  have n := (dist_of hnd ho).get
  have nkk : cy ≠ ck := fun q => by simp [q] at hnd
  have tabo : TabOK ps oth := tab_oth N tab htab (D := [370, ck, cy, d, e]) (by
    intro a ha
    simp only [List.mem_cons, List.not_mem_nil, or_false] at ha
    rcases ha with rfl | rfl | rfl | rfl | rfl
    · exact .inl rfl
    · exact .inr ⟨_, hck, fun vs e => by rw [hoc] at e; cases e⟩
    · exact .inr ⟨_, hcy, fun vs e => by rw [hoy] at e; cases e⟩
    · exact .inr ⟨_, hdo, dict_nf hD⟩
    · exact .inr ⟨_, heo, dict_nf hE⟩) hom
  have N0 : News h₀ L s.heap ((ck, oc) :: (cy, oy) :: (370, tabObj ps) :: (d, o) :: (e, oe) :: oth) :=
    List.forall_mem_cons.mpr ⟨N _ hck, List.forall_mem_cons.mpr ⟨N _ hcy, List.forall_mem_cons.mpr ⟨N _ htab, List.forall_mem_cons.mpr ⟨N _ hdo, List.forall_mem_cons.mpr ⟨N _ heo, fun q hq => N q (hoth q hq).1⟩⟩⟩⟩⟩
  have c3 : ∀ {q : Addr × Obj}, q ∈ cn → q ∈ (370, tabObj ps) :: (d, o) :: (e, oe) :: oth := fun hq => .tail _ (.tail _ (.tail _ (hcn _ hq)))
  have nck : ∀ q ∈ oth, q.1 ≠ ck := fun q hq e' => ho q hq (by simp [e'])
  have ncy : ∀ q ∈ oth, q.1 ≠ cy := fun q hq e' => ho q hq (by simp [e'])
  refine p1 (oth := (370, tabObj ps) :: (d, o) :: (e, oe) :: oth) (rest := tS5 :: rest) B F X N0 T hA hdep hun hh hm1 hm2 hm3 hm4 hi0 hi1 hi2 b0 b1 b2 (c3 hwl) hwi (c3 htw) (c3 hky) hk1 (c3 hpl) hk2 hoc hoy
    (List.forall_mem_cons.mpr ⟨Ne.symm n.n11, List.forall_mem_cons.mpr ⟨Ne.symm n.n1, List.forall_mem_cons.mpr ⟨Ne.symm n.n4, nck⟩⟩⟩) (List.forall_mem_cons.mpr ⟨Ne.symm n.n12, List.forall_mem_cons.mpr ⟨Ne.symm n.n2, List.forall_mem_cons.mpr ⟨Ne.symm n.n5, ncy⟩⟩⟩) nkk (.tail _ (.tail _ (.head _))) hE loe hkk ?_
  intro h1 tk1 m1 tkk o4 o6 F1 N1 d4 d6 e1 e2 e3 e4 e5
  have e6 : m1 (Str.ofString "box") = some (.ref bx) := (e5 _ (by decide) (by decide) (by decide) (by decide)).trans hm5
  have N2 : News h₀ L h1 ((370, tabObj ps) :: (ck, o4) :: (cy, o6) :: (d, o) :: (e, oe) :: oth) :=
    List.forall_mem_cons.mpr ⟨N1 _ (.tail _ (.tail _ (.head _))), List.forall_mem_cons.mpr ⟨N1 _ (.head _), List.forall_mem_cons.mpr ⟨N1 _ (.tail _ (.head _)), fun q hq => N1 q (.tail _ (.tail _ (.tail _ hq)))⟩⟩⟩
  clear N1
  have N3 : News h₀ L h1 ((ck, o4) :: (cy, o6) :: (370, tabObj ps) :: (d, o) :: (e, oe) :: oth) :=
    List.forall_mem_cons.mpr ⟨N2 _ (.tail _ (.head _)), List.forall_mem_cons.mpr ⟨N2 _ (.tail _ (.tail _ (.head _))), List.forall_mem_cons.mpr ⟨N2 _ (.head _), fun q hq => N2 q (.tail _ (.tail _ (.tail _ hq)))⟩⟩⟩
  -- the end of a kind that writes nothing
  have same : ∀ h2 tk2, Fr h₀ L h2 m1 → News h₀ L h2 ((ck, o4) :: (cy, o6) :: (370, tabObj ps) :: (d, o) :: (e, oe) :: oth) → wpAny (model prog w) A (execs rest (lwEnv fa L ck cy)) Q E { s with heap := h2, toks := tk2 } := fun h2 tk2 F2 Nq =>
    h h2 tk2 m1 ps o oe o4 o6 kvs ((ck, o4) :: (cy, o6) :: oth) F2 (fun y a b c dd _ => e5 y a b c dd)
      (List.forall_mem_cons.mpr ⟨Nq _ (.tail _ (.tail _ (.head _))), List.forall_mem_cons.mpr ⟨Nq _ (.tail _ (.tail _ (.tail _ (.head _)))), List.forall_mem_cons.mpr ⟨Nq _ (.tail _ (.tail _ (.tail _ (.tail _ (.head _))))), List.forall_mem_cons.mpr ⟨Nq _ (.head _), List.forall_mem_cons.mpr ⟨Nq _ (.tail _ (.head _)), fun q hq => Nq q (.tail _ (.tail _ (.tail _ (.tail _ (.tail _ hq)))))⟩⟩⟩⟩⟩)
      (fun q hq hn => .tail _ (.tail _ (hom q hq hn))) (.head _) (.tail _ (.head _)) d4 d6 (tabo.mono fun q hq => .tail _ (.tail _ hq)) hD hE hp (Nat.le_succ _)
  -- the end of a kind that writes
  have wrote : ∀ kvs', (∀ q ∈ kvs', PV cn q.2) → kvs'.length ≤ kvs.length + 1 → ∀ h2 tk2 m2 ps2 o2 oe2 rest2, Fr h₀ L h2 m2 → (∀ y, y ≠ Str.ofString "due" → m2 y = m1 y) → News h₀ L h2 ((370, tabObj ps2) :: (d, o2) :: (e, oe2) :: rest2) → (∀ q ∈ (ck, o4) :: (cy, o6) :: oth, q ∈ rest2) → TabOK ps2 rest2 →
      o2.IsDictOf (mkind prog w) kvs' → oe2.IsDictOf (mkind prog w) kvs' → wpAny (model prog w) A (execs rest (lwEnv fa L ck cy)) Q E { s with heap := h2, toks := tk2 } := fun kvs' hp' hl' h2 tk2 m2 ps2 o2 oe2 rest2 F2 hmy Nq hsb tb hD2 hE2 =>
    h h2 tk2 m2 ps2 o2 oe2 o4 o6 kvs' rest2 F2 (fun y a b c dd ee => (hmy y ee).trans (e5 y a b c dd)) Nq (fun q hq hn => hsb q (.tail _ (.tail _ (hom q hq hn)))) (hsb _ (.head _)) (hsb _ (.tail _ (.head _))) d4 d6 tb hD2 hE2 hp' hl'
  refine wpAny_execs_cons ?_
  obtain ⟨j, hj, hjv⟩ := fmod_nat v 6 (by omega)
  have hjv' : v.fmod 6 = (j : Int) := hjv
  rw [hjv'] at e2
  have co : ∀ {q : Addr × Obj}, q ∈ cn → q ∈ oth := fun hq => hcn _ hq
  have hlw : (without kvs k).length ≤ kvs.length + 1 := Nat.le_succ_of_le (List.length_filter_le _ _)
  have hpw : ∀ q ∈ without kvs k, PV cn q.2 := fun q hq => hp q (List.mem_filter.mp hq).1
  match j, hj with
  | 0, _ => exact kind0 B F1 X N2 T hA hdep hun hh e2 e1 e3 e4 e6 d4 d6 (co hx) (co hdx) hD lo hE loe hkk hn hC hnd ho tabo (PV.mono hcn hpv) (wrote _ (stored_pv hp hpv) (stored_length_le _ _ _))
  | 1, _ =>
    cases hv : valueAt kvs k with
    | some vv => exact kind1_some B F1 X N3 T hA hdep hun hh e2 e1 e3 e4 e6 d4 d6 (c3 hx) (c3 hdx) (.tail _ (.head _)) (.tail _ (.tail _ (.head _))) hD lo hE loe hkk hn hv (PV.mono (fun _ => c3) (value_pv hp hv)) same
    | none => exact kind1_none B F1 X N3 T hA hdep hun hh e2 e1 e3 e4 e6 d4 d6 (c3 hx) (c3 hdx) (.tail _ (.head _)) (.tail _ (.tail _ (.head _))) hD lo hE loe hkk hn hv same
  | 2, _ =>
    cases hv : valueAt kvs k with
    | some vv => exact kind2_some B F1 X N3 T hA hdep hun hh e2 e1 e3 e4 e6 d4 d6 (c3 hx) (c3 hdx) (.tail _ (.head _)) (.tail _ (.tail _ (.head _))) hD lo hE loe hkk hn hv (PV.mono (fun _ => c3) (value_pv hp hv)) same
    | none => exact kind2_none B F1 X N3 T hA hdep hun hh e2 e1 e3 e4 e6 d4 d6 (c3 hx) (c3 hdx) (.tail _ (.head _)) (.tail _ (.tail _ (.head _))) hD lo hE loe hkk hn hv (PV.mono (fun _ => c3) hpb) same
  | 3, _ =>
    have fin3 : ∀ h' tk ps' rest', Fr h₀ L h' m1 → News h₀ L h' ((370, tabObj ps') :: rest') → (∀ q ∈ (ck, o4) :: (cy, o6) :: (d, o) :: (e, oe) :: oth, q ∈ rest') → TabOK ps' rest' → wpAny (model prog w) A (execs rest (lwEnv fa L ck cy)) Q E { s with heap := h', toks := tk } := fun h' tk ps' rest' F' N' hsb tb =>
      wrote kvs hp (Nat.le_succ _) h' tk m1 ps' o oe rest' F' (fun _ _ => rfl) (List.forall_mem_cons.mpr ⟨N' _ (.head _), List.forall_mem_cons.mpr ⟨N' _ (.tail _ (hsb _ (.tail _ (.tail _ (.head _))))), List.forall_mem_cons.mpr ⟨N' _ (.tail _ (hsb _ (.tail _ (.tail _ (.tail _ (.head _)))))), fun q hq => N' q (.tail _ hq)⟩⟩⟩)
        (List.forall_mem_cons.mpr ⟨hsb _ (.head _), List.forall_mem_cons.mpr ⟨hsb _ (.tail _ (.head _)), fun q hq => hsb q (.tail _ (.tail _ (.tail _ (.tail _ hq))))⟩⟩) tb hD hE
    cases hv : valueAt kvs k with
    | some vv => exact kind3_some B F1 X N2 T hA hdep hun hh e2 e1 e3 e4 e6 d4 d6 (co hx) (co hdx) hD lo hE loe hkk hn hC hnd ho tabo hv fin3
    | none => exact kind3_none B F1 X N2 T hA hdep hun hh e2 e1 e3 e4 e6 d4 d6 (co hx) (co hdx) hD lo hE loe hkk hn hC hnd ho tabo hv fin3
  | 4, _ =>
    cases hv : valueAt kvs k with
    | some vv => exact kind4_some B F1 X N2 T hA hdep hun hh e2 e1 e3 e4 e6 d4 d6 (co hx) (co hdx) hD lo hE loe hkk hn hC hnd ho tabo hv (wrote _ hpw hlw)
    | none => exact kind4_none B F1 X N2 T hA hdep hun hh e2 e1 e3 e4 e6 d4 d6 (co hx) (co hdx) hD lo hE loe hkk hn hC hnd ho tabo hv (wrote _ hp (Nat.le_succ _))
  | 5, _ => exact kind5 B F1 X N3 T hA hdep hun hh e2 e1 e3 e4 e6 d4 d6 (c3 hx) (c3 hdx) (.tail _ (.head _)) (.tail _ (.tail _ (.head _))) hD lo hE loe hkk hn same
end
end
end Mine
namespace Mine
section
local macro_rules | `(tactic| k_room) => `(tactic| ((simp only [depth_under_make, depth_under_kw, depth_in1, depth_deeper, depth_caller, recursionLimit] at *); omega))
local macro_rules | `(tactic| k_mem) => `(tactic| assumption)

/-- the places of the law's objects -/
structure Plc where
  x0 : Addr
  dx0 : Addr
  d0 : Addr
  e0 : Addr
  x1 : Addr
  dx1 : Addr
  d1 : Addr
  e1 : Addr
  tw0 : Addr
  tw1 : Addr
  wl : Addr
  ky : Addr
  pl : Addr
  bx : Addr
  ck : Addr
  cy : Addr
  hs0 : Int
  hs1 : Int
  tk0 : Tok
  tk1 : Tok
  c1 : Nat
  keysA : Array Value
  poolA : Array Value
  cn : List (Addr × Obj)
/-- what never changes -/
structure Sta (P : Plc) : Prop where
  hx0 : (P.x0, instObj 109 P.dx0) ∈ P.cn
  hdx0 : (P.dx0, dictOf [⟨P.hs0, .str (Str.ofString "_data") P.tk0, .ref P.d0⟩] 1) ∈ P.cn
  hx1 : (P.x1, instObj 109 P.dx1) ∈ P.cn
  hdx1 : (P.dx1, dictOf [⟨P.hs1, .str (Str.ofString "_data") P.tk1, .ref P.d1⟩] 1) ∈ P.cn
  htw0 : (P.tw0, { cls := .type "tuple", data := .seq #[.ref P.x0, .ref P.e0] }) ∈ P.cn
  htw1 : (P.tw1, { cls := .type "tuple", data := .seq #[.ref P.x1, .ref P.e1] }) ∈ P.cn
  hwl : (P.wl, listObj #[.ref P.tw0, .ref P.tw1] P.c1) ∈ P.cn
  hky : (P.ky, { cls := .type "tuple", data := .seq P.keysA }) ∈ P.cn
  hpl : (P.pl, { cls := .type "tuple", data := .seq P.poolA }) ∈ P.cn
  keys : ∀ i, i < 5 → ∃ key k, P.keysA[i]? = some key ∧ kis k key = true
  pool : ∀ i, i < 5 → ∃ val, P.poolA[i]? = some val ∧ PV P.cn val
  pbx : PV P.cn (.ref P.bx)
  nodup : List.Nodup [370, P.ck, P.cy, P.d0, P.e0, P.d1, P.e1]
  apart : ∀ q ∈ P.cn, q.1 ∉ [370, P.ck, P.cy, P.d0, P.e0, P.d1, P.e1]
  lo0 : (P.d0 == sysModules) = false
  loe0 : (P.e0 == sysModules) = false
  lo1 : (P.d1 == sysModules) = false
  loe1 : (P.e1 == sysModules) = false
/-- the names of the frame that stay -/
structure Nam (P : Plc) (m : Str → Option Value) : Prop where
  worlds : m (Str.ofString "worlds") = some (.ref P.wl)
  keys : m (Str.ofString "keys") = some (.ref P.ky)
  pool : m (Str.ofString "pool") = some (.ref P.pl)
  box : m (Str.ofString "box") = some (.ref P.bx)
/-- the changing part of the ledger -/
structure Dyn (w : World) (P : Plc) (kv0 kv1 : List (Nat × Value)) (nw : List (Addr × Obj)) : Prop where
  sub : ∀ q ∈ P.cn, q ∈ nw
  tab : ∃ ps, (370, tabObj ps) ∈ nw ∧ TabOK ps nw
  cells : ∃ oc oy v0 v1, (P.ck, oc) ∈ nw ∧ (P.cy, oy) ∈ nw ∧ oc.data = .cell v0 ∧ oy.data = .cell v1
  w0 : ∃ o oe, (P.d0, o) ∈ nw ∧ (P.e0, oe) ∈ nw ∧ o.IsDictOf (mkind prog w) kv0 ∧ oe.IsDictOf (mkind prog w) kv0
  w1 : ∃ o oe, (P.d1, o) ∈ nw ∧ (P.e1, oe) ∈ nw ∧ o.IsDictOf (mkind prog w) kv1 ∧ oe.IsDictOf (mkind prog w) kv1
  pv0 : ∀ q ∈ kv0, PV P.cn q.2
  pv1 : ∀ q ∈ kv1, PV P.cn q.2
theorem nd0 {a b c d e f g : Nat} (h : List.Nodup [a, b, c, d, e, f, g]) : List.Nodup [a, b, c, d, e] ∧ f ∉ [a, b, c, d, e] ∧ g ∉ [a, b, c, d, e] ∧ List.Nodup [a, b, c, f, g] ∧ d ∉ [a, b, c, f, g] ∧ e ∉ [a, b, c, f, g] := by
  simp only [List.nodup_cons, List.mem_cons, List.not_mem_nil, or_false, not_or, not_false_eq_true, and_true, List.nodup_nil] at h ⊢
  obtain ⟨⟨h1, h2, h3, h4, h5, h6⟩, ⟨g1, g2, g3, g4, g5⟩, ⟨f1, f2, f3, f4⟩, ⟨e1, e2, e3⟩, ⟨d1, d2⟩, c1⟩ := h
  refine ⟨⟨⟨h1, h2, h3, h4⟩, ⟨g1, g2, g3⟩, ⟨f1, f2⟩, e1⟩, ⟨Ne.symm h5, Ne.symm g4, Ne.symm f3, Ne.symm e2, Ne.symm d1⟩, ⟨Ne.symm h6, Ne.symm g5, Ne.symm f4, Ne.symm e3, Ne.symm d2⟩, ⟨⟨h1, h2, h5, h6⟩, ⟨g1, g4, g5⟩, ⟨f3, f4⟩, c1⟩, ⟨Ne.symm h3, Ne.symm g2, Ne.symm f1, e2, e3⟩, ⟨Ne.symm h4, Ne.symm g3, Ne.symm f2, d1, d2⟩⟩
theorem ap7 {q a b c d e f g : Nat} (h : q ∉ [a, b, c, d, e, f, g]) : q ∉ [a, b, c, d, e] ∧ q ∉ [a, b, c, f, g] := by
  simp only [List.mem_cons, List.not_mem_nil, or_false, not_or] at h ⊢
  obtain ⟨h1, h2, h3, h4, h5, h6, h7⟩ := h
  exact ⟨⟨h1, h2, h3, h4, h5⟩, h1, h2, h3, h6, h7⟩
section
variable {fa : Addr} {w : World} {A A₀ : Around} {s : Shared} {h₀ : Heap} {L : Addr} {m mg mb : Str → Option Value} {p : Program} {loose : List Str} {mean : ExcName → Option Value} {P : Plc} {kv0 kv1 : List (Nat × Value)} {nw : List (Addr × Obj)} {Q : Flow → Shared → Prop} {E : Value → Shared → Prop} {v : Int} {tv : Tok} {n : Nat}
theorem turn (B : Below A₀ h₀ [] h₀) (F : Fr h₀ L s.heap m) (X : (hd.heap_39 w.params).In h₀) (N : News h₀ L s.heap nw) (T : Top p loose mean mg mb h₀) (hA : A.frames = some [lwEnv fa L P.ck P.cy]) (hdep : A.depth + 200 < 1000) (hun : A.units + 300 < 9900) (hh : A.handled = none) (hC : CodeHd h₀ 374 370)
    (S : Sta P) (Nm : Nam P m) (D : Dyn w P kv0 kv1 nw) (hv : m (Str.ofString "v") = some (.int v tv)) (hb : AllBare s.gens) (l0 : kv0.length ≤ n) (l1 : kv1.length ≤ n) (hn : n < 1000)
    (h : ∀ s' m' kv0' kv1' nw', Fr h₀ L s'.heap m' → Nam P m' → News h₀ L s'.heap nw' → Dyn w P kv0' kv1' nw' → AllBare s'.gens → s'.os = s.os → kv0'.length ≤ n + 1 → kv1'.length ≤ n + 1 → Q .next s') :
    wpAny (model prog w) A (execs lwBody (lwEnv fa L P.ck P.cy)) Q E s := by
  obtain ⟨i0, b0, hi0⟩ := fmod_nat (v.fdiv 150) 2 (by omega)
  obtain ⟨i1, b1, hi1⟩ := fmod_nat (v.fdiv 6) 5 (by omega)
  obtain ⟨i2, b2, hi2⟩ := fmod_nat (v.fdiv 30) 5 (by omega)
  obtain ⟨key, k, hk1, hkk⟩ := S.keys i1 b1
  obtain ⟨val, hk2, hpv⟩ := S.pool i2 b2
  obtain ⟨nA, f1, g1, nB, f0, g0⟩ := nd0 S.nodup
  obtain ⟨ps, htab, tab⟩ := D.tab
  obtain ⟨oc, oy, v0, v1, hck, hcy, hoc, hoy⟩ := D.cells
  obtain ⟨o0, oe0, hd0, he0, hD0, hE0⟩ := D.w0
  obtain ⟨o1, oe1, hd1, he1, hD1, hE1⟩ := D.w1
  -- the close of the turn: both worlds are checked
  have close : ∀ (h' : Heap) (tk : Nat) (m' : Str → Option Value) (kv0' kv1' : List (Nat × Value)) (nw' : List (Addr × Obj)), Fr h₀ L h' m' → Nam P m' → News h₀ L h' nw' → Dyn w P kv0' kv1' nw' → kv0'.length ≤ n + 1 → kv1'.length ≤ n + 1 →
      wpAny (model prog w) A (execs [tS6] (lwEnv fa L P.ck P.cy)) Q E { s with heap := h', toks := tk } := by
    intro h' tk m' kv0' kv1' nw' F' Nm' N' D' l0' l1'
    obtain ⟨o0, oe0, hd0, he0, hD0, hE0⟩ := D'.w0
    obtain ⟨o1, oe1, hd1, he1, hD1, hE1⟩ := D'.w1
    refine wpAny_execs_cons (s6 B F' X N' T hA hdep hun hh Nm'.worlds (D'.sub _ S.hwl) hb (D'.sub _ S.hx0) (D'.sub _ S.hdx0) hd0 he0 hD0 hE0 S.lo0 S.loe0 (by omega) (fun q hq => PV.mono D'.sub (D'.pv0 q hq)) (D'.sub _ S.htw0)
      (D'.sub _ S.hx1) (D'.sub _ S.hdx1) hd1 he1 hD1 hE1 S.lo1 S.loe1 (by omega) (fun q hq => PV.mono D'.sub (D'.pv1 q hq)) (D'.sub _ S.htw1) fun s' F2 N2 hb2 hos2 => wpAny_execs_nil ?_)
    exact h s' m' kv0' kv1' nw' F2 Nm' N2 D' hb2 hos2 l0' l1'
  have nam : ∀ m', (∀ y, y ≠ Str.ofString "twin" → y ≠ Str.ofString "kind" → y ≠ Str.ofString "value" → y ≠ Str.ofString "there" → y ≠ Str.ofString "due" → m' y = m y) → Nam P m' := fun m' hm => by
    refine ⟨(hm _ ?_ ?_ ?_ ?_ ?_).trans Nm.worlds, (hm _ ?_ ?_ ?_ ?_ ?_).trans Nm.keys, (hm _ ?_ ?_ ?_ ?_ ?_).trans Nm.pool, (hm _ ?_ ?_ ?_ ?_ ?_).trans Nm.box⟩ <;> decide
  match i0, b0 with
  | 0, _ =>
    refine mid (rest := [tS6]) (tw := P.tw0) B F X N T hA hdep hun hh hC hv Nm.worlds Nm.keys Nm.pool Nm.box hi0 hi1 hi2 (by omega) b1 b2 D.sub S.hwl rfl S.htw0 S.hky hk1 S.hpl hk2 hkk hpv S.pbx S.hx0 S.hdx0 htab tab hck hcy hoc hoy hd0 he0 hD0 hE0 S.lo0 S.loe0 D.pv0 (by omega) nA (fun q hq => (ap7 (S.apart q hq)).1) ?_
    intro h' tk m' ps' o' oe' oc' oy' kvs' rest' F' hm' N' hsub hc1 hc2 hcd1 hcd2 tab' hD' hE' hp' hl'
    exact close h' tk m' kvs' kv1 _ F' (nam m' hm') N' ⟨fun q hq => .tail _ (.tail _ (.tail _ (hsub q (D.sub q hq) (ap7 (S.apart q hq)).1))), ⟨ps', .head _, tab'.mono fun q hq => .tail _ (.tail _ (.tail _ hq))⟩, ⟨oc', oy', _, _, .tail _ (.tail _ (.tail _ hc1)), .tail _ (.tail _ (.tail _ hc2)), hcd1, hcd2⟩,
      ⟨o', oe', .tail _ (.head _), .tail _ (.tail _ (.head _)), hD', hE'⟩, ⟨o1, oe1, .tail _ (.tail _ (.tail _ (hsub _ hd1 f1))), .tail _ (.tail _ (.tail _ (hsub _ he1 g1))), hD1, hE1⟩, hp', D.pv1⟩ (by omega) (by omega)
  | 1, _ =>
    refine mid (rest := [tS6]) (tw := P.tw1) B F X N T hA hdep hun hh hC hv Nm.worlds Nm.keys Nm.pool Nm.box hi0 hi1 hi2 (by omega) b1 b2 D.sub S.hwl rfl S.htw1 S.hky hk1 S.hpl hk2 hkk hpv S.pbx S.hx1 S.hdx1 htab tab hck hcy hoc hoy hd1 he1 hD1 hE1 S.lo1 S.loe1 D.pv1 (by omega) nB (fun q hq => (ap7 (S.apart q hq)).2) ?_
    intro h' tk m' ps' o' oe' oc' oy' kvs' rest' F' hm' N' hsub hc1 hc2 hcd1 hcd2 tab' hD' hE' hp' hl'
    exact close h' tk m' kv0 kvs' _ F' (nam m' hm') N' ⟨fun q hq => .tail _ (.tail _ (.tail _ (hsub q (D.sub q hq) (ap7 (S.apart q hq)).2))), ⟨ps', .head _, tab'.mono fun q hq => .tail _ (.tail _ (.tail _ hq))⟩, ⟨oc', oy', _, _, .tail _ (.tail _ (.tail _ hc1)), .tail _ (.tail _ (.tail _ hc2)), hcd1, hcd2⟩,
      ⟨o0, oe0, .tail _ (.tail _ (.tail _ (hsub _ hd0 f0))), .tail _ (.tail _ (.tail _ (hsub _ he0 g0))), hD0, hE0⟩, ⟨o', oe', .tail _ (.head _), .tail _ (.tail _ (.head _)), hD', hE'⟩, D.pv0, hp'⟩ (by omega) (by omega)
end
end
end Mine
namespace Mine
section
/-- an end that may leave finished or quiet generators behind -/
def GoodB (c : ClaimW) (cl : Str → Option Addr) (args : List WData) (s₁ : Shared) (res : Result) (s' : Shared) : Prop :=
  (∃ v d as, res = .ok (.ret v) ∧ (∀ cls, c.raises args cls = false) ∧ ReadsW c.records cl s'.heap v d as ∧ c.post args d args = true ∧ (c.unshared = true → as.Nodup ∧ ∀ a ∈ as, s₁.heap.get? a = none)) ∧
  (∀ b o, s₁.heap.get? b = some o → s'.heap.get? b = some o) ∧ s'.os = s₁.os ∧ AllBare s'.gens
theorem postB {M : Model} {A : Around} {cd : Code} {s s₁ : Shared} {cw : ClaimW} {cl : Str → Option Addr} {mean : ExcName → Option Value} {args : List WData} {tabs : List (Addr × Addr)} (hT : TabsAt tabs s₁.heap)
    (h : codeAny M A cd (fun r s' => GoodB cw cl args { s₁ with heap := ghostOf s₁.heap tabs } r s' ∧ GrownAll tabs s'.heap) s) : codeAny M A cd (GoodWG cw cl mean args s₁) s := by
  refine codeAny_mono h fun r s' hh => ?_
  obtain ⟨⟨⟨v, d, as, r1, r2, r3, r4, r5⟩, hk, hos, hg⟩, hgr⟩ := hh
  have old : ∀ b o, s₁.heap.get? b = some o → (b ∉ tabs.map (·.2) ∧ s'.heap.get? b = some o) ∨ (b ∈ tabs.map (·.2) ∧ isCodeTable s₁.heap b ∧ o = tabObj #[] ∧ ∃ ps, s'.heap.get? b = some (tabObj ps)) := by
    intro b o e
    by_cases hb : b ∈ tabs.map (·.2)
    · refine .inr ⟨hb, ?_⟩
      obtain ⟨q, hq, rfl⟩ := List.mem_map.mp hb
      have e2 := (hT q hq).2
      rw [e] at e2
      exact ⟨((hT q hq).1.tab (hT q hq).2).isCodeTable, Option.some.inj e2, hgr.get q hq⟩
    · exact .inl ⟨hb, hk b o (ghost_ne e hb)⟩
  refine ⟨.inl ⟨v, d, as, r1, r2, r3, r4, fun q => ⟨(r5 q).1, fun a ha => ?_⟩⟩, ⟨fun b o e => ?_, fun b o e => ?_⟩, hos, hg⟩
  · cases q1 : s₁.heap.get? a with
    | none => rfl
    | some o =>
      rcases old a o q1 with ⟨hb, _⟩ | ⟨_, _, _, ps, hP⟩
      · have e3 := (r5 q).2 a ha
        rw [show (ghostOf s₁.heap tabs).get? a = some o from ghost_ne q1 hb] at e3
        cases e3
      · exact absurd ha (readsW_apart hP rfl r3)
  · rcases old b o e with ⟨_, h1⟩ | ⟨_, ht, rfl, ps, hP⟩
    · exact .inl h1
    · exact .inr (.inl ⟨ht, rfl, #[], ps, rfl, by rw [Array.empty_append]; exact hP⟩)
  · rcases old b o e with ⟨_, h1⟩ | ⟨_, _, _, ps, hP⟩
    · exact ⟨o, h1⟩
    · exact ⟨_, hP⟩
end
end Mine
namespace Mine
section
local macro_rules | `(tactic| k_room) => `(tactic| ((simp only [depth_under_make, depth_under_kw, depth_in1, depth_deeper, depth_caller, recursionLimit] at *); omega))
local macro_rules | `(tactic| k_mem) => `(tactic| assumption)

section
variable {fa : Addr} {w : World} {s : Shared} {h₀ : Heap} {L ck cy : Addr} {m mg mb : Str → Option Value} {p : Program} {loose : List Str} {mean : ExcName → Option Value} {news : List (Addr × Obj)} {Q : Value → Shared → Prop} {E : Value → Shared → Prop}
theorem empty_dict {K : Type} [DecidableEq K] {knd : KeyKind prog w K} {o : Obj} (h : o.IsDictOf knd []) : o.IsDictOf (mkind prog w) [] := by
  obtain ⟨es, ep, h1, h2, h3, h4, h5⟩ := h
  have e : es = #[] := by
    have := h4.length
    simpa using this
  subst e
  exact ⟨#[], ep, h1, h2, (by first | (intro x hx; simp at hx) | simp [KeysOf]), (by first | exact .nil | exact List.Forall₂.nil | trivial), List.nodup_nil⟩
section
local macro_rules | `(tactic| k_all) => `(tactic| (intro p hp; refine Nat.ne_of_lt ?_; revert p hp; assumption))
local macro_rules | `(tactic| k_all) => `(tactic| (refine' List.forall_mem_cons.mpr ⟨?a, ?b⟩; (case a => k_ne); (case b => k_all)))
theorem pers_ok (B : Below callerA h₀ [] h₀) (F : Fr h₀ L s.heap m) (X : (hd.heap_39 w.params).In h₀) (N : News h₀ L s.heap news) (T : Top p loose mean mg mb h₀)
    (h : ∀ h' tk q dq es n, Fr h₀ L h' m → News h₀ L h' ((q, instObj 343 dq) :: (dq, dictOf es n) :: news) → (∀ p ∈ news, p.1 < dq) → dq < q → Q (.ref q) { s with heap := h', toks := tk }) :
    wpAny (model prog w) (callerA.deeper (lwEnv fa L ck cy)) (call (.ref 343) []) Q E s := by
  revert X; unfold prog; k_fill; intro X
  refine call_cls F X N (by k_is) (by k_is) (by k_is) fun x dx h1 F1 N1 l1 l2 => ?_
  have l3 := ltN l2
  k_enter
  k_steps
  exact h _ _ _ _ _ _ (by assumption) (by assumption) l1 l2
theorem wvd_ok (B : Below callerA h₀ [] h₀) (F : Fr h₀ L s.heap m) (X : (hd.heap_39 w.params).In h₀) (N : News h₀ L s.heap news) (T : Top p loose mean mg mb h₀)
    (h : ∀ h' tk x dx d o hs t, Fr h₀ L h' m → News h₀ L h' ((d, o) :: (x, instObj 109 dx) :: (dx, dictOf [⟨hs, .str (Str.ofString "_data") t, .ref d⟩] 1) :: news) → (∀ p ∈ news, p.1 < dx) → dx < x → x < d → (d == sysModules) = false → o.IsDictOf (mkind prog w) [] → Q (.ref x) { s with heap := h', toks := tk }) :
    wpAny (model prog w) (callerA.deeper (lwEnv fa L ck cy)) (call (.ref 109) []) Q E s := by
  revert X; unfold prog; k_fill; intro X
  refine call_cls F X N (by k_is) (by k_is) (by k_is) fun x dx h1 F1 N1 l1 l2 => ?_
  have l3 := ltN l2
  k_enter
  k_steps
  exact h _ _ _ _ _ _ _ _ (by assumption) (by assumption) l1 l2 (And.left (by assumption)) (by assumption) (empty_dict (by assumption : Obj.IsDictOf (PySem.strKind _ _) _ []))
end
end
end
end Mine
namespace Mine
section
local macro_rules | `(tactic| k_room) => `(tactic| ((simp only [depth_under_make, depth_under_kw, depth_in1, depth_deeper, depth_caller, recursionLimit] at *); omega))
local macro_rules | `(tactic| k_mem) => `(tactic| assumption)

theorem pv_strip {ex cn : List (Addr × Obj)} {v : Value} (hex : ∀ q ∈ ex, ∃ t, q.2.cls = .type t ∧ t ≠ "dict") (p : PV (ex ++ cn) v) : PV cn v := by
  cases p with
  | none => exact .none
  | int t => exact .int t
  | str t => exact .str t
  | obj q dq es n a b =>
    refine .obj q dq es n ?_ ?_
    · rcases List.mem_append.mp a with a | a
      · obtain ⟨t, h1, _⟩ := hex _ a
        cases h1
      · exact a
    · rcases List.mem_append.mp b with b | b
      · obtain ⟨t, h1, h2⟩ := hex _ b
        have h3 : Value.type "dict" = Value.type t := h1
        injection h3 with h3
        exact absurd h3.symm h2
      · exact b
abbrev Plc.also (P : Plc) (ex : List (Addr × Obj)) : Plc := { P with cn := ex ++ P.cn }
theorem Sta.also {P : Plc} (S : Sta P) {ex : List (Addr × Obj)} (hex : ∀ q ∈ ex, q.1 ∉ [370, P.ck, P.cy, P.d0, P.e0, P.d1, P.e1]) : Sta (P.also ex) :=
  have u : ∀ {q : Addr × Obj}, q ∈ P.cn → q ∈ ex ++ P.cn := fun h => List.mem_append_right _ h
  ⟨u S.hx0, u S.hdx0, u S.hx1, u S.hdx1, u S.htw0, u S.htw1, u S.hwl, u S.hky, u S.hpl, S.keys, fun i hi => let ⟨v, a, b⟩ := S.pool i hi; ⟨v, a, PV.mono (fun _ h => u h) b⟩, PV.mono (fun _ h => u h) S.pbx, S.nodup,
    fun q hq => (List.mem_append.mp hq).elim (hex q) (S.apart q), S.lo0, S.loe0, S.lo1, S.loe1⟩
section
variable {fa : Addr} {w : World} {A A₀ : Around} {s : Shared} {h₀ h : Heap} {L It l : Addr} {m mg mb : Str → Option Value} {p : Program} {loose : List Str} {mean : ExcName → Option Value} {P : Plc} {kv0 kv1 : List (Nat × Value)} {nw : List (Addr × Obj)} {Q : Flow → Shared → Prop} {E : Value → Shared → Prop} {i : Nat} {ob : Obj}
theorem Dyn.drop (D : Dyn w P kv0 kv1 nw) (N : News h₀ L h nw) (hit : h.get? It = some ob) (hob : ob.data = .fields #[.ref l, .int i 0]) (hI : It ∉ [370, P.ck, P.cy, P.d0, P.e0, P.d1, P.e1]) (hcn : ∀ q ∈ P.cn, q.1 ≠ It) :
    Dyn w P kv0 kv1 (nw.filter (fun q => decide (q.1 ≠ It))) := by
  have f : ∀ {q : Addr × Obj}, q ∈ nw → q.1 ≠ It → q ∈ nw.filter (fun q => decide (q.1 ≠ It)) := fun a b => List.mem_filter.mpr ⟨a, decide_eq_true b⟩
  simp only [List.mem_cons, List.not_mem_nil, or_false, not_or] at hI
  obtain ⟨i1, i2, i3, i4, i5, i6, i7⟩ := hI
  obtain ⟨ps, h1, h2⟩ := D.tab
  obtain ⟨oc, oy, v0, v1, h3, h4, h5, h6⟩ := D.cells
  obtain ⟨o0, oe0, a1, a2, a3, a4⟩ := D.w0
  obtain ⟨o1, oe1, b1, b2, b3, b4⟩ := D.w1
  refine ⟨fun q hq => f (D.sub q hq) (hcn q hq), ⟨ps, f h1 (Ne.symm i1), h2.1, fun z hz => (h2.2 z hz).imp id fun ⟨c', oc', vs, t, x1, x2, x3, x4⟩ => ⟨c', oc', vs, t, x1, f x2 fun e => ?_, x3, x4⟩⟩, ⟨oc, oy, v0, v1, f h3 (Ne.symm i2), f h4 (Ne.symm i3), h5, h6⟩,
    ⟨o0, oe0, f a1 (Ne.symm i4), f a2 (Ne.symm i5), a3, a4⟩, ⟨o1, oe1, f b1 (Ne.symm i6), f b2 (Ne.symm i7), b3, b4⟩, D.pv0, D.pv1⟩
  have e1 := (N _ x2).1
  have e0 : c' = It := e
  subst e0
  rw [show h.get? (c', oc').1 = some ob from hit] at e1
  have e2 := Option.some.inj e1
  subst e2
  rw [hob] at x3
  injection x3 with x3
  subst x3
  simp at x4
theorem mainLoop {items : Array Value} {lobj : Obj} (B : Below A₀ h₀ [] h₀) (F : Fr h₀ L s.heap m) (X : (hd.heap_39 w.params).In h₀) (N : News h₀ L s.heap nw) (T : Top p loose mean mg mb h₀) (hA : A.frames = some [lwEnv fa L P.ck P.cy]) (hdep : A.depth + 200 < 1000) (hun : A.units + 300 < 9900) (hh : A.handled = none) (hC : CodeHd h₀ 374 370)
    (S : Sta P) (Nm : Nam P m) (D : Dyn w P kv0 kv1 nw) (hb : AllBare s.gens) (l0 : kv0.length ≤ 1) (l1 : kv1.length ≤ 1)
    (hl : s.heap.get? l = some lobj) (hlc : lobj.cls = .type "list") (hld : ∃ n, lobj.data = .seq items n) (hlL : l ≠ L) (hl0 : h₀.get? l = none) (hlD : l ∉ [370, P.ck, P.cy, P.d0, P.e0, P.d1, P.e1])
    (hints : ∀ (i : Nat) (v : Value), items[i]? = some v → ∃ n t, v = .int n t) (hlen : items.size ≤ 100)
    (h : ∀ s' m' kv0' kv1' nw', Fr h₀ L s'.heap m' → Nam P m' → News h₀ L s'.heap nw' → Dyn w P kv0' kv1' nw' → AllBare s'.gens → s'.os = s.os → kv0'.length ≤ 200 → kv1'.length ≤ 200 → Q .next s') :
    wpAny (model prog w) A (pyIter (.ref l)) (fun it s₂ => codeAny (model prog w) A (.forLoop (.Name (Str.ofString "v") (pos 320 8 320 9)) it lwBody [] (lwEnv fa L P.ck P.cy)) (fun r s' => match r with | .ok f => Q f s' | .error e => cameBackBy (model prog w) A (lwEnv fa L P.ck P.cy) E e s') s₂) E s := by
  have isl : ∀ {h : Heap}, h.get? l = some lobj → h.IsList l items := fun e => ⟨lobj, e, hlc, hld⟩
  refine wpAny_pyIter_list (isl hl) ?_
  have lt : ∀ {q : Addr × Obj}, q ∈ nw → q.1 < s.heap.objs.size := fun hq => Heap.lt_size (N _ hq).1
  have hIL : s.heap.objs.size ≠ L := Nat.ne_of_gt F.ns.lt
  have hI0 : h₀.get? s.heap.objs.size = none := by
    cases e : h₀.get? s.heap.objs.size with
    | none => rfl
    | some _ => exact absurd (Heap.lt_size (F.keep _ _ e)) (Nat.lt_irrefl _)
  have hID : s.heap.objs.size ∉ [370, P.ck, P.cy, P.d0, P.e0, P.d1, P.e1] := by
    obtain ⟨ps, h1, h2⟩ := D.tab
    obtain ⟨oc, oy, v0, v1, h3, h4, h5, h6⟩ := D.cells
    obtain ⟨o0, oe0, a1, a2, a3, a4⟩ := D.w0
    obtain ⟨o1, oe1, b1, b2, b3, b4⟩ := D.w1
    simp only [List.mem_cons, List.not_mem_nil, or_false, not_or]
    exact ⟨Nat.ne_of_gt (lt h1), Nat.ne_of_gt (lt h3), Nat.ne_of_gt (lt h4), Nat.ne_of_gt (lt a1), Nat.ne_of_gt (lt a2), Nat.ne_of_gt (lt b1), Nat.ne_of_gt (lt b2)⟩
  have hIc : ∀ q ∈ P.cn, q.1 ≠ s.heap.objs.size := fun q hq => Nat.ne_of_lt (lt (D.sub q hq))
  have hIN : ∀ q ∈ nw, q.1 ≠ s.heap.objs.size := fun q hq => Nat.ne_of_lt (lt hq)
  have hIl : l ≠ s.heap.objs.size := Nat.ne_of_lt (Heap.lt_size hl)
  have hit0 : (s.heap.push { cls := .type "list_iterator", data := .fields #[.ref l, .int 0 0] }).IsListIter s.heap.objs.size l 0 := ⟨_, Heap.get?_push_size _ rfl, rfl, rfl⟩
  have F0 := F.push { cls := .type "list_iterator", data := .fields #[.ref l, .int 0 0] }
  have N0 : News h₀ L (s.heap.push { cls := .type "list_iterator", data := .fields #[.ref l, .int 0 0] }) nw := fun q hq => ⟨Heap.get?_push_of_some _ (N q hq).1, (N q hq).2⟩
  have hl1 : (s.heap.push { cls := .type "list_iterator", data := .fields #[.ref l, .int 0 0] }).get? l = some lobj := Heap.get?_push_of_some _ hl
  generalize s.heap.push { cls := .type "list_iterator", data := .fields #[.ref l, .int 0 0] } = H at *
  generalize s.heap.objs.size = I at *
  refine codeAny_forLoop
    (fun k s' => ∃ m' kv0 kv1 nw i, Fr h₀ L s'.heap m' ∧ Nam P m' ∧ News h₀ L s'.heap nw ∧ Dyn w P kv0 kv1 nw ∧ AllBare s'.gens ∧ s'.os = s.os ∧ s'.heap.IsListIter I l i ∧ s'.heap.get? l = some lobj ∧ (∀ q ∈ nw, q.1 ≠ I) ∧ i ≤ items.size ∧ k = items.size + 1 - i ∧ kv0.length ≤ 1 + i ∧ kv1.length ≤ 1 + i)
    ?_ (items.size + 1) ⟨m, kv0, kv1, nw, 0, F0, Nm, N0, D, hb, rfl, hit0, hl1, hIN, Nat.zero_le _, rfl, l0, l1⟩
  rintro k s' ⟨m', kv0, kv1, nw, i, F', Nm', N', D', hb', hos', hit', hl', hIN', hi, rfl, l0', l1'⟩
  cases hx : items[i]? with
  | none =>
    have hin : i = items.size := Nat.le_antisymm hi (by simpa using hx)
    refine wpAny_pyNext_list_end hh hit' (isl hl') hx fun h₂ he₂ => wpAny_execs_nil ?_
    replace he₂ : Heap.ExtBut I s'.heap h₂ := he₂
    exact h _ m' kv0 kv1 nw ⟨F'.ns.extBut he₂ (Ne.symm hIL), fun b o e => he₂ b o (fun q => by rw [q, hI0] at e; cases e) (F'.keep b o e), F'.above⟩ Nm' (fun q hq => ⟨he₂ _ _ (hIN' q hq) (N' q hq).1, (N' q hq).2⟩) D' hb' hos' (by omega) (by omega)
  | some x =>
    have hlt : i < items.size := (Array.getElem?_eq_some_iff.mp hx).1
    obtain ⟨n, t, rfl⟩ := hints i x hx
    refine wpAny_pyNext_list_item hit' (isl hl') hx fun h₂ hit₂ hs₂ => ?_
    replace hs₂ : Heap.SameBut I s'.heap h₂ := hs₂
    have F₂ : Fr h₀ L h₂ m' := ⟨F'.ns.sameBut hs₂ (Ne.symm hIL), fun b o e => hs₂.extBut b o (fun q => by rw [q, hI0] at e; cases e) (F'.keep b o e), F'.above⟩
    obtain ⟨io, hio, hic, hid⟩ := hit₂
    have hl₂ : h₂.get? l = some lobj := hs₂.extBut _ _ hIl hl'
    have N₂ : News h₀ L h₂ ([(I, io), (l, lobj)] ++ nw) := by
      intro q hq
      rcases List.mem_cons.mp hq with rfl | hq
      · exact ⟨hio, hIL, hI0⟩
      · rcases List.mem_cons.mp hq with rfl | hq
        · exact ⟨hl₂, hlL, hl0⟩
        · exact ⟨hs₂.extBut _ _ (hIN' q hq) (N' q hq).1, (N' q hq).2⟩
    refine wpAny_assign_Name (storeX_L F₂ N₂ (fun h₃ F₃ N₃ => ?_) rfl rfl)
    have up : ∀ {q : Addr × Obj}, q ∈ nw → q ∈ [(I, io), (l, lobj)] ++ nw := fun hq => List.mem_append_right _ hq
    have hex : ∀ q ∈ [(I, io), (l, lobj)], q.1 ∉ [370, P.ck, P.cy, P.d0, P.e0, P.d1, P.e1] := List.forall_mem_cons.mpr ⟨hID, List.forall_mem_cons.mpr ⟨hlD, fun _ hq => nomatch hq⟩⟩
    have D₃ : Dyn w (P.also [(I, io), (l, lobj)]) kv0 kv1 ([(I, io), (l, lobj)] ++ nw) := by
      obtain ⟨ps, a1, a2⟩ := D'.tab
      obtain ⟨oc, oy, v0, v1, a3, a4, a5, a6⟩ := D'.cells
      obtain ⟨o0, oe0, b1, b2, b3, b4⟩ := D'.w0
      obtain ⟨o1, oe1, c1, c2, c3, c4⟩ := D'.w1
      exact ⟨fun q hq => (List.mem_append.mp hq).elim (fun z => List.mem_append_left _ z) fun z => up (D'.sub q z), ⟨ps, up a1, a2.mono fun q hq => up hq⟩, ⟨oc, oy, v0, v1, up a3, up a4, a5, a6⟩, ⟨o0, oe0, up b1, up b2, b3, b4⟩, ⟨o1, oe1, up c1, up c2, c3, c4⟩,
        fun q hq => PV.mono (fun _ z => List.mem_append_right _ z) (D'.pv0 q hq), fun q hq => PV.mono (fun _ z => List.mem_append_right _ z) (D'.pv1 q hq)⟩
    refine turn (P := P.also [(I, io), (l, lobj)]) (v := n) (tv := t) (n := 1 + i) B F₃ X N₃ T hA hdep hun hh hC (S.also hex) ⟨Nm'.worlds, Nm'.keys, Nm'.pool, Nm'.box⟩ D₃ rfl hb' l0' l1' (by omega) fun s₄ m₄ kv0' kv1' nw' F₄ Nm₄ N₄ D₄ hb₄ hos₄ l0₄ l1₄ => ?_
    have hI₄ := (N₄ _ (D₄.sub (I, io) (.head _))).1
    have hl₄ := (N₄ _ (D₄.sub (l, lobj) (.tail _ (.head _)))).1
    have hcls : ∀ q ∈ [(I, io), (l, lobj)], ∃ t, q.2.cls = .type t ∧ t ≠ "dict" := List.forall_mem_cons.mpr ⟨⟨_, hic, by decide⟩, List.forall_mem_cons.mpr ⟨⟨_, hlc, by decide⟩, fun _ hq => nomatch hq⟩⟩
    have D₅ : Dyn w P kv0' kv1' nw' := ⟨fun q hq => D₄.sub q (List.mem_append_right _ hq), D₄.tab, D₄.cells, D₄.w0, D₄.w1, fun q hq => pv_strip hcls (D₄.pv0 q hq), fun q hq => pv_strip hcls (D₄.pv1 q hq)⟩
    refine ⟨items.size + 1 - (i + 1), by omega, m₄, kv0', kv1', nw'.filter (fun q => decide (q.1 ≠ I)), i + 1, F₄, ⟨Nm₄.worlds, Nm₄.keys, Nm₄.pool, Nm₄.box⟩, fun q hq => N₄ q (List.mem_filter.mp hq).1, D₅.drop N₄ hI₄ hid hID hIc, hb₄, hos₄.trans hos', ⟨io, hI₄, hic, hid⟩, hl₄,
      fun q hq => of_decide_eq_true (List.mem_filter.mp hq).2, by omega, rfl, by omega, by omega⟩
end
end
end Mine
namespace Mine
section
local macro_rules | `(tactic| k_room) => `(tactic| ((simp only [depth_under_make, depth_under_kw, depth_in1, depth_deeper, depth_caller, recursionLimit] at *); omega))
local macro_rules | `(tactic| k_mem) => `(tactic| assumption)

section
variable {fa : Addr} {w : World} {A A₀ : Around} {s : Shared} {h₀ h : Heap} {L : Addr} {m mg mb : Str → Option Value} {p : Program} {loose : List Str} {mean : ExcName → Option Value} {x dx d e ck cy : Addr} {o oe oc oy : Obj} {hs : Int} {tk : Tok} {oth : List (Addr × Obj)} {Q : Flow → Shared → Prop} {E : Value → Shared → Prop} {ps : Array Value} {wl tw0 tw1 pl : Addr} {c1 : Nat} {val : Value} {poolA : Array Value} {v0 v1 : Option Value} {rest : List Stmt}
section
local macro_rules | `(tactic| walk_at "eval Name") => `(tactic| (k_dflt (first | (refine' nameX_L ?F ?hv ?_; (case F => k_asm); (case hv => assumption); k_whole) | (refine' nameX_C ?N ?c ?m ?d ?_; (case N => k_asm); (case c => rfl); (case m => k_mem); (case d => assumption); k_whole))))

theorem pre2 (B : Below A₀ h₀ [] h₀) (F : Fr h₀ L s.heap m) (X : (hd.heap_39 w.params).In h₀) (N : News h₀ L s.heap ((370, tabObj ps) :: (ck, oc) :: (cy, oy) :: (d, o) :: (e, oe) :: oth)) (T : Top p loose mean mg mb h₀) (hA : A.frames = some [lwEnv fa L ck cy]) (hdep : A.depth + 200 < 1000) (hun : A.units + 300 < 9900) (hh : A.handled = none)
    (hm2 : m (Str.ofString "worlds") = some (.ref wl)) (hm4 : m (Str.ofString "pool") = some (.ref pl))
    (hwl : (wl, listObj #[.ref tw0, .ref tw1] c1) ∈ oth) (htw : (tw0, { cls := .type "tuple", data := .seq #[.ref x, .ref e] }) ∈ oth) (hpl : (pl, { cls := .type "tuple", data := .seq poolA }) ∈ oth) (hk2 : poolA[0]? = some val)
    (hx : (x, instObj 109 dx) ∈ oth) (hdx : (dx, dictOf [⟨hs, .str (Str.ofString "_data") tk, .ref d⟩] 1) ∈ oth)
    (hoc : oc.data = .cell v0) (hD : o.IsDictOf (mkind prog w) []) (hE : oe.IsDictOf (mkind prog w) [])
    (hnd : List.Nodup [370, ck, cy, d, e]) (ho : ∀ q ∈ oth, q.1 ∉ [370, ck, cy, d, e])
    (h : ∀ h' tk m' o4 o' oe', Fr h₀ L h' m' → (∀ y, y ≠ Str.ofString "twin" → m' y = m y) → News h₀ L h' ((370, tabObj ps) :: (ck, o4) :: (cy, oy) :: (d, o') :: (e, oe') :: oth) → o4.data = .cell (some (.ref x)) → o'.IsDictOf (mkind prog w) (stored [] 4 val) → oe'.IsDictOf (mkind prog w) (stored [] 4 val) →
      wpAny (model prog w) A (execs rest (lwEnv fa L ck cy)) Q E { s with heap := h', toks := tk }) :
    wpAny (model prog w) A (execs (lw4 :: lw5 :: lw6 :: rest) (lwEnv fa L ck cy)) Q E s := by
  have X0 := X
  have n := (dist_of hnd ho).get
  have nkk : cy ≠ ck := fun q => by simp [q] at hnd
  have nck : ∀ q ∈ oth, q.1 ≠ ck := fun q hq e' => ho q hq (by simp [e'])
  have hw0 : (#[Value.ref tw0, Value.ref tw1] : Array Value)[0]? = some (.ref tw0) := rfl
  clear hnd ho
  revert X; unfold prog; k_fill; intro X
  k_steps
  refine item_l (j := 0) (v := .ref tw0) (by k_asm) (.tail _ (.tail _ (.tail _ (.tail _ (.tail _ hwl))))) hw0 (by omega) ?_
  dsimp only
  k_steps
  have ht : s.heap.IsTuple tw0 #[.ref x, .ref e] := ⟨_, (N _ (.tail _ (.tail _ (.tail _ (.tail _ (.tail _ htw)))))).1, rfl, _, rfl⟩
  refine wpAny_assign_Tuple hh ht rfl rfl fun h3 hx3 => ?_
  have k3 : ∀ b o, s.heap.get? b = some o → h3.get? b = some o := fun b o e => hx3 b o (Nat.ne_of_lt (Heap.lt_size e)) e
  have F3 : Fr h₀ L h3 m := F.keeps k3
  have N3 : News h₀ L h3 ((370, tabObj ps) :: (ck, oc) :: (cy, oy) :: (d, o) :: (e, oe) :: oth) := fun q hq => ⟨k3 _ _ (N q hq).1, (N q hq).2⟩
  clear F N
  show wpAny _ _ (do holding [.ref e] (assign (.Name (Str.ofString "kept") (pos 317 4 317 8)) (lwEnv fa L ck cy) (.ref x)); do holding [] (assign (.Name (Str.ofString "twin") (pos 317 10 317 14)) (lwEnv fa L ck cy) (.ref e)); pure ()) _ _ _
  refine wpAny_bind (wpAny_holding (wpAny_assign_Name (storeX_C F3 N3 rfl (g := fun o' => (370, tabObj ps) :: (ck, o') :: (cy, oy) :: (d, o) :: (e, oe) :: oth) (UpdF.tail (Ne.symm n.n11) (UpdF.head (List.forall_mem_cons.mpr ⟨nkk, List.forall_mem_cons.mpr ⟨Ne.symm n.n1, List.forall_mem_cons.mpr ⟨Ne.symm n.n4, nck⟩⟩⟩))) hoc (fun h4 o4 F4 N4 d4 => ?_) rfl rfl)))
  refine wpAny_bind (wpAny_holding (wpAny_assign_Name (storeX_L F4 N4 (fun h5 F5 N5 => wpAny_pure ?_) rfl rfl)))
  dsimp only
  clear F3 N3 F4 N4
  k_steps
  refine item_t (i := 0) (by k_asm) (.tail _ (.tail _ (.tail _ (.tail _ (.tail _ hpl))))) hk2 (by omega) ?_
  dsimp only
  k_steps
  refine wpAny_call (setitem_ok (k := 4) (g := fun o' => (370, tabObj ps) :: (ck, o4) :: (cy, oy) :: (d, o') :: (e, oe) :: oth) B (by k_asm) X (by k_asm) T hA rfl rfl (by omega) (.tail _ (.tail _ (.tail _ (.tail _ (.tail _ hx))))) (.tail _ (.tail _ (.tail _ (.tail _ (.tail _ hdx))))) (UpdF.tail n.n3 (UpdF.tail n.n1 (UpdF.tail n.n2 (UpdF.head (List.forall_mem_cons.mpr ⟨Ne.symm n.n7, n.n8⟩))))) hD (by rfl) (by rw [sizeLine_eq]; exact Nat.zero_le _) fun h6 tk6 o' F6 N6 hD' => ?_)
  dsimp only
  k_steps
  refine item_t (i := 0) (by k_asm) (.tail _ (.tail _ (.tail _ (.tail _ (.tail _ hpl))))) hk2 (by omega) ?_
  dsimp only
  k_steps
  refine kda_set (knd := mkind _ _) (k := 4) (g := fun oe' => (370, tabObj ps) :: (ck, o4) :: (cy, oy) :: (d, o') :: (e, oe') :: oth) F6 N6 (UpdF.tail n.n6 (UpdF.tail n.n4 (UpdF.tail n.n5 (UpdF.tail n.n7 (UpdF.head n.n9))))) hE (by rfl) (by rw [sizeLine_eq]; exact Nat.zero_le _) fun h7 oe' F7 N7 hE' => ?_
  dsimp only
  exact h _ _ _ _ _ _ F7 (fun y hy => if_neg hy) N7 d4 hD' hE'
end
end
end
end Mine
namespace Mine
section
local macro_rules | `(tactic| k_room) => `(tactic| ((simp only [depth_under_make, depth_under_kw, depth_in1, depth_deeper, depth_caller, recursionLimit] at *); omega))
local macro_rules | `(tactic| k_mem) => `(tactic| assumption)

section
variable {fa : Addr} {w : World} {A A₀ : Around} {s : Shared} {h₀ h : Heap} {L sl : Addr} {m mg mb : Str → Option Value} {p : Program} {loose : List Str} {mean : ExcName → Option Value} {nw : List (Addr × Obj)} {P : Plc} {kv0 kv1 : List (Nat × Value)} {oc oy o0 oe0 o1 oe1 : Obj} {v0 v1 : Option Value} {vs : List Value} {ns : List Int} {val : Value} {ps : Array Value}
section
local macro_rules | `(tactic| walk_at "eval Name") => `(tactic| (k_dflt (first | (refine' nameX_L ?F ?hv ?_; (case F => k_asm); (case hv => assumption); k_whole) | (refine' nameX_C ?N ?c ?m ?d ?_; (case N => k_asm); (case c => rfl); (case m => k_mem); (case d => assumption); k_whole))))

theorem allLt_get {d : Addr} {l : List (Addr × Obj)} (h : AllLt d l) : ∀ q ∈ l, @LT.lt Nat _ q.1 d := by
  induction l with
  | nil => exact fun q hq => nomatch hq
  | cons a r ih =>
    intro q hq
    rcases List.mem_cons.mp hq with e | hq
    · rw [e]; exact h.1
    · exact ih h.2 q hq
theorem ints_len {vs : List Value} {ns : List Int} (h : IntsAre vs ns) : vs.length = ns.length := by
  induction h with
  | nil => rfl
  | cons _ _ _ ih => rw [List.length_cons, List.length_cons, ih]
theorem ints_get {vs : List Value} {ns : List Int} (h : IntsAre vs ns) : ∀ (i : Nat) (v : Value), vs[i]? = some v → ∃ n t, v = .int n t := by
  induction h with
  | nil => intro i v e; rw [List.getElem?_nil] at e; cases e
  | cons n t _ ih =>
    intro i v e
    cases i with
    | zero => rw [List.getElem?_cons_zero] at e; exact ⟨n, t, (Option.some.inj e).symm⟩
    | succ i => rw [List.getElem?_cons_succ] at e; exact ih i v e
theorem law_end {Q : Flow → Shared → Prop} {E : Value → Shared → Prop} (B : Below A₀ h₀ [] h₀) (F : Fr h₀ L s.heap m) (X : (hd.heap_39 w.params).In h₀) (N : News h₀ L s.heap nw) (T : Top p loose mean mg mb h₀) (hA : A.frames = some [lwEnv fa L P.ck P.cy]) (hdep : A.depth + 200 < 1000) (hun : A.units + 300 < 9900) (hh : A.handled = none)
    (S : Sta P) (Nm : Nam P m) (D : Dyn w P kv0 kv1 nw) (l0 : kv0.length ≤ 200)
    (h : ∀ h' tk, Fr h₀ L h' m → News h₀ L h' nw → Q (.ret (.bool true)) { s with heap := h', toks := tk }) :
    wpAny (model prog w) A (execs [lw8] (lwEnv fa L P.ck P.cy)) Q E s := by
  have hm1 := Nm.worlds
  have hwl := D.sub _ S.hwl
  have htw := D.sub _ S.htw0
  have hx := D.sub _ S.hx0
  have hdx := D.sub _ S.hdx0
  have lo := S.lo0
  have loe := S.loe0
  obtain ⟨o0, oe0, hd0, he0, hD0, hE0⟩ := D.w0
  clear S Nm D
  have hw0 : (#[Value.ref P.tw0, Value.ref P.tw1] : Array Value)[0]? = some (.ref P.tw0) := rfl
  have X0 := X
  revert X; unfold prog; k_fill; intro X
  k_steps
  refine item_l (j := 0) (v := .ref P.tw0) (by k_asm) hwl hw0 (by omega) ?_
  (try dsimp only)
  k_steps
  refine wpAny_call (len_ok B (by k_asm) X (by k_asm) T hA rfl rfl (by show A.depth + 5 < 1000; omega) hx hdx hd0 hD0 lo (by omega) fun h1 tk1 t1 F1 N1 => ?_)
  refine ⟨⟨by omega, by omega⟩, ?_⟩
  dsimp only
  k_steps
  refine item_l (j := 0) (v := .ref P.tw0) (by k_asm) hwl hw0 (by omega) ?_
  (try dsimp only)
  k_steps
  refine kda_len (knd := mkind _ _) (by k_asm) he0 hE0 loe (by omega) ?_
  dsimp only
  k_steps
  have e : ((kv0.length : Int) == (kv0.length : Int)) = true := beq_self_eq_true _
  rw [e]
  exact h _ _ F1 N1
theorem law_iter {Q : Value → Shared → Prop} {E : Value → Shared → Prop} {ck cy : Addr} (B : Below A₀ h₀ [] h₀) (F : Fr h₀ L s.heap m) (X : (hd.heap_39 w.params).In h₀) (N : News h₀ L s.heap nw) (T : Top p loose mean mg mb h₀) (hA : A.frames = some [lwEnv fa L ck cy])
    (hm : m (Str.ofString "script") = some (.ref sl)) (hS : h₀.IsList sl vs.toArray) (hI : IntsAre vs ns) (hlen : ns.length ≤ 63)
    (h : ∀ h' tk (l : Addr) (vs' : List Value) (ns' : List Int) (n : Nat), Fr h₀ L h' m → News h₀ L h' ((l, W.listOf vs'.toArray n) :: nw) → IntsAre vs' ns' → vs'.length ≤ 100 → (∀ q ∈ nw, q.1 ≠ l) → Q (.ref l) { s with heap := h', toks := tk }) :
    wpAny (model prog w) A (eval lwIter (lwEnv fa L ck cy)) Q E s := by
  have X0 := X
  revert X; unfold prog; k_fill; intro X
  k_steps
  rename_i D1 ws hZ FZ NZ IZ lZ
  refine h _ _ D1 ws _ 0 FZ (List.forall_mem_cons.mpr ⟨NZ _ (.head _), fun q hq => NZ q (.tail _ (.tail _ (.tail _ hq)))⟩) IZ ?_ (fun q hq => Nat.ne_of_lt (allLt_get lZ.2.2 q hq))
  rw [ints_len IZ, List.length_append, List.length_take]
  have : ([2] : List Int).length = 1 := rfl
  omega
end
end
end
end Mine
namespace Mine
section
local macro_rules | `(tactic| k_room) => `(tactic| ((simp only [depth_under_make, depth_under_kw, depth_in1, depth_deeper, depth_caller, recursionLimit] at *); omega))
local macro_rules | `(tactic| k_mem) => `(tactic| assumption)

section
variable {fa : Addr} {w : World} {A A₀ : Around} {s : Shared} {h₀ h : Heap} {L sl : Addr} {m mg mb : Str → Option Value} {p : Program} {loose : List Str} {mean : ExcName → Option Value} {P : Plc} {oc oy o0 oe0 o1 oe1 : Obj} {v0 v1 : Option Value} {vs : List Value} {ns : List Int}
theorem law_mid {Q : Flow → Shared → Prop} {E : Value → Shared → Prop} (B : Below A₀ h₀ [] h₀) (F : Fr h₀ L s.heap m) (X : (hd.heap_39 w.params).In h₀) (T : Top p loose mean mg mb h₀) (hA : A.frames = some [lwEnv fa L P.ck P.cy]) (hdep : A.depth + 200 < 1000) (hun : A.units + 300 < 9900) (hh : A.handled = none) (hC : CodeHd h₀ 374 370)
    (S : Sta P) (Nm : Nam P m) (hscr : m (Str.ofString "script") = some (.ref sl))
    (N : News h₀ L s.heap ((370, tabObj #[]) :: (P.ck, oc) :: (P.cy, oy) :: (P.d0, o0) :: (P.e0, oe0) :: (P.d1, o1) :: (P.e1, oe1) :: P.cn))
    (hoc : oc.data = .cell v0) (hoy : oy.data = .cell v1) (hD0 : o0.IsDictOf (mkind prog w) []) (hE0 : oe0.IsDictOf (mkind prog w) []) (hD1 : o1.IsDictOf (mkind prog w) []) (hE1 : oe1.IsDictOf (mkind prog w) [])
    (hS : h₀.IsList sl vs.toArray) (hI : IntsAre vs ns) (hlen : ns.length ≤ 63) (hb : AllBare s.gens)
    (h : ∀ s' : Shared, (∃ ps, s'.heap.get? 370 = some (tabObj ps)) → (∀ b o, h₀.get? b = some o → s'.heap.get? b = some o) → AllBare s'.gens → s'.os = s.os → Q (.ret (.bool true)) s') :
    wpAny (model prog w) A (execs [lw4, lw5, lw6, lwFor, lw8] (lwEnv fa L P.ck P.cy)) Q E s := by
  obtain ⟨nA, f1, g1, _, _, _⟩ := nd0 S.nodup
  obtain ⟨val, hk2, hpv⟩ := S.pool 0 (by omega)
  have t2 : ∀ {q : Addr × Obj}, q ∈ P.cn → q ∈ (P.d1, o1) :: (P.e1, oe1) :: P.cn := fun hq => .tail _ (.tail _ hq)
  refine pre2 (oth := (P.d1, o1) :: (P.e1, oe1) :: P.cn) (rest := [lwFor, lw8]) B F X N T hA hdep hun hh Nm.worlds Nm.pool (t2 S.hwl) (t2 S.htw0) (t2 S.hpl) hk2 (t2 S.hx0) (t2 S.hdx0) hoc hD0 hE0 nA (List.forall_mem_cons.mpr ⟨f1, List.forall_mem_cons.mpr ⟨g1, fun q hq => (ap7 (S.apart q hq)).1⟩⟩) ?_
  intro h1 tk1 m1 o4 o' oe' F1 hmy N1 d4 hD' hE'
  have Nm1 : Nam P m1 := ⟨(hmy _ (by decide)).trans Nm.worlds, (hmy _ (by decide)).trans Nm.keys, (hmy _ (by decide)).trans Nm.pool, (hmy _ (by decide)).trans Nm.box⟩
  refine wpAny_execs_cons (wpAny_For ?_)
  refine law_iter B F1 X N1 T hA ((hmy _ (by decide)).trans hscr) hS hI hlen fun h2 tk2 l vs' ns' n F2 N2 hI' hl' hne => ?_
  have D : Dyn w P (stored [] 4 val) [] ((370, tabObj #[]) :: (P.ck, o4) :: (P.cy, oy) :: (P.d0, o') :: (P.e0, oe') :: (P.d1, o1) :: (P.e1, oe1) :: P.cn) :=
    ⟨fun q hq => (.tail _ (.tail _ (.tail _ (.tail _ (.tail _ (.tail _ (.tail _ hq))))))), ⟨#[], .head _, trivial, fun _ _ => .inl rfl⟩, ⟨o4, oy, _, v1, (.tail _ (.head _)), (.tail _ (.tail _ (.head _))), d4, hoy⟩, ⟨o', oe', (.tail _ (.tail _ (.tail _ (.head _)))), (.tail _ (.tail _ (.tail _ (.tail _ (.head _))))), hD', hE'⟩, ⟨o1, oe1, (.tail _ (.tail _ (.tail _ (.tail _ (.tail _ (.head _)))))), (.tail _ (.tail _ (.tail _ (.tail _ (.tail _ (.tail _ (.head _))))))), hD1, hE1⟩,
      stored_pv (fun q hq => nomatch hq) hpv, fun q hq => nomatch hq⟩
  have hlD : l ∉ [370, P.ck, P.cy, P.d0, P.e0, P.d1, P.e1] := by
    simp only [List.mem_cons, List.not_mem_nil, or_false, not_or]
    exact ⟨Ne.symm (hne _ (.head _)), Ne.symm (hne _ (.tail _ (.head _))), Ne.symm (hne _ (.tail _ (.tail _ (.head _)))), Ne.symm (hne _ (.tail _ (.tail _ (.tail _ (.head _))))), Ne.symm (hne _ (.tail _ (.tail _ (.tail _ (.tail _ (.head _)))))), Ne.symm (hne _ (.tail _ (.tail _ (.tail _ (.tail _ (.tail _ (.head _))))))), Ne.symm (hne _ (.tail _ (.tail _ (.tail _ (.tail _ (.tail _ (.tail _ (.head _))))))))⟩
  refine mainLoop (P := P) (items := vs'.toArray) B F2 X (fun q hq => N2 q (.tail _ hq)) T hA hdep hun hh hC S Nm1 D hb (stored_length_le _ _ _) (Nat.zero_le _) (N2 _ (.head _)).1 rfl ⟨n, rfl⟩ (N2 _ (.head _)).2.1 (N2 _ (.head _)).2.2 hlD (fun i v e => ints_get hI' i v (by simpa using e)) (by rw [List.size_toArray]; exact hl') fun s3 m3 kv0 kv1 nw3 F3 Nm3 N3 D3 hb3 hos3 l0 l1 => ?_
  refine law_end B F3 X N3 T hA hdep hun hh S Nm3 D3 l0 fun h4 tk4 F4 N4 => ?_
  obtain ⟨ps, hps, _⟩ := D3.tab
  exact h _ ⟨ps, (N4 _ hps).1⟩ F4.keep hb3 hos3
end
theorem nd7 {a b c d e f g : Nat} (h1 : a < b) (h2 : b < c) (h3 : c < d) (h4 : d < e) (h5 : e < f) (h6 : f < g) : List.Nodup [a, b, c, d, e, f, g] := by
  simp only [List.nodup_cons, List.mem_cons, List.not_mem_nil, or_false, not_or, List.nodup_nil, and_true, not_false_eq_true]
  omega
theorem ap_hi {a b c d e f g z : Nat} (h1 : a < b) (h2 : b < c) (h3 : c < d) (h4 : d < e) (h5 : e < f) (h6 : f < g) (hz : g < z) : z ∉ [a, b, c, d, e, f, g] := by
  simp only [List.mem_cons, List.not_mem_nil, or_false, not_or]
  omega
theorem ap_mi {a b c d e f g z : Nat} (h1 : a < b) (h2 : b < c) (h3 : c < d) (h4 : d < e) (h6 : f < g) (hz : e < z) (hy : z < f) : z ∉ [a, b, c, d, e, f, g] := by
  simp only [List.mem_cons, List.not_mem_nil, or_false, not_or]
  omega
theorem ap_lo {a b c d e f g z : Nat} (h1 : a < b) (h2 : b < c) (h4 : d < e) (h5 : e < f) (h6 : f < g) (hz : c < z) (hy : z < d) : z ∉ [a, b, c, d, e, f, g] := by
  simp only [List.mem_cons, List.not_mem_nil, or_false, not_or]
  omega
section
variable {fa : Addr} {w : World} {A A₀ : Around} {s : Shared} {h₀ : Heap} {L ck cy sl : Addr} {m mg mb : Str → Option Value} {p : Program} {loose : List Str} {mean : ExcName → Option Value} {oc oy o0 oe0 o1 oe1 : Obj} {v0 v1 : Option Value} {vs : List Value} {ns : List Int}
  {wl tw0 tw1 e0 d0 x0 dx0 e1 d1 x1 dx1 ky pl q1 dq1 q2 dq2 q3 dq3 : Addr} {hs0 hs1 : Int} {t0 t1 ta tb tc td te tf : Tok} {es1 es2 es3 : List DictEntry} {n1 n2 n3 : Nat}
theorem law_fin {Q : Flow → Shared → Prop} {E : Value → Shared → Prop} (B : Below A₀ h₀ [] h₀) (F : Fr h₀ L s.heap m) (X : (hd.heap_39 w.params).In h₀) (T : Top p loose mean mg mb h₀) (hA : A.frames = some [lwEnv fa L ck cy]) (hdep : A.depth + 200 < 1000) (hun : A.units + 300 < 9900) (hh : A.handled = none) (hC : CodeHd h₀ 374 370)
    (NZ : News h₀ L s.heap [(wl, W.listOf #[.ref tw0, .ref tw1] 0), (tw1, { cls := .type "tuple", data := .seq #[.ref x1, .ref e1] }), (e1, oe1), (d1, o1), (x1, instObj 109 dx1), (dx1, dictOf [⟨hs1, .str (Str.ofString "_data") t1, .ref d1⟩] 1), (tw0, { cls := .type "tuple", data := .seq #[.ref x0, .ref e0] }), (e0, oe0), (d0, o0), (x0, instObj 109 dx0), (dx0, dictOf [⟨hs0, .str (Str.ofString "_data") t0, .ref d0⟩] 1), (ky, { cls := .type "tuple", data := .seq #[.bytes #[97] ta, .bytes #[] tb, .int 1 tc, .bool true, .str (Str.ofString "a") td] }), (pl, { cls := .type "tuple", data := .seq #[.ref q2, .ref q3, .none, .int 0 te, .str (Str.ofString "") tf] }), (q3, instObj 343 dq3), (dq3, dictOf es3 n3), (q2, instObj 343 dq2), (dq2, dictOf es2 n2), (q1, instObj 343 dq1), (dq1, dictOf es1 n1), (cy, oy), (ck, oc), (370, tabObj #[])])
    (m1 : m (Str.ofString "worlds") = some (.ref wl)) (m2 : m (Str.ofString "keys") = some (.ref ky)) (m3 : m (Str.ofString "pool") = some (.ref pl)) (m4 : m (Str.ofString "box") = some (.ref q1)) (hm : m (Str.ofString "script") = some (.ref sl))
    (hoc : oc.data = .cell v0) (hoy : oy.data = .cell v1) (hD0 : o0.IsDictOf (mkind prog w) []) (hE0 : oe0.IsDictOf (mkind prog w) []) (hD1 : o1.IsDictOf (mkind prog w) []) (hE1 : oe1.IsDictOf (mkind prog w) [])
    (lo0 : (d0 == sysModules) = false) (loe0 : (e0 == sysModules) = false) (lo1 : (d1 == sysModules) = false) (loe1 : (e1 == sysModules) = false)
    (nd : List.Nodup [370, ck, cy, d0, e0, d1, e1]) (ap : ∀ q ∈ [(wl, W.listOf #[.ref tw0, .ref tw1] 0), (tw1, { cls := .type "tuple", data := .seq #[.ref x1, .ref e1] }), (x1, instObj 109 dx1), (dx1, dictOf [⟨hs1, .str (Str.ofString "_data") t1, .ref d1⟩] 1), (tw0, { cls := .type "tuple", data := .seq #[.ref x0, .ref e0] }), (x0, instObj 109 dx0), (dx0, dictOf [⟨hs0, .str (Str.ofString "_data") t0, .ref d0⟩] 1), (ky, { cls := .type "tuple", data := .seq #[.bytes #[97] ta, .bytes #[] tb, .int 1 tc, .bool true, .str (Str.ofString "a") td] }), (pl, { cls := .type "tuple", data := .seq #[.ref q2, .ref q3, .none, .int 0 te, .str (Str.ofString "") tf] }), (q3, instObj 343 dq3), (dq3, dictOf es3 n3), (q2, instObj 343 dq2), (dq2, dictOf es2 n2), (q1, instObj 343 dq1), (dq1, dictOf es1 n1)], q.1 ∉ [370, ck, cy, d0, e0, d1, e1])
    (hS : h₀.IsList sl vs.toArray) (hI : IntsAre vs ns) (hlen : ns.length ≤ 63) (hb : AllBare s.gens)
    (h : ∀ s' : Shared, (∃ ps, s'.heap.get? 370 = some (tabObj ps)) → (∀ b o, h₀.get? b = some o → s'.heap.get? b = some o) → AllBare s'.gens → s'.os = s.os → Q (.ret (.bool true)) s') :
    wpAny (model prog w) A (execs [lw4, lw5, lw6, lwFor, lw8] (lwEnv fa L ck cy)) Q E s := by
  refine law_mid (P := ⟨x0, dx0, d0, e0, x1, dx1, d1, e1, tw0, tw1, wl, ky, pl, q1, ck, cy, hs0, hs1, t0, t1, 0, #[.bytes #[97] ta, .bytes #[] tb, .int 1 tc, .bool true, .str (Str.ofString "a") td], #[.ref q2, .ref q3, .none, .int 0 te, .str (Str.ofString "") tf], [(wl, W.listOf #[.ref tw0, .ref tw1] 0), (tw1, { cls := .type "tuple", data := .seq #[.ref x1, .ref e1] }), (x1, instObj 109 dx1), (dx1, dictOf [⟨hs1, .str (Str.ofString "_data") t1, .ref d1⟩] 1), (tw0, { cls := .type "tuple", data := .seq #[.ref x0, .ref e0] }), (x0, instObj 109 dx0), (dx0, dictOf [⟨hs0, .str (Str.ofString "_data") t0, .ref d0⟩] 1), (ky, { cls := .type "tuple", data := .seq #[.bytes #[97] ta, .bytes #[] tb, .int 1 tc, .bool true, .str (Str.ofString "a") td] }), (pl, { cls := .type "tuple", data := .seq #[.ref q2, .ref q3, .none, .int 0 te, .str (Str.ofString "") tf] }), (q3, instObj 343 dq3), (dq3, dictOf es3 n3), (q2, instObj 343 dq2), (dq2, dictOf es2 n2), (q1, instObj 343 dq1), (dq1, dictOf es1 n1)]⟩) (oc := oc) (oy := oy) (o0 := o0) (oe0 := oe0) (o1 := o1) (oe1 := oe1) B F X T hA hdep hun hh hC
    ⟨(.tail _ (.tail _ (.tail _ (.tail _ (.tail _ (.head _)))))), (.tail _ (.tail _ (.tail _ (.tail _ (.tail _ (.tail _ (.head _))))))), (.tail _ (.tail _ (.head _))), (.tail _ (.tail _ (.tail _ (.head _)))), (.tail _ (.tail _ (.tail _ (.tail _ (.head _))))), (.tail _ (.head _)), (.head _), (.tail _ (.tail _ (.tail _ (.tail _ (.tail _ (.tail _ (.tail _ (.head _)))))))), (.tail _ (.tail _ (.tail _ (.tail _ (.tail _ (.tail _ (.tail _ (.tail _ (.head _))))))))), ?keys, ?pool, .obj q1 dq1 _ _ (.tail _ (.tail _ (.tail _ (.tail _ (.tail _ (.tail _ (.tail _ (.tail _ (.tail _ (.tail _ (.tail _ (.tail _ (.tail _ (.head _)))))))))))))) (.tail _ (.tail _ (.tail _ (.tail _ (.tail _ (.tail _ (.tail _ (.tail _ (.tail _ (.tail _ (.tail _ (.tail _ (.tail _ (.tail _ (.head _))))))))))))))), nd, ap, lo0, loe0, lo1, loe1⟩ ⟨m1, m2, m3, m4⟩ hm (List.forall_mem_cons.mpr ⟨NZ _ (.tail _ (.tail _ (.tail _ (.tail _ (.tail _ (.tail _ (.tail _ (.tail _ (.tail _ (.tail _ (.tail _ (.tail _ (.tail _ (.tail _ (.tail _ (.tail _ (.tail _ (.tail _ (.tail _ (.tail _ (.tail _ (.head _)))))))))))))))))))))), List.forall_mem_cons.mpr ⟨NZ _ (.tail _ (.tail _ (.tail _ (.tail _ (.tail _ (.tail _ (.tail _ (.tail _ (.tail _ (.tail _ (.tail _ (.tail _ (.tail _ (.tail _ (.tail _ (.tail _ (.tail _ (.tail _ (.tail _ (.tail _ (.head _))))))))))))))))))))), List.forall_mem_cons.mpr ⟨NZ _ (.tail _ (.tail _ (.tail _ (.tail _ (.tail _ (.tail _ (.tail _ (.tail _ (.tail _ (.tail _ (.tail _ (.tail _ (.tail _ (.tail _ (.tail _ (.tail _ (.tail _ (.tail _ (.tail _ (.head _)))))))))))))))))))), List.forall_mem_cons.mpr ⟨NZ _ (.tail _ (.tail _ (.tail _ (.tail _ (.tail _ (.tail _ (.tail _ (.tail _ (.head _))))))))), List.forall_mem_cons.mpr ⟨NZ _ (.tail _ (.tail _ (.tail _ (.tail _ (.tail _ (.tail _ (.tail _ (.head _)))))))), List.forall_mem_cons.mpr ⟨NZ _ (.tail _ (.tail _ (.tail _ (.head _)))), List.forall_mem_cons.mpr ⟨NZ _ (.tail _ (.tail _ (.head _))), List.forall_mem_cons.mpr ⟨NZ _ (.head _), List.forall_mem_cons.mpr ⟨NZ _ (.tail _ (.head _)), List.forall_mem_cons.mpr ⟨NZ _ (.tail _ (.tail _ (.tail _ (.tail _ (.head _))))), List.forall_mem_cons.mpr ⟨NZ _ (.tail _ (.tail _ (.tail _ (.tail _ (.tail _ (.head _)))))), List.forall_mem_cons.mpr ⟨NZ _ (.tail _ (.tail _ (.tail _ (.tail _ (.tail _ (.tail _ (.head _))))))), List.forall_mem_cons.mpr ⟨NZ _ (.tail _ (.tail _ (.tail _ (.tail _ (.tail _ (.tail _ (.tail _ (.tail _ (.tail _ (.head _)))))))))), List.forall_mem_cons.mpr ⟨NZ _ (.tail _ (.tail _ (.tail _ (.tail _ (.tail _ (.tail _ (.tail _ (.tail _ (.tail _ (.tail _ (.head _))))))))))), List.forall_mem_cons.mpr ⟨NZ _ (.tail _ (.tail _ (.tail _ (.tail _ (.tail _ (.tail _ (.tail _ (.tail _ (.tail _ (.tail _ (.tail _ (.head _)))))))))))), List.forall_mem_cons.mpr ⟨NZ _ (.tail _ (.tail _ (.tail _ (.tail _ (.tail _ (.tail _ (.tail _ (.tail _ (.tail _ (.tail _ (.tail _ (.tail _ (.head _))))))))))))), List.forall_mem_cons.mpr ⟨NZ _ (.tail _ (.tail _ (.tail _ (.tail _ (.tail _ (.tail _ (.tail _ (.tail _ (.tail _ (.tail _ (.tail _ (.tail _ (.tail _ (.head _)))))))))))))), List.forall_mem_cons.mpr ⟨NZ _ (.tail _ (.tail _ (.tail _ (.tail _ (.tail _ (.tail _ (.tail _ (.tail _ (.tail _ (.tail _ (.tail _ (.tail _ (.tail _ (.tail _ (.head _))))))))))))))), List.forall_mem_cons.mpr ⟨NZ _ (.tail _ (.tail _ (.tail _ (.tail _ (.tail _ (.tail _ (.tail _ (.tail _ (.tail _ (.tail _ (.tail _ (.tail _ (.tail _ (.tail _ (.tail _ (.head _)))))))))))))))), List.forall_mem_cons.mpr ⟨NZ _ (.tail _ (.tail _ (.tail _ (.tail _ (.tail _ (.tail _ (.tail _ (.tail _ (.tail _ (.tail _ (.tail _ (.tail _ (.tail _ (.tail _ (.tail _ (.tail _ (.head _))))))))))))))))), List.forall_mem_cons.mpr ⟨NZ _ (.tail _ (.tail _ (.tail _ (.tail _ (.tail _ (.tail _ (.tail _ (.tail _ (.tail _ (.tail _ (.tail _ (.tail _ (.tail _ (.tail _ (.tail _ (.tail _ (.tail _ (.head _)))))))))))))))))), List.forall_mem_cons.mpr ⟨NZ _ (.tail _ (.tail _ (.tail _ (.tail _ (.tail _ (.tail _ (.tail _ (.tail _ (.tail _ (.tail _ (.tail _ (.tail _ (.tail _ (.tail _ (.tail _ (.tail _ (.tail _ (.tail _ (.head _))))))))))))))))))), fun _ hq => nomatch hq⟩⟩⟩⟩⟩⟩⟩⟩⟩⟩⟩⟩⟩⟩⟩⟩⟩⟩⟩⟩⟩⟩) hoc hoy hD0 hE0 hD1 hE1 hS hI hlen hb h
  case keys =>
    intro i hi
    match i, hi with
    | 0, _ => exact ⟨_, 0, rfl, rfl⟩
    | 1, _ => exact ⟨_, 1, rfl, rfl⟩
    | 2, _ => exact ⟨_, 2, rfl, rfl⟩
    | 3, _ => exact ⟨_, 2, rfl, rfl⟩
    | 4, _ => exact ⟨_, 3, rfl, rfl⟩
  case pool =>
    intro i hi
    match i, hi with
    | 0, _ => exact ⟨_, rfl, .obj q2 dq2 _ _ (.tail _ (.tail _ (.tail _ (.tail _ (.tail _ (.tail _ (.tail _ (.tail _ (.tail _ (.tail _ (.tail _ (.head _)))))))))))) (.tail _ (.tail _ (.tail _ (.tail _ (.tail _ (.tail _ (.tail _ (.tail _ (.tail _ (.tail _ (.tail _ (.tail _ (.head _)))))))))))))⟩
    | 1, _ => exact ⟨_, rfl, .obj q3 dq3 _ _ (.tail _ (.tail _ (.tail _ (.tail _ (.tail _ (.tail _ (.tail _ (.tail _ (.tail _ (.head _)))))))))) (.tail _ (.tail _ (.tail _ (.tail _ (.tail _ (.tail _ (.tail _ (.tail _ (.tail _ (.tail _ (.head _)))))))))))⟩
    | 2, _ => exact ⟨_, rfl, .none⟩
    | 3, _ => exact ⟨_, rfl, .int _⟩
    | 4, _ => exact ⟨_, rfl, .str _⟩
end
section
variable {fa : Addr} {w : World} {A : Around} {s : Shared} {h₀ h : Heap} {L ck cy sl : Addr} {m mg mb : Str → Option Value} {p : Program} {loose : List Str} {mean : ExcName → Option Value} {news : List (Addr × Obj)} {oc oy : Obj} {v0 v1 : Option Value} {vs : List Value} {ns : List Int}
theorem pers_okA {Q : Value → Shared → Prop} {E : Value → Shared → Prop} (hAe : A = callerA.deeper (lwEnv fa L ck cy)) (B : Below callerA h₀ [] h₀) (F : Fr h₀ L s.heap m) (X : (hd.heap_39 w.params).In h₀) (N : News h₀ L s.heap news) (T : Top p loose mean mg mb h₀)
    (h : ∀ h' tk q dq es n, Fr h₀ L h' m → News h₀ L h' ((q, instObj 343 dq) :: (dq, dictOf es n) :: news) → AllLt dq news → @LT.lt Nat _ dq q → Q (.ref q) { s with heap := h', toks := tk }) :
    wpAny (model prog w) A (call (.ref 343) []) Q E s := by
  subst hAe
  exact pers_ok B F X N T fun h' tk q dq es n a b c d => h h' tk q dq es n a b (allLt_of c) d
theorem wvd_okA {Q : Value → Shared → Prop} {E : Value → Shared → Prop} (hAe : A = callerA.deeper (lwEnv fa L ck cy)) (B : Below callerA h₀ [] h₀) (F : Fr h₀ L s.heap m) (X : (hd.heap_39 w.params).In h₀) (N : News h₀ L s.heap news) (T : Top p loose mean mg mb h₀)
    (h : ∀ h' tk x dx d o hs t, Fr h₀ L h' m → News h₀ L h' ((d, o) :: (x, instObj 109 dx) :: (dx, dictOf [⟨hs, .str (Str.ofString "_data") t, .ref d⟩] 1) :: news) → AllLt dx news → @LT.lt Nat _ dx x → @LT.lt Nat _ x d → (d == sysModules) = false → o.IsDictOf (mkind prog w) [] → Q (.ref x) { s with heap := h', toks := tk }) :
    wpAny (model prog w) A (call (.ref 109) []) Q E s := by
  subst hAe
  exact wvd_ok B F X N T fun h' tk x dx d o hs t a b c d1 d2 d3 d4 => h h' tk x dx d o hs t a b (allLt_of c) d1 d2 d3 d4
section
local macro_rules | `(tactic| walk_at "eval Name") => `(tactic| (k_dflt (first | (refine' nameX_L ?F ?hv ?_; (case F => k_asm); (case hv => assumption); k_whole) | (refine' nameX_C ?N ?c ?m ?d ?_; (case N => k_asm); (case c => rfl); (case m => k_mem); (case d => assumption); k_whole))))

theorem law_all {Q : Flow → Shared → Prop} {E : Value → Shared → Prop} (hAe : A = callerA.deeper (lwEnv fa L ck cy)) (B : Below callerA h₀ [] h₀) (F : Fr h₀ L s.heap m) (X : (hd.heap_39 w.params).In h₀) (N : News h₀ L s.heap [(cy, oy), (ck, oc), (370, tabObj #[])]) (T : Top p loose mean mg mb h₀) (hC : CodeHd h₀ 374 370)
    (hA : A.frames = some [lwEnv fa L ck cy]) (hdep : A.depth + 200 < 1000) (hun : A.units + 300 < 9900) (hh : A.handled = none)
    (hm : m (Str.ofString "script") = some (.ref sl)) (l1 : @LT.lt Nat _ 370 ck) (l2 : @LT.lt Nat _ ck cy) (hoc : oc.data = .cell v0) (hoy : oy.data = .cell v1)
    (hS : h₀.IsList sl vs.toArray) (hI : IntsAre vs ns) (hlen : ns.length ≤ 63) (hb : AllBare s.gens)
    (h : ∀ s' : Shared, (∃ ps, s'.heap.get? 370 = some (tabObj ps)) → (∀ b o, h₀.get? b = some o → s'.heap.get? b = some o) → AllBare s'.gens → s'.os = s.os → Q (.ret (.bool true)) s') :
    wpAny (model prog w) A (execs [lw0, lw1, lw2, lw3, lw4, lw5, lw6, lwFor, lw8] (lwEnv fa L ck cy)) Q E s := by
  have X0 := X
  obtain ⟨rest, hrest⟩ : ∃ r, r = [lw4, lw5, lw6, lwFor, lw8] := ⟨_, rfl⟩
  show wpAny _ _ (execs (lw0 :: lw1 :: lw2 :: lw3 :: [lw4, lw5, lw6, lwFor, lw8]) _) _ _ _
  rw [← hrest]
  revert X; unfold prog; k_fill; intro X
  k_steps
  refine pers_okA hAe B (by k_asm) X (by k_asm) T fun h1 tk1 q1 dq1 es1 n1 F1 N1 a1 b1 => ?_
  simp only [AllLt] at a1
  dsimp only
  k_steps
  refine pers_okA hAe B (by k_asm) X (by k_asm) T fun h2 tk2 q2 dq2 es2 n2 F2 N2 a2 b2 => ?_
  simp only [AllLt] at a2
  dsimp only
  k_steps
  refine pers_okA hAe B (by k_asm) X (by k_asm) T fun h3 tk3 q3 dq3 es3 n3 F3 N3 a3 b3 => ?_
  simp only [AllLt] at a3
  dsimp only
  k_steps
  refine wvd_okA hAe B (by k_asm) X (by k_asm) T fun h4 tk4 x0 dx0 d0 o0 hs0 t0 F4 N4 a4 b4 c4 lo0 hD0 => ?_
  simp only [AllLt] at a4
  dsimp only
  k_steps
  refine wvd_okA hAe B (by k_asm) X (by k_asm) T fun h5 tk5 x1 dx1 d1 o1 hs1 t1 F5 N5 a5 b5 c5 lo1 hD1 => ?_
  simp only [AllLt] at a5
  dsimp only
  k_steps
  rename_i pl hA1 lA hA2 tkA ky hB1 lB hB2 e0 hC1 oe0 loe0 hs0e fs0e hi0e fi0e lC tw0 hD1' lD e1 hE1 oe1 loe1 hs1e fs1e hi1e fi1e lE tw1 hF1 lF wl hG1 lG hZ FZ NZ
  have c1 : @LT.lt Nat _ 370 ck := l1
  have c2 : @LT.lt Nat _ ck cy := l2
  have c3 : @LT.lt Nat _ cy d0 := by omega
  have c4 : @LT.lt Nat _ d0 e0 := by omega
  have c5 : @LT.lt Nat _ e0 d1 := by omega
  have c6 : @LT.lt Nat _ d1 e1 := by omega
  subst hrest
  exact law_fin B FZ X0 T hA hdep hun hh hC NZ rfl rfl rfl rfl hm hoc hoy hD0 (empty_dict hs0e) hD1 (empty_dict hs1e) lo0 loe0 lo1 loe1 (nd7 c1 c2 c3 c4 c5 c6) (List.forall_mem_cons.mpr ⟨ap_hi c1 c2 c3 c4 c5 c6 (by omega), List.forall_mem_cons.mpr ⟨ap_hi c1 c2 c3 c4 c5 c6 (by omega), List.forall_mem_cons.mpr ⟨ap_mi c1 c2 c3 c4 c6 (by omega) (by omega), List.forall_mem_cons.mpr ⟨ap_mi c1 c2 c3 c4 c6 (by omega) (by omega), List.forall_mem_cons.mpr ⟨ap_mi c1 c2 c3 c4 c6 (by omega) (by omega), List.forall_mem_cons.mpr ⟨ap_lo c1 c2 c4 c5 c6 (by omega) (by omega), List.forall_mem_cons.mpr ⟨ap_lo c1 c2 c4 c5 c6 (by omega) (by omega), List.forall_mem_cons.mpr ⟨ap_lo c1 c2 c4 c5 c6 (by omega) (by omega), List.forall_mem_cons.mpr ⟨ap_lo c1 c2 c4 c5 c6 (by omega) (by omega), List.forall_mem_cons.mpr ⟨ap_lo c1 c2 c4 c5 c6 (by omega) (by omega), List.forall_mem_cons.mpr ⟨ap_lo c1 c2 c4 c5 c6 (by omega) (by omega), List.forall_mem_cons.mpr ⟨ap_lo c1 c2 c4 c5 c6 (by omega) (by omega), List.forall_mem_cons.mpr ⟨ap_lo c1 c2 c4 c5 c6 (by omega) (by omega), List.forall_mem_cons.mpr ⟨ap_lo c1 c2 c4 c5 c6 (by omega) (by omega), List.forall_mem_cons.mpr ⟨ap_lo c1 c2 c4 c5 c6 (by omega) (by omega), fun _ hq => nomatch hq⟩⟩⟩⟩⟩⟩⟩⟩⟩⟩⟩⟩⟩⟩⟩) hS hI hlen hb (fun s' a b c d => h s' a b c d)
end
end
end
end Mine
local macro_rules | `(tactic| kn_posts) => `(tactic| (refine' Mine.postB ?hT ?_; (case hT => assumption)))
theorem PySem.Challenge.cw_aq6070_01_holds : PySem.Challenge.rw_aq6070_01.Holds := by
  exact hd (by
  k_go0
  rename_i _ _ _ _ _ _ _ _ _ _ _ _ _ _ _ _ _ _ _ sl vs _ _ _ _ _ hI _ hlen _ _ h1 tk1 wy wk hy hk _ X T B F N l0
  refine Mine.law_all (s := { heap := h1, gens := _, drawn := _, toks := tk1, os := _ }) (sl := sl) (vs := vs) rfl B F X N T codeHd rfl ?hd1 ?hd2 rfl (by rfl) (ltN (Nat.lt_succ_of_lt l0)) (ltN (Nat.lt_succ_self _)) hk hy lifted hI (by omega) (AllBare.of_eq (by assumption)) ?_
  case hd1 => (simp only [depth_deeper, depth_caller]; omega)
  case hd2 => (simp only [units_deeper, units_caller]; omega)
  intro s' hps hk' hb' hos'
  exact ⟨⟨⟨_, .bool true, [], rfl, fun _ => rfl, ReadsW.bool true, by wrow_post, fun _ => ⟨List.nodup_nil, fun _ hq => nomatch hq⟩⟩, hk', hos', hb'⟩, hps, trivial⟩)
