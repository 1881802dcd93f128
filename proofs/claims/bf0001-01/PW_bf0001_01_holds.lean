import PyProof.Rows.All
import Wide.All
import OpenK.AllK
import Wide.FinOn
import Lean
import PySem.Challenge.RW_bf0001_01
open PySem PySem.W PyProof.Rows
set_option Elab.async false
set_option linter.unusedVariables false
set_option maxRecDepth 100000
set_option maxHeartbeats 8000000
set_option compiler.extract_closed false
namespace Mine
set_option synthInstance.maxSize 1 in
open_top hd for PySem.Challenge.rw_bf0001_01
theorem roomN0 {d a b l : Nat} (h : d + b < l) (e : Nat.ble a b = true) : d + a < l := Nat.lt_of_le_of_lt (Nat.add_le_add_left (Nat.le_of_ble_eq_true e) d) h
theorem roomN {d b l : Nat} (h : d + b < l) : d < l := Nat.lt_of_le_of_lt (Nat.le_add_right d b) h
theorem roomN1 {d a1 a b l : Nat} (h : d + b < l) (e : Nat.ble (a1 + a) b = true) : d + a1 + a < l := by rw [Nat.add_assoc]; exact roomN0 h e
theorem roomN2 {d a1 a2 a b l : Nat} (h : d + b < l) (e : Nat.ble (a1 + (a2 + a)) b = true) : d + a1 + a2 + a < l := by rw [Nat.add_assoc, Nat.add_assoc]; exact roomN0 h e
theorem roomN3 {d a1 a2 a3 a b l : Nat} (h : d + b < l) (e : Nat.ble (a1 + (a2 + (a3 + a))) b = true) : d + a1 + a2 + a3 + a < l := by rw [Nat.add_assoc, Nat.add_assoc, Nat.add_assoc]; exact roomN0 h e

local macro_rules | `(tactic| k_all) => `(tactic| assumption)
local macro_rules | `(tactic| lcg_off) => `(tactic| first | (refine' roomN3 ?h9 ?e9; (case h9 => assumption); (case e9 => exact rfl)) | (refine' roomN2 ?h9 ?e9; (case h9 => assumption); (case e9 => exact rfl)) | (refine' roomN1 ?h9 ?e9; (case h9 => assumption); (case e9 => exact rfl)) | (refine' roomN0 ?h9 ?e9; (case h9 => assumption); (case e9 => exact rfl)) | (refine' roomN ?h9; (case h9 => assumption)) | fail "room")
local macro_rules | `(tactic| ktr_room) => `(tactic| ((try simp only [depth_under_make, depth_under_kw, depth_in1, depth_deeper, depth_caller]); (try dsimp only [ktrTop]); lcg_off))
local macro_rules | `(tactic| ktr_units) => `(tactic| ((try simp only [units_in1, units_deeper, Around.mark_units, units_caller]); (try dsimp only [ktrTop]); lcg_off))
local macro_rules | `(tactic| k_room) => `(tactic| ktr_room)
local macro_rules | `(tactic| k_units) => `(tactic| ktr_units)
local macro_rules | `(tactic| ktr_enter) => `(tactic| first
  | (refine' code_def ?k1 ?k2 ?k3 ?k4 ?k5 ?kA ?kF ?kK ?k6 ?k7 ?k8 ?k9 ?kB ?_ ?c2 ?c3 ?c4 ?c5; (case kA | kF => exact rfl); (case kK => first | assumption | exact rfl); (case k1 | k2 | k3 | k4 | k5 => k_asm); (case k6 | k7 => k_is); (case k8 => ktr_room); (case k9 => first | exact BindsTo.of_eq rfl | exact binds_K (by k_in) rfl (by k_is) rfl rfl rfl); (case c5 => decide); (case kB => exact locs rfl); (case c2 | c3 | c4 => exact rfl); k_whole; intro g' L' h' FG' F' N' B' X' T'; (try dsimp only); (try k_fold))
  | (refine' code_defC ?k1 ?k2 ?k3 ?k4 ?k5 ?kA ?kF ?kK ?k6 ?k7 ?k8 ?k9 ?kB ?kD ?_ ?c2 ?c3 ?c4; (case kA | kF => exact rfl); (case kK => first | assumption | exact rfl); (case k1 | k2 | k3 | k4 | k5 => k_asm); (case k6 | k7 => k_is); (case k8 => ktr_room); (case k9 => first | exact BindsTo.of_eq rfl | exact binds_K (by k_in) rfl (by k_is) rfl rfl rfl); (case kB => exact rfl); (case kD => decide +kernel); (case c2 | c3 | c4 => exact rfl); k_whole; intro g' L' h' tk' cells' FG' F' N' Y' B' X' T' l1; (try k_lt l1); k_cells Y'; (try simp only [List.cons_append, List.nil_append] at N'); (try dsimp only); (try k_fold))
  | (refine' ks_code_super ?k1 ?k2 ?k3 ?k4 ?k5 ?kA ?kF ?kK ?k6 ?k7 ?k8 ?k9 ?kB ?_ ?c1 ?c2 ?c3 ?c4; (case kA | kF => exact rfl); (case kK => first | assumption | exact rfl); (case k1 | k2 | k3 | k4 | k5 => k_asm); (case k6 | k7 => k_is); (case k8 => ktr_room); (case k9 => first | exact BindsTo.of_eq rfl | exact binds_K (by k_in) rfl (by k_is) rfl rfl rfl); (case kB => exact locs rfl); (case c1 => decide); (case c2 | c3 | c4 => exact rfl); intro g' L' h' FG' F' N' B' X' T' l1; (try k_lt l1); (try dsimp only); (try k_lift B')))
local macro_rules | `(tactic| ktr_rel) => `(tactic| first | (refine' List.forall_mem_cons.mpr ⟨?ha, ?hb⟩; (case ha => k_mem); (case hb => ktr_rel)) | exact List.forall_mem_nil _ | (intro p9 hp9; repeat (first | exact hp9 | apply List.Mem.tail)))
local macro_rules | `(tactic| walk_at "wpAt") => `(tactic| (ks_step "exec Expr"; k_dflt (refine ks_wpAt_Expr_any ?_)))
local macro_rules | `(tactic| walk_at "wpAt") => `(tactic| (ks_step "eval Call"; k_dflt (refine ks_wpAt_MethodCall ?_)))
local macro_rules | `(tactic| ktr_enter) => `(tactic| (kp_kind "both"; (refine' kp_both ?k1 ?k2 ?k3 ?k4 ?k5 ?kA ?kF ?kK ?k6 ?k7 ?k8 ?kV ?kX ?kQ ?kM ?kN ?kD ?kR ?kP ?kS ?kT ?kB ?_ ?c2 ?c3 ?c4 ?c5; (case kA | kF => exact rfl); (case kK => first | assumption | exact rfl); (case k1 | k2 | k3 | k4 | k5 => k_asm); (case k6 | k7 => k_is); (case k8 => ktr_room); (case kV | kX => kp_lit); (case kQ | kM | kN => exact rfl); (case kD => kp_flats); (case kR | kP => exact rfl); (case kS => exact fun _ => rfl); (case kT => exact fun _ _ => rfl); (case kB => exact fun _ _ => locs rfl); (case c5 => decide); (case c2 | c3 | c4 => exact rfl); k_whole; intro C' D' o' g' L' h' tk' l1 l2 lo' hs' fs' FG' F' N' B' X' T'; (try k_lt l1); (try k_lt2 l2); (try dsimp only); (try k_fold))))
local macro_rules | `(tactic| ktr_enter) => `(tactic| (kp_kind "both"; (refine' kpc_both ?k1 ?k2 ?k3 ?k4 ?k5 ?kA ?kF ?kK ?k6 ?k7 ?k8 ?kV ?kX ?kQ ?kM ?kN ?kD ?kR ?kP ?kS ?kT ?kB ?_ ?c2 ?c3 ?c4 ?c5; (case kA | kF => exact rfl); (case kK => first | assumption | exact rfl); (case k1 | k2 | k3 | k4 | k5 => k_asm); (case k6 | k7 => k_is); (case k8 => ktr_room); (case kV | kX => kp_lit); (case kQ | kM | kN => exact rfl); (case kD => kp_flats); (case kR | kP => exact rfl); (case kS => exact fun _ => rfl); (case kT => exact fun _ _ => rfl); (case kB => exact fun _ _ => locs rfl); (case c5 => decide); (case c2 | c3 | c4 => exact rfl); k_whole; intro C' D' o' g' L' h' tk' l1 l2 lo' hs' fs' FG' F' N' B' X' T'; (try k_lt l1); (try k_lt2 l2); (try dsimp only); (try k_fold))))
local macro_rules | `(tactic| lcg_src) => `(tactic| with_reducible (first | assumption | (rename (_ ∧ _) => l9; first | exact l9.1 | exact l9.2.1 | exact l9.2.2.1 | exact l9.2.2.2.1 | exact l9.2.2.2.2.1 | exact l9.2.2.2.2.2.1 | exact l9.2.2.2.2.2.2.1 | exact l9.2.2.2.2.2.2.2.1 | exact l9.2.2.2.2.2.2.2.2.1 | exact l9.2.2.2.2.2.2.2.2.2.1 | exact l9.2.2.2.2.2.2.2.2.2.2.1 | exact l9.2 | exact l9.2.2 | exact l9.2.2.2 | exact l9.2.2.2.2 | exact l9.2.2.2.2.2 | exact l9.2.2.2.2.2.2 | (clear l9; lcg_src))))
local macro_rules | `(tactic| k_ne) => `(tactic| (refine neN ?_; (try dsimp only); first | assumption | exact Ne.symm (by assumption) | exact Nat.ne_of_lt (by lcg_src) | exact Nat.ne_of_gt (by lcg_src) | omega))

theorem walk_off : True := by
  w_top off
  trivial
/-! ## lists beside lists; a comprehension by an invariant -/
inductive All2 {α β : Type} (R : α → β → Prop) : List α → List β → Prop
  | nil : All2 R [] []
  | cons {a b as bs} : R a b → All2 R as bs → All2 R (a :: as) (b :: bs)
section
variable {α β : Type} {R S : α → β → Prop}
theorem All2.mono {as : List α} {bs : List β} (h : All2 R as bs) (i : ∀ a b, R a b → S a b) : All2 S as bs := by
  induction h with
  | nil => exact .nil
  | cons h _ ih => exact .cons (i _ _ h) ih
theorem All2.append {as cs : List α} {bs ds : List β} (h : All2 R as bs) (k : All2 R cs ds) : All2 R (as ++ cs) (bs ++ ds) := by
  induction h with
  | nil => exact k
  | cons h _ ih => exact .cons h ih
theorem All2.snoc {as : List α} {bs : List β} {a : α} {b : β} (h : All2 R as bs) (k : R a b) : All2 R (as ++ [a]) (bs ++ [b]) := h.append (.cons k .nil)
theorem All2.length {as : List α} {bs : List β} (h : All2 R as bs) : as.length = bs.length := by
  induction h with
  | nil => rfl
  | cons _ _ ih => simp [ih]
theorem All2.get {as : List α} {bs : List β} (h : All2 R as bs) : ∀ (i : Nat) (a : α), as[i]? = some a → ∃ b, bs[i]? = some b ∧ R a b := by
  induction h with
  | nil => intro i a e; simp at e
  | cons h _ ih =>
    intro i a e
    cases i with
    | zero => simp at e; exact ⟨_, rfl, e ▸ h⟩
    | succ i => simp at e ⊢; exact ih i a e
end
theorem mem_sub_cons {α : Type} {x : α} {l l' : List α} (h : ∀ p ∈ l, p ∈ l') : ∀ p ∈ x :: l, p ∈ x :: l' := fun p hp => by
  rcases List.mem_cons.mp hp with e | hp
  · exact e ▸ .head _
  · exact .tail _ (h p hp)
section
open LCg
variable {prog : Program} {w : World} {A : Around} {s : Shared} {h₀ : Heap} {L : Addr} {m : Str → Option Value} {env : Env} {elt : Expr} {x : Str} {scope : Scope} {cl : List (Str × Addr)} {S : List (Addr × Obj) → Prop} {P : Nat → Value → Prop} {Fin : List Value → List (Addr × Obj) → Prop}
theorem comp_ind {n : Nat} (Inv : Nat → List Value → List (Addr × Obj) → Prop)
    (turn : ∀ i ys news, i < n → Inv i ys news → ∀ v I oI C oC D m₂ h tk (E' : Value → Shared → Prop), P i v → NsObj oC m₂ → m₂ x = some v → Fr h₀ L h m → News h₀ L h ((I, oI) :: (C, oC) :: (D, lst ys) :: news) → Off3 I C D news → ((@Ne Nat I C) ∧ (@Ne Nat I D) ∧ (@Ne Nat C D)) →
      wpAny (model prog w) A (eval elt (compEnvC scope cl C env)) (CompEnd h₀ L m { s with heap := h, toks := tk } I oI C oC D (lst ys) S (fun y news' => Inv (i + 1) (ys ++ [y]) news')) E' { s with heap := h, toks := tk })
    (fin : ∀ ys news, Inv n ys news → Fin ys news) : ∀ k i ys news, i + k = n → Inv i ys news → CompRest prog w A h₀ L m env elt x scope cl s S P Fin k i ys news := by
  intro k
  induction k with
  | zero => intro i ys news e hI; obtain rfl : i = n := by omega
            exact CompRest.zero (fin _ _ hI)
  | succ k ih =>
    intro i ys news e hI
    refine CompRest.succ fun v I oI C oC D m₂ h tk E' hv hC hx F N off ne => ?_
    refine wpAny_mono (turn i ys news (by omega) hI v I oI C oC D m₂ h tk E' hv hC hx F N off ne) (fun y s₂ q => ?_) fun _ _ e => e
    obtain ⟨h', tk', news', e1, F', N', o', S', r⟩ := q
    exact ⟨h', tk', news', e1, F', N', o', S', ih _ _ _ (by omega) r⟩
end
theorem off1_mem {D : Addr} {l : List (Addr × Obj)} (h : LCg.Off1 D l) : ∀ p ∈ l, p.1 ≠ D := by
  induction l with
  | nil => intro p hp; cases hp
  | cons q r ih =>
    intro p hp
    have h1 : @Ne Nat q.1 D := h.1
    have h2 : LCg.Off1 D r := h.2
    rcases List.mem_cons.mp hp with e | hp
    · rw [e]; exact h1
    · exact ih h2 p hp

/-! ## the names and their texts -/
abbrev Nm := Fin 7
abbrev tupleOf (its : Array Value) (n : Nat) : Obj := { cls := .type "tuple", data := .seq its n }
theorem fin7 {P : Fin 7 → Prop} (h0 : P 0) (h1 : P 1) (h2 : P 2) (h3 : P 3) (h4 : P 4) (h5 : P 5) (h6 : P 6) : ∀ n, P n := fun n => match n with
  | 0 => h0 | 1 => h1 | 2 => h2 | 3 => h3 | 4 => h4 | 5 => h5 | 6 => h6
theorem fin3 {P : Fin 3 → Prop} (h0 : P 0) (h1 : P 1) (h2 : P 2) : ∀ n, P n := fun n => match n with
  | 0 => h0 | 1 => h1 | 2 => h2
def up : Nm → Str
  | 0 => Str.ofString "SUMMARY" | 1 => Str.ofString "UID" | 2 => Str.ofString "X-A" | 3 => Str.ofString "B" | 4 => Str.ofString "DUE" | 5 => Str.ofString "WORD" | 6 => Str.ofString "X_B"
def lo : Nm → Str
  | 0 => Str.ofString "summary" | 1 => Str.ofString "uid" | 2 => Str.ofString "x-a" | 3 => Str.ofString "b" | 4 => Str.ofString "due" | 5 => Str.ofString "word" | 6 => Str.ofString "x_b"
def ca : Nm → Str
  | 0 => Str.ofString "Summary" | 1 => Str.ofString "Uid" | 2 => Str.ofString "X-a" | 3 => Str.ofString "B" | 4 => Str.ofString "Due" | 5 => Str.ofString "Word" | 6 => Str.ofString "X_b"
def txt (n : Nm) : Fin 3 → Str
  | 0 => up n | 1 => lo n | 2 => ca n
def octs (x : Str) : List UInt8 := x.cps.toList.map Nat.toUInt8
def oct (n : Nm) (j : Fin 3) : Array UInt8 := (octs (txt n j)).toArray
theorem up_txt : ∀ n j, Txt.upper (txt n j) = up n := by decide +kernel
theorem lower_up : ∀ n, Txt.lower (up n) = lo n := by decide +kernel
theorem txt_len : ∀ n j, (txt n j).length ≤ 7 := by decide +kernel
theorem up_len (n : Nm) : (up n).length ≤ 7 := txt_len n 0
theorem up_inj : ∀ a b, up a = up b → a = b := by decide +kernel
theorem lo_inj : ∀ a b, lo a = lo b → a = b := by decide +kernel
/-- a text or its octets, in any of three cases -/
inductive KeyV : Value → Nm → Prop
  | s (n : Nm) (j : Fin 3) (t : Tok) : KeyV (.str (txt n j) t) n
  | b (n : Nm) (j : Fin 3) (t : Tok) : KeyV (.bytes (oct n j) t) n
theorem txt_inj (j : Fin 3) : ∀ a b, txt a j = txt b j → a = b := by
  revert j; decide +kernel

/-! ## super()'s methods that are built in: found, bound, called -/
section
open Builtin
def notIt (name : String) (obj : Value) : Sem PUnit := do
  rule "descr.get.wrong-instance"
  raiseError "TypeError" s!"descriptor '{(Str.ofString name).toString}' for '{← typeName (.type "dict")}' objects doesn't apply to a '{← typeNameOf obj}' object"
def bindTree (name T : String) (x : Addr) (v : Value) : Sem PySem.Fin :=
  (isInstance (.ref x) (.type "dict") >>= fun b => if (!b) = true then notIt name (.ref x) else pure PUnit.unit) >>= fun _ => newFields T [v, .ref x] >>= fun v => ret v
variable {x C : Addr}
theorem gw_setitem : «wrapper_descriptor.__get__» ⟨[.builtin "dict.__setitem__", .ref x, .ref C], []⟩ = bindTree "__setitem__" "method-wrapper" x (.builtin "dict.__setitem__") := by kernel_rfl
theorem gw_delitem : «wrapper_descriptor.__get__» ⟨[.builtin "dict.__delitem__", .ref x, .ref C], []⟩ = bindTree "__delitem__" "method-wrapper" x (.builtin "dict.__delitem__") := by kernel_rfl
theorem gw_init : «wrapper_descriptor.__get__» ⟨[.builtin "dict.__init__", .ref x, .ref C], []⟩ = bindTree "__init__" "method-wrapper" x (.builtin "dict.__init__") := by kernel_rfl
theorem gm_getitem : «method_descriptor.__get__» ⟨[.builtin "dict.__getitem__", .ref x, .ref C], []⟩ = bindTree "__getitem__" "builtin_function_or_method" x (.builtin "dict.__getitem__") := by kernel_rfl
theorem gm_contains : «method_descriptor.__get__» ⟨[.builtin "dict.__contains__", .ref x, .ref C], []⟩ = bindTree "__contains__" "builtin_function_or_method" x (.builtin "dict.__contains__") := by kernel_rfl
theorem gm_pop : «method_descriptor.__get__» ⟨[.builtin "dict.pop", .ref x, .ref C], []⟩ = bindTree "pop" "builtin_function_or_method" x (.builtin "dict.pop") := by kernel_rfl
theorem gm_popitem : «method_descriptor.__get__» ⟨[.builtin "dict.popitem", .ref x, .ref C], []⟩ = bindTree "popitem" "builtin_function_or_method" x (.builtin "dict.popitem") := by kernel_rfl
theorem ty_setitem : typeOf (.builtin "dict.__setitem__") = pure (.type "wrapper_descriptor") := by show builtinType _ = _; rw [builtinType_eq_fast]; kernel_rfl
theorem ty_delitem : typeOf (.builtin "dict.__delitem__") = pure (.type "wrapper_descriptor") := by show builtinType _ = _; rw [builtinType_eq_fast]; kernel_rfl
theorem ty_init : typeOf (.builtin "dict.__init__") = pure (.type "wrapper_descriptor") := by show builtinType _ = _; rw [builtinType_eq_fast]; kernel_rfl
theorem ty_getitem : typeOf (.builtin "dict.__getitem__") = pure (.type "method_descriptor") := by show builtinType _ = _; rw [builtinType_eq_fast]; kernel_rfl
theorem ty_contains : typeOf (.builtin "dict.__contains__") = pure (.type "method_descriptor") := by show builtinType _ = _; rw [builtinType_eq_fast]; kernel_rfl
theorem ty_pop : typeOf (.builtin "dict.pop") = pure (.type "method_descriptor") := by show builtinType _ = _; rw [builtinType_eq_fast]; kernel_rfl
theorem ty_popitem : typeOf (.builtin "dict.popitem") = pure (.type "method_descriptor") := by show builtinType _ = _; rw [builtinType_eq_fast]; kernel_rfl
theorem slot_wget : Slot "wrapper_descriptor" "__get__" "wrapper_descriptor.__get__" := .of (owner := "wrapper_descriptor") (n := "__get__") (by rw [typeLookup_type, builtinLookup_eq_fast]; kernel_rfl) (by decide +kernel) (by decide +kernel) (by decide +kernel) (by first | exact .inl (by decide +kernel) | exact .inr (by decide +kernel)) (by rw [isSubtype_type]; kernel_rfl)
theorem slot_mget : Slot "method_descriptor" "__get__" "method_descriptor.__get__" := .of (owner := "method_descriptor") (n := "__get__") (by rw [typeLookup_type, builtinLookup_eq_fast]; kernel_rfl) (by decide +kernel) (by decide +kernel) (by decide +kernel) (by first | exact .inl (by decide +kernel) | exact .inr (by decide +kernel)) (by rw [isSubtype_type]; kernel_rfl)
theorem entry_wget : entryFor table "wrapper_descriptor.__get__" = some Builtin.«wrapper_descriptor.__get__» := entryFor_of_tree (by kernel_rfl)
theorem entry_mget : entryFor table "method_descriptor.__get__" = some Builtin.«method_descriptor.__get__» := entryFor_of_tree (by kernel_rfl)
theorem args_wget (a b c : Value) : argsOk "wrapper_descriptor.__get__" ⟨[a, b, c], []⟩ := by unfold argsOk; kernel_rfl
theorem args_mget (a b c : Value) : argsOk "method_descriptor.__get__" ⟨[a, b, c], []⟩ := by unfold argsOk; kernel_rfl
abbrev boundObj (T : String) (v : Value) (x : Addr) : Obj := { cls := .type T, data := .fields #[v, .ref x] }
end
section
variable {prog : Program} {w : World} {A : Around} {E : Value → Shared → Prop} {s : Shared} {x C : Addr} {T name : String} {id : String} {Q : Value → Shared → Prop}
theorem bind_tree {v : Value} {Q : PySem.Fin → Shared → Prop} (hi : Looks (model prog w) s.heap (isInstance (.ref x) (.type "dict")) true)
    (h : Q (.done (.ret (.ref s.heap.objs.size))) { s with heap := s.heap.push (boundObj T v x) }) : wpAny (model prog w) A (bindTree name T x v) Q E s := by
  unfold bindTree
  refine wpAny_bind (wpAny_bind (hi.here ?_))
  refine wpAny_pure ?_
  exact wpAny_bind (wpAny_newObj_type (wpAny_pure h))
theorem call_wget (ht : typeOf (.builtin id) = pure (.type "wrapper_descriptor")) (he : Builtin.«wrapper_descriptor.__get__» ⟨[.builtin id, .ref x, .ref C], []⟩ = bindTree name "method-wrapper" x (.builtin id))
    (hi : Looks (model prog w) s.heap (isInstance (.ref x) (.type "dict")) true) (h : Q (.ref s.heap.objs.size) { s with heap := s.heap.push (boundObj "method-wrapper" (.builtin id) x) }) :
    wpAny (model prog w) A (call (.builtin "wrapper_descriptor.__get__") [.builtin id, .ref x, .ref C]) Q E s := by
  refine wpAny_call_entry slot_wget ht entry_wget ?_ (args_wget _ _ _)
  rw [he]
  exact bind_tree hi ⟨_, rfl, h⟩
theorem call_mget (ht : typeOf (.builtin id) = pure (.type "method_descriptor")) (he : Builtin.«method_descriptor.__get__» ⟨[.builtin id, .ref x, .ref C], []⟩ = bindTree name "builtin_function_or_method" x (.builtin id))
    (hi : Looks (model prog w) s.heap (isInstance (.ref x) (.type "dict")) true) (h : Q (.ref s.heap.objs.size) { s with heap := s.heap.push (boundObj "builtin_function_or_method" (.builtin id) x) }) :
    wpAny (model prog w) A (call (.builtin "method_descriptor.__get__") [.builtin id, .ref x, .ref C]) Q E s := by
  refine wpAny_call_entry slot_mget ht entry_mget ?_ (args_mget _ _ _)
  rw [he]
  exact bind_tree hi ⟨_, rfl, h⟩
end

section
variable {prog : Program} {w : World} {A : Around} {E : Value → Shared → Prop} {h : Heap} {g : Array GenState} {d : Drawn} {t : Nat} {os : OsState}
theorem sb_ga {so D x C : Addr} {T T1 gid : String} {a : Value} {l₀ l : List Value} {K : Frag} {name : Str} {tk : Tok} {Q : PySem.Fin → Shared → Prop}
    (hso : h.get? so = some (ks_superObj D x C)) (hno : Looks (model prog w) h (opaqueClassAbove (.ref C)) none)
    (hC : Looks (model prog w) h (mroOf (.ref C)) l₀) (hl : (l₀.dropWhile (· != .ref D)).drop 1 = l) (X : K.In h) (hf : alongIn K name l = some (some a))
    (hta : typeOf a = pure (.type T1)) (hlk : typeLookup (.type T1) "__get__" = pure (some (.builtin gid))) (hxC : x ≠ C) (hn : (name == ("__class__" : Str)) = false)
    (hg : ∀ Q : Value → Shared → Prop, Q (.ref h.objs.size) ⟨h.push (boundObj T a x), g, d, t, os⟩ → wpAny (model prog w) A (call (.builtin gid) [a, .ref x, .ref C]) Q E ⟨h, g, d, t, os⟩)
    (hq : Q (.done (.ret (.ref h.objs.size))) ⟨h.push (boundObj T a x), g, d, t, os⟩) :
    wpAny (model prog w) A (Builtin.«super.__getattribute__» ⟨[.ref so, .str name tk], []⟩) Q E ⟨h, g, d, t, os⟩ := by
  have hne : (Value.ref x == Value.ref C) = false := by simp [hxC]
  have hdt : (ks_superObj D x C).data = .fields #[.ref D, .ref x, .ref C] := rfl
  have f0 : (#[.ref D, .ref x, .ref C] : Array Value)[0]? = some (.ref D) := rfl
  have f1 : (#[.ref D, .ref x, .ref C] : Array Value)[1]? = some (.ref x) := rfl
  have f2 : (#[.ref D, .ref x, .ref C] : Array Value)[2]? = some (.ref C) := rfl
  unfold Builtin.«super.__getattribute__»
  repeat (first
    | (with_reducible refine wpAny_field hso hdt f0 ?_) | (with_reducible refine wpAny_field hso hdt f1 ?_) | (with_reducible refine wpAny_field hso hdt f2 ?_)
    | (with_reducible refine ks_wpAny_notOpaque hno ?_)
    | (with_reducible refine Looks.at hC ?_; rw [hl])
    | (refine ks_forIn_along X (fun _ _ => rfl) rfl ?_ hf)
    | (with_reducible refine hg _ ?_)
    | (rw [hta]; refine wpAny_pure ?_) | (rw [hlk]; refine wpAny_pure ?_)
    | (simp only [hn, hne, Bool.or_false, Bool.false_eq_true, if_false])
    | wp_step
    | dsimp only)
  all_goals exact hq
theorem sb_method {so D x C : Addr} {T T1 gid : String} {a : Value} {l₀ l : List Value} {K : Frag} {name : Str} {pl : Sem Bool} {Q : Value × List Value → Shared → Prop}
    (hso : h.get? so = some (ks_superObj D x C)) (hno : Looks (model prog w) h (opaqueClassAbove (.ref C)) none)
    (hC : Looks (model prog w) h (mroOf (.ref C)) l₀) (hl : (l₀.dropWhile (· != .ref D)).drop 1 = l) (X : K.In h) (hf : alongIn K name l = some (some a))
    (hta : typeOf a = pure (.type T1)) (hlk : typeLookup (.type T1) "__get__" = pure (some (.builtin gid))) (hxC : x ≠ C) (hn : (name == ("__class__" : Str)) = false)
    (hg : ∀ (A : Around) (E : Value → Shared → Prop) (Q : Value → Shared → Prop), Q (.ref h.objs.size) ⟨h.push (boundObj T a x), g, d, t + 1, os⟩ → wpAny (model prog w) A (call (.builtin gid) [a, .ref x, .ref C]) Q E ⟨h, g, d, t + 1, os⟩)
    (hq : Q (.ref h.objs.size, []) ⟨h.push (boundObj T a x), g, d, t + 1, os⟩) :
    wpAny (model prog w) A (getMethod (.ref so) name pl) Q E ⟨h, g, d, t, os⟩ := by
  have hlk2 := F.ks_slot_super_ga.lookup
  have hT : ∀ t', (⟨h, g, d, t', os⟩ : Shared).TypeIs (.ref so) "super" := fun _ => ⟨_, hso, rfl⟩
  unfold getMethod
  refine wpAny_bind (wpAny_specialOf (hT _) hlk2 ?_)
  show wpAny _ _ (if (Manifest.canonical "super.__getattribute__" != "object.__getattribute__") = true then _ else _) _ _ _
  rw [if_pos F.ks_canon_super_ga]
  unfold getAttr getAttrBy
  refine wpAny_bind (wpAny_bind (wpAny_mkText (wpAny_holding (wpAny_bind (wpAny_typeOf (hT _) (wpAny_bind (wpAny_of_eq hlk2 ?_)))))))
  show wpAny _ _ (getAttrByItsOwn (.ref so) (.str name t) (.type "super") (.builtin "super.__getattribute__") true false) _ _ _
  unfold getAttrByItsOwn hookBefore callGetattribute boundAndCalled
  refine wpAny_bind (wpAny_of_eq (show (if onTheHeap (.type "super") then typeLookup (.type "super") "__getattr__" else pure none) = pure none from rfl) ?_)
  refine wpAny_bind (wpAny_attempt (wpAny_holding ?_))
  show wpAny _ _ (bindSpecial (.builtin "super.__getattribute__") (.ref so) >>= _) _ _ _
  refine wpAny_bind (wpAny_of_eq (F.ks_slot_super_ga.bind _) ?_)
  refine wpAny_mono (Q := fun v s' => v = .ref h.objs.size ∧ s' = ⟨h.push (boundObj T a x), g, d, t + 1, os⟩) (E := fun _ _ => False)
    (wpAny_call_entry F.ks_slot_super_ga (hT _) F.ks_entry_super_ga (sb_ga hso hno hC hl X hf hta hlk hxC hn (hg _ _) ⟨_, rfl, rfl, rfl⟩) (F.ks_gaArgs_super _ _)) (fun v s' hv => ?_) fun _ _ z => z.elim
  obtain ⟨rfl, rfl⟩ := hv
  exact wpAny_pure (wpAny_pure hq)
end

/-! ## what a dict holds -/
abbrev C := List (Nm × Int)
def idx (c : C) (k : Nm) : Option Nat := c.findIdx? fun p => decide (p.1 = k)
def look (c : C) (k : Nm) : Option Int := match idx c k with
  | some i => (c[i]?).map (·.2)
  | none => none
def put (c : C) (k : Nm) (x : Int) : C := match idx c k with
  | some i => c.modify i fun p => (p.1, x)
  | none => c ++ [(k, x)]
def del (c : C) (k : Nm) : C := match idx c k with
  | some i => c.eraseIdx i
  | none => c
def puts (c : C) (l : C) : C := l.foldl (fun c p => put c p.1 p.2) c
def NK (c : C) : Prop := (c.map (·.1)).Nodup
theorem nodup_fin : ∀ (n : Nat) (l : List Nat), l.Nodup → (∀ x ∈ l, x < n) → l.length ≤ n := by
  intro n
  induction n with
  | zero => intro l _ h; cases l with
    | nil => exact Nat.le_refl _
    | cons a t => exact absurd (h a (.head _)) (Nat.not_lt_zero _)
  | succ n ih =>
    intro l hl h
    have h1 := ih (l.filter (· != n)) (hl.filter _) (fun x hx => by
      obtain ⟨a, b⟩ := List.mem_filter.mp hx
      have := h x a
      have : x ≠ n := by simpa using b
      omega)
    have h2 : l.length ≤ (l.filter (· != n)).length + 1 := by
      clear h1 h ih
      induction l with
      | nil => simp
      | cons a t ih2 =>
        rw [List.nodup_cons] at hl
        by_cases e : a = n
        · have : t.filter (· != n) = t := List.filter_eq_self.mpr fun x hx => by
            have : x ≠ n := fun q => hl.1 (by rw [e, ← q]; exact hx)
            simpa using this
          simp [e, this]
        · have := ih2 hl.2
          simp [e]; omega
    omega
theorem NK.len {c : C} (h : NK c) : c.length ≤ 7 := by
  have h2 : ((c.map (·.1)).map Fin.val).Nodup := List.Pairwise.map Fin.val (fun a b (q : a ≠ b) e => q (Fin.ext e)) (show List.Pairwise (· ≠ ·) (c.map (·.1)) from h)
  have := nodup_fin 7 ((c.map (·.1)).map Fin.val) h2 (fun x hx => by
    obtain ⟨a, _, rfl⟩ := List.mem_map.mp hx
    exact a.isLt)
  rw [List.length_map, List.length_map] at this
  exact this
theorem NK.size {c : C} (h : NK c) : c.length ≤ sizeLine := Nat.le_trans h.len (by decide)
def EOk (w : World) (f : Nm → Str) (e : DictEntry) (p : Nm × Int) : Prop := e.hash = hashStr w (f p.1) ∧ (∃ t, e.key = .str (f p.1) t) ∧ ∃ t, e.val = .int p.2 t
def KV (w : World) (f : Nm → Str) (es : List DictEntry) (c : C) : Prop := All2 (EOk w f) es c
abbrev SK (w : World) := strKind PySem.Challenge.rw_bf0001_01.row.prog w
theorem sk_is {prog : Program} {w : World} (k : Str) (t : Tok) : (strKind prog w).is k (.str k t) = true := strKind_is _ _ _ _
section
variable {prog : Program} {w : World} {f : Nm → Str} {es : List DictEntry} {c : C}
theorem KV.keys (h : KV w f es c) : KeysOf (strKind prog w) es.toArray := by
  intro e he
  replace he : e ∈ es := by simpa using he
  induction h with
  | nil => cases he
  | cons hd _ ih =>
    rcases List.mem_cons.mp he with rfl | he
    · obtain ⟨h1, ⟨t, h2⟩, _⟩ := hd
      exact ⟨f _, by rw [h2]; exact sk_is _ _, h1⟩
    · exact ih he
theorem EOk.is_key {e : DictEntry} {p : Nm × Int} (hf : ∀ a b, f a = f b → a = b) (h : EOk w f e p) (k : Nm) : (strKind prog w).is (f k) e.key = decide (p.1 = k) := by
  obtain ⟨_, ⟨t, h2⟩, _⟩ := h
  rw [h2]
  by_cases q : p.1 = k
  · subst q; simp [sk_is]
  · have : f p.1 ≠ f k := fun z => q (hf _ _ z)
    simp only [PySem.strKind, Value.isStrOf, q, decide_false]; first | exact beq_false_of_ne this | simpa using this | simp [this]
theorem KV.find (hf : ∀ a b, f a = f b → a = b) (h : KV w f es c) (k : Nm) : es.toArray.findIdx? (fun e => (strKind prog w).is (f k) e.key) = idx c k := by
  rw [List.findIdx?_toArray]
  unfold idx
  induction h with
  | nil => rfl
  | cons hd _ ih => rw [List.findIdx?_cons, List.findIdx?_cons, hd.is_key hf k, ih]
theorem All2.modify {α β : Type} {R : α → β → Prop} {as : List α} {bs : List β} (h : All2 R as bs) (f : α → α) (g : β → β) (hfg : ∀ a b, R a b → R (f a) (g b)) : ∀ i, All2 R (as.modify i f) (bs.modify i g) := by
  induction h with
  | nil => intro i; simp; exact .nil
  | cons hd tl ih =>
    intro i
    cases i with
    | zero => simp only [List.modify_zero_cons]; exact .cons (hfg _ _ hd) tl
    | succ i => simp only [List.modify_succ_cons]; exact .cons hd (ih i)
theorem All2.erase {α β : Type} {R : α → β → Prop} {as : List α} {bs : List β} (h : All2 R as bs) : ∀ i, All2 R (as.eraseIdx i) (bs.eraseIdx i) := by
  induction h with
  | nil => intro i; simp; exact .nil
  | cons hd tl ih =>
    intro i
    cases i with
    | zero => simpa using tl
    | succ i => simp only [List.eraseIdx_cons_succ]; exact .cons hd (ih i)
theorem idx_lt {c : C} {k : Nm} {i : Nat} (h : idx c k = some i) : ∃ p, c[i]? = some p ∧ p.1 = k := by
  unfold idx at h
  obtain ⟨hl, hp, _⟩ := List.findIdx?_eq_some_iff_getElem.mp h
  exact ⟨c[i], by simp [hl], by simpa using hp⟩
end
theorem idx_none {c : C} {k : Nm} (h : idx c k = none) : k ∉ c.map (·.1) := by
  unfold idx at h
  rw [List.findIdx?_eq_none_iff] at h
  intro hm
  obtain ⟨p, hp, e⟩ := List.mem_map.mp hm
  have := h p hp
  simp [e] at this
theorem map_modify_fst (c : C) (x : Int) : ∀ i, (c.modify i fun p => (p.1, x)).map (·.1) = c.map (·.1) := by
  induction c with
  | nil => intro i; simp
  | cons p c ih => intro i; cases i with
    | zero => simp
    | succ i => simp [ih i]
theorem NK.put {c : C} (h : NK c) (k : Nm) (x : Int) : NK (put c k x) := by
  unfold NK Mine.put at *
  cases e : idx c k with
  | some i => simp only []; rw [map_modify_fst]; exact h
  | none =>
    simp only [List.map_append, List.map_cons, List.map_nil]
    rw [List.nodup_append]
    refine ⟨h, by simp, fun a ha b hb q => ?_⟩
    rw [List.mem_singleton.mp hb] at q
    exact idx_none e (q ▸ ha)
theorem NK.del {c : C} (h : NK c) (k : Nm) : NK (del c k) := by
  unfold NK Mine.del at *
  cases e : idx c k with
  | some i => exact List.Pairwise.sublist ((List.eraseIdx_sublist c i).map _) h
  | none => exact h
theorem NK.puts {c : C} (h : NK c) (l : C) : NK (puts c l) := by
  unfold Mine.puts
  induction l generalizing c with
  | nil => exact h
  | cons p l ih => exact ih (h.put _ _)
theorem puts_snoc (c l : C) (k : Nm) (x : Int) : puts c (l ++ [(k, x)]) = put (puts c l) k x := by unfold puts; rw [List.foldl_append]; rfl
theorem puts_append (c l r : C) : puts c (l ++ r) = puts (puts c l) r := by unfold puts; rw [List.foldl_append]
theorem NK.nil : NK [] := List.nodup_nil
/-! the same, upon the heap: of a plain dict and of an own class's instance alike -/
section
variable {prog : Program} {w : World} {A : Around} {E : Value → Shared → Prop} {s : Shared} {f : Nm → Str} {es : List DictEntry} {c : C} {o : Obj} {d : Addr} {n : Nat} {k : Nm} {t : Tok}
theorem KV.val (h : KV w f es c) {i : Nat} {p : Nm × Int} (hp : c[i]? = some p) : ∃ e t, es[i]? = some e ∧ e.val = .int p.2 t := by
  have hl := All2.length h
  have hi : i < es.length := by rw [hl]; exact (List.getElem?_eq_some_iff.mp hp).1
  obtain ⟨p', hp', _, _, t, ht⟩ := All2.get h i es[i] (by simp [hi])
  rw [hp] at hp'; cases hp'
  exact ⟨es[i], t, by simp [hi], ht⟩
theorem get_at {Q : Option Value → Shared → Prop} (hf : ∀ a b, f a = f b → a = b) (ho : s.heap.get? d = some o) (hd : o.data = .dict es.toArray n) (h : KV w f es c)
    (hn : look c k = none → Q none { s with toks := s.toks + 1 }) (hs : ∀ x u, look c k = some x → Q (some (.int x u)) { s with toks := s.toks + 1 }) : wpAny (model prog w) A (dictGet d (.str (f k) t)) Q E s := by
  unfold dictGet
  refine wpAny_holding (wpAny_bind ((PySem.strKind prog w).pyHash (sk_is _ _) (wpAny_bind (wpAny_dictFind_of (s := { s with toks := s.toks + 1 }) (sk_is _ _) ho hd h.keys ?_))))
  rw [h.find hf]
  unfold look at hn hs
  cases hi : idx c k with
  | none => rw [hi] at hn; exact wpAny_pure (hn rfl)
  | some i =>
    rw [hi] at hs
    obtain ⟨p, hp, _⟩ := idx_lt hi
    obtain ⟨e, u, he, hv⟩ := h.val hp
    refine wpAny_bind (wpAny_dictEntries (s := { s with toks := s.toks + 1 }) ho hd (wpAny_pure ?_))
    have : (es.toArray[i]?).map (·.val) = some (Value.int p.2 u) := by rw [List.getElem?_toArray, he, Option.map_some, hv]
    rw [this]
    exact hs p.2 u (by simp [hp])
theorem kv_put (hf : ∀ a b, f a = f b → a = b) (h : KV w f es c) {x : Int} {u : Tok} : match idx c k with
    | some i => KV w f (es.modify i fun e => { e with val := .int x u }) (put c k x)
    | none => KV w f (es ++ [⟨hashStr w (f k), .str (f k) t, .int x u⟩]) (put c k x) := by
  unfold put
  cases hi : idx c k with
  | some i => exact All2.modify h (fun e => { e with val := .int x u }) (fun p => (p.1, x)) (fun e p q => ⟨q.1, q.2.1, u, rfl⟩) i
  | none => exact All2.snoc h ⟨rfl, ⟨t, rfl⟩, u, rfl⟩
theorem set_at {Q : Unit → Shared → Prop} {x : Int} {u : Tok} (hf : ∀ a b, f a = f b → a = b) (ho : s.heap.get? d = some o) (hd : o.data = .dict es.toArray n) (h : KV w f es c) (hz : c.length ≤ sizeLine)
    (hQ : ∀ es' n' h', KV w f es' (put c k x) → h'.get? d = some { o with data := .dict es'.toArray n' } → Heap.SameBut d s.heap h' → Q () { s with heap := h', toks := s.toks + 1 }) :
    wpAny (model prog w) A (dictSet d (.str (f k) t) (.int x u)) Q E s := by
  obtain ⟨oc, od, dt, sl⟩ := o
  simp only at hd; subst hd
  unfold dictSet
  refine wpAny_holding (wpAny_bind ((PySem.strKind prog w).pyHash (sk_is _ _) ?_))
  unfold dictSetHashed
  refine wpAny_holding (wpAny_bind (wpAny_dictFind_of (s := { s with toks := s.toks + 1 }) (sk_is _ _) ho rfl h.keys ?_))
  rw [h.find hf]
  have kp := kv_put (k := k) (t := t) hf h (x := x) (u := u)
  cases hi : idx c k with
  | some i =>
    rw [hi] at kp
    refine wpAny_bind (wpAny_rule (wpAny_bind (wpAny_updateDict (s := { s with toks := s.toks + 1 }) ho rfl (wpAny_point (hQ _ n _ kp ?_ (Heap.SameBut.update ..))))))
    rw [Heap.get?_update_self _ ho rfl]
    simp [Obj.mapDict, List.modify_toArray]
  | none =>
    rw [hi] at kp
    refine wpAny_bind (wpAny_rule (wpAny_updateDictKeys (hz := by rw [List.size_toArray, All2.length h]; exact hz) (s := { s with toks := s.toks + 1 }) ho rfl (hQ _ (n + 1) _ kp ?_ (Heap.SameBut.update ..))))
    rw [Heap.get?_update_self _ ho rfl]
    simp [Obj.mapDictKeys]
    rfl
theorem take_at {Q : Option DictEntry → Shared → Prop} (hf : ∀ a b, f a = f b → a = b) (ho : s.heap.get? d = some o) (hd : o.data = .dict es.toArray n) (h : KV w f es c) (hz : c.length ≤ sizeLine)
    (hn : look c k = none → del c k = c → Q none { s with toks := s.toks + 1 })
    (hs : ∀ x e u v es' n' h', look c k = some x → e.key = .str (f k) v → e.val = .int x u → KV w f es' (del c k) → h'.get? d = some { o with data := .dict es'.toArray n' } → Heap.SameBut d s.heap h' → Q (some e) { s with heap := h', toks := s.toks + 1 }) :
    wpAny (model prog w) A (Builtin.Dict.takeOut d (.str (f k) t)) Q E s := by
  obtain ⟨oc, od, dt, sl⟩ := o
  simp only at hd; subst hd
  unfold Builtin.Dict.takeOut
  refine wpAny_holding (wpAny_bind ((PySem.strKind prog w).pyHash (sk_is _ _) (wpAny_bind (wpAny_dictFind_of (s := { s with toks := s.toks + 1 }) (sk_is _ _) ho rfl h.keys ?_))))
  rw [h.find hf]
  unfold look at hn hs
  unfold del at hn hs
  cases hi : idx c k with
  | none => rw [hi] at hn; exact wpAny_pure (hn rfl rfl)
  | some i =>
    rw [hi] at hs
    obtain ⟨p, hp, hk⟩ := idx_lt hi
    obtain ⟨e, u, he, hv⟩ := h.val hp
    have hl : i < es.length := (List.getElem?_eq_some_iff.mp he).1
    obtain ⟨p', hp', _, ⟨v, hkey⟩, _⟩ := All2.get h i e he
    rw [hp] at hp'; cases hp'
    refine wpAny_bind (wpAny_dictEntries (s := { s with toks := s.toks + 1 }) ho rfl ?_)
    rw [List.getElem?_toArray, he]
    refine wpAny_bind (wpAny_updateDictKeys (s := { s with toks := s.toks + 1 }) ho rfl (wpAny_pure (hs p.2 e u v (es.eraseIdx i) (n + 1) _ (by simp [hp]) (by rw [hkey, hk]) hv (All2.erase h i) ?_ (Heap.SameBut.update ..))) (by rw [List.size_toArray, All2.length h]; exact hz) ?_)
    · rw [Heap.get?_update_self _ ho rfl]
      simp [Obj.mapDictKeys, Array.eraseIdxIfInBounds, hl]
    · simp [Array.eraseIdxIfInBounds, hl, List.length_eraseIdx]; omega
end

/-! ## a for-loop by an invariant over the turn's number, the names and the ledger -/
def LoopPost (h₀ : Heap) (L : Addr) (J : (Str → Option Value) → List (Addr × Obj) → Prop) (It : Addr) (oI : Obj) (adr : List Addr) (s₁ : Shared) (f : Flow) (s₂ : Shared) : Prop :=
  f = .next ∧ ∃ h' tk m' news', s₂ = { s₁ with heap := h', toks := tk } ∧ Fr h₀ L h' m' ∧ News h₀ L h' ((It, oI) :: news') ∧ news'.map (·.1) = adr ∧ J m' news'
theorem LoopPost.intro {h₀ : Heap} {L : Addr} {J : (Str → Option Value) → List (Addr × Obj) → Prop} {It : Addr} {oI : Obj} {adr : List Addr} {s₁ : Shared} {h' : Heap} {tk : Nat} {m' : Str → Option Value} {led : List (Addr × Obj)} (news' : List (Addr × Obj)) (F : Fr h₀ L h' m') (N : News h₀ L h' led) (hs : ∀ p ∈ (It, oI) :: news', p ∈ led) (ha : news'.map (·.1) = adr) (hj : J m' news') :
    LoopPost h₀ L J It oI adr s₁ .next { s₁ with heap := h', toks := tk } := ⟨rfl, h', tk, m', news', rfl, F, fun p hp => N p (hs p hp), ha, hj⟩
section
variable {prog : Program} {w : World} {A : Around} {E : Value → Shared → Prop} {s : Shared} {env : Env} {h₀ : Heap} {target : Expr} {body : List Stmt} {Q : Flow → Shared → Prop}
theorem loop_walk {It : Addr} {fp : List Addr} {n : Nat} {P : Nat → Value → Prop} {St : Nat → Heap → Prop} {m₀ : Str → Option Value} {news : List (Addr × Obj)} (J : Nat → (Str → Option Value) → List (Addr × Obj) → Prop) (fx : List (Addr × Obj))
    (W : Walks prog w A It fp [It] n P St) (hLf : env.locals ∉ fp) (hw : h₀.get? It = none) (hnw : ∀ p ∈ news, p.1 ≠ It) (hst : St 0 s.heap) (hit : ∀ i h, St i h → ∃ o, h.get? It = some o) (F : Fr h₀ env.locals s.heap m₀) (N : News h₀ env.locals s.heap news)
    (hgo : ∀ i (s' : Shared) v (Q' : Unit → Shared → Prop), St i s'.heap → Q' () s' → wpAny (model prog w) A (letOwnedTupleGo target (.ref It) v) Q' E s') (hj : J 0 m₀ news) (hf : ∀ b ∈ fp, b = It ∨ ∃ o, (b, o) ∈ fx) (keep : ∀ i m l, J i m l → ∀ p ∈ fx, p ∈ l)
    (turn : ∀ i v m₁ news₁ (s₁ : Shared) oI, i < n → P i v → J i m₁ news₁ → (∀ p ∈ news₁, p.1 ≠ It) → Fr h₀ env.locals s₁.heap m₁ → News h₀ env.locals s₁.heap ((It, oI) :: news₁) →
      wpAny (model prog w) A (assign target env v) (fun _ s₃ => wpAny (model prog w) A (execs body env) (LoopPost h₀ env.locals (J (i + 1)) It oI (news₁.map (·.1)) s₁) E s₃) E s₁)
    (done : ∀ m₁ news₁ h tk, J n m₁ news₁ → Fr h₀ env.locals h m₁ → News h₀ env.locals h news₁ → Q .next { s with heap := h, toks := tk }) :
    LoopAtT prog w A h₀ env target body Q E (.ref It) s := by
  refine ⟨It, fp, [It], n, P, St, m₀, news, J, rfl, W, hLf, fun b hb => by rw [List.mem_singleton.mp hb]; exact hw, fun p hp h => hnw p hp (List.mem_singleton.mp h), hst, F, N, hgo, hj, ?_, fun h' tk m' news' F' N' _ hJ => done _ _ _ _ hJ F' N'⟩
  intro i v m₁ news₁ s₁ own hi hP hJ hoff hsub hown hmem hst₁ F₁ N₁
  obtain ⟨oI, ho⟩ := hit _ _ hst₁
  have hI : (It, oI) ∈ own := hmem It (W.sub It (.head _)) hw oI ho
  have hne : ∀ p ∈ news₁, p.1 ≠ It := fun p hp e => hoff p hp (by rw [e]; exact .head _)
  refine wpAny_mono (turn i v m₁ news₁ s₁ oI hi hP hJ hne F₁ (fun p hp => ?_)) (fun _ s₃ h₃ => wpAny_mono h₃ (fun f s₂ q => ?_) fun _ _ e => e) fun _ _ e => e
  · rcases List.mem_cons.mp hp with rfl | hp
    · exact N₁ _ (List.mem_append_left _ hI)
    · exact N₁ _ (List.mem_append_right _ hp)
  · obtain ⟨rfl, h', tk, m', news', rfl, F', N', ha, hJ'⟩ := q
    refine ⟨rfl, h', tk, m', news', rfl, F', fun p hp => ?_, fun p hp h => ?_, hJ'⟩
    · rcases List.mem_append.mp hp with h | h
      · rcases hf p.1 (hsub p h) with e | ⟨o, e⟩
        · have e2 : p = (It, oI) := by
            have := hown p h
            rw [e, ho] at this
            exact Prod.ext e (Option.some.inj this).symm
          rw [e2]; exact N' _ (.head _)
        · have e2 : p = (p.1, o) := by
            have h1 := hown p h
            have h2 := (N₁ _ (List.mem_append_right _ (keep _ _ _ hJ _ e))).1
            rw [h1] at h2
            exact Prod.ext rfl (Option.some.inj h2)
          rw [e2]; exact N' _ (.tail _ (keep _ _ _ hJ' _ e))
      · exact N' _ (.tail _ h)
    · have h1 : p.1 ∈ news₁.map (·.1) := by rw [← ha]; exact List.mem_map_of_mem hp
      obtain ⟨q, hq, e⟩ := List.mem_map.mp h1
      exact hne q hq (by rw [e]; exact List.mem_singleton.mp h)
theorem loop_list {l : Addr} {o : Obj} {kn : Nat} (hoc : o.cls = .type "list") {ys : List Value} {m₀ : Str → Option Value} {news : List (Addr × Obj)} (J : Nat → (Str → Option Value) → List (Addr × Obj) → Prop)
    (hh : A.handled = none) (F : Fr h₀ env.locals s.heap m₀) (N : News h₀ env.locals s.heap news) (hod : o.data = .seq ys.toArray kn) (hl : (l, o) ∈ news) (hj : J 0 m₀ news) (keep : ∀ i m k, J i m k → (l, o) ∈ k)
    (turn : ∀ i v m₁ news₁ It (s₁ : Shared) oI, ys[i]? = some v → J i m₁ news₁ → (∀ p ∈ news₁, p.1 ≠ It) → (∀ p ∈ news, p.1 < It) → Fr h₀ env.locals s₁.heap m₁ → News h₀ env.locals s₁.heap ((It, oI) :: news₁) →
      wpAny (model prog w) A (assign target env v) (fun _ s₃ => wpAny (model prog w) A (execs body env) (LoopPost h₀ env.locals (J (i + 1)) It oI (news₁.map (·.1)) s₁) E s₃) E s₁)
    (done : ∀ m₁ news₁ h tk, J ys.length m₁ news₁ → Fr h₀ env.locals h m₁ → News h₀ env.locals h news₁ → Q .next { s with heap := h, toks := tk }) :
    wpAny (model prog w) A (pyIter (.ref l)) (fun it s₂ => LoopAtT prog w A h₀ env target body Q E it s₂) E s := by
  have hls : s.heap.IsList l ys.toArray := ⟨_, (N _ hl).1, hoc, _, hod⟩
  have hlt : l < s.heap.objs.size := Heap.lt_size (N _ hl).1
  have hne : l ≠ s.heap.objs.size := Nat.ne_of_lt hlt
  refine wpAny_pyIter_list hls ?_
  have W := Walks.list (prog := prog) (w := w) hh s.heap.objs.size l hne ys.toArray
  rw [List.size_toArray] at W
  refine loop_walk J [(l, o)] W ?_ (next_is_new F) (fun p hp => Nat.ne_of_lt (Heap.lt_size (N p hp).1)) ⟨⟨_, Heap.get?_push_size _ rfl, rfl, rfl⟩, hls.at fun o e => Heap.get?_push_of_some _ e⟩ (fun i h st => let ⟨o, ho, _⟩ := st.1; ⟨o, ho⟩) (F.push _) (fun p hp => ⟨Heap.get?_push_of_some _ (N p hp).1, (N p hp).2⟩)
    (fun i s' v Q' st hQ' => letGo_listiter st.1 hQ') hj ?_ (fun i m k hJ p hp => by rw [List.mem_singleton.mp hp]; exact keep i m k hJ) ?_ done
  · intro hm
    rcases List.mem_cons.mp hm with e | hm
    · exact absurd F.ns.lt (e ▸ Nat.lt_irrefl _)
    · exact absurd (List.mem_singleton.mp hm) (N _ hl).2.1.symm
  · intro b hb
    rcases List.mem_cons.mp hb with e | hb
    · exact .inl e
    · exact .inr ⟨_, by rw [List.mem_singleton.mp hb]; exact .head _⟩
  · intro i v m₁ news₁ s₁ oI hi hP hJ ha F₁ N₁
    exact turn i v m₁ news₁ _ s₁ oI (by simpa using hP) hJ ha (fun p hp => Heap.lt_size (N p hp).1) F₁ N₁
end
def Two (a b : Str) (m₀ m : Str → Option Value) : Prop := ∀ z, z ≠ a → z ≠ b → m z = m₀ z
theorem Two.refl {a b : Str} {m₀ : Str → Option Value} : Two a b m₀ m₀ := fun _ _ _ => rfl
theorem Two.eq {a b : Str} {m₀ m : Str → Option Value} (h : Two a b m₀ m) : m = fun z => if z = a then m a else if z = b then m b else m₀ z := by
  funext z
  by_cases h1 : z = a
  · simp [h1]
  · by_cases h2 : z = b
    · simp only [h2]; split <;> simp_all
    · rw [if_neg h1, if_neg h2, h z h1 h2]
section
variable (prog : Program) (w : World) (A : Around) (h₀ : Heap) (env : Env) (target : Expr) (body : List Stmt) (Q : Flow → Shared → Prop) (E : Value → Shared → Prop) (s : Shared) (lp : Addr × Obj)
def SeqRest : List Value → (Str → Option Value) → List (Addr × Obj) → Prop
  | [], m, k => lp ∈ k ∧ ∀ h tk, Fr h₀ env.locals h m → News h₀ env.locals h k → Q .next { s with heap := h, toks := tk }
  | v :: vs, m, k => lp ∈ k ∧ ∀ It (s₁ : Shared) oI, (∀ p ∈ k, p.1 ≠ It) → Fr h₀ env.locals s₁.heap m → News h₀ env.locals s₁.heap ((It, oI) :: k) →
      wpAny (model prog w) A (assign target env v) (fun _ s₃ => wpAny (model prog w) A (execs body env) (LoopPost h₀ env.locals (SeqRest vs) It oI (k.map (·.1)) s₁) E s₃) E s₁
end
section
variable {prog : Program} {w : World} {A : Around} {E : Value → Shared → Prop} {s : Shared} {env : Env} {h₀ : Heap} {target : Expr} {body : List Stmt} {Q : Flow → Shared → Prop}
theorem SeqRest.mem {lp : Addr × Obj} {vs : List Value} {m : Str → Option Value} {k : List (Addr × Obj)} (h : SeqRest prog w A h₀ env target body Q E s lp vs m k) : lp ∈ k := by
  cases vs with
  | nil => exact h.1
  | cons _ _ => exact h.1
/-- a loop over a list of written length, turn by turn -/
theorem loop_seq {l : Addr} {o : Obj} {kn : Nat} (hoc : o.cls = .type "list") {ys : List Value} {m₀ : Str → Option Value} {news : List (Addr × Obj)} (hh : A.handled = none) (F : Fr h₀ env.locals s.heap m₀) (N : News h₀ env.locals s.heap news)
    (hod : o.data = .seq ys.toArray kn) (h : SeqRest prog w A h₀ env target body Q E s (l, o) ys m₀ news) :
    wpAny (model prog w) A (pyIter (.ref l)) (fun it s₂ => LoopAtT prog w A h₀ env target body Q E it s₂) E s := by
  refine loop_list hoc (fun i => SeqRest prog w A h₀ env target body Q E s (l, o) (ys.drop i)) hh F N hod h.mem h (fun i m k hJ => hJ.mem) ?_ ?_
  · intro i v m₁ news₁ It s₁ oI hv hJ off _ F₁ N₁
    have e : ys.drop i = v :: ys.drop (i + 1) := by
      obtain ⟨hl, rfl⟩ := List.getElem?_eq_some_iff.mp hv
      exact List.drop_eq_getElem_cons hl
    rw [e] at hJ
    exact hJ.2 It s₁ oI off F₁ N₁
  · intro m₁ news₁ h tk hJ F₁ N₁
    rw [List.drop_length] at hJ
    exact hJ.2 h tk F₁ N₁
end

section
open Builtin
variable {a b c : Value}
theorem cb_setitem : checkBoundCall "dict.__setitem__" ⟨[a, b, c], []⟩ = pure () := by kernel_rfl
theorem cb_delitem : checkBoundCall "dict.__delitem__" ⟨[a, b], []⟩ = pure () := by kernel_rfl
theorem cb_init : checkBoundCall "dict.__init__" ⟨[a], []⟩ = pure () := by kernel_rfl
/-- the arguments bind beneath the class's own name -/
def bArgs (id : String) (args : Args) : Prop := (match Manifest.signature? id with | some sig => Bind.checkArgs id { sig with full := s!"{(Str.ofString "CaselessDict").toString}.{Bind.lastOf id}" } args | none => pure ()) = pure ()
theorem ba_getitem : bArgs "dict.__getitem__" ⟨[a, b], []⟩ := by unfold bArgs; rw [signature?_of (id := "dict.__getitem__") (n := ['_', '_', 'm', 'e', 't', 'i', 't', 'e', 'g', '_', '_']) (o := ['t', 'c', 'i', 'd']) (by kernel_rfl) F.owner_dict]; kernel_rfl
theorem ba_contains : bArgs "dict.__contains__" ⟨[a, b], []⟩ := by unfold bArgs; rw [signature?_of (id := "dict.__contains__") (n := ['_', '_', 's', 'n', 'i', 'a', 't', 'n', 'o', 'c', '_', '_']) (o := ['t', 'c', 'i', 'd']) (by kernel_rfl) F.owner_dict]; kernel_rfl
theorem ba_pop : bArgs "dict.pop" ⟨[a, b, c], []⟩ := by unfold bArgs; rw [signature?_of (id := "dict.pop") (n := ['p', 'o', 'p']) (o := ['t', 'c', 'i', 'd']) (by kernel_rfl) F.owner_dict]; kernel_rfl
theorem ba_popitem : bArgs "dict.popitem" ⟨[a], []⟩ := by unfold bArgs; rw [signature?_of (id := "dict.popitem") (n := ['m', 'e', 't', 'i', 'p', 'o', 'p']) (o := ['t', 'c', 'i', 'd']) (by kernel_rfl) F.owner_dict]; kernel_rfl
theorem ba_items : bArgs "dict.items" ⟨[a], []⟩ := by unfold bArgs; rw [signature?_of (id := "dict.items") (n := ['s', 'm', 'e', 't', 'i']) (o := ['t', 'c', 'i', 'd']) (by kernel_rfl) F.owner_dict]; kernel_rfl
theorem ba_keys : bArgs "dict.keys" ⟨[a], []⟩ := by unfold bArgs; rw [signature?_of (id := "dict.keys") (n := ['s', 'y', 'e', 'k']) (o := ['t', 'c', 'i', 'd']) (by kernel_rfl) F.owner_dict]; kernel_rfl
end
section
variable {prog : Program} {w : World} {A : Around} {E : Value → Shared → Prop} {s : Shared} {K : Frag} {x C : Addr} {ox : Obj} {od : Option Obj} {cd : ClassData} {id : String} {args : List Value}
theorem cb_method {Q : Unit → Shared → Prop} (X : K.In s.heap) (I : InstAt s.heap x ox C od) (hC : clsIn K C = some cd) (hq : cd.qualname = Str.ofString "CaselessDict") (ht : typeIn K (.ref C) = some (.type "type")) (hm : subIn K (.ref C) (.type "module") = some false)
    (hk : builtinKind id = some .method) (hv : Manifest.varargsMethods.contains id = false) (ha : bArgs id ⟨.ref x :: args, []⟩) (q : Q () s) : wpAny (model prog w) A (checkBoundCall id ⟨.ref x :: args, []⟩) Q E s := by
  unfold checkBoundCall
  unfold bArgs at ha
  cases hs : Manifest.signature? id with
  | none => exact wpAny_pure q
  | some sig =>
    rw [hs] at ha
    simp only [hk]
    have hmi : Looks (model prog w) s.heap (isInstance (.ref x) (.type "module")) false := I.type.andThen (looks_subIn X hm)
    refine wpAny_bind (hmi.here ?_)
    simp only [hv, Bool.or_false, Bool.false_eq_true, if_false]
    have hty : Looks (model prog w) s.heap (isType (.ref x)) false := by
      refine (Looks.ld I.at_).andThen ?_
      have := I.no
      unfold notCls at this
      cases e : ox.data <;> rw [e] at this <;> first | exact .now | cases this
    refine wpAny_bind (hty.here ?_)
    simp only [Bool.false_eq_true, if_false]
    refine wpAny_bind (I.type.here ?_)
    refine wpAny_bind ((looks_clsIn X hC).here ?_)
    refine wpAny_bind ((looks_typeIn X ht).here ?_)
    rw [hq]
    simp only [beq_self_eq_true, if_true]
    exact wpAny_of_eq ha q
end

/-! ## dict's built-ins, upon a plain dict and an instance alike -/
def NoOrd (M : Model) (h : Heap) (d : Addr) : Prop := ∀ name rest, Looks M h (Builtin.Dict.notOrdered name ⟨.ref d :: rest, []⟩) ()
theorem noOrd_inst {M : Model} {h : Heap} {K : Frag} {x C : Addr} {ox : Obj} {od : Option Obj} (X : K.In h) (I : InstAt h x ox C od) (ho : subIn K (.ref C) (.type "collections.OrderedDict") = some false) : NoOrd M h x := by
  intro name rest A Q E s k q
  have hi : Looks M h (isInstance (.ref x) (.type "collections.OrderedDict")) false := I.type.andThen (looks_subIn X ho)
  unfold Builtin.Dict.notOrdered
  split
  · refine wpAny_bind ((I.type.keeps k).here ?_)
    show wpAny _ _ (if (Value.ref C != Value.type "dict") = true then _ else _) _ _ s
    rw [if_pos (by rfl)]
    refine wpAny_bind ((hi.keeps k).here ?_)
    simp only [Bool.false_eq_true, if_false]
    exact wpAny_pure q
  · exact wpAny_pure q
theorem noOrd_dict {prog : Program} {w : World} {h : Heap} {d : Addr} {o : Obj} (ho : h.get? d = some o) (hc : o.cls = .type "dict") : NoOrd (model prog w) h d := by
  intro name rest A Q E s k q
  exact wpAny_notOrdered_dict (args := ⟨.ref d :: rest, []⟩) ⟨o, k _ _ ho, hc⟩ q
theorem noOrd_set {M : Model} {h h' : Heap} {d : Addr} (x : NoOrd M h d) (k : ∀ b o, h.get? b = some o → h'.get? b = some o) : NoOrd M h' d := fun name rest => (x name rest).keeps k
section
open Builtin
variable {prog : Program} {w : World} {A : Around} {E : Value → Shared → Prop} {s : Shared} {f : Nm → Str} {es : List DictEntry} {c : C} {o : Obj} {d : Addr} {n : Nat} {k : Nm} {t : Tok} {Q : PySem.Fin → Shared → Prop}
theorem b_setitem {y : Int} {u : Tok} (no : NoOrd (model prog w) s.heap d) (hf : ∀ a b, f a = f b → a = b) (ho : s.heap.get? d = some o) (hd : o.data = .dict es.toArray n) (h : KV w f es c) (hz : c.length ≤ sizeLine)
    (hQ : ∀ es' n' h', KV w f es' (put c k y) → h'.get? d = some { o with data := .dict es'.toArray n' } → Heap.SameBut d s.heap h' → Q (.done (.ret .none)) { s with heap := h', toks := s.toks + 1 }) :
    wpAny (model prog w) A («dict.__setitem__» ⟨[.ref d, .str (f k) t, .int y u], []⟩) Q E s := by
  show wpAny _ _ (Dict.notOrdered "__setitem__" ⟨[.ref d, .str (f k) t, .int y u], []⟩ >>= _) _ _ s
  refine wpAny_bind ((no _ _).here ?_)
  show wpAny _ _ (dictSet d (.str (f k) t) (.int y u) >>= _) _ _ s
  exact wpAny_bind (set_at hf ho hd h hz fun es' n' h' a b c => wpAny_pure (hQ es' n' h' a b c))
theorem b_getitem {y : Int} (hf : ∀ a b, f a = f b → a = b) (ho : s.heap.get? d = some o) (hd : o.data = .dict es.toArray n) (h : KV w f es c) (hl : look c k = some y)
    (hQ : ∀ u, Q (.done (.ret (.int y u))) { s with toks := s.toks + 1 }) : wpAny (model prog w) A («dict.__getitem__» ⟨[.ref d, .str (f k) t], []⟩) Q E s := by
  show wpAny _ _ (dictGet d (.str (f k) t) >>= _) _ _ s
  refine wpAny_bind (get_at hf ho hd h (fun e => by rw [hl] at e; cases e) fun x u e => ?_)
  rw [hl] at e; cases e
  exact wpAny_pure (hQ u)
theorem b_contains (hs : (d == sysModules) = false) (hf : ∀ a b, f a = f b → a = b) (ho : s.heap.get? d = some o) (hd : o.data = .dict es.toArray n) (h : KV w f es c)
    (hQ : Q (.done (.ret (.bool (look c k).isSome))) { s with toks := s.toks + 1 }) : wpAny (model prog w) A («dict.__contains__» ⟨[.ref d, .str (f k) t], []⟩) Q E s := by
  show wpAny _ _ (dictGet d (.str (f k) t) >>= _) _ _ s
  refine wpAny_bind (get_at hf ho hd h (fun e => ?_) fun x u e => ?_)
  · rw [e] at hQ
    show wpAny _ _ (Dict.pendingKey? d (.str (f k) t) >>= _) _ _ _
    exact wpAny_bind (wpAny_pendingKey_other hs (wpAny_pure hQ))
  · rw [e] at hQ
    exact wpAny_pure hQ
theorem b_delitem {y : Int} (no : NoOrd (model prog w) s.heap d) (hf : ∀ a b, f a = f b → a = b) (ho : s.heap.get? d = some o) (hd : o.data = .dict es.toArray n) (h : KV w f es c) (hz : c.length ≤ sizeLine) (hl : look c k = some y)
    (hQ : ∀ es' n' h', KV w f es' (del c k) → h'.get? d = some { o with data := .dict es'.toArray n' } → Heap.SameBut d s.heap h' → Q (.done (.ret .none)) { s with heap := h', toks := s.toks + 1 }) :
    wpAny (model prog w) A («dict.__delitem__» ⟨[.ref d, .str (f k) t], []⟩) Q E s := by
  show wpAny _ _ ((Dict.notOrdered "__delitem__" ⟨[.ref d, .str (f k) t], []⟩ >>= _) >>= _) _ _ s
  refine wpAny_bind (wpAny_bind ((no _ _).here ?_))
  refine wpAny_pure ?_
  show wpAny _ _ (Dict.takeOut d (.str (f k) t) >>= _) _ _ s
  refine wpAny_bind (take_at hf ho hd h hz (fun e _ => by rw [hl] at e; cases e) fun x e u v es' n' h' e1 _ _ a b c => ?_)
  exact wpAny_bind (wpAny_letGo (wpAny_pure (hQ es' n' h' a b c)))
theorem b_pop {dv : Value} (no : NoOrd (model prog w) s.heap d) (hs : (d == sysModules) = false) (hf : ∀ a b, f a = f b → a = b) (ho : s.heap.get? d = some o) (hd : o.data = .dict es.toArray n) (h : KV w f es c) (hz : c.length ≤ sizeLine)
    (hn : look c k = none → del c k = c → Q (.done (.ret dv)) { s with toks := s.toks + 1 })
    (hQ : ∀ y u es' n' h', look c k = some y → KV w f es' (del c k) → h'.get? d = some { o with data := .dict es'.toArray n' } → Heap.SameBut d s.heap h' → Q (.done (.ret (.int y u))) { s with heap := h', toks := s.toks + 1 }) :
    wpAny (model prog w) A («dict.pop» ⟨[.ref d, .str (f k) t, dv], []⟩) Q E s := by
  show wpAny _ _ ((Dict.notOrdered "pop" ⟨[.ref d, .str (f k) t, dv], []⟩ >>= _) >>= _) _ _ s
  refine wpAny_bind (wpAny_bind ((no _ _).here ?_))
  refine wpAny_pure ?_
  show wpAny _ _ (Dict.takeOut d (.str (f k) t) >>= _) _ _ s
  refine wpAny_bind (take_at hf ho hd h hz (fun e e2 => ?_) fun x e u v es' n' h' e1 _ ev a b c => ?_)
  · show wpAny _ _ (Dict.missedRemoval d (.str (f k) t) >>= _) _ _ _
    unfold Dict.missedRemoval
    rw [if_neg (by rw [hs]; exact Bool.false_ne_true)]
    refine wpAny_bind (wpAny_pure ?_)
    exact wpAny_bind (wpAny_rule (wpAny_pure (hn e e2)))
  · refine wpAny_bind (wpAny_letGo ?_)
    rw [ev]
    exact wpAny_pure (hQ x u es' n' h' e1 a b c)
end

def BoundAt (u : Addr) (T : String) (v : Value) (x : Addr) (h : Heap) : Prop := h.get? u = some (boundObj T v x)
def isB (T : String) : Bool := T == "builtin_function_or_method" || T == "method-wrapper"
section
variable {prog : Program} {w : World} {M : Model} {A : Around} {E : Value → Shared → Prop} {s : Shared} {u x : Addr} {T id : String} {h₀ : Heap} {L : Addr} {news : List (Addr × Obj)} {env : Env} {pos : Pos} {first : List Value}
theorem bound_at {h : Heap} {v : Value} (N : News h₀ L h news) (hm : (u, boundObj T v x) ∈ news) : BoundAt u T v x h := N.get hm
theorem isB_ne (h : isB T = true) : (Value.type T != Value.type "method") = true := by
  unfold isB at h
  rcases Bool.or_eq_true_iff.mp h with e | e <;> (rw [beq_iff_eq.mp e]; decide)
theorem isB_eq (h : isB T = true) : (Value.type T == Value.type "builtin_function_or_method" || Value.type T == Value.type "method-wrapper") = true := by
  unfold isB at h
  rcases Bool.or_eq_true_iff.mp h with e | e <;> (rw [beq_iff_eq.mp e]; decide)
theorem callWith_b {v : Value} {args : List (Bool × Sem Value)} {Q : Value → Shared → Prop} (hT : isB T = true) (hplain : args.any (·.1) = false)
    (h : wpAny M A (evalArgs (.ref u) true args []) (fun a s₁ => BoundAt u T v x s₁.heap ∧ wpAny M A (call (.ref u) (first ++ a.pos) a.kw) Q E s₁) E s) : wpAny M A (callWith pos (.ref u) first args []) Q E s := by
  unfold callWith
  refine wpAny_bind (wpAny_holding (wpAny_mono h (fun a s₁ h₁ => wpAny_bind (wpAny_standAt ?_)) fun _ _ z => z))
  obtain ⟨ho, hcall⟩ := h₁
  simp only [hplain, List.any_nil, Bool.or_false]
  refine wpAny_bind (m := keeperOf (.ref u)) ?_
  unfold keeperOf
  refine wpAny_bind (wpAny_load ho ?_)
  simp only [isB_ne hT, isB_eq hT, if_true]
  refine wpAny_pure ?_
  exact wpAny_bind (wpAny_mono hcall (fun r s₂ hr => wpAny_bind (wpAny_holding (wpAny_point (wpAny_pure hr)))) fun _ _ z => z)
theorem callWith_b1 {v : Value} {e : Expr} {rest : List Expr} {Q : Value → Shared → Prop} (_N : News h₀ L s.heap news) (_hm : (u, boundObj T v x) ∈ news) (hT : isB T = true)
    (h : wpAny M A (spliced (backTo pos (starEach (e :: rest) env))) (fun vs s₁ => BoundAt u T v x s₁.heap ∧ wpAny M A (call (.ref u) (first ++ vs)) Q E s₁) E s)
    (he : starEach (e :: rest) env = (false, eval e env) :: starEach rest env := by rfl) (hplain : (backTo pos (starEach rest env)).any (·.1) = false := by rfl) :
    wpAny M A (callWith pos (.ref u) first (backTo pos (starEach (e :: rest) env)) []) Q E s := by
  rw [he] at h ⊢
  refine callWith_b (v := v) (x := x) hT (by show (false || (backTo pos (starEach rest env)).any (·.1)) = false; rw [hplain]; rfl) ?_
  exact PySem.Calls.evalArgs_plain h
theorem callWith_b0 {v : Value} {Q : Value → Shared → Prop} (N : News h₀ L s.heap news) (hm : (u, boundObj T v x) ∈ news) (hT : isB T = true)
    (h : wpAny M A (call (.ref u) (first ++ [])) Q E s) : wpAny M A (callWith pos (.ref u) first (backTo pos (starEach [] env)) []) Q E s :=
  callWith_b (v := v) (x := x) hT rfl (evalArgs_nil3 ⟨bound_at N hm, h⟩)
theorem bound_call {args : List Value} {B : Builtin} {Q : Value → Shared → Prop} (hu : s.heap.get? u = some (boundObj T (.builtin id) x)) (hT : isB T = true) (hp : plainId id = true) (hb : entryFor table id = some B)
    (hc : ∀ (A : Around) (Q : Unit → Shared → Prop) (E : Value → Shared → Prop), Q () s → wpAny (model prog w) A (checkBoundCall id ⟨.ref x :: args, []⟩) Q E s)
    (h : wpAny (model prog w) A.in1 (B ⟨.ref x :: args, []⟩) (fun fin s' => ∃ v, fin = .done (.ret v) ∧ Q v s') E s) : wpAny (model prog w) A (call (.ref u) args) Q E s := by
  refine wpAny_call (codeAny_of_tree ?_)
  show wpAny _ A.in1 (callAny (.ref u) ⟨args, []⟩) _ _ s
  unfold callAny
  refine wpAny_bind (wpAny_load hu ?_)
  have h1 : (Value.type T == Value.type "method" || Value.type T == Value.type "builtin_function_or_method" || Value.type T == Value.type "method-wrapper") = true := by
    rw [Bool.or_assoc, isB_eq hT, Bool.or_true]
  simp only [h1, if_true, isB_ne hT]
  refine wpAny_bind (hc _ _ _ ?_)
  refine wpAny_pure ⟨plainId_quiet hp _, codeAny_builtin hb ?_⟩
  rw [Around.under_plainId hp]
  refine wpAny_mono h (fun fin s' q => ?_) fun _ _ z => z
  obtain ⟨v, rfl, hv⟩ := q
  exact hv
end

/-! ## _law_bag -/
def StopB (P : Prop) : Prop := P
theorem unstopB {P : Prop} (h : StopB P) : P := h
local macro_rules | `(tactic| walk_at "exec For") => `(tactic| (k_here; (with_reducible show wpAny _ _ (exec (Stmt.For (PySem.Expr.Name (Str.ofString "s") _) _ _ _ _) _) _ _ _); refine unstopB ?_))
theorem ints_int {vs : List Value} {ns : List Int} (h : IntsAre vs ns) : ∀ v ∈ vs, ∃ y u, v = .int y u := by
  induction h with
  | nil => intro v hv; cases hv
  | cons => rename_i ih; intro v hv; rcases List.mem_cons.mp hv with rfl | hv; exact ⟨_, _, rfl⟩; exact ih v hv
section
variable {w : World} {p : Program} {loose : List Str} {mean : ExcName → Option Value} {mg mb : Str → Option Value} {dp un : Nat} {gd : Option (List Code)} {cn : Str} {cs : Scope} {a L : Addr} {ccd : Value} {cl : List (Str × Addr)} {outer : List Env} {A₀ : Around} {base h₀ : Heap} {m : Str → Option Value} {s : Shared} {Q E : Value → Shared → Prop} {news : List (Addr × Obj)}
set_option pp.deepTerms false
set_option pp.maxSteps 3000
set_option pp.proofs false
theorem bag_spec {sa : Addr} {vs : List Value} {ns : List Int}
   (Bl : Below A₀ base outer h₀) (F : Fr h₀ L s.heap m) (X : (hd.heap_39 w.params).In h₀) (N : News h₀ L s.heap news) (T : Top p loose mean mg mb h₀) (hk : cs.kind = .function)
   (hl : h₀.IsList sa vs.toArray) (hi : IntsAre vs ns) (hn : ns.length ≤ 63) (hd : dp + 40 < recursionLimit) (hu : un + 400 < cLine)
   (ret : ∀ b B t tk' h', (∀ p ∈ news, p.1 < b) → Fr h₀ L h' m → News h₀ L h' ((b, listOf #[.int B t] 0) :: news) → Q (.ref b) { s with heap := h', toks := tk' }) :
   wpAny (model PySem.Challenge.rw_bf0001_01.row.prog w) (ktrTop dp un gd cn cs L a ccd cl outer) (call (.ref 180) [.ref sa]) Q E s := by
  revert X; k_fill; intro X
  refine wpAny_call ?_
  k_dflt ktr_enter
  k_steps
  unfold StopB
  refine For_invTF (by assumption) ?_ (by intro x; rfl)
  k_steps
  rename_i g1 L1 h1 FG B1 X1 T1 h2 F2 N2
  have hlg := Fr.lst FG hl
  refine kmk_slice_ints F2 N2 (Fr.lst F2 hlg) .none (.int _ _) hi (kmk_upto hi (by decide)) rfl ?_ (by with_unfolding_all rfl) (by intro _; with_unfolding_all rfl) (by rw [List.size_toArray, hi.length]; exact Nat.le_trans hn (by decide))
  intro D ws h3 F3 N3 l3 hI hC hL
  show wpAny _ _ (pyIter (.ref D)) _ _ _
  refine loop_list (o := listOf ws.toArray 0) rfl (fun i m' l => l = (D, listOf ws.toArray 0) :: news ∧ Two (Str.ofString "n") (Str.ofString "s") _ m' ∧ ∃ i t, m' (Str.ofString "n") = some (.int i t)) rfl F3 N3 rfl (.head _) ⟨rfl, Two.refl, 0, _, rfl⟩ ?keep ?turn ?done
  case keep => rintro i m k ⟨rfl, _⟩; exact .head _
  case turn =>
    rintro i v m₁ news₁ It s₁ oI hv ⟨rfl, h2, x, t, hx⟩ off _ F4 N4
    rw [h2.eq, hx] at F4
    obtain ⟨y, u, rfl⟩ := ints_int hI v (List.mem_of_getElem? hv)
    clear F2 N2 F N F3 N3
    k_steps
    refine' LoopPost.intro ((D, listOf ws.toArray 0) :: news) ?F ?N ?s ?a ⟨rfl, ?two, _, _, ?v⟩
    case F => assumption
    case N => assumption
    case s => ktr_rel
    case a => rfl
    case two => intro z z1 z2; simp only [if_neg z1, if_neg z2]
    case v => exact if_pos rfl
  case done =>
    rintro m₁ news₁ h tk ⟨rfl, h2, x, t, hx⟩ F5 N5
    rw [h2.eq, hx] at F5
    clear F2 N2 F N F3 N3
    k_steps
    rename (D < _ ∧ _) => q9
    exact ret _ _ _ _ _ (fun p hp => ktn_ltOf q9.2 p hp) (by assumption) (News.perm (by assumption) (by ktr_rel))
end

section
open Builtin
variable {prog : Program} {w : World} {A : Around} {E : Value → Shared → Prop} {s : Shared} {f : Nm → Str} {es : List DictEntry} {c : C} {o : Obj} {d : Addr} {n : Nat} {k : Nm} {t : Tok} {Q : PySem.Fin → Shared → Prop}
theorem b_noArgs {name : String} {Q : Addr → Shared → Prop} (no : NoOrd (model prog w) s.heap d) (h : Q d s) : wpAny (model prog w) A (Dict.noArgs name ⟨[.ref d], []⟩) Q E s := by
  unfold Dict.noArgs
  refine wpAny_bind ((no _ _).here ?_)
  exact wpAny_pure h
theorem b_shows {Q : Unit → Shared → Prop} (hs : (d == sysModules) = false) (h : Q () s) : wpAny (model prog w) A (Dict.showsAll d) Q E s := by
  unfold Dict.showsAll
  rw [hs]
  exact wpAny_pure h
theorem b_items (no : NoOrd (model prog w) s.heap d) (hs : (d == sysModules) = false)
    (hQ : Q (.done (.ret (.ref s.heap.objs.size))) { s with heap := s.heap.push { cls := .type "dict_items", data := .fields #[.ref d] } }) : wpAny (model prog w) A («dict.items» ⟨[.ref d], []⟩) Q E s := by
  show wpAny _ _ (Dict.noArgs "items" ⟨[.ref d], []⟩ >>= _) _ _ s
  refine wpAny_bind (b_noArgs no (wpAny_bind (b_shows hs (wpAny_bind (wpAny_newObj_type (wpAny_pure hQ))))))
theorem b_keys (no : NoOrd (model prog w) s.heap d) (hs : (d == sysModules) = false)
    (hQ : Q (.done (.ret (.ref s.heap.objs.size))) { s with heap := s.heap.push { cls := .type "dict_keys", data := .fields #[.ref d] } }) : wpAny (model prog w) A («dict.keys» ⟨[.ref d], []⟩) Q E s := by
  show wpAny _ _ (Dict.noArgs "keys" ⟨[.ref d], []⟩ >>= _) _ _ s
  refine wpAny_bind (b_noArgs no (wpAny_bind (b_shows hs (wpAny_bind (wpAny_newObj_type (wpAny_pure hQ))))))
theorem b_init (no : NoOrd (model prog w) s.heap d) (hQ : Q (.done (.ret .none)) s) : wpAny (model prog w) A («dict.__init__» ⟨[.ref d], []⟩) Q E s := by
  show wpAny _ _ (Dict.selfAndRest "__init__" ⟨[.ref d], []⟩ >>= _) _ _ s
  refine wpAny_bind ?_
  unfold Dict.selfAndRest
  refine wpAny_bind ((no _ _).here ?_)
  exact wpAny_pure (wpAny_pure hQ)
theorem kv_last (h : KV w f es (c ++ [(k, y)])) : ∃ es₀ e t u, es = es₀ ++ [e] ∧ e.key = .str (f k) t ∧ e.val = .int y u ∧ KV w f es₀ c := by
  unfold KV at h
  generalize hC : c ++ [(k, y)] = C9 at h
  induction h generalizing c with
  | nil => cases c <;> cases hC
  | @cons e p es' c' hd tl ih =>
    cases c with
    | nil =>
      cases hC
      cases tl
      obtain ⟨_, ⟨t, h1⟩, u, h2⟩ := hd
      exact ⟨[], e, t, u, rfl, h1, h2, .nil⟩
    | cons q c1 =>
      injection hC with h1 h2
      subst h1
      obtain ⟨es₀, e', t, u, rfl, a, b, kv⟩ := ih h2
      exact ⟨e :: es₀, e', t, u, rfl, a, b, .cons hd kv⟩
theorem b_popitem {y : Int} (no : NoOrd (model prog w) s.heap d) (hs : (d == sysModules) = false) (ho : s.heap.get? d = some o) (hd : o.data = .dict es.toArray n) (h : KV w f es (c ++ [(k, y)])) (hz : c.length < sizeLine)
    (hQ : ∀ t u es' n' h', KV w f es' c → h'.get? d = some { o with data := .dict es'.toArray n' } → Heap.SameBut d s.heap h' → Q (.done (.ret (.ref h'.objs.size))) { s with heap := h'.push (tupleOf #[.str (f k) t, .int y u] 0) }) : wpAny (model prog w) A («dict.popitem» ⟨[.ref d], []⟩) Q E s := by
  obtain ⟨oc, od, dt, sl⟩ := o
  simp only at hd; subst hd
  obtain ⟨es₀, e, t, u, rfl, e1, e2, kv⟩ := kv_last h
  have hl := All2.length kv
  show wpAny _ _ (Dict.noArgs "popitem" ⟨[.ref d], []⟩ >>= _) _ _ s
  refine wpAny_bind (b_noArgs no (wpAny_bind (b_shows hs (wpAny_bind (wpAny_dictEntries ho rfl ?_)))))
  have hb : (es₀ ++ [e]).toArray.back? = some e := by simp
  rw [hb]
  refine wpAny_bind (wpAny_updateDictKeys ho rfl (wpAny_bind (wpAny_newTuple ?_)) (by simp; omega) (by show (Array.pop _).size ≤ _; rw [Array.size_pop]; omega))
  refine wpAny_pure ?_
  rw [e1, e2]
  refine hQ t u es₀ (n + 1) _ kv ?_ (Heap.SameBut.update ..)
  rw [Heap.get?_update_self _ ho rfl]
  simp [Obj.mapDictKeys]
end

/-! ## a lambda, made for the first time or again -/
def Hit (qual : Str) (pos : Pos) (ps : Array Value) (R : List (Addr × Obj)) : Prop := ∃ (c' : Addr) (oc : Obj) (vs : Array Value) (t : Tok), ps = #[rawInt pos.line, rawInt pos.col, .ref c'] ∧ (c', oc) ∈ R ∧ oc.data = .fields vs ∧ vs[1]? = some (.str qual t)
def TabSt (qual : Str) (pos : Pos) (P : Addr) (ps : Array Value) (R : List (Addr × Obj)) : Prop := (ps = #[] ∧ ∀ p ∈ R, p.1 ≠ P) ∨ Hit qual pos ps R
theorem TabSt.grow {qual : Str} {pos : Pos} {P : Addr} {ps : Array Value} {R R' : List (Addr × Obj)} (h : TabSt qual pos P ps R) (hs : ∀ p ∈ R, p ∈ R') (off : (∀ p ∈ R, p.1 ≠ P) → ∀ p ∈ R', p.1 ≠ P) : TabSt qual pos P ps R' := by
  rcases h with ⟨e, o⟩ | ⟨c', oc, vs, t, e, hm, hd, hv⟩
  · exact .inl ⟨e, off o⟩
  · exact .inr ⟨c', oc, vs, t, e, hs _ hm, hd, hv⟩
section
variable {M : Model} {A : Around} {E : Value → Shared → Prop} {s : Shared} {h₀ : Heap} {L a c P : Addr} {m mg mb : Str → Option Value} {cn : Str} {cs : Scope} {ccd : Value} {cl : List (Str × Addr)} {R : List (Addr × Obj)}
  {p : Program} {loose : List Str} {mean : ExcName → Option Value} {params : Arguments} {body : Expr} {scope : Scope} {ps : Array Value} {pos : Pos} {clos : List (Str × Addr)}
theorem lam_eval {Q : Value → Shared → Prop} {qual : Str} (hq : (envX cn cs L a ccd cl).qual ++ "<lambda>" = qual) (hdef : defaultsOf params (envX cn cs L a ccd cl) = ([], [])) (F : Fr h₀ L s.heap m) (N : News h₀ L s.heap ((P, tabObj ps) :: R)) (T : Top p loose mean mg mb h₀) (C : CodeHd h₀ c P) (hcd : ccd = .ref c)
    (st : TabSt qual pos P ps R) (hcl : closureFor scope (envX cn cs L a ccd cl) = pure clos)
    (h : ∀ f c' oc vs t ctv h' tk R', Fr h₀ L h' m → News h₀ L h' ((f, kla_obj "<lambda>" qual params body scope clos ((mg "__name__").getD .none) c' ctv) :: (P, tabObj #[rawInt pos.line, rawInt pos.col, .ref c']) :: R') →
      (c', oc) ∈ R' → (∀ q ∈ R, q ∈ R') → oc.data = .fields vs → vs[1]? = some (.str qual t) → Q (.ref f) { s with heap := h', toks := tk }) :
    wpAny M A (eval (.Lambda params body scope pos) (envX cn cs L a ccd cl)) Q E s := by
  subst hq
  refine kla_eval hdef ?_
  rcases st with ⟨rfl, off⟩ | ⟨c', oc, vs, t, rfl, hm, hd, hv⟩
  · refine kla_nest (P := P) (ps := #[]) (g := fun o => (P, o) :: R) F N T C hcd (UpdF.head off) True.intro rfl hcl fun f c' oc vs t ctv h' tk F' N' hd hv _ _ => ?_
    exact h f c' oc vs t ctv h' tk ((c', oc) :: R) F' (N'.perm fun p hp => by
      simp only [List.mem_cons] at hp ⊢
      rcases hp with rfl | rfl | rfl | hp
      · exact .inl rfl
      · exact .inr (.inr (.inl rfl))
      · exact .inr (.inl rfl)
      · exact .inr (.inr (.inr hp))) (.head _) (fun q hq => .tail _ hq) hd hv
  · refine kla_hit (P := P) (c' := c') F N T C hcd (.head _) (by simp [TriplesOk, rawInt]) (by simp [codeAmong, rawInt]) hcl fun f ctv h' tk F' N' _ => ?_
    exact h f c' oc vs t ctv h' tk R F' N' hm (fun q hq => hq) hd hv
end

/-! ## a comprehension with two names, and one with a test, by an invariant -/
section
open LCg
variable {prog : Program} {w : World} {A : Around} {s : Shared} {h₀ : Heap} {L : Addr} {m : Str → Option Value} {env : Env} {elt ct : Expr} {x x₂ : Str} {scope : Scope} {cl : List (Str × Addr)} {S : List (Addr × Obj) → Prop} {P : Nat → Value → Prop} {Fin : List Value → List (Addr × Obj) → Prop}
theorem comp_indP {n : Nat} (Inv : Nat → List Value → List (Addr × Obj) → Prop)
    (turn : ∀ i ys news, i < n → Inv i ys news → ∀ v, P i v → ∃ (t : Addr) (ot : Obj) (v₁ v₂ : Value) (nt : Nat), v = .ref t ∧ (t, ot) ∈ news ∧ ot.cls = .type "tuple" ∧ ot.data = .seq #[v₁, v₂] nt ∧
      ∀ I oI C oC D m₂ h tk (E' : Value → Shared → Prop), NsObj oC m₂ → m₂ x = some v₁ → m₂ x₂ = some v₂ → Fr h₀ L h m → News h₀ L h ((I, oI) :: (C, oC) :: (D, lst ys) :: news) → Off3 I C D news → ((@Ne Nat I C) ∧ (@Ne Nat I D) ∧ (@Ne Nat C D)) →
      wpAny (model prog w) A (eval elt (compEnvC scope cl C env)) (CompEnd h₀ L m { s with heap := h, toks := tk } I oI C oC D (lst ys) S (fun y news' => Inv (i + 1) (ys ++ [y]) news')) E' { s with heap := h, toks := tk })
    (fin : ∀ ys news, Inv n ys news → Fin ys news) : ∀ k i ys news, i + k = n → Inv i ys news → LCp.CompRestP prog w A h₀ L m env elt x x₂ scope cl s S P Fin k i ys news := by
  intro k
  induction k with
  | zero => intro i ys news e hI; obtain rfl : i = n := by omega
            exact LCp.CompRestP.zero (fin _ _ hI)
  | succ k ih =>
    intro i ys news e hI
    refine LCp.CompRestP.succ fun v hv => ?_
    obtain ⟨t, ot, v₁, v₂, nt, e1, e2, e3, e4, go⟩ := turn i ys news (by omega) hI v hv
    refine ⟨t, ot, v₁, v₂, nt, e1, e2, e3, e4, fun I oI C oC D m₂ h tk E' hC hx hx₂ F N off ne => ?_⟩
    refine wpAny_mono (go I oI C oC D m₂ h tk E' hC hx hx₂ F N off ne) (fun y s₂ q => ?_) fun _ _ e => e
    obtain ⟨h', tk', news', e1, F', N', o', S', r⟩ := q
    exact ⟨h', tk', news', e1, F', N', o', S', ih _ _ _ (by omega) r⟩
theorem comp_indT {n : Nat} (Inv : Nat → List Value → List (Addr × Obj) → Prop)
    (turn : ∀ i ys news, i < n → Inv i ys news → ∀ v I oI C oC D m₂ h tk (E' : Value → Shared → Prop), P i v → NsObj oC m₂ → m₂ x = some v → Fr h₀ L h m → News h₀ L h ((I, oI) :: (C, oC) :: (D, lst ys) :: news) → Off3 I C D news → ((@Ne Nat I C) ∧ (@Ne Nat I D) ∧ (@Ne Nat C D)) →
      wpAny (model prog w) A (isTrue ct (compEnvC scope cl C env) (eval ct (compEnvC scope cl C env))) (fun ok s' => if ok = true then
        wpAny (model prog w) A (eval elt (compEnvC scope cl C env)) (CompEnd h₀ L m { s with heap := h, toks := tk } I oI C oC D (lst ys) S (fun y news' => Inv (i + 1) (ys ++ [y]) news')) E' s'
        else CompEnd h₀ L m { s with heap := h, toks := tk } I oI C oC D (lst ys) S (fun _ news' => Inv (i + 1) ys news') Value.none s') E' { s with heap := h, toks := tk })
    (fin : ∀ ys news, Inv n ys news → Fin ys news) : ∀ k i ys news, i + k = n → Inv i ys news → LCt.CompRestT prog w A h₀ L m env ct elt x scope cl s S P Fin k i ys news := by
  intro k
  induction k with
  | zero => intro i ys news e hI; obtain rfl : i = n := by omega
            exact LCt.CompRestT.zero (fin _ _ hI)
  | succ k ih =>
    intro i ys news e hI
    refine LCt.CompRestT.succ fun v I oI C oC D m₂ h tk E' hv hC hx F N off ne => ?_
    have step : ∀ (y : Value) (zs : List Value) s₂, CompEnd h₀ L m { s with heap := h, toks := tk } I oI C oC D (lst ys) S (fun y news' => Inv (i + 1) zs news') y s₂ → CompEnd h₀ L m { s with heap := h, toks := tk } I oI C oC D (lst ys) S (fun y news' => LCt.CompRestT prog w A h₀ L m env ct elt x scope cl s S P Fin k (i + 1) zs news') y s₂ := fun y zs s₂ q => by
      obtain ⟨h', tk', news', e1, F', N', o', S', r⟩ := q
      exact ⟨h', tk', news', e1, F', N', o', S', ih _ _ _ (by omega) r⟩
    refine wpAny_mono (turn i ys news (by omega) hI v I oI C oC D m₂ h tk E' hv hC hx F N off ne) (fun ok s₂ q => ?_) fun _ _ e => e
    split at q
    · next e =>
      rw [if_pos e]
      refine wpAny_mono q (fun y s₃ q => ?_) fun _ _ e => e
      obtain ⟨h', tk', news', e1, F', N', o', S', r⟩ := q
      exact ⟨h', tk', news', e1, F', N', o', S', ih _ _ _ (by omega) r⟩
    · next e =>
      rw [if_neg e]
      exact step _ _ _ q
end

/-! ## octets told and read -/
section
open Builtin
variable {c : UInt8} {cs : List UInt8} {t t1 : Tok} {x : PySem.Str} {n : Nat}
theorem args_decode2 (a b : Value) : argsOk "bytes.decode" ⟨[a, b], []⟩ := by
  unfold argsOk; rw [signature?_of (id := "bytes.decode") (n := ['e', 'd', 'o', 'c', 'e', 'd']) (o := ['s', 'e', 't', 'y', 'b']) (by kernel_rfl) FB.owner_bytes]; kernel_rfl
theorem decode_eq : «bytes.decode» ⟨[.bytes (c :: cs).toArray t, .str (Str.ofString "utf-8") t1], []⟩ = (mkStr (Str.ofString "utf-8") >>= fun _ => mkStr (Str.ofString "utf-8") >>= fun e => mkStr (Str.ofString "bytes.decode") >>= fun d =>
    call (.builtin "_codecs.decode.text") [.bytes (c :: cs).toArray t, e, .none, d] >>= fun v => ret v) := by kernel_rfl
theorem meets_decode2 (hd : ∀ id, _codecs.runDecoder id _codecs.utf8Decoder none true (c :: cs).toArray 0 [] = pure (x.cps, n)) :
    Meets («bytes.decode» ⟨[.bytes (c :: cs).toArray t, .str (Str.ofString "utf-8") t1], []⟩) (fun _ R s => x.length ≤ sizeLine ∧ ∀ t' k, R (.ok (.ret (.str x t'))) { s with toks := k }) := by
  refine .of_wp fun prog w A R s hS => ?_
  obtain ⟨hsz, h⟩ := hS
  rw [decode_eq]
  refine wpAny_bind (wpAny_mkStr ?_ (by decide))
  refine wpAny_bind (wpAny_mkStr ?_ (by decide))
  refine wpAny_bind (wpAny_mkStr ?_ (by decide))
  exact wpAny_bind (call_function_meets KBd.kind_text KBd.plain_text KBd.entry_text (KBd.args_text _ _ _ _) (KBd.meets_text hd) ⟨hsz, wpAny_pure ⟨_, rfl, h _ _⟩⟩)
theorem encode_eq (n : Nm) (j : Fin 3) : «str.encode» ⟨[.str (txt n j) t, .str (Str.ofString "utf-8") t1], []⟩ = (mkBytes (oct n j) >>= fun v => ret v) := by
  revert j n
  apply fin7 <;> apply fin3 <;> kernel_rfl
theorem oct_read (n : Nm) (j : Fin 3) : (∃ c cs, oct n j = (c :: cs).toArray) ∧ ∀ id, _codecs.runDecoder id _codecs.utf8Decoder none true (oct n j) 0 [] = pure ((txt n j).cps, (txt n j).length) := by
  revert j n
  apply fin7 <;> apply fin3 <;> exact ⟨⟨_, _, rfl⟩, fun _ => by kernel_rfl⟩
end
section
variable {prog : Program} {w : World} {A : Around} {E : Value → Shared → Prop} {s : Shared} {n : Nm} {j : Fin 3} {t t1 : Tok} {Q : Value → Shared → Prop}
theorem call_decode (h : ∀ t' k, Q (.str (txt n j) t') { s with toks := k }) : wpAny (model prog w) A (call (.builtin "bytes.decode") [.bytes (oct n j) t, .str (Str.ofString "utf-8") t1]) Q E s := by
  obtain ⟨⟨c, cs, e⟩, r⟩ := oct_read n j
  rw [e] at r ⊢
  exact call_meets FB.slot_bytes_decode (typeIs_bytes _ _ _) FB.entry_bytes_decode (args_decode2 _ _) (meets_decode2 r) ⟨Nat.le_trans (txt_len n j) (by decide), h⟩
theorem oct_size : ∀ n j, (oct n j).size ≤ 7 := by decide +kernel
theorem call_encode (h : ∀ t' k, Q (.bytes (oct n j) t') { s with toks := k }) : wpAny (model prog w) A (call (.builtin "str.encode") [.str (txt n j) t, .str (Str.ofString "utf-8") t1]) Q E s := by
  refine wpAny_call (codeAny_call_builtin F.slot_str_encode.plain F.entry_str_encode (F.slot_str_encode.check _ _ _ _ _ _ _ _ (typeIs_str _ _ _) (F.args_str_encode_2 _ _) ?_))
  rw [encode_eq]
  refine wpAny_bind ?_
  unfold mkBytes
  rw [if_neg (Nat.not_lt.mpr (Nat.le_trans (oct_size n j) (by decide)))]
  exact wpAny_bind (wpAny_fresh (wpAny_pure (wpAny_pure (h _ _))))
theorem method_encode {M : Model} {x : Str} {pl : Sem Bool} {Q : Value × List Value → Shared → Prop} (h : Q (.builtin "str.encode", [.str x t]) s) : wpAny M A (getMethod (.str x t) (Str.ofString "encode") pl) Q E s := by
  with_reducible exact GM.of (.str x t) (typeIs_str _ _ _) F.slot_str_encode F.type_str_encode GM.noRef h
theorem call_upper (h : Q (.str (up n) s.toks) { s with toks := s.toks + 1 }) : wpAny (model prog w) A (call (.builtin "str.upper") [.str (txt n j) t]) Q E s := by
  refine SCL.upper (Nat.le_trans (txt_len n j) (by decide)) fun _ => ?_
  rw [up_txt]; exact h
theorem call_lower_up (h : Q (.str (lo n) s.toks) { s with toks := s.toks + 1 }) : wpAny (model prog w) A (call (.builtin "str.lower") [.str (up n) t]) Q E s := by
  refine SCL.lower (Nat.le_trans (up_len n) (by decide)) fun _ => ?_
  rw [lower_up]; exact h
end
local macro_rules | `(tactic| walk_at "call builtin:bytes.decode") => `(tactic| (k_here; (with_reducible show wpAny _ _ (call (Value.builtin "bytes.decode") [Value.bytes (oct _ _) _, _]) _ _ _); (refine call_decode ?_); intro _ _))
local macro_rules | `(tactic| walk_at "call builtin:str.encode") => `(tactic| (k_here; (with_reducible show wpAny _ _ (call (Value.builtin "str.encode") [Value.str (txt _ _) _, _]) _ _ _); (refine call_encode ?_); intro _ _))
local macro_rules | `(tactic| walk_at "call builtin:str.upper") => `(tactic| (k_here; (with_reducible show wpAny _ _ (call (Value.builtin "str.upper") [Value.str (txt _ _) _]) _ _ _); (refine call_upper ?_)))
local macro_rules | `(tactic| walk_at "call builtin:str.lower") => `(tactic| (k_here; (with_reducible show wpAny _ _ (call (Value.builtin "str.lower") [Value.str (up _) _]) _ _ _); (refine call_lower_up ?_)))
local macro_rules | `(tactic| walk_at "getMethod str") => `(tactic| (k_here; (with_reducible refine method_encode ?_)))

/-! ## the draw, the text of a key -/
theorem small_py {a k : Int} (h1 : 1 ≤ k) (h2 : k ≤ 64) : Builtin.divisionGoesByPylong a k = false := PyProof.noPylong_small (by omega)
local macro_rules | `(tactic| walk_at "binaryOp FloorDiv int int") => `(tactic| (refine floordiv_int (by omega) ?_ (Or.inl (small_py (by omega) (by omega)))))
section
variable {w : World} {p : Program} {loose : List Str} {mean : ExcName → Option Value} {mg mb : Str → Option Value} {dp un : Nat} {gd : Option (List Code)} {cn : Str} {cs : Scope} {a L : Addr} {ccd : Value} {cl : List (Str × Addr)} {outer : List Env} {A₀ : Around} {base h₀ : Heap} {m : Str → Option Value} {s : Shared} {Q E : Value → Shared → Prop} {news rest : List (Addr × Obj)}
theorem draw_spec {b : Addr} {B k : Int} {tb tk : Tok}
   (Bl : Below A₀ base outer h₀) (F : Fr h₀ L s.heap m) (X : (hd.heap_39 w.params).In h₀) (N : News h₀ L s.heap ((b, listOf #[.int B tb] 0) :: rest)) (T : Top p loose mean mg mb h₀) (hk : cs.kind = .function)
   (hb : ∀ p ∈ rest, p.1 ≠ b) (hk1 : 1 ≤ k) (hk2 : k ≤ 64) (hd : dp + 20 < recursionLimit) (hu : un + 200 < cLine)
   (ret : ∀ t' t'' tk' h', Fr h₀ L h' m → News h₀ L h' ((b, listOf #[.int (B.fdiv k) t'] 0) :: rest) → Q (.int (B.fmod k) t'') { s with heap := h', toks := tk' }) :
   wpAny (model PySem.Challenge.rw_bf0001_01.row.prog w) (ktrTop dp un gd cn cs L a ccd cl outer) (call (.ref 187) [.ref b, .int k tk]) Q E s := by
  revert X; k_fill; intro X
  refine wpAny_call ?_
  k_dflt ktr_enter
  k_steps
  exact ret _ _ _ _ (by assumption) (by assumption)
theorem uni_str {x : Str} {t : Tok}
   (Bl : Below A₀ base outer h₀) (F : Fr h₀ L s.heap m) (X : (hd.heap_39 w.params).In h₀) (N : News h₀ L s.heap news) (T : Top p loose mean mg mb h₀) (hk : cs.kind = .function)
   (hd : dp + 20 < recursionLimit) (hu : un + 200 < cLine)
   (ret : ∀ tk' h', Fr h₀ L h' m → News h₀ L h' news → Q (.str x t) { s with heap := h', toks := tk' }) :
   wpAny (model PySem.Challenge.rw_bf0001_01.row.prog w) (ktrTop dp un gd cn cs L a ccd cl outer) (call (.ref 29) [.str x t]) Q E s := by
  revert X; k_fill; intro X
  refine wpAny_call ?_
  k_dflt ktr_enter
  k_steps
  exact ret _ _ (by assumption) (by assumption)
theorem uni_bytes {t : Tok} {n : Nm} {j : Fin 3}
   (Bl : Below A₀ base outer h₀) (F : Fr h₀ L s.heap m) (X : (hd.heap_39 w.params).In h₀) (N : News h₀ L s.heap news) (T : Top p loose mean mg mb h₀) (hk : cs.kind = .function)
   (hd : dp + 20 < recursionLimit) (hu : un + 200 < cLine)
   (ret : ∀ t tk' h', Fr h₀ L h' m → News h₀ L h' news → Q (.str (txt n j) t) { s with heap := h', toks := tk' }) :
   wpAny (model PySem.Challenge.rw_bf0001_01.row.prog w) (ktrTop dp un gd cn cs L a ccd cl outer) (call (.ref 29) [.bytes (oct n j) t]) Q E s := by
  revert X; k_fill; intro X
  refine wpAny_call ?_
  k_dflt ktr_enter
  k_steps
  exact ret _ _ _ (by assumption) (by assumption)
theorem uni_spec {v : Value} {n : Nm} (V : KeyV v n)
   (Bl : Below A₀ base outer h₀) (F : Fr h₀ L s.heap m) (X : (hd.heap_39 w.params).In h₀) (N : News h₀ L s.heap news) (T : Top p loose mean mg mb h₀) (hk : cs.kind = .function)
   (hd : dp + 20 < recursionLimit) (hu : un + 200 < cLine)
   (ret : ∀ j t tk' h', Fr h₀ L h' m → News h₀ L h' news → Q (.str (txt n j) t) { s with heap := h', toks := tk' }) :
   wpAny (model PySem.Challenge.rw_bf0001_01.row.prog w) (ktrTop dp un gd cn cs L a ccd cl outer) (call (.ref 29) [v]) Q E s := by
  cases V with
  | s => exact uni_str Bl F X N T hk hd hu fun _ _ F' N' => ret _ _ _ _ F' N'
  | b => exact uni_bytes Bl F X N T hk hd hu fun _ _ _ F' N' => ret _ _ _ _ F' N'
end
theorem news_pick {b : Addr} {o : Obj} {news : List (Addr × Obj)} {g : Obj → List (Addr × Obj)} (U : UpdF b o news g) :
    ∃ rest, (∀ p ∈ rest, p.1 ≠ b) ∧ (∀ p, p ∈ (b, o) :: rest → p ∈ news) ∧ (∀ p ∈ rest, p ∈ news) ∧ ∀ o' p, p ∈ g o' → p ∈ (b, o') :: rest := by
  obtain ⟨pre, post, rfl, hg, h1, h2⟩ := U.split
  refine ⟨pre ++ post, fun p hp => ?_, fun p hp => ?_, fun p hp => ?_, fun o' p hp => ?_⟩
  · rcases List.mem_append.mp hp with hp | hp
    · exact h1 p hp
    · exact h2 p hp
  · simp only [List.mem_cons, List.mem_append] at hp ⊢
    rcases hp with hp | hp | hp <;> simp [hp]
  · simp only [List.mem_cons, List.mem_append] at hp ⊢
    rcases hp with hp | hp <;> simp [hp]
  · rw [hg] at hp
    simp only [List.mem_cons, List.mem_append] at hp ⊢
    rcases hp with hp | hp | hp <;> simp [hp]
theorem fmod_range {B k : Int} (h : 1 ≤ k) : 0 ≤ B.fmod k ∧ B.fmod k < k := ⟨Int.fmod_nonneg_of_pos B (by omega), Int.fmod_lt_of_pos B (by omega)⟩
section
variable {w : World} {p : Program} {loose : List Str} {mean : ExcName → Option Value} {mg mb : Str → Option Value} {dp un : Nat} {gd : Option (List Code)} {cn : Str} {cs : Scope} {a L : Addr} {ccd : Value} {cl : List (Str × Addr)} {outer : List Env} {A₀ : Around} {base h₀ : Heap} {m : Str → Option Value} {s : Shared} {Q E : Value → Shared → Prop} {news rest : List (Addr × Obj)} {g : Obj → List (Addr × Obj)}
theorem draw_use {b : Addr} {B k : Int} {tb tk : Tok}
   (Bl : Below A₀ base outer h₀) (F : Fr h₀ L s.heap m) (X : (hd.heap_39 w.params).In h₀) (N : News h₀ L s.heap news) (T : Top p loose mean mg mb h₀) (hk : cs.kind = .function)
   (U : UpdF b (listOf #[.int B tb] 0) news g) (hk1 : 1 ≤ k) (hk2 : k ≤ 64) (hd : dp + 20 < recursionLimit) (hu : un + 200 < cLine)
   (ret : ∀ (r B' : Int) t' t'' tk' h', 0 ≤ r → r < k → Fr h₀ L h' m → News h₀ L h' (g (listOf #[.int B' t'] 0)) → Q (.int r t'') { s with heap := h', toks := tk' }) :
   wpAny (model PySem.Challenge.rw_bf0001_01.row.prog w) (ktrTop dp un gd cn cs L a ccd cl outer) (call (.ref 187) [.ref b, .int k tk]) Q E s := by
  obtain ⟨rest, h1, h2, _, h3⟩ := news_pick U
  exact draw_spec Bl F X (N.perm h2) T hk h1 hk1 hk2 hd hu fun _ _ _ _ F' N' => ret _ _ _ _ _ _ (fmod_range hk1).1 (fmod_range hk1).2 F' (N'.perm (h3 _))
end
local macro_rules | `(tactic| walk_at "call ref") => `(tactic| (k_here; (with_reducible show wpAny _ _ (call (Value.ref 187) [_, _]) _ _ _); k_dflt (refine' draw_use ?k1 ?k2 ?k3 ?k4 ?k5 ?k6 ?k7 ?k8 ?k9 ?kA ?kB ?_; (case k1 | k2 | k3 | k4 | k5 => k_asm); (case k6 => first | assumption | exact rfl); (case k7 => k_updF); (case k8 | k9 => decide); (case kA => ktr_room); (case kB => ktr_units); k_whole; intro r' B' t1' t2' tk' h' hr0' hr1' F' N'; (try dsimp only at N'))))
local macro_rules | `(tactic| walk_at "call ref") => `(tactic| (k_here; (with_reducible show wpAny _ _ (call (Value.ref 29) [_]) _ _ _); k_dflt (refine' uni_spec ?kV ?k1 ?k2 ?k3 ?k4 ?k5 ?k6 ?kA ?kB ?_; (case kV | k1 | k2 | k3 | k4 | k5 => k_asm); (case k6 => first | assumption | exact rfl); (case kA => ktr_room); (case kB => ktr_units); k_whole; intro j' t2' tk' h' F' N')))

/-! ## a key drawn -/
theorem item3 {prog : Program} {w : World} {A : Around} {E : Value → Shared → Prop} {s : Shared} {h₀ : Heap} {L : Addr} {news : List (Addr × Obj)} {value slice : PySem.Expr} {l : Addr} {x0 x1 x2 : Str} {t0 t1 t2 u : Tok} {e : Nat} {r : Int} {Q : Value → Shared → Prop}
    (N : News h₀ L s.heap news) (hm : (l, listOf #[.str x0 t0, .str x1 t1, .str x2 t2] e) ∈ news) (n : Nm) (e0 : x0 = txt n 0) (e1 : x1 = txt n 1) (e2 : x2 = txt n 2) (h0 : 0 ≤ r) (h3 : r < 3) (h : ∀ j t, Q (.str (txt n j) t) s)
    (hs : subscripted slice false (.ref l) (.int r u) = operate [.ref l, .int r u] (getItem (.ref l) (.int r u)) := by with_unfolding_all rfl) : wpAny (model prog w) A (subscriptTail value slice (.ref l) (.int r u)) Q E s := by
  have hl : s.heap.IsList l [Value.str x0 t0, .str x1 t1, .str x2 t2].toArray := N.isList hm
  subst e0 e1 e2
  have h5 : r = 0 ∨ r = 1 ∨ r = 2 := by omega
  rcases h5 with rfl | rfl | rfl
  · exact item_litK hl (by decide) (by decide) rfl (h 0 _) hs
  · exact item_litK hl (by decide) (by decide) rfl (h 1 _) hs
  · exact item_litK hl (by decide) (by decide) rfl (h 2 _) hs
theorem item5 {prog : Program} {w : World} {A : Around} {E : Value → Shared → Prop} {s : Shared} {h₀ : Heap} {L : Addr} {news : List (Addr × Obj)} {value slice : PySem.Expr} {l : Addr} {t0 t1 t2 t3 t4 u : Tok} {e : Nat} {r : Int} {Q : Value → Shared → Prop}
    (N : News h₀ L s.heap news) (hm : (l, listOf #[.str (up 0) t0, .str (up 1) t1, .str (up 2) t2, .str (up 3) t3, .str (up 4) t4] e) ∈ news) (h0 : 0 ≤ r) (h5 : r < 5) (h : ∀ n t, Q (.str (up n) t) s)
    (hs : subscripted slice false (.ref l) (.int r u) = operate [.ref l, .int r u] (getItem (.ref l) (.int r u)) := by with_unfolding_all rfl) : wpAny (model prog w) A (subscriptTail value slice (.ref l) (.int r u)) Q E s := by
  have hl : s.heap.IsList l [Value.str (up 0) t0, .str (up 1) t1, .str (up 2) t2, .str (up 3) t3, .str (up 4) t4].toArray := N.isList hm
  have h5 : r = 0 ∨ r = 1 ∨ r = 2 ∨ r = 3 ∨ r = 4 := by omega
  rcases h5 with rfl | rfl | rfl | rfl | rfl <;> exact item_litK hl (by decide) (by decide) rfl (h _ _) hs
theorem cap0 : Txt.slice (up 0) none (some 1) ++ Str.ofString "ummary" = ca 0 := by decide +kernel
theorem cap1 : Txt.slice (up 1) none (some 1) ++ Str.ofString "id" = ca 1 := by decide +kernel
theorem cap2 : Txt.slice (up 2) none (some 1) ++ Str.ofString "-a" = ca 2 := by decide +kernel
theorem cap3 : Txt.slice (up 3) none (some 1) ++ Str.ofString "" = ca 3 := by decide +kernel
theorem cap4 : Txt.slice (up 4) none (some 1) ++ Str.ofString "ue" = ca 4 := by decide +kernel
theorem cap5 : Txt.slice (up 5) none (some 1) ++ Str.ofString "ord" = ca 5 := by decide +kernel
theorem cap6 : Txt.slice (up 6) none (some 1) ++ Str.ofString "_b" = ca 6 := by decide +kernel
abbrev keyScope : Scope := { kind := .function, names := [(Str.ofString "bag", .local), (Str.ofString "name", .local), (Str.ofString "told", .local), (Str.ofString "_law_draw", .globalImplicit)], isGenerator := false, isCoroutine := false }
section
variable {w : World} {p : Program} {loose : List Str} {mean : ExcName → Option Value} {mg mb : Str → Option Value} {dp un : Nat} {gd : Option (List Code)} {cn : Str} {cs : Scope} {a L : Addr} {ccd : Value} {cl : List (Str × Addr)} {outer : List Env} {A₀ : Around} {base h₀ : Heap} {m : Str → Option Value} {s : Shared} {Q E : Value → Shared → Prop} {news rest : List (Addr × Obj)}
set_option pp.deepTerms false
set_option pp.maxSteps 3000
set_option pp.proofs false
theorem cap_eval {L' aL : Addr} {n : Nm} {t' : Tok} {lc : Value} {g : Heap} {m : Str → Option Value} {p1 p2 p3 p4 p5 p6 p7 p8 pb : Pos} 
   (F : Fr g L' s.heap (fun y => if y = Str.ofString "name" then some (.str (up n) t') else m y)) (X : (hd.heap_39 w.params).In g) (N : News g L' s.heap news) (T : Top p loose mean mg mb g)
   (ret : ∀ t tk' h', Fr g L' h' (fun y => if y = Str.ofString "name" then some (.str (up n) t') else m y) → News g L' h' news → Q (.str (ca n) t) { s with heap := h', toks := tk' }) :
   wpAny (model PySem.Challenge.rw_bf0001_01.row.prog w) ((ktrTop dp un gd cn cs L a ccd cl outer).deeper (envOf (Str.ofString "_law_key") keyScope L' aL lc))
     (eval (.BinOp (.Subscript (.Name (Str.ofString "name") p1) (.Slice none (some (.Constant (.int 1) 0 p2)) none p3) p4) .Add
        (.Call (.Attribute (.Subscript (.Name (Str.ofString "name") p5) (.Slice (some (.Constant (.int 1) 0 p6)) none none p7) p8) (Str.ofString "lower") ⟨94, 43, 94, 57⟩) [] [] ⟨94, 43, 94, 59⟩) pb) (envOf (Str.ofString "_law_key") keyScope L' aL lc)) Q E s := by
  revert X; k_fill; intro X
  revert n
  apply fin7
  all_goals (intro F ret; k_steps; simp only [cap0, cap1, cap2, cap3, cap4, cap5, cap6]; exact ret _ _ _ (by assumption) (News.perm (by assumption) (by ktr_rel)))
local macro_rules | `(tactic| walk_at "eval BinOp") => `(tactic| (k_here; (with_reducible show wpAny _ _ (eval (Expr.BinOp (Expr.Subscript _ _ _) _ (Expr.Call _ _ _ _) _) _) _ _ _); k_dflt (refine' cap_eval ?kF ?kX ?kN ?kT ?_; (case kF | kX | kN | kT => k_asm); k_whole; intro t9 tk9 h' F' N')))
theorem key_spec {b : Addr} {B : Int} {tb : Tok}
   (Bl : Below A₀ base outer h₀) (F : Fr h₀ L s.heap m) (X : (hd.heap_39 w.params).In h₀) (N : News h₀ L s.heap ((b, listOf #[.int B tb] 0) :: rest)) (T : Top p loose mean mg mb h₀) (hk : cs.kind = .function)
   (hb : ∀ p ∈ rest, p.1 ≠ b) (hd : dp + 30 < recursionLimit) (hu : un + 300 < cLine)
   (ret : ∀ q v n t B' t' tk' h', KeyV v n → AllLt q ((b, listOf #[.int B tb] 0) :: rest) → Fr h₀ L h' m → News h₀ L h' ((q, tupleOf #[v, .str (up n) t] 0) :: (b, listOf #[.int B' t'] 0) :: rest) → Q (.ref q) { s with heap := h', toks := tk' }) :
   wpAny (model PySem.Challenge.rw_bf0001_01.row.prog w) (ktrTop dp un gd cn cs L a ccd cl outer) (call (.ref 194) [.ref b]) Q E s := by
  revert X; k_fill; intro X
  refine wpAny_call ?_
  k_dflt ktr_enter
  k_steps
  rename_i r _ _ _ _ _ hr0 hr1 _ N9
  refine item5 N9 (by k_mem) hr0 hr1 ?_ (by with_unfolding_all rfl)
  intro n9 t9
  k_steps
  rename_i r _ _ _ _ _ hr0 hr1 _ N9
  refine item3 N9 (by k_mem) n9 rfl rfl rfl hr0 hr1 ?_ (by with_unfolding_all rfl)
  intro j9 t9
  k_steps
  all_goals (refine' ret _ _ n9 _ _ _ _ _ ?kV ?kl ?kF (News.perm ?kN ?km); (case kN => assumption); (case km => ktr_rel); (case kF => assumption); (case kl => exact ⟨by omega, by simp_all only [and_true, true_and]⟩); (case kV => first | exact KeyV.s _ _ _ | exact KeyV.b _ _ _))
end

local macro_rules | `(tactic| walk_at "eval BinOp") => `(tactic| (k_here; (with_reducible show wpAny _ _ (eval (Expr.BinOp (Expr.Subscript _ _ _) _ (Expr.Call _ _ _ _) _) _) _ _ _); k_dflt (refine' cap_eval ?kF ?kX ?kN ?kT ?_; (case kF | kX | kN | kT => k_asm); k_whole; intro t9 tk9 h' F' N')))
theorem lt_of_all {d : Addr} {l : List (Addr × Obj)} (h : AllLt d l) : ∀ p ∈ l, p.1 < d := by
  induction l with
  | nil => intro p hp; cases hp
  | cons q r ih =>
    intro p hp
    have h1 : @LT.lt Nat _ q.1 d := h.1
    have h2 : AllLt d r := h.2
    rcases List.mem_cons.mp hp with e | hp
    · rw [e]; exact h1
    · exact ih h2 p hp
theorem upd_mem {b : Addr} {o : Obj} {news : List (Addr × Obj)} {g : Obj → List (Addr × Obj)} (U : UpdF b o news g) : ∃ rest, (∀ p ∈ rest, p.1 ≠ b) ∧ (∀ p, p ∈ (b, o) :: rest ↔ p ∈ news) ∧ ∀ o' p, p ∈ g o' ↔ p ∈ (b, o') :: rest := by
  obtain ⟨pre, post, rfl, hg, h1, h2⟩ := U.split
  refine ⟨pre ++ post, fun p hp => (List.mem_append.mp hp).elim (h1 p) (h2 p), fun p => ?_, fun o' p => ?_⟩
  · simp only [List.mem_cons, List.mem_append]
    exact ⟨fun h => h.elim (fun h => .inr (.inl h)) fun h => h.elim .inl fun h => .inr (.inr h), fun h => h.elim (fun h => .inr (.inl h)) fun h => h.elim .inl fun h => .inr (.inr h)⟩
  · rw [hg]
    simp only [List.mem_cons, List.mem_append]
    exact ⟨fun h => h.elim (fun h => .inr (.inl h)) fun h => h.elim .inl fun h => .inr (.inr h), fun h => h.elim (fun h => .inr (.inl h)) fun h => h.elim .inl fun h => .inr (.inr h)⟩
section
variable {w : World} {p : Program} {loose : List Str} {mean : ExcName → Option Value} {mg mb : Str → Option Value} {dp un : Nat} {gd : Option (List Code)} {cn : Str} {cs : Scope} {a L : Addr} {ccd : Value} {cl : List (Str × Addr)} {outer : List Env} {A₀ : Around} {base h₀ : Heap} {m : Str → Option Value} {s : Shared} {Q E : Value → Shared → Prop} {news rest : List (Addr × Obj)} {g : Obj → List (Addr × Obj)}
theorem key_use {b : Addr} {B : Int} {tb : Tok}
   (Bl : Below A₀ base outer h₀) (F : Fr h₀ L s.heap m) (X : (hd.heap_39 w.params).In h₀) (N : News h₀ L s.heap news) (T : Top p loose mean mg mb h₀) (hk : cs.kind = .function)
   (U : UpdF b (listOf #[.int B tb] 0) news g) (hd : dp + 30 < recursionLimit) (hu : un + 300 < cLine)
   (ret : ∀ q v n t B' t' tk' h', KeyV v n → (∀ p ∈ news, p.1 < q) → Fr h₀ L h' m → News h₀ L h' ((q, tupleOf #[v, .str (up n) t] 0) :: g (listOf #[.int B' t'] 0)) → Q (.ref q) { s with heap := h', toks := tk' }) :
   wpAny (model PySem.Challenge.rw_bf0001_01.row.prog w) (ktrTop dp un gd cn cs L a ccd cl outer) (call (.ref 194) [.ref b]) Q E s := by
  obtain ⟨rest, h1, h2, h3⟩ := upd_mem U
  refine key_spec Bl F X (N.perm fun p hp => (h2 p).mp hp) T hk h1 hd hu fun q v n t B' t' tk' h' hv hl F' N' => ret q v n t B' t' tk' h' hv (fun p hp => lt_of_all hl p ((h2 p).mpr hp)) F' (N'.perm fun p hp => ?_)
  rcases List.mem_cons.mp hp with rfl | hp
  · exact .head _
  · exact .tail _ ((h3 _ p).mp hp)
end
local macro_rules | `(tactic| walk_at "call ref") => `(tactic| (k_here; (with_reducible show wpAny _ _ (call (Value.ref 194) [_]) _ _ _); k_dflt (refine' key_use ?k1 ?k2 ?k3 ?k4 ?k5 ?k6 ?k7 ?kA ?kB ?_; (case k1 | k2 | k3 | k4 | k5 => k_asm); (case k6 => first | assumption | exact rfl); (case k7 => k_updF); (case kA => ktr_room); (case kB => ktr_units); k_whole; intro q' v' n' t0' B' t1' tk' h' kv' l1 F' N'; (try dsimp only at N'); (try k_lt l1))))

/-! ## pairs drawn -/
def PairIn (R : List (Addr × Obj)) (y : Value) (p : Value × Nm × Int) : Prop := ∃ q k tx tn, y = .ref q ∧ (q, tupleOf #[.ref k, .int p.2.2 tx] 0) ∈ R ∧ (k, tupleOf #[p.1, .str (up p.2.1) tn] 0) ∈ R ∧ KeyV p.1 p.2.1
theorem PairIn.mono {R R' : List (Addr × Obj)} (hs : ∀ p ∈ R, p ∈ R') : ∀ y p, PairIn R y p → PairIn R' y p := fun _ _ ⟨q, k, tx, tn, e, h1, h2, h3⟩ => ⟨q, k, tx, tn, e, hs _ h1, hs _ h2, h3⟩
theorem range4 {r : Int} (h0 : 0 ≤ r) (h4 : r < 4) : Builtin.Range.small 0 r 1 = true ∧ Builtin.Range.rangeSize 0 r 1 = ((r.toNat : Nat) : Int) ∧ r.toNat ≤ sizeLine := by
  have h : r = 0 ∨ r = 1 ∨ r = 2 ∨ r = 3 := by omega
  rcases h with rfl | rfl | rfl | rfl <;> decide +kernel
section
variable {w : World} {p : Program} {loose : List Str} {mean : ExcName → Option Value} {mg mb : Str → Option Value} {dp un : Nat} {gd : Option (List Code)} {cn : Str} {cs : Scope} {a L : Addr} {ccd : Value} {cl : List (Str × Addr)} {outer : List Env} {A₀ : Around} {base h₀ : Heap} {m : Str → Option Value} {s : Shared} {Q E : Value → Shared → Prop} {news rest : List (Addr × Obj)} {g : Obj → List (Addr × Obj)}
local macro_rules | `(tactic| walk_at "CompSrc") => `(tactic| (k_here; k_dflt (refine' LCg.CompSrc.range ?k1 ?k2 ?k3 ?k4 (range4 ?h0 ?h4).1 (range4 ?h0 ?h4).2.1 (range4 ?h0 ?h4).2.2 ?_; (case k1 => exact rfl); (case k2 | k3 => k_asm); (case k4 | h0 | h4 => assumption); k_whole)))
set_option pp.deepTerms false
set_option pp.maxSteps 3000
set_option pp.proofs false
theorem pairs_spec {b : Addr} {B : Int} {tb : Tok}
   (Bl : Below A₀ base outer h₀) (F : Fr h₀ L s.heap m) (X : (hd.heap_39 w.params).In h₀) (N : News h₀ L s.heap ((b, listOf #[.int B tb] 0) :: rest)) (T : Top p loose mean mg mb h₀) (hk : cs.kind = .function)
   (hb : ∀ p ∈ rest, p.1 ≠ b) (hd : dp + 40 < recursionLimit) (hu : un + 400 < cLine)
   (ret : ∀ D ys ps own B' t' tk' h', All2 (PairIn own) ys ps → ps.length ≤ 3 → (∀ p ∈ own, b < p.1 ∧ ∀ q ∈ rest, q.1 < p.1) → (∀ p ∈ (b, listOf #[.int B' t'] 0) :: (own ++ rest), p.1 ≠ D) → Fr h₀ L h' m → News h₀ L h' ((D, LCg.lst ys) :: (b, listOf #[.int B' t'] 0) :: (own ++ rest)) → Q (.ref D) { s with heap := h', toks := tk' }) :
   wpAny (model PySem.Challenge.rw_bf0001_01.row.prog w) (ktrTop dp un gd cn cs L a ccd cl outer) (call (.ref 199) [.ref b]) Q E s := by
  revert X; k_fill; intro X
  refine wpAny_call ?_
  k_dflt ktr_enter
  k_steps
  rename_i G L1 h2 tk1 FG F1 B1 X1 T1 l1 o1 d1 N1 r B0 ta tb2 tk0 h1 hr0 hr1 F0 N0 hh tkk u1 u2 u3 a3 a2 a1 a0 g9
  refine comp_ind (Inv := fun i ys news => ∃ B t own ps, news = (L1 + 1, o1) :: (b, listOf #[.int B t] 0) :: (own ++ rest) ∧ All2 (PairIn own) ys ps ∧ ys.length = i ∧ (∀ p ∈ own, b < p.1 ∧ ∀ q ∈ rest, q.1 < p.1)) ?turn ?fin _ 0 [] _ (Nat.zero_add _) ?h0
  case h0 => exact ⟨_, _, [], [], rfl, .nil, rfl, fun _ h => nomatch h⟩
  case turn =>
    clear a0 a1 a2 a3 N0 F0 N1 F1 F
    rintro i ys news hi ⟨B, t, own, ps, rfl, ha, hl, hf⟩ v I oI C oC D m2 h tk E' hv hC hx F2 N2 off ne
    have hR : ∀ p ∈ own ++ rest, p.1 ≠ b := fun p hp => (List.mem_append.mp hp).elim (fun hp => Nat.ne_of_gt (hf p hp).1) (hb p)
    generalize hG : own ++ rest = R at *
    simp only [LCg.Off3] at off
    obtain ⟨t9, hv9⟩ := hv
    subst hv9
    k_steps
    try k_unfold
    try dsimp only
    refine LCg.CompEnd.intro (by assumption) (by assumption) ((L1 + 1, o1) :: (b, listOf #[.int _ _] 0) :: (_, tupleOf #[.ref _, .int _ _] 0) :: (_, tupleOf #[_, .str _ _] 0) :: R) (by ktr_rel) ?off trivial ?r
    case off => exact ⟨⟨by k_ne, by k_ne, by k_ne⟩, ⟨by k_ne, by k_ne, by k_ne⟩, ⟨by k_ne, by k_ne, by k_ne⟩, ⟨by k_ne, by k_ne, by k_ne⟩, off.2.2⟩
    case r =>
      refine ⟨_, _, (_, _) :: (_, _) :: own, ps ++ [(_, _, _)], by subst hG; rfl, (ha.mono (PairIn.mono fun p hp => .tail _ (.tail _ hp))).snoc ⟨_, _, _, _, rfl, .head _, .tail _ (.head _), by assumption⟩, by simp [hl], ?_⟩
      have lr : ∀ x : Addr, AllLt x R → ∀ q ∈ rest, q.1 < x := fun x hx q hq => lt_of_all hx q (by rw [← hG]; exact List.mem_append_right _ hq)
      intro p hp
      rcases List.mem_cons.mp hp with rfl | hp
      · exact ⟨ltN (by dsimp only; omega), lr _ (by simp_all only [and_true, true_and])⟩
      · rcases List.mem_cons.mp hp with rfl | hp
        · exact ⟨ltN (by dsimp only; omega), lr _ (by simp_all only [and_true, true_and])⟩
        · exact hf p hp
  case fin =>
    rintro ys news ⟨B, t, own, ps, rfl, ha, hl, hf⟩
    k_steps
    rename_i D _ _ _ _ off9 kF kN _ _
    refine ret D ys ps own _ _ _ _ ha (by have := ha.length; omega) hf (off1_mem ⟨off9.2.1, off9.2.2⟩) kF (kN.perm (by ktr_rel))
end

local macro_rules | `(tactic| walk_at "CompSrc") => `(tactic| (k_here; k_dflt (refine' LCg.CompSrc.range ?k1 ?k2 ?k3 ?k4 (range4 ?h0 ?h4).1 (range4 ?h0 ?h4).2.1 (range4 ?h0 ?h4).2.2 ?_; (case k1 => exact rfl); (case k2 | k3 => k_asm); (case k4 | h0 | h4 => assumption); k_whole)))
/-! ## _law_pairs, with other things in the ledger -/
section
variable {w : World} {p : Program} {loose : List Str} {mean : ExcName → Option Value} {mg mb : Str → Option Value} {dp un : Nat} {gd : Option (List Code)} {cn : Str} {cs : Scope} {a L : Addr} {ccd : Value} {cl : List (Str × Addr)} {outer : List Env} {A₀ : Around} {base h₀ : Heap} {m : Str → Option Value} {s : Shared} {Q E : Value → Shared → Prop} {pre rest : List (Addr × Obj)}
theorem pairs_at {b : Addr} {B : Int} {tb : Tok}
   (Bl : Below A₀ base outer h₀) (F : Fr h₀ L s.heap m) (X : (hd.heap_39 w.params).In h₀) (N : News h₀ L s.heap ((b, listOf #[.int B tb] 0) :: (pre ++ rest))) (T : Top p loose mean mg mb h₀) (hk : cs.kind = .function)
   (hb : ∀ p ∈ pre ++ rest, p.1 ≠ b) (hd : dp + 40 < recursionLimit) (hu : un + 400 < cLine)
   (ret : ∀ D ys ps R B' t' tk' h', All2 (PairIn R) ys ps → ps.length ≤ 3 → (∀ p ∈ rest, p ∈ R) → (∀ q : Addr, (∀ p ∈ rest, p.1 ≠ q) → (q = b ∨ ∃ o, (q, o) ∈ pre) → ∀ p ∈ R, p.1 ≠ q) → (@Ne Nat b D) → (∀ p ∈ pre, p.1 ≠ D) → (∀ p ∈ R, p.1 ≠ D) → Fr h₀ L h' m → News h₀ L h' ((D, LCg.lst ys) :: (b, listOf #[.int B' t'] 0) :: (pre ++ R)) → Q (.ref D) { s with heap := h', toks := tk' }) :
   wpAny (model PySem.Challenge.rw_bf0001_01.row.prog w) (ktrTop dp un gd cn cs L a ccd cl outer) (call (.ref 199) [.ref b]) Q E s := by
  refine pairs_spec Bl F X N T hk hb hd hu fun D ys ps own B' t' tk' h' ha hl ho hn F' N' => ?_
  refine ret D ys ps (own ++ rest) B' t' tk' h' (ha.mono (PairIn.mono fun p hp => List.mem_append_left _ hp)) hl (fun p hp => List.mem_append_right _ hp) (fun q hq hpre p hp => ?_) (hn _ (.head _)) (fun p hp => hn _ (.tail _ (List.mem_append_right _ (List.mem_append_left _ hp)))) (fun p hp => ?_) F' (N'.perm fun p hp => ?_)
  · rcases List.mem_append.mp hp with hp | hp
    · rcases hpre with rfl | ⟨o, ho'⟩
      · exact Nat.ne_of_gt (ho p hp).1
      · exact Nat.ne_of_gt ((ho p hp).2 _ (List.mem_append_left _ ho'))
    · exact hq p hp
  · rcases List.mem_append.mp hp with hp | hp
    · exact hn _ (.tail _ (List.mem_append_left _ hp))
    · exact hn _ (.tail _ (List.mem_append_right _ (List.mem_append_right _ hp)))
  · simp only [List.mem_cons, List.mem_append] at hp ⊢
    rcases hp with h | h | h | h | h
    · exact .inl h
    · exact .inr (.inl h)
    · exact .inr (.inr (.inr (.inl h)))
    · exact .inr (.inr (.inl h))
    · exact .inr (.inr (.inr (.inr h)))
end

/-! ## a method of super(), K's rules -/
structure SupOf (name : Str) (id T : String) : Prop where
  nn : (name == ("__class__" : Str)) = false
  hT : isB T = true
  pl : plainId id = true
  go : ∃ T1 gid, typeOf (.builtin id) = pure (.type T1) ∧ typeLookup (.type T1) "__get__" = pure (some (.builtin gid)) ∧ ∀ {prog : Program} {w : World} {A : Around} {E : Value → Shared → Prop} {s : Shared} {x C : Addr} {Q : Value → Shared → Prop}, Looks (model prog w) s.heap (isInstance (.ref x) (.type "dict")) true → Q (.ref s.heap.objs.size) { s with heap := s.heap.push (boundObj T (.builtin id) x) } → wpAny (model prog w) A (call (.builtin gid) [.builtin id, .ref x, .ref C]) Q E s
theorem sup_setitem : SupOf (Str.ofString "__setitem__") "dict.__setitem__" "method-wrapper" := ⟨by decide, by decide, by decide +kernel, _, _, ty_setitem, slot_wget.lookup, fun hi h => call_wget ty_setitem gw_setitem hi h⟩
theorem sup_delitem : SupOf (Str.ofString "__delitem__") "dict.__delitem__" "method-wrapper" := ⟨by decide, by decide, by decide +kernel, _, _, ty_delitem, slot_wget.lookup, fun hi h => call_wget ty_delitem gw_delitem hi h⟩
theorem sup_init : SupOf (Str.ofString "__init__") "dict.__init__" "method-wrapper" := ⟨by decide, by decide, by decide +kernel, _, _, ty_init, slot_wget.lookup, fun hi h => call_wget ty_init gw_init hi h⟩
theorem sup_getitem : SupOf (Str.ofString "__getitem__") "dict.__getitem__" "builtin_function_or_method" := ⟨by decide, by decide, by decide +kernel, _, _, ty_getitem, slot_mget.lookup, fun hi h => call_mget ty_getitem gm_getitem hi h⟩
theorem sup_contains : SupOf (Str.ofString "__contains__") "dict.__contains__" "builtin_function_or_method" := ⟨by decide, by decide, by decide +kernel, _, _, ty_contains, slot_mget.lookup, fun hi h => call_mget ty_contains gm_contains hi h⟩
theorem sup_pop : SupOf (Str.ofString "pop") "dict.pop" "builtin_function_or_method" := ⟨by decide, by decide, by decide +kernel, _, _, ty_pop, slot_mget.lookup, fun hi h => call_mget ty_pop gm_pop hi h⟩
theorem sup_popitem : SupOf (Str.ofString "popitem") "dict.popitem" "builtin_function_or_method" := ⟨by decide, by decide, by decide +kernel, _, _, ty_popitem, slot_mget.lookup, fun hi h => call_mget ty_popitem gm_popitem hi h⟩
section
variable {prog : Program} {w : World} {A : Around} {E : Value → Shared → Prop} {s : Shared} {K : Frag} {h₀ : Heap} {L so D x C : Addr} {m : Str → Option Value} {news : List (Addr × Obj)} {g : Obj → List (Addr × Obj)} {ox : Obj} {odx : Option Obj}
theorem sup_at {id T : String} {name : Str} {pl : Sem Bool} {Q : Value × List Value → Shared → Prop} (S : SupOf name id T) (F : Fr h₀ L s.heap m) (X₀ : K.In h₀) (N : News h₀ L s.heap news) (hso : (so, ks_superObj D x C) ∈ news) (I : InstAt s.heap x ox C odx) (ho : nsIn K cStatics "thirdparty.any" = some none)
    (hm : ks_superIn K C D name = some (some (.builtin id))) (hsub : subIn K (.ref C) (.type "dict") = some true)
    (h : ∀ q h', Fr h₀ L h' m → News h₀ L h' ((q, boundObj T (.builtin id) x) :: news) → (∀ p ∈ news, p.1 < q) → Q (.ref q, []) { s with heap := h', toks := s.toks + 1 }) : wpAny (model prog w) A (getMethod (.ref so) name pl) Q E s := by
  have X : K.In s.heap := X₀.keeps F.keep
  obtain ⟨hh, gg, d, t, os⟩ := s
  cases hc : clsIn K C with
  | none => unfold ks_superIn at hm; rw [hc] at hm; cases hm
  | some cd =>
    unfold ks_superIn at hm
    rw [hc] at hm
    obtain ⟨T1, gid, ht, hl, hg⟩ := S.go
    refine sb_method (T := T) (N _ hso).1 (looks_opaque X ho) (l₀ := cd.mro) ?_ rfl X hm ht hl (ks_ne X I hc) S.nn ?_ ?_
    · exact fun A Q E s k q => wpAny_bind ((looks_clsIn X hc) A _ E s k (wpAny_pure q))
    · exact fun A E Q q => hg (I.type.andThen (looks_subIn X hsub)) q
    · obtain ⟨F', N', l'⟩ := ks_newsPush (s := ⟨hh, gg, d, t, os⟩) (o := boundObj T (.builtin id) x) F N rfl (Heap.get?_push_at rfl rfl) (fun b o e => Heap.get?_push_of_some _ e)
      exact h _ _ F' N' l'
theorem upd_back {d : Addr} {o o' : Obj} {h' : Heap} (F : Fr h₀ L s.heap m) (N : News h₀ L s.heap news) (U : UpdF d o news g) (hs : Heap.SameBut d s.heap h') (ho : h'.get? d = some o') : Fr h₀ L h' m ∧ News h₀ L h' (g o') := by
  obtain ⟨pre, post, rfl, hg, a, b⟩ := U.split
  have hm := N (d, o) (List.mem_append_right _ (.head _))
  exact ⟨F.change hs hm.2.1 hm.2.2, hg o' ▸ N.setIn a b hs ho⟩
theorem upd_in {d : Addr} {o : Obj} (U : UpdF d o news g) : (d, o) ∈ news := by
  obtain ⟨pre, post, rfl, hg, a, b⟩ := U.split
  exact List.mem_append_right _ (.head _)
theorem upd_at {d : Addr} {o : Obj} (N : News h₀ L s.heap news) (U : UpdF d o news g) : s.heap.get? d = some o := by
  obtain ⟨pre, post, rfl, hg, a, b⟩ := U.split
  exact (N (d, o) (List.mem_append_right _ (.head _))).1
end
abbrev cdObj (dx : Addr) (es : List DictEntry) (n : Nat) : Obj := { cls := .ref 169, dict := some dx, data := .dict es.toArray n }
abbrev plObj (es : List DictEntry) (n : Nat) : Obj := { cls := .type "dict", data := .dict es.toArray n }
theorem cd_inst {h₀ h : Heap} {L x dx : Addr} {es : List DictEntry} {n : Nat} {od : Obj} {news : List (Addr × Obj)} (N : News h₀ L h news) (h1 : (x, cdObj dx es n) ∈ news) (h2 : (dx, od) ∈ news) : InstAt h x (cdObj dx es n) 169 (some od) :=
  ⟨(N _ h1).1, rfl, rfl, (N _ h2).1⟩
section
variable {w : World}
theorem kq_ord : subIn (hd.heap_39 w.params) (.ref 169) (.type "collections.OrderedDict") = some false := by kernel_rfl
theorem kq_mod : subIn (hd.heap_39 w.params) (.ref 169) (.type "module") = some false := by kernel_rfl
theorem kq_dict : subIn (hd.heap_39 w.params) (.ref 169) (.type "dict") = some true := by kernel_rfl
theorem kq_type : typeIn (hd.heap_39 w.params) (.ref 169) = some (.type "type") := by kernel_rfl
theorem kq_cls0 : (clsIn (hd.heap_39 w.params) 169).map (·.qualname) = some (Str.ofString "CaselessDict") := by kernel_rfl
theorem kq_cls : ∃ cd, clsIn (hd.heap_39 w.params) 169 = some cd ∧ cd.qualname = Str.ofString "CaselessDict" := by
  have h := kq_cls0 (w := w)
  cases e : clsIn (hd.heap_39 w.params) 169 with
  | none => rw [e] at h; cases h
  | some cd => rw [e] at h; exact ⟨cd, rfl, Option.some.inj h⟩
variable {A : Around} {E : Value → Shared → Prop} {s : Shared} {h₀ : Heap} {L u x dx : Addr} {m : Str → Option Value} {news : List (Addr × Obj)} {g : Obj → List (Addr × Obj)} {es : List DictEntry} {n : Nat} {c : C} {k : Nm} {t : Tok} {Q : Value → Shared → Prop}
theorem cb_cd {id : String} {args : List Value} {od : Obj} (X : (hd.heap_39 w.params).In h₀) (F : Fr h₀ L s.heap m) (N : News h₀ L s.heap news) (h1 : (x, cdObj dx es n) ∈ news) (h2 : (dx, od) ∈ news) (hk : builtinKind id = some .method) (hv : Manifest.varargsMethods.contains id = false) (ha : bArgs id ⟨.ref x :: args, []⟩) :
    ∀ (A : Around) (Q : Unit → Shared → Prop) (E : Value → Shared → Prop), Q () s → wpAny (model PySem.Challenge.rw_bf0001_01.row.prog w) A (checkBoundCall id ⟨.ref x :: args, []⟩) Q E s := by
  obtain ⟨cd, hc, hq⟩ := kq_cls (w := w)
  exact fun A Q E q => cb_method (X.keeps F.keep) (cd_inst N h1 h2) hc hq kq_type kq_mod hk hv ha q
theorem no_cd {od : Obj} (X : (hd.heap_39 w.params).In h₀) (F : Fr h₀ L s.heap m) (N : News h₀ L s.heap news) (h1 : (x, cdObj dx es n) ∈ news) (h2 : (dx, od) ∈ news) : NoOrd (model PySem.Challenge.rw_bf0001_01.row.prog w) s.heap x :=
  noOrd_inst (X.keeps F.keep) (cd_inst N h1 h2) kq_ord
theorem sc_setitem {y : Int} {ty : Tok} {od : Obj} (F : Fr h₀ L s.heap m) (N : News h₀ L s.heap news) (X : (hd.heap_39 w.params).In h₀) (hb : (u, boundObj "method-wrapper" (.builtin "dict.__setitem__") x) ∈ news) (h2 : (dx, od) ∈ news) (U : UpdF x (cdObj dx es n) news g) (hc : KV w up es c) (nk : NK c)
    (ret : ∀ es' n' h' tk', KV w up es' (put c k y) → Fr h₀ L h' m → News h₀ L h' (g (cdObj dx es' n')) → Q .none { s with heap := h', toks := tk' }) : wpAny (model PySem.Challenge.rw_bf0001_01.row.prog w) A (call (.ref u) [.str (up k) t, .int y ty]) Q E s :=
  have h1 := upd_in U
  bound_call (N _ hb).1 sup_setitem.hT sup_setitem.pl PySem.F.entry_dict_setitem (fun A Q E q => by exact wpAny_of_eq cb_setitem q)
    (b_setitem (no_cd X F N h1 h2) up_inj (upd_at N U) rfl hc nk.size fun es' n' h' kv ho hs => ⟨_, rfl, ret _ _ _ _ kv (upd_back F N U hs ho).1 (upd_back F N U hs ho).2⟩)
end
local macro_rules | `(tactic| k_inst) => `(tactic| (refine' cd_inst ?N ?h1 ?h2; (case N => k_asm); (case h1 | h2 => k_mem)))
local macro_rules | `(tactic| walk_at "getMethod ref") => `(tactic| (k_here; ks_any; k_dflt (refine' sup_at ?k0 ?k1 ?k2 ?k3 ?k4 ?k5 ?k6 ?k7 ?k8 ?_; (case k0 => with_reducible first | exact sup_setitem | exact sup_delitem | exact sup_init | exact sup_getitem | exact sup_contains | exact sup_pop | exact sup_popitem); (case k1 | k2 | k3 => k_asm); (case k4 => k_mem); (case k5 => k_inst); (case k6 => k_is); (case k7 => ks_is); (case k8 => k_is); intro q' h' F' N' l1; (try k_lt l1))))
local macro_rules | `(tactic| walk_at "callWith ref") => `(tactic| (k_here; k_dflt (first | (refine' callWith_b1 ?kN ?kM ?kT ?_; (case kN => k_asm); (case kM => k_mem); (case kT => decide)) | (refine' callWith_b0 ?kN ?kM ?kT ?_; (case kN => k_asm); (case kM => k_mem); (case kT => decide)))))
local macro_rules | `(tactic| walk_at "And") => `(tactic| (k_here; (with_reducible show BoundAt _ _ _ _ _ ∧ _); k_dflt (refine' ⟨bound_at ?kN ?kM, ?_⟩; (case kN => k_asm); (case kM => k_mem))))
local macro_rules | `(tactic| walk_at "call ref") => `(tactic| (k_here; k_dflt (refine' sc_setitem ?k1 ?k2 ?k3 ?k4 ?k5 ?k6 ?k7 ?k8 ?_; (case k1 | k2 | k3 => k_asm); (case k4 => k_mem); (case k6 => k_updF); (case k5 => k_mem); (case k7 | k8 => assumption); intro es' n' h' tk' kv' F' N'; (try dsimp only at N'))))

/-! ## an attribute of a CaselessDict that is a def of its class; a dict's built-in called upon it -/
section
variable {prog : Program} {w : World} {A : Around} {E : Value → Shared → Prop} {s : Shared} {K : Frag} {x C : Addr} {ox : Obj} {od : Option Obj} {name : Str} {expr : Bool} {Q : Value → Shared → Prop}
theorem check_sub {M : Model} {id n : String} {v : Value} {rest : List Value} {kw : List (Str × Value)} {Q : Unit → Shared → Prop} (hsplit : splitId id = some ("dict", n)) (hk : builtinKind id = some .slot ∨ builtinKind id = some .method) (ha : argsOk id ⟨v :: rest, kw⟩) (L : Looks M s.heap (isInstance v (.type "dict")) true) (q : Q () s) : wpAny M A (checkBuiltinCall id ⟨v :: rest, kw⟩) Q E s := by
  rcases hk with hk | hk <;>
  · simp only [checkBuiltinCall, hk, hsplit]
    refine wpAny_bind (L.here ?_)
    simp only [Bool.not_true, Bool.false_eq_true, if_false]
    cases hsig : Manifest.signature? id with
    | none => exact wpAny_pure q
    | some sig =>
      simp only [argsOk, hsig] at ha
      have h2 : Bind.checkArgs id sig ⟨v :: rest, kw⟩ = pure () := ha
      show wpAny M A (Bind.checkArgs id sig ⟨v :: rest, kw⟩) Q E s
      rw [h2]; exact wpAny_pure q
theorem call_sub {id n : String} {v : Value} {rest : List Value} {kw : List (Str × Value)} {B : Builtin} (hp : plainId id = true) (hb : entryFor table id = some B) (hsplit : splitId id = some ("dict", n)) (hk : builtinKind id = some .slot ∨ builtinKind id = some .method) (ha : argsOk id ⟨v :: rest, kw⟩) (L : Looks (model prog w) s.heap (isInstance v (.type "dict")) true)
    (h : wpAny (model prog w) A.in1 (B ⟨v :: rest, kw⟩) (fun fin s' => ∃ r, fin = .done (.ret r) ∧ Q r s') E s) : wpAny (model prog w) A (call (.builtin id) (v :: rest) kw) Q E s := by
  refine wpAny_call (codeAny_call_builtin hp hb (check_sub hsplit hk ha L ?_))
  refine wpAny_mono h (fun fin s' z => ?_) fun _ _ z => z
  obtain ⟨r, rfl, z⟩ := z
  exact z
theorem cga_open (X : K.In s.heap) (I : InstAt s.heap x ox C od) (hga : findIn K (.ref C) "__getattribute__" = some (some (.builtin "dict.__getattribute__"))) (hk : findIn K (.ref C) "__getattr__" = some none) (hs : subIn K (.ref C) (.type "dict") = some true)
    (h : wpAny (model prog w) A.in1 (Builtin.«object.__getattribute__» ⟨[.ref x, .str name s.toks], []⟩) (fun fin s' => ∃ v, fin = .done (.ret v) ∧ wpAny (model prog w) A (handedOut v) Q E s') (fun _ _ => False) { s with toks := s.toks + 1 }) :
    wpAny (model prog w) A (getAttr (.ref x) name expr) Q E s := by
  obtain ⟨hh, g, d, t, os⟩ := s
  have L0 := I.type (M := model prog w)
  have L1 := looks_findIn (M := model prog w) X hga
  have L2 := looks_findIn (M := model prog w) X hk
  unfold getAttr getAttrBy
  refine wpAny_bind (wpAny_mkText (wpAny_holding (wpAny_bind (L0.at (wpAny_bind (L1.at ?_))))))
  show wpAny _ _ (getAttrByItsOwn _ _ _ _ _ _) _ _ _
  unfold getAttrByItsOwn
  refine wpAny_bind (show wpAny _ _ (typeLookup (.ref C) "__getattr__") _ _ _ from L2.at ?_)
  refine wpAny_bind (wpAny_attempt (wpAny_holding ?_))
  unfold callGetattribute
  rw [show (expr && onTheHeap (Value.builtin "dict.__getattribute__")) = false from by cases expr <;> rfl, if_neg Bool.false_ne_true]
  unfold boundAndCalled
  rw [PySem.F.slot_dict_getattribute.bind (.ref x)]
  refine wpAny_bind (wpAny_pure ?_)
  refine call_sub PySem.F.slot_dict_getattribute.plain F.entry_dict_ga (n := "__getattribute__") (by decide +kernel) (.inl (by kernel_rfl)) (F.args_dict_getattribute_2 _ _) (L0.andThen (looks_subIn X hs)) ?_
  refine wpAny_mono h (fun fin s' z => ?_) fun _ _ z => z.elim
  obtain ⟨v, rfl, z⟩ := z
  exact ⟨v, rfl, z⟩
theorem cga_fn {f : Addr} (X : K.In s.heap) (I : InstAt s.heap x ox C od) (hga : findIn K (.ref C) "__getattribute__" = some (some (.builtin "dict.__getattribute__"))) (hk : findIn K (.ref C) "__getattr__" = some none) (hs : subIn K (.ref C) (.type "dict") = some true)
    (hf : findObj K C od name = some (.bind (.builtin "function.__get__") (.ref f))) (hfn : typeIn K (.ref f) = some (.type "function"))
    (h : Q (.ref s.heap.objs.size) { s with heap := s.heap.push (methodObj (.ref f) (.ref x)), toks := s.toks + 1 }) :
    wpAny (model prog w) A (getAttr (.ref x) name expr) Q E s := by
  refine cga_open X I hga hk hs ?_
  obtain ⟨hh, gg, d, t, os⟩ := s
  have L0 := I.type (M := model prog w)
  have L1 := looks_find (M := model prog w) X I hf
  refine wpAny_bind (wpAny_pure (wpAny_bind (wpAny_pure (wpAny_bind (L0.at (wpAny_bind (L1.at ?_)))))))
  show wpAny _ _ (holding [.ref f] (call (.builtin "function.__get__") [.ref f, .ref x, .ref C]) >>= ret) _ _ _
  refine wpAny_bind (wpAny_holding (wpAny_call (fn_get X hfn (wpAny_pure ⟨_, rfl, ?_⟩))))
  exact handed_on rfl h
end
section
variable {prog : Program} {w : World} {A : Around} {E : Value → Shared → Prop} {s : Shared} {h₀ : Heap} {L x dx f : Addr} {m : Str → Option Value} {news : List (Addr × Obj)} {es : List DictEntry} {n : Nat} {name : Str} {expr : Bool} {Q : Value → Shared → Prop}
theorem cd_bound (F : Fr h₀ L s.heap m) (X₀ : (hd.heap_39 w.params).In h₀) (N : News h₀ L s.heap news) (h1 : (x, cdObj dx es n) ∈ news) (h2 : (dx, plObj [] 0) ∈ news) (hfo : findObj (hd.heap_39 w.params) 169 (some (plObj [] 0)) name = some (.bind (.builtin "function.__get__") (.ref f))) (hfn : typeIn (hd.heap_39 w.params) (.ref f) = some (.type "function"))
    (h : ∀ q h', Fr h₀ L h' m → News h₀ L h' ((q, methodObj (.ref f) (.ref x)) :: news) → (∀ p ∈ news, p.1 < q) → Q (.ref q) { s with heap := h', toks := s.toks + 1 }) : wpAny (model prog w) A (getAttr (.ref x) name expr) Q E s :=
  cga_fn (X₀.keeps F.keep) (cd_inst N h1 h2) (by kernel_rfl) (by kernel_rfl) kq_dict hfo hfn (h _ _ (F.push _) (N.push F _) fun p hp => Heap.lt_size (N p hp).1)
theorem fo_update : findObj (hd.heap_39 w.params) 169 (some (plObj [] 0)) (Str.ofString "update") = some (.bind (.builtin "function.__get__") (.ref 138)) := by kernel_rfl
end

/-! ## update's inner loop over a list of pairs -/
def pairsC (ps : List (Value × Nm × Int)) : C := ps.map (·.2)
def ItemIn (x : Addr) (R : List (Addr × Obj)) (y : Value) (p : Value × Nm × Int) : Prop := ∃ q t, y = .ref q ∧ (q, tupleOf #[p.1, .int p.2.2 t] 0) ∈ R ∧ q ≠ x ∧ KeyV p.1 p.2.1
abbrev Names2 (u v : Option Value) (m : Str → Option Value) : Str → Option Value := fun z => if z = Str.ofString "value" then u else if z = Str.ofString "key" then v else m z
def PostU (w : World) (h₀ : Heap) (L : Addr) (m₀ : Str → Option Value) (g : Obj → List (Addr × Obj)) (dx : Addr) (fr : List (Addr × Obj)) (c : C) (s₁ : Shared) (f : Flow) (s₂ : Shared) : Prop :=
  f = .next ∧ ∃ h' tk m' es' n', s₂ = { s₁ with heap := h', toks := tk } ∧ Fr h₀ L h' m' ∧ Two (Str.ofString "value") (Str.ofString "key") m₀ m' ∧ News h₀ L h' (fr ++ g (cdObj dx es' n')) ∧ KV w up es' c
theorem PostU.intro {w : World} {h₀ : Heap} {L : Addr} {m₀ m' : Str → Option Value} {g : Obj → List (Addr × Obj)} {dx : Addr} {fr led : List (Addr × Obj)} {c : C} {s₁ : Shared} {h' : Heap} {tk : Nat} {es' : List DictEntry} {n' : Nat} (F : Fr h₀ L h' m') (N : News h₀ L h' led) (kv : KV w up es' c) (hs : ∀ p ∈ fr ++ g (cdObj dx es' n'), p ∈ led)
    (h2 : Two (Str.ofString "value") (Str.ofString "key") m₀ m') : PostU w h₀ L m₀ g dx fr c s₁ .next { s₁ with heap := h', toks := tk } := ⟨rfl, h', tk, m', es', n', rfl, F, h2, fun p hp => N p (hs p hp), kv⟩
section
variable {prog : Program} {w : World} {A : Around} {E : Value → Shared → Prop} {s : Shared} {env : Env} {h₀ : Heap} {target : Expr} {body : List Stmt} {Q : Flow → Shared → Prop}
theorem upd_addr {x : Addr} {o : Obj} {news : List (Addr × Obj)} {g : Obj → List (Addr × Obj)} (U : UpdF x o news g) (o' : Obj) : (g o').map (·.1) = news.map (·.1) ∧ ∀ p ∈ news, p.1 ≠ x → p ∈ g o' := by
  obtain ⟨pre, post, rfl, hg, a, b⟩ := U.split
  rw [hg]
  refine ⟨by simp, fun p hp h => ?_⟩
  rcases List.mem_append.mp hp with h1 | h1
  · exact List.mem_append_left _ h1
  · rcases List.mem_cons.mp h1 with rfl | h1
    · exact absurd rfl h
    · exact List.mem_append_right _ (.tail _ h1)
theorem loop_upd {x dx D : Addr} {es : List DictEntry} {n : Nat} {c : C} {ys : List Value} {ps : List (Value × Nm × Int)} {m₀ : Str → Option Value} {news : List (Addr × Obj)} {g : Obj → List (Addr × Obj)}
    (hh : A.handled = none) (F : Fr h₀ env.locals s.heap m₀) (N : News h₀ env.locals s.heap news) (U : UpdF x (cdObj dx es n) news g) (hl : (D, LCg.lst ys) ∈ news) (hDx : D ≠ x) (ha : All2 (ItemIn x news) ys ps) (hc : KV w up es c) (nk : NK c)
    (turn : ∀ (c' : C) es' n' It (s₁ : Shared) oI q v k y t u1 u2, KV w up es' c' → NK c' → KeyV v k → @Ne Nat q x → @Ne Nat It x → Fr h₀ env.locals s₁.heap (Names2 u1 u2 m₀) → News h₀ env.locals s₁.heap ((It, oI) :: (q, tupleOf #[v, .int y t] 0) :: g (cdObj dx es' n')) →
      wpAny (model prog w) A (assign target env (.ref q)) (fun _ s₃ => wpAny (model prog w) A (execs body env) (PostU w h₀ env.locals m₀ g dx [(It, oI)] (put c' k y) s₁) E s₃) E s₁)
    (done : ∀ es' n' u1 u2 h tk, KV w up es' (puts c (pairsC ps)) → Fr h₀ env.locals h (Names2 u1 u2 m₀) → News h₀ env.locals h (g (cdObj dx es' n')) → Q .next { s with heap := h, toks := tk }) :
    wpAny (model prog w) A (pyIter (.ref D)) (fun it s₂ => LoopAtT prog w A h₀ env target body Q E it s₂) E s := by
  refine loop_list (o := LCg.lst ys) rfl (fun i m' l => Two (Str.ofString "value") (Str.ofString "key") m₀ m' ∧ ∃ es' n', l = g (cdObj dx es' n') ∧ KV w up es' (puts c (pairsC (ps.take i)))) hh F N rfl hl ⟨Two.refl, es, n, ?_, hc⟩ ?_ ?_ ?_
  · obtain ⟨pre, post, e, hg, _, _⟩ := U.split
    rw [hg, e]
  · rintro i m k ⟨_, es', n', rfl, _⟩
    exact (upd_addr U _).2 _ hl hDx
  · rintro i v m₁ news₁ It s₁ oI hv ⟨h2, es', n', rfl, kv⟩ off lt F2 N2
    obtain ⟨⟨pv, pk, px⟩, hp, q, t, rfl, hq, hqx, hKV⟩ := All2.get ha i v hv
    have ht : puts c (pairsC (ps.take (i + 1))) = put (puts c (pairsC (ps.take i))) pk px := by
      rw [List.take_add_one, hp, pairsC, List.map_append, ← puts_snoc]; rfl
    rw [h2.eq] at F2
    rw [ht]
    refine wpAny_mono (turn (puts c (pairsC (ps.take i))) es' n' It s₁ oI q pv pk px t _ _ kv (nk.puts _) hKV hqx (Nat.ne_of_gt (lt _ (upd_in U))) F2 (fun p hp => ?_)) (fun _ s₃ h₃ => wpAny_mono h₃ (fun f s₂ r => ?_) fun _ _ e => e) fun _ _ e => e
    · rcases List.mem_cons.mp hp with rfl | hp
      · exact N2 _ (.head _)
      · rcases List.mem_cons.mp hp with rfl | hp
        · exact N2 _ (.tail _ ((upd_addr U _).2 _ hq hqx))
        · exact N2 _ (.tail _ hp)
    · obtain ⟨rfl, h', tk, m', es2, n2, rfl, F', h2', N', kv'⟩ := r
      exact ⟨rfl, h', tk, m', g (cdObj dx es2 n2), rfl, F', N', by rw [(upd_addr U _).1, (upd_addr U _).1], h2', es2, n2, rfl, kv'⟩
  · rintro m₁ news₁ h tk ⟨h2, es', n', rfl, kv⟩ F3 N3
    rw [ha.length, List.take_length] at kv
    rw [h2.eq] at F3
    exact done es' n' _ _ h tk kv F3 N3
end

/-! ## update's outer loop over its mappings -/
inductive MapIn (w : World) (x : Addr) (R : List (Addr × Obj)) : Value → C → Prop
  | list {D ys ps} : (D, LCg.lst ys) ∈ R → D ≠ x → All2 (ItemIn x R) ys ps → MapIn w x R (.ref D) (pairsC ps)
  | dict {d es n c} (j : Fin 3) : (d, plObj es n) ∈ R → d ≠ x → (d == sysModules) = false → KV w (fun k => txt k j) es c → NK c → MapIn w x R (.ref d) c
theorem MapIn.keep {w : World} {x : Addr} {R R' : List (Addr × Obj)} {v : Value} {c : C} (h : MapIn w x R v c) (k : ∀ p ∈ R, p.1 ≠ x → p ∈ R') : MapIn w x R' v c := by
  cases h with
  | list h1 h2 h3 => exact .list (k _ h1 h2) h2 (h3.mono fun y p ⟨q, t, e, a, b, d⟩ => ⟨q, t, e, k _ a b, b, d⟩)
  | dict j h1 h2 h3 h4 h5 => exact .dict j (k _ h1 h2) h2 h3 h4 h5
abbrev Names3 (u v z : Option Value) (m : Str → Option Value) : Str → Option Value := fun y => if y = Str.ofString "value" then u else if y = Str.ofString "key" then v else if y = Str.ofString "mapping" then z else m y
def Three (m₀ m : Str → Option Value) : Prop := ∀ z, z ≠ Str.ofString "value" → z ≠ Str.ofString "key" → z ≠ Str.ofString "mapping" → m z = m₀ z
theorem Three.eq {m₀ m : Str → Option Value} (h : Three m₀ m) : m = Names3 (m (Str.ofString "value")) (m (Str.ofString "key")) (m (Str.ofString "mapping")) m₀ := by
  funext z
  unfold Names3
  split
  · next e => rw [e]
  · split
    · next e => rw [e]
    · split
      · next e => rw [e]
      · next a b c => exact h z a b c
def PostM (w : World) (h₀ : Heap) (L : Addr) (m₀ : Str → Option Value) (g : Obj → List (Addr × Obj)) (dx : Addr) (fr : List (Addr × Obj)) (c : C) (s₁ : Shared) (f : Flow) (s₂ : Shared) : Prop :=
  f = .next ∧ ∃ h' tk m' es' n', s₂ = { s₁ with heap := h', toks := tk } ∧ Fr h₀ L h' m' ∧ Three m₀ m' ∧ News h₀ L h' (fr ++ g (cdObj dx es' n')) ∧ KV w up es' c
theorem PostM.intro {w : World} {h₀ : Heap} {L : Addr} {m₀ m' : Str → Option Value} {g : Obj → List (Addr × Obj)} {dx : Addr} {fr led : List (Addr × Obj)} {c : C} {s₁ : Shared} {h' : Heap} {tk : Nat} {es' : List DictEntry} {n' : Nat} (F : Fr h₀ L h' m') (N : News h₀ L h' led) (kv : KV w up es' c) (hs : ∀ p ∈ fr ++ g (cdObj dx es' n'), p ∈ led)
    (h2 : Three m₀ m') : PostM w h₀ L m₀ g dx fr c s₁ .next { s₁ with heap := h', toks := tk } := ⟨rfl, h', tk, m', es', n', rfl, F, h2, fun p hp => N p (hs p hp), kv⟩
theorem news_dup {h₀ h : Heap} {L : Addr} {news : List (Addr × Obj)} {p : Addr × Obj} (N : News h₀ L h news) (hp : p ∈ news) : News h₀ L h (p :: news) := fun q hq => by
  rcases List.mem_cons.mp hq with rfl | hq
  · exact N _ hp
  · exact N _ hq
section
variable {prog : Program} {w : World} {A : Around} {E : Value → Shared → Prop} {s : Shared} {env : Env} {h₀ : Heap} {target : Expr} {body : List Stmt} {Q : Flow → Shared → Prop}
theorem loop_maps {x dx l : Addr} {o : Obj} {kn : Nat} {es : List DictEntry} {n : Nat} {c : C} {vs : List Value} {ms : List C} {m₀ : Str → Option Value} {news : List (Addr × Obj)} {g : Obj → List (Addr × Obj)}
    (hoc : o.cls = .type "list") (hod : o.data = .seq vs.toArray kn) (hh : A.handled = none) (F : Fr h₀ env.locals s.heap m₀) (N : News h₀ env.locals s.heap news) (U : UpdF x (cdObj dx es n) news g) (hl : (l, o) ∈ news) (hlx : l ≠ x) (ha : All2 (MapIn w x news) vs ms) (hc : KV w up es c) (nk : NK c)
    (turn : ∀ (c' cm : C) es' n' It (s₁ : Shared) oI v u1 u2 u3, KV w up es' c' → NK c' → MapIn w x (g (cdObj dx es' n')) v cm → @Ne Nat It x → Fr h₀ env.locals s₁.heap (Names3 u1 u2 u3 m₀) → News h₀ env.locals s₁.heap ((It, oI) :: g (cdObj dx es' n')) →
      wpAny (model prog w) A (assign target env v) (fun _ s₃ => wpAny (model prog w) A (execs body env) (PostM w h₀ env.locals m₀ g dx [(It, oI)] (puts c' cm) s₁) E s₃) E s₁)
    (done : ∀ es' n' u1 u2 u3 h tk, KV w up es' (puts c ms.flatten) → Fr h₀ env.locals h (Names3 u1 u2 u3 m₀) → News h₀ env.locals h (g (cdObj dx es' n')) → Q .next { s with heap := h, toks := tk }) :
    wpAny (model prog w) A (pyIter (.ref l)) (fun it s₂ => LoopAtT prog w A h₀ env target body Q E it s₂) E s := by
  refine loop_list hoc (fun i m' k => Three m₀ m' ∧ ∃ es' n', k = g (cdObj dx es' n') ∧ KV w up es' (puts c (ms.take i).flatten)) hh F N hod hl ⟨fun _ _ _ _ => rfl, es, n, ?_, hc⟩ ?_ ?_ ?_
  · obtain ⟨pre, post, e, hg, _, _⟩ := U.split
    rw [hg, e]
  · rintro i m k ⟨_, es', n', rfl, _⟩
    exact (upd_addr U _).2 _ hl hlx
  · rintro i v m₁ news₁ It s₁ oI hv ⟨h2, es', n', rfl, kv⟩ off lt F2 N2
    obtain ⟨cm, hm, hM⟩ := All2.get ha i v hv
    have ht : puts c (ms.take (i + 1)).flatten = puts (puts c (ms.take i).flatten) cm := by
      rw [List.take_add_one, hm, List.flatten_append, puts_append]; simp
    rw [h2.eq] at F2
    rw [ht]
    refine wpAny_mono (turn (puts c (ms.take i).flatten) cm es' n' It s₁ oI v _ _ _ kv (nk.puts _) (hM.keep fun p hp hx => (upd_addr U _).2 _ hp hx) (Nat.ne_of_gt (lt _ (upd_in U))) F2 N2) (fun _ s₃ h₃ => wpAny_mono h₃ (fun f s₂ r => ?_) fun _ _ e => e) fun _ _ e => e
    obtain ⟨rfl, h', tk, m', es2, n2, rfl, F', h2', N', kv'⟩ := r
    exact ⟨rfl, h', tk, m', g (cdObj dx es2 n2), rfl, F', N', by rw [(upd_addr U _).1, (upd_addr U _).1], h2', es2, n2, rfl, kv'⟩
  · rintro m₁ news₁ h tk ⟨h2, es', n', rfl, kv⟩ F3 N3
    rw [ha.length, List.take_length] at kv
    rw [h2.eq] at F3
    exact done es' n' _ _ _ h tk kv F3 N3
end

/-! ## a call with *args and **kwargs, of at most one keyword -/
section
variable {prog : Program} {w : World} {A : Around} {E : Value → Shared → Prop} {s : Shared}
def OneKw (w : World) (es : List DictEntry) : Prop := es = [] ∨ ∃ z t v, es = [⟨hashStr w z, .str z t, v⟩]
theorem merge_one {D S : Addr} {es : List DictEntry} {n : Nat} {Q : Unit → Shared → Prop} (hS : S ≠ D) (ho : s.heap.get? D = some (plObj es n)) (lo : (D == sysModules) = false) (hk : OneKw w es) (h0 : s.heap.get? S = some { cls := .type "dict", data := .dict #[] })
    (h : ∀ h' tk n', Heap.SameBut S s.heap h' → h'.get? S = some (plObj es n') → Q () { s with heap := h', toks := tk }) :
    wpAny (model prog w) A (mergeMapping S (.ref D) true) Q E s := by
  have hT : s.TypeIs (.ref D) "dict" := ⟨_, ho, rfl⟩
  have hD : s.heap.get? D = some (plObj es n) := ho
  unfold mergeMapping
  refine wpAny_bind (wpAny_isInstance (U := "dict") (b := true) hT (by rw [isSubtype_type]; kernel_rfl) ?_)
  rw [if_pos rfl]
  refine wpAny_bind (wpAny_specialOf hT PySem.F.slot_dict_iter.lookup ?_)
  rw [show ((some (Value.builtin "dict.__iter__")) == some (Value.builtin "dict.__iter__")) = true from by decide]
  refine wpAny_bind (wpAny_pure ?_)
  show wpAny _ _ (if (D == sysModules) = true then _ else _) _ _ _
  rw [if_neg (by rw [lo]; exact Bool.false_ne_true)]
  refine wpAny_bind (wpAny_dictEntries h0 rfl ?_)
  show wpAny _ _ (if (#[] : Array DictEntry).isEmpty = true then _ else _) _ _ _
  rw [if_pos (show (#[] : Array DictEntry).isEmpty = true from rfl)]
  refine wpAny_bind (wpAny_dictEntries ho rfl ?_)
  refine wpAny_bind (PySem.wpAny_forIn_array' _ (fun l _ s' => s' = s ∧ ∀ e ∈ l, ∃ z t, e.key = Value.str z t) _ ?_ ?_ _ _ ⟨rfl, ?_⟩)
  · rintro e l b s' ⟨rfl, hl⟩
    obtain ⟨z, t, he⟩ := hl e (.head _)
    rw [he]
    exact wpAny_pure ⟨rfl, fun e' h' => hl e' (.tail _ h')⟩
  · rintro b s' ⟨e0, _⟩
    rw [e0]
    refine wpAny_bind (wpAny_dictEntries ho rfl ?_)
    refine wpAny_bind (wpAny_dictEpoch ho rfl ?_)
    rcases hk with rfl | ⟨z, t, v, rfl⟩
    · exact wpAny_bind (wpAny_forIn_list _ (fun l _ s' => l = [] ∧ s' = s) _ (fun _ _ _ _ h => by cases h.1) (fun _ s' e => by
        rw [e.2]
        exact wpAny_pure (h s.heap s.toks 0 ⟨rfl, fun _ _ => rfl⟩ h0)) _ _ ⟨rfl, rfl⟩)
    · refine wpAny_bind (wpAny_forIn_list _ (fun l _ s' => (l = [0] ∧ s' = s) ∨ (l = [] ∧ ∃ h' tk n', Heap.SameBut S s.heap h' ∧ h'.get? S = some (plObj [⟨hashStr w z, .str z t, v⟩] n') ∧ s' = { s with heap := h', toks := tk })) _ ?_ ?_ _ _ (.inl ⟨rfl, rfl⟩))
      · rintro i l b s' (⟨e, e0⟩ | ⟨e, _⟩)
        · cases e
          rw [e0]
          refine wpAny_bind (wpAny_dictEntries ho rfl ?_)
          refine wpAny_bind (wpAny_holding ?_)
          show wpAny _ _ (_ >>= _) _ _ _
          refine wpAny_bind (wpAny_dictFind_of (knd := strKind prog w) (k := z) (key := .str z t) (sk_is _ _) h0 rfl (fun e he => by simp at he) ?_)
          rw [show (#[] : Array DictEntry).findIdx? (fun e => (strKind prog w).is z e.key) = none from by simp]
          rw [if_neg (show ¬(none : Option Nat).isSome = true from by simp)]
          show wpAny _ _ (dictPut S (hashStr w z) (.str z t) v) _ _ _
          unfold dictPut
          refine wpAny_bind (wpAny_dictFind_of (knd := strKind prog w) (k := z) (key := .str z t) (sk_is _ _) h0 rfl (fun e he => by simp at he) ?_)
          rw [show (#[] : Array DictEntry).findIdx? (fun e => (strKind prog w).is z e.key) = none from by simp]
          refine wpAny_updateDictKeys h0 rfl ?_
          refine wpAny_bind (wpAny_dictEpoch (a := D) (o := plObj _ n) ((Heap.get?_update_ne _ _ _ _ (Ne.symm hS)).trans ho) rfl ?_)
          rw [if_neg (by simp)]
          refine wpAny_pure (.inr ⟨rfl, _, _, 1, Heap.SameBut.update .., ?_, rfl⟩)
          rw [Heap.get?_update_self _ h0 rfl]
          rfl
        · cases e
      · rintro b s' (⟨e, _⟩ | ⟨_, h', tk, n', a, b, rfl⟩)
        · cases e
        · exact wpAny_pure (h _ _ _ a b)
  · intro e he
    rcases hk with rfl | ⟨z, t, v, rfl⟩
    · simp at he
    · simp at he; exact ⟨z, t, by rw [he]⟩
theorem merged_kw {x : Sem Value} {f : Value} {D : Addr} {es : List DictEntry} {n : Nat} {Q : Addr → Shared → Prop}
    (hx : ∀ (s' : Shared) (Q : Value → Shared → Prop), (∀ b o, s.heap.get? b = some o → s'.heap.get? b = some o) → Q (.ref D) s' → wpAny (model prog w) A x Q E s')
    (ho : s.heap.get? D = some (plObj es n)) (lo : (D == sysModules) = false) (hk : OneKw w es)
    (h : ∀ h' tk n', (∀ b o, s.heap.get? b = some o → h'.get? b = some o) → h'.get? s.heap.objs.size = some (plObj es n') → Q s.heap.objs.size { s with heap := h', toks := tk }) :
    wpAny (model prog w) A (mergedKeywords f [(none, x)]) Q E s := by
  unfold mergedKeywords
  refine wpAny_bind (wpAny_alloc ?_)
  refine wpAny_bind (wpAny_holding ?_)
  show wpAny _ _ (_ >>= _) _ _ _
  let s1 : Shared := { s with heap := s.heap.push { cls := Value.type "dict", data := Data.dict #[] } }
  refine wpAny_bind (wpAny_forIn_list _ (fun l b s' => b = [] ∧ ((l = [(none, x)] ∧ s' = s1) ∨ (l = [] ∧ ∃ h' tk n', (∀ b o, s.heap.get? b = some o → h'.get? b = some o) ∧ h'.get? s.heap.objs.size = some (plObj es n') ∧ s' = { s with heap := h', toks := tk }))) _ ?_ ?_ _ _ ⟨rfl, .inl ⟨rfl, rfl⟩⟩)
  · rintro y l b s' ⟨rfl, h1 | ⟨h1, _⟩⟩
    · obtain ⟨h1, rfl⟩ := h1
      cases h1
      show wpAny _ _ (_ >>= _) _ _ _
      refine wpAny_bind (wpAny_pure ?_)
      have k1 : ∀ b o, s.heap.get? b = some o → s1.heap.get? b = some o := fun b o e => Heap.get?_push_of_some _ e
      refine wpAny_bind (hx _ _ k1 ?_)
      show wpAny _ _ (_ >>= _) _ _ _
      refine wpAny_bind (wpAny_onRaise (wpAny_holding (wpAny_tryCatch (wpAny_onRaise (merge_one ?_ (k1 _ _ ho) lo hk (Heap.get?_push_size _ rfl) fun h' tk n' hs hS => ?_)))))
      · exact Nat.ne_of_gt (Heap.lt_size ho)
      · refine wpAny_pure ⟨rfl, .inr ⟨rfl, h', tk, n', fun b o e => ?_, hS, rfl⟩⟩
        rw [hs.2 b (Nat.ne_of_lt (Heap.lt_size e))]
        exact k1 _ _ e
    · cases h1
  · rintro b s' ⟨rfl, h1 | ⟨_, h', tk, n', a, b, rfl⟩⟩
    · cases h1.1
    · show wpAny _ _ (pure ()) _ _ _
      exact wpAny_pure (wpAny_pure (h _ _ _ a b))
theorem kwIn_one {f : Value} {d : Addr} {es : List DictEntry} {n : Nat} {Q : List (Str × Value) → Shared → Prop} (ho : s.heap.get? d = some (plObj es n)) (hk : OneKw w es)
    (h : ∀ kws, (es = [] ∧ kws = []) ∨ (∃ z t v, es = [⟨hashStr w z, .str z t, v⟩] ∧ kws = [(z, v)]) → Q kws s) : wpAny (model prog w) A (keywordsIn f d) Q E s := by
  unfold keywordsIn
  refine wpAny_bind (wpAny_dictEntries ho rfl ?_)
  rcases hk with rfl | ⟨z, t, v, rfl⟩
  · exact wpAny_bind (PySem.wpAny_forIn_array' _ (fun l b s' => l = [] ∧ b = [] ∧ s' = s) _ (fun _ _ _ _ h => by cases h.1) (fun b s' e => by
      rw [e.2.2, e.2.1]
      exact wpAny_pure (h _ (.inl ⟨rfl, rfl⟩))) _ _ ⟨rfl, rfl, rfl⟩)
  · refine wpAny_bind (PySem.wpAny_forIn_array' _ (fun l b s' => (l = [⟨hashStr w z, .str z t, v⟩] ∧ b = [] ∧ s' = s) ∨ (l = [] ∧ b = [(z, v)] ∧ s' = s)) _ ?_ ?_ _ _ (.inl ⟨rfl, rfl, rfl⟩))
    · rintro e l b s' (⟨e1, e2, e0⟩ | ⟨e1, _⟩)
      · cases e1
        rw [e0, e2]
        exact wpAny_pure (.inr ⟨rfl, rfl, rfl⟩)
      · cases e1
    · rintro b s' (⟨e1, _⟩ | ⟨_, e2, e0⟩)
      · cases e1
      · rw [e0, e2]
        exact wpAny_pure (h _ (.inr ⟨z, t, v, rfl, rfl⟩))
theorem args_star {f : Value} {x y : Sem Value} {C D : Addr} {es : List DictEntry} {n : Nat} {vs : List Value} {Q : Args → Shared → Prop}
    (hx : ∀ (s' : Shared) (Q : Value → Shared → Prop), (∀ b o, s.heap.get? b = some o → s'.heap.get? b = some o) → Q (.ref C) s' → wpAny (model prog w) A x Q E s')
    (hy : ∀ (s' : Shared) (Q : Value → Shared → Prop), (∀ b o, s.heap.get? b = some o → s'.heap.get? b = some o) → Q (.ref D) s' → wpAny (model prog w) A y Q E s')
    (hC : s.heap.get? C = some ({ cls := .type "tuple", data := .seq vs.toArray } : Obj)) (hz : vs.length ≤ sizeLine)
    (ho : s.heap.get? D = some (plObj es n)) (lo : (D == sysModules) = false) (hk : OneKw w es)
    (h : ∀ kws h' tk, (∀ b o, s.heap.get? b = some o → h'.get? b = some o) → ((es = [] ∧ kws = []) ∨ (∃ z t v, es = [⟨hashStr w z, .str z t, v⟩] ∧ kws = [(z, v)])) → Q ⟨vs, kws⟩ { s with heap := h', toks := tk }) :
    wpAny (model prog w) A (evalArgs f true [(true, x)] [(none, y)]) Q E s := by
  unfold evalArgs
  refine wpAny_bind (hx _ _ (fun _ _ e => e) (wpAny_bind (wpAny_pure ?_)))
  refine wpAny_holding ?_
  show wpAny _ _ (mergedKeywords f [(none, y)] >>= _) _ _ _
  refine wpAny_bind (merged_kw hy ho lo hk fun h1 tk n' k1 hS => ?_)
  have hT : ({ s with heap := h1, toks := tk } : Shared).TypeIs (.ref C) "tuple" := ⟨_, k1 _ _ hC, rfl⟩
  show wpAny _ _ ((notIterableAtAll (.ref C) >>= _) >>= _) _ _ _
  refine wpAny_bind ?_
  unfold notIterableAtAll
  refine wpAny_bind (wpAny_bind (wpAny_specialOf hT PySem.F.slot_tuple_iter.lookup (wpAny_pure ?_)))
  show wpAny _ _ (holding [.ref s.heap.objs.size] (collect (.ref C))) _ _ _
  refine wpAny_holding (wpAny_collect_seq C (.inr rfl) (k1 _ _ hC) rfl rfl (fun h2 k2 => ?_) (by simpa using hz))
  refine wpAny_bind (wpAny_holding (kwIn_one (k2 _ _ hS) hk fun kws hw => wpAny_pure ?_))
  exact h kws h2 tk (fun b o e => k2 _ _ (k1 _ _ e)) hw
theorem call_star {f : Value} {first : List Value} {pos : Pos} {x y : Sem Value} {C D : Addr} {es : List DictEntry} {n : Nat} {vs : List Value} {Q : Value → Shared → Prop}
    (hx : ∀ (s' : Shared) (Q : Value → Shared → Prop), (∀ b o, s.heap.get? b = some o → s'.heap.get? b = some o) → Q (.ref C) s' → wpAny (model prog w) A x Q E s')
    (hy : ∀ (s' : Shared) (Q : Value → Shared → Prop), (∀ b o, s.heap.get? b = some o → s'.heap.get? b = some o) → Q (.ref D) s' → wpAny (model prog w) A y Q E s')
    (hC : s.heap.get? C = some ({ cls := .type "tuple", data := .seq vs.toArray } : Obj)) (hz : vs.length ≤ sizeLine)
    (ho : s.heap.get? D = some (plObj es n)) (lo : (D == sysModules) = false) (hk : OneKw w es)
    (hK : ∀ h', (∀ b o, s.heap.get? b = some o → h'.get? b = some o) → ∃ k, (k = Keeper.frame ∨ k = Keeper.machine ∨ k = Keeper.boundFrame) ∧ Looks (model prog w) h' (keeperOf f) k)
    (h : ∀ kws h' tk, (∀ b o, s.heap.get? b = some o → h'.get? b = some o) → ((es = [] ∧ kws = []) ∨ (∃ z t v, es = [⟨hashStr w z, .str z t, v⟩] ∧ kws = [(z, v)])) → wpAny (model prog w) A (call f (first ++ vs) kws) Q E { s with heap := h', toks := tk }) :
    wpAny (model prog w) A (callWith pos f first [(true, x)] [(none, y)]) Q E s := by
  unfold callWith
  refine wpAny_bind (wpAny_holding (args_star hx hy hC hz ho lo hk fun kws h' tk k1 hw => wpAny_bind (wpAny_standAt ?_)))
  obtain ⟨k, hk', Lk⟩ := hK h' k1
  have z := h kws h' tk k1 hw
  simp only [List.any_cons, Bool.true_or]
  refine wpAny_bind (Lk.here ?_)
  have tail : ∀ {t : Sem Value}, wpAny (model prog w) A t Q E { s with heap := h', toks := tk } → wpAny (model prog w) A (t >>= fun r => holding [r] point >>= fun _ => pure r) Q E { s with heap := h', toks := tk } :=
    fun ht => wpAny_bind (wpAny_mono ht (fun r s₂ hr => wpAny_bind (wpAny_holding (wpAny_point (wpAny_pure hr)))) fun _ _ x => x)
  rcases hk' with rfl | rfl | rfl
  · exact tail (by unfold callMarked; exact Calls.wpAny_keep z)
  · exact tail (wpAny_operating z)
  · exact tail (wpAny_operating z)
end
section
variable {M : Model} {A : Around} {E : Value → Shared → Prop} {s : Shared} {env : Env} {Q : Value → Shared → Prop}
theorem ev_star {id : Str} {ip : Pos} {name : Str} {apos pos p0 kp : Pos} {e k : Expr}
    (h : wpAny M A (eval (.Name id ip) env) (fun ov s₁ => wpAny M A (getAttr ov name true) (fun f s₂ => wpAny M A (callWith pos f [] [(true, do let v ← eval e env; standAt pos; pure v)] [(none, do let v ← eval k env; standAt pos; pure v)]) Q E s₂) E s₁) E s) :
    wpAny M A (eval (.Call (.Attribute (.Name id ip) name apos) [.Starred e p0] [⟨none, k, kp⟩] pos) env) Q E s := by
  have he : eval (.Call (.Attribute (.Name id ip) name apos) [.Starred e p0] [⟨none, k, kp⟩] pos) env = (do
    let ov ← attributeBase (.Name id ip) name env (eval (.Name id ip) env)
    standAt apos.atName
    methodCall (.Name id ip) name apos pos env ov 2 [(true, do let v ← eval e env; standAt pos; pure v)] [(none, do let v ← eval k env; standAt pos; pure v)]) := by rfl
  rw [he]
  refine wpAny_bind (wpAny_mono (show wpAny M A (eval (.Name id ip) env) _ E s from h) (fun ov s₁ h₁ => wpAny_bind (wpAny_standAt ?_)) fun _ _ x => x)
  unfold methodCall
  refine wpAny_bind (wpAny_holding ?_)
  show wpAny _ _ (getAttr ov name true >>= _) _ _ _
  refine wpAny_bind (wpAny_mono h₁ (fun f s₂ h₂ => wpAny_pure ?_) fun _ _ x => x)
  show wpAny _ _ (_ >>= _) _ _ _
  refine wpAny_bind ?_
  show wpAny _ _ (pure pos) _ _ _
  exact wpAny_pure h₂
end

/-! ## a CaselessDict is made -/
def makesD (K : Frag) (C : Addr) : Bool := match K.lookup C with
  | some ⟨_, _, .cls cd, sl⟩ => !cd.abstract && !cd.hasDel && (sl.toList[4]?).join == some (.builtin "dict.__new__") && cd.mro == [.ref C, .type "dict", .type "object"] &&
      specialIn K (.ref C) "__call__" == some (some (.builtin "type.__call__")) && instIn K (.ref C) (.type "type") == some true
  | _ => false
structure MadeD (M : Model) (h : Heap) (C : Addr) : Prop where
  obj : ∃ oc od cd sl, h.get? C = some ⟨oc, od, .cls cd, sl⟩ ∧ cd.abstract = false ∧ cd.hasDel = false ∧ cd.mro = [.ref C, .type "dict", .type "object"]
  mro : Looks M h (mroOf (.ref C)) [.ref C, .type "dict", .type "object"]
  made : Looks M h (Bind.madeBy (.ref C)) (some "dict.__new__")
  base : Looks M h (Bind.staticBase (.ref C)) (.ref C)
  self : Looks M h (isSubtype (.ref C) (.ref C)) true
  top : Looks M h (isSubtype (.ref C) (.type "dict")) true
  call : Looks M h (specialOf (.ref C) "__call__") (some (.builtin "type.__call__"))
  typ : Looks M h (isInstance (.ref C) (.type "type")) true
theorem madeD_of {K : Frag} {M : Model} {h : Heap} (X : K.In h) {C : Addr} (e : makesD K C = true) : MadeD M h C := by
  unfold makesD at e
  split at e
  · rename_i oc od cd sl ho
    simp only [Bool.and_eq_true, Bool.not_eq_true', beq_iff_eq] at e
    obtain ⟨⟨⟨⟨⟨e1, e2⟩, e3⟩, e4⟩, e7⟩, e8⟩ := e
    have hc : clsIn K C = some cd := by unfold clsIn; rw [ho]
    have hm : Looks M h (mroOf (.ref C)) cd.mro := (looks_clsIn X hc).andThen .now
    rw [e4] at hm
    have made : Looks M h (Bind.madeBy (.ref C)) (some "dict.__new__") := by
      intro A Q E s k q
      unfold Bind.madeBy
      refine wpAny_bind (hm A _ E s k ?_)
      rw [List.forIn_cons]
      refine wpAny_bind (wpAny_bind (wpAny_bind (wpAny_bind (wpAny_loadPart (k _ _ (X _ _ ho)) (wpAny_pure ?_)))))
      dsimp only
      rw [← Array.getElem?_toList, e3]
      exact wpAny_pure (wpAny_pure (wpAny_pure q))
    have hmro : ∀ b, [Value.ref C, .type "dict", .type "object"].contains b = true → mroIn K C b = some true := fun b hb => by
      unfold mroIn; rw [hc, Option.bind_some, e4, hb]; rfl
    refine ⟨⟨oc, od, cd, sl, X _ _ ho, e1, e2, e4⟩, hm, made, ?_, looks_mroIn X (hmro _ (by simp)), looks_mroIn X (hmro _ (by simp)), looks_specialIn X e7, looks_instIn X e8⟩
    intro A Q E s k q
    unfold Bind.staticBase
    refine wpAny_bind (hm A _ E s k ?_)
    rw [List.forIn_cons]
    exact wpAny_bind (wpAny_bind (wpAny_bind (made A _ E s k (wpAny_pure (wpAny_pure (wpAny_pure q))))))
  · cases e
theorem dn_kind : builtinKind "dict.__new__" = some .builtinFn := by kernel_rfl
theorem dn_split : splitId "dict.__new__" = some ("dict", "__new__") := by decide +kernel
theorem dn_args (a : Value) (rest : List Value) (kw : List (Str × Value)) : argsOk "dict.__new__" ⟨a :: rest, kw⟩ := by unfold argsOk; kernel_rfl
section
variable {prog : Program} {w : World} {A : Around} {K : Frag} {C : Addr} {R : Result → Shared → Prop} {h : Heap} {g : Array GenState} {d : Drawn} {t : Nat} {os : OsState}
theorem new_D {rest : List Value} {kw : List (Str × Value)} (Y : MadeD (model prog w) h C)
    (hq : R (.ok (.ret (.ref (h.objs.size + 1)))) ⟨(h.push (plObj [] 0)).push { cls := .ref C, dict := some h.objs.size, data := .dict #[] }, g, d, t, os⟩) :
    codeAny (model prog w) A (.call (.builtin "dict.__new__") ⟨.ref C :: rest, kw⟩) R ⟨h, g, d, t, os⟩ := by
  obtain ⟨⟨oc, od, cd, sl, hC, e1, e2, e4⟩, hm, made, base, self, top, call, typ⟩ := Y
  refine codeAny_call_builtin F.kt_plain_dict_new F.kt_entry_dict_new ?_
  have ha := dn_args (.ref C) rest kw
  have ic : Looks (model prog w) h (isType (.ref C)) true := fun A Q E s k q => ks_wpAny_isType_cls (k _ _ hC) rfl q
  have go : ∀ Q : Unit → Shared → Prop, Q () ⟨h, g, d, t, os⟩ → ∀ E, wpAny (model prog w) A.in1 (checkBuiltinCall "dict.__new__" ⟨.ref C :: rest, kw⟩) Q E ⟨h, g, d, t, os⟩ := by
    intro Q q E
    unfold checkBuiltinCall
    rw [dn_kind, dn_split]
    show wpAny _ _ (isType (.ref C) >>= _) _ _ _
    refine wpAny_bind (ic.at ?_)
    show wpAny _ _ (isSubtype (.ref C) (.type "dict") >>= _) _ _ _
    refine wpAny_bind (top.at ?_)
    show wpAny _ _ (Bind.staticBase (.ref C) >>= _) _ _ _
    refine wpAny_bind (base.at ?_)
    refine wpAny_bind (made.at ?_)
    show wpAny _ _ (if (Manifest.canonical "dict.__new__" != Manifest.canonical "dict.__new__") = true then _ else _) _ _ _
    rw [if_neg (by simp)]
    unfold argsOk at ha
    exact wpAny_of_eq ha q
  refine go _ ?_ _
  unfold Builtin.«dict.__new__»
  show wpAny _ _ (isType (.ref C) >>= _) _ _ _
  refine wpAny_bind (ic.at ?_)
  show wpAny _ _ (isSubtype (.ref C) (.type "dict") >>= _) _ _ _
  refine wpAny_bind (top.at ?_)
  refine wpAny_bind (hm.at ?_)
  show wpAny _ _ (if (([Value.ref C, Value.type "dict", Value.type "object"].any fun x => match x with | .type n => !["dict", "object", "collections.defaultdict", "collections.OrderedDict"].contains n | _ => false) = true) then _ else _) _ _ _
  rw [if_neg (by simp)]
  show wpAny _ _ (alloc (plObj [] 0) >>= _) _ _ _
  refine wpAny_bind (wpAny_alloc ?_)
  show wpAny _ _ (newObjAsIs _ _ _ >>= _) _ _ _
  unfold newObjAsIs classHasDel
  refine wpAny_bind (wpAny_bind (wpAny_alloc (wpAny_bind (wpAny_bind (wpAny_load (Heap.get?_push_of_some _ (Heap.get?_push_of_some _ hC)) (wpAny_pure ?_))))))
  rw [e2]
  refine wpAny_pure (wpAny_pure ?_)
  show R (.ok (.ret (.ref (h.push (plObj [] 0)).objs.size))) _
  rw [Heap.size_push]
  exact hq
theorem make_D {rest : List Value} {kw : List (Str × Value)} {init : Value} (Y : MadeD (model prog w) h C) (hi : Looks (model prog w) h (typeLookup (.ref C) "__init__") (some init))
    (hb : ∀ self, Looks (model prog w) h (bindSpecial init self) (init, [self]))
    (hq : codeAny (model prog w) (A.under (.builtin "type.__call__" ⟨.ref C :: rest, kw⟩)) (.call init ⟨.ref (h.objs.size + 1) :: rest, kw⟩) (InitBack (h.objs.size + 1) R) ⟨(h.push (plObj [] 0)).push { cls := .ref C, dict := some h.objs.size, data := .dict #[] }, g, d, t, os⟩) :
    codeAny (model prog w) A (.call (.ref C) ⟨rest, kw⟩) R ⟨h, g, d, t, os⟩ := by
  have Y' := Y
  obtain ⟨⟨oc, od, cd, sl, hC, e1, e2, e4⟩, hm, made, base, self, top, call, typ⟩ := Y
  refine codeAny_of_tree ?_
  show wpAny _ _ (callAny (.ref C) _) _ _ _
  refine nd_load hC ?_
  show wpAny _ _ (callAny.viaDunder (.ref C) _) _ _ _
  unfold callAny.viaDunder
  refine wpAny_bind (call.at ?_)
  dsimp only
  rw [tc_bind]
  refine wpAny_bind (wpAny_pure (wpAny_bind (wpAny_pure ?_)))
  refine wpAny_pure (a := PySem.Fin.again (.call (.builtin "type.__call__") ⟨.ref C :: rest, kw⟩)) (And.intro rfl ?_)
  refine codeAny_call_builtin_at (Code.quiet_builtin _ (by decide +kernel)) entry_typeCall (check_slot tc_kind tc_split typ (tc_args _ _ _) ?_)
  unfold Builtin.«type.__call__»
  repeat (first | simp only [e4, Bool.false_eq_true, if_false] | with_reducible refine wpAny_call ?_ | lk)
  refine new_D Y' ?_
  have k : ∀ b o, h.get? b = some o → ((h.push (plObj [] 0)).push { cls := .ref C, dict := some h.objs.size, data := .dict #[] }).get? b = some o := fun b o e => Heap.get?_push_of_some _ (Heap.get?_push_of_some _ e)
  have hx : ((h.push (plObj [] 0)).push { cls := .ref C, dict := some h.objs.size, data := .dict #[] }).get? (h.objs.size + 1) = some { cls := .ref C, dict := some h.objs.size, data := .dict #[] } := by heap_get
  have t1 : Looks (model prog w) ((h.push (plObj [] 0)).push { cls := .ref C, dict := some h.objs.size, data := .dict #[] }) (typeOf (.ref (h.objs.size + 1))) (.ref C) := (Looks.ld hx).andThen .now
  have s1 := self.keeps k
  have i1 := hi.keeps k
  have b1 := (hb (.ref (h.objs.size + 1))).keeps k
  unfold isInstance callSpecial? specialOf
  repeat (first | with_reducible refine wpAny_call ?_ | lk)
  refine codeAny_mono hq fun r s' z => ?_
  rcases r with e | (v | _ | _ | _) <;> first | exact z | exact z.elim | skip
  obtain ⟨rfl, z⟩ := z
  exact wpAny_pure (wpAny_pure z)
end
section
variable {w : World} {A : Around} {E : Value → Shared → Prop} {s : Shared} {h₀ : Heap} {L : Addr} {m : Str → Option Value} {news : List (Addr × Obj)} {Q : Value → Shared → Prop}
theorem kq_makes : makesD (hd.heap_39 w.params) 169 = true := by kernel_rfl
theorem kq_init : findIn (hd.heap_39 w.params) (.ref 169) "__init__" = some (some (.ref 57)) := by kernel_rfl
theorem kq_initf : typeIn (hd.heap_39 w.params) (.ref 57) = some (.type "function") := by kernel_rfl
theorem make_cd {rest : List Value} {kw : List (Str × Value)} (F : Fr h₀ L s.heap m) (X₀ : (hd.heap_39 w.params).In h₀) (N : News h₀ L s.heap news) (hl : h₀.NoLimit)
    (h : ∀ x dx h', (x == sysModules) = false → Fr h₀ L h' m → News h₀ L h' ((x, cdObj dx [] 0) :: (dx, plObj [] 0) :: news) → (∀ p ∈ news, p.1 < dx) → dx < x →
      codeAny (model PySem.Challenge.rw_bf0001_01.row.prog w) (A.under (.builtin "type.__call__" ⟨.ref 169 :: rest, kw⟩)) (.call (.ref 57) ⟨.ref x :: rest, kw⟩) (fun r s' => match r with | .ok (.ret v) => v = .none ∧ Q (.ref x) s' | .ok _ => False | .error e => E e s') { s with heap := h' }) :
    wpAny (model PySem.Challenge.rw_bf0001_01.row.prog w) A (call (.ref 169) rest kw) Q E s := by
  have X : (hd.heap_39 w.params).In s.heap := X₀.keeps F.keep
  obtain ⟨hh, g, d, t, os⟩ := s
  have N' := (N.push F (plObj [] 0)).push (F.push _) (cdObj hh.objs.size [] 0)
  rw [Heap.size_push] at N'
  refine wpAny_call (make_D (madeD_of X kq_makes) (looks_findIn X kq_init) (fun self => bind_fn X self kq_initf) (codeAny_mono (h _ hh.objs.size _ (by have := (F.push (plObj [] 0)).notModules (modules_low hl); rw [Heap.size_push] at this; exact this) ((F.push _).push _) N' (fun p hp => Heap.lt_size (N p hp).1) (Nat.lt_succ_self _)) fun r s' z => ?_))
  rcases r with e | (v | _ | _ | _) <;> exact z
end

/-! ## the plain dict -/
def KVs (f : Nm → Str) (kvs : List (Str × Value)) (c : C) : Prop := All2 (fun kv p => kv.1 = f p.1 ∧ ∃ t, kv.2 = .int p.2 t) kvs c
section
variable {prog : Program} {w : World} {f : Nm → Str} {es : List DictEntry} {c : C} {n : Nat}
theorem kvs_keys {kvs : List (Str × Value)} (h : KVs f kvs c) : kvs.map (·.1) = c.map fun p => f p.1 := by
  induction h with
  | nil => rfl
  | cons hd _ ih => simp only [List.map_cons, ih, hd.1]
theorem kv_pairs (h : KV w f es c) : ∃ kvs, Pairs (strKind prog w) es kvs ∧ KVs f kvs c := by
  induction h with
  | nil => exact ⟨[], .nil, .nil⟩
  | @cons e p es' c' hd _ ih =>
    obtain ⟨kvs, h1, h2⟩ := ih
    obtain ⟨_, ⟨t, hk⟩, u, hv⟩ := hd
    exact ⟨(f p.1, .int p.2 u) :: kvs, .cons (by rw [hk]; exact sk_is _ _) hv h1, .cons ⟨rfl, u, rfl⟩ h2⟩
theorem NK.names (hf : ∀ a b, f a = f b → a = b) (nk : NK c) : (c.map fun p => f p.1).Nodup := by
  have := List.Pairwise.map (S := (· ≠ ·)) f (fun a b (q : a ≠ b) e => q (hf _ _ e)) (show List.Pairwise (· ≠ ·) (c.map (·.1)) from nk)
  rw [List.map_map] at this
  exact this
theorem kv_isDict (hf : ∀ a b, f a = f b → a = b) (h : KV w f es c) (nk : NK c) : ∃ kvs, (plObj es n).IsDictOf (strKind prog w) kvs ∧ KVs f kvs c := by
  obtain ⟨kvs, h1, h2⟩ := kv_pairs (prog := prog) h
  exact ⟨kvs, ⟨es.toArray, n, ⟨rfl, rfl, rfl⟩, rfl, h.keys, h1, by rw [kvs_keys h2]; exact nk.names hf⟩, h2⟩
theorem pairs_kv {kvs : List (Str × Value)} : ∀ {es : List DictEntry}, Pairs (strKind prog w) es kvs → KeysOf (strKind prog w) es.toArray → ∀ {c : C}, KVs f kvs c → KV w f es c := by
  induction kvs with
  | nil =>
    intro es h1 h2 c h3
    cases h1; cases h3; exact .nil
  | cons kv kvs ih =>
    intro es h1 h2 c h3
    cases h1 with
    | @cons e _ es' _ hk hv ht =>
      cases h3 with
      | @cons _ p _ c' hp hps =>
        refine .cons ⟨?_, ?_, ?_⟩ (ih ht (fun e he => h2 e (by simpa using Or.inr (by simpa using he))) hps)
        · obtain ⟨k', hk', hh⟩ := h2 e (by simp)
          have e1 := (strKind prog w).is_eq_decide hk k'
          rw [hk'] at e1
          have e2 : k' = kv.1 := of_decide_eq_true e1.symm
          rw [hh, e2, hp.1]; rfl
        · have : e.key.isStrOf kv.1 = true := hk
          cases hkey : e.key <;> rw [hkey] at this <;> first | cases this | skip
          rename_i x t
          have e3 : x = kv.1 := by simpa [Value.isStrOf] using this
          exact ⟨t, by rw [e3, hp.1]⟩
        · rw [hv]; exact hp.2
theorem isDict_kv {o : Obj} {kvs : List (Str × Value)} (h : o.IsDictOf (strKind prog w) kvs) (hc : KVs f kvs c) : ∃ es n, o = plObj es n ∧ KV w f es c := by
  obtain ⟨es, ep, ⟨h1, h2, h3⟩, hd, hk, hp, _⟩ := h
  refine ⟨es.toList, ep, ?_, pairs_kv hp (by simpa using hk) hc⟩
  cases o
  simp only at h1 h2 h3 hd
  subst h1 h2 h3 hd
  simp
end
section
variable {prog : Program} {w : World} {A : Around} {E : Value → Shared → Prop} {s : Shared} {h₀ : Heap} {L d : Addr} {m : Str → Option Value} {news : List (Addr × Obj)} {g : Obj → List (Addr × Obj)} {es : List DictEntry} {n : Nat} {c : C} {k : Nm} {t : Tok} {f : Nm → Str}
theorem pd_set {x : Int} {u : Tok} {Q : Unit → Shared → Prop} (F : Fr h₀ L s.heap m) (N : News h₀ L s.heap news) (U : UpdF d (plObj es n) news g) (hf : ∀ a b, f a = f b → a = b) (hc : KV w f es c) (nk : NK c)
    (ret : ∀ es' n' h' tk', KV w f es' (put c k x) → Fr h₀ L h' m → News h₀ L h' (g (plObj es' n')) → Q () { s with heap := h', toks := tk' }) : wpAny (model prog w) A (setItem (.ref d) (.str (f k) t) (.int x u)) Q E s := by
  have ho := upd_at N U
  have hT : s.TypeIs (.ref d) "dict" := ⟨_, ho, rfl⟩
  unfold setItem
  with_reducible refine wpAny_holding ?_
  refine wpAny_bind (wpAny_sequenceKey hT (by decide) ?_)
  refine wpAny_bind (wpAny_callSpecial?_slot (name := Str.ofString "__setitem__") hT slot_dict_setitem
    (wpAny_call_entry slot_dict_setitem hT entry_dict_setitem ?_ (args_dict_setitem _ _ _)))
  exact b_setitem (noOrd_dict ho rfl) hf ho rfl hc nk.size fun es' n' h' kv ho' hs => ⟨_, rfl, wpAny_pure (ret es' n' _ _ kv (upd_back F N U hs ho').1 (upd_back F N U hs ho').2)⟩
end
local macro_rules | `(tactic| walk_at "setItem ref str") => `(tactic| (k_here; (with_reducible show wpAny _ _ (setItem (Value.ref _) (Value.str (up _) _) (Value.int _ _)) _ _ _); k_dflt (refine' pd_set ?F ?N ?U up_inj ?c ?n ?_; (case F | N => k_asm); (case U => k_updF); (case c | n => assumption)); intro es' n' h' tk' kv' F' N'; (try dsimp only at N')))

/-! ## _law_put: a loop that stores -/
section
variable {w : World} {p : Program} {loose : List Str} {mean : ExcName → Option Value} {mg mb : Str → Option Value} {dp un : Nat} {gd : Option (List Code)} {cn : Str} {cs : Scope} {a L : Addr} {ccd : Value} {cl : List (Str × Addr)} {outer : List Env} {A₀ : Around} {base h₀ : Heap} {m : Str → Option Value} {s : Shared} {Q E : Value → Shared → Prop} {news rest : List (Addr × Obj)} {g : Obj → List (Addr × Obj)}
variable {D d : Addr} {es : List DictEntry} {n : Nat} {c : C} {ys : List Value} {ps : List (Value × Nm × Int)}
set_option pp.deepTerms false
set_option pp.maxSteps 3000
set_option pp.proofs false
def pairsOf (ps : List (Value × Nm × Int)) : C := ps.map (·.2)
theorem put_spec
   (Bl : Below A₀ base outer h₀) (F : Fr h₀ L s.heap m) (X : (hd.heap_39 w.params).In h₀) (N : News h₀ L s.heap ((d, plObj es n) :: (D, LCg.lst ys) :: rest)) (T : Top p loose mean mg mb h₀) (hk : cs.kind = .function)
   (hx : ∀ p ∈ (D, LCg.lst ys) :: rest, p.1 ≠ d) (ha : All2 (PairIn rest) ys ps) (hc : KV w up es c) (nk : NK c) (hd : dp + 40 < recursionLimit) (hu : un + 400 < cLine)
   (ret : ∀ es' n' tk' h', KV w up es' (puts c (pairsOf ps)) → Fr h₀ L h' m → News h₀ L h' ((d, plObj es' n') :: (D, LCg.lst ys) :: rest) → Q .none { s with heap := h', toks := tk' }) :
   wpAny (model PySem.Challenge.rw_bf0001_01.row.prog w) (ktrTop dp un gd cn cs L a ccd cl outer) (call (.ref 206) [.ref d, .ref D]) Q E s := by
  revert X; k_fill; intro X
  refine wpAny_call ?_
  k_dflt ktr_enter
  k_steps
  refine For_invTF (by assumption) ?_ (by intro x; rfl)
  k_steps
  rename_i G L1 h1 FG F1 N1 B1 X1 T1
  refine loop_list (o := LCg.lst ys) rfl (fun i m' l => Two (Str.ofString "value") (Str.ofString "key") _ m' ∧ ∃ es' n', l = (d, plObj es' n') :: (D, LCg.lst ys) :: rest ∧ KV w up es' (puts c (pairsOf (ps.take i)))) rfl F1 N1 rfl (.tail _ (.head _)) ⟨Two.refl, es, n, rfl, hc⟩ ?keep ?turn ?done
  case keep => rintro i m k ⟨_, es', n', rfl, _⟩; exact .tail _ (.head _)
  case turn =>
    rintro i v m₁ news₁ It s₁ oI hv ⟨h2, es', n', rfl, kv⟩ off _ F2 N2
    obtain ⟨⟨pv, pk, px⟩, hp, q, k, tx, tn, rfl, hq, hkk, hKV⟩ := All2.get ha i v hv
    rw [h2.eq] at F2
    have nk' := nk.puts (pairsOf (ps.take i))
    have ht : puts c (pairsOf (ps.take (i + 1))) = put (puts c (pairsOf (ps.take i))) pk px := by
      rw [List.take_add_one, hp, pairsOf, List.map_append, ← puts_snoc]; rfl
    rw [ht]
    generalize puts c (pairsOf (ps.take i)) = c' at *
    have n1 : @Ne Nat d It := off _ (.head _)
    have n2 : @Ne Nat q d := hx _ (.tail _ hq)
    have n3 : @Ne Nat k d := hx _ (.tail _ hkk)
    replace N2 := N2.perm (news' := (It, oI) :: (d, plObj es' n') :: (q, tupleOf #[.ref k, .int px tx] 0) :: (k, tupleOf #[pv, .str (up pk) tn] 0) :: (D, LCg.lst ys) :: rest) (by intro p hp; simp only [List.mem_cons] at hp ⊢; rcases hp with h | h | h | h | h <;> simp_all)
    clear F1 N1 N F
    k_steps
    refine' LoopPost.intro ((d, plObj ?e ?n) :: (D, LCg.lst ys) :: rest) ?F ?N ?s ?a ⟨?two, ?e, ?n, rfl, ?kv⟩
    case F => assumption
    case N => assumption
    case kv => assumption
    case s => ktr_rel
    case a => rfl
    case two => intro z z1 z2; simp only [if_neg z1, if_neg z2]
  case done =>
    rintro m₁ news₁ h tk ⟨_, es', n', rfl, kv⟩ F3 N3
    rw [ha.length, List.take_length] at kv
    clear F1 N1 N F
    k_steps
    exact ret _ _ _ _ (by assumption) (by assumption) (News.perm (by assumption) (by ktr_rel))
end

/-! ## a for-loop over a plain dict's items -/
abbrev itemsIt (d : Addr) (n : Nat) (ep : Nat) : Obj := { cls := .type "dict_itemiterator", data := .fields #[.none, .bool false, .ref d, .int 0 0, .int n 0, .int ep 0, .none, .none] }
def LoopPostO (h₀ : Heap) (L : Addr) (J : (Str → Option Value) → List (Addr × Obj) → Prop) (own : List (Addr × Obj)) (adr : List Addr) (s₁ : Shared) (f : Flow) (s₂ : Shared) : Prop :=
  f = .next ∧ ∃ h' tk m' news', s₂ = { s₁ with heap := h', toks := tk } ∧ Fr h₀ L h' m' ∧ News h₀ L h' (own ++ news') ∧ news'.map (·.1) = adr ∧ J m' news'
theorem LoopPostO.intro {h₀ : Heap} {L : Addr} {J : (Str → Option Value) → List (Addr × Obj) → Prop} {own : List (Addr × Obj)} {adr : List Addr} {s₁ : Shared} {h' : Heap} {tk : Nat} {m' : Str → Option Value} {led : List (Addr × Obj)} (news' : List (Addr × Obj)) (F : Fr h₀ L h' m') (N : News h₀ L h' led) (hs : ∀ p ∈ own ++ news', p ∈ led) (ha : news'.map (·.1) = adr) (hj : J m' news') :
    LoopPostO h₀ L J own adr s₁ .next { s₁ with heap := h', toks := tk } := ⟨rfl, h', tk, m', news', rfl, F, fun p hp => N p (hs p hp), ha, hj⟩
section
variable {prog : Program} {w : World} {A : Around} {E : Value → Shared → Prop} {s : Shared} {env : Env} {h₀ : Heap} {body : List Stmt} {Q : Flow → Shared → Prop}
theorem For_code {target iter : Expr} {pos : Pos} (h : wpAny (model prog w) A (eval iter env) (fun xv s₁ => wpAny (model prog w) A (pyIter xv) (fun it s₂ => codeAny (model prog w) A (.forLoop target it body [] env) (fun r s' => match r with | .ok f => Q f s' | .error e => cameBackBy (model prog w) A env E e s') s₂) E s₁) E s)
    (hs : ∀ x, foldedSetIterable iter env x = pure x) : wpAny (model prog w) A (exec (.For target iter body [] pos) env) Q E s := wpAny_For h hs
theorem entry_itemit_iter : entryFor table "dict_itemiterator.__iter__" = some Builtin.«dict_keyiterator.__iter__» := entryFor_alias (id' := "dict_keyiterator.__iter__") (by kernel_rfl) (by decide +kernel) (by decide +kernel) (by kernel_rfl)
theorem self_items {it d : Addr} {n ep : Nat} {Q : Value → Shared → Prop} (ho : s.heap.get? it = some (itemsIt d n ep)) (h : Q (.ref it) s) : wpAny (model prog w) A (pyIter (.ref it)) Q E s := by
  have hT : s.TypeIs (.ref it) "dict_itemiterator" := ⟨_, ho, rfl⟩
  refine wpAny_pyIter_slot hT F.slot_dict_itemiterator_iter (wpAny_call_entry F.slot_dict_itemiterator_iter hT entry_itemit_iter ?_ (F.args_dict_itemiterator_iter_1 _))
  show wpAny _ _ (ret (.ref it)) _ _ s
  exact wpAny_pure ⟨_, rfl, "dict_itemiterator", _, hT, F.slot_dict_itemiterator_next.lookup, h⟩
theorem loop_items {it d : Addr} {es : List DictEntry} {n : Nat} {c : C} {f : Nm → Str} {xk xv : Str} {pk pv pt : Pos} {x1 : Nat} {m₀ : Str → Option Value} {news : List (Addr × Obj)} (J : Nat → (Str → Option Value) → List (Addr × Obj) → Prop)
    (hh : A.handled = none) (hxk : env.kindOf xk = some .local) (hxv : env.kindOf xv = some .local) (hp : (env.scope.kind == .class || (env.scope.kind == .module && env.locals != env.globals)) = false)
    (F₀ : Fr h₀ env.locals s.heap m₀) (N : News h₀ env.locals s.heap ((it, itemsIt d c.length n) :: news)) (hnw : ∀ p ∈ news, p.1 ≠ it) (hd : (d, plObj es n) ∈ news) (hf : ∀ a b, f a = f b → a = b) (hc : KV w f es c) (nk : NK c)
    (hj : J 0 m₀ news) (keep : ∀ i m k, J i m k → (d, plObj es n) ∈ k)
    (turn : ∀ i k y t u m₁ news₁ (s₁ : Shared) own, c[i]? = some (k, y) → J i m₁ news₁ → (∀ p ∈ news₁, p.1 ≠ it) → (∀ p ∈ own, p.1 = it ∨ p.1 = d) → Fr h₀ env.locals s₁.heap (fun z => if z = xv then some (.int y u) else if z = xk then some (.str (f k) t) else m₁ z) → News h₀ env.locals s₁.heap (own ++ news₁) →
      wpAny (model prog w) A (execs body env) (LoopPostO h₀ env.locals (J (i + 1)) own (news₁.map (·.1)) s₁) E s₁)
    (done : ∀ m₁ news₁ h tk, J c.length m₁ news₁ → Fr h₀ env.locals h m₁ → News h₀ env.locals h news₁ → Q .next { s with heap := h, toks := tk })
    (hE : PassesOwn (model prog w) A env E := by passes_own) :
    wpAny (model prog w) A (pyIter (.ref it)) (fun itv s₂ => codeAny (model prog w) A (.forLoop (.Tuple [.Name xk pk, .Name xv pv] x1 pt) itv body [] env) (fun r s' => match r with | .ok f => Q f s' | .error e => cameBackBy (model prog w) A env E e s') s₂) E s := by
  have hit := (N _ (.head _)).1
  refine self_items hit ?_
  obtain ⟨kvs, hD, hK⟩ := kv_isDict (prog := prog) (n := n) hf hc nk
  have hdn := N _ (.tail _ hd)
  have hat : s.heap.DictAt (strKind prog w) d kvs n := by
    obtain ⟨es', ep, he, hdat, r⟩ := hD
    have e1 : ep = n := by injection hdat with _ e; exact e.symm
    subst e1
    exact ⟨_, es', hdn.1, he, hdat, r⟩
  have hl : kvs.length = c.length := All2.length hK
  have hN : News h₀ env.locals s.heap news := fun p hp => N p (.tail _ hp)
  have hidl : IsItemIter s.heap it d 0 kvs.length n .none .none := by rw [hl]; exact hit
  refine codeAny_forLoop_items_frU (knd := strKind prog w) (h₀ := h₀) (news := news) hh hxk hxv hp (N _ (.head _)).2.1 hdn.2.1 (hnw _ hd) (N _ (.head _)).2.2 (fun p hp h => hnw p hp (List.mem_singleton.mp h)) hidl hat F₀ hN J hj ?_ ?_
  · intro i k v key m₁ news₁ s₁ own hx hkey hJ hoff hown hat₁ F₁ N₁
    obtain ⟨⟨nm, y⟩, hci, e1, u, e2⟩ := All2.get hK i _ hx
    simp only at e1 e2
    subst e1 e2
    obtain ⟨t, rfl⟩ : ∃ t, key = .str (f nm) t := by
      have : key.isStrOf (f nm) = true := hkey
      cases key <;> first | cases this | skip
      rename_i x t
      have e3 : x = f nm := by simpa [Value.isStrOf] using this
      exact ⟨t, by rw [e3]⟩
    have hne : ∀ p ∈ news₁, p.1 ≠ it := fun p hp e => hoff p hp (by rw [e]; exact .head _)
    have ho : ∀ p ∈ own, p.1 = it ∨ p.1 = d := fun p hp => (List.mem_cons.mp (hown p hp)).imp id List.mem_singleton.mp
    refine wpAny_mono (wpAny_passesOwn hE (turn i nm y t u m₁ news₁ s₁ own hci hJ hne ho F₁ N₁)) (fun fl s₃ q => ?_) fun _ _ e => e
    obtain ⟨rfl, h', tk, m', news', rfl, F', N', ha, hJ'⟩ := q
    refine ⟨rfl, h', tk, m', news', rfl, F', N', fun p hp h => ?_, hJ'⟩
    have h1 : p.1 ∈ news₁.map (·.1) := by rw [← ha]; exact List.mem_map_of_mem hp
    obtain ⟨q, hq, e⟩ := List.mem_map.mp h1
    exact hne q hq (by rw [e]; exact List.mem_singleton.mp h)
  · intro h' tk m' news' F' N' _ hJ
    rw [hl] at hJ
    exact done _ _ _ _ hJ F' N'
end

/-! ## the items and keys of an object with a dict's data: iterators and their steps -/
abbrev itObj (c0 f : Value) (d : Addr) (i n ep : Nat) (ok ov : Value) : Obj := { cls := .type "dict_itemiterator", data := .fields #[c0, f, .ref d, .int i 0, .int n 0, .int ep 0, ok, ov] }
/-- an items iterator whose own tuple is not yet made, or stands in the heap -/
def ItSt (h : Heap) (it d : Addr) (i n ep : Nat) : Prop := ∃ c0 f ok ov, h.get? it = some (itObj c0 f d i n ep ok ov) ∧ ((c0 = .none ∧ f = .bool false) ∨ ∃ (a : Addr) (b : Bool) (oa : Obj), c0 = rawInt a ∧ f = .bool b ∧ h.get? a = some oa ∧ a ≠ it)
theorem ItSt.keep {h h' : Heap} {it d : Addr} {i n ep : Nat} (x : ItSt h it d i n ep) (k : ∀ b o, h.get? b = some o → h'.get? b = some o) : ItSt h' it d i n ep := by
  obtain ⟨c0, f, ok, ov, e, r⟩ := x
  refine ⟨c0, f, ok, ov, k _ _ e, r.imp id ?_⟩
  rintro ⟨a, b, oa, e1, e2, e3, e4⟩
  exact ⟨a, b, oa, e1, e2, k _ _ e3, e4⟩
theorem ItSt.keep' {h h' : Heap} {it d S : Addr} {i n ep : Nat} (x : ItSt h it d i n ep) (hS : it ≠ S) (hSs : ∀ o, h.get? S = some o → ∃ o', h'.get? S = some o') (k : ∀ b o, b ≠ S → h.get? b = some o → h'.get? b = some o) : ItSt h' it d i n ep := by
  obtain ⟨c0, f, ok, ov, e, r⟩ := x
  refine ⟨c0, f, ok, ov, k _ _ hS e, r.imp id ?_⟩
  rintro ⟨a, b, oa, e1, e2, e3, e4⟩
  by_cases q : a = S
  · subst q
    obtain ⟨o', e'⟩ := hSs _ e3
    exact ⟨a, b, o', e1, e2, e', e4⟩
  · exact ⟨a, b, oa, e1, e2, k _ _ q e3, e4⟩
section
variable {prog : Program} {w : World} {A : Around} {E : Value → Shared → Prop} {s : Shared}
theorem nx_item {it d : Addr} {od : Obj} {es : List DictEntry} {i ep : Nat} {e : DictEntry} {Q : Option Value → Shared → Prop} (hst : ItSt s.heap it d i es.length ep) (hod : s.heap.get? d = some od) (hdd : od.data = .dict es.toArray ep) (hx : es[i]? = some e)
    (hQ : ∀ h', ItSt h' it d (i + 1) es.length ep → h'.get? s.heap.objs.size = some { cls := .type "tuple", data := .seq #[e.key, e.val] } → h'.objs.size = s.heap.objs.size + 1 →
      (∀ b o, b ≠ it → s.heap.get? b = some o → h'.get? b = some o) → Q (some (.ref s.heap.objs.size)) { s with heap := h' }) :
    wpAny (model prog w) A (pyNext (.ref it)) Q E s := by
  obtain ⟨hp, g, dr, tk, os⟩ := s
  obtain ⟨c0, f, ok, ov, hit, hc0⟩ := hst
  have hT : Shared.TypeIs ⟨hp, g, dr, tk, os⟩ (.ref it) "dict_itemiterator" := ⟨_, hit, rfl⟩
  unfold pyNext
  refine wpAny_bind (wpAny_attempt (wpAny_callSpecial?_slot (name := Str.ofString "__next__") hT PySem.F.slot_dict_itemiterator_next
    (wpAny_call_entry PySem.F.slot_dict_itemiterator_next hT PySem.F.entry_dict_itemiterator_next ?_ (PySem.F.args_dict_itemiterator_next_1 _))))
  refine wpAny_bind (wpAny_pure ?_)
  refine wpAny_bind ?_
  refine wpAny_bind ?_
  refine wpAny_bind (wpAny_typeNameOfWhole_itemiter hT (wpAny_pure ?_))
  refine wpAny_bind (wpAny_fieldsOf hit rfl ?_)
  have hown : Builtin.Dict_items.ownsTuple "dict_itemiterator" = true := by decide
  simp only [hown, if_true]
  show wpAny _ _ (if (Value.ref d == Value.none) = true then _ else _) _ _ _
  rw [if_neg (show ¬ ((Value.ref d == Value.none) = true) from Bool.false_ne_true)]
  refine wpAny_bind (wpAny_pure ?_)
  refine wpAny_bind (wpAny_dictEntries hod hdd ?_)
  rw [if_neg (by simp)]
  refine wpAny_bind (wpAny_pure ?_)
  refine wpAny_bind (wpAny_dictEpoch hod hdd ?_)
  rw [if_neg (by simp)]
  refine wpAny_pure ?_
  have hget : es.toArray[i]? = some e := by simpa using hx
  simp only [show ¬ ((i : Int) < 0) from by omega, if_false, Int.toNat_natCast, hget]
  refine wpAny_bind ?_
  refine wpAny_bind (wpAny_typeNameOfWhole_itemiter hT (wpAny_pure ?_))
  refine wpAny_bind (wpAny_isOneOf_itemiter hT ?_)
  show wpAny _ _ (setField (.ref it) 3 (rawInt ((i : Int) + 1)) >>= _) _ _ ⟨hp, g, dr, tk, os⟩
  refine wpAny_bind (wpAny_setField_rec hit (by simp) fun h₁ he₁ hs₁ => ?_)
  replace hs₁ : Heap.SameBut it hp h₁ := hs₁
  replace he₁ : h₁.get? it = some (itObj c0 f d (i + 1) es.length ep ok ov) := by
    have e : ((i + 1 : Nat) : Int) = (i : Int) + 1 := by omega
    unfold itObj; rw [e]; simpa [rawInt] using he₁
  have hT₁ : Shared.TypeIs ⟨h₁, g, dr, tk, os⟩ (.ref it) "dict_itemiterator" := ⟨_, he₁, rfl⟩
  refine wpAny_bind (wpAny_holding ?_)
  refine wpAny_bind (wpAny_isOneOf_itemiter hT₁ ?_)
  refine wpAny_bind (wpAny_isOneOf_itemiter hT₁ ?_)
  show wpAny _ _ (Builtin.Dict_items.pairFromOwner (.ref it) 6 e.key e.val) _ _ ⟨h₁, g, dr, tk, os⟩
  unfold Builtin.Dict_items.pairFromOwner
  refine wpAny_bind (wpAny_newTuple ?_)
  have he₂ : (h₁.push { cls := .type "tuple", data := .seq #[e.key, e.val] }).get? it = some (itObj c0 f d (i + 1) es.length ep ok ov) := Heap.get?_push_of_some _ he₁
  generalize hh₂ : h₁.push { cls := .type "tuple", data := .seq #[e.key, e.val] } = h₂ at he₂
  have hz₁ : h₁.objs.size = hp.objs.size := hs₁.1
  have hil : it < hp.objs.size := Heap.lt_size hit
  have ht₂ : h₂.get? hp.objs.size = some { cls := .type "tuple", data := .seq #[e.key, e.val] } := by rw [← hh₂, ← hz₁]; exact Heap.get?_push_size _ rfl
  have hz₂ : h₂.objs.size = hp.objs.size + 1 := by rw [← hh₂, Heap.size_push, hz₁]
  have hk₂ : ∀ b o, b ≠ it → hp.get? b = some o → h₂.get? b = some o := fun b o hb q => by rw [← hh₂]; exact Heap.get?_push_of_some _ (hs₁.extBut b o hb q)
  show wpAny _ _ (Builtin.Dict_items.ownedTupleIsFree (.ref it) >>= _) _ _ ⟨h₂, g, dr, tk, os⟩
  rw [hz₁]
  clear hh₂ he₁ hs₁ hT₁ hz₁ h₁
  refine wpAny_bind ?_
  unfold Builtin.Dict_items.ownedTupleIsFree
  have neq : hp.objs.size ≠ it := Nat.ne_of_gt hil
  rcases hc0 with ⟨rfl, rfl⟩ | ⟨a, fb, oa, rfl, rfl, ha, hai⟩
  · refine wpAny_bind (wpAny_field he₂ rfl (x := .none) rfl (wpAny_pure ?_))
    simp only [if_true]
    refine wpAny_bind (wpAny_field he₂ rfl (x := ok) rfl ?_)
    refine wpAny_bind (wpAny_field he₂ rfl (x := ov) rfl ?_)
    refine wpAny_bind (wpAny_setField_rec he₂ (by simp) fun h₃ he₃ hs₃ => ?_)
    refine wpAny_bind (wpAny_setField_rec he₃ (by simp) fun h₄ he₄ hs₄ => ?_)
    refine wpAny_bind (wpAny_setField_rec he₄ (by simp) fun h₅ he₅ hs₅ => ?_)
    refine wpAny_bind (wpAny_setField_rec he₅ (by simp) fun h₆ he₆ hs₆ => ?_)
    replace hs₃ : Heap.SameBut it h₂ h₃ := hs₃
    replace hs₄ : Heap.SameBut it h₃ h₄ := hs₄
    replace hs₅ : Heap.SameBut it h₄ h₅ := hs₅
    replace hs₆ : Heap.SameBut it h₅ h₆ := hs₆
    have up : ∀ b o, b ≠ it → h₂.get? b = some o → h₆.get? b = some o := fun b o hb q => hs₆.extBut b o hb (hs₅.extBut b o hb (hs₄.extBut b o hb (hs₃.extBut b o hb q)))
    refine wpAny_bind (wpAny_letGo (wpAny_pure (wpAny_pure ⟨_, rfl, wpAny_pure (hQ h₆ ⟨rawInt hp.objs.size, .bool false, e.key, e.val, he₆, .inr ⟨_, false, _, rfl, rfl, up _ _ neq ht₂, neq⟩⟩ (up _ _ neq ht₂) ?_ fun b o hb q => up b o hb (hk₂ b o hb q))⟩)))
    show h₆.objs.size = hp.objs.size + 1
    rw [hs₆.1, hs₅.1, hs₄.1, hs₃.1, hz₂]
  · refine wpAny_bind (wpAny_field he₂ rfl (x := rawInt a) rfl ?_)
    show wpAny _ _ (loadIfAlive ((a : Int).toNat) >>= _) _ _ _
    rw [Int.toNat_natCast]
    have ha₂ : h₂.get? a = some oa := hk₂ a oa hai ha
    refine wpAny_bind (kdx_alive ha₂ ?_)
    simp only [Option.isNone_some, Bool.false_eq_true, if_false]
    refine wpAny_bind (wpAny_field he₂ rfl (x := .bool fb) rfl ?_)
    cases fb with
    | true =>
      rw [if_neg (show ¬ ((Value.bool true != Value.bool true) = true) from Bool.false_ne_true)]
      refine wpAny_pure ?_
      simp only [Bool.false_eq_true, if_false]
      exact wpAny_pure (wpAny_pure ⟨_, rfl, wpAny_pure (hQ h₂ ⟨_, _, _, _, he₂, .inr ⟨a, true, oa, rfl, rfl, ha₂, hai⟩⟩ ht₂ hz₂ hk₂)⟩)
    | false =>
      rw [if_pos (show (Value.bool false != Value.bool true) = true from rfl)]
      refine wpAny_bind (wpAny_setField_rec he₂ (by simp) fun h₃ he₃ hs₃ => ?_)
      replace hs₃ : Heap.SameBut it h₂ h₃ := hs₃
      refine wpAny_pure ?_
      simp only [Bool.false_eq_true, if_false]
      refine wpAny_pure (wpAny_pure ⟨_, rfl, wpAny_pure (hQ h₃ ⟨_, _, _, _, he₃, .inr ⟨a, true, oa, rfl, rfl, hs₃.extBut _ _ hai ha₂, hai⟩⟩ (hs₃.extBut _ _ neq ht₂) ?_ fun b o hb q => hs₃.extBut b o hb (hk₂ b o hb q))⟩)
      show h₃.objs.size = hp.objs.size + 1
      rw [hs₃.1, hz₂]
theorem nx_end {it d : Addr} {od : Obj} {es : List DictEntry} {ep : Nat} {Q : Option Value → Shared → Prop} (hh : A.handled = none) (hst : ItSt s.heap it d es.length es.length ep) (hod : s.heap.get? d = some od) (hdd : od.data = .dict es.toArray ep)
    (hQ : ∀ h', Heap.ExtBut it s.heap h' → Q none { s with heap := h' }) : wpAny (model prog w) A (pyNext (.ref it)) Q E s := by
  obtain ⟨c0, f, ok, ov, hit, _⟩ := hst
  have hT : s.TypeIs (.ref it) "dict_itemiterator" := ⟨_, hit, rfl⟩
  unfold pyNext
  refine wpAny_bind (wpAny_attempt (wpAny_callSpecial?_slot (name := Str.ofString "__next__") hT PySem.F.slot_dict_itemiterator_next
    (wpAny_call_entry PySem.F.slot_dict_itemiterator_next hT PySem.F.entry_dict_itemiterator_next ?_ (PySem.F.args_dict_itemiterator_next_1 _))))
  refine wpAny_bind (wpAny_pure ?_)
  refine wpAny_bind ?_
  refine wpAny_bind ?_
  refine wpAny_bind (wpAny_typeNameOfWhole_itemiter hT (wpAny_pure ?_))
  refine wpAny_bind (wpAny_fieldsOf hit rfl ?_)
  have hown : Builtin.Dict_items.ownsTuple "dict_itemiterator" = true := by decide
  simp only [hown, if_true]
  show wpAny _ _ (if (Value.ref d == Value.none) = true then _ else _) _ _ s
  rw [if_neg (show ¬ ((Value.ref d == Value.none) = true) from Bool.false_ne_true)]
  refine wpAny_bind (wpAny_pure ?_)
  refine wpAny_bind (wpAny_dictEntries hod hdd ?_)
  rw [if_neg (by simp)]
  refine wpAny_bind (wpAny_pure ?_)
  refine wpAny_bind (wpAny_dictEpoch hod hdd ?_)
  rw [if_neg (by simp)]
  refine wpAny_pure ?_
  have hget : es.toArray[es.length]? = none := by simp
  simp only [show ¬ ((es.length : Int) < 0) from by omega, if_false, Int.toNat_natCast, hget]
  refine wpAny_bind ?_
  refine wpAny_bind (wpAny_typeNameOfWhole_itemiter hT (wpAny_pure ?_))
  show wpAny _ _ (setField (.ref it) 2 .none >>= _) _ _ s
  refine wpAny_bind (wpAny_setField hit rfl (by simp) ?_)
  show wpAny _ _ (newExc (.type "StopIteration") [] >>= _) _ _ _
  refine wpAny_bind ?_
  simp only [newExc, newTuple]
  refine wpAny_bind (wpAny_newObj_type ?_ (by size_fits))
  refine wpAny_bind (m := firstArgMember _ _) (wpAny_of_eq (a := Value.none) (by first | rfl | (simp only [firstArgMember]; rfl)) ?_)
  refine wpAny_newObj_type ?_ (by size_fits)
  simp only [raiseNew]
  refine wpAny_bind (wpAny_handled ?_)
  rw [show A.in1.handled = none from hh]
  refine wpAny_bind (wpAny_pure (wpAny_throw ?_))
  refine wpAny_bind (wpAny_isInstance (T := "StopIteration") (b := true) ⟨_, Heap.get?_push_size _ rfl, rfl⟩ isSubtype_stop ?_)
  exact wpAny_pure (hQ _ (((Heap.SameBut.update ..).extBut.push _).push _))
theorem it_items {v d : Addr} {od : Obj} {es : List DictEntry} {ep : Nat} {Q : Value → Shared → Prop} (hv : s.heap.get? v = some { cls := .type "dict_items", data := .fields #[.ref d] }) (hod : s.heap.get? d = some od) (hdd : od.data = .dict es.toArray ep)
    (hQ : Q (.ref s.heap.objs.size) { s with heap := s.heap.push (itemsIt d es.length ep) }) : wpAny (model prog w) A (pyIter (.ref v)) Q E s := by
  have hT : s.TypeIs (.ref v) "dict_items" := ⟨_, hv, rfl⟩
  refine wpAny_pyIter_slot hT PySem.F.slot_dict_items_iter (wpAny_call_entry PySem.F.slot_dict_items_iter hT PySem.F.entry_dict_items_iter ?_ (PySem.F.args_dict_items_iter_1 _))
  unfold Builtin.«dict_items.__iter__»
  refine wpAny_bind (wpAny_pure ?_)
  refine wpAny_bind ?_
  unfold Builtin.Dict_items.dictOf
  refine wpAny_bind (wpAny_field hv rfl (x := .ref d) rfl (wpAny_pure ?_))
  refine wpAny_bind ?_
  unfold Builtin.Dict_items.newIterator
  refine wpAny_bind (wpAny_dictEntries hod hdd ?_)
  refine wpAny_bind (wpAny_dictEpoch hod hdd ?_)
  have hown : Builtin.Dict_items.ownsTuple "dict_itemiterator" = true := by decide
  simp only [hown, if_true]
  refine wpAny_newObj_type (wpAny_pure ⟨_, rfl, "dict_itemiterator", _, ⟨_, Heap.get?_push_size _ rfl, rfl⟩, PySem.F.slot_dict_itemiterator_next.lookup, ?_⟩)
    (by simp only [sizeOk, Builtin.Dict_items.ownedTupleFields, List.size_toArray, List.length_append, List.length_cons, List.length_nil, sizeLine_eq]; omega)
  simpa [rawInt, Builtin.Dict_items.ownedTupleFields] using hQ
end

/-! ## hasattr(.., 'items') -/
section
open Builtin
theorem gm_items {x : Addr} : «method_descriptor.__get__» ⟨[.builtin "dict.items", .ref x, .type "dict"], []⟩ = bindTree "items" "builtin_function_or_method" x (.builtin "dict.items") := by kernel_rfl
theorem ty_items : typeOf (.builtin "dict.items") = pure (.type "method_descriptor") := by show builtinType _ = _; rw [builtinType_eq_fast]; kernel_rfl
theorem lk_items : typeLookup (.type "dict") "items" = pure (some (.builtin "dict.items")) := by rw [typeLookup_type, builtinLookup_eq_fast]; kernel_rfl
theorem lk_mset : typeLookup (.type "method_descriptor") "__set__" = pure none := by rw [typeLookup_type, builtinLookup_eq_fast]; kernel_rfl
theorem lk_mdel : typeLookup (.type "method_descriptor") "__delete__" = pure none := by rw [typeLookup_type, builtinLookup_eq_fast]; kernel_rfl
end
section
variable {prog : Program} {w : World} {A : Around} {E : Value → Shared → Prop} {h : Heap} {g : Array GenState} {d : Drawn} {t : Nat} {os : OsState} {a : Addr} {es : List DictEntry} {n : Nat}
theorem looks_dict {M : Model} {h : Heap} {a : Addr} {o : Obj} (hx : h.get? a = some o) (hc : o.cls = .type "dict") : Looks M h (isInstance (.ref a) (.type "dict")) true := by
  intro A Q E s k q
  have hT : s.TypeIs (.ref a) "dict" := ⟨_, k _ _ hx, hc⟩
  have f : isSubtype (.type "dict") (.type "dict") = pure true := by rw [isSubtype_type]; kernel_rfl
  repeat (any_goals (first | assumption | wp_step))
theorem items_entry {tk : Tok} {Q : PySem.Fin → Shared → Prop} (hx : h.get? a = some (plObj es n)) (hq : Q (.done (.ret (.ref h.objs.size))) ⟨h.push (boundObj "builtin_function_or_method" (.builtin "dict.items") a), g, d, t, os⟩) :
    wpAny (model prog w) A (Builtin.«object.__getattribute__» ⟨[.ref a, .str "items" tk], []⟩) Q E ⟨h, g, d, t, os⟩ := by
  have hT : (⟨h, g, d, t, os⟩ : Shared).TypeIs (.ref a) "dict" := ⟨_, hx, rfl⟩
  have f4 := lk_items
  have f5 := ty_items
  have f6 := slot_mget.lookup
  have f7 := lk_mset
  have f8 := lk_mdel
  repeat (any_goals (first | assumption | wp_step))
  refine codeAny_call_builtin slot_mget.plain entry_mget (slot_mget.check _ _ _ _ _ _ _ _ (show (⟨h, g, d, t, os⟩ : Shared).TypeIs (.builtin "dict.items") "method_descriptor" from ty_items) (args_mget _ _ _) ?_)
  rw [gm_items]
  exact bind_tree (looks_dict hx rfl) (wpAny_pure hq)
theorem items_by {tk : Tok} {Q : Value → Shared → Prop} (hx : h.get? a = some (plObj es n)) (hq : Q (.ref h.objs.size) ⟨h.push (boundObj "builtin_function_or_method" (.builtin "dict.items") a), g, d, t, os⟩) : wpAny (model prog w) A (getAttrBy (.ref a) (.str "items" tk) false) Q E ⟨h, g, d, t, os⟩ := by
  have hT : (⟨h, g, d, t, os⟩ : Shared).TypeIs (.ref a) "dict" := ⟨_, hx, rfl⟩
  have f2 := F.slot_dict_getattribute.lookup
  have f3 := F.slot_dict_getattribute.bind (.ref a)
  repeat (any_goals (first | assumption | wp_step))
  refine codeAny_call_builtin F.slot_dict_getattribute.plain F.entry_dict_ga (F.slot_dict_getattribute.check _ _ _ _ _ _ _ _ hT (F.args_dict_getattribute_2 _ _) (items_entry hx ?_))
  repeat (any_goals (first | assumption | wp_step))
theorem ha_kind : builtinKind "hasattr" = none := by kernel_rfl
theorem ha_plain : plainId "hasattr" = true := by decide +kernel
theorem ha_entry : entryFor table "hasattr" = some Builtin.«hasattr» := entryFor_of_tree (by kernel_rfl)
theorem ha_args (a b : Value) : argsOk "hasattr" ⟨[a, b], []⟩ := by unfold argsOk; kernel_rfl
theorem lk_items_list : typeLookup (.type "list") "items" = pure none := by rw [typeLookup_type, builtinLookup_eq_fast]; kernel_rfl
theorem lk_dict_ga : typeLookup (.type "dict") "__getattribute__" = pure (some (.builtin "dict.__getattribute__")) := PySem.F.slot_dict_getattribute.lookup
theorem dict_no_mod : isSubtype (.type "dict") (.type "module") = pure false := by rw [isSubtype_type]; kernel_rfl
theorem list_no_mod : isSubtype (.type "list") (.type "module") = pure false := by rw [isSubtype_type]; kernel_rfl
theorem hasattr_dict {tk : Tok} {Q : Value → Shared → Prop} (hx : h.get? a = some (plObj es n)) (hq : Q (.bool true) ⟨h.push (boundObj "builtin_function_or_method" (.builtin "dict.items") a), g, d, t, os⟩) : wpAny (model prog w) A (call (.builtin "hasattr") [.ref a, .str "items" tk]) Q E ⟨h, g, d, t, os⟩ := by
  have hT : (⟨h, g, d, t, os⟩ : Shared).TypeIs (.ref a) "dict" := ⟨_, hx, rfl⟩
  have f4 := lk_items
  have f5 := lk_dict_ga
  have f6 := dict_no_mod
  refine Calls.call_function_entry ha_kind ha_plain ha_entry (ha_args _ _) ?_
  unfold Builtin.«hasattr»
  repeat (any_goals (first | assumption | with_reducible apply items_by hx | wp_step))
  exact ⟨_, rfl, hq⟩
theorem miss_by {xs : Array Value} {k : Nat} {tk : Tok} {Q : Value → Shared → Prop} (hx : h.get? a = some { cls := .type "list", data := .seq xs k }) (hA : A.handled = none)
    (hE : ∀ h' tk' e, Heap.NewAttrErr h h' e (.ref a) "items" → E (.ref e) ⟨h', g, d, tk', os⟩) : wpAny (model prog w) A (getAttrBy (.ref a) (.str "items" tk) false) Q E ⟨h, g, d, t, os⟩ := by
  have hT : ∀ tk', (⟨h, g, d, tk', os⟩ : Shared).TypeIs (.ref a) "list" := fun _ => ⟨_, hx, rfl⟩
  have f1 := sub_AttributeError
  have f3 := F.slot_list_getattribute.lookup
  have f4 := F.slot_list_getattribute.bind (.ref a)
  have f5 := am_list_getattr_none
  unfold getAttrBy
  repeat (any_goals (first | assumption | exact hT _ | ((with_reducible show wpAny _ _ (call (Value.builtin "list.__getattribute__") _ _) _ _ _); refine call_meets F.slot_list_getattribute (hT _) am_entry_list_getattribute (F.args_list_getattribute_2 _ _) (meets_getattribute_miss_list a xs k _ "items" _ lk_items_list (by decide +kernel) (by decide +kernel)) ⟨hx, hA, fun h' tk' e hx' => ?_⟩) | wp_step))
  obtain ⟨t', u', he⟩ := hx'.there
  show wpAny _ _ (getattributeRaised _ _ _ _ _ _ _) _ _ _
  unfold getattributeRaised
  repeat (any_goals (first | assumption | wp_step))
  exact hE _ _ _ hx'
theorem lk_list_ga : typeLookup (.type "list") "__getattribute__" = pure (some (.builtin "list.__getattribute__")) := PySem.F.slot_list_getattribute.lookup
theorem hasattr_list {xs : Array Value} {k : Nat} {tk : Tok} {Q : Value → Shared → Prop} (hx : h.get? a = some { cls := .type "list", data := .seq xs k }) (hA : A.handled = none)
    (hq : ∀ h' tk', (∀ b o, h.get? b = some o → h'.get? b = some o) → Q (.bool false) ⟨h', g, d, tk', os⟩) : wpAny (model prog w) A (call (.builtin "hasattr") [.ref a, .str "items" tk]) Q E ⟨h, g, d, t, os⟩ := by
  have hT : (⟨h, g, d, t, os⟩ : Shared).TypeIs (.ref a) "list" := ⟨_, hx, rfl⟩
  have f4 := lk_items_list
  have f5 := lk_list_ga
  have f6 := list_no_mod
  have f7 := sub_AttributeError
  refine Calls.call_function_entry ha_kind ha_plain ha_entry (ha_args _ _) ?_
  unfold Builtin.«hasattr» getAttrBy?
  repeat (any_goals (first | assumption | ((with_reducible show wpAny _ _ (getAttrBy _ _ _) _ _ _); refine miss_by hx (by first | exact hA | (show A.handled = none; exact hA)) (fun h' tk' e hx' => ?_)) | wp_step))
  obtain ⟨t', u', he⟩ := hx'.there
  repeat (any_goals (first | assumption | wp_step))
  exact ⟨_, rfl, hq _ _ hx'.keeps⟩
end

/-! ## the methods of CaselessDict -/
section
variable {w : World} {p : Program} {loose : List Str} {mean : ExcName → Option Value} {mg mb : Str → Option Value} {dp un : Nat} {gd : Option (List Code)} {cn : Str} {cs : Scope} {a L : Addr} {ccd : Value} {cl : List (Str × Addr)} {outer : List Env} {A₀ : Around} {base h₀ : Heap} {m : Str → Option Value} {s : Shared} {Q E : Value → Shared → Prop} {news rest : List (Addr × Obj)} {g : Obj → List (Addr × Obj)}
set_option pp.deepTerms false
set_option pp.maxSteps 3000
set_option pp.proofs false
theorem setitem_spec {x dx : Addr} {es : List DictEntry} {n : Nat} {c : C} {v : Value} {k : Nm} {y : Int} {ty : Tok}
   (Bl : Below A₀ base outer h₀) (F : Fr h₀ L s.heap m) (X : (hd.heap_39 w.params).In h₀) (N : News h₀ L s.heap ((x, cdObj dx es n) :: (dx, plObj [] 0) :: rest)) (T : Top p loose mean mg mb h₀) (hk : cs.kind = .function)
   (hx : ∀ p ∈ (dx, plObj [] 0) :: rest, p.1 ≠ x) (hv : KeyV v k) (hc : KV w up es c) (nk : NK c) (hd : dp + 40 < recursionLimit) (hu : un + 400 < cLine)
   (ret : ∀ es' n' tk' h', KV w up es' (put c k y) → Fr h₀ L h' m → News h₀ L h' ((x, cdObj dx es' n') :: (dx, plObj [] 0) :: rest) → Q .none { s with heap := h', toks := tk' }) :
   wpAny (model PySem.Challenge.rw_bf0001_01.row.prog w) (ktrTop dp un gd cn cs L a ccd cl outer) (call (.ref 73) [.ref x, v, .int y ty]) Q E s := by
  revert X; k_fill; intro X
  refine wpAny_call ?_
  k_dflt ktr_enter
  k_steps
  exact ret _ _ _ _ (by assumption) (by assumption) (News.perm (by assumption) (by ktr_rel))
end
section
variable {w : World} {p : Program} {loose : List Str} {mean : ExcName → Option Value} {mg mb : Str → Option Value} {dp un : Nat} {gd : Option (List Code)} {cn : Str} {cs : Scope} {a L : Addr} {ccd : Value} {cl : List (Str × Addr)} {outer : List Env} {A₀ : Around} {base h₀ : Heap} {m : Str → Option Value} {s : Shared} {Q E : Value → Shared → Prop} {news rest : List (Addr × Obj)} {g : Obj → List (Addr × Obj)}
theorem setitem_use {x dx : Addr} {es : List DictEntry} {n : Nat} {c : C} {v : Value} {k : Nm} {y : Int} {ty : Tok}
   (Bl : Below A₀ base outer h₀) (F : Fr h₀ L s.heap m) (X : (hd.heap_39 w.params).In h₀) (N : News h₀ L s.heap news) (T : Top p loose mean mg mb h₀) (hk : cs.kind = .function)
   (U : UpdF x (cdObj dx es n) news g) (h2 : (dx, plObj [] 0) ∈ news) (hv : KeyV v k) (hc : KV w up es c) (nk : NK c) (hne : dx ≠ x) (hd : dp + 40 < recursionLimit) (hu : un + 400 < cLine)
   (ret : ∀ es' n' tk' h', KV w up es' (put c k y) → Fr h₀ L h' m → News h₀ L h' (g (cdObj dx es' n')) → Q .none { s with heap := h', toks := tk' }) :
   wpAny (model PySem.Challenge.rw_bf0001_01.row.prog w) (ktrTop dp un gd cn cs L a ccd cl outer) (call (.ref 73) [.ref x, v, .int y ty]) Q E s := by
  obtain ⟨rest, h1, h3, h4⟩ := upd_mem U
  have h5 : (dx, plObj [] 0) ∈ rest := by
    rcases List.mem_cons.mp ((h3 _).mpr h2) with e | h
    · exact absurd (congrArg Prod.fst e) hne
    · exact h
  refine setitem_spec (rest := rest) (dx := dx) (n := n) Bl F X (N.perm fun p hp => ?_) T hk (fun p hp => ?_) hv hc nk hd hu fun es' n' tk' h' kv F' N' => ret es' n' tk' h' kv F' (N'.perm fun p hp => ?_)
  · rcases List.mem_cons.mp hp with rfl | hp
    · exact (h3 _).mp (.head _)
    · rcases List.mem_cons.mp hp with rfl | hp
      · exact h2
      · exact (h3 _).mp (.tail _ hp)
  · rcases List.mem_cons.mp hp with rfl | hp
    · exact hne
    · exact h1 _ hp
  · rcases List.mem_cons.mp ((h4 _ p).mp hp) with rfl | hp
    · exact .head _
    · exact .tail _ (.tail _ hp)
end
local macro_rules | `(tactic| walk_at "call ref") => `(tactic| (k_here; (with_reducible show wpAny _ _ (call (Value.ref 73) [_, _, _]) _ _ _); k_dflt (refine' setitem_use ?k1 ?k2 ?k3 ?k4 ?k5 ?k6 ?k7 ?k8 ?k9 ?kC ?kD ?kE ?kA ?kB ?_; (case k1 | k2 | k3 | k4 | k5 => k_asm); (case k6 => first | assumption | exact rfl); (case k7 => k_updF); (case k8 => k_mem); (case k9 => k_asm); (case kC | kD => assumption); (case kE => k_ne); (case kA => ktr_room); (case kB => ktr_units); k_whole; intro es' n' tk' h' kv' F' N'; (try dsimp only at N'))))

/-! ## a method of a CaselessDict, looked up for a call -/
section
variable {prog : Program} {w : World} {A : Around} {E : Value → Shared → Prop} {s : Shared} {K : Frag} {x C : Addr} {ox : Obj} {od : Option Obj} {name : Str} {pl : Sem Bool} {Q : Value × List Value → Shared → Prop}
theorem canon_dga : (Manifest.canonical "dict.__getattribute__" != "object.__getattribute__") = false := by decide +kernel
theorem cmethod {f t : Value} (X : K.In s.heap) (I : InstAt s.heap x ox C od) (hga : findIn K (.ref C) "__getattribute__" = some (some (.builtin "dict.__getattribute__"))) (hk : findIn K (.ref C) "__getattr__" = some none)
    (hf : findIn K (.ref C) name = some (some f)) (ht : Looks (model prog w) s.heap (typeOf f) t) (htt : (t != .type "function" && t != .type "method_descriptor" && t != .type "wrapper_descriptor") = false) (hs : shadowIn od name = some false) (h : Q (f, [.ref x]) s) :
    wpAny (model prog w) A (getMethod (.ref x) name pl) Q E s := by
  unfold getMethod specialOf
  refine wpAny_bind (wpAny_bind (I.type.here ((looks_findIn X hga).here ?_)))
  dsimp only
  rw [canon_dga, if_neg (by decide)]
  refine wpAny_bind (wpAny_bind (I.type.here ((looks_findIn X hk).here ?_)))
  refine wpAny_bind (wpAny_bind (I.type.here ((looks_findIn X hf).here (wpAny_bind (ht.here ?_)))))
  rw [htt, if_neg (by decide)]
  refine wpAny_bind (wpAny_loadPart I.at_ ?_)
  have hd := I.dict
  cases e : ox.dict with
  | none => exact wpAny_bind (wpAny_rule (wpAny_pure h))
  | some dx =>
    cases od with
    | none => rw [e] at hd; exact hd.elim
    | some o =>
      rw [e] at hd
      obtain ⟨r, a, b⟩ := Option.map_eq_some_iff.mp hs
      refine wpAny_bind (wpAny_bind (wpAny_loadPart hd ?_))
      rw [nsLook_of a]
      refine wpAny_pure ?_
      rw [b]
      exact wpAny_bind (wpAny_rule (wpAny_pure h))
end
section
variable {w : World} {A : Around} {E : Value → Shared → Prop} {s : Shared} {h₀ : Heap} {L x dx : Addr} {m : Str → Option Value} {news : List (Addr × Obj)} {es : List DictEntry} {n : Nat} {name : Str} {pl : Sem Bool} {Q : Value × List Value → Shared → Prop}
theorem cd_fn {f : Addr} (F : Fr h₀ L s.heap m) (X₀ : (hd.heap_39 w.params).In h₀) (N : News h₀ L s.heap news) (h1 : (x, cdObj dx es n) ∈ news) (h2 : (dx, plObj [] 0) ∈ news) (hf : findIn (hd.heap_39 w.params) (.ref 169) name = some (some (.ref f))) (ht : typeIn (hd.heap_39 w.params) (.ref f) = some (.type "function"))
    (hs : shadowIn (some (plObj [] 0)) name = some false) (h : Q (.ref f, [.ref x]) s) : wpAny (model PySem.Challenge.rw_bf0001_01.row.prog w) A (getMethod (.ref x) name pl) Q E s :=
  cmethod (X₀.keeps F.keep) (cd_inst N h1 h2) (by kernel_rfl) (by kernel_rfl) hf (looks_typeIn (X₀.keeps F.keep) ht) (by decide) hs h
theorem cd_bi {id : String} (F : Fr h₀ L s.heap m) (X₀ : (hd.heap_39 w.params).In h₀) (N : News h₀ L s.heap news) (h1 : (x, cdObj dx es n) ∈ news) (h2 : (dx, plObj [] 0) ∈ news) (hf : findIn (hd.heap_39 w.params) (.ref 169) name = some (some (.builtin id))) (ht : typeOf (.builtin id) = pure (.type "method_descriptor"))
    (hs : shadowIn (some (plObj [] 0)) name = some false) (h : Q (.builtin id, [.ref x]) s) : wpAny (model PySem.Challenge.rw_bf0001_01.row.prog w) A (getMethod (.ref x) name pl) Q E s :=
  cmethod (X₀.keeps F.keep) (cd_inst N h1 h2) (by kernel_rfl) (by kernel_rfl) hf (Looks.of_pure ht) (by decide) hs h
theorem cf_update : findIn (hd.heap_39 w.params) (.ref 169) (Str.ofString "update") = some (some (.ref 138)) := by kernel_rfl
theorem cf_pop : findIn (hd.heap_39 w.params) (.ref 169) (Str.ofString "pop") = some (some (.ref 115)) := by kernel_rfl
theorem cf_popitem : findIn (hd.heap_39 w.params) (.ref 169) (Str.ofString "popitem") = some (some (.ref 123)) := by kernel_rfl
theorem cf_has_key : findIn (hd.heap_39 w.params) (.ref 169) (Str.ofString "has_key") = some (some (.ref 131)) := by kernel_rfl
theorem cf_sorted_keys : findIn (hd.heap_39 w.params) (.ref 169) (Str.ofString "sorted_keys") = some (some (.ref 159)) := by kernel_rfl
theorem cf_sorted_items : findIn (hd.heap_39 w.params) (.ref 169) (Str.ofString "sorted_items") = some (some (.ref 166)) := by kernel_rfl
theorem cf_items : findIn (hd.heap_39 w.params) (.ref 169) (Str.ofString "items") = some (some (.builtin "dict.items")) := by kernel_rfl
theorem cf_keys : findIn (hd.heap_39 w.params) (.ref 169) (Str.ofString "keys") = some (some (.builtin "dict.keys")) := by kernel_rfl
theorem ct_fn (f : Addr) (h : f = 138 ∨ f = 115 ∨ f = 123 ∨ f = 131 ∨ f = 159 ∨ f = 166) : typeIn (hd.heap_39 w.params) (.ref f) = some (.type "function") := by
  rcases h with rfl | rfl | rfl | rfl | rfl | rfl <;> kernel_rfl
end
section
variable {w : World} {A : Around} {E : Value → Shared → Prop} {s : Shared} {h₀ : Heap} {L x dx : Addr} {m : Str → Option Value} {news : List (Addr × Obj)} {es : List DictEntry} {n : Nat} {Q : Value → Shared → Prop}
theorem cd_isDict (F : Fr h₀ L s.heap m) (X₀ : (hd.heap_39 w.params).In h₀) (N : News h₀ L s.heap news) (h1 : (x, cdObj dx es n) ∈ news) (h2 : (dx, plObj [] 0) ∈ news) : Looks (model PySem.Challenge.rw_bf0001_01.row.prog w) s.heap (isInstance (.ref x) (.type "dict")) true :=
  (cd_inst N h1 h2).type.andThen (looks_subIn (X₀.keeps F.keep) kq_dict)
theorem cd_items (F : Fr h₀ L s.heap m) (X₀ : (hd.heap_39 w.params).In h₀) (N : News h₀ L s.heap news) (h1 : (x, cdObj dx es n) ∈ news) (h2 : (dx, plObj [] 0) ∈ news) (lo : (x == sysModules) = false)
    (h : ∀ v h', Fr h₀ L h' m → News h₀ L h' ((v, { cls := .type "dict_items", data := .fields #[.ref x] }) :: news) → (∀ p ∈ news, p.1 < v) → Q (.ref v) { s with heap := h' }) : wpAny (model PySem.Challenge.rw_bf0001_01.row.prog w) A (call (.builtin "dict.items") [.ref x]) Q E s :=
  call_sub PySem.F.slot_dict_items.plain PySem.F.entry_dict_items (n := "items") (by decide +kernel) (.inr (by decide +kernel)) (PySem.F.args_dict_items_1 _) (cd_isDict F X₀ N h1 h2)
    (b_items (no_cd X₀ F N h1 h2) lo ⟨_, rfl, h _ _ (F.push _) (News.push F N _) fun p hp => Heap.lt_size (N p hp).1⟩)
theorem cd_keys (F : Fr h₀ L s.heap m) (X₀ : (hd.heap_39 w.params).In h₀) (N : News h₀ L s.heap news) (h1 : (x, cdObj dx es n) ∈ news) (h2 : (dx, plObj [] 0) ∈ news) (lo : (x == sysModules) = false)
    (h : ∀ v h', Fr h₀ L h' m → News h₀ L h' ((v, { cls := .type "dict_keys", data := .fields #[.ref x] }) :: news) → (∀ p ∈ news, p.1 < v) → Q (.ref v) { s with heap := h' }) : wpAny (model PySem.Challenge.rw_bf0001_01.row.prog w) A (call (.builtin "dict.keys") [.ref x]) Q E s :=
  call_sub PySem.F.slot_dict_keys.plain PySem.F.entry_dict_keys (n := "keys") (by decide +kernel) (.inr (by decide +kernel)) (PySem.F.args_dict_keys_1 _) (cd_isDict F X₀ N h1 h2)
    (b_keys (no_cd X₀ F N h1 h2) lo ⟨_, rfl, h _ _ (F.push _) (News.push F N _) fun p hp => Heap.lt_size (N p hp).1⟩)
end
local macro_rules | `(tactic| walk_at "getMethod ref") => `(tactic| (k_here; k_dflt ((first | with_reducible refine' cd_fn ?F ?X ?N ?h1 ?h2 cf_update ?t ?s ?_ | with_reducible refine' cd_fn ?F ?X ?N ?h1 ?h2 cf_pop ?t ?s ?_ | with_reducible refine' cd_fn ?F ?X ?N ?h1 ?h2 cf_popitem ?t ?s ?_ | with_reducible refine' cd_fn ?F ?X ?N ?h1 ?h2 cf_has_key ?t ?s ?_ | with_reducible refine' cd_fn ?F ?X ?N ?h1 ?h2 cf_sorted_keys ?t ?s ?_ | with_reducible refine' cd_fn ?F ?X ?N ?h1 ?h2 cf_sorted_items ?t ?s ?_ | with_reducible refine' cd_bi ?F ?X ?N ?h1 ?h2 cf_items ?t ?s ?_ | with_reducible refine' cd_bi ?F ?X ?N ?h1 ?h2 cf_keys ?t ?s ?_); (case t => first | exact ct_fn _ (by simp) | exact PySem.F.type_dict_items | exact PySem.F.type_dict_keys); (case s => decide +kernel); (case F | X | N => k_asm); (case h1 | h2 => k_mem))))
local macro_rules | `(tactic| walk_at "call builtin:dict.items") => `(tactic| (k_here; k_dflt (refine' cd_items ?F ?X ?N ?h1 ?h2 ?l ?_; (case F | X | N => k_asm); (case h1 | h2 => k_mem); (case l => assumption); intro q' h' F' N' l1; (try k_lt l1))))
local macro_rules | `(tactic| walk_at "call builtin:dict.keys") => `(tactic| (k_here; k_dflt (refine' cd_keys ?F ?X ?N ?h1 ?h2 ?l ?_; (case F | X | N => k_asm); (case h1 | h2 => k_mem); (case l => assumption); intro q' h' F' N' l1; (try k_lt l1))))

theorem kd_getitem : builtinKind "dict.__getitem__" = some .method := by kernel_rfl
theorem kv_getitem : Manifest.varargsMethods.contains "dict.__getitem__" = false := by kernel_rfl
theorem kd_contains : builtinKind "dict.__contains__" = some .method := by kernel_rfl
theorem kv_contains : Manifest.varargsMethods.contains "dict.__contains__" = false := by kernel_rfl
theorem kd_pop : builtinKind "dict.pop" = some .method := by kernel_rfl
theorem kv_pop : Manifest.varargsMethods.contains "dict.pop" = false := by kernel_rfl
theorem kd_popitem : builtinKind "dict.popitem" = some .method := by kernel_rfl
theorem kv_popitem : Manifest.varargsMethods.contains "dict.popitem" = false := by kernel_rfl
def OptV (o : Option Int) (dv r : Value) : Prop := (o = none ∧ r = dv) ∨ ∃ y u, o = some y ∧ r = .int y u
section
variable {w : World} {A : Around} {E : Value → Shared → Prop} {s : Shared} {h₀ : Heap} {L u x dx : Addr} {m : Str → Option Value} {news : List (Addr × Obj)} {g : Obj → List (Addr × Obj)} {es : List DictEntry} {n : Nat} {c : C} {k : Nm} {t : Tok} {Q : Value → Shared → Prop} {od : Obj}
theorem sc_delitem {y : Int} (F : Fr h₀ L s.heap m) (N : News h₀ L s.heap news) (X : (hd.heap_39 w.params).In h₀) (hb : (u, boundObj "method-wrapper" (.builtin "dict.__delitem__") x) ∈ news) (h2 : (dx, od) ∈ news) (U : UpdF x (cdObj dx es n) news g) (hc : KV w up es c) (nk : NK c) (hl : look c k = some y)
    (ret : ∀ es' n' h' tk', KV w up es' (del c k) → Fr h₀ L h' m → News h₀ L h' (g (cdObj dx es' n')) → Q .none { s with heap := h', toks := tk' }) : wpAny (model PySem.Challenge.rw_bf0001_01.row.prog w) A (call (.ref u) [.str (up k) t]) Q E s :=
  have h1 := upd_in U
  bound_call (N _ hb).1 sup_delitem.hT sup_delitem.pl PySem.F.entry_dict_delitem (fun A Q E q => wpAny_of_eq cb_delitem q)
    (b_delitem (no_cd X F N h1 h2) up_inj (upd_at N U) rfl hc nk.size hl fun es' n' h' kv ho hs => ⟨_, rfl, ret _ _ _ _ kv (upd_back F N U hs ho).1 (upd_back F N U hs ho).2⟩)
theorem sc_getitem {y : Int} (F : Fr h₀ L s.heap m) (N : News h₀ L s.heap news) (X : (hd.heap_39 w.params).In h₀) (hb : (u, boundObj "builtin_function_or_method" (.builtin "dict.__getitem__") x) ∈ news) (h1 : (x, cdObj dx es n) ∈ news) (h2 : (dx, od) ∈ news) (hc : KV w up es c) (hl : look c k = some y)
    (ret : ∀ v tk', Q (.int y v) { s with toks := tk' }) : wpAny (model PySem.Challenge.rw_bf0001_01.row.prog w) A (call (.ref u) [.str (up k) t]) Q E s :=
  have ho : s.heap.get? x = some (cdObj dx es n) := (N _ h1).1
  bound_call (N _ hb).1 sup_getitem.hT sup_getitem.pl PySem.F.entry_dict_getitem (@cb_cd w s h₀ L x dx m news es n "dict.__getitem__" [.str (up k) t] od X F N h1 h2 kd_getitem kv_getitem ba_getitem)
    (b_getitem up_inj ho rfl hc hl fun v => ⟨_, rfl, ret _ _⟩)
theorem sc_contains (F : Fr h₀ L s.heap m) (N : News h₀ L s.heap news) (X : (hd.heap_39 w.params).In h₀) (hb : (u, boundObj "builtin_function_or_method" (.builtin "dict.__contains__") x) ∈ news) (h1 : (x, cdObj dx es n) ∈ news) (h2 : (dx, od) ∈ news) (hc : KV w up es c) (lo : (x == sysModules) = false)
    (ret : ∀ tk', Q (.bool (look c k).isSome) { s with toks := tk' }) : wpAny (model PySem.Challenge.rw_bf0001_01.row.prog w) A (call (.ref u) [.str (up k) t]) Q E s :=
  have ho : s.heap.get? x = some (cdObj dx es n) := (N _ h1).1
  bound_call (N _ hb).1 sup_contains.hT sup_contains.pl PySem.F.entry_dict_contains (@cb_cd w s h₀ L x dx m news es n "dict.__contains__" [.str (up k) t] od X F N h1 h2 kd_contains kv_contains ba_contains)
    (b_contains lo up_inj ho rfl hc ⟨_, rfl, ret _⟩)
theorem sc_pop {dv : Value} (F : Fr h₀ L s.heap m) (N : News h₀ L s.heap news) (X : (hd.heap_39 w.params).In h₀) (hb : (u, boundObj "builtin_function_or_method" (.builtin "dict.pop") x) ∈ news) (h2 : (dx, od) ∈ news) (U : UpdF x (cdObj dx es n) news g) (hc : KV w up es c) (nk : NK c) (lo : (x == sysModules) = false)
    (ret : ∀ r es' n' h' tk', OptV (look c k) dv r → KV w up es' (del c k) → Fr h₀ L h' m → News h₀ L h' (g (cdObj dx es' n')) → Q r { s with heap := h', toks := tk' }) : wpAny (model PySem.Challenge.rw_bf0001_01.row.prog w) A (call (.ref u) [.str (up k) t, dv]) Q E s :=
  have h1 := upd_in U
  bound_call (N _ hb).1 sup_pop.hT sup_pop.pl PySem.F.entry_dict_pop (@cb_cd w s h₀ L x dx m news es n "dict.pop" [.str (up k) t, dv] od X F N h1 h2 kd_pop kv_pop ba_pop)
    (b_pop (no_cd X F N h1 h2) lo up_inj (upd_at N U) rfl hc nk.size
      (fun e e2 => ⟨_, rfl, ret _ es n s.heap _ (.inl ⟨e, rfl⟩) (by rw [e2]; exact hc) F (by
        have := (upd_back (h' := s.heap) F N U ⟨rfl, fun _ _ => rfl⟩ (upd_at N U)).2
        exact this)⟩)
      fun y v es' n' h' e kv ho hs => ⟨_, rfl, ret _ _ _ _ _ (.inr ⟨_, _, e, rfl⟩) kv (upd_back F N U hs ho).1 (upd_back F N U hs ho).2⟩)
theorem sc_popitem {y : Int} (F : Fr h₀ L s.heap m) (N : News h₀ L s.heap news) (X : (hd.heap_39 w.params).In h₀) (hb : (u, boundObj "builtin_function_or_method" (.builtin "dict.popitem") x) ∈ news) (h2 : (dx, od) ∈ news) (U : UpdF x (cdObj dx es n) news g) (hc : KV w up es (c ++ [(k, y)])) (nk : NK (c ++ [(k, y)])) (lo : (x == sysModules) = false)
    (ret : ∀ q t v es' n' h' tk', KV w up es' c → Fr h₀ L h' m → News h₀ L h' ((q, tupleOf #[.str (up k) t, .int y v] 0) :: g (cdObj dx es' n')) → (∀ p ∈ g (cdObj dx es' n'), p.1 < q) → Q (.ref q) { s with heap := h', toks := tk' }) : wpAny (model PySem.Challenge.rw_bf0001_01.row.prog w) A (call (.ref u) []) Q E s :=
  have h1 := upd_in U
  bound_call (N _ hb).1 sup_popitem.hT sup_popitem.pl PySem.F.entry_dict_popitem (@cb_cd w s h₀ L x dx m news es n "dict.popitem" [] od X F N h1 h2 kd_popitem kv_popitem ba_popitem)
    (b_popitem (no_cd X F N h1 h2) lo (upd_at N U) rfl hc (by have := nk.size; rw [List.length_append] at this; exact Nat.lt_of_succ_le this) fun t v es' n' h' kv ho hs =>
      have B := upd_back F N U hs ho
      have P := ks_newsPush (s := { s with heap := h' }) (o := tupleOf #[.str (up k) t, .int y v] 0) B.1 B.2 rfl (Heap.get?_push_at rfl rfl) (fun b o e => Heap.get?_push_of_some _ e)
      ⟨_, rfl, ret _ t v es' n' _ _ kv P.1 P.2.1 P.2.2⟩)
theorem sc_init (F : Fr h₀ L s.heap m) (N : News h₀ L s.heap news) (X : (hd.heap_39 w.params).In h₀) (hb : (u, boundObj "method-wrapper" (.builtin "dict.__init__") x) ∈ news) (h1 : (x, cdObj dx es n) ∈ news) (h2 : (dx, od) ∈ news)
    (ret : ∀ tk', Q .none { s with toks := tk' }) : wpAny (model PySem.Challenge.rw_bf0001_01.row.prog w) A (call (.ref u) []) Q E s :=
  bound_call (N _ hb).1 sup_init.hT sup_init.pl PySem.F.entry_dict_init (fun A Q E q => wpAny_of_eq cb_init q)
    (b_init (no_cd X F N h1 h2) ⟨_, rfl, ret _⟩)
end
local macro_rules | `(tactic| walk_at "call ref") => `(tactic| (k_here; k_dflt (refine' sc_delitem ?k1 ?k2 ?k3 ?k4 ?k5 ?k6 ?k7 ?k8 ?k9 ?_; (case k1 | k2 | k3 => k_asm); (case k4 => k_mem); (case k6 => k_updF); (case k5 => k_mem); (case k7 | k8 | k9 => assumption); intro es' n' h' tk' kv' F' N'; (try dsimp only at N'))))
local macro_rules | `(tactic| walk_at "call ref") => `(tactic| (k_here; k_dflt (refine' sc_getitem ?k1 ?k2 ?k3 ?k4 ?k5 ?k6 ?k7 ?k8 ?_; (case k1 | k2 | k3 => k_asm); (case k4 | k5 | k6 => k_mem); (case k7 | k8 => assumption); intro u' tk')))
local macro_rules | `(tactic| walk_at "call ref") => `(tactic| (k_here; k_dflt (refine' sc_contains ?k1 ?k2 ?k3 ?k4 ?k5 ?k6 ?k7 ?k8 ?_; (case k1 | k2 | k3 => k_asm); (case k4 | k5 | k6 => k_mem); (case k7 | k8 => assumption); intro tk')))
local macro_rules | `(tactic| walk_at "call ref") => `(tactic| (k_here; k_dflt (refine' sc_pop ?k1 ?k2 ?k3 ?k4 ?k5 ?k6 ?k7 ?k8 ?k9 ?_; (case k1 | k2 | k3 => k_asm); (case k4 => k_mem); (case k6 => k_updF); (case k5 => k_mem); (case k7 | k8 | k9 => assumption); intro r' es' n' h' tk' ov' kv' F' N'; (try dsimp only at N'))))
local macro_rules | `(tactic| walk_at "call ref") => `(tactic| (k_here; k_dflt (refine' sc_popitem ?k1 ?k2 ?k3 ?k4 ?k5 ?k6 ?k7 ?k8 ?k9 ?_; (case k1 | k2 | k3 => k_asm); (case k4 => k_mem); (case k6 => k_updF); (case k5 => k_mem); (case k7 | k8 | k9 => assumption); intro q' t' v' es' n' h' tk' kv' F' N' l1; (try dsimp only at N'); (try k_lt l1))))
local macro_rules | `(tactic| walk_at "call ref") => `(tactic| (k_here; k_dflt (refine' sc_init ?k1 ?k2 ?k3 ?k4 ?k5 ?k6 ?_; (case k1 | k2 | k3 => k_asm); (case k4 | k5 | k6 => k_mem); intro tk')))

/-! ## the keys of any dict data, walked -/
abbrev keysObj (d : Addr) : Obj := { cls := .type "dict_keys", data := .fields #[.ref d] }
section
variable {prog : Program} {w : World} {A : Around} {E : Value → Shared → Prop} {s : Shared}
theorem nk_item {it d : Addr} {od : Obj} {es : List DictEntry} {i ep : Nat} {e : DictEntry} {Q : Option Value → Shared → Prop} (hit : s.heap.IsKeyIter it d i es.length ep) (hod : s.heap.get? d = some od) (hdd : od.data = .dict es.toArray ep) (hx : es[i]? = some e)
    (hQ : ∀ h', h'.IsKeyIter it d (i + 1) es.length ep → Heap.SameBut it s.heap h' → Q (some e.key) { s with heap := h' }) :
    wpAny (model prog w) A (pyNext (.ref it)) Q E s := by
  obtain ⟨o, ho, hc, hd⟩ := id hit
  unfold pyNext
  refine wpAny_bind (wpAny_attempt (wpAny_callSpecial?_slot (name := Str.ofString "__next__") hit.typeIs PySem.F.slot_dict_keyiterator_next
    (wpAny_call_entry PySem.F.slot_dict_keyiterator_next hit.typeIs PySem.F.entry_dict_keyiterator_next ?_ (PySem.F.args_dict_keyiterator_next_1 _))))
  refine wpAny_bind (wpAny_pure ?_)
  refine wpAny_bind ?_
  refine wpAny_bind ?_
  refine wpAny_bind (wpAny_typeNameOfWhole_keyiter hit.typeIs (wpAny_pure ?_))
  refine wpAny_bind (wpAny_fieldsOf ho hd ?_)
  have hown : Builtin.Dict_items.ownsTuple "dict_keyiterator" = false := by decide
  simp only [hown, Bool.false_eq_true, if_false]
  show wpAny _ _ (if (Value.ref d == Value.none) = true then _ else _) _ _ s
  rw [if_neg (show ¬ ((Value.ref d == Value.none) = true) from Bool.false_ne_true)]
  refine wpAny_bind (wpAny_pure ?_)
  refine wpAny_bind (wpAny_dictEntries hod hdd ?_)
  rw [if_neg (by simp)]
  refine wpAny_bind (wpAny_pure ?_)
  refine wpAny_bind (wpAny_dictEpoch hod hdd ?_)
  rw [if_neg (by simp)]
  refine wpAny_pure ?_
  have hget : es.toArray[i]? = some e := by simpa using hx
  simp only [show ¬ ((i : Int) < 0) from by omega, if_false, Int.toNat_natCast, hget]
  refine wpAny_bind ?_
  refine wpAny_bind (wpAny_typeNameOfWhole_keyiter hit.typeIs (wpAny_pure ?_))
  refine wpAny_bind (wpAny_isOneOf_keyiter hit.typeIs ?_)
  show wpAny _ _ (setField (.ref it) 1 (rawInt ((i : Int) + 1)) >>= _) _ _ s
  refine wpAny_bind (wpAny_setField ho hd (by simp) ?_)
  have hit' : (s.heap.update it (Obj.mapFields (·.setIfInBounds 1 (rawInt ((i : Int) + 1))))).IsKeyIter it d (i + 1) es.length ep :=
    ⟨_, Heap.get?_update_self _ ho (Obj.isFreed_of_fields (Obj.data_mapFields hd _)), (Obj.cls_mapFields ..).trans hc, by rw [Obj.data_mapFields hd]; simp [rawInt]⟩
  refine wpAny_bind (wpAny_holding ?_)
  refine wpAny_bind (wpAny_isOneOf_keyiter (s := { s with heap := s.heap.update it (Obj.mapFields (·.setIfInBounds 1 (rawInt ((i : Int) + 1)))) }) hit'.typeIs ?_)
  show wpAny _ _ (pure e.key) _ _ _
  exact wpAny_pure (wpAny_pure ⟨_, rfl, wpAny_pure (hQ _ hit' (Heap.SameBut.update ..))⟩)
theorem nk_end {it d : Addr} {od : Obj} {es : List DictEntry} {ep : Nat} {Q : Option Value → Shared → Prop} (hh : A.handled = none) (hit : s.heap.IsKeyIter it d es.length es.length ep) (hod : s.heap.get? d = some od) (hdd : od.data = .dict es.toArray ep)
    (hQ : ∀ h', Heap.ExtBut it s.heap h' → Q none { s with heap := h' }) : wpAny (model prog w) A (pyNext (.ref it)) Q E s := by
  obtain ⟨o, ho, hc, hd⟩ := id hit
  unfold pyNext
  refine wpAny_bind (wpAny_attempt (wpAny_callSpecial?_slot (name := Str.ofString "__next__") hit.typeIs PySem.F.slot_dict_keyiterator_next
    (wpAny_call_entry PySem.F.slot_dict_keyiterator_next hit.typeIs PySem.F.entry_dict_keyiterator_next ?_ (PySem.F.args_dict_keyiterator_next_1 _))))
  refine wpAny_bind (wpAny_pure ?_)
  refine wpAny_bind ?_
  refine wpAny_bind ?_
  refine wpAny_bind (wpAny_typeNameOfWhole_keyiter hit.typeIs (wpAny_pure ?_))
  refine wpAny_bind (wpAny_fieldsOf ho hd ?_)
  have hown : Builtin.Dict_items.ownsTuple "dict_keyiterator" = false := by decide
  simp only [hown, Bool.false_eq_true, if_false]
  show wpAny _ _ (if (Value.ref d == Value.none) = true then _ else _) _ _ s
  rw [if_neg (show ¬ ((Value.ref d == Value.none) = true) from Bool.false_ne_true)]
  refine wpAny_bind (wpAny_pure ?_)
  refine wpAny_bind (wpAny_dictEntries hod hdd ?_)
  rw [if_neg (by simp)]
  refine wpAny_bind (wpAny_pure ?_)
  refine wpAny_bind (wpAny_dictEpoch hod hdd ?_)
  rw [if_neg (by simp)]
  refine wpAny_pure ?_
  have hget : es.toArray[es.length]? = none := by simp
  simp only [show ¬ ((es.length : Int) < 0) from by omega, if_false, Int.toNat_natCast, hget]
  refine wpAny_bind ?_
  refine wpAny_bind (wpAny_typeNameOfWhole_keyiter hit.typeIs (wpAny_pure ?_))
  show wpAny _ _ (setField (.ref it) 0 .none >>= _) _ _ s
  refine wpAny_bind (wpAny_setField ho hd (by simp) ?_)
  show wpAny _ _ (newExc (.type "StopIteration") [] >>= _) _ _ _
  refine wpAny_bind ?_
  simp only [newExc, newTuple]
  refine wpAny_bind (wpAny_newObj_type ?_ (by size_fits))
  refine wpAny_bind (m := firstArgMember _ _) (wpAny_of_eq (a := Value.none) (by first | rfl | (simp only [firstArgMember]; rfl)) ?_)
  refine wpAny_newObj_type ?_ (by size_fits)
  simp only [raiseNew]
  refine wpAny_bind (wpAny_handled ?_)
  rw [show A.in1.handled = none from hh]
  refine wpAny_bind (wpAny_pure (wpAny_throw ?_))
  refine wpAny_bind (wpAny_isInstance (T := "StopIteration") (b := true) ⟨_, Heap.get?_push_size _ rfl, rfl⟩ isSubtype_stop ?_)
  exact wpAny_pure (hQ _ (((Heap.SameBut.update ..).extBut.push _).push _))
theorem it_keys {v d : Addr} {od : Obj} {es : List DictEntry} {ep : Nat} {Q : Value → Shared → Prop} (hv : s.heap.get? v = some (keysObj d)) (hod : s.heap.get? d = some od) (hdd : od.data = .dict es.toArray ep)
    (hQ : Q (.ref s.heap.objs.size) { s with heap := s.heap.push { cls := .type "dict_keyiterator", data := .fields #[.ref d, .int 0 0, .int es.length 0, .int ep 0] } }) : wpAny (model prog w) A (pyIter (.ref v)) Q E s := by
  have hT : s.TypeIs (.ref v) "dict_keys" := ⟨_, hv, rfl⟩
  refine wpAny_pyIter_slot hT kdl_slot_keys_iter (wpAny_call_entry kdl_slot_keys_iter hT kdl_entry_keys_iter ?_ (kdl_args_keys_iter _))
  unfold Builtin.«dict_keys.__iter__»
  refine wpAny_bind (wpAny_pure ?_)
  refine wpAny_bind ?_
  unfold Builtin.Dict_items.dictOf
  refine wpAny_bind (wpAny_field hv rfl (x := .ref d) rfl (wpAny_pure ?_))
  refine wpAny_bind ?_
  unfold Builtin.Dict_items.newIterator
  refine wpAny_bind (wpAny_dictEntries hod hdd ?_)
  refine wpAny_bind (wpAny_dictEpoch hod hdd ?_)
  have hown : Builtin.Dict_items.ownsTuple "dict_keyiterator" = false := by decide
  simp only [hown, Bool.false_eq_true, if_false]
  refine wpAny_newObj_type (wpAny_pure ⟨_, rfl, "dict_keyiterator", _, ⟨_, Heap.get?_push_size _ rfl, rfl⟩, PySem.F.slot_dict_keyiterator_next.lookup, ?_⟩)
  simpa [rawInt] using hQ
end
theorem walks_keys {prog : Program} {w : World} {A : Around} {f : Nm → Str} {c : C} {es : List DictEntry} {ep : Nat} {od : Obj} (hh : A.handled = none) (I d : Addr) (hne : d ≠ I) (hdd : od.data = .dict es.toArray ep) (hc : KV w f es c) :
    Walks prog w A I [I, d] [I] c.length (fun i v => ∃ p t, c[i]? = some p ∧ v = .str (f p.1) t) (fun i h => h.IsKeyIter I d i es.length ep ∧ h.get? d = some od) where
  sub := fun b hb => by simp at hb; simp [hb]
  frame := fun _ _ _ st hk => ⟨st.1.at fun o e => hk I (by simp) o e, hk d (by simp) _ st.2⟩
  item := fun i s Q E hi st hQ => by
    have hl : i < es.length := by rw [All2.length hc]; exact hi
    have hy : es[i]? = some es[i] := List.getElem?_eq_getElem hl
    obtain ⟨p, hp, _, ⟨t, hk⟩, u, hv⟩ := All2.get hc i _ hy
    refine nk_item st.1 st.2 hdd hy fun h' hit' hs' => ?_
    rw [hk]
    exact hQ _ h' s.toks ⟨p, t, hp, rfl⟩ ⟨hit', hs'.extBut _ _ hne st.2⟩ fun b o hb e => hs'.extBut b o (fun h => hb (by simp [h])) e
  done := fun s Q E st hQ => by
    have e := st.1
    rw [← All2.length hc] at e
    exact nk_end hh e st.2 hdd fun h' he' => hQ h' s.toks fun b o hb e => he' b o (fun h => hb (by simp [h])) e
  self := fun _ _ _ _ st hQ => wpAny_pyIter_keyiter st.1 hQ

section
variable {w : World} {p : Program} {loose : List Str} {mean : ExcName → Option Value} {mg mb : Str → Option Value} {dp un : Nat} {gd : Option (List Code)} {cn : Str} {cs : Scope} {a L : Addr} {ccd : Value} {cl : List (Str × Addr)} {outer : List Env} {A₀ : Around} {base h₀ : Heap} {m : Str → Option Value} {s : Shared} {Q E : Value → Shared → Prop} {news rest : List (Addr × Obj)} {g : Obj → List (Addr × Obj)}
variable {x dx : Addr} {es : List DictEntry} {n : Nat} {c : C} {v : Value} {k : Nm} {y : Int} {ty : Tok}
theorem getitem_spec
   (Bl : Below A₀ base outer h₀) (F : Fr h₀ L s.heap m) (X : (hd.heap_39 w.params).In h₀) (N : News h₀ L s.heap ((x, cdObj dx es n) :: (dx, plObj [] 0) :: rest)) (T : Top p loose mean mg mb h₀) (hk : cs.kind = .function)
   (hx : ∀ p ∈ (dx, plObj [] 0) :: rest, p.1 ≠ x) (hv : KeyV v k) (hc : KV w up es c) (nk : NK c) (hl : look c k = some y) (hd : dp + 40 < recursionLimit) (hu : un + 400 < cLine)
   (ret : ∀ u tk' h', Fr h₀ L h' m → News h₀ L h' ((x, cdObj dx es n) :: (dx, plObj [] 0) :: rest) → Q (.int y u) { s with heap := h', toks := tk' }) :
   wpAny (model PySem.Challenge.rw_bf0001_01.row.prog w) (ktrTop dp un gd cn cs L a ccd cl outer) (call (.ref 65) [.ref x, v]) Q E s := by
  revert X; k_fill; intro X
  refine wpAny_call ?_
  k_dflt ktr_enter
  k_steps
  exact ret _ _ _ (by assumption) (News.perm (by assumption) (by ktr_rel))
theorem contains_spec
   (Bl : Below A₀ base outer h₀) (F : Fr h₀ L s.heap m) (X : (hd.heap_39 w.params).In h₀) (N : News h₀ L s.heap ((x, cdObj dx es n) :: (dx, plObj [] 0) :: rest)) (T : Top p loose mean mg mb h₀) (hk : cs.kind = .function)
   (hx : ∀ p ∈ (dx, plObj [] 0) :: rest, p.1 ≠ x) (lo : (x == sysModules) = false) (hv : KeyV v k) (hc : KV w up es c) (nk : NK c) (hd : dp + 40 < recursionLimit) (hu : un + 400 < cLine)
   (ret : ∀ tk' h', Fr h₀ L h' m → News h₀ L h' ((x, cdObj dx es n) :: (dx, plObj [] 0) :: rest) → Q (.bool (look c k).isSome) { s with heap := h', toks := tk' }) :
   wpAny (model PySem.Challenge.rw_bf0001_01.row.prog w) (ktrTop dp un gd cn cs L a ccd cl outer) (call (.ref 89) [.ref x, v]) Q E s := by
  revert X; k_fill; intro X
  refine wpAny_call ?_
  k_dflt ktr_enter
  k_steps
  exact ret _ _ (by assumption) (News.perm (by assumption) (by ktr_rel))
theorem pop_spec
   (Bl : Below A₀ base outer h₀) (F : Fr h₀ L s.heap m) (X : (hd.heap_39 w.params).In h₀) (N : News h₀ L s.heap ((x, cdObj dx es n) :: (dx, plObj [] 0) :: rest)) (T : Top p loose mean mg mb h₀) (hk : cs.kind = .function)
   (hx : ∀ p ∈ (dx, plObj [] 0) :: rest, p.1 ≠ x) (lo : (x == sysModules) = false) (hv : KeyV v k) (hc : KV w up es c) (nk : NK c) (hd : dp + 40 < recursionLimit) (hu : un + 400 < cLine)
   (ret : ∀ r es' n' tk' h', OptV (look c k) (.int y ty) r → KV w up es' (del c k) → Fr h₀ L h' m → News h₀ L h' ((x, cdObj dx es' n') :: (dx, plObj [] 0) :: rest) → Q r { s with heap := h', toks := tk' }) :
   wpAny (model PySem.Challenge.rw_bf0001_01.row.prog w) (ktrTop dp un gd cn cs L a ccd cl outer) (call (.ref 115) [.ref x, v, .int y ty]) Q E s := by
  revert X; k_fill; intro X
  refine wpAny_call ?_
  k_dflt ktr_enter
  k_steps
  exact ret _ _ _ _ _ (by assumption) (by assumption) (by assumption) (News.perm (by assumption) (by ktr_rel))
theorem pop1_spec
   (Bl : Below A₀ base outer h₀) (F : Fr h₀ L s.heap m) (X : (hd.heap_39 w.params).In h₀) (N : News h₀ L s.heap ((x, cdObj dx es n) :: (dx, plObj [] 0) :: rest)) (T : Top p loose mean mg mb h₀) (hk : cs.kind = .function)
   (hx : ∀ p ∈ (dx, plObj [] 0) :: rest, p.1 ≠ x) (lo : (x == sysModules) = false) (hv : KeyV v k) (hc : KV w up es c) (nk : NK c) (hd : dp + 40 < recursionLimit) (hu : un + 400 < cLine)
   (ret : ∀ r es' n' tk' h', OptV (look c k) .none r → KV w up es' (del c k) → Fr h₀ L h' m → News h₀ L h' ((x, cdObj dx es' n') :: (dx, plObj [] 0) :: rest) → Q r { s with heap := h', toks := tk' }) :
   wpAny (model PySem.Challenge.rw_bf0001_01.row.prog w) (ktrTop dp un gd cn cs L a ccd cl outer) (call (.ref 115) [.ref x, v]) Q E s := by
  revert X; k_fill; intro X
  refine wpAny_call ?_
  k_dflt ktr_enter
  k_steps
  exact ret _ _ _ _ _ (by assumption) (by assumption) (by assumption) (News.perm (by assumption) (by ktr_rel))
end

/-! ## a list comprehension with a test over the keys of any dict data -/
abbrev kitObj (d : Addr) (n ep : Nat) : Obj := { cls := .type "dict_keyiterator", data := .fields #[.ref d, .int 0 0, .int n 0, .int ep 0] }
section
open LCg LCt
variable {prog : Program} {w : World} {A : Around} {E : Value → Shared → Prop} {s : Shared} {h₀ : Heap} {L : Addr} {m : Str → Option Value} {env : Env}
def SrcK (prog : Program) (w : World) (A : Around) (h₀ : Heap) (L : Addr) (m : Str → Option Value) (env : Env) (ct elt : Expr) (x : Str) (scope : Scope) (cl : List (Str × Addr)) (Fin : Shared → List Value → List (Addr × Obj) → Prop) (xv : Value) (s₁ : Shared) : Prop :=
  ∃ (d : Addr) (od : Obj) (es : List DictEntry) (ep : Nat) (c : C) (f : Nm → Str) (news : List (Addr × Obj)), (∀ {A : Around} {E : Value → Shared → Prop} {Q : Value → Shared → Prop}, Q (.ref s₁.heap.objs.size) { s₁ with heap := s₁.heap.push (kitObj d es.length ep) } → wpAny (model prog w) A (pyIter xv) Q E s₁) ∧ A.handled = none ∧ Fr h₀ L s₁.heap m ∧ News h₀ L s₁.heap news ∧ (d, od) ∈ news ∧ od.data = .dict es.toArray ep ∧ KV w f es c ∧ c.length ≤ sizeLine ∧
    ∀ s₂ : Shared, (∃ h, s₂ = { s₁ with heap := h }) → CompRestT prog w A h₀ L m env ct elt x scope cl s₂ (fun nw => (d, od) ∈ nw) (fun i v => ∃ p t, c[i]? = some p ∧ v = .str (f p.1) t) (Fin s₂) c.length 0 [] news
theorem SrcK.view {ct elt : Expr} {x : Str} {scope : Scope} {cl : List (Str × Addr)} {Fin : Shared → List Value → List (Addr × Obj) → Prop} {v d : Addr} {od : Obj} {es : List DictEntry} {ep : Nat} {c : C} {f : Nm → Str} {news : List (Addr × Obj)} {s₁ : Shared}
    (hh : A.handled = none) (F : Fr h₀ L s₁.heap m) (N : News h₀ L s₁.heap news) (hv : (v, keysObj d) ∈ news) (hod : (d, od) ∈ news) (hdd : od.data = .dict es.toArray ep) (hc : KV w f es c) (nk : NK c)
    (h : ∀ g, CompRestT prog w A h₀ L m env ct elt x scope cl { s₁ with heap := g } (fun nw => (d, od) ∈ nw) (fun i v => ∃ p t, c[i]? = some p ∧ v = .str (f p.1) t) (Fin { s₁ with heap := g }) c.length 0 [] news) :
    SrcK prog w A h₀ L m env ct elt x scope cl Fin (.ref v) s₁ :=
  ⟨d, od, es, ep, c, f, news, fun hQ => it_keys (N _ hv).1 (N _ hod).1 hdd hQ, hh, F, N, hod, hdd, hc, nk.size, fun _ ⟨g, e⟩ => e ▸ h g⟩
theorem SrcK.dict {ct elt : Expr} {x : Str} {scope : Scope} {cl : List (Str × Addr)} {Fin : Shared → List Value → List (Addr × Obj) → Prop} {d : Addr} {n : Nat} {es : List DictEntry} {c : C} {f : Nm → Str} {news : List (Addr × Obj)} {s₁ : Shared}
    (hh : A.handled = none) (F : Fr h₀ L s₁.heap m) (N : News h₀ L s₁.heap news) (hod : (d, plObj es n) ∈ news) (hf : ∀ a b, f a = f b → a = b) (hc : KV w f es c) (nk : NK c) (lo : (d == sysModules) = false)
    (h : ∀ g, CompRestT prog w A h₀ L m env ct elt x scope cl { s₁ with heap := g } (fun nw => (d, plObj es n) ∈ nw) (fun i v => ∃ p t, c[i]? = some p ∧ v = .str (f p.1) t) (Fin { s₁ with heap := g }) c.length 0 [] news) :
    SrcK prog w A h₀ L m env ct elt x scope cl Fin (.ref d) s₁ := by
  refine ⟨d, plObj es n, es, n, c, f, news, fun hQ => ?_, hh, F, N, hod, rfl, hc, nk.size, fun _ ⟨g, e⟩ => e ▸ h g⟩
  obtain ⟨kvs, hD, hK⟩ := kv_isDict (prog := prog) (n := n) hf hc nk
  have hat : s₁.heap.DictAt (strKind prog w) d kvs n := by
    obtain ⟨es', ep, he, hdat, r⟩ := hD
    have e1 : ep = n := by injection hdat with _ e; exact e.symm
    subst e1
    exact ⟨_, es', (N _ hod).1, he, hdat, r⟩
  refine wpAny_pyIter_dict lo hat ?_
  rw [show kvs.length = es.length from by rw [All2.length hK, All2.length hc]]
  exact hQ
theorem keys_st {d I : Addr} {od : Obj} {n ep : Nat} : ∀ (i : Nat) (h h' : Heap) (o : Obj) (nw : List (Addr × Obj)), (h.IsKeyIter I d i n ep ∧ h.get? d = some od) → h.get? I = some o → h'.get? I = some o → (∀ b o, h₀.get? b = some o → h'.get? b = some o) → News h₀ L h' nw → (d, od) ∈ nw → (h'.IsKeyIter I d i n ep ∧ h'.get? d = some od) :=
  fun i h h' o nw st e1 e2 _ N hm => ⟨st.1.at fun o' e => by rw [e1] at e; cases e; exact e2, (N _ hm).1⟩
theorem Assign_ListComp_K {ct elt iter : Expr} {x y : Str} {px py : Pos} {scope : Scope} {cl : List (Str × Addr)} {pos spos : Pos} {Q : Flow → Shared → Prop} (F₀ : Fr h₀ L s.heap m) (hLe : env.locals = L)
    (hsw : swapsWith (.ListComp elt [⟨.Name x px, iter, [ct], 0⟩] scope pos) (some (.Name y py)) spos.line env = pure true)
    (hclos : closureFor scope env = pure cl) (hcell : ∀ z ∈ scope.names, z.2 ≠ .cell) (hkind : scope.kind = .function)
    (hnames : ∀ z ∈ scope.names, z.2 = .local → scope.names.lookup z.1 = some .local) (hx : scope.names.lookup x = some .local)
    (hy : env.kindOf y = some .local) (hp : (env.scope.kind == .class || (env.scope.kind == .module && env.locals != env.globals)) = false)
    (h : wpAny (model prog w) A (eval iter env) (SrcK prog w A h₀ L m env ct elt x scope cl (fun s₂ => FinA h₀ L m s₂ y Q)) E s)
    (hs : ∀ x, foldedSetIterable iter env x = pure x := by intro _; rfl) :
    wpAny (model prog w) A (exec (.Assign [.Name y py] (.ListComp elt [⟨.Name x px, iter, [ct], 0⟩] scope pos) spos) env) Q E s := by
  subst hLe
  rw [exec_Assign_Name_used _ _ _ _ hsw]
  refine wpAny_bind (wpAny_standAt (wpAny_bind ?_))
  show wpAny _ A (do let _ ← comprehension (.ListComp elt [⟨.Name x px, iter, [ct], 0⟩] scope pos) scope env _ (newList []) false (eval iter env) (some (assign (.Name y py) env))) _ _ s
  refine wpAny_bind (wpAny_mono (wpAny_comprehension_free (use := some (assign (.Name y py) env)) (Q := fun _ s' => Q .next s') rfl hs hclos hkind hnames
    (wpAny_mono h (fun xv s₁ h₁ => ?_) fun _ _ e => e)) (fun _ s' hq => wpAny_pure (wpAny_pure hq)) fun _ _ e => e)
  obtain ⟨d, od, es, ep, c, f, news, hiter, hh, F, N, hod, hdd, hc, hsz, R⟩ := h₁
  have hlt : d < s₁.heap.objs.size := Heap.lt_size (N _ hod).1
  refine hiter ?_
  have up : ∀ b o, s₁.heap.get? b = some o → (s₁.heap.push (kitObj d es.length ep)).get? b = some o := fun b o e => Heap.get?_push_of_some _ e
  refine block_T (walks_keys hh s₁.heap.objs.size d (Nat.ne_of_lt hlt) hdd hc) hsz (fun i h st => by obtain ⟨o, e, _⟩ := st.1; exact ⟨o, e⟩) keys_st hcell hkind hx ⟨⟨_, Heap.get?_push_size _ rfl, rfl, rfl⟩, up _ _ (N _ hod).1⟩ (fun b hb => ?_)
    (F.keeps up) (N.grown up) (Nat.ne_of_lt F.ns.lt) (next_is_new F) (fun p hp => Nat.ne_of_lt (Heap.lt_size (N p hp).1)) hod (R _ ⟨_, rfl⟩) ?_
  · show b < (s₁.heap.push _).objs.size
    rw [Heap.size_push]
    rcases List.mem_cons.mp hb with rfl | hb
    · exact Nat.lt_succ_self _
    · rw [List.mem_singleton.mp hb]; exact Nat.lt_succ_of_lt hlt
  · intro D C h' tk m' ys news' F' N' o1 hn hC₀ hD₀ hCL hDL hCD offC fin
    show wpAny _ A (assign (.Name y py) env (.ref D)) _ _ _
    refine wpAny_assign_Name (wpAny_storeName_local hy F'.ns (fun h₂ hn₂ hs₂ => ?_) hp)
    have hL₀ : h₀.get? env.locals = none := Heap.get?_none_of_le F'.above
    have F₂ : Fr h₀ env.locals h₂ (fun z => if z = y then some (.ref D) else m z) := ⟨hn₂, fun b o e => hs₂.extBut b o (fun q => by rw [q, hL₀] at e; cases e) (F'.keep b o e), F'.above⟩
    refine ⟨m', hn.sameBut hs₂ hCL, fun h'' hs'' => fin D h'' _ (F₂.change hs'' hCL hC₀) (fun p hp => ?_) o1⟩
    have z : h₂.get? p.1 = some p.2 := hs₂.extBut _ _ (N' p hp).2.1 (N' p hp).1
    refine ⟨hs''.extBut _ _ ?_ z, (N' p hp).2⟩
    rcases List.mem_cons.mp hp with rfl | hp
    · exact Ne.symm hCD
    · exact offC p hp
theorem ListComp_K {ct elt iter : Expr} {x : Str} {px : Pos} {scope : Scope} {cl : List (Str × Addr)} {pos : Pos} {Q : Value → Shared → Prop} (F₀ : Fr h₀ L s.heap m)
    (hclos : closureFor scope env = pure cl) (hcell : ∀ y ∈ scope.names, y.2 ≠ .cell) (hkind : scope.kind = .function)
    (hnames : ∀ y ∈ scope.names, y.2 = .local → scope.names.lookup y.1 = some .local) (hx : scope.names.lookup x = some .local)
    (h : wpAny (model prog w) A (eval iter env) (SrcK prog w A h₀ L m env ct elt x scope cl (fun s₂ => FinE h₀ L m s₂ Q)) E s)
    (hs : ∀ x, foldedSetIterable iter env x = pure x := by intro _; rfl) :
    wpAny (model prog w) A (eval (.ListComp elt [⟨.Name x px, iter, [ct], 0⟩] scope pos) env) Q E s := by
  rw [eval_ListComp]
  refine wpAny_comprehension_free (use := none) rfl hs hclos hkind hnames (wpAny_mono h (fun xv s₁ h₁ => ?_) fun _ _ e => e)
  obtain ⟨d, od, es, ep, c, f, news, hiter, hh, F, N, hod, hdd, hc, hsz, R⟩ := h₁
  have hlt : d < s₁.heap.objs.size := Heap.lt_size (N _ hod).1
  refine hiter ?_
  have up : ∀ b o, s₁.heap.get? b = some o → (s₁.heap.push (kitObj d es.length ep)).get? b = some o := fun b o e => Heap.get?_push_of_some _ e
  refine block_T (walks_keys hh s₁.heap.objs.size d (Nat.ne_of_lt hlt) hdd hc) hsz (fun i h st => by obtain ⟨o, e, _⟩ := st.1; exact ⟨o, e⟩) keys_st hcell hkind hx ⟨⟨_, Heap.get?_push_size _ rfl, rfl, rfl⟩, up _ _ (N _ hod).1⟩ (fun b hb => ?_)
    (F.keeps up) (N.grown up) (Nat.ne_of_lt F.ns.lt) (next_is_new F) (fun p hp => Nat.ne_of_lt (Heap.lt_size (N p hp).1)) hod (R _ ⟨_, rfl⟩) ?_
  · show b < (s₁.heap.push _).objs.size
    rw [Heap.size_push]
    rcases List.mem_cons.mp hb with rfl | hb
    · exact Nat.lt_succ_self _
    · rw [List.mem_singleton.mp hb]; exact Nat.lt_succ_of_lt hlt
  · intro D C h tk m' ys news' F' N' o1 hn hC₀ hD₀ hCL hDL hCD offC fin
    refine ⟨m', hn, fun h'' hs'' => fin D h'' tk (F'.change hs'' hCL hC₀) (fun p hp => ?_) o1⟩
    refine ⟨hs''.extBut _ _ ?_ (N' p hp).1, (N' p hp).2⟩
    rcases List.mem_cons.mp hp with rfl | hp
    · exact Ne.symm hCD
    · exact offC p hp
end

/-! ## the plain dict's methods and operators -/
section
variable {prog : Program} {w : World} {A : Around} {E : Value → Shared → Prop} {s : Shared} {h₀ : Heap} {L d : Addr} {m : Str → Option Value} {news : List (Addr × Obj)} {g : Obj → List (Addr × Obj)} {es : List DictEntry} {n : Nat} {c : C} {k : Nm} {t : Tok} {f : Nm → Str}
theorem idx_cons (p : Nm × Int) (c : C) (k : Nm) : idx (p :: c) k = if p.1 = k then some 0 else (idx c k).map (· + 1) := by
  unfold idx
  rw [List.findIdx?_cons]
  by_cases q : p.1 = k <;> simp [q]
theorem look_cons (p : Nm × Int) (c : C) (k : Nm) : look (p :: c) k = if p.1 = k then some p.2 else look c k := by
  unfold look
  rw [idx_cons]
  by_cases q : p.1 = k
  · simp [q]
  · simp only [q, if_false]
    cases idx c k <;> simp
theorem kvs_at (hf : ∀ a b, f a = f b → a = b) {kvs : List (Str × Value)} (h : KVs f kvs c) (k : Nm) : (look c k = none → valueAt kvs (f k) = none) ∧ ∀ y, look c k = some y → ∃ u, valueAt kvs (f k) = some (.int y u) := by
  unfold valueAt
  induction h with
  | nil => simp [look, idx]
  | @cons kv p kvs' c' hd tl ih =>
    obtain ⟨h1, t, h2⟩ := hd
    rw [look_cons]
    by_cases q : p.1 = k
    · simp only [List.find?_cons, q, h1, decide_true, Option.map_some, if_true]
      refine ⟨by simp, fun y e => ⟨t, ?_⟩⟩
      rw [h2, Option.some.inj e]
    · have q' : f p.1 ≠ f k := fun z => q (hf _ _ z)
      simp only [List.find?_cons, h1, q, q', decide_false, if_false]
      exact ih
theorem kvs_some (hf : ∀ a b, f a = f b → a = b) {kvs : List (Str × Value)} (h : KVs f kvs c) (k : Nm) : (valueAt kvs (f k)).isSome = (look c k).isSome := by
  cases e : look c k with
  | none => rw [(kvs_at hf h k).1 e]; rfl
  | some y => obtain ⟨u, e⟩ := (kvs_at hf h k).2 y e; rw [e]; rfl
theorem pd_method {name : Str} {id : String} {pl : Sem Bool} {Q : Value × List Value → Shared → Prop} (slot : Slot "dict" name id) (ty : typeOf (.builtin id) = pure (.type "method_descriptor")) (N : News h₀ L s.heap news) (hp : (d, plObj es n) ∈ news) (hf : ∀ a b, f a = f b → a = b) (hc : KV w f es c) (nk : NK c) (h : Q (.builtin id, [.ref d]) s) :
    wpAny (model prog w) A (getMethod (.ref d) name pl) Q E s := by
  obtain ⟨kvs, hD, _⟩ := kv_isDict (prog := prog) (n := n) hf hc nk
  exact kdl_method slot ty N hp hD h
theorem pd_items {Q : Value → Shared → Prop} (F : Fr h₀ L s.heap m) (N : News h₀ L s.heap news) (hp : (d, plObj es n) ∈ news) (lo : (d == sysModules) = false)
    (h : ∀ v h', Fr h₀ L h' m → News h₀ L h' ((v, { cls := .type "dict_items", data := .fields #[.ref d] }) :: news) → (∀ p ∈ news, p.1 < v) → Q (.ref v) { s with heap := h' }) : wpAny (model prog w) A (call (.builtin "dict.items") [.ref d]) Q E s := by
  have ho := (N _ hp).1
  have hT : s.TypeIs (.ref d) "dict" := ⟨_, ho, rfl⟩
  exact wpAny_call_entry PySem.F.slot_dict_items hT PySem.F.entry_dict_items (b_items (noOrd_dict ho rfl) lo ⟨_, rfl, h _ _ (F.push _) (News.push F N _) fun p hp => Heap.lt_size (N p hp).1⟩) (PySem.F.args_dict_items_1 _)
theorem pd_pop {dv : Value} {Q : Value → Shared → Prop} (F : Fr h₀ L s.heap m) (N : News h₀ L s.heap news) (U : UpdF d (plObj es n) news g) (hf : ∀ a b, f a = f b → a = b) (hc : KV w f es c) (nk : NK c) (lo : (d == sysModules) = false)
    (ret : ∀ r es' n' h' tk', OptV (look c k) dv r → KV w f es' (del c k) → Fr h₀ L h' m → News h₀ L h' (g (plObj es' n')) → Q r { s with heap := h', toks := tk' }) : wpAny (model prog w) A (call (.builtin "dict.pop") [.ref d, .str (f k) t, dv]) Q E s := by
  have ho := upd_at N U
  have hT : s.TypeIs (.ref d) "dict" := ⟨_, ho, rfl⟩
  refine wpAny_call_entry PySem.F.slot_dict_pop hT PySem.F.entry_dict_pop (b_pop (noOrd_dict ho rfl) lo hf ho rfl hc nk.size (fun e e2 => ⟨_, rfl, ret _ es n s.heap _ (.inl ⟨e, rfl⟩) (by rw [e2]; exact hc) F (upd_back (h' := s.heap) F N U ⟨rfl, fun _ _ => rfl⟩ ho).2⟩) fun y v es' n' h' e kv ho' hs => ⟨_, rfl, ret _ _ _ _ _ (.inr ⟨_, _, e, rfl⟩) kv (upd_back F N U hs ho').1 (upd_back F N U hs ho').2⟩) (PySem.F.args_dict_pop_3 _ _ _)
theorem pd_popitem {y : Int} {Q : Value → Shared → Prop} (F : Fr h₀ L s.heap m) (N : News h₀ L s.heap news) (U : UpdF d (plObj es n) news g) (hc : KV w f es (c ++ [(k, y)])) (nk : NK (c ++ [(k, y)])) (lo : (d == sysModules) = false)
    (ret : ∀ q t v es' n' h' tk', KV w f es' c → Fr h₀ L h' m → News h₀ L h' ((q, tupleOf #[.str (f k) t, .int y v] 0) :: g (plObj es' n')) → (∀ p ∈ g (plObj es' n'), p.1 < q) → Q (.ref q) { s with heap := h', toks := tk' }) : wpAny (model prog w) A (call (.builtin "dict.popitem") [.ref d]) Q E s := by
  have ho := upd_at N U
  have hT : s.TypeIs (.ref d) "dict" := ⟨_, ho, rfl⟩
  exact wpAny_call_entry PySem.F.slot_dict_popitem hT PySem.F.entry_dict_popitem (b_popitem (noOrd_dict ho rfl) lo ho rfl hc (by have := nk.size; rw [List.length_append] at this; exact Nat.lt_of_succ_le this) fun t v es' n' h' kv ho hs =>
      have B := upd_back F N U hs ho
      have P := ks_newsPush (s := { s with heap := h' }) (o := tupleOf #[.str (f k) t, .int y v] 0) B.1 B.2 rfl (Heap.get?_push_at rfl rfl) (fun b o e => Heap.get?_push_of_some _ e)
      ⟨_, rfl, ret _ t v es' n' _ _ kv P.1 P.2.1 P.2.2⟩) (PySem.F.args_dict_popitem_1 _)
theorem pd_del {Q : Unit → Shared → Prop} {y : Int} (F : Fr h₀ L s.heap m) (N : News h₀ L s.heap news) (U : UpdF d (plObj es n) news g) (hf : ∀ a b, f a = f b → a = b) (hc : KV w f es c) (nk : NK c) (hl : look c k = some y)
    (ret : ∀ es' n' h' tk', KV w f es' (del c k) → Fr h₀ L h' m → News h₀ L h' (g (plObj es' n')) → Q () { s with heap := h', toks := tk' }) : wpAny (model prog w) A (delItem (.ref d) (.str (f k) t)) Q E s := by
  have ho := upd_at N U
  have hT : s.TypeIs (.ref d) "dict" := ⟨_, ho, rfl⟩
  unfold delItem
  try with_reducible refine wpAny_holding ?_
  refine wpAny_bind (wpAny_sequenceKey hT (by decide) ?_)
  refine wpAny_bind (wpAny_callSpecial?_slot (name := Str.ofString "__delitem__") hT PySem.F.slot_dict_delitem (wpAny_call_entry PySem.F.slot_dict_delitem hT PySem.F.entry_dict_delitem ?_ (PySem.F.args_dict_delitem_2 _ _)))
  exact b_delitem (noOrd_dict ho rfl) hf ho rfl hc nk.size hl fun es' n' h' kv ho' hs => ⟨_, rfl, wpAny_pure (ret es' n' _ _ kv (upd_back F N U hs ho').1 (upd_back F N U hs ho').2)⟩
theorem pd_in {Q : Value → Shared → Prop} (N : News h₀ L s.heap news) (hp : (d, plObj es n) ∈ news) (hf : ∀ a b, f a = f b → a = b) (hc : KV w f es c) (nk : NK c) (lo : (d == sysModules) = false) (h : ∀ tk', Q (.bool (look c k).isSome) { s with toks := tk' }) :
    wpAny (model prog w) A (compareOp .In (.str (f k) t) (.ref d)) Q E s := by
  obtain ⟨kvs, hD, hK⟩ := kv_isDict (prog := prog) (n := n) hf hc nk
  exact kda_in N hp hD lo (strKind_is _ _ _ _) _ (kvs_some hf hK k) (h _)
theorem pd_notin {Q : Value → Shared → Prop} (N : News h₀ L s.heap news) (hp : (d, plObj es n) ∈ news) (hf : ∀ a b, f a = f b → a = b) (hc : KV w f es c) (nk : NK c) (lo : (d == sysModules) = false) (h : ∀ tk', Q (.bool (!(look c k).isSome)) { s with toks := tk' }) :
    wpAny (model prog w) A (compareOp .NotIn (.str (f k) t) (.ref d)) Q E s := by
  obtain ⟨kvs, hD, hK⟩ := kv_isDict (prog := prog) (n := n) hf hc nk
  exact kdg_notin N hp hD lo (strKind_is _ _ _ _) _ (kvs_some hf hK k) (h _)
theorem pd_get {Q : Value → Shared → Prop} {value slice : PySem.Expr} {y : Int} (N : News h₀ L s.heap news) (hp : (d, plObj es n) ∈ news) (hf : ∀ a b, f a = f b → a = b) (hc : KV w f es c) (nk : NK c) (hl : look c k = some y) (h : ∀ u tk', Q (.int y u) { s with toks := tk' })
    (hs : subscripted slice false (.ref d) (.str (f k) t) = operate [.ref d, .str (f k) t] (getItem (.ref d) (.str (f k) t)) := by with_unfolding_all rfl) :
    wpAny (model prog w) A (subscriptTail value slice (.ref d) (.str (f k) t)) Q E s := by
  obtain ⟨kvs, hD, hK⟩ := kv_isDict (prog := prog) (n := n) hf hc nk
  obtain ⟨u, hv⟩ := (kvs_at hf hK k).2 y hl
  exact kdt_tail N hp hD (kdt_getItem N hp hD (strKind_is _ _ _ _) hv (h _ _)) hs
end
local macro_rules | `(tactic| walk_at "getMethod ref") => `(tactic| (k_here; k_dflt (first | ((with_reducible show wpAny _ _ (getMethod (Value.ref _) (Str.ofString "items") _) _ _ _); refine' pd_method PySem.F.slot_dict_items PySem.F.type_dict_items ?N ?m ?f ?c ?n ?_) | ((with_reducible show wpAny _ _ (getMethod (Value.ref _) (Str.ofString "pop") _) _ _ _); refine' pd_method PySem.F.slot_dict_pop PySem.F.type_dict_pop ?N ?m ?f ?c ?n ?_) | ((with_reducible show wpAny _ _ (getMethod (Value.ref _) (Str.ofString "popitem") _) _ _ _); refine' pd_method PySem.F.slot_dict_popitem PySem.F.type_dict_popitem ?N ?m ?f ?c ?n ?_)); (case N => k_asm); (case m => k_mem); (case c => assumption); (case f => first | exact up_inj | exact txt_inj _); (case n => assumption)))
local macro_rules | `(tactic| walk_at "call builtin:dict.items") => `(tactic| (k_here; k_dflt (refine' pd_items ?F ?N ?m ?l ?_; (case F | N => k_asm); (case m => k_mem); (case l => assumption); intro q' h' F' N' l1; (try k_lt l1))))
local macro_rules | `(tactic| walk_at "call builtin:dict.pop") => `(tactic| (k_here; (with_reducible show wpAny _ _ (call (Value.builtin "dict.pop") [_, _, _]) _ _ _); k_dflt (refine' pd_pop ?F ?N ?U up_inj ?c ?n ?l ?_; (case F | N => k_asm); (case U => k_updF); (case c | n | l => assumption); intro r' es' n' h' tk' ov' kv' F' N'; (try dsimp only at N'))))
local macro_rules | `(tactic| walk_at "call builtin:dict.popitem") => `(tactic| (k_here; k_dflt (refine' pd_popitem ?F ?N ?U ?c ?n ?l ?_; (case F | N => k_asm); (case U => k_updF); (case c | n | l => assumption); intro q' t' v' es' n' h' tk' kv' F' N' l1; (try dsimp only at N'); (try k_lt l1))))
local macro_rules | `(tactic| walk_at "compareOp In str ref") => `(tactic| (k_here; k_dflt (refine' pd_in ?N ?m up_inj ?c ?n ?l ?_; (case N => k_asm); (case m => k_mem); (case c | n | l => assumption); intro tk')))
local macro_rules | `(tactic| walk_at "compareOp NotIn str ref") => `(tactic| (k_here; k_dflt (refine' pd_notin ?N ?m up_inj ?c ?n ?l ?_; (case N => k_asm); (case m => k_mem); (case c | n | l => assumption); intro tk')))

/-! ## equality of plain dicts -/
def sameC (c e : C) : Bool := c.length == e.length && c.all fun p => decide (look e p.1 = some p.2)
section
variable {prog : Program} {w : World} {A : Around} {E : Value → Shared → Prop} {s : Shared} {h₀ : Heap} {L a b : Addr} {news : List (Addr × Obj)} {es ez : List DictEntry} {n m : Nat} {c e : C} {f : Nm → Str} {Q : Value → Shared → Prop}
theorem hits_of (hf : ∀ a b, f a = f b → a = b) {kb : List (Str × Value)} (he : KVs f kb e) {ka : List (Str × Value)} (hc : KVs f ka c) : KeqHits A s kb ka (c.all fun p => decide (look e p.1 = some p.2)) := by
  induction hc with
  | nil => exact .nil
  | @cons kv p kvs c' hd tl ih =>
    obtain ⟨k, v⟩ := kv
    obtain ⟨h1, t, h2⟩ := hd
    simp only at h1 h2
    subst h1 h2
    rw [List.all_cons]
    have at' := kvs_at hf he p.1
    cases hl : look e p.1 with
    | none =>
      rw [show decide ((none : Option Int) = some p.2) = false from by simp, Bool.false_and]
      exact .miss (at'.1 hl)
    | some y =>
      obtain ⟨u, hy⟩ := at'.2 y hl
      have q := keq_flat (A := A) (s := s) (PyProof.V.Flat.int p.2 t) (PyProof.V.Flat.int y u)
      have e1 : PyData.eqv (.int p.2) (.int y) = decide (some y = some p.2) := by
        by_cases z : y = p.2
        · subst z; simp [PyData.eqv]
        · have z' : p.2 ≠ y := fun h => z h.symm
          simp [PyData.eqv, z, z']
      rw [← e1]
      exact .hit hy q ih
theorem pd_eq (hf : ∀ a b, f a = f b → a = b) (N : News h₀ L s.heap news) (pa : (a, plObj es n) ∈ news) (pb : (b, plObj ez m) ∈ news) (hc : KV w f es c) (nc : NK c) (he : KV w f ez e) (ne : NK e) (la : (a == sysModules) = false) (lb : (b == sysModules) = false) (hu : A.units < cLine)
    (h : Q (.bool (sameC c e)) s) : wpAny (model prog w) A (compareOp .Eq (.ref a) (.ref b)) Q E s := by
  obtain ⟨ka, da, Ka⟩ := kv_isDict (prog := prog) (n := n) hf hc nc
  obtain ⟨kb, db, Kb⟩ := kv_isDict (prog := prog) (n := m) hf he ne
  refine keq_eq la lb (Heap.dictOf_iff.mpr ⟨_, (N _ pa).1, da⟩) (Heap.dictOf_iff.mpr ⟨_, (N _ pb).1, db⟩) hu (fun _ => hits_of hf Kb Ka) ?_
  rw [All2.length Ka, All2.length Kb]
  exact h
theorem pd_ne (hf : ∀ a b, f a = f b → a = b) (N : News h₀ L s.heap news) (pa : (a, plObj es n) ∈ news) (pb : (b, plObj ez m) ∈ news) (hc : KV w f es c) (nc : NK c) (he : KV w f ez e) (ne : NK e) (la : (a == sysModules) = false) (lb : (b == sysModules) = false) (hu : A.units < cLine)
    (h : Q (.bool (!sameC c e)) s) : wpAny (model prog w) A (compareOp .NotEq (.ref a) (.ref b)) Q E s := by
  obtain ⟨ka, da, Ka⟩ := kv_isDict (prog := prog) (n := n) hf hc nc
  obtain ⟨kb, db, Kb⟩ := kv_isDict (prog := prog) (n := m) hf he ne
  refine keq_ne la lb (Heap.dictOf_iff.mpr ⟨_, (N _ pa).1, da⟩) (Heap.dictOf_iff.mpr ⟨_, (N _ pb).1, db⟩) hu (fun _ => hits_of hf Kb Ka) ?_
  rw [All2.length Ka, All2.length Kb]
  exact h
end

/-! ## contents: plain laws -/
theorem put_cons (p : Nm × Int) (c : C) (k : Nm) (x : Int) : put (p :: c) k x = if p.1 = k then (p.1, x) :: c else p :: put c k x := by
  unfold put
  rw [idx_cons]
  by_cases q : p.1 = k
  · simp [q]
  · simp only [q, if_false]
    cases idx c k <;> simp
theorem put_nil (k : Nm) (x : Int) : put [] k x = [(k, x)] := rfl
theorem put_old {c : C} {k : Nm} (h : k ∈ c.map (·.1)) (a : Nm) (y x : Int) (n : a ≠ k) : put (put c a y) k x = put (put c k x) a y := by
  induction c with
  | nil => cases h
  | cons p c ih =>
    rw [put_cons, put_cons]
    by_cases qa : p.1 = a
    · have qk : p.1 ≠ k := fun e => n (qa.symm.trans e)
      simp only [qa, if_true, n, if_false, put_cons]
    · by_cases qk : p.1 = k
      · have qa' : k ≠ a := fun e => n e.symm
        simp only [qa, if_false, qk, if_true, put_cons, qa']
      · simp only [qa, qk, if_false, put_cons]
        rw [ih (by simpa [Ne.symm qk] using h)]
theorem put_has (c : C) (k : Nm) (x : Int) : k ∈ (put c k x).map (·.1) := by
  induction c with
  | nil => simp [put_nil]
  | cons p c ih =>
    rw [put_cons]
    by_cases q : p.1 = k
    · simp [q]
    · simp only [q, if_false, List.map_cons, List.mem_cons]
      exact .inr ih
theorem put_keeps (c : C) (a : Nm) (y : Int) {k : Nm} (h : k ∈ c.map (·.1)) : k ∈ (put c a y).map (·.1) := by
  induction c with
  | nil => cases h
  | cons p c ih =>
    rw [put_cons]
    by_cases q : p.1 = a
    · simp only [q, if_true, List.map_cons, List.mem_cons] at h ⊢
      exact h
    · simp only [q, if_false, List.map_cons, List.mem_cons] at h ⊢
      exact h.imp id ih
theorem put_put (c : C) (k : Nm) (y x : Int) : put (put c k y) k x = put c k x := by
  induction c with
  | nil => rw [put_nil, put_nil, put_cons]; simp
  | cons p c ih =>
    rw [put_cons]
    by_cases q : p.1 = k
    · simp only [q, if_true, put_cons]
    · simp only [q, if_false, put_cons, ih]
theorem puts_cons (c : C) (p : Nm × Int) (l : C) : puts c (p :: l) = puts (put c p.1 p.2) l := rfl
theorem puts_old (d : C) : ∀ (c : C) (k : Nm) (x : Int), k ∈ c.map (·.1) → k ∉ d.map (·.1) → put (puts c d) k x = puts (put c k x) d := by
  induction d with
  | nil => intro c k x _ _; rfl
  | cons p d ih =>
    intro c k x h n
    have n1 : p.1 ≠ k := fun e => n (by rw [← e]; exact .head _)
    have n2 : k ∉ d.map (·.1) := fun e => n (.tail _ e)
    rw [puts_cons, puts_cons, ih _ _ _ (put_keeps _ _ _ h) n2, put_old h _ _ _ n1]
theorem puts_put (d : C) : ∀ (c : C) (k : Nm) (x : Int), NK d → puts c (put d k x) = put (puts c d) k x := by
  induction d with
  | nil => intro c k x _; rfl
  | cons p d ih =>
    intro c k x nk
    have nd : p.1 ∉ d.map (·.1) := (List.nodup_cons.mp nk).1
    have nk' : NK d := (List.nodup_cons.mp nk).2
    rw [put_cons]
    by_cases q : p.1 = k
    · simp only [q, if_true, puts_cons]
      rw [puts_old d _ _ _ (put_has _ _ _) (q ▸ nd), put_put]
    · simp only [q, if_false, puts_cons]
      exact ih _ _ _ nk'
theorem puts_puts (l : C) : ∀ (c d : C), NK d → puts c (puts d l) = puts (puts c d) l := by
  induction l with
  | nil => intro c d _; rfl
  | cons p l ih =>
    intro c d nk
    rw [puts_cons, puts_cons, ih _ _ (nk.put _ _), puts_put d _ _ _ nk]
theorem puts_nil_puts (c l : C) : puts c (puts [] l) = puts c l := puts_puts l c [] .nil
theorem del_cons (p : Nm × Int) (c : C) (k : Nm) : del (p :: c) k = if p.1 = k then c else p :: del c k := by
  unfold del
  rw [idx_cons]
  by_cases q : p.1 = k
  · simp [q]
  · simp only [q, if_false]
    cases idx c k <;> simp
theorem look_none {c : C} {k : Nm} (h : k ∉ c.map (·.1)) : look c k = none := by
  induction c with
  | nil => rfl
  | cons p c ih =>
    rw [look_cons]
    have n1 : p.1 ≠ k := fun e => h (by rw [← e]; exact .head _)
    rw [if_neg n1]
    exact ih fun e => h (.tail _ e)
theorem look_del {c : C} (nk : NK c) (k : Nm) : look (del c k) k = none := by
  induction c with
  | nil => rfl
  | cons p c ih =>
    have nd : p.1 ∉ c.map (·.1) := (List.nodup_cons.mp nk).1
    have nk' : NK c := (List.nodup_cons.mp nk).2
    rw [del_cons]
    by_cases q : p.1 = k
    · rw [if_pos q]; exact look_none (q ▸ nd)
    · rw [if_neg q, look_cons, if_neg q]; exact ih nk'
theorem sameC_nil (c : C) : sameC c [] = decide (c = []) := by
  cases c <;> simp [sameC]
theorem NK.init {c : C} {p : Nm × Int} (h : NK (c ++ [p])) : NK c := by
  unfold NK at *
  rw [List.map_append] at h
  exact (List.nodup_append.mp h).1
theorem nil_or_snoc (c : C) : c = [] ∨ ∃ c0 k y, c = c0 ++ [(k, y)] := by
  induction c with
  | nil => exact .inl rfl
  | cons p c ih =>
    obtain ⟨k, y⟩ := p
    rcases ih with rfl | ⟨c0, k0, y0, rfl⟩
    · exact .inr ⟨[], k, y, rfl⟩
    · exact .inr ⟨(k, y) :: c0, k0, y0, rfl⟩
theorem txt1 (n : Nm) : txt n 1 = lo n := rfl
theorem txt0 (n : Nm) : txt n 0 = up n := rfl
theorem Fr.eqv {h₀ h : Heap} {L : Addr} {m m' : Str → Option Value} (F : Fr h₀ L h m) (e : ∀ y, m' y = m y) : Fr h₀ L h m' := by rw [show m' = m from funext e]; exact F
theorem fr3 {h₀ h : Heap} {L : Addr} {m : Str → Option Value} {b x d : Value} (F : Fr h₀ L h m) (h1 : m (Str.ofString "bag") = some b) (h2 : m (Str.ofString "told") = some x) (h3 : m (Str.ofString "due") = some d) :
    Fr h₀ L h (fun z => if z = Str.ofString "bag" then some b else if z = Str.ofString "told" then some x else if z = Str.ofString "due" then some d else m z) := Fr.eqv F fun y => by
  by_cases q1 : y = Str.ofString "bag"
  · rw [if_pos q1, q1, h1]
  · by_cases q2 : y = Str.ofString "told"
    · rw [if_neg q1, if_pos q2, q2, h2]
    · by_cases q3 : y = Str.ofString "due"
      · rw [if_neg q1, if_neg q2, if_pos q3, q3, h3]
      · rw [if_neg q1, if_neg q2, if_neg q3]

/-! ## names in order: plain laws -/
def dn (x : Str) : Nm := if x = up 0 then 0 else if x = up 1 then 1 else if x = up 2 then 2 else if x = up 3 then 3 else if x = up 4 then 4 else if x = up 5 then 5 else 6
theorem dn_up : ∀ k : Nm, dn (up k) = k := by decide +kernel
def rk : Nm → Int
  | 3 => 0 | 4 => 1 | 0 => 2 | 1 => 3 | 5 => 4 | 2 => 5 | 6 => 6
theorem rk_inj : ∀ a b : Nm, rk a = rk b → a = b := by decide +kernel
theorem rk_lt : ∀ a b : Nm, PySem.Spec.ltCps (up a).cps.toList (up b).cps.toList = decide (rk a < rk b) := by decide +kernel
abbrev allN : List Nm := [3, 4, 0, 1, 5, 2, 6]
def srt (l : List Nm) : List Nm := allN.filter fun k => decide (k ∈ l)
theorem allN_mem : ∀ k : Nm, k ∈ allN := by decide +kernel
theorem mem_srt {l : List Nm} {k : Nm} : k ∈ srt l ↔ k ∈ l := by unfold srt; rw [List.mem_filter]; exact ⟨fun h => of_decide_eq_true h.2, fun h => ⟨allN_mem k, decide_eq_true h⟩⟩
theorem strict_eq {g : Nm → Int} : ∀ l m : List Nm, l.Pairwise (fun a b => g a < g b) → m.Pairwise (fun a b => g a < g b) → (∀ x, x ∈ l ↔ x ∈ m) → l = m
  | [], [], _, _, _ => rfl
  | [], b :: m, _, _, h => absurd ((h b).mpr (.head _)) (by simp)
  | a :: l, [], _, _, h => absurd ((h a).mp (.head _)) (by simp)
  | a :: l, b :: m, hl, hm, h => by
    rw [List.pairwise_cons] at hl hm
    have e : a = b := by
      rcases List.mem_cons.mp ((h a).mp (.head _)) with e | q
      · exact e
      · rcases List.mem_cons.mp ((h b).mpr (.head _)) with e | r
        · exact e.symm
        · have := hm.1 a q
          have := hl.1 b r
          omega
    subst e
    refine congrArg (a :: ·) (strict_eq l m hl.2 hm.2 fun x => ⟨fun q => ?_, fun q => ?_⟩)
    · rcases List.mem_cons.mp ((h x).mp (.tail _ q)) with e | r
      · have := hl.1 x q
        rw [e] at this; omega
      · exact r
    · rcases List.mem_cons.mp ((h x).mpr (.tail _ q)) with e | r
      · have := hm.1 x q
        rw [e] at this; omega
      · exact r
theorem le_lt {g : Nm → Int} {l : List Nm} (gi : ∀ a ∈ l, ∀ b ∈ l, g a = g b → a = b) (nd : l.Nodup) (h : l.Pairwise fun a b => g a ≤ g b) : l.Pairwise fun a b => g a < g b := by
  induction l with
  | nil => exact .nil
  | cons a l ih =>
    rw [List.pairwise_cons] at h ⊢
    rw [List.nodup_cons] at nd
    refine ⟨fun b hb => ?_, ih (fun x hx y hy => gi x (.tail _ hx) y (.tail _ hy)) nd.2 h.2⟩
    have h1 := h.1 b hb
    have h2 : g a ≠ g b := fun e => nd.1 (by rw [gi a (.head _) b (.tail _ hb) e]; exact hb)
    omega
theorem rising_pw : ∀ (l : List Nm) (p : Nm), PyProof.Rows.risingS (up p) (l.map up) = true → (p :: l).Pairwise fun a b => rk a ≤ rk b
  | [], p, _ => by simp
  | x :: l, p, h => by
    have h' : (!PySem.Spec.ltCps (up x).cps.toList (up p).cps.toList && PyProof.Rows.risingS (up x) (l.map up)) = true := h
    rw [Bool.and_eq_true, rk_lt] at h'
    have h1 : rk p ≤ rk x := by have := h'.1; simp at this; exact this
    have h2 := rising_pw l x h'.2
    rw [List.pairwise_cons]
    refine ⟨fun b hb => ?_, h2⟩
    rcases List.mem_cons.mp hb with rfl | hb
    · exact h1
    · exact Int.le_trans h1 ((List.pairwise_cons.mp h2).1 b hb)
theorem sorted_pw (l : List Nm) (h : PyProof.Rows.sortedS (l.map up) = true) : l.Pairwise fun a b => rk a ≤ rk b := by
  cases l with
  | nil => exact .nil
  | cons x l => exact rising_pw l x h
theorem srt_pw (l : List Nm) : (srt l).Pairwise fun a b => rk a < rk b := List.Pairwise.sublist (List.filter_sublist) (show allN.Pairwise fun a b => rk a < rk b by decide +kernel)
theorem perm_names {l : List Nm} {ss : List Str} (p : ss.Perm (l.map up)) : ∃ l' : List Nm, ss = l'.map up ∧ l'.Perm l := by
  refine ⟨ss.map dn, ?_, ?_⟩
  · rw [List.map_map]
    have : ∀ x ∈ ss, (up ∘ dn) x = x := fun x hx => by
      obtain ⟨k, _, rfl⟩ := List.mem_map.mp (p.mem_iff.mp hx)
      show up (dn (up k)) = up k
      rw [dn_up]
    rw [List.map_congr_left this, List.map_id']
  · have q := p.map dn
    rw [List.map_map, show (dn ∘ up) = id from funext dn_up, List.map_id] at q
    exact q
theorem srt_unique {l : List Nm} (nd : l.Nodup) {ss : List Str} (p : ss.Perm (l.map up)) (h : PyProof.Rows.sortedS ss = true) : ss = (srt l).map up := by
  obtain ⟨l', rfl, q⟩ := perm_names p
  have h1 := le_lt (g := rk) (fun a _ b _ => rk_inj a b) (q.nodup_iff.mpr nd) (sorted_pw l' h)
  rw [strict_eq l' (srt l) h1 (srt_pw l) fun x => by rw [q.mem_iff, mem_srt]]
theorem srt_nodup (l : List Nm) : (srt l).Nodup := (srt_pw l).imp fun h e => by rw [e] at h; omega
/-- what canonsort_keys gives -/
def canon (o ks : List Nm) : List Nm := (o.filter fun k => decide (k ∈ ks)) ++ srt (ks.filter fun k => decide (k ∉ o))
theorem canon_nil (ks : List Nm) : canon [] ks = srt ks := by unfold canon; rw [List.filter_nil, List.nil_append, List.filter_eq_self.mpr (fun k _ => by simp)]
def gIdx (o : List Nm) (k : Nm) : Int := (o.idxOf k : Nat)
theorem idx_get : ∀ {l : List Nm}, l.Nodup → ∀ (i : Nat) (h : i < l.length), l.idxOf l[i] = i
  | a :: l, nd, 0, _ => by simp
  | a :: l, nd, i + 1, h => by
    rw [List.nodup_cons] at nd
    have h' : i < l.length := by simpa using h
    have ne : a ≠ l[i] := fun e => nd.1 (by rw [e]; exact List.getElem_mem h')
    rw [List.getElem_cons_succ, List.idxOf_cons, show (a == l[i]) = false from by simpa using ne, cond_false, idx_get nd.2 i h']
theorem head_unique {o ks l' : List Nm} (ho : o.Nodup) (nd : ks.Nodup) (p : l'.Perm (ks.filter fun k => decide (k ∈ o))) (h : l'.Pairwise fun a b => gIdx o a ≤ gIdx o b) : l' = o.filter fun k => decide (k ∈ ks) := by
  have hm : ∀ x ∈ l', x ∈ o := fun x hx => by have := p.mem_iff.mp hx; simp at this; exact this.2
  have h1 : l'.Pairwise fun a b => gIdx o a < gIdx o b := le_lt (fun a ha b hb e => by
    have e' : o.idxOf a = o.idxOf b := Int.ofNat.inj e
    have ha' := List.idxOf_lt_length_of_mem (hm a ha)
    have h3 := List.getElem_idxOf ha'
    have hb' := List.idxOf_lt_length_of_mem (hm b hb)
    have h4 := List.getElem_idxOf hb'
    rw [← h3, ← h4]
    simp only [e']) (p.nodup_iff.mpr (List.Pairwise.filter _ nd)) h
  refine strict_eq l' _ h1 ?_ fun x => ?_
  · refine List.Pairwise.sublist List.filter_sublist ?_
    rw [List.pairwise_iff_getElem]
    intro i j hi hj hij
    unfold gIdx
    rw [idx_get ho, idx_get ho]
    omega
  · rw [p.mem_iff]; simp; exact ⟨fun q => ⟨q.2, q.1⟩, fun q => ⟨q.2, q.1⟩⟩
/-! equality of contents -/
theorem sub_len {α : Type} [DecidableEq α] : ∀ {l m : List α}, l.Nodup → (∀ x ∈ l, x ∈ m) → m.length ≤ l.length → ∀ x ∈ m, x ∈ l
  | [], m, _, _, hl => by cases m with
    | nil => exact fun _ h => h
    | cons a m => simp at hl
  | a :: l, m, nd, hs, hl => by
    intro x hx
    rw [List.nodup_cons] at nd
    by_cases e : x = a
    · rw [e]; exact .head _
    · have ha := hs a (.head _)
      have h1 : (m.erase a).length ≤ l.length := by
        rw [List.length_erase_of_mem ha]
        simp only [List.length_cons] at hl
        omega
      exact .tail _ (sub_len (m := m.erase a) nd.2 (fun y hy => (List.mem_erase_of_ne (fun e => nd.1 (by rw [← e]; exact hy))).mpr (hs y (.tail _ hy))) h1 x ((List.mem_erase_of_ne e).mpr hx))
theorem look_mem {c : C} (nk : NK c) {p : Nm × Int} (h : p ∈ c) : look c p.1 = some p.2 := by
  induction c with
  | nil => cases h
  | cons q c ih =>
    have nd : q.1 ∉ c.map (·.1) := (List.nodup_cons.mp nk).1
    rw [look_cons]
    rcases List.mem_cons.mp h with rfl | h
    · simp
    · have n1 : q.1 ≠ p.1 := fun e => nd (by rw [e]; exact List.mem_map.mpr ⟨p, h, rfl⟩)
      rw [if_neg n1]
      exact ih (List.nodup_cons.mp nk).2 h
theorem mem_look {c : C} {k : Nm} {y : Int} (h : look c k = some y) : (k, y) ∈ c := by
  induction c with
  | nil => cases h
  | cons q c ih =>
    rw [look_cons] at h
    by_cases e : q.1 = k
    · rw [if_pos e] at h
      cases h
      rw [← e]; exact .head _
    · rw [if_neg e] at h
      exact .tail _ (ih h)
theorem look_some_iff {c : C} {k : Nm} : (look c k).isSome = decide (k ∈ c.map (·.1)) := by
  by_cases h : k ∈ c.map (·.1)
  · rw [decide_eq_true h]
    obtain ⟨i, hi⟩ : ∃ y, look c k = some y := by
      induction c with
      | nil => cases h
      | cons q c ih =>
        rw [look_cons]
        by_cases e : q.1 = k
        · exact ⟨_, if_pos e⟩
        · rw [if_neg e]
          exact ih (by
            rcases List.mem_cons.mp h with q | q
            · exact absurd q.symm e
            · exact q)
    rw [hi]; rfl
  · rw [decide_eq_false h, look_none h]; rfl
theorem sameC_mem {c e : C} : sameC c e = true ↔ c.length = e.length ∧ ∀ p ∈ c, p ∈ e ∧ look e p.1 = some p.2 := by
  unfold sameC
  rw [Bool.and_eq_true, List.all_eq_true, beq_iff_eq]
  constructor
  · rintro ⟨h1, h2⟩
    exact ⟨h1, fun p hp => ⟨mem_look (of_decide_eq_true (h2 p hp)), of_decide_eq_true (h2 p hp)⟩⟩
  · rintro ⟨h1, h2⟩
    exact ⟨h1, fun p hp => decide_eq_true (h2 p hp).2⟩
theorem NK.nodup {c : C} (h : NK c) : c.Nodup := List.Pairwise.of_map (·.1) (fun a b (q : a.1 ≠ b.1) e => q (by rw [e])) h
theorem sameC_symm_imp {c e : C} (nc : NK c) (ne : NK e) (h : sameC c e = true) : sameC e c = true := by
  rw [sameC_mem] at h ⊢
  have hs := sub_len nc.nodup (fun x hx => (h.2 x hx).1) (Nat.le_of_eq h.1.symm)
  exact ⟨h.1.symm, fun p hp => ⟨hs p hp, look_mem nc (hs p hp)⟩⟩
theorem sameC_symm {c e : C} (nc : NK c) (ne : NK e) : sameC e c = sameC c e := by
  cases h : sameC c e with
  | true => exact sameC_symm_imp nc ne h
  | false =>
    cases h' : sameC e c with
    | false => rfl
    | true => rw [sameC_symm_imp ne nc h'] at h; cases h
theorem sameC_refl {c : C} (nc : NK c) : sameC c c = true := sameC_mem.mpr ⟨rfl, fun p hp => ⟨hp, look_mem nc hp⟩⟩
/-! the pairs of some names -/
def pick (c : C) (l : List Nm) : C := l.map fun k => (k, (look c k).getD 0)
theorem pick_keys (c : C) (l : List Nm) : (pick c l).map (·.1) = l := by unfold pick; rw [List.map_map]; exact List.map_id' l
theorem NK.pick {c : C} {l : List Nm} (h : l.Nodup) : NK (pick c l) := by unfold NK; rw [pick_keys]; exact h

/-! ## sorted names: lists, keyed lists, plain dicts; a sum of lists; comparisons of lists -/
def NmIs (y : Value) (k : Nm) : Prop := ∃ t, y = .str (up k) t
def dnV : Value → Nm
  | .str x _ => dn x
  | _ => 0
theorem NmIs.dn {y : Value} {k : Nm} (h : NmIs y k) : dnV y = k := by obtain ⟨t, rfl⟩ := h; exact dn_up k
theorem nm_strs {ys : List Value} {l : List Nm} (h : All2 NmIs ys l) : StrsAre ys (l.map up) := by
  induction h with
  | nil => exact .nil
  | cons h _ ih => obtain ⟨t, rfl⟩ := h; exact .cons _ t ih
theorem strs_nm : ∀ {l : List Nm} {ys : List Value}, StrsAre ys (l.map up) → All2 NmIs ys l
  | [], _, .nil => .nil
  | k :: l, _, .cons _ t r => .cons ⟨t, rfl⟩ (strs_nm r)
theorem all2_map {α β γ : Type} {R : β → γ → Prop} {f : α → β} {g : α → γ} : ∀ {l : List α}, (∀ a ∈ l, R (f a) (g a)) → All2 R (l.map f) (l.map g)
  | [], _ => .nil
  | a :: l, h => .cons (h a (.head _)) (all2_map fun b hb => h b (.tail _ hb))
theorem zip_rel {g : Nm → Int} {zs : List Value} {hs : List Nm} (h : All2 NmIs zs hs) : ∀ p ∈ (hs.map g).zip zs, NmIs p.2 (dnV p.2) ∧ p.1 = g (dnV p.2) := by
  induction h with
  | nil => intro p hp; cases hp
  | cons h _ ih =>
    intro p hp
    rcases List.mem_cons.mp hp with rfl | hp
    · have e := h.dn; dsimp only; rw [e]; exact ⟨h, rfl⟩
    · exact ih p hp
theorem zip_names {g : Nm → Int} {zs : List Value} {hs : List Nm} (h : All2 NmIs zs hs) : ((hs.map g).zip zs).map (fun p => dnV p.2) = hs := by
  induction h with
  | nil => rfl
  | cons h _ ih => rw [List.map_cons, List.zip_cons_cons, List.map_cons, ih, h.dn]
theorem ksk_names {g : Nm → Int} {zs out : List Value} {hs : List Nm} (hz : All2 NmIs zs hs) (ko : KskOut false (hs.map g) zs out) : ∃ hs' : List Nm, All2 NmIs out hs' ∧ hs'.Perm hs ∧ hs'.Pairwise fun a b => g a ≤ g b := by
  obtain ⟨ps, hp, rfl, hs'⟩ := ko
  have rel : ∀ p ∈ ps, NmIs p.2 (dnV p.2) ∧ p.1 = g (dnV p.2) := fun p q => zip_rel hz p (hp.mem_iff.mp q)
  refine ⟨ps.map fun p => dnV p.2, all2_map fun p q => (rel p q).1, ?_, ?_⟩
  · have := hp.map fun p => dnV p.2
    rwa [zip_names hz] at this
  · rw [List.pairwise_map]
    refine hs'.imp_of_mem fun {p q} h1 h2 e => ?_
    rw [← (rel p h1).2, ← (rel q h2).2]
    simpa using e
section
variable {prog : Program} {w : World} {A : Around} {E : Value → Shared → Prop} {s : Shared} {h₀ : Heap} {L d D : Addr} {m : Str → Option Value} {news : List (Addr × Obj)} {es : List DictEntry} {n : Nat} {c : C} {ys : List Value} {l : List Nm} {kn : Nat} {Q : Value → Shared → Prop}
theorem so_list (F : Fr h₀ L s.heap m) (N : News h₀ L s.heap news) (hD : (D, ({ cls := .type "list", data := .seq ys.toArray kn } : Obj)) ∈ news) (hy : All2 NmIs ys l) (nd : l.Nodup) (hl : l.length < 64)
    (ret : ∀ r kn' ys' h', All2 NmIs ys' (srt l) → (∀ p ∈ news, p.1 < r) → Fr h₀ L h' m → News h₀ L h' ((r, listOf ys'.toArray kn') :: news) → Q (.ref r) { s with heap := h' }) :
    wpAny (model prog w) A (call (.builtin "sorted") [.ref D]) Q E s := by
  have hL : s.heap.IsList D ys.toArray := ⟨_, (N _ hD).1, rfl, _, rfl⟩
  refine sorted_N_str F N hL (nm_strs hy) (by rw [hy.length]; exact hl) fun h' vs' ss' e F' N' hS hp hs => ?_
  rw [srt_unique nd hp hs] at hS
  exact ret _ e vs' h' (strs_nm hS) (fun p hp => Nat.lt_succ_of_lt (Heap.lt_size (N p hp).1)) F' N'
theorem so_keyed {f : Value} {kw : List (Str × Value)} {g : Nm → Int} (F : Fr h₀ L s.heap m) (N : News h₀ L s.heap news) (hD : (D, ({ cls := .type "list", data := .seq ys.toArray kn } : Obj)) ∈ news) (hy : All2 NmIs ys l) (hl : l.length < 64)
    (ha1 : argsOk "sorted" ⟨[.ref D], kw⟩) (ha2 : ∀ x, argsOk "list.sort" ⟨[.ref x], kw⟩) (ht : ∀ x, Builtin.«list.sort» ⟨[.ref x], kw⟩ = ksk_tree x f false)
    (turn : ∀ (k : Nm) (t : Tok), k ∈ l → ∀ (h : Heap) (tk : Nat) (own : List (Addr × Obj)), Fr h₀ L h m → News h₀ L h (news ++ own) →
      wpAny (model prog w) A.in1.in1 (call f [.str (up k) t]) (KskEnd h₀ L m (news ++ own) (g k) { s with heap := h, toks := tk }) (fun _ _ => False) { s with heap := h, toks := tk })
    (ret : ∀ r kn' ys' l' h' tk', All2 NmIs ys' l' → l'.Perm l → (l'.Pairwise fun a b => g a ≤ g b) → (∀ p ∈ news, p.1 < r) → Fr h₀ L h' m → News h₀ L h' ((r, listOf ys'.toArray kn') :: news) → Q (.ref r) { s with heap := h', toks := tk' }) :
    wpAny (model prog w) A (call (.builtin "sorted") [.ref D] kw) Q E s := by
  have hL : s.heap.IsList D ys.toArray := ⟨_, (N _ hD).1, rfl, _, rfl⟩
  refine ksk_sorted (b := false) (f := f) (kz := l.map g) F N hL (by rw [List.length_map, hy.length]) (by rw [hy.length]; exact hl) ha1 ha2 ht (fun i v k hv hk h tk own F' N' => ?_) fun r h' tk out e F' N' l1 ko => ?_
  · obtain ⟨nm, hn, t, rfl⟩ := All2.get hy i v hv
    rw [List.getElem?_map, hn] at hk
    cases hk
    exact turn nm t (List.mem_of_getElem? hn) h tk own F' N'
  · obtain ⟨l', h1, h2, h3⟩ := ksk_names hy ko
    exact ret r e out.toList l' h' tk h1 h2 h3 l1 F' (by rw [Array.toArray_toList]; exact N')
theorem so_dict (hh : A.handled = none) (F : Fr h₀ L s.heap m) (N : News h₀ L s.heap news) (hd : (d, plObj es n) ∈ news) (hc : KV w up es c) (nk : NK c) (lo : (d == sysModules) = false)
    (ret : ∀ r kn' ys' h' tk', All2 NmIs ys' (srt (c.map (·.1))) → (∀ p ∈ news, p.1 < r) → Fr h₀ L h' m → News h₀ L h' ((r, listOf ys'.toArray kn') :: news) → Q (.ref r) { s with heap := h', toks := tk' }) :
    wpAny (model prog w) A (call (.builtin "sorted") [.ref d]) Q E s := by
  obtain ⟨kvs, hD, hK⟩ := kv_isDict (prog := prog) (n := n) up_inj hc nk
  have hat : s.heap.DictAt (strKind prog w) d kvs n := by
    obtain ⟨es', ep, he, hdat, r⟩ := hD
    have e1 : ep = n := by injection hdat with _ e; exact e.symm
    subst e1
    exact ⟨_, es', (N _ hd).1, he, hdat, r⟩
  have hl : kvs.length = c.length := hK.length
  refine kdu_sorted (kdl_dict (knd := strKind prog w) (kvs := kvs) (ep := n) lo) hh F N hat (by rw [hl]; exact nk.size) fun D h' tk vs F' N' l1 hv hP => ?_
  have hy : All2 NmIs vs (c.map (·.1)) := by
    have key : ∀ (c : C) (kvs : List (Str × Value)) (vs : List Value), KVs up kvs c → vs.length = kvs.length → (∀ (j : Nat) (v : Value), vs[j]? = some v → ∃ k x, kvs[j]? = some (k, x) ∧ (strKind prog w).is k v = true) → All2 NmIs vs (c.map (·.1)) := by
      intro c
      induction c with
      | nil => intro kvs vs h1 h2 _; cases h1; cases vs with
        | nil => exact .nil
        | cons _ _ => simp at h2
      | cons p c ih =>
        intro kvs vs h1 h2 h3
        cases h1 with
        | @cons kv _ kvs' _ hp ht =>
          cases vs with
          | nil => simp at h2
          | cons v vs =>
            refine .cons ?_ (ih kvs' vs ht (by simpa using h2) fun j u hj => ?_)
            · obtain ⟨k, x, hx, hk⟩ := h3 0 v rfl
              cases hx
              have : v.isStrOf k = true := hk
              cases v <;> first | cases this | skip
              rename_i y t
              have e3 : y = k := by simpa [Value.isStrOf] using this
              exact ⟨t, by rw [e3, ← hp.1]⟩
            · exact h3 (j + 1) u (by simpa using hj)
    exact key c kvs vs hK (by rw [hv]) hP
  have hz := N' (D, listOf vs.toArray 0) (.head _)
  have hS := nm_strs hy
  refine wpAny_call_entry PyProof.Rows.slot_list_sort ⟨_, hz.1, rfl⟩ PyProof.Rows.entry_list_sort (list_sort_treeK strKind_oneLt (n := 0) (vs := vs) hz.1 hS.keysOf (fun v₁ v₂ rest e => keyKind_strs (by rw [← e]; exact hS)) (by rw [hv, hl]; exact Nat.lt_of_le_of_lt nk.len (by decide)) fun st' hp hs => ⟨.none, rfl, ?_⟩) (PyProof.Rows.args_list_sort _)
  obtain ⟨ss', h1, h2, h3⟩ := sorted_out_str hS hp hs
  rw [srt_unique nk h2 h3] at h1
  obtain ⟨e, he⟩ := sortedHeap_at (out := (arrOf st').map (·.2)) (n := 0) hz.1
  have k : ∀ b o, b ≠ D → h'.get? b = some o → (sortedHeap h' D vs ((arrOf st').map (·.2))).get? b = some o := fun b o hb q => (sortedHeap_old hb (Heap.lt_size q)).trans q
  refine ret D e ((arrOf st').map (·.2)).toList _ tk (strs_nm h1) l1 ⟨F'.ns.at' fun o q => k _ o (Ne.symm hz.2.1) q, fun b o q => k b o (fun z => by rw [z, hz.2.2] at q; cases q) (F'.keep b o q), F'.above⟩ fun p hp => ?_
  rcases List.mem_cons.mp hp with rfl | hp
  · refine ⟨?_, hz.2⟩
    rw [Array.toArray_toList]
    exact he
  · exact ⟨k _ _ (Nat.ne_of_lt (l1 p hp)) (N' p (.tail _ hp)).1, (N' p (.tail _ hp)).2⟩
theorem add_names {a b : Addr} {ka kb : Nat} {ys zs : List Value} {l r : List Nm} (F : Fr h₀ L s.heap m) (N : News h₀ L s.heap news) (ha : (a, ({ cls := .type "list", data := .seq ys.toArray ka } : Obj)) ∈ news) (hb : (b, ({ cls := .type "list", data := .seq zs.toArray kb } : Obj)) ∈ news) (hy : All2 NmIs ys l) (hz : All2 NmIs zs r) (hl : l.length + r.length ≤ 100)
    (ret : ∀ q kn' ws h', All2 NmIs ws (l ++ r) → (∀ p ∈ news, p.1 < q) → Fr h₀ L h' m → News h₀ L h' ((q, listOf ws.toArray kn') :: news) → Q (.ref q) { s with heap := h' }) :
    wpAny (model prog w) A (binaryOp .Add (.ref a) (.ref b)) Q E s := by
  have hA : s.heap.IsList a ys.toArray := ⟨_, (N _ ha).1, rfl, _, rfl⟩
  have hB : s.heap.IsList b zs.toArray := ⟨_, (N _ hb).1, rfl, _, rfl⟩
  refine add_lists (hsz := by rw [hy.length, hz.length]; exact Nat.le_trans hl (by decide)) F N hA hB fun h' F' N' => ?_
  exact ret _ _ (ys ++ zs) h' (hy.append hz) (fun p hp => Heap.lt_size (N p hp).1) F' N'
end

section
variable {prog : Program} {w : World} {A : Around} {E : Value → Shared → Prop} {s : Shared} {h₀ : Heap} {L d D v : Addr} {m : Str → Option Value} {news : List (Addr × Obj)} {es : List DictEntry} {n : Nat} {c : C} {f : Nm → Str} {Q : Value → Shared → Prop} {t : Tok}
theorem fr_keep {h' : Heap} (F : Fr h₀ L s.heap m) (k : ∀ b o, s.heap.get? b = some o → h'.get? b = some o) : Fr h₀ L h' m := by
  obtain ⟨oL, es, ep, hL, r⟩ := F.ns
  exact ⟨⟨oL, es, ep, k _ _ hL, r⟩, fun b o e => k b o (F.keep b o e), F.above⟩
theorem news_keep {h' : Heap} (N : News h₀ L s.heap news) (k : ∀ b o, s.heap.get? b = some o → h'.get? b = some o) : News h₀ L h' news := fun p hp => ⟨k _ _ (N p hp).1, (N p hp).2⟩
theorem ka_dict (F : Fr h₀ L s.heap m) (N : News h₀ L s.heap news) (hm : (d, plObj es n) ∈ news)
    (h : ∀ q h', Fr h₀ L h' m → News h₀ L h' ((q, boundObj "builtin_function_or_method" (.builtin "dict.items") d) :: news) → (∀ p ∈ news, p.1 < q) → Q (.bool true) { s with heap := h' }) : wpAny (model prog w) A (call (.builtin "hasattr") [.ref d, .str (Str.ofString "items") t]) Q E s := by
  obtain ⟨hh, g, dr, tk, os⟩ := s
  refine hasattr_dict (N _ hm).1 ?_
  obtain ⟨F', N', l'⟩ := ks_newsPush (s := ⟨hh, g, dr, tk, os⟩) (o := boundObj "builtin_function_or_method" (.builtin "dict.items") d) F N rfl (Heap.get?_push_at rfl rfl) (fun b o e => Heap.get?_push_of_some _ e)
  exact h _ _ F' N' l'
theorem ka_list {ys : List Value} (hA : A.handled = none) (F : Fr h₀ L s.heap m) (N : News h₀ L s.heap news) (hm : (D, LCg.lst ys) ∈ news)
    (h : ∀ h' tk', Fr h₀ L h' m → News h₀ L h' news → Q (.bool false) { s with heap := h', toks := tk' }) : wpAny (model prog w) A (call (.builtin "hasattr") [.ref D, .str (Str.ofString "items") t]) Q E s := by
  obtain ⟨hh, g, dr, tk, os⟩ := s
  exact hasattr_list (N _ hm).1 hA fun h' tk' k => h _ _ (fr_keep F k) (news_keep N k)
theorem ka_iter (F : Fr h₀ L s.heap m) (N : News h₀ L s.heap news) (hv : (v, ({ cls := .type "dict_items", data := .fields #[.ref d] } : Obj)) ∈ news) (hm : (d, plObj es n) ∈ news) (hf : ∀ a b, f a = f b → a = b) (hc : KV w f es c) (nk : NK c)
    (h : ∀ q h', Fr h₀ L h' m → News h₀ L h' ((q, itemsIt d c.length n) :: news) → (∀ p ∈ news, p.1 < q) → Q (.ref q) { s with heap := h' }) : wpAny (model prog w) A (call (.builtin "iter") [.ref v]) Q E s := by
  obtain ⟨kvs, hD, hK⟩ := kv_isDict (prog := prog) (n := n) hf hc nk
  have hat : s.heap.DictAt (strKind prog w) d kvs n := by
    obtain ⟨es', ep, he, hdat, r⟩ := hD
    have e1 : ep = n := by injection hdat with _ e; exact e.symm
    subst e1
    exact ⟨_, es', (N _ hm).1, he, hdat, r⟩
  have hl : kvs.length = c.length := All2.length hK
  refine Calls.call_function_entry (by decide +kernel) (by decide +kernel) kdk_entry_iter (kdk_args_iter _) ?_
  unfold Builtin.«iter»
  refine wpAny_bind (m := someArgs "iter" 1 2 _) (wpAny_of_eq (a := [Value.ref v]) (by first | rfl | kernel_rfl) ?_)
  dsimp only
  refine wpAny_bind (wpAny_pyIter_items ⟨_, (N _ hv).1, rfl, rfl⟩ hat (wpAny_pure ⟨_, rfl, ?_⟩))
  rw [hl]
  obtain ⟨F', N', l'⟩ := ks_newsPush (o := itemsIt d c.length n) F N rfl (Heap.get?_push_at rfl rfl) (fun b o e => Heap.get?_push_of_some _ e)
  exact h _ _ F' N' l'
end
local macro_rules | `(tactic| walk_at "call builtin:hasattr") => `(tactic| (k_here; (with_reducible show wpAny _ _ (call (Value.builtin "hasattr") [Value.ref _, Value.str _ _]) _ _ _); k_dflt (first | (refine' ka_dict ?F ?N ?m ?_; (case F | N => k_asm); (case m => k_mem); intro q' h' F' N' l1; (try k_lt l1)) | (refine' ka_list rfl ?F ?N ?m ?_; (case F | N => k_asm); (case m => k_mem); intro h' tk' F' N'))))
local macro_rules | `(tactic| walk_at "call builtin:iter") => `(tactic| (k_here; (with_reducible show wpAny _ _ (call (Value.builtin "iter") [Value.ref _]) _ _ _); k_dflt (refine' ka_iter ?F ?N ?v ?m ?f ?c ?n ?_; (case F | N => k_asm); (case v | m => k_mem); (case c => assumption); (case f => first | exact up_inj | exact txt_inj _); (case n => assumption); intro q' h' F' N' l1; (try k_lt l1))))

/-! ## update's inner loop over a plain dict's items -/
section
variable {prog : Program} {w : World} {A : Around} {E : Value → Shared → Prop} {s : Shared} {env : Env} {h₀ : Heap} {body : List Stmt} {Q : Flow → Shared → Prop}
theorem loop_updI {x dx it d : Addr} {es eu : List DictEntry} {n nu : Nat} {c cu : C} {j : Fin 3} {pk pv pt : Pos} {x1 : Nat} {m₀ : Str → Option Value} {news : List (Addr × Obj)} {g : Obj → List (Addr × Obj)}
    (hh : A.handled = none) (hxk : env.kindOf (Str.ofString "key") = some .local) (hxv : env.kindOf (Str.ofString "value") = some .local) (hp : (env.scope.kind == .class || (env.scope.kind == .module && env.locals != env.globals)) = false)
    (F : Fr h₀ env.locals s.heap m₀) (N : News h₀ env.locals s.heap ((it, itemsIt d cu.length nu) :: news)) (hnw : ∀ p ∈ news, p.1 < it) (U : UpdF x (cdObj dx es n) news g) (hd : (d, plObj eu nu) ∈ news) (hdx : d ≠ x) (hcu : KV w (fun k => txt k j) eu cu) (nku : NK cu) (hc : KV w up es c) (nk : NK c)
    (turn : ∀ (c' : C) es' n' It (s₁ : Shared) oI k y t u, KV w up es' c' → NK c' → @Ne Nat It x → Fr h₀ env.locals s₁.heap (Names2 (some (.int y u)) (some (.str (txt k j) t)) m₀) → News h₀ env.locals s₁.heap ((It, oI) :: g (cdObj dx es' n')) →
      wpAny (model prog w) A (execs body env) (PostU w h₀ env.locals m₀ g dx [(It, oI)] (put c' k y) s₁) E s₁)
    (done : ∀ es' n' u1 u2 h tk, KV w up es' (puts c cu) → Fr h₀ env.locals h (Names2 u1 u2 m₀) → News h₀ env.locals h (g (cdObj dx es' n')) → Q .next { s with heap := h, toks := tk })
    (hE : PassesOwn (model prog w) A env E := by passes_own) :
    wpAny (model prog w) A (pyIter (.ref it)) (fun itv s₂ => codeAny (model prog w) A (.forLoop (.Tuple [.Name (Str.ofString "key") pk, .Name (Str.ofString "value") pv] x1 pt) itv body [] env) (fun r s' => match r with | .ok f => Q f s' | .error e => cameBackBy (model prog w) A env E e s') s₂) E s := by
  refine loop_items (fun i m' l => Two (Str.ofString "value") (Str.ofString "key") m₀ m' ∧ ∃ es' n', l = g (cdObj dx es' n') ∧ KV w up es' (puts c (cu.take i))) hh hxk hxv hp F N (fun p hp => Nat.ne_of_lt (hnw p hp)) hd (txt_inj j) hcu nku ⟨Two.refl, es, n, ?_, hc⟩ ?_ ?_ ?_ hE
  · obtain ⟨pre, post, e, hg, _, _⟩ := U.split
    rw [hg, e]
  · rintro i m k ⟨_, es', n', rfl, _⟩
    exact (upd_addr U _).2 _ hd hdx
  · rintro i k y t u m₁ news₁ s₁ own hx ⟨h2, es', n', rfl, kv⟩ off hown F2 N2
    have ht : puts c (cu.take (i + 1)) = put (puts c (cu.take i)) k y := by
      rw [List.take_add_one, hx]; exact puts_snoc _ _ _ _
    have e : (fun z => if z = Str.ofString "value" then some (Value.int y u) else if z = Str.ofString "key" then some (.str (txt k j) t) else m₁ z) = Names2 (some (.int y u)) (some (.str (txt k j) t)) m₀ := by
      funext z
      by_cases h1 : z = Str.ofString "value"
      · simp only [Names2, if_pos h1]
      · by_cases h3 : z = Str.ofString "key"
        · simp only [Names2, if_neg h1, if_pos h3]
        · simp only [Names2, if_neg h1, if_neg h3]; exact h2 z h1 h3
    rw [e] at F2
    rw [ht]
    have hdg : (d, plObj eu nu) ∈ g (cdObj dx es' n') := (upd_addr U _).2 _ hd hdx
    have hox : ∃ o, (x, o) ∈ g (cdObj dx es' n') := by
      obtain ⟨pre, post, e, hg, _, _⟩ := U.split
      rw [hg]; exact ⟨_, List.mem_append_right _ (.head _)⟩
    obtain ⟨o9, hox⟩ := hox
    obtain ⟨It, oI, hI1, hI2, hI3⟩ : ∃ It oI, (It, oI) ∈ own ++ g (cdObj dx es' n') ∧ @Ne Nat It x ∧ ∀ p ∈ own, p = (It, oI) ∨ p = (d, plObj eu nu) := by
      have hdd : ∀ p ∈ own, p.1 = d → p = (d, plObj eu nu) := fun p hp e => by
        have a := (N2 p (List.mem_append_left _ hp)).1
        have b := (N2 _ (List.mem_append_right _ hdg)).1
        rw [e] at a
        exact Prod.ext e (Option.some.inj (a.symm.trans b))
      by_cases hq : ∃ o, (it, o) ∈ own
      · obtain ⟨o, ho⟩ := hq
        refine ⟨it, o, List.mem_append_left _ ho, fun e => off _ hox e.symm, fun p hp => (hown p hp).imp (fun e => ?_) (hdd p hp)⟩
        have a := (N2 p (List.mem_append_left _ hp)).1
        have b := (N2 _ (List.mem_append_left _ ho)).1
        rw [e] at a
        exact Prod.ext e (Option.some.inj (a.symm.trans b))
      · exact ⟨d, _, List.mem_append_right _ hdg, hdx, fun p hp => (hown p hp).elim (fun e => absurd ⟨p.2, by rw [← e]; exact hp⟩ hq) fun e => .inr (hdd p hp e)⟩
    refine wpAny_mono (turn (puts c (cu.take i)) es' n' It s₁ oI k y t u kv (nk.puts _) hI2 F2 (fun p hp => ?_)) (fun f s₂ r => ?_) fun _ _ e => e
    · rcases List.mem_cons.mp hp with rfl | hp
      · exact N2 _ hI1
      · exact N2 _ (List.mem_append_right _ hp)
    · obtain ⟨rfl, h', tk, m', es2, n2, rfl, F', h2', N', kv'⟩ := r
      refine ⟨rfl, h', tk, m', g (cdObj dx es2 n2), rfl, F', fun p hp => ?_, by rw [(upd_addr U _).1, (upd_addr U _).1], h2', es2, n2, rfl, kv'⟩
      rcases List.mem_append.mp hp with h | h
      · rcases hI3 p h with rfl | rfl
        · exact N' _ (.head _)
        · exact N' _ (.tail _ ((upd_addr U _).2 _ hd hdx))
      · exact N' _ (.tail _ h)
  · rintro m₁ news₁ h tk ⟨h2, es', n', rfl, kv⟩ F3 N3
    rw [List.take_length] at kv
    rw [h2.eq] at F3
    exact done es' n' _ _ h tk kv F3 N3
end

/-! ## update's outer loop: one turn, whatever the arguments' shape -/
def fnBody (o : Option Obj) : List Stmt := match o with
  | some ⟨_, _, .func fd, _⟩ => (match fd.body with
    | .stmts b => b
    | _ => [])
  | _ => []
def loopOf : List Stmt → Expr × List Stmt
  | [_, .For t _ b _ _] => (t, b)
  | _ => (.Name (Str.ofString "") ⟨0, 0, 0, 0⟩, [])
noncomputable def updFor (w : World) : Expr × List Stmt := loopOf (fnBody ((hd.heap_39 w.params).lookup 138))
abbrev updScope : Scope := { kind := .function, names := [(Str.ofString "self", .local), (Str.ofString "args", .local), (Str.ofString "kwargs", .local), (Str.ofString "mappings", .local), (Str.ofString "mapping", .local), (Str.ofString "key", .local), (Str.ofString "value", .local), (Str.ofString "list", .globalImplicit), (Str.ofString "hasattr", .globalImplicit), (Str.ofString "iter", .globalImplicit)], isGenerator := false, isCoroutine := false }
abbrev updEnv (L : Addr) : Env := envX (Str.ofString "CaselessDict.update") updScope L 138 (.ref 137) []
section
variable {w : World} {p : Program} {loose : List Str} {mean : ExcName → Option Value} {mg mb : Str → Option Value} {dp un : Nat} {gd : Option (List Code)} {cn : Str} {cs : Scope} {a L : Addr} {ccd : Value} {cl : List (Str × Addr)} {outer : List Env} {base h₀ : Heap} {m : Str → Option Value} {Q : Value → Shared → Prop} {E : Value → Shared → Prop}
variable {x dx : Addr}
set_option pp.deepTerms false
set_option pp.maxSteps 3000
set_option pp.proofs false
theorem upd_turn {c' cm : C} {es' : List DictEntry} {n' : Nat} {It L' : Addr} {s₁ : Shared} {oI : Obj} {v : Value} {u1 u2 u3 : Option Value} {R : List (Addr × Obj)} {m₁ : Str → Option Value} {g' : Heap}
   (Bl : Below (ktrTop dp un gd cn cs L a ccd cl outer) base (envX cn cs L a ccd cl :: outer) g') (X : (hd.heap_39 w.params).In g') (T : Top p loose mean mg mb g') (hk : cs.kind = .function) (hd : dp + 60 < recursionLimit) (hu : un + 600 < cLine)
   (kv2 : KV w up es' c') (nk2 : NK c') (hM : MapIn w x ((x, cdObj dx es' n') :: (dx, plObj [] 0) :: R) v cm) (hIx : @Ne Nat It x) (hx : ∀ p ∈ (dx, plObj [] 0) :: R, p.1 ≠ x)
   (F2 : Fr g' L' s₁.heap (Names3 u1 u2 u3 (fun z => if z = Str.ofString "self" then some (.ref x) else m₁ z))) (N2 : News g' L' s₁.heap ((It, oI) :: (x, cdObj dx es' n') :: (dx, plObj [] 0) :: R))
   (hE : PassesOwn (model PySem.Challenge.rw_bf0001_01.row.prog w) ((ktrTop dp un gd cn cs L a ccd cl outer).deeper (updEnv L')) (updEnv L') E) :
   wpAny (model PySem.Challenge.rw_bf0001_01.row.prog w) ((ktrTop dp un gd cn cs L a ccd cl outer).deeper (updEnv L')) (assign (updFor w).1 (updEnv L') v)
     (fun _ s₃ => wpAny (model PySem.Challenge.rw_bf0001_01.row.prog w) ((ktrTop dp un gd cn cs L a ccd cl outer).deeper (updEnv L')) (execs (updFor w).2 (updEnv L')) (PostM w g' L' (fun z => if z = Str.ofString "self" then some (.ref x) else m₁ z) (fun o => (x, o) :: (dx, plObj [] 0) :: R) dx [(It, oI)] (puts c' cm) s₁) E s₃) E s₁ := by
  conv in (updFor w).1 => whnf
  conv in (updFor w).2 => whnf
  revert X; k_fill; intro X
  have dxx : @Ne Nat dx x := hx _ (.head _)
  cases hM with
  | list h1 h2 h3 =>
    have Dx : @Ne Nat _ x := h2
    replace N2 := news_dup N2 (.tail _ h1)
    k_steps
    refine For_invTF (by assumption) ?_ (by intro x; rfl)
    k_steps
    rename Fr _ _ _ _ => F3
    rename News _ _ _ _ => N3
    refine' loop_upd (x := x) (dx := dx) (n := n') rfl F3 N3 ?kU ?kl Dx ?ka kv2 nk2 ?turnJ ?doneJ
    case kU => k_updF
    case kl => k_mem
    case ka => exact h3.mono fun y p ⟨q, t, e, h1, h2, h3⟩ => ⟨q, t, e, by repeat (first | exact h1 | apply List.Mem.tail), h2, h3⟩
    case turnJ =>
      try clear F3 N3
      try clear F2 N2
      intro c' es' n' It2 s₂ oI2 q v k y t u1 u2 kv2 nk2 hKV hqx hIx F4 N4
      try dsimp only at N4
      k_steps
      refine' PostU.intro ?F ?N ?kv ?s ?two
      case F => assumption
      case N => assumption
      case kv => assumption
      case s => dsimp only [List.cons_append, List.nil_append]; ktr_rel
      case two => intro z z1 z2; simp only [if_neg z1, if_neg z2]
    case doneJ =>
      try clear F3 N3
      try clear F2 N2
      intro es' n' u1 u2 h tk kv2 F4 N4
      try dsimp only at N4
      k_steps
      refine' PostM.intro ?F ?N ?kv ?s ?two
      case F => assumption
      case N => assumption
      case kv => assumption
      case s => dsimp only [List.cons_append, List.nil_append]; ktr_rel
      case two => intro z z1 z2 z3; simp only [if_neg z1, if_neg z2, if_neg z3]
  | dict j h1 h2 lo h3 h4 =>
    have Dx : @Ne Nat _ x := h2
    replace N2 := news_dup N2 (.tail _ h1)
    k_steps
    refine For_code ?_ (by intro x; rfl)
    k_steps
    rename Fr _ _ _ _ => F3
    rename News _ _ _ _ => N3
    refine' loop_updI (j := j) (x := x) (dx := dx) (n := n') rfl rfl rfl rfl F3 N3 ?ltI ?kUI ?kdI ?kxI h3 h4 kv2 nk2 ?turnI ?doneI
    case ltI => refine lt_of_all ?_; assumption
    case kUI => k_updF
    case kdI => k_mem
    case kxI => assumption
    case turnI =>
      try clear F3 N3
      try clear F2 N2
      intro c' es' n' It2 s₂ oI2 k y t u kv2 nk2 hIx F4 N4
      try dsimp only at N4
      have hKV : KeyV (.str (txt k j) t) k := .s _ _ _
      k_steps
      refine' PostU.intro ?F ?N ?kv ?s ?two
      case F => assumption
      case N => assumption
      case kv => assumption
      case s => dsimp only [List.cons_append, List.nil_append]; ktr_rel
      case two => intro z z1 z2; simp only [if_neg z1, if_neg z2]
    case doneI =>
      try clear F3 N3
      try clear F2 N2
      intro es' n' u1 u2 h tk kv2 F4 N4
      try dsimp only at N4
      k_steps
      refine' PostM.intro ?F ?N ?kv ?s ?two
      case F => assumption
      case N => assumption
      case kv => assumption
      case s => dsimp only [List.cons_append, List.nil_append]; ktr_rel
      case two => intro z z1 z2 z3; simp only [if_neg z1, if_neg z2, if_neg z3]
end

/-! ## list(d.items()) of any dict data -/
def TupAt (h : Heap) (lo : Addr) (a : Addr) (e : DictEntry) : Prop := lo < a ∧ h.get? a = some { cls := .type "tuple", data := .seq #[e.key, e.val] }
theorem TupAt.keep {h h' : Heap} {lo lo' a : Addr} {e : DictEntry} (x : TupAt h lo a e) (hl : lo' ≤ lo) (k : ∀ b o, lo < b → h.get? b = some o → h'.get? b = some o) : TupAt h' lo' a e := ⟨Nat.lt_of_le_of_lt hl x.1, k _ _ x.1 x.2⟩
section
variable {prog : Program} {w : World} {A : Around} {s : Shared} {R : Result → Shared → Prop} {es : List DictEntry} {ep : Nat} {od : Obj}
theorem lx_loop {S I d : Addr} (hh : A.handled = none) (hSI : S < I) (hSd : d ≠ S) (hId : d ≠ I) (hn : es.length ≤ sizeLine) (hdd : od.data = .dict es.toArray ep) (res : Value) {h₁ : Heap}
    (hR : ∀ h' tk acc c as, (∀ b o, b ≠ S → b ≠ I → h₁.get? b = some o → h'.get? b = some o) → h'.get? S = some { cls := .type "list", data := .seq acc c } → All2 (TupAt h' I) as es → acc.toList = as.map Value.ref → R (.ok (.ret res)) { s with heap := h', toks := tk }) :
    ∀ (k i : Nat) (h : Heap) (tk c : Nat) (acc : Array Value) (as : List Addr), es.length - i = k → i ≤ es.length → ItSt h I d i es.length ep → h.get? d = some od → (∀ b o, b ≠ S → b ≠ I → h₁.get? b = some o → h.get? b = some o) →
      h.get? S = some { cls := .type "list", data := .seq acc c } → acc.toList = as.map Value.ref → All2 (TupAt h I) as (es.take i) → I < h.objs.size →
      codeAny (model prog w) A (.builtin "list.extend.loop" ⟨[.ref S, .ref I, res], []⟩) R { s with heap := h, toks := tk } := by
  have hne : S ≠ I := Nat.ne_of_lt hSI
  intro k
  induction k with
  | zero =>
    intro i h tk c acc as hk hi hst hD hkeep hS hacc hG hIs
    obtain rfl : i = es.length := by omega
    refine codeAny_builtin PySem.F.entry_extend_loop ?_
    rw [Around.under_plainId PySem.F.plain_extend_loop _]
    show wpAny _ A.in1 (pyNext (.ref I) >>= _) _ _ _
    refine wpAny_bind (nx_end (s := { s with heap := h, toks := tk }) (A := A.in1) hh hst hD hdd fun h' he => ?_)
    rw [List.take_length] at hG
    exact wpAny_pure (hR h' tk acc c as (fun b o h1 h2 e => he b o h2 (hkeep b o h1 h2 e)) (he S _ hne hS) (hG.mono fun a e x => x.keep (Nat.le_refl _) fun b o hb q => he b o (Nat.ne_of_gt hb) q) hacc)
  | succ k ih =>
    intro i h tk c acc as hk hi hst hD hkeep hS hacc hG hIs
    have hlt : i < es.length := by omega
    have hx : es[i]? = some es[i] := List.getElem?_eq_getElem hlt
    have hal : as.length = i := by rw [hG.length, List.length_take]; omega
    have hsz : acc.size = i := by rw [← Array.length_toList, hacc, List.length_map, hal]
    refine codeAny_builtin PySem.F.entry_extend_loop ?_
    rw [Around.under_plainId PySem.F.plain_extend_loop _]
    show wpAny _ A.in1 (pyNext (.ref I) >>= _) _ _ _
    refine wpAny_bind (nx_item (s := { s with heap := h, toks := tk }) hst hD hdd hx fun h' hst' ht hz hkp => ?_)
    dsimp only at ht hz hkp ⊢
    have hS' := hkp S _ hne hS
    have up : ∀ b o, b ≠ S → h'.get? b = some o → (h'.update S (Obj.mapSeq (·.push (Value.ref h.objs.size)))).get? b = some o := fun b o hb e => (Heap.get?_update_other _ _ (Ne.symm hb)).trans e
    have hSl : S < h.objs.size := Heap.lt_size hS
    have hS'' := Heap.get?_update_self (Obj.mapSeq (·.push (Value.ref h.objs.size))) hS' rfl
    show wpAny _ A.in1 (updateSeq S (·.push (Value.ref h.objs.size)) >>= _) _ _ _
    refine wpAny_bind ?_
    refine wpAny_updateSeq hS' rfl (wpAny_pure ⟨plainId_quiet PySem.F.plain_extend_loop _, ih (i + 1) _ tk _ (acc.push (Value.ref h.objs.size)) (as ++ [h.objs.size]) (by omega) hlt
      (hst'.keep' (Ne.symm hne) (fun o _ => ⟨_, hS''⟩) up) (up d _ hSd (hkp d _ hId hD)) (fun b o h1 h2 e => up b o h1 (hkp b o h2 (hkeep b o h1 h2 e))) hS'' (by rw [Array.toList_push, hacc, List.map_append]; rfl) ?_ ?_⟩)
      (by rw [hsz]; omega) (by show (acc.push (Value.ref h.objs.size)).size ≤ sizeLine + 1; rw [Array.size_push, hsz]; omega)
    · rw [List.take_add_one, hx]
      refine (hG.mono fun a e x => x.keep (Nat.le_refl _) fun b o hb q => up b o (Nat.ne_of_gt (Nat.lt_trans hSI hb)) (hkp b o (Nat.ne_of_gt hb) q)).snoc ⟨hIs, up _ _ (Nat.ne_of_gt hSl) ht⟩
    · have e := up _ _ (Nat.ne_of_gt hSl) ht
      exact Nat.lt_trans hIs (Heap.lt_size e)
end
section
variable {prog : Program} {w : World} {A : Around} {E : Value → Shared → Prop} {s : Shared} {r d : Addr} {es : List DictEntry} {ep : Nat} {od : Obj}
abbrev viewObj (d : Addr) : Obj := { cls := .type "dict_items", data := .fields #[.ref d] }
theorem lx_extend {R : Result → Shared → Prop} (hh : A.handled = none) (hv : s.heap.get? r = some (viewObj d)) (hod : s.heap.get? d = some od) (hdd : od.data = .dict es.toArray ep) (S : Addr) (hSr : S ≠ r) (hSd : d ≠ S) (res : Value) (c₀ : Nat) (hS : s.heap.get? S = some { cls := .type "list", data := .seq #[] c₀ })
    (hR : ∀ h' tk acc c as, (∀ b o, b ≠ S → s.heap.get? b = some o → h'.get? b = some o) → h'.get? S = some { cls := .type "list", data := .seq acc c } → All2 (TupAt h' s.heap.objs.size) as es → acc.toList = as.map Value.ref → R (.ok (.ret res)) { s with heap := h', toks := tk }) (hn : es.length ≤ sizeLine) :
    wpAny (model prog w) A.in1 (Builtin.List.listExtendWith (.ref S) (.ref r) res)
      (fun fin s' => match fin with | .done f => R (.ok f) s' | .again c' => c'.quiet = true ∧ codeAny (model prog w) A c' R s') (fun e s' => R (.error e) s') s := by
  have hSI : S < s.heap.objs.size := Heap.lt_size hS
  have hdI : d < s.heap.objs.size := Heap.lt_size hod
  have hTv : s.TypeIs (.ref r) "dict_items" := ⟨_, hv, rfl⟩
  have key : ∀ (h : Heap) (c₁ tk : Nat), (∀ b o, b ≠ S → (s.heap.push (itemsIt d es.length ep)).get? b = some o → h.get? b = some o) →
      h.get? S = some { cls := .type "list", data := .seq #[] c₁ } → codeAny (model prog w) A (.builtin "list.extend.loop" ⟨[.ref S, .ref s.heap.objs.size, res], []⟩) R { s with heap := h, toks := tk } := by
    intro h c₁ tk hk hS₁
    have hI := hk s.heap.objs.size _ (Nat.ne_of_gt hSI) (Heap.get?_push_size _ rfl)
    exact lx_loop (s := s) (h₁ := s.heap) hh hSI hSd (Nat.ne_of_lt hdI) hn hdd res (fun h' tk' acc c as hk' hS' hG hacc => hR h' tk' acc c as (fun b o hb e => hk' b o hb (Nat.ne_of_lt (Heap.lt_size e)) e) hS' hG hacc)
      es.length 0 h tk c₁ #[] [] (Nat.sub_zero _) (Nat.zero_le _) ⟨_, _, _, _, hI, .inl ⟨rfl, rfl⟩⟩ (hk d _ hSd (Heap.get?_push_of_some _ hod)) (fun b o hb _ e => hk b o hb (Heap.get?_push_of_some _ e)) hS₁ rfl .nil (Heap.lt_size hI)
  unfold Builtin.List.listExtendWith
  refine wpAny_bind (wpAny_typeOf (T := "dict_items") hTv ?_)
  have h1 : Builtin.List.listSameRef (.ref S) (.ref r) = false := by simp [Builtin.List.listSameRef, hSr]
  have h2 : (Value.type "dict_items" == Value.type "list") = false := by decide
  have h3 : (Value.type "dict_items" == Value.type "tuple") = false := by decide
  simp only [h1, h2, h3, Bool.or_false, Bool.false_eq_true, if_false]
  refine wpAny_bind (it_items hv hod hdd ?_)
  have hS₁ := Heap.get?_push_of_some (itemsIt d es.length ep) hS
  refine wpAny_bind (wpAny_holding (kdx_hint ⟨_, Heap.get?_push_of_some _ hv, rfl⟩ ?_))
  refine wpAny_ite_split (fun _ => ?_) (fun _ => wpAny_pure ⟨plainId_quiet PySem.F.plain_extend_loop _, key _ c₀ _ (fun b o _ e => e) hS₁⟩)
  refine wpAny_bind (wpAny_rule ?_)
  refine wpAny_bind ?_
  show wpAny _ _ (updateSeq S (·.push .none) >>= fun _ => updateSeq S (·.pop)) _ _ _
  refine wpAny_bind (wpAny_updateSeq hS₁ rfl ?_)
  have hS₂ := Heap.get?_update_self (Obj.mapSeq (·.push Value.none)) hS₁ rfl
  refine wpAny_updateSeq (hz := by seq_fits) hS₂ rfl ?_
  have hS₃ := Heap.get?_update_self (Obj.mapSeq (·.pop)) hS₂ rfl
  refine wpAny_pure ⟨plainId_quiet PySem.F.plain_extend_loop _, key _ _ _ (fun b o hb e => ?_) hS₃⟩
  exact (Heap.get?_update_other _ _ (Ne.symm hb)).trans ((Heap.get?_update_other _ _ (Ne.symm hb)).trans e)
theorem lx_init {R : Result → Shared → Prop} (hh : A.handled = none) (hv : s.heap.get? r = some (viewObj d)) (hod : s.heap.get? d = some od) (hdd : od.data = .dict es.toArray ep) (S : Addr) (hSr : S ≠ r) (hSd : d ≠ S) (hS : s.heap.get? S = some { cls := .type "list", data := .seq #[] })
    (hR : ∀ h' tk acc c as, (∀ b o, b ≠ S → s.heap.get? b = some o → h'.get? b = some o) → h'.get? S = some { cls := .type "list", data := .seq acc c } → All2 (TupAt h' S) as es → acc.toList = as.map Value.ref → R (.ok (.ret .none)) { s with heap := h', toks := tk }) (hn : es.length ≤ sizeLine) :
    wpAny (model prog w) A.in1 (Builtin.«list.__init__» ⟨[.ref S, .ref r], []⟩)
      (fun fin s' => match fin with | .done f => R (.ok f) s' | .again c' => c'.quiet = true ∧ codeAny (model prog w) A c' R s') (fun e s' => R (.error e) s') s := by
  show wpAny _ _ (do let old ← Builtin.List.listItems (.ref S); Builtin.List.listUpdate (.ref S) (fun _ => #[]); letGo old.toList.reverse; Builtin.List.listExtendWith (.ref S) (.ref r) .none) _ _ s
  refine wpAny_bind ?_
  unfold Builtin.List.listItems
  refine wpAny_bind (wpAny_seqItems hS rfl (wpAny_pure ?_))
  show wpAny _ _ (updateSeq S (fun _ => #[]) >>= fun _ => letGo (#[] : Array Value).toList.reverse >>= fun _ => Builtin.List.listExtendWith (.ref S) (.ref r) .none) _ _ s
  refine wpAny_bind (wpAny_updateSeq hS rfl ?_)
  have hS₂ := Heap.get?_update_self (Obj.mapSeq (fun _ => (#[] : Array Value))) hS rfl
  have oth : ∀ b o, b ≠ S → s.heap.get? b = some o → (s.heap.update S (Obj.mapSeq (fun _ => (#[] : Array Value)))).get? b = some o :=
    fun b o hb e => (Heap.get?_update_other _ _ (Ne.symm hb)).trans e
  refine wpAny_bind (wpAny_letGo ?_)
  refine lx_extend hh (oth r _ hSr.symm hv) (oth d _ hSd hod) hdd S hSr hSd .none _ hS₂ (fun h' tk acc c as hk hS' hG hacc => ?_) hn
  exact hR h' tk acc c as (fun b o hb e => hk b o hb (oth b o hb e)) hS' (hG.mono fun a e x => ⟨Nat.lt_trans (Heap.lt_size hS₂) x.1, x.2⟩) hacc
theorem lx_call {Q : Value → Shared → Prop} (hh : A.handled = none) (hv : s.heap.get? r = some (viewObj d)) (hod : s.heap.get? d = some od) (hdd : od.data = .dict es.toArray ep) (hn : es.length ≤ sizeLine)
    (hQ : ∀ h' tk acc c as, (∀ b o, s.heap.get? b = some o → h'.get? b = some o) → h'.get? s.heap.objs.size = some { cls := .type "list", data := .seq acc c } → All2 (TupAt h' s.heap.objs.size) as es → acc.toList = as.map Value.ref → Q (.ref s.heap.objs.size) { s with heap := h', toks := tk }) :
    wpAny (model prog w) A (call (.type "list") [.ref r]) Q E s := by
  refine callType_codes (Q₁ := fun obj s₁ => obj = .ref s.heap.objs.size ∧ s₁ = { s with heap := s.heap.push { cls := .type "list", data := .seq #[] } }) PySem.F.called_list (PySem.F.typeCall_list_1 _) PySem.F.entry_list_init
    (code_list_new _ ⟨rfl, rfl⟩) fun obj s₁ h₁ => ?_
  obtain ⟨rfl, rfl⟩ := h₁
  have hS : (s.heap.push { cls := .type "list", data := .seq #[] }).get? s.heap.objs.size = some { cls := .type "list", data := .seq #[] } := Heap.get?_push_size _ rfl
  refine ⟨⟨_, hS, rfl⟩, PySem.F.args_list_init_2 _ _, lx_init (A := A.in1) hh (Heap.get?_push_of_some _ hv) (Heap.get?_push_of_some _ hod) hdd _ (Nat.ne_of_gt (Heap.lt_size hv)) (Nat.ne_of_lt (Heap.lt_size hod)) hS (fun h' tk acc c as hk hS' hG hacc => ?_) hn⟩
  exact ⟨rfl, hQ h' tk acc c as (fun b o e => hk b o (Nat.ne_of_lt (Heap.lt_size e)) (Heap.get?_push_of_some _ e)) hS' hG hacc⟩
end
/-! the same in K's terms -/
def PairAt (f : Nm → Str) (R : List (Addr × Obj)) (y : Value) (p : Nm × Int) : Prop := ∃ a t u, y = .ref a ∧ (a, tupleOf #[.str (f p.1) t, .int p.2 u] 0) ∈ R
section
variable {prog : Program} {w : World} {A : Around} {E : Value → Shared → Prop} {s : Shared} {h₀ : Heap} {L d v : Addr} {m : Str → Option Value} {news : List (Addr × Obj)} {es : List DictEntry} {ep : Nat} {od : Obj} {c : C} {f : Nm → Str} {Q : Value → Shared → Prop}
theorem tups_pairs {h : Heap} {lo : Addr} {as : List Addr} (hc : KV w f es c) (hG : All2 (TupAt h lo) as es) : ∃ own, All2 (PairAt f own) (as.map Value.ref) c ∧ ∀ p ∈ own, lo < p.1 ∧ h.get? p.1 = some p.2 := by
  induction hG generalizing c with
  | nil => cases hc; exact ⟨[], .nil, fun _ h => nomatch h⟩
  | @cons a e as' es' hd tl ih =>
    cases hc with
    | @cons _ p _ c' he hes =>
      obtain ⟨own, h1, h2⟩ := ih hes
      obtain ⟨_, ⟨t, hk⟩, u, hv⟩ := he
      obtain ⟨hlo, hat⟩ := hd
      rw [hk, hv] at hat
      refine ⟨(a, tupleOf #[.str (f p.1) t, .int p.2 u] 0) :: own, .cons ⟨a, t, u, rfl, .head _⟩ (h1.mono fun y q ⟨a, t, u, e1, e2⟩ => ⟨a, t, u, e1, .tail _ e2⟩), fun q hq => ?_⟩
      rcases List.mem_cons.mp hq with rfl | hq
      · exact ⟨hlo, hat⟩
      · exact h2 q hq
theorem k_list_items (hh : A.handled = none) (F : Fr h₀ L s.heap m) (N : News h₀ L s.heap news) (hv : (v, viewObj d) ∈ news) (hod : (d, od) ∈ news) (hdd : od.data = .dict es.toArray ep) (hc : KV w f es c) (nk : NK c)
    (h : ∀ D kn ys own h' tk', All2 (PairAt f own) ys c → (∀ p ∈ news, p.1 < D) → (∀ p ∈ own, D < p.1) → Fr h₀ L h' m → News h₀ L h' ((D, listOf ys.toArray kn) :: (own ++ news)) → Q (.ref D) { s with heap := h', toks := tk' }) :
    wpAny (model prog w) A (call (.type "list") [.ref v]) Q E s := by
  have hl : es.length ≤ sizeLine := by rw [All2.length hc]; exact nk.size
  refine lx_call hh (N _ hv).1 (N _ hod).1 hdd hl fun h' tk acc kn as k hS hG hacc => ?_
  obtain ⟨own, h1, h2⟩ := tups_pairs hc hG
  have fresh : ∀ x, s.heap.objs.size ≤ x → x ≠ L ∧ h₀.get? x = none := fun x hx => kdx_fresh F hx
  refine h s.heap.objs.size kn (as.map Value.ref) own h' tk h1 (fun p hp => Heap.lt_size (N p hp).1) (fun p hp => (h2 p hp).1) (fr_keep F k) fun p hp => ?_
  rcases List.mem_cons.mp hp with rfl | hp
  · refine ⟨?_, fresh _ (Nat.le_refl _)⟩
    rw [hS, ← hacc]
  · rcases List.mem_append.mp hp with hp | hp
    · exact ⟨(h2 p hp).2, fresh _ (Nat.le_of_lt (h2 p hp).1)⟩
    · exact news_keep N k p hp
end

/-! ## dict(..) of a list of pairs and of an items view -/
section
variable {prog : Program} {w : World} {A : Around} {E : Value → Shared → Prop} {h : Heap} {g : Array GenState} {d : Drawn} {t : Nat} {os : OsState} {a : Addr}
theorem lk_keys_list : typeLookup (.type "list") "keys" = pure none := by rw [typeLookup_type, builtinLookup_eq_fast]; kernel_rfl
theorem keys_miss_list {xs : Array Value} {k : Nat} {tk : Tok} {Q : Value → Shared → Prop} (hx : h.get? a = some { cls := .type "list", data := .seq xs k }) (hA : A.handled = none)
    (hE : ∀ h' tk' e, Heap.NewAttrErr h h' e (.ref a) "keys" → E (.ref e) ⟨h', g, d, tk', os⟩) : wpAny (model prog w) A (getAttrBy (.ref a) (.str "keys" tk) false) Q E ⟨h, g, d, t, os⟩ := by
  have hT : ∀ tk', (⟨h, g, d, tk', os⟩ : Shared).TypeIs (.ref a) "list" := fun _ => ⟨_, hx, rfl⟩
  have f1 := sub_AttributeError
  have f3 := F.slot_list_getattribute.lookup
  have f4 := F.slot_list_getattribute.bind (.ref a)
  have f5 := am_list_getattr_none
  unfold getAttrBy
  repeat (any_goals (first | assumption | exact hT _ | ((with_reducible show wpAny _ _ (call (Value.builtin "list.__getattribute__") _ _) _ _ _); refine call_meets F.slot_list_getattribute (hT _) am_entry_list_getattribute (F.args_list_getattribute_2 _ _) (meets_getattribute_miss_list a xs k _ "keys" _ lk_keys_list (by decide +kernel) (by decide +kernel)) ⟨hx, hA, fun h' tk' e hx' => ?_⟩) | wp_step))
  obtain ⟨t', u', he⟩ := hx'.there
  show wpAny _ _ (getattributeRaised _ _ _ _ _ _ _) _ _ _
  unfold getattributeRaised
  repeat (any_goals (first | assumption | wp_step))
  exact hE _ _ _ hx'
theorem keys_none_list {xs : Array Value} {k : Nat} {Q : Option Value → Shared → Prop} (hx : h.get? a = some { cls := .type "list", data := .seq xs k }) (hA : A.handled = none)
    (hq : ∀ h' tk', (∀ b o, h.get? b = some o → h'.get? b = some o) → Q none ⟨h', g, d, tk', os⟩) : wpAny (model prog w) A (getAttr? (.ref a) "keys") Q E ⟨h, g, d, t, os⟩ := by
  have f7 := sub_AttributeError
  unfold getAttr?
  refine wpAny_bind (wpAny_mkText ?_)
  unfold getAttrBy?
  refine wpAny_bind (wpAny_attempt (keys_miss_list hx hA fun h' tk' e hx' => ?_))
  obtain ⟨t', u', he⟩ := hx'.there
  repeat (any_goals (first | assumption | wp_step))
  exact hq _ _ hx'.keeps
theorem lk_keys_items : typeLookup (.type "dict_items") "keys" = pure none := by rw [typeLookup_type, builtinLookup_eq_fast]; kernel_rfl
theorem lk_items_gattr : typeLookup (.type "dict_items") "__getattr__" = pure none := by rw [typeLookup_type, builtinLookup_eq_fast]; kernel_rfl
theorem entry_oga : entryFor table "object.__getattribute__" = some Builtin.«object.__getattribute__» := entryFor_of_tree (by kernel_rfl)
theorem meets_keys_miss_items (a x : Addr) (u : Tok) :
    Meets (Builtin.«object.__getattribute__» ⟨[.ref a, .str "keys" u], []⟩) (fun A R s => s.heap.get? a = some { cls := .type "dict_items", data := .fields #[.ref x] } ∧ raisesAttr (.ref a) "keys" A R s) :=
  Meets.of_wp fun prog w A R s hs => by
    obtain ⟨hp, g, d, tk, os⟩ := s
    obtain ⟨hx, hs⟩ := hs
    have hT : (⟨hp, g, d, tk, os⟩ : Shared).TypeIs (.ref a) "dict_items" := ⟨_, hx, rfl⟩
    have f1 := lk_keys_items
    unfold Builtin.«object.__getattribute__»
    repeat (any_goals (first | assumption | wp_step))
    trace_state
    exact wpAny_raiseAttrError hs.1 hs.2 (attrMsg_fits (by decide +kernel) (by decide +kernel))
theorem keys_none_items {x : Addr} {Q : Option Value → Shared → Prop} (hx : h.get? a = some { cls := .type "dict_items", data := .fields #[.ref x] }) (hA : A.handled = none)
    (hq : ∀ h' tk', (∀ b o, h.get? b = some o → h'.get? b = some o) → Q none ⟨h', g, d, tk', os⟩) : wpAny (model prog w) A (getAttr? (.ref a) "keys") Q E ⟨h, g, d, t, os⟩ := by
  have hT : ∀ tk', (⟨h, g, d, tk', os⟩ : Shared).TypeIs (.ref a) "dict_items" := fun _ => ⟨_, hx, rfl⟩
  have f1 := sub_AttributeError
  have f3 := F.slot_dict_items_getattribute.lookup
  have f4 := F.slot_dict_items_getattribute.bind (.ref a)
  have f5 := lk_items_gattr
  unfold getAttr? getAttrBy? getAttrBy
  repeat (any_goals (first | assumption | exact hT _ | ((with_reducible show wpAny _ _ (call (Value.builtin "object.__getattribute__") _ _) _ _ _); refine call_meets F.slot_dict_items_getattribute (hT _) entry_oga (F.args_object_getattribute_2 _ _) (meets_keys_miss_items a x _) ⟨hx, hA, fun h' tk' e hx' => ?_⟩) | wp_step))
  obtain ⟨t', u', he⟩ := hx'.there
  show wpAny _ _ (getattributeRaised _ _ _ _ _ _ _) _ _ _
  unfold getattributeRaised
  repeat (any_goals (first | assumption | wp_step))
  exact hq _ _ hx'.keeps
end

/-! ## the loop of dict(..) over pairs -/
theorem entry_dul : entryFor table "dict.update.loop" = some Builtin.«dict.update.loop» := entryFor_of_tree (by kernel_rfl)
theorem plain_dul : plainId "dict.update.loop" = true := by decide +kernel
structure PairSrc (prog : Program) (w : World) (f : Nm → Str) (c : C) (It : Addr) (St : Nat → Heap → Prop) : Prop where
  next : ∀ {A : Around} {E : Value → Shared → Prop} {s : Shared} {Q : Option Value → Shared → Prop} (i : Nat) (p : Nm × Int), c[i]? = some p → St i s.heap → A.handled = none →
    (∀ h' (a : Addr) t u, St (i + 1) h' → h'.get? a = some (tupleOf #[.str (f p.1) t, .int p.2 u] 0) → (∀ b o, b ≠ It → s.heap.get? b = some o → h'.get? b = some o) → Q (some (.ref a)) { s with heap := h' }) → wpAny (model prog w) A (pyNext (.ref It)) Q E s
  done : ∀ {A : Around} {E : Value → Shared → Prop} {s : Shared} {Q : Option Value → Shared → Prop}, St c.length s.heap → A.handled = none → (∀ h', (∀ b o, b ≠ It → s.heap.get? b = some o → h'.get? b = some o) → Q none { s with heap := h' }) → wpAny (model prog w) A (pyNext (.ref It)) Q E s
section
variable {prog : Program} {w : World} {A : Around} {s : Shared} {R : Result → Shared → Prop} {f : Nm → Str} {c : C}
theorem pair_items {E : Value → Shared → Prop} {a : Addr} {x y : Value} {Q : List Value → Shared → Prop} (ha : s.heap.get? a = some (tupleOf #[x, y] 0)) (h : Q [x, y] s) : wpAny (model prog w) A (Builtin.Dict.pairItems (.ref a)) Q E s := by
  unfold Builtin.Dict.pairItems
  refine wpAny_bind (wpAny_typeOf (T := "tuple") ⟨_, ha, rfl⟩ ?_)
  rw [if_pos (by decide)]
  refine wpAny_bind ?_
  unfold seqItems?
  refine wpAny_bind (wpAny_load ha (wpAny_pure ?_))
  exact wpAny_pure h
theorem du_loop {S It : Addr} {St : Nat → Heap → Prop} (src : PairSrc prog w f c It St) (hf : ∀ a b, f a = f b → a = b) (hh : A.handled = none) (hSI : S ≠ It) (hStab : ∀ i h h', St i h → Heap.SameBut S h h' → (∀ o, h.get? S = some o → ∃ o', h'.get? S = some o') → St i h') (res : Value) {h₁ : Heap}
    (hR : ∀ h' tk es n, (∀ b o, b ≠ S → b ≠ It → h₁.get? b = some o → h'.get? b = some o) → h'.get? S = some (plObj es n) → KV w f es (puts [] c) → R (.ok (.ret res)) { s with heap := h', toks := tk }) :
    ∀ (k i : Nat) (h : Heap) (tk : Nat) (es : List DictEntry) (n : Nat), c.length - i = k → i ≤ c.length → St i h → (∀ b o, b ≠ S → b ≠ It → h₁.get? b = some o → h.get? b = some o) → h.get? S = some (plObj es n) → KV w f es (puts [] (c.take i)) →
      codeAny (model prog w) A (.builtin "dict.update.loop" ⟨[.ref S, .ref It, rawInt i, res], []⟩) R { s with heap := h, toks := tk } := by
  intro k
  induction k with
  | zero =>
    intro i h tk es n hk hi hst hkeep hS hc
    obtain rfl : i = c.length := by omega
    refine codeAny_builtin entry_dul ?_
    rw [Around.under_plainId plain_dul _]
    show wpAny _ A.in1 (pyNext (.ref It) >>= _) _ _ _
    refine wpAny_bind (src.done (s := { s with heap := h, toks := tk }) (A := A.in1) hst hh fun h' he => ?_)
    rw [List.take_length] at hc
    show wpAny _ _ (Builtin.Dict.addKeywords S [] >>= _) _ _ _
    refine wpAny_bind ?_
    unfold Builtin.Dict.addKeywords
    rw [List.forIn_nil]
    exact wpAny_pure (wpAny_pure (hR h' tk es n (fun b o h1 h2 e => he b o h2 (hkeep b o h1 h2 e)) (he S _ hSI hS) hc))
  | succ k ih =>
    intro i h tk es n hk hi hst hkeep hS hc
    have hlt : i < c.length := by omega
    have hx : c[i]? = some c[i] := List.getElem?_eq_getElem hlt
    refine codeAny_builtin entry_dul ?_
    rw [Around.under_plainId plain_dul _]
    show wpAny _ A.in1 (pyNext (.ref It) >>= _) _ _ _
    refine wpAny_bind (src.next (s := { s with heap := h, toks := tk }) (A := A.in1) i _ hx hst hh fun h' a t u hst' ha hkp => ?_)
    have hS' := hkp S _ hSI hS
    show wpAny _ _ (holding [.ref a] _ >>= _) _ _ _
    refine wpAny_bind (wpAny_holding ?_)
    refine wpAny_bind (wpAny_tryCatch (pair_items ha ?_))
    refine wpAny_holding (set_at (s := { s with heap := h', toks := tk }) (d := S) hf hS' rfl hc (NK.nil.puts _).size fun es' n' h'' kv ho hs => ?_)
    refine wpAny_pure ⟨plainId_quiet plain_dul _, ?_⟩
    have e : rawInt ((i : Int) + 1) = rawInt ((i + 1 : Nat) : Int) := by rw [Int.natCast_succ]
    rw [e]
    refine ih (i + 1) h'' _ es' n' (by omega) hlt (hStab _ _ _ hst' hs fun o _ => ⟨_, ho⟩) (fun b o h1 h2 q => hs.extBut b o h1 (hkp b o h2 (hkeep b o h1 h2 q))) ho ?_
    rw [List.take_add_one, hx]
    exact (puts_snoc [] (c.take i) c[i].1 c[i].2) ▸ kv
end

/-! ## update -/
inductive ArgIn (w : World) (x : Addr) (R : List (Addr × Obj)) : List Value → List (Str × Value) → C → Prop
  | a0 : ArgIn w x R [] [] []
  | a1 {v c} : MapIn w x R v c → ArgIn w x R [v] [] c
  | aw {v c y t} : MapIn w x R v c → ArgIn w x R [v] [(Str.ofString "word", .int y t)] (c ++ [(5, y)])
  | aW {v c y t} : MapIn w x R v c → ArgIn w x R [v] [(Str.ofString "Word", .int y t)] (c ++ [(5, y)])
  | ax {v c v' c' y t} : MapIn w x R v c → MapIn w x R v' c' → ArgIn w x R [v, v'] [(Str.ofString "x_b", .int y t)] (c ++ (c' ++ [(6, y)]))
theorem kv_one {w : World} {f : Nm → Str} {prog : Program} {o : Obj} {y : Int} {t : Tok} {z : Str} (h : o.IsDictOf (strKind prog w) [(z, .int y t)]) (k : Nm) (e : z = f k) : ∃ es n, o = plObj es n ∧ KV w f es [(k, y)] ∧ NK [(k, y)] := by
  obtain ⟨es, n, e, kv⟩ := isDict_kv (f := f) (c := [(k, y)]) h (.cons ⟨e, _, rfl⟩ .nil)
  exact ⟨es, n, e, kv, by simp [NK]⟩
theorem kv_zero {w : World} {f : Nm → Str} {prog : Program} {o : Obj} (h : o.IsDictOf (strKind prog w) []) : ∃ es n, o = plObj es n ∧ KV w f es [] ∧ NK [] := by
  obtain ⟨es, n, e, kv⟩ := isDict_kv (f := f) (c := []) h .nil
  exact ⟨es, n, e, kv, .nil⟩
theorem Three.mono {m₀ m₁ m : Str → Option Value} (h : Three m₁ m) (e : ∀ z, m₁ z = m₀ z) : Three m₀ m := fun z a b c => (h z a b c).trans (e z)
section
variable {w : World} {p : Program} {loose : List Str} {mean : ExcName → Option Value} {mg mb : Str → Option Value} {dp un : Nat} {gd : Option (List Code)} {cn : Str} {cs : Scope} {a L : Addr} {ccd : Value} {cl : List (Str × Addr)} {outer : List Env} {A₀ : Around} {base h₀ : Heap} {m : Str → Option Value} {s : Shared} {Q E : Value → Shared → Prop} {news rest : List (Addr × Obj)} {g : Obj → List (Addr × Obj)}
variable {x dx D d : Addr} {es : List DictEntry} {n : Nat} {c : C} {ys : List Value} {ps : List (Value × Nm × Int)}
set_option pp.deepTerms false
set_option pp.maxSteps 3000
set_option pp.proofs false
theorem upd_turn_use {c' cm : C} {es' : List DictEntry} {n' : Nat} {It L' : Addr} {s₁ : Shared} {oI : Obj} {v : Value} {u1 u2 u3 : Option Value} {m₀ : Str → Option Value} {g' : Heap} {o : Obj}
   (Bl : Below (ktrTop dp un gd cn cs L a ccd cl outer) base (envX cn cs L a ccd cl :: outer) g') (X : (hd.heap_39 w.params).In g') (T : Top p loose mean mg mb g') (hk : cs.kind = .function) (hd : dp + 60 < recursionLimit) (hu : un + 600 < cLine)
   (U : UpdF x o news g) (h2 : (dx, plObj [] 0) ∈ news) (hne : dx ≠ x) (hs : m₀ (Str.ofString "self") = some (.ref x))
   (kv2 : KV w up es' c') (nk2 : NK c') (hM : MapIn w x (g (cdObj dx es' n')) v cm) (hIx : @Ne Nat It x)
   (F2 : Fr g' L' s₁.heap (Names3 u1 u2 u3 m₀)) (N2 : News g' L' s₁.heap ((It, oI) :: g (cdObj dx es' n')))
   (hE : PassesOwn (model PySem.Challenge.rw_bf0001_01.row.prog w) ((ktrTop dp un gd cn cs L a ccd cl outer).deeper (updEnv L')) (updEnv L') E) :
   wpAny (model PySem.Challenge.rw_bf0001_01.row.prog w) ((ktrTop dp un gd cn cs L a ccd cl outer).deeper (updEnv L')) (assign (updFor w).1 (updEnv L') v)
     (fun _ s₃ => wpAny (model PySem.Challenge.rw_bf0001_01.row.prog w) ((ktrTop dp un gd cn cs L a ccd cl outer).deeper (updEnv L')) (execs (updFor w).2 (updEnv L')) (PostM w g' L' m₀ g dx [(It, oI)] (puts c' cm) s₁) E s₃) E s₁ := by
  obtain ⟨rest, h1, h3, h4⟩ := upd_mem U
  have h5 : (dx, plObj [] 0) ∈ rest := by
    rcases List.mem_cons.mp ((h3 _).mpr h2) with e | h
    · exact absurd (congrArg Prod.fst e) hne
    · exact h
  have em : ∀ z, (fun z => if z = Str.ofString "self" then some (Value.ref x) else m₀ z) z = m₀ z := fun z => by
    by_cases q : z = Str.ofString "self"
    · simp only [q, if_true, hs]
    · simp only [q, if_false]
  have e3 : Names3 u1 u2 u3 m₀ = Names3 u1 u2 u3 (fun z => if z = Str.ofString "self" then some (Value.ref x) else m₀ z) := by
    rw [show (fun z => if z = Str.ofString "self" then some (Value.ref x) else m₀ z) = m₀ from funext em]
  rw [e3] at F2
  have M1 : MapIn w x ((x, cdObj dx es' n') :: (dx, plObj [] 0) :: rest) v cm := hM.keep fun p hp _ => by
    rcases List.mem_cons.mp ((h4 _ p).mp hp) with rfl | hp
    · exact .head _
    · exact .tail _ (.tail _ hp)
  have X1 : ∀ p ∈ (dx, plObj [] 0) :: rest, p.1 ≠ x := fun p hp => by
    rcases List.mem_cons.mp hp with rfl | hp
    · exact hne
    · exact h1 _ hp
  have N1 : News g' L' s₁.heap ((It, oI) :: (x, cdObj dx es' n') :: (dx, plObj [] 0) :: rest) := N2.perm fun p hp => by
    rcases List.mem_cons.mp hp with rfl | hp
    · exact .head _
    · refine .tail _ ((h4 _ p).mpr ?_)
      rcases List.mem_cons.mp hp with rfl | hp
      · exact .head _
      · rcases List.mem_cons.mp hp with rfl | hp
        · exact .tail _ h5
        · exact .tail _ hp
  have T1 := upd_turn (E := E) Bl X T hk hd hu kv2 nk2 M1 hIx X1 F2 N1 hE
  refine wpAny_mono T1 (fun _ s₃ h₃ => wpAny_mono h₃ (fun f s₂ r => ?_) fun _ _ e => e) fun _ _ e => e
  obtain ⟨rfl, h', tk, m', es2, n2, rfl, F', h2', N', kv'⟩ := r
  refine ⟨rfl, h', tk, m', es2, n2, rfl, F', h2'.mono em, N'.perm fun p hp => ?_, kv'⟩
  rcases List.mem_cons.mp hp with rfl | hp
  · exact .head _
  · refine .tail _ ?_
    rcases List.mem_cons.mp ((h4 _ p).mp hp) with rfl | hp
    · exact .head _
    · exact .tail _ (.tail _ hp)
theorem upd_spec {as : List Value} {kws : List (Str × Value)} {cm : C}
   (Bl : Below A₀ base outer h₀) (F : Fr h₀ L s.heap m) (X : (hd.heap_39 w.params).In h₀) (N : News h₀ L s.heap ((x, cdObj dx es n) :: (dx, plObj [] 0) :: rest)) (T : Top p loose mean mg mb h₀) (hk : cs.kind = .function)
   (hx : ∀ p ∈ (dx, plObj [] 0) :: rest, p.1 ≠ x) (hA : ArgIn w x rest as kws cm) (hc : KV w up es c) (nk : NK c) (hd : dp + 60 < recursionLimit) (hu : un + 600 < cLine)
   (ret : ∀ es' n' tk' h', KV w up es' (puts c cm) → Fr h₀ L h' m → News h₀ L h' ((x, cdObj dx es' n') :: (dx, plObj [] 0) :: rest) → Q .none { s with heap := h', toks := tk' }) :
   codeAny (model PySem.Challenge.rw_bf0001_01.row.prog w) (ktrTop dp un gd cn cs L a ccd cl outer) (.call (.ref 138) ⟨.ref x :: as, kws⟩) (fun r s' => match r with | .ok (.ret v) => Q v s' | .ok _ => False | .error e => E e s') s := by
  revert X; k_fill; intro X
  have dxx : @Ne Nat dx x := hx _ (.head _)
  cases hA with
  | @ax v1 c1 v2 c2 y ty ha ha' =>
    k_dflt ktr_enter
    k_steps
    obtain ⟨es1, n1, rfl, kv1, nk1⟩ := kv_one (f := fun k => txt k 1) (by assumption) 6 rfl
    refine For_invTF (by assumption) ?_ (by intro x; rfl)
    k_steps
    rename Fr _ _ _ _ => F1
    rename News _ _ _ _ => N1
    refine' loop_maps (x := x) (dx := dx) (n := n) (vs := [v1, v2, .ref _]) (ms := [c1, c2, [(6, y)]]) ?oc ?od rfl F1 N1 ?U ?l ?lx ?ha hc nk ?turn ?done
    case l => exact .head _
    case oc => rfl
    case od => rfl
    case U => k_updF
    case lx => k_ne
    case ha =>
      refine .cons (ha.keep fun p hp _ => ?_) (.cons (ha'.keep fun p hp _ => ?_) (.cons (.dict 1 (by k_mem) (by k_ne) (by assumption) kv1 nk1) .nil))
      · repeat (first | exact hp | apply List.Mem.tail)
      · repeat (first | exact hp | apply List.Mem.tail)
    case turn =>
      clear F1 N1
      intro c' cm es' n' It s₁ oI v u1 u2 u3 kv2 nk2 hM hIx F2 N2
      exact upd_turn_use (o := cdObj dx es n) (by assumption) (by assumption) (by assumption) hk hd hu (by k_updF) (by k_mem) dxx rfl kv2 nk2 hM hIx F2 N2 (by passes_own)
    case done =>
      clear F1 N1
      intro es' n' u1 u2 u3 h tk kv2 F4 N4
      try dsimp only at N4
      simp only [List.flatten_cons, List.flatten_nil, List.append_nil] at kv2
      k_steps
      exact ret _ _ _ _ kv2 (by assumption) (News.perm (by assumption) (by ktr_rel))
  | a0 =>
    k_dflt ktr_enter
    k_steps
    obtain ⟨es1, n1, rfl, kv1, nk1⟩ := kv_zero (f := fun k => txt k 1) (by assumption)
    refine For_invTF (by assumption) ?_ (by intro x; rfl)
    k_steps
    rename Fr _ _ _ _ => F1
    rename News _ _ _ _ => N1
    refine' loop_maps (x := x) (dx := dx) (n := n) (vs := [.ref _]) (ms := [[]]) ?oc ?od rfl F1 N1 ?U ?l ?lx ?ha hc nk ?turn ?done
    case l => exact .head _
    case oc => rfl
    case od => rfl
    case U => k_updF
    case lx => k_ne
    case ha =>
      refine .cons (.dict 1 (by k_mem) (by k_ne) (by assumption) kv1 nk1) .nil
    case turn =>
      clear F1 N1
      intro c' cm es' n' It s₁ oI v u1 u2 u3 kv2 nk2 hM hIx F2 N2
      exact upd_turn_use (o := cdObj dx es n) (by assumption) (by assumption) (by assumption) hk hd hu (by k_updF) (by k_mem) dxx rfl kv2 nk2 hM hIx F2 N2 (by passes_own)
    case done =>
      clear F1 N1
      intro es' n' u1 u2 u3 h tk kv2 F4 N4
      try dsimp only at N4
      simp only [List.flatten_cons, List.flatten_nil, List.append_nil] at kv2
      k_steps
      exact ret _ _ _ _ kv2 (by assumption) (News.perm (by assumption) (by ktr_rel))
  | @a1 v1 c1 ha =>
    k_dflt ktr_enter
    k_steps
    obtain ⟨es1, n1, rfl, kv1, nk1⟩ := kv_zero (f := fun k => txt k 1) (by assumption)
    refine For_invTF (by assumption) ?_ (by intro x; rfl)
    k_steps
    rename Fr _ _ _ _ => F1
    rename News _ _ _ _ => N1
    refine' loop_maps (x := x) (dx := dx) (n := n) (vs := [v1, .ref _]) (ms := [cm, []]) ?oc ?od rfl F1 N1 ?U ?l ?lx ?ha hc nk ?turn ?done
    case l => exact .head _
    case oc => rfl
    case od => rfl
    case U => k_updF
    case lx => k_ne
    case ha =>
      refine .cons (ha.keep fun p hp _ => ?_) (.cons (.dict 1 (by k_mem) (by k_ne) (by assumption) kv1 nk1) .nil)
      · repeat (first | exact hp | apply List.Mem.tail)
    case turn =>
      clear F1 N1
      intro c' cm es' n' It s₁ oI v u1 u2 u3 kv2 nk2 hM hIx F2 N2
      exact upd_turn_use (o := cdObj dx es n) (by assumption) (by assumption) (by assumption) hk hd hu (by k_updF) (by k_mem) dxx rfl kv2 nk2 hM hIx F2 N2 (by passes_own)
    case done =>
      clear F1 N1
      intro es' n' u1 u2 u3 h tk kv2 F4 N4
      try dsimp only at N4
      simp only [List.flatten_cons, List.flatten_nil, List.append_nil] at kv2
      k_steps
      exact ret _ _ _ _ kv2 (by assumption) (News.perm (by assumption) (by ktr_rel))
  | @aw v1 c1 y ty ha =>
    k_dflt ktr_enter
    k_steps
    obtain ⟨es1, n1, rfl, kv1, nk1⟩ := kv_one (f := fun k => txt k 1) (by assumption) 5 rfl
    refine For_invTF (by assumption) ?_ (by intro x; rfl)
    k_steps
    rename Fr _ _ _ _ => F1
    rename News _ _ _ _ => N1
    refine' loop_maps (x := x) (dx := dx) (n := n) (vs := [v1, .ref _]) (ms := [c1, [(5, y)]]) ?oc ?od rfl F1 N1 ?U ?l ?lx ?ha hc nk ?turn ?done
    case l => exact .head _
    case oc => rfl
    case od => rfl
    case U => k_updF
    case lx => k_ne
    case ha =>
      refine .cons (ha.keep fun p hp _ => ?_) (.cons (.dict 1 (by k_mem) (by k_ne) (by assumption) kv1 nk1) .nil)
      · repeat (first | exact hp | apply List.Mem.tail)
    case turn =>
      clear F1 N1
      intro c' cm es' n' It s₁ oI v u1 u2 u3 kv2 nk2 hM hIx F2 N2
      exact upd_turn_use (o := cdObj dx es n) (by assumption) (by assumption) (by assumption) hk hd hu (by k_updF) (by k_mem) dxx rfl kv2 nk2 hM hIx F2 N2 (by passes_own)
    case done =>
      clear F1 N1
      intro es' n' u1 u2 u3 h tk kv2 F4 N4
      try dsimp only at N4
      simp only [List.flatten_cons, List.flatten_nil, List.append_nil] at kv2
      k_steps
      exact ret _ _ _ _ kv2 (by assumption) (News.perm (by assumption) (by ktr_rel))
  | @aW v1 c1 y ty ha =>
    k_dflt ktr_enter
    k_steps
    obtain ⟨es1, n1, rfl, kv1, nk1⟩ := kv_one (f := fun k => txt k 2) (by assumption) 5 rfl
    refine For_invTF (by assumption) ?_ (by intro x; rfl)
    k_steps
    rename Fr _ _ _ _ => F1
    rename News _ _ _ _ => N1
    refine' loop_maps (x := x) (dx := dx) (n := n) (vs := [v1, .ref _]) (ms := [c1, [(5, y)]]) ?oc ?od rfl F1 N1 ?U ?l ?lx ?ha hc nk ?turn ?done
    case l => exact .head _
    case oc => rfl
    case od => rfl
    case U => k_updF
    case lx => k_ne
    case ha =>
      refine .cons (ha.keep fun p hp _ => ?_) (.cons (.dict 2 (by k_mem) (by k_ne) (by assumption) kv1 nk1) .nil)
      · repeat (first | exact hp | apply List.Mem.tail)
    case turn =>
      clear F1 N1
      intro c' cm es' n' It s₁ oI v u1 u2 u3 kv2 nk2 hM hIx F2 N2
      exact upd_turn_use (o := cdObj dx es n) (by assumption) (by assumption) (by assumption) hk hd hu (by k_updF) (by k_mem) dxx rfl kv2 nk2 hM hIx F2 N2 (by passes_own)
    case done =>
      clear F1 N1
      intro es' n' u1 u2 u3 h tk kv2 F4 N4
      try dsimp only at N4
      simp only [List.flatten_cons, List.flatten_nil, List.append_nil] at kv2
      k_steps
      exact ret _ _ _ _ kv2 (by assumption) (News.perm (by assumption) (by ktr_rel))
end

/-! ## dict(list of pairs), dict(items view) -/
section
variable {prog : Program} {w : World} {f : Nm → Str} {c : C}
def LstSt (ys : List Value) (c : C) (f : Nm → Str) (S It D : Addr) (i : Nat) (h : Heap) : Prop := h.IsListIter It D i ∧ h.IsList D ys.toArray ∧ All2 (fun y p => ∃ a t u, y = Value.ref a ∧ a ≠ It ∧ a ≠ S ∧ h.get? a = some (tupleOf #[.str (f p.1) t, .int p.2 u] 0)) ys c
theorem src_list {ys : List Value} {S It D : Addr} (hne : D ≠ It) : PairSrc prog w f c It (LstSt ys c f S It D) where
  next := fun {A E s Q} i p hx hst hh hQ => by
    obtain ⟨h1, h2, h3⟩ := hst
    have hl : i < ys.length := by rw [h3.length]; exact (List.getElem?_eq_some_iff.mp hx).1
    have hy : ys[i]? = some ys[i] := List.getElem?_eq_getElem hl
    obtain ⟨p', hp', a, t, u, e, ha, _, hat⟩ := All2.get h3 i _ hy
    rw [hx] at hp'; cases hp'
    refine wpAny_pyNext_list_item h1 h2 (x := ys[i]) (by simp [hl]) fun h' hit' hs' => ?_
    rw [e]
    exact hQ h' a t u ⟨hit', h2.extBut hs'.extBut hne, h3.mono fun y q ⟨a, t, u, e1, e2, e4, e3⟩ => ⟨a, t, u, e1, e2, e4, hs'.extBut _ _ e2 e3⟩⟩ (hs'.extBut _ _ ha hat) fun b o hb q => hs'.extBut b o hb q
  done := fun {A E s Q} hst hh hQ => by
    obtain ⟨h1, h2, h3⟩ := hst
    exact wpAny_pyNext_list_end hh h1 h2 (by rw [← h3.length]; simp) fun h' he' => hQ h' fun b o hb q => he' b o hb q
def ItmSt (es : List DictEntry) (od : Obj) (ep : Nat) (It d : Addr) (i : Nat) (h : Heap) : Prop := ItSt h It d i es.length ep ∧ h.get? d = some od
theorem src_items {es : List DictEntry} {od : Obj} {ep : Nat} {It d : Addr} (hdd : od.data = .dict es.toArray ep) (hc : KV w f es c) (hne : d ≠ It) : PairSrc prog w f c It (ItmSt es od ep It d) where
  next := fun {A E s Q} i p hx hst hh hQ => by
    obtain ⟨h1, h2⟩ := hst
    have hl : i < es.length := by rw [All2.length hc]; exact (List.getElem?_eq_some_iff.mp hx).1
    have hy : es[i]? = some es[i] := List.getElem?_eq_getElem hl
    obtain ⟨p', hp', _, ⟨t, hk⟩, u, hv⟩ := All2.get hc i _ hy
    rw [hx] at hp'; cases hp'
    refine nx_item h1 h2 hdd hy fun h' hst' ht hz hkp => ?_
    rw [hk, hv] at ht
    exact hQ h' _ t u ⟨hst', hkp _ _ hne h2⟩ ht hkp
  done := fun {A E s Q} hst hh hQ => by
    obtain ⟨h1, h2⟩ := hst
    rw [← All2.length hc] at h1
    exact nx_end hh h1 h2 hdd fun h' he' => hQ h' fun b o hb q => he' b o hb q
end
section
variable {prog : Program} {w : World} {A : Around} {E : Value → Shared → Prop} {s : Shared} {f : Nm → Str} {c : C} {Q : Value → Shared → Prop} {v : Addr}
theorem dict_of {T : String} (hT : s.TypeIs (.ref v) T) (hnd : (Value.type T != Value.type "dict") = true) (hf : ∀ a b, f a = f b → a = b) (hh : A.handled = none)
    (keys : ∀ {A : Around} {E : Value → Shared → Prop} {s' : Shared} {Q : Option Value → Shared → Prop}, A.handled = none → (∀ b o, s.heap.get? b = some o → s'.heap.get? b = some o) → (∀ h' tk', (∀ b o, s'.heap.get? b = some o → h'.get? b = some o) → Q none { s' with heap := h', toks := tk' }) → wpAny (model prog w) A (getAttr? (.ref v) "keys") Q E s')
    (iter : ∀ {A : Around} {E : Value → Shared → Prop} {s' : Shared} {Q : Value → Shared → Prop}, (∀ b o, s.heap.get? b = some o → s'.heap.get? b = some o) → s.heap.objs.size < s'.heap.objs.size → (∀ It St h', PairSrc prog w f c It St → St 0 h' → s.heap.objs.size ≠ It → (∀ b o, s.heap.get? b = some o → b ≠ It) → (∀ i h h', St i h → Heap.SameBut s.heap.objs.size h h' → (∀ o, h.get? s.heap.objs.size = some o → ∃ o', h'.get? s.heap.objs.size = some o') → St i h') → (∀ b o, s'.heap.get? b = some o → h'.get? b = some o) → Q (.ref It) { s' with heap := h' }) → wpAny (model prog w) A (pyIter (.ref v)) Q E s')
    (hQ : ∀ h' tk es n, (∀ b o, s.heap.get? b = some o → h'.get? b = some o) → h'.get? s.heap.objs.size = some (plObj es n) → KV w f es (puts [] c) → Q (.ref s.heap.objs.size) { s with heap := h', toks := tk }) :
    wpAny (model prog w) A (call (.type "dict") [.ref v]) Q E s := by
  refine callType_codes (Q₁ := fun obj s₁ => obj = .ref s.heap.objs.size ∧ s₁ = { s with heap := s.heap.push { cls := .type "dict", data := .dict #[] } }) F.kt_called_dict (F.kt_typeCall_dict_1 _) PySem.F.entry_dict_init (kt_code_dict_new _ ⟨rfl, rfl⟩) ?_
  rintro obj s₁ ⟨rfl, rfl⟩
  have hS : (s.heap.push { cls := .type "dict", data := .dict #[] }).get? s.heap.objs.size = some (plObj [] 0) := Heap.get?_push_size _ rfl
  have up : ∀ b o, s.heap.get? b = some o → (s.heap.push { cls := .type "dict", data := .dict #[] }).get? b = some o := fun b o e => Heap.get?_push_of_some _ e
  obtain ⟨ov, hov, hcv⟩ : ∃ ov, s.heap.get? v = some ov ∧ ov.cls = .type T := hT
  refine ⟨⟨_, hS, rfl⟩, PySem.F.args_dict_init_2 _ _, ?_⟩
  unfold Builtin.«dict.__init__»
  refine wpAny_bind ?_
  unfold Builtin.Dict.selfAndRest
  refine wpAny_bind (wpAny_notOrdered_dict (args := ⟨[.ref s.heap.objs.size, .ref v], []⟩) ⟨_, hS, rfl⟩ ?_)
  show wpAny _ _ (pure (s.heap.objs.size, [Value.ref v])) _ _ _
  refine wpAny_pure ?_
  show wpAny _ _ (Builtin.Dict.updateFrom "dict.__init__" s.heap.objs.size (.ref v) [] .none) _ _ _
  unfold Builtin.Dict.updateFrom
  refine wpAny_bind (wpAny_typeOf (T := T) ⟨_, up _ _ hov, hcv⟩ ?_)
  rw [if_pos hnd]
  refine wpAny_bind (keys (A := A.in1.in1) (s' := { s with heap := s.heap.push { cls := .type "dict", data := .dict #[] } }) (by first | exact hh | rfl) up fun h1 tk1 k1 => ?_)
  rw [if_pos (show (none : Option Value).isNone = true from rfl)]
  refine wpAny_bind (wpAny_rule ?_)
  refine wpAny_bind (iter (s' := { s with heap := h1, toks := tk1 }) (fun b o e => k1 _ _ (up _ _ e)) (Heap.lt_size (k1 _ _ hS)) fun It St h2 src hst hSI hIt stab k2 => ?_)
  refine wpAny_pure ⟨plainId_quiet plain_dul _, ?_⟩
  have key := du_loop (prog := prog) (A := A.in1) (s := s) (S := s.heap.objs.size) src hf hh hSI stab .none (h₁ := h2) (R := wants (fun r s₂ => r = Value.none ∧ Q (.ref s.heap.objs.size) s₂) E)
    (fun h' tk es n hk hS' kv => ⟨rfl, hQ h' tk es n (fun b o e => hk b o (Nat.ne_of_lt (Heap.lt_size e)) (hIt b o e) (k2 _ _ (k1 _ _ (up _ _ e)))) hS' kv⟩) c.length 0 h2 tk1 [] 0 (Nat.sub_zero _) (Nat.zero_le _) hst (fun b o _ _ e => e) (k2 _ _ (k1 _ _ hS)) .nil
  exact key
end
section
variable {prog : Program} {w : World} {A : Around} {E : Value → Shared → Prop} {s : Shared} {h₀ : Heap} {L d v D : Addr} {m : Str → Option Value} {news : List (Addr × Obj)} {es : List DictEntry} {ep : Nat} {od : Obj} {c : C} {f : Nm → Str} {Q : Value → Shared → Prop} {ys : List Value} {kn : Nat}
theorem k_dict_list (hh : A.handled = none) (hl : h₀.NoLimit) (hf : ∀ a b, f a = f b → a = b) (F : Fr h₀ L s.heap m) (N : News h₀ L s.heap news) (hD : (D, ({ cls := .type "list", data := .seq ys.toArray kn } : Obj)) ∈ news) (ha : All2 (PairAt f news) ys c)
    (h : ∀ S es n h' tk', KV w f es (puts [] c) → (S == sysModules) = false → (∀ p ∈ news, p.1 < S) → Fr h₀ L h' m → News h₀ L h' ((S, plObj es n) :: news) → Q (.ref S) { s with heap := h', toks := tk' }) :
    wpAny (model prog w) A (call (.type "dict") [.ref D]) Q E s := by
  have hd := (N _ hD).1
  have hT : s.TypeIs (.ref D) "list" := ⟨_, hd, rfl⟩
  refine dict_of (f := f) (c := c) hT (by decide) hf hh (fun {A E s' Q} hA k q => ?_) (fun {A E s' Q} k lt q => ?_) fun h' tk es n k hS kv => ?_
  · obtain ⟨hp, g, dr, tk, os⟩ := s'
    exact keys_none_list (k _ _ hd) hA q
  · refine wpAny_pyIter_list ⟨_, k _ _ hd, rfl, _, rfl⟩ ?_
    have hlt : ∀ b o, s.heap.get? b = some o → b ≠ s'.heap.objs.size := fun b o e => Nat.ne_of_lt (Heap.lt_size (k _ _ e))
    refine q s'.heap.objs.size (LstSt ys c f s.heap.objs.size s'.heap.objs.size D) _ (src_list (hlt _ _ hd)) ⟨⟨_, Heap.get?_push_size _ rfl, rfl, rfl⟩, ⟨_, Heap.get?_push_of_some _ (k _ _ hd), rfl, _, rfl⟩, ?_⟩ (Nat.ne_of_lt lt) hlt ?_ fun b o e => Heap.get?_push_of_some _ e
    · refine ha.mono fun y p ⟨a, t, u, e, hm⟩ => ⟨a, t, u, e, hlt _ _ (N _ hm).1, Nat.ne_of_lt (Heap.lt_size (N _ hm).1), Heap.get?_push_of_some _ (k _ _ (N _ hm).1)⟩
    · rintro i h h' ⟨a1, a2, a3⟩ hs _
      exact ⟨a1.at fun o e => hs.extBut _ _ (Nat.ne_of_gt lt) e, a2.at fun o e => hs.extBut _ _ (Nat.ne_of_lt (Heap.lt_size hd)) e, a3.mono fun y p ⟨a, t, u, e1, e2, e3, e4⟩ => ⟨a, t, u, e1, e2, e3, hs.extBut _ _ e3 e4⟩⟩
  · exact h _ es n h' tk kv (F.notModules (modules_low hl)) (fun p hp => Heap.lt_size (N p hp).1) (fr_keep F k) fun p hp => by
      rcases List.mem_cons.mp hp with rfl | hp
      · exact ⟨hS, kdx_fresh F (Nat.le_refl _)⟩
      · exact news_keep N k p hp
theorem k_dict_items (hh : A.handled = none) (hl : h₀.NoLimit) (hf : ∀ a b, f a = f b → a = b) (F : Fr h₀ L s.heap m) (N : News h₀ L s.heap news) (hv : (v, viewObj d) ∈ news) (hod : (d, od) ∈ news) (hdd : od.data = .dict es.toArray ep) (hc : KV w f es c)
    (h : ∀ S es n h' tk', KV w f es (puts [] c) → (S == sysModules) = false → (∀ p ∈ news, p.1 < S) → Fr h₀ L h' m → News h₀ L h' ((S, plObj es n) :: news) → Q (.ref S) { s with heap := h', toks := tk' }) :
    wpAny (model prog w) A (call (.type "dict") [.ref v]) Q E s := by
  have hd := (N _ hv).1
  have ho := (N _ hod).1
  have hT : s.TypeIs (.ref v) "dict_items" := ⟨_, hd, rfl⟩
  refine dict_of (f := f) (c := c) hT (by decide) hf hh (fun {A E s' Q} hA k q => ?_) (fun {A E s' Q} k lt q => ?_) fun h' tk es n k hS kv => ?_
  · obtain ⟨hp, g, dr, tk, os⟩ := s'
    exact keys_none_items (k _ _ hd) hA q
  · refine it_items (k _ _ hd) (k _ _ ho) hdd ?_
    have hlt : ∀ b o, s.heap.get? b = some o → b ≠ s'.heap.objs.size := fun b o e => Nat.ne_of_lt (Heap.lt_size (k _ _ e))
    refine q s'.heap.objs.size (ItmSt es od ep s'.heap.objs.size d) _ (src_items hdd hc (hlt _ _ ho)) ⟨⟨_, _, _, _, Heap.get?_push_size _ rfl, .inl ⟨rfl, rfl⟩⟩, Heap.get?_push_of_some _ (k _ _ ho)⟩ (Nat.ne_of_lt lt) hlt ?_ fun b o e => Heap.get?_push_of_some _ e
    rintro i h h' ⟨a1, a2⟩ hs ex
    exact ⟨a1.keep' (Nat.ne_of_gt lt) ex (fun b o hb e => hs.extBut _ _ hb e), hs.extBut _ _ (Nat.ne_of_lt (Heap.lt_size ho)) a2⟩
  · exact h _ es n h' tk kv (F.notModules (modules_low hl)) (fun p hp => Heap.lt_size (N p hp).1) (fr_keep F k) fun p hp => by
      rcases List.mem_cons.mp hp with rfl | hp
      · exact ⟨hS, kdx_fresh F (Nat.le_refl _)⟩
      · exact news_keep N k p hp
end

/-! ## comparisons of lists of names and of pairs; a name in a list -/
theorem up_okE : ∀ k : Nm, PyData.strOk (up k) = true := by decide +kernel
abbrev dN (k : Nm) : Dat := .str (up k)
abbrev dP (p : Nm × Int) : Dat := .tuple [.str (up p.1), .int p.2]
theorem dN_ok {l : List Nm} : ∀ d ∈ l.map dN, kqdOk 8 d = true := fun d hd => by
  obtain ⟨k, _, rfl⟩ := List.mem_map.mp hd
  exact up_okE k
theorem dP_ok {l : C} : ∀ d ∈ l.map dP, kqdOk 8 d = true := fun d hd => by
  obtain ⟨k, _, rfl⟩ := List.mem_map.mp hd
  simp [kqdOk, up_okE]
theorem dN_inj {a b : Nm} (h : dN a = dN b) : a = b := by injection h with h; exact up_inj _ _ h
theorem dP_inj {a b : Nm × Int} (h : dP a = dP b) : a = b := by
  injection h with h
  injection h with h1 h2
  injection h2 with h2 _
  injection h1 with h1
  injection h2 with h2
  exact Prod.ext (up_inj _ _ h1) h2
theorem map_inj_eq {α β : Type} {f : α → β} (hf : ∀ a b, f a = f b → a = b) : ∀ {l r : List α}, l.map f = r.map f → l = r
  | [], [], _ => rfl
  | [], _ :: _, h => by simp at h
  | _ :: _, [], h => by simp at h
  | a :: l, b :: r, h => by
    rw [List.map_cons, List.map_cons] at h
    injection h with h1 h2
    rw [hf _ _ h1, map_inj_eq hf h2]
theorem dat_names {R : List (Addr × Obj)} {ys : List Value} {l : List Nm} (h : All2 NmIs ys l) : DatAll R ys (l.map dN) := by
  induction h with
  | nil => exact .nil
  | cons h _ ih => obtain ⟨t, rfl⟩ := h; exact .cons (.str _ _) ih
theorem dat_pairs {R : List (Addr × Obj)} {ys : List Value} {l : C} (h : All2 (PairAt up R) ys l) : DatAll R ys (l.map dP) := by
  induction h with
  | nil => exact .nil
  | cons h _ ih =>
    obtain ⟨a, t, u, rfl, hm⟩ := h
    exact .cons (.tuple (vs := [_, _]) hm (.cons (.str _ _) (.cons (.int _ _) .nil))) ih
section
variable {prog : Program} {w : World} {A : Around} {E : Value → Shared → Prop} {s : Shared} {h₀ : Heap} {L a b : Addr} {m : Str → Option Value} {news : List (Addr × Obj)} {ys zs : List Value} {l r : List Nm} {c e : C} {ka kb : Nat} {Q : Value → Shared → Prop}
open Classical in
theorem eq_names (N : News h₀ L s.heap news) (ha : (a, listOf ys.toArray ka) ∈ news) (hb : (b, listOf zs.toArray kb) ∈ news) (hy : All2 NmIs ys l) (hz : All2 NmIs zs r) (hu : A.units + 64 < cLine) (hlr : l = r) (h : Q (.bool true) s) :
    wpAny (model prog w) A (compareOp .Eq (.ref a) (.ref b)) Q E s :=
  kqd_eq N ha rfl rfl (dat_names (R := news) hy) (fun _ h => h) hb rfl rfl (dat_names (R := news) hz) (fun _ h => h) dN_ok dN_ok hu (by rw [hlr, decide_eq_true rfl]; exact h)
open Classical in
theorem ne_names (N : News h₀ L s.heap news) (ha : (a, listOf ys.toArray ka) ∈ news) (hb : (b, listOf zs.toArray kb) ∈ news) (hy : All2 NmIs ys l) (hz : All2 NmIs zs r) (hu : A.units + 64 < cLine) (hlr : l = r) (h : Q (.bool false) s) :
    wpAny (model prog w) A (compareOp .NotEq (.ref a) (.ref b)) Q E s :=
  kqd_ne N ha rfl rfl (dat_names (R := news) hy) (fun _ h => h) hb rfl rfl (dat_names (R := news) hz) (fun _ h => h) dN_ok dN_ok hu (by rw [hlr, decide_eq_true rfl]; exact h)
open Classical in
theorem eq_pairs (N : News h₀ L s.heap news) (ha : (a, listOf ys.toArray ka) ∈ news) (hb : (b, listOf zs.toArray kb) ∈ news) (hy : All2 (PairAt up news) ys c) (hz : All2 (PairAt up news) zs e) (hu : A.units + 64 < cLine) (hlr : c = e) (h : Q (.bool true) s) :
    wpAny (model prog w) A (compareOp .Eq (.ref a) (.ref b)) Q E s :=
  kqd_eq N ha rfl rfl (dat_pairs hy) (fun _ h => h) hb rfl rfl (dat_pairs hz) (fun _ h => h) dP_ok dP_ok hu (by rw [hlr, decide_eq_true rfl]; exact h)
open Classical in
theorem ne_pairs (N : News h₀ L s.heap news) (ha : (a, listOf ys.toArray ka) ∈ news) (hb : (b, listOf zs.toArray kb) ∈ news) (hy : All2 (PairAt up news) ys c) (hz : All2 (PairAt up news) zs e) (hu : A.units + 64 < cLine) (hlr : c = e) (h : Q (.bool false) s) :
    wpAny (model prog w) A (compareOp .NotEq (.ref a) (.ref b)) Q E s :=
  kqd_ne N ha rfl rfl (dat_pairs hy) (fun _ h => h) hb rfl rfl (dat_pairs hz) (fun _ h => h) dP_ok dP_ok hu (by rw [hlr, decide_eq_true rfl]; exact h)
open Classical in
theorem notin_names {k : Nm} {t : Tok} (N : News h₀ L s.heap news) (ha : (a, listOf ys.toArray ka) ∈ news) (hy : All2 NmIs ys l) (hu : A.units + 64 < cLine) (h : Q (.bool (decide (k ∉ l))) s) :
    wpAny (model prog w) A (compareOp .NotIn (.str (up k) t) (.ref a)) Q E s :=
  kqd_notIn N ha rfl rfl (dat_names (R := news) hy) (fun _ h => h) (.str (up k) t) (fun _ h => h) dN_ok (up_okE k) hu (by
    have e : (dN k ∈ l.map dN) ↔ k ∈ l := ⟨fun h => by obtain ⟨j, hj, e⟩ := List.mem_map.mp h; rw [← dN_inj e]; exact hj, List.mem_map_of_mem⟩
    by_cases q : k ∈ l
    · rw [decide_eq_true (e.mpr q)]; rw [decide_eq_false (fun z => z q)] at h; exact h
    · rw [decide_eq_false (fun z => q (e.mp z))]; rw [decide_eq_true q] at h; exact h)
end

/-! ## equality of a pair with a pair -/
theorem up_ok : ∀ k, PyData.strOk (up k) = true := by decide +kernel
section
variable {prog : Program} {w : World} {A : Around} {E : Value → Shared → Prop} {s : Shared} {h₀ : Heap} {L a b : Addr} {news : List (Addr × Obj)} {k : Nm} {y : Int} {t t' u u' : Tok} {Q : Value → Shared → Prop}
theorem tup_eq (N : News h₀ L s.heap news) (ha : (a, tupleOf #[.str (up k) t, .int y u] 0) ∈ news) (hb : (b, tupleOf #[.str (up k) t', .int y u'] 0) ∈ news) (hu : A.units + 64 < cLine) (h : Q (.bool true) s) : wpAny (model prog w) A (compareOp .Eq (.ref a) (.ref b)) Q E s := by
  have ok : kqdOk 2 (.tuple [.str (up k), .int y]) = true := by simp [kqdOk, up_ok]
  obtain ⟨as, ra⟩ := kqd_in N 2 (DatIn.tuple (vs := [.str (up k) t, .int y u]) ha (.cons (.str _ _) (.cons (.int _ _) .nil))) ok
  obtain ⟨bs, rb⟩ := kqd_in N 2 (DatIn.tuple (vs := [.str (up k) t', .int y u']) hb (.cons (.str _ _) (.cons (.int _ _) .nil))) ok
  have l := kqd_lay 2 _ ok
  have e := (kqd_eqv 2 (.tuple [.str (up k), .int y]) (.tuple [.str (up k), .int y]) 2 ok ok).mpr rfl
  have sh : SeqAt.shaped (kqdP (.tuple [.str (up k), .int y])) = true := by
    unfold SeqAt.shaped; rw [l.1, Bool.true_and]; exact decide_eq_true (Nat.le_trans l.2 (by decide))
  exact eq_dataH ra rb sh sh hu (by rw [e]; exact h)
end
local macro_rules | `(tactic| walk_at "compareOp Eq ref ref") => `(tactic| (k_here; k_dflt (refine' tup_eq ?N ?a ?b ?u ?_; (case N => k_asm); (case a | b => k_mem); (case u => ktr_units))))

/-! ## operators upon a CaselessDict -/
section
variable {w : World} {A : Around} {E : Value → Shared → Prop} {s : Shared} {h₀ : Heap} {L x dx : Addr} {m : Str → Option Value} {news : List (Addr × Obj)} {es : List DictEntry} {n : Nat} {v : Value}
theorem kq_noSeq : noSeq (hd.heap_39 w.params) 169 = true := by kernel_rfl
theorem cf_delitem : findIn (hd.heap_39 w.params) (.ref 169) (Str.ofString "__delitem__") = some (some (.ref 81)) := by kernel_rfl
theorem cf_getitem : findIn (hd.heap_39 w.params) (.ref 169) (Str.ofString "__getitem__") = some (some (.ref 65)) := by kernel_rfl
theorem cf_eq : findIn (hd.heap_39 w.params) (.ref 169) (Str.ofString "__eq__") = some (some (.ref 145)) := by kernel_rfl
theorem cf_ne : findIn (hd.heap_39 w.params) (.ref 169) (Str.ofString "__ne__") = some (some (.ref 152)) := by kernel_rfl
theorem ct_fn2 (f : Addr) (h : f = 81 ∨ f = 65 ∨ f = 145 ∨ f = 152) : typeIn (hd.heap_39 w.params) (.ref f) = some (.type "function") := by
  rcases h with rfl | rfl | rfl | rfl <;> kernel_rfl
theorem cd_del {Q : Unit → Shared → Prop} (F : Fr h₀ L s.heap m) (X₀ : (hd.heap_39 w.params).In h₀) (N : News h₀ L s.heap news) (h1 : (x, cdObj dx es n) ∈ news) (h2 : (dx, plObj [] 0) ∈ news)
    (h : wpAny (model PySem.Challenge.rw_bf0001_01.row.prog w) A (call (.ref 81) [.ref x, v]) (fun _ => Q ()) E s) : wpAny (model PySem.Challenge.rw_bf0001_01.row.prog w) A (delItem (.ref x) v) Q E s := by
  have X := X₀.keeps F.keep
  have I := cd_inst N h1 h2
  unfold delItem
  try with_reducible refine wpAny_holding ?_
  unfold sequenceKey
  refine wpAny_bind (wpAny_bind (I.type.here ?_))
  refine wpAny_bind ((anyM_none X kq_noSeq).here ?_)
  rw [if_pos (show (!false) = true from rfl)]
  refine wpAny_pure (wpAny_bind (special_fn X I cf_delitem (ct_fn2 _ (by simp)) (wpAny_mono h (fun _ _ z => wpAny_pure z) fun _ _ z => z)))
end
local macro_rules | `(tactic| walk_at "delItem ref") => `(tactic| (k_here; k_dflt (refine' cd_del ?F ?X ?N ?h1 ?h2 ?_; (case F | X | N => k_asm); (case h1 | h2 => k_mem))))
local macro_rules | `(tactic| walk_at "delItem ref str") => `(tactic| (k_here; k_dflt (refine' pd_del ?F ?N ?U up_inj ?c ?n ?l ?_; (case F | N => k_asm); (case U => k_updF); (case c | n | l => assumption); intro es' n' h' tk' kv' F' N'; (try dsimp only at N'))))
local macro_rules | `(tactic| walk_at "delItem ref") => `(tactic| (k_here; k_dflt (refine' pd_del ?F ?N ?U up_inj ?c ?n ?l ?_; (case F | N => k_asm); (case U => k_updF); (case c | n | l => assumption); intro es' n' h' tk' kv' F' N'; (try dsimp only at N'))))

/-! ## isinstance(.., dict) of a CaselessDict -/
theorem ty_dict_type : typeOf (.type "dict") = pure (.type "type") := by kernel_rfl
theorem is_dict_type : isType (.type "dict") = pure true := by kernel_rfl
section
variable {w : World} {A : Around} {E : Value → Shared → Prop} {s : Shared} {h₀ : Heap} {L x dx : Addr} {m : Str → Option Value} {news : List (Addr × Obj)} {es : List DictEntry} {n : Nat} {Q : Value → Shared → Prop}
theorem cd_isinst (F : Fr h₀ L s.heap m) (X₀ : (hd.heap_39 w.params).In h₀) (N : News h₀ L s.heap news) (h1 : (x, cdObj dx es n) ∈ news) (h2 : (dx, plObj [] 0) ∈ news) (h : Q (.bool true) s) :
    wpAny (model PySem.Challenge.rw_bf0001_01.row.prog w) A (call (.builtin "isinstance") [.ref x, .type "dict"]) Q E s := by
  have I := cd_inst N h1 h2
  have L1 := cd_isDict F X₀ N h1 h2
  refine call_isinstance_of ?_
  unfold Builtin.«isinstance.nested»
  refine wpAny_bind (I.type.here ?_)
  rw [if_neg (by decide)]
  refine wpAny_bind (wpAny_of_eq ty_dict_type ?_)
  rw [if_pos (by decide)]
  refine wpAny_bind ?_
  show wpAny _ _ (isType (.type "dict") >>= _) _ _ _
  refine wpAny_bind (wpAny_of_eq is_dict_type ?_)
  show wpAny _ _ (isInstance (.ref x) (.type "dict") >>= _) _ _ _
  refine wpAny_bind (L1.here ?_)
  exact wpAny_pure (wpAny_pure h)
end
local macro_rules | `(tactic| walk_at "call builtin:isinstance") => `(tactic| (k_here; (with_reducible show wpAny _ _ (call (Value.builtin "isinstance") [Value.ref _, Value.type "dict"]) _ _ _); k_dflt (refine' cd_isinst ?F ?X ?N ?a ?b ?_; (case F | X | N => k_asm); (case a | b => k_mem))))

/-! ## dict(view) and == in K's terms -/
theorem put_new {c : C} {k : Nm} (h : k ∉ c.map (·.1)) (x : Int) : put c k x = c ++ [(k, x)] := by
  induction c with
  | nil => rfl
  | cons p c ih =>
    rw [put_cons]
    have n1 : p.1 ≠ k := fun e => h (by rw [← e]; exact .head _)
    rw [if_neg n1, ih (fun e => h (.tail _ e))]
    rfl
theorem puts_new (l : C) : ∀ c : C, NK (c ++ l) → puts c l = c ++ l := by
  induction l with
  | nil => intro c _; simp [puts]
  | cons p l ih =>
    intro c h
    have h1 : p.1 ∉ c.map (·.1) := by
      unfold NK at h
      rw [List.map_append, List.nodup_append] at h
      exact fun e => h.2.2 _ e _ (.head _) rfl
    rw [puts_cons, put_new h1, ih _ (by rw [List.append_assoc]; exact h), List.append_assoc]
    rfl
theorem puts_self {c : C} (h : NK c) : puts [] c = c := puts_new c [] h
section
variable {prog : Program} {w : World} {A : Around} {E : Value → Shared → Prop} {s : Shared} {h₀ : Heap} {L d v : Addr} {m : Str → Option Value} {news : List (Addr × Obj)} {es : List DictEntry} {ep : Nat} {od : Obj} {c : C} {f : Nm → Str} {Q : Value → Shared → Prop}
theorem k_dict_view (hh : A.handled = none) (hl : h₀.NoLimit) (F : Fr h₀ L s.heap m) (N : News h₀ L s.heap news) (hv : (v, viewObj d) ∈ news) (hod : (d, od) ∈ news) (hdd : od.data = .dict es.toArray ep) (hc : KV w up es c) (nk : NK c)
    (h : ∀ S es n h' tk', KV w up es c → (S == sysModules) = false → (∀ p ∈ news, p.1 < S) → Fr h₀ L h' m → News h₀ L h' ((S, plObj es n) :: news) → Q (.ref S) { s with heap := h', toks := tk' }) :
    wpAny (model prog w) A (call (.type "dict") [.ref v]) Q E s :=
  k_dict_items hh hl up_inj F N hv hod hdd hc fun S es n h' tk' kv => h S es n h' tk' (puts_self nk ▸ kv)
end
local macro_rules | `(tactic| walk_at "call type:dict") => `(tactic| (k_here; k_dflt (refine' k_dict_view rfl ?T ?F ?N ?v ?o ?hd ?c ?n ?_; (case F => k_asm); (case T => exact Top.nolimit (by k_asm)); (case N => k_asm); (case v | o => k_mem); (case hd => exact rfl); (case c | n => assumption); intro S' es' n' h' tk' kv' lo' l1 F' N'; (try k_lt l1))))
local macro_rules | `(tactic| walk_at "compareOp Eq ref ref") => `(tactic| (k_here; k_dflt (refine' pd_eq up_inj ?N ?a ?b ?ca ?na ?cb ?nb ?la ?lb ?u ?_; (case N => k_asm); (case a | b => k_mem); (case ca | na | cb | nb | la | lb => assumption); (case u => ktr_units))))
local macro_rules | `(tactic| walk_at "compareOp NotEq ref ref") => `(tactic| (k_here; k_dflt (refine' pd_ne up_inj ?N ?a ?b ?ca ?na ?cb ?nb ?la ?lb ?u ?_; (case N => k_asm); (case a | b => k_mem); (case ca | na | cb | nb | la | lb => assumption); (case u => ktr_units))))

/-! ## {k: i for i, k in enumerate(names)} -/
def NumIs (cm : C) : Prop := ∀ (i : Nat) (p : Nm × Int), cm[i]? = some p → p.2 = (i : Int)
def NameIs (y : Value) (p : Nm × Int) : Prop := ∃ t, y = .str (up p.1) t
section
variable {prog : Program} {w : World} {A : Around} {E : Value → Shared → Prop} {s : Shared} {h₀ : Heap} {L : Addr} {m : Str → Option Value} {env : Env}
theorem codeAny_compLoop_dictT {kx vx iter : Expr} {elts : List Expr} {x1} {tp : Pos} {scope : Scope} {pos : Pos} {it : Value} {D : Addr} {env : Env} {R : Result → Shared → Prop} (I : Nat → Shared → Prop)
    (turn : ∀ n s, I n s → wpAny (model prog w) A (pyNext it) (fun r s₁ => match r with
      | none => R (.ok .next) s₁
      | some v => wpAny (model prog w) A (letOwnedTupleGo (.Tuple elts x1 tp) it v) (fun _ s₁' => wpAny (model prog w) A (assign (.Tuple elts x1 tp) env v) (fun _ s₂ =>
          wpAny (model prog w) A (eval kx env) (fun kv s₄ => wpAny (model prog w) A (eval vx env) (fun vv s₅ =>
              wpAny (model prog w) A (dictSet D kv vv) (fun _ s₆ => ∃ m, m < n ∧ I m s₆) (notedBy (model prog w) A env fun e s' => R (.error e) s') s₅) (notedBy (model prog w) A env fun e s' => R (.error e) s') s₄) (notedBy (model prog w) A env fun e s' => R (.error e) s') s₂)
          (notedBy (model prog w) A env fun e s' => R (.error e) s') s₁') (notedBy (model prog w) A env fun e s' => R (.error e) s') s₁) (notedBy (model prog w) A env fun e s' => R (.error e) s') s)
    (n : Nat) (h : I n s) : codeAny (model prog w) A (.compLoop (.DictComp kx vx [⟨.Tuple elts x1 tp, iter, [], 0⟩] scope pos) 0 it (.ref D) env) R s := by
  refine codeAny_loop rfl I (fun n s hI => ?_) n h
  show wpAny _ A ((compTurn (.DictComp kx vx [⟨.Tuple elts x1 tp, iter, [], 0⟩] scope pos) 0 it (.ref D) env).onRaise (fun x => do noteFrame x env; theTreesLotGoes x)) _ _ s
  refine wpAny_noted ?_
  rw [compTurn_dict]
  refine wpAny_bind (wpAny_standAt (wpAny_bind (wpAny_mono (turn n s hI) (fun r s₁ h₁ => ?_) fun _ _ h' => h')))
  cases r with
  | none => exact wpAny_pure h₁
  | some v =>
    refine wpAny_bind (wpAny_mono h₁ (fun _ s₁' h₁' => ?_) fun _ _ h' => h')
    refine wpAny_bind (wpAny_mono h₁' (fun _ s₂ h₂ => wpAny_bind (wpAny_mono (wpAny_tests_nil (Q := fun ok s₃ => ok = true ∧ s₃ = s₂) ⟨rfl, rfl⟩) (fun ok s₃ h₃ => ?_) fun _ _ h' => h')) fun _ _ h' => h')
    obtain ⟨rfl, rfl⟩ := h₃
    exact wpAny_bind (wpAny_bind (wpAny_mono h₂ (fun kv s₄ h₄ => wpAny_bind (wpAny_holding (wpAny_mono h₄ (fun vv s₅ h₅ => wpAny_bind (wpAny_standAt (wpAny_holding (wpAny_mono h₅ (fun _ s₆ h₆ => wpAny_pure ⟨rfl, h₆⟩) fun _ _ h' => h')))) fun _ _ h' => h'))) fun _ _ h' => h'))
def SrcE (w : World) (h₀ : Heap) (L : Addr) (m : Str → Option Value) (Q : Value → Shared → Prop) (xv : Value) (s₁ : Shared) : Prop :=
  ∃ (e it l : Addr) (ys : List Value) (ol : Obj) (cm : C) (news : List (Addr × Obj)), xv = .ref e ∧ IsEnum s₁.heap e it 0 .none ∧ s₁.heap.IsListIter it l 0 ∧ s₁.heap.IsList l ys.toArray ∧ e ≠ it ∧ e ≠ L ∧ it ≠ L ∧ h₀.get? e = none ∧ h₀.get? it = none ∧ l ≠ e ∧ l ≠ it ∧ All2 NameIs ys cm ∧ NumIs cm ∧ NK cm ∧
    Fr h₀ L s₁.heap m ∧ News h₀ L s₁.heap news ∧ (∀ p ∈ news, p.1 ≠ e ∧ p.1 ≠ it) ∧ h₀.NoLimit ∧
    ∀ D es n h' tk, KV w up es cm → (D == sysModules) = false → (∀ p ∈ news, p.1 < D) → Fr h₀ L h' m → News h₀ L h' ((D, plObj es n) :: news) → Q (.ref D) { s₁ with heap := h', toks := tk }
theorem news_but2 {h h' : Heap} {news : List (Addr × Obj)} {e it : Addr} (N : News h₀ L h news) (hk : ∀ b o, b ∉ [e, it] → h.get? b = some o → h'.get? b = some o) (off : ∀ p ∈ news, p.1 ≠ e ∧ p.1 ≠ it) : News h₀ L h' news := fun p hp =>
  ⟨hk _ _ (fun hm => by
    rcases List.mem_cons.mp hm with q | hm
    · exact (off p hp).1 q
    · exact (off p hp).2 (List.mem_singleton.mp hm)) (N p hp).1, (N p hp).2⟩
theorem fr_but2 {h h' : Heap} {e it : Addr} (F : Fr h₀ L h m) (hk : ∀ b o, b ∉ [e, it] → h.get? b = some o → h'.get? b = some o) (h1 : e ≠ L) (h2 : it ≠ L) (h3 : h₀.get? e = none) (h4 : h₀.get? it = none) : Fr h₀ L h' m :=
  ⟨F.ns.at' fun o x => hk _ _ (fun hm => by
    rcases List.mem_cons.mp hm with q | hm
    · exact h1 q.symm
    · exact h2 (List.mem_singleton.mp hm).symm) x, fun b o x => hk _ _ (fun hm => by
    rcases List.mem_cons.mp hm with q | hm
    · rw [q, h3] at x; cases x
    · rw [List.mem_singleton.mp hm, h4] at x; cases x) (F.keep b o x), F.above⟩
theorem DictComp_enum {x₁ x₂ : Str} {p₁ p₂ q₁ q₂ tp : Pos} {tk} {iter : Expr} {scope : Scope} {cl : List (Str × Addr)} {pos : Pos} {Q : Value → Shared → Prop}
    (F₀ : Fr h₀ L s.heap m) (hh : A.handled = none) (hclos : closureFor scope env = pure cl) (hcell : ∀ y ∈ scope.names, y.2 ≠ .cell) (hkind : scope.kind = .function)
    (hnames : ∀ y ∈ scope.names, y.2 = .local → scope.names.lookup y.1 = some .local) (hx₁ : scope.names.lookup x₁ = some .local) (hx₂ : scope.names.lookup x₂ = some .local) (hxx : x₁ ≠ x₂) (d1 : (x₁ == (Str.ofString "__debug__")) = false) (d2 : (x₂ == (Str.ofString "__debug__")) = false)
    (h : wpAny (model prog w) A (eval iter env) (SrcE w h₀ L m Q) E s)
    (hs : ∀ x, foldedSetIterable iter env x = pure x := by intro _; rfl) :
    wpAny (model prog w) A (eval (.DictComp (.Name x₂ q₂) (.Name x₁ q₁) [⟨.Tuple [.Name x₁ p₁, .Name x₂ p₂] tk tp, iter, [], 0⟩] scope pos) env) Q E s := by
  rw [arm_eval_DictComp]
  refine wpAny_comprehension_free (use := none) rfl hs hclos hkind hnames (wpAny_mono h (fun xv s₂ h₁ => ?_) fun _ _ e => e)
  obtain ⟨e, it, l, ys, ol, cm, news, rfl, he, hit, hl, hei, heL, hiL, he0, hi0, hle, hli, hz, num, nk, F, N, off, hlim, ret⟩ := h₁
  refine wpAny_pyIter_enum he ?_
  have W := WalksT.enumerate (prog := prog) (w := w) hh e it l hei hle hli ys.toArray
  have hst : (∃ old, IsEnum s₂.heap e it (0 : Nat) old) ∧ s₂.heap.IsListIter it l 0 ∧ s₂.heap.IsList l ys.toArray := ⟨⟨_, he⟩, hit, hl⟩
  refine wpAny_newObj_type (wpAny_newFunctionEnv hcell (by intro y hy; simp at hy) (fun h₁ hns₁ hsb₁ => ?_) hkind)
  dsimp only at hns₁ hsb₁ ⊢
  generalize hH2 : s₂.heap.push { cls := .type "dict", dict := none, data := .dict #[] } = H2 at hns₁ hsb₁ ⊢
  have hC : H2.objs.size = s₂.heap.objs.size + 1 := by rw [← hH2, Heap.size_push]
  have hDC : s₂.heap.objs.size ≠ H2.objs.size := by rw [hC]; exact Nat.ne_of_lt (Nat.lt_succ_self _)
  have below : ∀ b, b < s₂.heap.objs.size → b ≠ H2.objs.size ∧ b ≠ s₂.heap.objs.size := fun b hb => ⟨by rw [hC]; exact Nat.ne_of_lt (Nat.lt_succ_of_lt hb), Nat.ne_of_lt hb⟩
  have hfp : ∀ b ∈ [e, it, l], b < s₂.heap.objs.size := fun b hb => by
    simp only [List.mem_cons, List.not_mem_nil, or_false] at hb
    rcases hb with rfl | rfl | rfl
    · exact Heap.lt_size he
    · obtain ⟨_, x, _⟩ := hit; exact Heap.lt_size x
    · obtain ⟨_, x, _⟩ := hl; exact Heap.lt_size x
  have hDf : s₂.heap.objs.size ∉ [e, it, l] := fun hm => Nat.lt_irrefl _ (hfp _ hm)
  have hCf : H2.objs.size ∉ [e, it, l] := fun hm => by have := hfp _ hm; rw [hC] at this; exact Nat.lt_irrefl _ (Nat.lt_of_succ_lt this)
  have hDw : s₂.heap.objs.size ∉ [e, it] := fun hm => hDf (W.sub _ hm)
  have hCw : H2.objs.size ∉ [e, it] := fun hm => hCf (W.sub _ hm)
  have old : ∀ b o, s₂.heap.get? b = some o → h₁.get? b = some o := fun b o e => hsb₁.extBut b o (below b (Heap.lt_size e)).1 (Heap.get?_push_of_some _ (hH2 ▸ Heap.get?_push_of_some _ e))
  have hacc : h₁.get? s₂.heap.objs.size = some (plObj [] 0) := hsb₁.extBut _ _ hDC (Heap.get?_push_of_some _ (hH2 ▸ Heap.get?_push_size _ rfl))
  have hst₁ := W.frame 0 _ _ hst fun b _ o e => old b o e
  have fresh₀ : ∀ a, s₂.heap.objs.size ≤ a → h₀.get? a = none := fun a ha => Heap.get?_none_of_le (Nat.le_trans F.above (Nat.le_trans (Nat.le_of_lt F.ns.lt) ha))
  have hD₀ : h₀.get? s₂.heap.objs.size = none := fresh₀ _ (Nat.le_refl _)
  have hC₀ : h₀.get? H2.objs.size = none := fresh₀ _ (by rw [hC]; exact Nat.le_succ _)
  have hLlt : L < s₂.heap.objs.size := F.ns.lt
  have hDL : s₂.heap.objs.size ≠ L := Ne.symm (below L hLlt).2
  have hCL : H2.objs.size ≠ L := Ne.symm (below L hLlt).1
  have hDe : ∀ p ∈ news, p.1 < s₂.heap.objs.size := fun p hp => Heap.lt_size (N p hp).1
  have hzl : ys.length = cm.length := hz.length
  have loop : ∀ s₃ : Shared, s₃ = { s₂ with heap := h₁, toks := s₂.toks + ([] : List (Str × Value)).length } →
      codeAny (model prog w) A (.compLoop (.DictComp (.Name x₂ q₂) (.Name x₁ q₁) [⟨.Tuple [.Name x₁ p₁, .Name x₂ p₂] tk tp, iter, [], 0⟩] scope pos) 0 (.ref e) (.ref s₂.heap.objs.size) (compEnvC scope cl H2.objs.size env))
        (compPost (model prog w) A E none Q (.ref s₂.heap.objs.size) H2.objs.size) s₃ := by
    rintro s₃ rfl
    refine codeAny_compLoop_dictT
      (fun k s' => ∃ h' tk i es n m', s' = { s₂ with heap := h', toks := tk } ∧ i ≤ ys.length ∧ k = ys.length + 1 - i ∧ ((∃ old, IsEnum h' e it (i : Nat) old) ∧ h'.IsListIter it l i ∧ h'.IsList l ys.toArray) ∧ Fr h₀ L h' m ∧ h'.Ns H2.objs.size m' ∧ News h₀ L h' ((s₂.heap.objs.size, plObj es n) :: news) ∧ KV w up es (puts [] (cm.take i))) ?_ (ys.length + 1)
      ⟨h₁, _, 0, [], 0, _, rfl, Nat.zero_le _, rfl, hst₁, F.keeps old, hns₁, fun p hp => ?_, .nil⟩
    · rintro k s' ⟨h', tk', i, es, n, m', rfl, hi, rfl, hst', F', hn', N', kv⟩
      have offD : ∀ p ∈ (s₂.heap.objs.size, plObj es n) :: news, p.1 ≠ e ∧ p.1 ≠ it := fun p hp => by
        rcases List.mem_cons.mp hp with rfl | hp
        · exact ⟨fun (q : s₂.heap.objs.size = e) => hDw (by rw [q]; exact .head _), fun (q : s₂.heap.objs.size = it) => hDw (by rw [q]; exact .tail _ (.head _))⟩
        · exact off p hp
      by_cases hlt : i < ys.length
      · refine W.item i _ _ _ (by simpa using hlt) hst' fun T vals h₂ tk₂ hPt hT hTup hMid hk₂ => ?_
        obtain ⟨ti, xi, hxi, rfl⟩ := hPt
        have hxi' : ys[i]? = some xi := by simpa using hxi
        obtain ⟨⟨nm, num'⟩, hp, t, rfl⟩ := All2.get hz i xi hxi'
        have hnum : num' = (i : Int) := num i _ hp
        subst hnum
        refine W.go _ _ _ i T _ _ _ hMid fun h₃ hst₃ hk₃ => ?_
        have hTw := W.apart i T _ hMid
        have ht : IsTup h₃ T #[.int (i : Nat) ti, .str (up nm) t] := by
          obtain ⟨o, ho, hc, nt, hd⟩ := hTup
          exact ⟨o, hk₃ _ _ hTw ho, hc, nt, hd⟩
        refine assign_Tuple_tuple hh ht rfl rfl fun h₅ he5 => ?_
        have he' : ∀ b o, h₃.get? b = some o → h₅.get? b = some o := fun b o q => he5 b o (Nat.ne_of_lt (Heap.lt_size q)) q
        have hn₂ : h₂.Ns H2.objs.size m' := hn'.at' fun o q => hk₂ _ o hCw q
        have hn₅ : h₅.Ns H2.objs.size m' := (hn₂.at' fun o q => hk₃ _ o hCw q).at' fun o q => he' _ o q
        refine assignInOrder_cons (wpAny_assign_Name (wpAny_storeName_local (lookup_relabel_local hx₁) hn₅ (fun h₆ hn₆ hs₆ => ?_) (by simp [compEnvC, relabel, hkind])))
        refine assignInOrder_cons (wpAny_assign_Name (wpAny_storeName_local (lookup_relabel_local hx₂) hn₆ (fun h₇ hn₇ hs₇ => ?_) (by simp [compEnvC, relabel, hkind])))
        refine assignInOrder_nil ?_
        have old7 : ∀ b o, b ≠ H2.objs.size → h₃.get? b = some o → h₇.get? b = some o := fun b o hb q => hs₇.extBut b o hb (hs₆.extBut b o hb (he' b o q))
        have hst₇ := W.frame (i + 1) _ h₇ hst₃ fun b hb o q => old7 b o (fun z => hCf (by rw [← z]; exact hb)) q
        have F₃ : Fr h₀ L h₃ m := fr_but2 (fr_but2 F' hk₂ heL hiL he0 hi0) hk₃ heL hiL he0 hi0
        have F₇ : Fr h₀ L h₇ m := ((F₃.keeps he').change hs₆ hCL hC₀).change hs₇ hCL hC₀
        have N₃ : News h₀ L h₃ ((s₂.heap.objs.size, plObj es n) :: news) := news_but2 (news_but2 N' hk₂ offD) hk₃ offD
        have offC : ∀ p ∈ (s₂.heap.objs.size, plObj es n) :: news, p.1 ≠ H2.objs.size := fun p hp => by
          rcases List.mem_cons.mp hp with rfl | hp
          · exact hDC
          · exact (below _ (hDe p hp)).1
        have N₇ : News h₀ L h₇ ((s₂.heap.objs.size, plObj es n) :: news) := fun p hp => ⟨old7 _ _ (offC p hp) (N₃ p hp).1, (N₃ p hp).2⟩
        refine wpAny_Name (wpAny_loadName_local (env := compEnvC scope cl H2.objs.size env) hkind (lookup_relabel_local hx₂) hn₇ (v := .str (up nm) t) (by simp) ?_) d2
        refine wpAny_Name (wpAny_loadName_local (env := compEnvC scope cl H2.objs.size env) hkind (lookup_relabel_local hx₁) hn₇ (v := .int (i : Nat) ti) (by simp [hxx]) ?_) d1
        refine set_at up_inj (N₇ _ (.head _)).1 rfl kv ((NK.nil.puts _).size) fun es' n' h₈ kv' ho' hs₈ => ?_
        refine ⟨ys.length + 1 - (i + 1), by omega, h₈, _, i + 1, es', n', _, rfl, hlt, rfl, W.frame (i + 1) _ h₈ hst₇ fun b hb o q => hs₈.extBut b o (fun z => hDf (by rw [← z]; exact hb)) q, F₇.change hs₈ hDL hD₀, hn₇.sameBut hs₈ (Ne.symm hDC), fun p hp => ?_, ?_⟩
        · rcases List.mem_cons.mp hp with rfl | hp
          · exact ⟨ho', hDL, hD₀⟩
          · exact ⟨hs₈.extBut _ _ (below _ (hDe p hp)).2 (N₇ p (.tail _ hp)).1, (N₇ p (.tail _ hp)).2⟩
        · rw [List.take_add_one, hp]
          show KV w up es' (puts [] (cm.take i ++ [(nm, (i : Int))]))
          rw [puts_snoc]
          exact kv'
      · obtain rfl : i = ys.length := Nat.le_antisymm hi (Nat.not_lt.mp hlt)
        refine W.done _ _ _ (by simpa using hst') fun h₂ tk₂ hk₂ => ?_
        refine ⟨m', hn'.at' fun o q => hk₂ _ o hCw q, fun h'' hs'' => ?_⟩
        have F₂ := fr_but2 F' hk₂ heL hiL he0 hi0
        have N₂ : News h₀ L h₂ ((s₂.heap.objs.size, plObj es n) :: news) := news_but2 N' hk₂ offD
        rw [hzl, List.take_length, puts_self nk] at kv
        exact ret _ es n h'' tk₂ kv (F.notModules (modules_low hlim)) hDe (F₂.change hs'' hCL hC₀) fun p hp => ⟨hs''.extBut _ _ (by
          rcases List.mem_cons.mp hp with rfl | hp
          · exact hDC
          · exact (below _ (hDe p hp)).1) (N₂ p hp).1, (N₂ p hp).2⟩
    · rcases List.mem_cons.mp hp with rfl | hp
      · exact ⟨hacc, hDL, hD₀⟩
      · exact ⟨old _ _ (N p hp).1, (N p hp).2⟩
  exact codeAny_compStart_dict (loop _ rfl) (W.self 0 _ _ _ hst₁ (loop _ rfl))
theorem k_enum {l : Addr} {ys : List Value} {kn : Nat} {cm : C} {news : List (Addr × Obj)} {Q : Value → Shared → Prop} (hlim : h₀.NoLimit) (F : Fr h₀ L s.heap m) (N : News h₀ L s.heap news) (hl : (l, listOf ys.toArray kn) ∈ news) (hz : All2 NameIs ys cm) (num : NumIs cm) (nk : NK cm)
    (ret : ∀ D es n h' tk, KV w up es cm → (D == sysModules) = false → (∀ p ∈ news, p.1 < D) → Fr h₀ L h' m → News h₀ L h' ((D, plObj es n) :: news) → Q (.ref D) { s with heap := h', toks := tk }) :
    wpAny (model prog w) A (call (.type "enumerate") [.ref l]) (SrcE w h₀ L m Q) E s := by
  have hL : s.heap.IsList l ys.toArray := ⟨_, (N _ hl).1, rfl, _, rfl⟩
  refine call_enumerate_list hL fun h' hE hI hsz hk => ?_
  have lt : ∀ b o, s.heap.get? b = some o → b ≠ s.heap.objs.size + 1 ∧ b ≠ s.heap.objs.size := fun b o e => ⟨Nat.ne_of_lt (Nat.lt_succ_of_lt (Heap.lt_size e)), Nat.ne_of_lt (Heap.lt_size e)⟩
  have hLt : L < s.heap.objs.size := F.ns.lt
  have ll := Heap.lt_size (N _ hl).1
  refine ⟨_, _, l, ys, listOf ys.toArray kn, cm, news, rfl, hE, hI, hL.at fun o q => hk _ _ q, Nat.succ_ne_self _, Nat.ne_of_gt (Nat.lt_succ_of_lt hLt), Nat.ne_of_gt hLt, Heap.get?_none_of_le (Nat.le_trans F.above (Nat.le_succ_of_le (Nat.le_of_lt hLt))), Heap.get?_none_of_le (Nat.le_trans F.above (Nat.le_of_lt hLt)), Nat.ne_of_lt (Nat.lt_succ_of_lt ll), Nat.ne_of_lt ll, hz, num, nk, F.keeps hk, N.grown hk, fun p hp => lt _ _ (N p hp).1, hlim, fun D es n h'' tk kv lo l1 F' N' => ret D es n h'' tk kv lo l1 F' N'⟩
end
local macro_rules | `(tactic| walk_at "eval DictComp") => `(tactic| (k_here; k_dflt (refine DictComp_enum (F₀ := by k_asm) rfl (by with_unfolding_all rfl) (by decide) (by rfl) (by decide) (by rfl) (by rfl) (by decide) (by decide) (by decide) ?_)))
local macro_rules | `(tactic| walk_at "call type:enumerate") => `(tactic| (k_here; k_dflt (first | (refine' k_enum ?T ?F ?N ?l ?z ?num ?nk ?_; (case T => exact Top.nolimit (by k_asm)); (case F | N => k_asm); (case l => k_mem); (case z | num | nk => assumption)) | (refine' k_enum (ys := []) (cm := []) ?T ?F ?N ?l .nil (fun i p h => by simp at h) .nil ?_; (case T => exact Top.nolimit (by k_asm)); (case F | N => k_asm); (case l => k_mem))); intro D' es' n' h' tk' kv' lo' l1 F' N'; (try k_lt l1)))

/-! ## the methods' specs, with the ledger as it stands -/
theorem led {x dx : Addr} {es : List DictEntry} {n : Nat} {news : List (Addr × Obj)} {g : Obj → List (Addr × Obj)} (U : UpdF x (cdObj dx es n) news g) (h2 : (dx, plObj [] 0) ∈ news) (hne : dx ≠ x) :
    ∃ rest, (∀ p ∈ (dx, plObj [] 0) :: rest, p.1 ≠ x) ∧ (∀ {h₀ h : Heap} {L : Addr}, News h₀ L h news → News h₀ L h ((x, cdObj dx es n) :: (dx, plObj [] 0) :: rest)) ∧ (∀ {h₀ h : Heap} {L : Addr} (o' : Obj), News h₀ L h ((x, o') :: (dx, plObj [] 0) :: rest) → News h₀ L h (g o')) ∧ (∀ {h₀ h : Heap} {L : Addr}, News h₀ L h ((x, cdObj dx es n) :: (dx, plObj [] 0) :: rest) → News h₀ L h news) ∧ (∀ q, (∀ p ∈ (dx, plObj [] 0) :: rest, p.1 < q) → x < q → ∀ o', ∀ p ∈ g o', p.1 < q) := by
  obtain ⟨rest, h1, h3, h4⟩ := upd_mem U
  have h5 : (dx, plObj [] 0) ∈ rest := by
    rcases List.mem_cons.mp ((h3 _).mpr h2) with e | h
    · exact absurd (congrArg Prod.fst e) hne
    · exact h
  refine ⟨rest, fun p hp => ?_, fun N => N.perm fun p hp => ?_, fun o' N => N.perm fun p hp => ?_, fun N => N.perm fun p hp => ?_, fun q hq hx o' p hp => ?_⟩
  · rcases List.mem_cons.mp hp with rfl | hp
    · exact hne
    · exact h1 _ hp
  · rcases List.mem_cons.mp hp with rfl | hp
    · exact (h3 _).mp (.head _)
    · rcases List.mem_cons.mp hp with rfl | hp
      · exact h2
      · exact (h3 _).mp (.tail _ hp)
  · rcases List.mem_cons.mp ((h4 _ p).mp hp) with rfl | hp
    · exact .head _
    · exact .tail _ (.tail _ hp)
  · rcases List.mem_cons.mp ((h3 p).mpr hp) with rfl | hp
    · exact .head _
    · exact .tail _ (.tail _ hp)
  · rcases List.mem_cons.mp ((h4 _ p).mp hp) with rfl | hp
    · exact hx
    · exact hq p (.tail _ hp)
section
variable {w : World} {p : Program} {loose : List Str} {mean : ExcName → Option Value} {mg mb : Str → Option Value} {dp un : Nat} {gd : Option (List Code)} {cn : Str} {cs : Scope} {a L : Addr} {ccd : Value} {cl : List (Str × Addr)} {outer : List Env} {A₀ : Around} {base h₀ : Heap} {m : Str → Option Value} {s : Shared} {Q E : Value → Shared → Prop} {news rest : List (Addr × Obj)} {g : Obj → List (Addr × Obj)}
variable {x dx : Addr} {es : List DictEntry} {n : Nat} {c : C} {v : Value} {k : Nm} {y : Int} {ty : Tok}
theorem contains_use
   (Bl : Below A₀ base outer h₀) (F : Fr h₀ L s.heap m) (X : (hd.heap_39 w.params).In h₀) (N : News h₀ L s.heap news) (T : Top p loose mean mg mb h₀) (hk : cs.kind = .function)
   (U : UpdF x (cdObj dx es n) news g) (h2 : (dx, plObj [] 0) ∈ news) (hne : dx ≠ x) (lo : (x == sysModules) = false) (hv : KeyV v k) (hc : KV w up es c) (nk : NK c) (hd : dp + 40 < recursionLimit) (hu : un + 400 < cLine)
   (ret : ∀ tk' h', Fr h₀ L h' m → News h₀ L h' news → Q (.bool (look c k).isSome) { s with heap := h', toks := tk' }) :
   wpAny (model PySem.Challenge.rw_bf0001_01.row.prog w) (ktrTop dp un gd cn cs L a ccd cl outer) (call (.ref 89) [.ref x, v]) Q E s := by
  obtain ⟨rest, h1, toN, back, same, lt⟩ := led U h2 hne
  exact contains_spec Bl F X (toN N) T hk h1 lo hv hc nk hd hu fun tk' h' F' N' => ret tk' h' F' (same N')
theorem pop_use
   (Bl : Below A₀ base outer h₀) (F : Fr h₀ L s.heap m) (X : (hd.heap_39 w.params).In h₀) (N : News h₀ L s.heap news) (T : Top p loose mean mg mb h₀) (hk : cs.kind = .function)
   (U : UpdF x (cdObj dx es n) news g) (h2 : (dx, plObj [] 0) ∈ news) (hne : dx ≠ x) (lo : (x == sysModules) = false) (hv : KeyV v k) (hc : KV w up es c) (nk : NK c) (hd : dp + 40 < recursionLimit) (hu : un + 400 < cLine)
   (ret : ∀ r es' n' tk' h', OptV (look c k) (.int y ty) r → KV w up es' (del c k) → Fr h₀ L h' m → News h₀ L h' (g (cdObj dx es' n')) → Q r { s with heap := h', toks := tk' }) :
   wpAny (model PySem.Challenge.rw_bf0001_01.row.prog w) (ktrTop dp un gd cn cs L a ccd cl outer) (call (.ref 115) [.ref x, v, .int y ty]) Q E s := by
  obtain ⟨rest, h1, toN, back, same, lt⟩ := led U h2 hne
  exact pop_spec Bl F X (toN N) T hk h1 lo hv hc nk hd hu fun r es' n' tk' h' ov kv F' N' => ret r es' n' tk' h' ov kv F' (back _ N')
theorem pop1_use
   (Bl : Below A₀ base outer h₀) (F : Fr h₀ L s.heap m) (X : (hd.heap_39 w.params).In h₀) (N : News h₀ L s.heap news) (T : Top p loose mean mg mb h₀) (hk : cs.kind = .function)
   (U : UpdF x (cdObj dx es n) news g) (h2 : (dx, plObj [] 0) ∈ news) (hne : dx ≠ x) (lo : (x == sysModules) = false) (hv : KeyV v k) (hc : KV w up es c) (nk : NK c) (hd : dp + 40 < recursionLimit) (hu : un + 400 < cLine)
   (ret : ∀ r es' n' tk' h', OptV (look c k) .none r → KV w up es' (del c k) → Fr h₀ L h' m → News h₀ L h' (g (cdObj dx es' n')) → Q r { s with heap := h', toks := tk' }) :
   wpAny (model PySem.Challenge.rw_bf0001_01.row.prog w) (ktrTop dp un gd cn cs L a ccd cl outer) (call (.ref 115) [.ref x, v]) Q E s := by
  obtain ⟨rest, h1, toN, back, same, lt⟩ := led U h2 hne
  exact pop1_spec Bl F X (toN N) T hk h1 lo hv hc nk hd hu fun r es' n' tk' h' ov kv F' N' => ret r es' n' tk' h' ov kv F' (back _ N')
end
local macro_rules | `(tactic| walk_at "call ref") => `(tactic| (k_here; (with_reducible show wpAny _ _ (call (Value.ref 89) [_, _]) _ _ _); k_dflt (refine' contains_use ?k1 ?k2 ?k3 ?k4 ?k5 ?k6 ?k7 ?k8 ?kE ?klo ?kv ?kc ?kn ?kA ?kB ?_; (case k1 | k2 | k3 | k4 | k5 => k_asm); (case k6 => first | assumption | exact rfl); (case k7 => k_updF); (case k8 => k_mem); (case kE => k_ne); (case klo | kv | kc | kn => assumption); (case kA => ktr_room); (case kB => ktr_units); k_whole; intro tk' h' F' N'; (try dsimp only at N'))))
local macro_rules | `(tactic| walk_at "call ref") => `(tactic| (k_here; (with_reducible show wpAny _ _ (call (Value.ref 115) [_, _, _]) _ _ _); k_dflt (refine' pop_use ?k1 ?k2 ?k3 ?k4 ?k5 ?k6 ?k7 ?k8 ?kE ?klo ?kv ?kc ?kn ?kA ?kB ?_; (case k1 | k2 | k3 | k4 | k5 => k_asm); (case k6 => first | assumption | exact rfl); (case k7 => k_updF); (case k8 => k_mem); (case kE => k_ne); (case klo | kv | kc | kn => assumption); (case kA => ktr_room); (case kB => ktr_units); k_whole; intro r' es' n' tk' h' ov' kv' F' N'; (try dsimp only at N'))))
local macro_rules | `(tactic| walk_at "call ref") => `(tactic| (k_here; (with_reducible show wpAny _ _ (call (Value.ref 115) [_, _]) _ _ _); k_dflt (refine' pop1_use ?k1 ?k2 ?k3 ?k4 ?k5 ?k6 ?k7 ?k8 ?kE ?klo ?kv ?kc ?kn ?kA ?kB ?_; (case k1 | k2 | k3 | k4 | k5 => k_asm); (case k6 => first | assumption | exact rfl); (case k7 => k_updF); (case k8 => k_mem); (case kE => k_ne); (case klo | kv | kc | kn => assumption); (case kA => ktr_room); (case kB => ktr_units); k_whole; intro r' es' n' tk' h' ov' kv' F' N'; (try dsimp only at N'))))

/-! ## a def with *args and **kwargs that calls super(): its head -/
section
variable {prog : Program} {w : World} {A A₀ : Around} {s : Shared} {K : Frag} {L : Addr} {h₀ base : Heap} {m mg mb : Str → Option Value} {news : List (Addr × Obj)} {p : Program} {loose : List Str} {mean : ExcName → Option Value}
  {env : Env} {outer : List Env} {R : Result → Shared → Prop} {name qual : Str} {params : Arguments} {body : List Stmt} {scope : Scope} {dV kV doc pm cdv ct oc : Value} {an od : Option Addr} {osl : Array (Option Value)} {f cc : Addr} {args : Args} {E : Value → Shared → Prop}
theorem sb_frame {binds : List (Str × Value)} (B : Below A₀ base outer h₀) (F : Fr h₀ L s.heap m) (N : News h₀ L s.heap news) (hlim : h₀.NoLimit) (hA : A.frames = some (env :: outer)) (hf : env.frame = some L) (hke : env.scope.kind = .function)
    (hloc : ∀ y ∈ binds, scope.names.lookup y.1 = some .local)
    (h : ∀ g L' h₁, Fr h₀ L g m → Fr g L' h₁ (fun y => binds.reverse.lookup y) → News g L' h₁ news → Below A base (env :: outer) g → h₀.StaysIn g →
      _root_.PySem.wpAt (model prog w) (A.deeper (ksEnv qual scope L' f cdv cc)) (.func body (ksEnv qual scope L' f cdv cc)) (execs body (ksEnv qual scope L' f cdv cc))
        (fun fl s' => LeaveK h₀ L m g R (match fl with | .ret v => v | _ => .none) s')
        (fun e s' => wpAny (model prog w) (A.deeper (ksEnv qual scope L' f cdv cc)) (leaving (ksEnv qual scope L' f cdv cc) e) (fun _ s'' => R (.error e) s'') (fun e' s'' => R (.error e') s'') s')
        { s with heap := h₁, toks := s.toks + binds.length })
    (hcell : ∀ x ∈ scope.names, x.2 ≠ .cell) (hk : scope.kind = .function) :
    wpAny (model prog w) A.in1 (newFunctionEnv scope mainGlobals [(Str.ofString "__class__", cc)] binds (qual ++ ".<locals>.") (some f) cdv none builtinsNs) (fun env' s₂ => s₂.heap.NoLimit ∧ codeAny (model prog w) A (.func body env') R s₂) E s := by
  obtain ⟨FG, BG, st, lv⟩ := groundX (R := R) B F N hA hf hke
  refine wpAny_newFunctionEnv hcell hloc (fun h₁ hns hsb => ⟨(hlim.keeps F.keep).fresh _ hsb, ks_codeAny_funcAt ?_⟩) hk
  have keep : ∀ b o, s.heap.get? b = some o → h₁.get? b = some o := fun b o e => hsb.extBut b o (Nat.ne_of_lt (Heap.lt_size e)) (Heap.get?_push_of_some _ e)
  refine ks_wpAt_mono (h _ s.heap.objs.size h₁ FG ⟨hns, fun b o e => keep b o (of_hideAll _ e), Nat.le_of_eq (hideAll_size _ _)⟩ (fun p hp => ?_) BG st) (fun fl s' hl => lv _ _ hl) fun _ _ y => y
  exact ⟨keep _ _ (N p hp).1, Nat.ne_of_lt (Heap.lt_size (N p hp).1), hideAll_none _ (List.mem_map_of_mem hp)⟩
theorem sb_both {vs : List Value} {nm nr : Str} {ex front : List (Str × Value)} {DD : List (PyData × PyData)} {g₁ : Addr → Sem (List (Str × Value))} {g₂ : Addr → Addr → Sem (List (Str × Value))}
    (B : Below A₀ base outer h₀) (F : Fr h₀ L s.heap m) (X₀ : K.In h₀) (N : News h₀ L s.heap news) (T : Top p loose mean mg mb h₀) (hA : A.frames = some (env :: outer)) (hf : env.frame = some L) (hke : env.scope.kind = .function)
    (ho : K.lookup f = some ⟨oc, od, .func (ksFn name qual params body scope dV kV doc pm an cdv ct cc), osl⟩) (hcd : codeIn K cdv qual = true) (hroom : A.depth < recursionLimit)
    (hv : args.pos.drop (params.posonlyargs.length + params.args.length) = vs) (hx : args.kw.filter (fun x => !ownKw params x.1) = ex) (hnr : params.vararg.map (·.arg) = some nr) (hnm : params.kwarg.map (·.arg) = some nm) (hn : kwDistinct ex = true) (hD : PyProof.V.FlatPairs PyData.str ex DD)
    (hfr : peek K ⟨prog, w.params⟩ (bindArgs (fnCut (ksFn name qual params body scope dV kV doc pm an cdv ct cc)) (argsCut params args)) = some front)
    (hp : peekA K ⟨prog, w.params⟩ (bindArgs (ksFn name qual params body scope dV kV doc pm an cdv ct cc) args) = some (({ cls := .type "tuple", data := .seq vs.toArray } : Obj), g₁))
    (hp₂ : ∀ D, peekA K ⟨prog, w.params⟩ (g₁ D) = some (dictOf [] 0, g₂ D))
    (hk₂ : ∀ C D, g₂ C D = (forIn ex PUnit.unit (fun x _ => (nsSet D x.1 x.2 >>= fun _ => pure (ForInStep.yield PUnit.unit))) >>= fun _ => pure (front ++ [(nr, Value.ref C)] ++ [(nm, Value.ref D)])))
    (hloc : ∀ C D, ∀ y ∈ front ++ [(nr, Value.ref C)] ++ [(nm, Value.ref D)], scope.names.lookup y.1 = some .local)
    (h : ∀ C D o g L' h₁ tk, (∀ p ∈ news, p.1 < C) → C < D → (D == sysModules) = false → o.IsDictOf (strKind prog w) ex → PyProof.V.FlatPairs PyData.str ex DD → Fr h₀ L g m → Fr g L' h₁ (fun y => (front ++ [(nr, Value.ref C)] ++ [(nm, Value.ref D)]).reverse.lookup y) →
      News g L' h₁ ((D, o) :: (C, ({ cls := .type "tuple", data := .seq vs.toArray } : Obj)) :: news) → Below A base (env :: outer) g → K.In g → Top p loose mean mg mb g →
      _root_.PySem.wpAt (model prog w) (A.deeper (ksEnv qual scope L' f cdv cc)) (.func body (ksEnv qual scope L' f cdv cc)) (execs body (ksEnv qual scope L' f cdv cc))
        (fun fl s' => LeaveK h₀ L m g R (match fl with | .ret v => v | _ => .none) s')
        (fun e s' => wpAny (model prog w) (A.deeper (ksEnv qual scope L' f cdv cc)) (leaving (ksEnv qual scope L' f cdv cc) e) (fun _ s'' => R (.error e) s'') (fun e' s'' => R (.error e') s'') s')
        { s with heap := h₁, toks := tk })
    (hco : scope.isCoroutine = false) (hgen : scope.isGenerator = false) (hk : scope.kind = .function)
    (hcell : ∀ x ∈ scope.names, x.2 ≠ .cell) : codeAny (model prog w) A (.call (.ref f) args) R s := by
  have hn' := kwDistinct_nodup hn
  have hXs := X₀.keeps F.keep
  refine codeAny_call_function (fd := ksFn name qual params body scope dV kV doc pm an cdv ct cc) (body := body) hroom (hXs _ _ ho) rfl hco hgen rfl (codeRec_of hXs hcd) ?_
  refine wp_of_peekA (o := ({ cls := .type "tuple", data := .seq vs.toArray } : Obj)) F N hXs rfl _ g₁ hp fun h1 F1 N1 l1 => ?_
  refine wp_of_peekA (s := { s with heap := h1 }) (o := dictOf [] 0) F1 N1 (X₀.keeps F1.keep) rfl _ (g₂ s.heap.objs.size) (hp₂ _) fun h2 F2 N2 l2 => ?_
  rw [hk₂]
  refine wpAny_bind (kp_fill ex { s with heap := h2 } [] 0 F2 N2 (fun p hp => Nat.ne_of_lt (l2 p hp)) (fun _ he => nomatch he) (fun _ he => nomatch he) hn' fun h3 F3 N3 => wpAny_pure ?_)
  exact sb_frame (s := { s with heap := h3, toks := s.toks + ex.length }) B F3 N3 T.nolimit hA hf hke (hloc _ _)
    (fun g L' h₁ FG FL NG BG st => h _ _ _ g L' h₁ _ l1 (l2 _ (.head _)) (F1.notModules (modules_low T.nolimit)) (kp_isDict s.toks (0 + ex.length) hn') hD FG FL NG BG (X₀.keeps st) (T.keeps st)) hcell hk
end
local macro_rules | `(tactic| ktr_enter) => `(tactic| (kp_kind "both"; (refine' sb_both ?k1 ?k2 ?k3 ?k4 ?k5 ?kA ?kF ?kK ?k6 ?k7 ?k8 ?kV ?kX ?kQ ?kM ?kN ?kD ?kR ?kP ?kS ?kT ?kB ?_ ?c2 ?c3 ?c4 ?c5; (case kA | kF => exact rfl); (case kK => first | assumption | exact rfl); (case k1 | k2 | k3 | k4 | k5 => k_asm); (case k6 | k7 => k_is); (case k8 => ktr_room); (case kV | kX => kp_lit); (case kQ | kM | kN => exact rfl); (case kD => kp_flats); (case kR | kP => exact rfl); (case kS => exact fun _ => rfl); (case kT => exact fun _ _ => rfl); (case kB => exact fun _ _ => locs rfl); (case c5 => decide); (case c2 | c3 | c4 => exact rfl); intro C' D' o' g' L' h' tk' l1 l2 lo' hs' fs' FG' F' N' B' X' T'; (try k_lt l1); (try k_lt2 l2); (try dsimp only); (try k_lift B'))))

/-! ## __init__ -/
section
variable {w : World} {p : Program} {loose : List Str} {mean : ExcName → Option Value} {mg mb : Str → Option Value} {dp un : Nat} {gd : Option (List Code)} {cn : Str} {cs : Scope} {a L : Addr} {ccd : Value} {cl : List (Str × Addr)} {outer : List Env} {A₀ : Around} {base h₀ : Heap} {m : Str → Option Value} {s : Shared} {Q E : Value → Shared → Prop} {news rest : List (Addr × Obj)} {g : Obj → List (Addr × Obj)}
variable {x dx D d : Addr} {es : List DictEntry} {n : Nat} {c : C} {ys : List Value} {ps : List (Value × Nm × Int)}
set_option pp.deepTerms false
set_option pp.maxSteps 3000
set_option pp.proofs false
theorem news_get {h₀ h : Heap} {L a : Addr} {o : Obj} {news : List (Addr × Obj)} (N : News h₀ L h news) (hp : (a, o) ∈ news) : h.get? a = some o := (N _ hp).1
theorem ArgIn.keep {R R' : List (Addr × Obj)} {as : List Value} {kws : List (Str × Value)} (h : ArgIn w x R as kws c) (k : ∀ p ∈ R, p.1 ≠ x → p ∈ R') : ArgIn w x R' as kws c := by
  cases h with
  | a0 => exact .a0
  | a1 h => exact .a1 (h.keep k)
  | aw h => exact .aw (h.keep k)
  | aW h => exact .aW (h.keep k)
  | ax h h' => exact .ax (h.keep k) (h'.keep k)
inductive InitIn (w : World) (x : Addr) (R : List (Addr × Obj)) : List Value → List (Str × Value) → C → Prop
  | i0 : InitIn w x R [] [] []
  | i1 {v c} : MapIn w x R v c → InitIn w x R [v] [] c
  | iw {v c y t} : MapIn w x R v c → InitIn w x R [v] [(Str.ofString "word", .int y t)] (c ++ [(5, y)])
theorem oneKw0 {f : Nm → Str} (h : KV w f es []) : OneKw w es := by cases h; exact .inl rfl
theorem oneKw1 {f : Nm → Str} {k : Nm} {y : Int} (h : KV w f es [(k, y)]) : OneKw w es := by
  cases h with
  | @cons e _ es' _ hd tl =>
    cases tl
    obtain ⟨h1, ⟨t, h2⟩, u, h3⟩ := hd
    refine .inr ⟨f k, t, .int y u, ?_⟩
    obtain ⟨a, b, c⟩ := e
    simp only at h1 h2 h3
    rw [h1, h2, h3]
theorem kws0 {f : Nm → Str} {kws : List (Str × Value)} (h : KV w f es []) (hw : (es = [] ∧ kws = []) ∨ (∃ z t v, es = [⟨hashStr w z, .str z t, v⟩] ∧ kws = [(z, v)])) : kws = [] := by
  cases h
  rcases hw with h | ⟨_, _, _, h, _⟩
  · exact h.2
  · cases h
theorem kws1 {f : Nm → Str} {k : Nm} {y : Int} {kws : List (Str × Value)} (h : KV w f es [(k, y)]) (hw : (es = [] ∧ kws = []) ∨ (∃ z t v, es = [⟨hashStr w z, .str z t, v⟩] ∧ kws = [(z, v)])) : ∃ u, kws = [(f k, .int y u)] := by
  cases h with
  | @cons e _ es' _ hd tl =>
    cases tl
    obtain ⟨h1, ⟨t, h2⟩, u, h3⟩ := hd
    rcases hw with h | ⟨z, t', v, h, rfl⟩
    · cases h.1
    · cases h
      simp only at h2 h3
      cases h2
      exact ⟨u, by rw [h3]⟩
theorem upd_use {as : List Value} {kws : List (Str × Value)} {cm : C}
   (Bl : Below A₀ base outer h₀) (F : Fr h₀ L s.heap m) (X : (hd.heap_39 w.params).In h₀) (N : News h₀ L s.heap news) (T : Top p loose mean mg mb h₀) (hk : cs.kind = .function)
   (U : UpdF x (cdObj dx es n) news g) (h2 : (dx, plObj [] 0) ∈ news) (hA : ArgIn w x news as kws cm) (hc : KV w up es c) (nk : NK c) (hne : dx ≠ x) (hd : dp + 60 < recursionLimit) (hu : un + 600 < cLine)
   (ret : ∀ es' n' tk' h', KV w up es' (puts c cm) → Fr h₀ L h' m → News h₀ L h' (g (cdObj dx es' n')) → Q .none { s with heap := h', toks := tk' }) :
   codeAny (model PySem.Challenge.rw_bf0001_01.row.prog w) (ktrTop dp un gd cn cs L a ccd cl outer) (.call (.ref 138) ⟨.ref x :: as, kws⟩) (fun r s' => match r with | .ok (.ret v) => Q v s' | .ok _ => False | .error e => E e s') s := by
  obtain ⟨rest, h1, h3, h4⟩ := upd_mem U
  have h5 : (dx, plObj [] 0) ∈ rest := by
    rcases List.mem_cons.mp ((h3 _).mpr h2) with e | h
    · exact absurd (congrArg Prod.fst e) hne
    · exact h
  refine upd_spec (rest := rest) (dx := dx) (n := n) Bl F X (N.perm fun p hp => ?_) T hk (fun p hp => ?_) (hA.keep fun p hp hx => ?_) hc nk hd hu fun es' n' tk' h' kv F' N' => ret es' n' tk' h' kv F' (N'.perm fun p hp => ?_)
  · rcases List.mem_cons.mp hp with rfl | hp
    · exact (h3 _).mp (.head _)
    · rcases List.mem_cons.mp hp with rfl | hp
      · exact h2
      · exact (h3 _).mp (.tail _ hp)
  · rcases List.mem_cons.mp hp with rfl | hp
    · exact hne
    · exact h1 _ hp
  · rcases List.mem_cons.mp ((h3 _).mpr hp) with e | h
    · exact absurd (congrArg Prod.fst e) hx
    · exact h
  · rcases List.mem_cons.mp ((h4 _ p).mp hp) with rfl | hp
    · exact .head _
    · exact .tail _ (.tail _ hp)
end
section
variable {w : World} {p : Program} {loose : List Str} {mean : ExcName → Option Value} {mg mb : Str → Option Value} {dp un : Nat} {gd : Option (List Code)} {cn : Str} {cs : Scope} {a L : Addr} {ccd : Value} {cl : List (Str × Addr)} {outer : List Env} {A₀ : Around} {base h₀ : Heap} {m : Str → Option Value} {s : Shared} {Q E : Value → Shared → Prop} {news rest : List (Addr × Obj)} {g : Obj → List (Addr × Obj)}
variable {x dx D d : Addr} {es : List DictEntry} {n : Nat} {c : C} {ys : List Value} {ps : List (Value × Nm × Int)}
set_option pp.deepTerms false
set_option pp.maxSteps 3000
set_option pp.proofs false
theorem init_spec {as : List Value} {kws : List (Str × Value)} {cm : C}
   (Bl : Below A₀ base outer h₀) (F : Fr h₀ L s.heap m) (X : (hd.heap_39 w.params).In h₀) (N : News h₀ L s.heap ((x, cdObj dx [] 0) :: (dx, plObj [] 0) :: rest)) (T : Top p loose mean mg mb h₀) (hk : cs.kind = .function)
   (hx : ∀ p ∈ (dx, plObj [] 0) :: rest, p.1 ≠ x) (hA : InitIn w x rest as kws cm) (hd : dp + 80 < recursionLimit) (hu : un + 800 < cLine)
   (ret : ∀ es' n' tk' h', KV w up es' (puts [] cm) → Fr h₀ L h' m → News h₀ L h' ((x, cdObj dx es' n') :: (dx, plObj [] 0) :: rest) → Q .none { s with heap := h', toks := tk' }) :
   codeAny (model PySem.Challenge.rw_bf0001_01.row.prog w) (ktrTop dp un gd cn cs L a ccd cl outer) (.call (.ref 57) ⟨.ref x :: as, kws⟩) (fun r s' => match r with | .ok (.ret v) => Q v s' | .ok _ => False | .error e => E e s') s := by
  revert X; k_fill; intro X
  have dxx : @Ne Nat dx x := hx _ (.head _)
  have kv0 : KV w up [] [] := .nil
  have nk0 : NK [] := .nil
  cases hA with
  | i0 =>
    k_dflt ktr_enter
    k_steps
    obtain ⟨es1, n1, rfl, kv1, nk1⟩ := kv_zero (f := fun k => txt k 1) (by assumption)
    refine ev_star ?_
    k_steps
    refine' cd_bound (x := x) (dx := dx) (es := []) (n := 0) ?F ?X ?N ?h1 ?h2 fo_update ?fn ?_
    case F => k_asm
    case X => k_asm
    case N => k_asm
    case h1 => k_mem
    case h2 => k_mem
    case fn => k_is
    intro q h' F' N' l1
    k_lt l1
    refine' call_star (C := _) (D := _) (es := es1) (n := n1) (vs := []) ?hx ?hy ?hC ?hz ?ho ?lo (oneKw0 kv1) ?hK ?_
    case hC => exact news_get N' (by k_mem)
    case ho => exact news_get N' (by k_mem)
    case hx =>
      intro s' Q k q
      have F9 := fr_keep F' k
      refine wpAny_bind ?_
      k_steps
      exact wpAny_bind (wpAny_standAt (wpAny_pure q))
    case hy =>
      intro s' Q k q
      have F9 := fr_keep F' k
      refine wpAny_bind ?_
      k_steps
      exact wpAny_bind (wpAny_standAt (wpAny_pure q))
    case hz => exact Nat.le_trans (by show (0 : Nat) ≤ 7; decide) (by decide +kernel : 7 ≤ sizeLine)
    case lo => assumption
    case hK => exact fun h'' k => keeps_M (K := Mine.hd.heap_39 w.params) (f := 138) (self := .ref x) (by k_is) h'' ⟨k _ _ (N' _ (.head _)).1, Frag.In.keeps (by k_asm) (fun b o e => k b o (F'.keep b o e))⟩
    intro kws h'' tk k1 hw
    obtain rfl := kws0 kv1 hw
    have F9 := fr_keep F' k1
    have N9 := news_keep N' k1
    refine call_meth N9 (.head _) ?_
    refine' upd_use (cm := []) (x := x) (dx := dx) (es := []) (n := 0) (c := []) ?k1 ?k2 ?k3 ?k4 ?k5 ?k6 ?k7 ?k8 ?k9 ?kC ?kD ?kE ?kA ?kB ?_
    case k1 => k_asm
    case k2 => k_asm
    case k3 => k_asm
    case k4 => k_asm
    case k5 => k_asm
    case k6 => first | assumption | exact rfl
    case k7 => k_updF
    case k8 => k_mem
    case k9 => exact .a0
    case kC => assumption
    case kD => assumption
    case kE => k_ne
    case kA => ktr_room
    case kB => ktr_units
    k_whole
    intro es' n' tk' h' kv' F' N'
    try dsimp only at N'
    k_steps
    exact ret _ _ _ _ (by assumption) (by assumption) (News.perm (by assumption) (by ktr_rel))
  | @i1 v1 _ ha =>
    k_dflt ktr_enter
    k_steps
    obtain ⟨es1, n1, rfl, kv1, nk1⟩ := kv_zero (f := fun k => txt k 1) (by assumption)
    refine ev_star ?_
    k_steps
    refine' cd_bound (x := x) (dx := dx) (es := []) (n := 0) ?F ?X ?N ?h1 ?h2 fo_update ?fn ?_
    case F => k_asm
    case X => k_asm
    case N => k_asm
    case h1 => k_mem
    case h2 => k_mem
    case fn => k_is
    intro q h' F' N' l1
    k_lt l1
    refine' call_star (C := _) (D := _) (es := es1) (n := n1) (vs := [v1]) ?hx ?hy ?hC ?hz ?ho ?lo (oneKw0 kv1) ?hK ?_
    case hC => exact news_get N' (by k_mem)
    case ho => exact news_get N' (by k_mem)
    case hx =>
      intro s' Q k q
      have F9 := fr_keep F' k
      refine wpAny_bind ?_
      k_steps
      exact wpAny_bind (wpAny_standAt (wpAny_pure q))
    case hy =>
      intro s' Q k q
      have F9 := fr_keep F' k
      refine wpAny_bind ?_
      k_steps
      exact wpAny_bind (wpAny_standAt (wpAny_pure q))
    case hz => exact Nat.le_trans (by show (1 : Nat) ≤ 7; decide) (by decide +kernel : 7 ≤ sizeLine)
    case lo => assumption
    case hK => exact fun h'' k => keeps_M (K := Mine.hd.heap_39 w.params) (f := 138) (self := .ref x) (by k_is) h'' ⟨k _ _ (N' _ (.head _)).1, Frag.In.keeps (by k_asm) (fun b o e => k b o (F'.keep b o e))⟩
    intro kws h'' tk k1 hw
    obtain rfl := kws0 kv1 hw
    have F9 := fr_keep F' k1
    have N9 := news_keep N' k1
    refine call_meth N9 (.head _) ?_
    refine' upd_use (cm := cm) (x := x) (dx := dx) (es := []) (n := 0) (c := []) ?k1 ?k2 ?k3 ?k4 ?k5 ?k6 ?k7 ?k8 ?k9 ?kC ?kD ?kE ?kA ?kB ?_
    case k1 => k_asm
    case k2 => k_asm
    case k3 => k_asm
    case k4 => k_asm
    case k5 => k_asm
    case k6 => first | assumption | exact rfl
    case k7 => k_updF
    case k8 => k_mem
    case k9 => exact .a1 (ha.keep fun p hp _ => by repeat (first | exact hp | apply List.Mem.tail))
    case kC => assumption
    case kD => assumption
    case kE => k_ne
    case kA => ktr_room
    case kB => ktr_units
    k_whole
    intro es' n' tk' h' kv' F' N'
    try dsimp only at N'
    k_steps
    exact ret _ _ _ _ (by assumption) (by assumption) (News.perm (by assumption) (by ktr_rel))
  | @iw v1 c1 y ty ha =>
    k_dflt ktr_enter
    k_steps
    obtain ⟨es1, n1, rfl, kv1, nk1⟩ := kv_one (f := fun k => txt k 1) (by assumption) 5 rfl
    refine ev_star ?_
    k_steps
    refine' cd_bound (x := x) (dx := dx) (es := []) (n := 0) ?F ?X ?N ?h1 ?h2 fo_update ?fn ?_
    case F => k_asm
    case X => k_asm
    case N => k_asm
    case h1 => k_mem
    case h2 => k_mem
    case fn => k_is
    intro q h' F' N' l1
    k_lt l1
    refine' call_star (C := _) (D := _) (es := es1) (n := n1) (vs := [v1]) ?hx ?hy ?hC ?hz ?ho ?lo (oneKw1 kv1) ?hK ?_
    case hC => exact news_get N' (by k_mem)
    case ho => exact news_get N' (by k_mem)
    case hx =>
      intro s' Q k q
      have F9 := fr_keep F' k
      refine wpAny_bind ?_
      k_steps
      exact wpAny_bind (wpAny_standAt (wpAny_pure q))
    case hy =>
      intro s' Q k q
      have F9 := fr_keep F' k
      refine wpAny_bind ?_
      k_steps
      exact wpAny_bind (wpAny_standAt (wpAny_pure q))
    case hz => exact Nat.le_trans (by show (1 : Nat) ≤ 7; decide) (by decide +kernel : 7 ≤ sizeLine)
    case lo => assumption
    case hK => exact fun h'' k => keeps_M (K := Mine.hd.heap_39 w.params) (f := 138) (self := .ref x) (by k_is) h'' ⟨k _ _ (N' _ (.head _)).1, Frag.In.keeps (by k_asm) (fun b o e => k b o (F'.keep b o e))⟩
    intro kws h'' tk k1 hw
    obtain ⟨u1, rfl⟩ := kws1 kv1 hw
    have F9 := fr_keep F' k1
    have N9 := news_keep N' k1
    refine call_meth N9 (.head _) ?_
    refine' upd_use (cm := c1 ++ [(5, y)]) (x := x) (dx := dx) (es := []) (n := 0) (c := []) ?k1 ?k2 ?k3 ?k4 ?k5 ?k6 ?k7 ?k8 ?k9 ?kC ?kD ?kE ?kA ?kB ?_
    case k1 => k_asm
    case k2 => k_asm
    case k3 => k_asm
    case k4 => k_asm
    case k5 => k_asm
    case k6 => first | assumption | exact rfl
    case k7 => k_updF
    case k8 => k_mem
    case k9 => exact .aw (ha.keep fun p hp _ => by repeat (first | exact hp | apply List.Mem.tail))
    case kC => assumption
    case kD => assumption
    case kE => k_ne
    case kA => ktr_room
    case kB => ktr_units
    k_whole
    intro es' n' tk' h' kv' F' N'
    try dsimp only at N'
    k_steps
    exact ret _ _ _ _ (by assumption) (by assumption) (News.perm (by assumption) (by ktr_rel))
end

/-! ## CaselessDict(..) -/
section
variable {w : World} {p : Program} {loose : List Str} {mean : ExcName → Option Value} {mg mb : Str → Option Value} {dp un : Nat} {gd : Option (List Code)} {cn : Str} {cs : Scope} {a L : Addr} {ccd : Value} {cl : List (Str × Addr)} {outer : List Env} {A₀ : Around} {base h₀ : Heap} {m : Str → Option Value} {s : Shared} {Q E : Value → Shared → Prop} {news rest : List (Addr × Obj)} {g : Obj → List (Addr × Obj)}
theorem new_use {as : List Value} {kws : List (Str × Value)} {cm : C}
   (Bl : Below A₀ base outer h₀) (F : Fr h₀ L s.heap m) (X : (hd.heap_39 w.params).In h₀) (N : News h₀ L s.heap news) (T : Top p loose mean mg mb h₀) (hk : cs.kind = .function)
   (hA : ∀ x, (∀ p ∈ news, p.1 ≠ x) → InitIn w x news as kws cm) (hd : dp + 90 < recursionLimit) (hu : un + 900 < cLine)
   (ret : ∀ x dx es' n' tk' h', KV w up es' (puts [] cm) → (x == sysModules) = false → Fr h₀ L h' m → News h₀ L h' ((x, cdObj dx es' n') :: (dx, plObj [] 0) :: news) → (∀ p ∈ news, p.1 < dx) → dx < x → Q (.ref x) { s with heap := h', toks := tk' }) :
   wpAny (model PySem.Challenge.rw_bf0001_01.row.prog w) (ktrTop dp un gd cn cs L a ccd cl outer) (call (.ref 169) as kws) Q E s := by
  refine make_cd F X N T.nolimit fun x dx h' lo F' N' l1 l2 => ?_
  have l3 : ∀ p ∈ (dx, plObj [] 0) :: news, p.1 ≠ x := fun p hp => by
    rcases List.mem_cons.mp hp with rfl | hp
    · exact Nat.ne_of_lt l2
    · exact Nat.ne_of_lt (Nat.lt_trans (l1 p hp) l2)
  refine init_spec (s := { s with heap := h' }) (Q := fun v s' => v = .none ∧ Q (.ref x) s') Bl F' X N' T hk l3 (hA x fun p hp => l3 p (.tail _ hp)) ?_ ?_ fun es' n' tk' h'' kv F'' N'' => ⟨rfl, ret _ _ _ _ _ _ kv lo F'' N'' l1 l2⟩
  · have e : (Code.builtin "type.__call__" ⟨.ref 169 :: as, kws⟩).weight ≤ 1 := Nat.le_trans (Nat.le_of_eq (show _ = 1 by kernel_rfl)) (by decide)
    show dp + (Code.builtin "type.__call__" ⟨.ref 169 :: as, kws⟩).weight + 80 < recursionLimit
    omega
  · have e : (Code.builtin "type.__call__" ⟨.ref 169 :: as, kws⟩).cUnits ≤ 10 := Nat.le_trans (Nat.le_of_eq (show _ = 1 by kernel_rfl)) (by decide)
    show un + (Code.builtin "type.__call__" ⟨.ref 169 :: as, kws⟩).cUnits + 800 < cLine
    omega
end

/-! ## _law_made -/
def ItemOf (R : List (Addr × Obj)) (y : Value) (p : Value × Nm × Int) : Prop := ∃ q t, y = .ref q ∧ (q, tupleOf #[p.1, .int p.2.2 t] 0) ∈ R ∧ KeyV p.1 p.2.1
theorem map_list {w : World} {D x : Addr} {zs : List Value} {ps : List (Value × Nm × Int)} {R news : List (Addr × Obj)} (hz : All2 (ItemOf R) zs ps) (hD : (D, LCg.lst zs) ∈ news) (hR : ∀ p ∈ R, p ∈ news) (hx : ∀ p ∈ news, p.1 ≠ x) : MapIn w x news (.ref D) (pairsC ps) :=
  .list hD (hx _ hD) (hz.mono fun y p ⟨q, t, e, a1, a2⟩ => ⟨q, t, e, hR _ a1, hx _ (hR _ a1), a2⟩)
def StopAt (P : Prop) : Prop := P
theorem unstop {P : Prop} (h : StopAt P) : P := h
local macro_rules | `(tactic| walk_at "SrcLP") => `(tactic| (refine unstop ?_))
section
variable {w : World} {p : Program} {loose : List Str} {mean : ExcName → Option Value} {mg mb : Str → Option Value} {dp un : Nat} {gd : Option (List Code)} {cn : Str} {cs : Scope} {a L : Addr} {ccd : Value} {cl : List (Str × Addr)} {outer : List Env} {A₀ : Around} {base h₀ : Heap} {m : Str → Option Value} {s : Shared} {Q E : Value → Shared → Prop} {news rest : List (Addr × Obj)} {g : Obj → List (Addr × Obj)}
theorem PairIn.keep {R R' : List (Addr × Obj)} {d : Addr} (k : ∀ p ∈ R, p.1 ≠ d → p ∈ R') (hd : ∀ q k tx tn v n y, (q, tupleOf #[.ref k, .int y tx] 0) ∈ R → (k, tupleOf #[v, .str (up n) tn] 0) ∈ R → q ≠ d ∧ k ≠ d) : ∀ y p, PairIn R y p → PairIn R' y p := fun _ _ ⟨q, k', tx, tn, e, h1, h2, h3⟩ => ⟨q, k', tx, tn, e, k _ h1 (hd _ _ _ _ _ _ _ h1 h2).1, k _ h2 (hd _ _ _ _ _ _ _ h1 h2).2, h3⟩
theorem put_use {d D : Addr} {es : List DictEntry} {n : Nat} {c : C} {ys : List Value} {ps : List (Value × Nm × Int)}
   (Bl : Below A₀ base outer h₀) (F : Fr h₀ L s.heap m) (X : (hd.heap_39 w.params).In h₀) (N : News h₀ L s.heap news) (T : Top p loose mean mg mb h₀) (hk : cs.kind = .function)
   (U : UpdF d (plObj es n) news g) (hD : (D, LCg.lst ys) ∈ news) (ha : All2 (PairIn news) ys ps) (hc : KV w up es c) (nk : NK c) (hd : dp + 40 < recursionLimit) (hu : un + 400 < cLine)
   (ret : ∀ es' n' tk' h', KV w up es' (puts c (pairsOf ps)) → Fr h₀ L h' m → News h₀ L h' (g (plObj es' n')) → Q .none { s with heap := h', toks := tk' }) :
   wpAny (model PySem.Challenge.rw_bf0001_01.row.prog w) (ktrTop dp un gd cn cs L a ccd cl outer) (call (.ref 206) [.ref d, .ref D]) Q E s := by
  obtain ⟨rest, h1, h3, h4⟩ := upd_mem U
  have hdN : (d, plObj es n) ∈ news := upd_in U
  have back : ∀ q o, (q, o) ∈ news → o.cls ≠ .type "dict" → (q, o) ∈ rest := fun q o hq ho => by
    rcases List.mem_cons.mp ((h3 _).mpr hq) with e | h
    · cases e; exact absurd rfl ho
    · exact h
  have hD' : (D, LCg.lst ys) ∈ rest := back _ _ hD (show Value.type "list" ≠ Value.type "dict" by decide)
  refine put_spec (rest := rest) (n := n) Bl F X (N.perm fun p hp => ?_) T hk (fun p hp => ?_) (ha.mono fun y p ⟨q, k', tx, tn, e, a1, a2, a3⟩ => ⟨q, k', tx, tn, e, back _ _ a1 (show Value.type "tuple" ≠ Value.type "dict" by decide), back _ _ a2 (show Value.type "tuple" ≠ Value.type "dict" by decide), a3⟩) hc nk hd hu fun es' n' tk' h' kv F' N' => ret es' n' tk' h' kv F' (N'.perm fun p hp => ?_)
  · rcases List.mem_cons.mp hp with rfl | hp
    · exact (h3 _).mp (.head _)
    · rcases List.mem_cons.mp hp with rfl | hp
      · exact hD
      · exact (h3 _).mp (.tail _ hp)
  · rcases List.mem_cons.mp hp with rfl | hp
    · exact h1 _ hD'
    · exact h1 _ hp
  · rcases List.mem_cons.mp ((h4 _ p).mp hp) with rfl | hp
    · exact .head _
    · exact .tail _ (.tail _ hp)
end
local macro_rules | `(tactic| walk_at "call ref") => `(tactic| (k_here; (first | (with_reducible show wpAny _ _ (call (Value.ref 138) _ _) _ _ _) | (with_reducible show wpAny _ _ (call (Value.ref 199) _ _) _ _ _) | (with_reducible show wpAny _ _ (call (Value.ref 211) _ _) _ _ _) | (with_reducible show wpAny _ _ (call (Value.ref 206) _ _) _ _ _) | (with_reducible show wpAny _ _ (call (Value.ref 169) _ _) _ _ _) | (with_reducible show wpAny _ _ (call (Value.ref 216) _ _) _ _ _)); refine unstop ?_))
local macro_rules | `(tactic| walk_at "call ref") => `(tactic| (k_here; (with_reducible show wpAny _ _ (call (Value.ref 206) [_, _]) _ _ _); k_dflt (refine' put_use ?k1 ?k2 ?k3 ?k4 ?k5 ?k6 ?k7 ?k8 ?k9 ?kC ?kD ?kA ?kB ?_; (case k1 | k2 | k3 | k4 | k5 => k_asm); (case k6 => first | assumption | exact rfl); (case k7 => k_updF); (case k8 => k_mem); (case k9 => exact All2.mono (by assumption) (PairIn.mono fun p hp => by repeat (first | exact hp | apply List.Mem.tail))); (case kC | kD => assumption); (case kA => ktr_room); (case kB => ktr_units); k_whole; intro es' n' tk' h' kv' F' N'; (try dsimp only at N'))))
section
variable {w : World} {p : Program} {loose : List Str} {mean : ExcName → Option Value} {mg mb : Str → Option Value} {dp un : Nat} {gd : Option (List Code)} {cn : Str} {cs : Scope} {a L : Addr} {ccd : Value} {cl : List (Str × Addr)} {outer : List Env} {A₀ : Around} {base h₀ : Heap} {m : Str → Option Value} {s : Shared} {Q E : Value → Shared → Prop} {news rest : List (Addr × Obj)} {g : Obj → List (Addr × Obj)}
set_option pp.deepTerms false
set_option pp.maxSteps 3000
set_option pp.proofs false
theorem made_spec {b : Addr} {B : Int} {tb : Tok}
   (Bl : Below A₀ base outer h₀) (F : Fr h₀ L s.heap m) (X : (hd.heap_39 w.params).In h₀) (N : News h₀ L s.heap ((b, listOf #[.int B tb] 0) :: rest)) (T : Top p loose mean mg mb h₀) (hk : cs.kind = .function)
   (hb : ∀ p ∈ rest, p.1 ≠ b) (hd : dp + 110 < recursionLimit) (hu : un + 1100 < cLine)
   (ret : ∀ tu x dx d es n es' n' c B' t' tk' h', KV w up es c → KV w up es' c → NK c → (x == sysModules) = false → (d == sysModules) = false → b < d → (∀ p ∈ rest, p.1 < d) → d < dx → dx < x → x < tu → Fr h₀ L h' m →
     News h₀ L h' ((tu, tupleOf #[.ref x, .ref d] 0) :: (x, cdObj dx es n) :: (dx, plObj [] 0) :: (d, plObj es' n') :: (b, listOf #[.int B' t'] 0) :: rest) → Q (.ref tu) { s with heap := h', toks := tk' }) :
   wpAny (model PySem.Challenge.rw_bf0001_01.row.prog w) (ktrTop dp un gd cn cs L a ccd cl outer) (call (.ref 211) [.ref b]) Q E s := by
  revert X; k_fill; intro X
  refine wpAny_call ?_
  k_dflt ktr_enter
  k_steps
  unfold StopAt
  refine' pairs_spec (b := b) (rest := rest) ?k1 ?k2 ?k3 ?k4 ?k5 ?k6 hb ?k8 ?k9 ?_
  case k1 => k_asm
  case k2 => k_asm
  case k3 => k_asm
  case k4 => k_asm
  case k5 => k_asm
  case k6 => exact rfl
  case k8 => ktr_room
  case k9 => ktr_units
  intro D ys ps own B1 t1 tk1 h1 ha hl ho hn F1 N1
  obtain ⟨R, hR⟩ : ∃ R, R = own ++ rest := ⟨_, rfl⟩
  rw [← hR] at N1 hn
  replace ha : All2 (PairIn R) ys ps := ha.mono (PairIn.mono fun p hp => by rw [hR]; exact List.mem_append_left _ hp)
  have hRb : ∀ p ∈ R, p.1 ≠ b := fun p hp => by
    rw [hR] at hp
    exact (List.mem_append.mp hp).elim (fun hp => Nat.ne_of_gt (ho p hp).1) (hb p)
  have hRD : ∀ p ∈ R, p.1 ≠ D := fun p hp => hn p (.tail _ hp)
  have hbD : @Ne Nat b D := hn _ (.head _)
  have kv0 : KV w up [] [] := .nil
  have nk0 : NK [] := .nil
  k_steps
  unfold StopAt
  rename_i d h8 o8 lo8 hs8 fs8 hi8 fi8 l8 h9 F9 N9
  obtain ⟨es1, n1, rfl, kv1, nk1⟩ := kv_zero (f := up) hs8
  clear fs8 hi8 fi8 hs8
  k_steps
  unfold StopAt
  rename_i es2 n2 tk2 h2 kv2 F2 N2
  have nk2 := nk0.puts (pairsOf ps)
  have hys : ys.length ≤ 3 := by rw [ha.length]; exact hl
  refine' LCp.SrcLP.ledger rfl F2 N2 (by k_mem) (by rw [List.size_toArray]; exact Nat.le_trans hys (by decide)) fun gg => ?_
  rw [List.size_toArray]
  refine comp_indP (Inv := fun i zs news => ∃ own2, news = (d, plObj es2 n2) :: (D, LCg.lst ys) :: (b, listOf #[.int B1 t1] 0) :: (own2 ++ R) ∧ All2 (ItemOf own2) zs (ps.take i) ∧ ∀ p ∈ own2, d < p.1 ∧ D < p.1 ∧ b < p.1 ∧ ∀ q ∈ R, q.1 < p.1) ?turn ?fin _ 0 [] _ (Nat.zero_add _) ⟨[], rfl, .nil, fun _ h => nomatch h⟩
  case turn =>
    rintro i zs news hi ⟨own2, rfl, hz, ho2⟩ v hv
    obtain ⟨⟨pv, pk, px⟩, hp, q, k, tx, tn, rfl, hq, hkk, hKV⟩ := All2.get ha i v (by simpa using hv)
    refine ⟨q, _, .ref k, .int px tx, 0, rfl, .tail _ (.tail _ (.tail _ (List.mem_append_right _ hq))), rfl, rfl, ?_⟩
    intro I oI C oC D2 m2 h tk E' hC hx hx2 F3 N3 off ne
    replace N3 := news_dup (news_dup N3 (.tail _ (.tail _ (.tail _ (.tail _ (.tail _ (.tail _ (List.mem_append_right _ hq)))))))) (.tail _ (.tail _ (.tail _ (.tail _ (.tail _ (.tail _ (.tail _ (List.mem_append_right _ hkk))))))))
    have hR2 : ∀ p ∈ own2 ++ R, p.1 ≠ d := fun p hp => (List.mem_append.mp hp).elim (fun hp => Nat.ne_of_gt (ho2 p hp).1) (fun hp => Nat.ne_of_lt (lt_of_all l8.2.2 p hp))
    generalize hG : own2 ++ R = R2 at *
    simp only [LCg.Off3] at off
    clear F2 N2
    try clear F9 N9
    try clear F N
    k_steps
    refine LCg.CompEnd.intro (by assumption) (by assumption) ((d, plObj es2 n2) :: (D, LCg.lst ys) :: (b, listOf #[.int B1 t1] 0) :: (_, tupleOf #[pv, .int px tx] 0) :: R2) (by ktr_rel) ?off ?src ?r
    case off => exact ⟨⟨by k_ne, by k_ne, by k_ne⟩, ⟨by k_ne, by k_ne, by k_ne⟩, ⟨by k_ne, by k_ne, by k_ne⟩, ⟨by k_ne, by k_ne, by k_ne⟩, off.2.2.2⟩
    case src => exact .inr ⟨_, .tail _ (.head _), rfl, _, rfl⟩
    case r =>
      refine ⟨(_, _) :: own2, by subst hG; rfl, ?_, ?_⟩
      · rw [List.take_add_one, hp]
        exact (hz.mono fun y p ⟨q, t, e, a1, a2⟩ => ⟨q, t, e, .tail _ a1, a2⟩).snoc ⟨_, tx, rfl, .head _, hKV⟩
      · intro p hp
        rcases List.mem_cons.mp hp with rfl | hp
        · refine ⟨ltN (by dsimp only; first | lcg_src | omega), ltN (by dsimp only; first | lcg_src | omega), ltN (by dsimp only; first | lcg_src | omega), fun q hq => ?_⟩
          refine lt_of_all (l := R2) ?_ q (by rw [← hG]; exact List.mem_append_right _ hq)
          simp_all only [and_true, true_and]
        · exact ho2 p hp
  case fin =>
    rintro zs news ⟨own2, rfl, hz, ho2⟩
    have hRd : ∀ p ∈ own2 ++ R, p.1 ≠ d := fun p hp => (List.mem_append.mp hp).elim (fun hp => Nat.ne_of_gt (ho2 p hp).1) (fun hp => Nat.ne_of_lt (lt_of_all l8.2.2 p hp))
    have hRb3 : ∀ p ∈ own2 ++ R, p.1 ≠ b := fun p hp => (List.mem_append.mp hp).elim (fun hp => Nat.ne_of_gt (ho2 p hp).2.2.1) (hRb p)
    have hz3 : All2 (ItemOf (own2 ++ R)) zs ps := by
      have hlz : ps.take ys.length = ps := by rw [ha.length, List.take_length]
      rw [hlz] at hz
      exact hz.mono fun y p ⟨q, t, e, a1, a2⟩ => ⟨q, t, e, List.mem_append_left _ a1, a2⟩
    have hrest : ∀ p ∈ rest, p ∈ own2 ++ R := fun p hp => List.mem_append_right _ (by rw [hR]; exact List.mem_append_right _ hp)
    generalize hG : own2 ++ R = R2 at *
    have ret2 : ∀ tu x dx es n es' n' c B' t' tk' h', KV w up es c → KV w up es' c → NK c → (x == sysModules) = false → d < dx → dx < x → x < tu → Fr h₀ L h' m →
       News h₀ L h' ((tu, tupleOf #[.ref x, .ref d] 0) :: (x, cdObj dx es n) :: (dx, plObj [] 0) :: (d, plObj es' n') :: (b, listOf #[.int B' t'] 0) :: R2) → Q (.ref tu) { s with heap := h', toks := tk' } :=
      fun tu x dx es n es' n' c B' t' tk' h' k1 k2 k3 k4 k5 k6 k7 k8 k9 => ret tu x dx d es n es' n' c B' t' tk' h' k1 k2 k3 k4 lo8 l8.2.1 (fun p hp => lt_of_all l8.2.2 p (by rw [hR]; exact List.mem_append_right _ hp)) k5 k6 k7 k8 (k9.perm (mem_sub_cons (mem_sub_cons (mem_sub_cons (mem_sub_cons (mem_sub_cons hrest))))))
    clear F2 N2
    try clear F9 N9
    try clear F N
    k_steps
    unfold StopAt
    refine' new_use (as := [.ref _]) (kws := []) (cm := pairsC ps) ?m1 ?m2 ?m3 ?m4 ?m5 ?m6 ?m7 ?m8 ?m9 ?_
    case m1 => k_asm
    case m2 => k_asm
    case m3 => k_asm
    case m4 => k_asm
    case m5 => k_asm
    case m6 => exact rfl
    case m7 => exact fun x hx => .i1 (map_list hz3 (by k_mem) (fun p hp => by repeat (first | exact hp | apply List.Mem.tail)) hx)
    case m8 => ktr_room
    case m9 => ktr_units
    k_whole
    intro x dx es3 n3 tk3 h3 kv3 lo3 F3 N3 l1 l2
    k_lt l1
    k_lt2 l2
    k_steps
    exact ret2 _ x dx es3 n3 es2 n2 _ _ _ _ _ kv3 kv2 nk2 lo3 (ltN (by first | lcg_src | omega)) l2 (ltN (by first | lcg_src | omega)) (by assumption) (News.perm (by assumption) (by ktr_rel))
    rename_i r4 B4 u4 u5 tk5 h5 hr4 hr5 h6 F6 N6
    have eW : Str.ofString "WORD" = up 5 := rfl
    rw [eW]
    refine' pd_set (k := 5) (d := d) (es := es2) (n := n2) ?q1 ?q2 ?q3 up_inj kv2 nk2 ?_
    case q1 => k_asm
    case q2 => k_asm
    case q3 => k_updF
    intro es4 n4 h4 tk4 kv4 F4 N4
    try dsimp only at N4
    have nk4 := nk2.put 5 r4
    clear F6 N6
    have e5 : put (puts [] (pairsOf ps)) 5 r4 = puts [] (pairsC ps ++ [(5, r4)]) := (puts_snoc _ _ _ _).symm
    k_steps
    unfold StopAt
    refine' new_use (as := [.ref _]) (kws := [(Str.ofString "word", .int r4 _)]) (cm := pairsC ps ++ [(5, r4)]) ?m1 ?m2 ?m3 ?m4 ?m5 ?m6 ?m7 ?m8 ?m9 ?_
    case m1 => k_asm
    case m2 => k_asm
    case m3 => k_asm
    case m4 => k_asm
    case m5 => k_asm
    case m6 => exact rfl
    case m7 => exact fun x hx => .iw (map_list hz3 (by k_mem) (fun p hp => by repeat (first | exact hp | apply List.Mem.tail)) hx)
    case m8 => ktr_room
    case m9 => ktr_units
    k_whole
    intro x dx es3 n3 tk3 h3 kv3 lo3 F3 N3 l1 l2
    k_lt l1
    k_lt2 l2
    k_steps
    rw [← e5] at kv3
    exact ret2 _ x dx es3 n3 es4 n4 _ _ _ _ _ kv3 kv4 nk4 lo3 (ltN (by first | lcg_src | omega)) l2 (ltN (by first | lcg_src | omega)) (by assumption) (News.perm (by assumption) (by ktr_rel))
    unfold StopAt
    refine' new_use (as := []) (kws := []) (cm := []) ?m1 ?m2 ?m3 ?m4 ?m5 ?m6 ?m7 ?m8 ?m9 ?_
    case m1 => k_asm
    case m2 => k_asm
    case m3 => k_asm
    case m4 => k_asm
    case m5 => k_asm
    case m6 => exact rfl
    case m7 => exact fun x hx => .i0
    case m8 => ktr_room
    case m9 => ktr_units
    k_whole
    intro x dx es3 n3 tk3 h3 kv3 lo3 F3 N3 l1 l2
    k_lt l1
    k_lt2 l2
    have nk9 : NK (puts [] []) := .nil
    have hR2x : ∀ p ∈ R2, p.1 ≠ x := fun p hp => Nat.ne_of_lt (Nat.lt_trans (lt_of_all l1.2.2.2.2 p hp) l2)
    k_steps
    unfold StopAt
    refine wpAny_call ?_
    refine' upd_use (as := [.ref _]) (cm := pairsC ps ++ [(5, r4)]) (x := x) (dx := dx) (es := es3) (n := n3) ?k1 ?k2 ?k3 ?k4 ?k5 ?k6 ?k7 ?k8 ?k9 kv3 nk9 ?kE ?kA ?kB ?_
    case k1 => k_asm
    case k2 => k_asm
    case k3 => k_asm
    case k4 => k_asm
    case k5 => k_asm
    case k6 => exact rfl
    case k7 => k_updF
    case k8 => k_mem
    case k9 => exact .aW (.list (by k_mem) (by k_ne) (hz3.mono fun y p ⟨q, t, e, a1, a2⟩ => ⟨q, t, e, by repeat (first | exact a1 | apply List.Mem.tail), hR2x _ a1, a2⟩))
    case kE => k_ne
    case kA => ktr_room
    case kB => ktr_units
    k_whole
    intro es5 n5 tk5 h5 kv5 F5 N5
    try dsimp only at N5
    k_steps
    have kv6 : KV w up es5 (puts [] (pairsC ps ++ [(5, r4)])) := kv5
    rw [← e5] at kv6
    exact ret2 _ x dx es5 n5 es4 n4 _ _ _ _ _ kv6 kv4 nk4 lo3 (ltN (by first | lcg_src | omega)) l2 (ltN (by first | lcg_src | omega)) (by assumption) (News.perm (by assumption) (by ktr_rel))
end

/-! ## __eq__, __ne__ -/
section
variable {w : World} {p : Program} {loose : List Str} {mean : ExcName → Option Value} {mg mb : Str → Option Value} {dp un : Nat} {gd : Option (List Code)} {cn : Str} {cs : Scope} {a L : Addr} {ccd : Value} {cl : List (Str × Addr)} {outer : List Env} {A₀ : Around} {base h₀ : Heap} {m : Str → Option Value} {s : Shared} {Q E : Value → Shared → Prop} {news rest : List (Addr × Obj)} {g : Obj → List (Addr × Obj)}
set_option pp.deepTerms false
set_option pp.maxSteps 3000
set_option pp.proofs false
theorem eq_pd {x dx y : Addr} {es ez : List DictEntry} {n nz : Nat} {c e : C}
   (Bl : Below A₀ base outer h₀) (F : Fr h₀ L s.heap m) (X : (hd.heap_39 w.params).In h₀) (N : News h₀ L s.heap ((x, cdObj dx es n) :: (dx, plObj [] 0) :: (y, plObj ez nz) :: rest)) (T : Top p loose mean mg mb h₀) (hk : cs.kind = .function)
   (xy : @Ne Nat x y) (lox : (x == sysModules) = false) (loy : (y == sysModules) = false)
   (hc : KV w up es c) (nk : NK c) (hz : KV w up ez e) (ne : NK e) (hd : dp + 40 < recursionLimit) (hu : un + 400 < cLine)
   (ret : ∀ tk' h', Fr h₀ L h' m → News h₀ L h' ((x, cdObj dx es n) :: (dx, plObj [] 0) :: (y, plObj ez nz) :: rest) → Q (.bool (sameC c e)) { s with heap := h', toks := tk' }) :
   wpAny (model PySem.Challenge.rw_bf0001_01.row.prog w) (ktrTop dp un gd cn cs L a ccd cl outer) (call (.ref 145) [.ref x, .ref y]) Q E s := by
  revert X; k_fill; intro X
  refine wpAny_call ?_
  k_dflt ktr_enter
  k_steps
  exact ret _ _ (by assumption) (News.perm (by assumption) (by ktr_rel))
theorem eq_cd {x dx y dy : Addr} {es ez : List DictEntry} {n nz : Nat} {c e : C}
   (Bl : Below A₀ base outer h₀) (F : Fr h₀ L s.heap m) (X : (hd.heap_39 w.params).In h₀) (N : News h₀ L s.heap ((x, cdObj dx es n) :: (dx, plObj [] 0) :: (y, cdObj dy ez nz) :: (dy, plObj [] 0) :: rest)) (T : Top p loose mean mg mb h₀) (hk : cs.kind = .function)
   (xy : @Ne Nat x y) (lox : (x == sysModules) = false) (loy : (y == sysModules) = false)
   (hc : KV w up es c) (nk : NK c) (hz : KV w up ez e) (ne : NK e) (hd : dp + 40 < recursionLimit) (hu : un + 400 < cLine)
   (ret : ∀ tk' h', Fr h₀ L h' m → News h₀ L h' ((x, cdObj dx es n) :: (dx, plObj [] 0) :: (y, cdObj dy ez nz) :: (dy, plObj [] 0) :: rest) → Q (.bool (sameC c e)) { s with heap := h', toks := tk' }) :
   wpAny (model PySem.Challenge.rw_bf0001_01.row.prog w) (ktrTop dp un gd cn cs L a ccd cl outer) (call (.ref 145) [.ref x, .ref y]) Q E s := by
  revert X; k_fill; intro X
  refine wpAny_call ?_
  k_dflt ktr_enter
  k_steps
  exact ret _ _ (by assumption) (News.perm (by assumption) (by ktr_rel))
end

/-! ## _law_deed: the branch that updates -/
def fnScope (o : Option Obj) : Scope := match o with
  | some ⟨_, _, .func fd, _⟩ => fd.scope
  | _ => { kind := .function, names := [], isGenerator := false, isCoroutine := false }
noncomputable def deedScope (w : World) : Scope := fnScope ((hd.heap_39 w.params).lookup 216)
def ifBody : List Stmt → List Stmt
  | _ :: _ :: .If _ b _ _ :: _ => b
  | _ => []
noncomputable def deedIf (w : World) : List Stmt := ifBody (fnBody ((hd.heap_39 w.params).lookup 216))
noncomputable abbrev deedEnv (w : World) (L : Addr) : Env := envOf (Str.ofString "_law_deed") (deedScope w) L 216 (.ref 215)
local macro_rules | `(tactic| walk_at "CompSrc") => `(tactic| (refine unstop ?_))
section
variable {w : World} {p : Program} {loose : List Str} {mean : ExcName → Option Value} {mg mb : Str → Option Value} {dp un : Nat} {gd : Option (List Code)} {cn : Str} {cs : Scope} {a L : Addr} {ccd : Value} {cl : List (Str × Addr)} {outer : List Env} {base : Heap} {s : Shared} {E : Value → Shared → Prop} {rest : List (Addr × Obj)}
set_option pp.deepTerms false
set_option pp.maxSteps 3000
set_option pp.proofs false
theorem deed0 {b x dx d : Addr} {B : Int} {tb : Tok} {es ez : List DictEntry} {n nz : Nat} {c : C} {g' : Heap} {L' : Addr} {m₁ : Str → Option Value} {Q : Flow → Shared → Prop}
   (Bl : Below (ktrTop dp un gd cn cs L a ccd cl outer) base (envX cn cs L a ccd cl :: outer) g') (F : Fr g' L' s.heap (fun z => if z = Str.ofString "bag" then some (.ref b) else if z = Str.ofString "told" then some (.ref x) else if z = Str.ofString "due" then some (.ref d) else m₁ z)) (X : (hd.heap_39 w.params).In g') (N : News g' L' s.heap ((b, listOf #[.int B tb] 0) :: (x, cdObj dx es n) :: (dx, plObj [] 0) :: (d, plObj ez nz) :: rest)) (T : Top p loose mean mg mb g') (hk : cs.kind = .function)
   (bx : @Ne Nat b x) (bdx : @Ne Nat b dx) (bd : @Ne Nat b d) (xdx : @Ne Nat dx x) (xd : @Ne Nat x d) (dxd : @Ne Nat dx d) (rb : ∀ p ∈ rest, p.1 ≠ b) (rx : ∀ p ∈ rest, p.1 ≠ x) (rdx : ∀ p ∈ rest, p.1 ≠ dx) (rd : ∀ p ∈ rest, p.1 ≠ d) (lox : (x == sysModules) = false) (lod : (d == sysModules) = false)
   (hc : KV w up es c) (hz : KV w up ez c) (nk : NK c) (hd : dp + 110 < recursionLimit) (hu : un + 1100 < cLine)
   (ret : ∀ es' n' ez' nz' c' B' t' tk' h' m', KV w up es' c' → KV w up ez' c' → NK c' → Fr g' L' h' m' → News g' L' h' ((b, listOf #[.int B' t'] 0) :: (x, cdObj dx es' n') :: (dx, plObj [] 0) :: (d, plObj ez' nz') :: rest) → Q (.ret (.bool true)) { s with heap := h', toks := tk' }) :
   wpAny (model PySem.Challenge.rw_bf0001_01.row.prog w) ((ktrTop dp un gd cn cs L a ccd cl outer).deeper (deedEnv w L')) (execs (deedIf w) (deedEnv w L')) Q E s := by
  unfold deedEnv
  conv in (deedIf w) => whnf
  conv in (occs := *) (deedScope w) => all_goals whnf
  revert X; k_fill; intro X
  k_steps
  unfold StopAt
  refine' pairs_at (b := b) (pre := [(x, cdObj dx es n), (dx, plObj [] 0), (d, plObj ez nz)]) (rest := rest) ?k1 ?k2 ?k3 (News.perm (by assumption) (by dsimp only [List.cons_append, List.nil_append]; ktr_rel)) ?k5 rfl ?hb ?k8 ?k9 ?_
  case k1 => k_asm
  case k2 => k_asm
  case k3 => k_asm
  case k5 => k_asm
  case hb =>
    intro p hp
    rcases List.mem_append.mp hp with hp | hp
    · simp only [List.mem_cons, List.not_mem_nil, or_false] at hp
      rcases hp with rfl | rfl | rfl
      · exact Ne.symm bx
      · exact Ne.symm bdx
      · exact Ne.symm bd
    · exact rb p hp
  case k8 => ktr_room
  case k9 => ktr_units
  intro D1 ys1 ps1 R1 B1 t1 tk1 h1 ha1 hl1 sub1 off1 bD1 preD1 RD1 F1 N1
  have R1b := off1 b rb (.inl rfl)
  have R1x := off1 x rx (.inr ⟨_, .head _⟩)
  have R1dx := off1 dx rdx (.inr ⟨_, .tail _ (.head _)⟩)
  have R1d := off1 d rd (.inr ⟨_, .tail _ (.tail _ (.head _))⟩)
  have xD1 : @Ne Nat x D1 := preD1 _ (.head _)
  have dxD1 : @Ne Nat dx D1 := preD1 _ (.tail _ (.head _))
  have dD1 : @Ne Nat d D1 := preD1 _ (.tail _ (.tail _ (.head _)))
  simp only [List.cons_append, List.nil_append] at N1
  try clear F N
  k_steps
  unfold StopAt
  refine' pairs_at (b := b) (pre := [(x, cdObj dx es n), (dx, plObj [] 0), (d, plObj ez nz), (D1, LCg.lst ys1)]) (rest := R1) ?k1 ?k2 ?k3 (News.perm (by assumption) (by dsimp only [List.cons_append, List.nil_append]; ktr_rel)) ?k5 rfl ?hb ?k8 ?k9 ?_
  case k1 => k_asm
  case k2 => k_asm
  case k3 => k_asm
  case k5 => k_asm
  case hb =>
    intro p hp
    rcases List.mem_append.mp hp with hp | hp
    · simp only [List.mem_cons, List.not_mem_nil, or_false] at hp
      rcases hp with rfl | rfl | rfl | rfl
      · exact Ne.symm bx
      · exact Ne.symm bdx
      · exact Ne.symm bd
      · exact Ne.symm bD1
    · exact R1b p hp
  case k8 => ktr_room
  case k9 => ktr_units
  intro D2 ys2 ps2 R2 B2 t2 tk2 h2 ha2 hl2 sub2 off2 bD2 preD2 RD2 F2 N2
  have R2b := off2 b R1b (.inl rfl)
  have R2x := off2 x R1x (.inr ⟨_, .head _⟩)
  have R2dx := off2 dx R1dx (.inr ⟨_, .tail _ (.head _)⟩)
  have R2d := off2 d R1d (.inr ⟨_, .tail _ (.tail _ (.head _))⟩)
  have R2D1 := off2 D1 RD1 (.inr ⟨_, .tail _ (.tail _ (.tail _ (.head _)))⟩)
  have xD2 : @Ne Nat x D2 := preD2 _ (.head _)
  have dxD2 : @Ne Nat dx D2 := preD2 _ (.tail _ (.head _))
  have dD2 : @Ne Nat d D2 := preD2 _ (.tail _ (.tail _ (.head _)))
  have D1D2 : @Ne Nat D1 D2 := preD2 _ (.tail _ (.tail _ (.tail _ (.head _))))
  simp only [List.cons_append, List.nil_append] at N2
  replace ha1 : All2 (PairIn R2) ys1 ps1 := ha1.mono (PairIn.mono sub2)
  have rest2 : ∀ p ∈ rest, p ∈ R2 := fun p hp => sub2 p (sub1 p hp)
  try clear F1 N1
  k_steps
  unfold StopAt
  rename Fr _ _ _ _ => F3
  rename News _ _ _ _ => N3
  have hys1 : ys1.length ≤ 3 := by rw [ha1.length]; exact hl1
  have hys2 : ys2.length ≤ 3 := by rw [ha2.length]; exact hl2
  have hcomp1 := ha1
  refine' LCg.CompSrc.ledger rfl F3 N3 (by k_mem) (by rw [List.size_toArray]; exact Nat.le_trans hys1 (by decide)) fun gg => ?_
  rw [List.size_toArray]
  refine comp_ind (Inv := fun i zs news => ∃ own, news = (D2, LCg.lst ys2) :: (b, listOf #[.int B2 t2] 0) :: (x, cdObj dx es n) :: (dx, plObj [] 0) :: (d, plObj ez nz) :: (D1, LCg.lst ys1) :: (own ++ R2) ∧ All2 (PairAt (fun k => txt k 1) own) zs ((pairsOf ps1).take i) ∧ ∀ p ∈ own, p.1 ≠ b ∧ p.1 ≠ x ∧ p.1 ≠ dx ∧ p.1 ≠ d ∧ p.1 ≠ D1 ∧ p.1 ≠ D2) ?turn ?fin _ 0 [] _ (Nat.zero_add _) ⟨[], rfl, .nil, fun _ h => nomatch h⟩
  case turn =>
    rintro i zs news hi ⟨own, rfl, hz, ho⟩ v I oI C oC D m2 h tk E' hv hC hx9 F4 N4 off ne
    obtain ⟨⟨pv, pk, px⟩, hp, q, k, tx, tn, rfl, hq, hkk, hKV⟩ := All2.get ha1 i v (by simpa using hv)
    have hq' : (q, tupleOf #[.ref k, .int px tx] 0) ∈ own ++ R2 := List.mem_append_right _ hq
    have hk' : (k, tupleOf #[pv, .str (up pk) tn] 0) ∈ own ++ R2 := List.mem_append_right _ hkk
    generalize hG : own ++ R2 = R3 at *
    simp only [LCg.Off3] at off
    replace N4 := news_dup N4 (p := (q, tupleOf #[.ref k, .int px tx] 0)) (by repeat (first | exact hq' | apply List.Mem.tail))
    replace N4 := news_dup N4 (p := (k, tupleOf #[pv, .str (up pk) tn] 0)) (by repeat (first | exact hk' | apply List.Mem.tail))
    try clear F3 N3
    try clear F2 N2
    k_steps
    try k_unfold
    try dsimp only
    rename_i l9
    rename News _ _ _ _ => N9
    rw [← txt1] at N9
    refine LCg.CompEnd.intro (by assumption) N9 ((D2, LCg.lst ys2) :: (b, listOf #[.int B2 t2] 0) :: (x, cdObj dx es n) :: (dx, plObj [] 0) :: (d, plObj ez nz) :: (D1, LCg.lst ys1) :: (_, tupleOf #[.str (txt pk 1) _, .int px tx] 0) :: R3) (by ktr_rel) ?off ?src ?r
    case off => exact ⟨off.1, off.2.1, off.2.2.1, off.2.2.2.1, off.2.2.2.2.1, off.2.2.2.2.2.1, ⟨Nat.ne_of_gt l9.2.2.1, Nat.ne_of_gt l9.2.2.2.1, Nat.ne_of_gt l9.2.2.2.2.1⟩, off.2.2.2.2.2.2⟩
    case src => exact .inr ⟨_, .tail _ (.tail _ (.tail _ (.tail _ (.tail _ (.head _))))), rfl, _, rfl⟩
    case r =>
      refine ⟨(_, _) :: own, by subst hG; rfl, ?_, ?_⟩
      · rw [List.take_add_one, show (pairsOf ps1)[i]? = some (pk, px) from by unfold pairsOf; rw [List.getElem?_map, hp]; rfl]
        exact (hz.mono fun y p ⟨q, t, u, e, a1⟩ => ⟨q, t, u, e, .tail _ a1⟩).snoc ⟨_, _, tx, rfl, .head _⟩
      · intro p hp
        rcases List.mem_cons.mp hp with rfl | hp
        · obtain ⟨_, _, _, _, _, l6, l7, l8, l9', l10, l11, _⟩ := l9
          exact ⟨Nat.ne_of_gt l7, Nat.ne_of_gt l8, Nat.ne_of_gt l9', Nat.ne_of_gt l10, Nat.ne_of_gt l11, Nat.ne_of_gt l6⟩
        · exact ho p hp
  case fin =>
    rintro zs news ⟨own, rfl, hz, ho⟩
    have hz1 : All2 (PairAt (fun k => txt k 1) (own ++ R2)) zs (pairsOf ps1) := by
      have e : (pairsOf ps1).take ys1.length = pairsOf ps1 := List.take_of_length_le (by unfold pairsOf; rw [List.length_map, ha1.length]; exact Nat.le_refl _)
      rw [e] at hz
      exact hz.mono fun y p ⟨q, t, u, e1, a1⟩ => ⟨q, t, u, e1, List.mem_append_left _ a1⟩
    have o3 : ∀ a : Addr, (∀ p ∈ own, p.1 ≠ a) → (∀ p ∈ R2, p.1 ≠ a) → ∀ p ∈ own ++ R2, p.1 ≠ a := fun a h1 h2 p hp => (List.mem_append.mp hp).elim (h1 p) (h2 p)
    have R3b := o3 b (fun p hp => (ho p hp).1) R2b
    have R3x := o3 x (fun p hp => (ho p hp).2.1) R2x
    have R3dx := o3 dx (fun p hp => (ho p hp).2.2.1) R2dx
    have R3d := o3 d (fun p hp => (ho p hp).2.2.2.1) R2d
    have R3D1 := o3 D1 (fun p hp => (ho p hp).2.2.2.2.1) R2D1
    have R3D2 := o3 D2 (fun p hp => (ho p hp).2.2.2.2.2) RD2
    have sub3 : ∀ p ∈ R2, p ∈ own ++ R2 := fun p hp => List.mem_append_right _ hp
    clear o3
    generalize hG : own ++ R2 = R3 at *
    try clear F3 N3
    try clear F2 N2
    k_steps
    rename_i D3 h3 tk3 F3 N3 o3
    have R3D3 : ∀ p ∈ R3, p.1 ≠ D3 := off1_mem o3.2.2.2.2.2.2
    refine' k_dict_list (f := fun k => txt k 1) rfl T.nolimit (txt_inj 1) F3 N3 (.head _) (hz1.mono fun y p ⟨q, t, u, e, a1⟩ => ⟨q, t, u, e, by repeat (first | exact a1 | apply List.Mem.tail)⟩) ?_
    intro S esS nS hS tkS kvS loS ltS FS NS
    k_lt ltS
    have ltR : ∀ p ∈ R3, p.1 ≠ S := fun p hp => Nat.ne_of_lt (lt_of_all ltS.2.2.2.2.2.2.2 p hp)
    have ha2' : All2 (PairIn R3) ys2 ps2 := ha2.mono (PairIn.mono sub3)
    clear F3 N3 o3
    k_steps
    unfold StopAt
    rename Fr _ _ _ _ => F5
    rename News _ _ _ _ => N5
    have N6 := N5.perm (news' := (S, plObj esS nS) :: (D2, LCg.lst ys2) :: (b, listOf #[.int B2 t2] 0) :: (x, cdObj dx es n) :: (dx, plObj [] 0) :: (d, plObj ez nz) :: (D1, LCg.lst ys1) :: R3) (by ktr_rel)
    refine' LCg.CompSrc.ledger rfl F5 N6 (by k_mem) (by rw [List.size_toArray]; exact Nat.le_trans hys2 (by decide)) fun gg => ?_
    rw [List.size_toArray]
    refine comp_ind (Inv := fun i zs news => ∃ own, news = (S, plObj esS nS) :: (D2, LCg.lst ys2) :: (b, listOf #[.int B2 t2] 0) :: (x, cdObj dx es n) :: (dx, plObj [] 0) :: (d, plObj ez nz) :: (D1, LCg.lst ys1) :: (own ++ R3) ∧ All2 (ItemOf own) zs (ps2.take i) ∧ ∀ p ∈ own, p.1 ≠ S ∧ p.1 ≠ D2 ∧ p.1 ≠ b ∧ p.1 ≠ x ∧ p.1 ≠ dx ∧ p.1 ≠ d ∧ p.1 ≠ D1) ?turn2 ?fin2 _ 0 [] _ (Nat.zero_add _) ⟨[], rfl, .nil, fun _ h => nomatch h⟩
    case turn2 =>
      rintro i zs news hi ⟨own, rfl, hz9, ho⟩ v I oI C oC D m2 h tk E' hv hC hx9 F4 N4 off ne
      obtain ⟨⟨pv, pk, px⟩, hp, q, k, tx, tn, rfl, hq, hkk, hKV⟩ := All2.get ha2' i v (by simpa using hv)
      have hq' : (q, tupleOf #[.ref k, .int px tx] 0) ∈ own ++ R3 := List.mem_append_right _ hq
      have hk' : (k, tupleOf #[pv, .str (up pk) tn] 0) ∈ own ++ R3 := List.mem_append_right _ hkk
      generalize hG : own ++ R3 = R4 at *
      simp only [LCg.Off3] at off
      replace N4 := news_dup N4 (p := (q, tupleOf #[.ref k, .int px tx] 0)) (by repeat (first | exact hq' | apply List.Mem.tail))
      replace N4 := news_dup N4 (p := (k, tupleOf #[pv, .str (up pk) tn] 0)) (by repeat (first | exact hk' | apply List.Mem.tail))
      clear N5 N6 F5
      k_steps
      try k_unfold
      try dsimp only
      rename_i l9
      refine LCg.CompEnd.intro (by assumption) (by assumption) ((S, plObj esS nS) :: (D2, LCg.lst ys2) :: (b, listOf #[.int B2 t2] 0) :: (x, cdObj dx es n) :: (dx, plObj [] 0) :: (d, plObj ez nz) :: (D1, LCg.lst ys1) :: (_, tupleOf #[pv, .int px _] 0) :: R4) (by ktr_rel) ?off ?src ?r
      case off => exact ⟨off.1, off.2.1, off.2.2.1, off.2.2.2.1, off.2.2.2.2.1, off.2.2.2.2.2.1, off.2.2.2.2.2.2.1, ⟨Nat.ne_of_gt l9.2.2.1, Nat.ne_of_gt l9.2.2.2.1, Nat.ne_of_gt l9.2.2.2.2.1⟩, off.2.2.2.2.2.2.2⟩
      case src => exact .inr ⟨_, .tail _ (.head _), rfl, _, rfl⟩
      case r =>
        refine ⟨(_, _) :: own, by subst hG; rfl, ?_, ?_⟩
        · rw [List.take_add_one, hp]
          exact (hz9.mono fun y p ⟨q, t, e, a1, a2⟩ => ⟨q, t, e, .tail _ a1, a2⟩).snoc ⟨_, tx, rfl, .head _, hKV⟩
        · intro p hp
          rcases List.mem_cons.mp hp with rfl | hp
          · obtain ⟨_, _, _, _, _, l6, l7, l8, l9', l10, l11, l12, _⟩ := l9
            exact ⟨Nat.ne_of_gt l6, Nat.ne_of_gt l7, Nat.ne_of_gt l8, Nat.ne_of_gt l9', Nat.ne_of_gt l10, Nat.ne_of_gt l11, Nat.ne_of_gt l12⟩
          · exact ho p hp
    case fin2 =>
      rintro zs2 news ⟨own, rfl, hz9, ho⟩
      have hz2 : All2 (ItemOf (own ++ R3)) zs2 ps2 := by
        have e : ps2.take ys2.length = ps2 := by rw [ha2.length, List.take_length]
        rw [e] at hz9
        exact hz9.mono fun y p ⟨q, t, e, a1, a2⟩ => ⟨q, t, e, List.mem_append_left _ a1, a2⟩
      have o3 : ∀ a : Addr, (∀ p ∈ own, p.1 ≠ a) → (∀ p ∈ R3, p.1 ≠ a) → ∀ p ∈ own ++ R3, p.1 ≠ a := fun a h1 h2 p hp => (List.mem_append.mp hp).elim (h1 p) (h2 p)
      have R4S := o3 S (fun p hp => (ho p hp).1) ltR
      have R4D2 := o3 D2 (fun p hp => (ho p hp).2.1) R3D2
      have R4b := o3 b (fun p hp => (ho p hp).2.2.1) R3b
      have R4x := o3 x (fun p hp => (ho p hp).2.2.2.1) R3x
      have R4dx := o3 dx (fun p hp => (ho p hp).2.2.2.2.1) R3dx
      have R4d := o3 d (fun p hp => (ho p hp).2.2.2.2.2.1) R3d
      have R4D1 := o3 D1 (fun p hp => (ho p hp).2.2.2.2.2.2) R3D1
      have sub4 : ∀ p ∈ R2, p ∈ own ++ R3 := fun p hp => List.mem_append_right _ (sub3 p hp)
      have hp1 : All2 (PairIn (own ++ R3)) ys1 ps1 := ha1.mono (PairIn.mono sub4)
      have hp2 : All2 (PairIn (own ++ R3)) ys2 ps2 := ha2.mono (PairIn.mono sub4)
      have rest4 : ∀ p ∈ rest, p ∈ own ++ R3 := fun p hp => sub4 p (rest2 p hp)
      clear o3
      generalize hG : own ++ R3 = R4 at *
      have Sx : @Ne Nat S x := Nat.ne_of_gt ltS.2.2.2.1
      have Sd : @Ne Nat S d := Nat.ne_of_gt ltS.2.2.2.2.2.1
      clear N5 N6 F5 ha1 ha2 ha2' hz1
      k_steps
      unfold StopAt
      rename_i D4 h4 tk4 F7 N7 o4
      have xD4 : @Ne Nat D4 x := Ne.symm o4.2.2.2.1
      have dD4 : @Ne Nat D4 d := Ne.symm o4.2.2.2.2.2.1
      have nkS := NK.nil.puts (pairsOf ps1)
      refine wpAny_call ?_
      refine' upd_use (as := [.ref S, .ref D4]) (cm := puts [] (pairsOf ps1) ++ (pairsC ps2 ++ [(6, 7)])) (x := x) (dx := dx) (es := es) (n := n) ?k1 ?k2 ?k3 ?k4 ?k5 rfl ?k7 ?k8 ?k9 hc nk xdx ?kA ?kB ?_
      case k1 => k_asm
      case k2 => exact F7
      case k3 => k_asm
      case k4 => exact N7
      case k5 => k_asm
      case k7 => k_updF
      case k8 => k_mem
      case k9 => exact .ax (.dict 1 (.tail _ (.head _)) Sx loS kvS nkS) (.list (.head _) xD4 (hz2.mono fun y p ⟨q, t, e, a1, a2⟩ => ⟨q, t, e, by repeat (first | exact a1 | apply List.Mem.tail), R4x _ a1, a2⟩))
      case kA => ktr_room
      case kB => ktr_units
      k_whole
      intro es6 n6 tk6 h6 kv6 F8 N8
      try dsimp only at N8
      clear F7 N7
      have nk1 := nk.puts (pairsOf ps1)
      have nk2 := nk1.puts (pairsOf ps2)
      have nk3 := nk2.put 6 7
      k_steps
      have eX : Str.ofString "X_B" = up 6 := rfl
      rw [eX]
      rename_i es7 n7 tk7 h7 kv7 F9 N9
      refine' pd_set (k := 6) (d := d) (es := es7) (n := n7) F9 N9 ?q3 up_inj kv7 nk2 ?_
      case q3 => k_updF
      intro es8 n8 h8 tk8 kv8 FA NA
      try dsimp only at NA
      clear F9 N9
      k_steps
      have ec : puts c (puts [] (pairsOf ps1) ++ (pairsC ps2 ++ [(6, 7)])) = put (puts (puts c (pairsOf ps1)) (pairsOf ps2)) 6 7 := by
        rw [puts_append, puts_nil_puts, puts_snoc]; rfl
      rw [ec] at kv6
      exact ret es6 n6 es8 n8 _ _ _ _ _ _ kv6 kv8 nk3 FA (News.perm (News.perm NA (by ktr_rel)) (mem_sub_cons (mem_sub_cons (mem_sub_cons (mem_sub_cons rest4)))))
end

/-! ## _law_deed -/
local macro_rules | `(tactic| walk_at "execs cons") => `(tactic| (k_here; (with_reducible show wpAny _ _ (execs (Stmt.Assign [PySem.Expr.Name (Str.ofString "one") _] _ _ :: _) _) _ _ _); refine unstop ?_))
section
variable {w : World} {p : Program} {loose : List Str} {mean : ExcName → Option Value} {mg mb : Str → Option Value} {dp un : Nat} {gd : Option (List Code)} {cn : Str} {cs : Scope} {a L : Addr} {ccd : Value} {cl : List (Str × Addr)} {outer : List Env} {A₀ : Around} {base h₀ : Heap} {m : Str → Option Value} {s : Shared} {Q E : Value → Shared → Prop} {news rest : List (Addr × Obj)} {g : Obj → List (Addr × Obj)}
set_option pp.deepTerms false
set_option pp.maxSteps 3000
set_option pp.proofs false
theorem deed_spec {b x dx d : Addr} {B : Int} {tb : Tok} {es ez : List DictEntry} {n nz : Nat} {c : C}
   (Bl : Below A₀ base outer h₀) (F : Fr h₀ L s.heap m) (X : (hd.heap_39 w.params).In h₀) (N : News h₀ L s.heap ((b, listOf #[.int B tb] 0) :: (x, cdObj dx es n) :: (dx, plObj [] 0) :: (d, plObj ez nz) :: rest)) (T : Top p loose mean mg mb h₀) (hk : cs.kind = .function)
   (bx : @Ne Nat b x) (bdx : @Ne Nat b dx) (bd : @Ne Nat b d) (xdx : @Ne Nat dx x) (xd : @Ne Nat x d) (dxd : @Ne Nat dx d) (rb : ∀ p ∈ rest, p.1 ≠ b) (rx : ∀ p ∈ rest, p.1 ≠ x) (rdx : ∀ p ∈ rest, p.1 ≠ dx) (rd : ∀ p ∈ rest, p.1 ≠ d) (lox : (x == sysModules) = false) (lod : (d == sysModules) = false)
   (hc : KV w up es c) (hz : KV w up ez c) (nk : NK c) (hd : dp + 110 < recursionLimit) (hu : un + 1100 < cLine)
   (ret : ∀ es' n' ez' nz' c' B' t' tk' h', KV w up es' c' → KV w up ez' c' → NK c' → Fr h₀ L h' m → News h₀ L h' ((b, listOf #[.int B' t'] 0) :: (x, cdObj dx es' n') :: (dx, plObj [] 0) :: (d, plObj ez' nz') :: rest) → Q (.bool true) { s with heap := h', toks := tk' }) :
   wpAny (model PySem.Challenge.rw_bf0001_01.row.prog w) (ktrTop dp un gd cn cs L a ccd cl outer) (call (.ref 216) [.ref b, .ref x, .ref d]) Q E s := by
  revert X; k_fill; intro X
  refine wpAny_call ?_
  k_dflt ktr_enter
  k_steps
  · unfold StopAt
    rename Fr _ _ _ _ => F9
    rename News _ _ _ _ => N9
    refine deed0 (L' := _) (b := b) (x := x) (dx := dx) (d := d) (rest := rest) (by assumption) (fr3 F9 rfl rfl rfl) (by assumption) (N9.perm (by ktr_rel)) (by assumption) hk bx bdx bd xdx xd dxd rb rx rdx rd lox lod hc hz nk hd hu ?_
    intro es' n' ez' nz' c' B' t' tk' h' m' k1 k2 k3 F8 N8
    clear F9 N9
    k_steps
    exact ret es' n' ez' nz' c' _ _ _ _ k1 k2 k3 (by assumption) (News.perm (by assumption) (by ktr_rel))
  · rename_i r1 es1 n1 tk1 h1 ov1 kv1 F1 N1 r2 es2 n2 h2 tk2 ov2 kv2 F2 N2
    rcases ov1 with ⟨e1, rfl⟩ | ⟨y1, u1, e1, rfl⟩
    · rcases ov2 with ⟨e2, rfl⟩ | ⟨y2, u2, e2, rfl⟩
      · k_steps
        exact ret es1 n1 es2 n2 _ _ _ _ _ kv1 kv2 (nk.del _) (by assumption) (News.perm (by assumption) (by ktr_rel))
      · rw [e1] at e2; cases e2
    · rcases ov2 with ⟨e2, rfl⟩ | ⟨y2, u2, e2, rfl⟩
      · rw [e1] at e2; cases e2
      · rw [e1] at e2
        cases e2
        k_steps
        rw [beq_self_eq_true]
        exact ret es1 n1 es2 n2 _ _ _ _ _ kv1 kv2 (nk.del _) (by assumption) (News.perm (by assumption) (by ktr_rel))
  · rename_i r1 es1 n1 tk1 h1 ov1 kv1 F1 N1 r2 es2 n2 h2 tk2 ov2 kv2 F2 N2
    rcases ov1 with ⟨e1, rfl⟩ | ⟨y1, u1, e1, rfl⟩
    · rcases ov2 with ⟨e2, rfl⟩ | ⟨y2, u2, e2, rfl⟩
      · k_steps
        exact ret es1 n1 es2 n2 _ _ _ _ _ kv1 kv2 (nk.del _) (by assumption) (News.perm (by assumption) (by ktr_rel))
      · rw [e1] at e2; cases e2
    · rcases ov2 with ⟨e2, rfl⟩ | ⟨y2, u2, e2, rfl⟩
      · rw [e1] at e2; cases e2
      · rw [e1] at e2
        cases e2
        k_steps
        rw [beq_self_eq_true]
        exact ret es1 n1 es2 n2 _ _ _ _ _ kv1 kv2 (nk.del _) (by assumption) (News.perm (by assumption) (by ktr_rel))
  · obtain ⟨y0, hy0⟩ := Option.isSome_iff_exists.mp (by assumption : (look c _).isSome = true)
    k_steps
    rw [look_del nk]
    refine' ret _ _ _ _ _ _ _ _ _ ?ka ?kb ?kn ?kF (News.perm (by assumption) (by ktr_rel))
    case ka => assumption
    case kb => assumption
    case kn => exact nk.del _
    case kF => assumption
  · rename_i a9 _ _ _ _ _ _ _ _
    rw [a9]
    exact ret es n ez nz c _ _ _ _ hc hz nk (by assumption) (News.perm (by assumption) (by ktr_rel))
  · rename_i d1 h1 o1 F1 N1 lo1 hs1 fs1 hi1 fi1 l1
    obtain ⟨es1, n1, rfl, kv1, nk1⟩ := kv_zero (f := up) hs1
    clear hs1 fs1 hi1 fi1
    refine' pd_eq up_inj ?N ?m1 ?m2 hz nk kv1 nk1 lod lo1 ?hu ?_
    case N => k_asm
    case m1 => k_mem
    case m2 => k_mem
    case hu => ktr_units
    rw [sameC_nil]
    rcases nil_or_snoc c with rfl | ⟨c0, k0, y0, rfl⟩
    · k_steps
      exact ret es n ez nz [] _ _ _ _ hc hz nk (by assumption) (News.perm (by assumption) (by ktr_rel))
    · rw [decide_eq_false (by simp)]
      k_steps
      refine' ret _ _ _ _ c0 _ _ _ _ ?ka ?kb nk.init ?kF (News.perm (by assumption) (by ktr_rel))
      case ka => assumption
      case kb => assumption
      case kF => assumption
end

/-! ## == and != with a CaselessDict at the left -/
section
variable {w : World} {p : Program} {loose : List Str} {mean : ExcName → Option Value} {mg mb : Str → Option Value} {dp un : Nat} {gd : Option (List Code)} {cn : Str} {cs : Scope} {a L : Addr} {ccd : Value} {cl : List (Str × Addr)} {outer : List Env} {A₀ : Around} {base h₀ : Heap} {m : Str → Option Value} {s : Shared} {Q E : Value → Shared → Prop} {news rest : List (Addr × Obj)} {g : Obj → List (Addr × Obj)}
variable {x dx y dy : Addr} {es ez : List DictEntry} {n nz : Nat} {c e : C}
theorem nf_dict : notFirst (hd.heap_39 w.params) 169 (.type "dict") = true := by kernel_rfl
theorem nf_self : notFirst (hd.heap_39 w.params) 169 (.ref 169) = true := by kernel_rfl
theorem fn_eq : isFn (hd.heap_39 w.params) (.ref 145) = true := beq_iff_eq.mpr (ct_fn2 _ (by simp))
theorem fn_ne : isFn (hd.heap_39 w.params) (.ref 152) = true := beq_iff_eq.mpr (ct_fn2 _ (by simp))
theorem dup3 {o₁ o₂ o₃ : Addr × Obj} {h : Heap} (N : News h₀ L h news) (h1 : o₁ ∈ news) (h2 : o₂ ∈ news) (h3 : o₃ ∈ news) : News h₀ L h (o₁ :: o₂ :: o₃ :: news) := N.perm fun p hp => by
  simp only [List.mem_cons] at hp
  rcases hp with rfl | rfl | rfl | hp <;> assumption
theorem dup4 {o₁ o₂ o₃ o₄ : Addr × Obj} {h : Heap} (N : News h₀ L h news) (h1 : o₁ ∈ news) (h2 : o₂ ∈ news) (h3 : o₃ ∈ news) (h4 : o₄ ∈ news) : News h₀ L h (o₁ :: o₂ :: o₃ :: o₄ :: news) := N.perm fun p hp => by
  simp only [List.mem_cons] at hp
  rcases hp with rfl | rfl | rfl | rfl | hp <;> assumption
theorem off3 {o₁ o₂ o₃ : Addr × Obj} {h : Heap} (N : News h₀ L h (o₁ :: o₂ :: o₃ :: news)) : News h₀ L h news := N.perm fun p hp => .tail _ (.tail _ (.tail _ hp))
theorem off4 {o₁ o₂ o₃ o₄ : Addr × Obj} {h : Heap} (N : News h₀ L h (o₁ :: o₂ :: o₃ :: o₄ :: news)) : News h₀ L h news := N.perm fun p hp => .tail _ (.tail _ (.tail _ (.tail _ hp)))
theorem ty_pl {h : Heap} (N : News h₀ L h news) (h3 : (y, plObj ez nz) ∈ news) : Looks (model PySem.Challenge.rw_bf0001_01.row.prog w) h (typeOf (.ref y)) (.type "dict") := fun {A Q E s} k q => wpAny_typeOf (T := "dict") ⟨_, k _ _ (N _ h3).1, rfl⟩ q
theorem ceq_pd
   (Bl : Below A₀ base outer h₀) (F : Fr h₀ L s.heap m) (X : (hd.heap_39 w.params).In h₀) (N : News h₀ L s.heap news) (T : Top p loose mean mg mb h₀) (hk : cs.kind = .function)
   (h1 : (x, cdObj dx es n) ∈ news) (h2 : (dx, plObj [] 0) ∈ news) (h3 : (y, plObj ez nz) ∈ news) (xy : @Ne Nat x y) (lox : (x == sysModules) = false) (loy : (y == sysModules) = false)
   (hc : KV w up es c) (nk : NK c) (hz : KV w up ez e) (ne : NK e) (hd : dp + 40 < recursionLimit) (hu : un + 400 < cLine)
   (ret : ∀ tk' h', Fr h₀ L h' m → News h₀ L h' news → Q (.bool (sameC c e)) { s with heap := h', toks := tk' }) :
   wpAny (model PySem.Challenge.rw_bf0001_01.row.prog w) (ktrTop dp un gd cn cs L a ccd cl outer) (compareOp .Eq (.ref x) (.ref y)) Q E s :=
  cmp_ofEq (cmp_K (by show un < cLine; omega) F X (cd_inst N h1 h2) (ty_pl N h3) nf_dict cf_eq fn_eq
    (eq_pd Bl F X (dup3 N h1 h2 h3) T hk xy lox loy hc nk hz ne hd hu fun tk' h' F' N' => ret tk' h' F' (off3 N')))
theorem ceq_cd
   (Bl : Below A₀ base outer h₀) (F : Fr h₀ L s.heap m) (X : (hd.heap_39 w.params).In h₀) (N : News h₀ L s.heap news) (T : Top p loose mean mg mb h₀) (hk : cs.kind = .function)
   (h1 : (x, cdObj dx es n) ∈ news) (h2 : (dx, plObj [] 0) ∈ news) (h3 : (y, cdObj dy ez nz) ∈ news) (h4 : (dy, plObj [] 0) ∈ news) (xy : @Ne Nat x y) (lox : (x == sysModules) = false) (loy : (y == sysModules) = false)
   (hc : KV w up es c) (nk : NK c) (hz : KV w up ez e) (ne : NK e) (hd : dp + 40 < recursionLimit) (hu : un + 400 < cLine)
   (ret : ∀ tk' h', Fr h₀ L h' m → News h₀ L h' news → Q (.bool (sameC c e)) { s with heap := h', toks := tk' }) :
   wpAny (model PySem.Challenge.rw_bf0001_01.row.prog w) (ktrTop dp un gd cn cs L a ccd cl outer) (compareOp .Eq (.ref x) (.ref y)) Q E s :=
  cmp_ofEq (cmp_K (by show un < cLine; omega) F X (cd_inst N h1 h2) (cd_inst N h3 h4).type nf_self cf_eq fn_eq
    (eq_cd Bl F X (dup4 N h1 h2 h3 h4) T hk xy lox loy hc nk hz ne hd hu fun tk' h' F' N' => ret tk' h' F' (off4 N')))
end
local macro_rules | `(tactic| walk_at "compareOp Eq ref ref") => `(tactic| (k_here; k_dflt ((first | (refine' ceq_pd ?k1 ?k2 ?k3 ?k4 ?k5 ?k6 ?h1 ?h2 ?h3 ?xy ?lx ?ly ?c ?n ?z ?e ?kA ?kB ?_; (case k4 => k_asm); (case h3 => k_mem)) | (refine' ceq_cd ?k1 ?k2 ?k3 ?k4 ?k5 ?k6 ?h1 ?h2 ?h3 ?h4 ?xy ?lx ?ly ?c ?n ?z ?e ?kA ?kB ?_; (case k4 => k_asm); (case h3 | h4 => k_mem))); (case k1 | k2 | k3 | k5 => k_asm); (case k6 => first | assumption | exact rfl); (case h1 | h2 => k_mem); (case xy => k_ne); (case lx | ly | c | n | z | e => assumption); (case kA => ktr_room); (case kB => ktr_units)); k_whole; intro tk' h' F' N'))
section
variable {w : World} {p : Program} {loose : List Str} {mean : ExcName → Option Value} {mg mb : Str → Option Value} {dp un : Nat} {gd : Option (List Code)} {cn : Str} {cs : Scope} {a L : Addr} {ccd : Value} {cl : List (Str × Addr)} {outer : List Env} {A₀ : Around} {base h₀ : Heap} {m : Str → Option Value} {s : Shared} {Q E : Value → Shared → Prop} {news rest : List (Addr × Obj)} {g : Obj → List (Addr × Obj)}
variable {x dx y dy : Addr} {es ez : List DictEntry} {n nz : Nat} {c e : C}
set_option pp.deepTerms false
set_option pp.maxSteps 3000
set_option pp.proofs false
theorem ne_pd
   (Bl : Below A₀ base outer h₀) (F : Fr h₀ L s.heap m) (X : (hd.heap_39 w.params).In h₀) (N : News h₀ L s.heap ((x, cdObj dx es n) :: (dx, plObj [] 0) :: (y, plObj ez nz) :: rest)) (T : Top p loose mean mg mb h₀) (hk : cs.kind = .function)
   (xy : @Ne Nat x y) (lox : (x == sysModules) = false) (loy : (y == sysModules) = false)
   (hc : KV w up es c) (nk : NK c) (hz : KV w up ez e) (ne : NK e) (hd : dp + 60 < recursionLimit) (hu : un + 500 < cLine)
   (ret : ∀ tk' h', Fr h₀ L h' m → News h₀ L h' ((x, cdObj dx es n) :: (dx, plObj [] 0) :: (y, plObj ez nz) :: rest) → Q (.bool (!sameC c e)) { s with heap := h', toks := tk' }) :
   wpAny (model PySem.Challenge.rw_bf0001_01.row.prog w) (ktrTop dp un gd cn cs L a ccd cl outer) (call (.ref 152) [.ref x, .ref y]) Q E s := by
  revert X; k_fill; intro X
  refine wpAny_call ?_
  k_dflt ktr_enter
  k_steps
  exact ret _ _ (by assumption) (News.perm (by assumption) (by ktr_rel))
theorem ne_cd
   (Bl : Below A₀ base outer h₀) (F : Fr h₀ L s.heap m) (X : (hd.heap_39 w.params).In h₀) (N : News h₀ L s.heap ((x, cdObj dx es n) :: (dx, plObj [] 0) :: (y, cdObj dy ez nz) :: (dy, plObj [] 0) :: rest)) (T : Top p loose mean mg mb h₀) (hk : cs.kind = .function)
   (xy : @Ne Nat x y) (lox : (x == sysModules) = false) (loy : (y == sysModules) = false)
   (hc : KV w up es c) (nk : NK c) (hz : KV w up ez e) (ne : NK e) (hd : dp + 60 < recursionLimit) (hu : un + 500 < cLine)
   (ret : ∀ tk' h', Fr h₀ L h' m → News h₀ L h' ((x, cdObj dx es n) :: (dx, plObj [] 0) :: (y, cdObj dy ez nz) :: (dy, plObj [] 0) :: rest) → Q (.bool (!sameC c e)) { s with heap := h', toks := tk' }) :
   wpAny (model PySem.Challenge.rw_bf0001_01.row.prog w) (ktrTop dp un gd cn cs L a ccd cl outer) (call (.ref 152) [.ref x, .ref y]) Q E s := by
  revert X; k_fill; intro X
  refine wpAny_call ?_
  k_dflt ktr_enter
  k_steps
  exact ret _ _ (by assumption) (News.perm (by assumption) (by ktr_rel))
theorem cne_pd
   (Bl : Below A₀ base outer h₀) (F : Fr h₀ L s.heap m) (X : (hd.heap_39 w.params).In h₀) (N : News h₀ L s.heap news) (T : Top p loose mean mg mb h₀) (hk : cs.kind = .function)
   (h1 : (x, cdObj dx es n) ∈ news) (h2 : (dx, plObj [] 0) ∈ news) (h3 : (y, plObj ez nz) ∈ news) (xy : @Ne Nat x y) (lox : (x == sysModules) = false) (loy : (y == sysModules) = false)
   (hc : KV w up es c) (nk : NK c) (hz : KV w up ez e) (ne : NK e) (hd : dp + 60 < recursionLimit) (hu : un + 500 < cLine)
   (ret : ∀ tk' h', Fr h₀ L h' m → News h₀ L h' news → Q (.bool (!sameC c e)) { s with heap := h', toks := tk' }) :
   wpAny (model PySem.Challenge.rw_bf0001_01.row.prog w) (ktrTop dp un gd cn cs L a ccd cl outer) (compareOp .NotEq (.ref x) (.ref y)) Q E s :=
  cmp_ofNotEq (cmp_K (by show un < cLine; omega) F X (cd_inst N h1 h2) (ty_pl N h3) nf_dict cf_ne fn_ne
    (ne_pd Bl F X (dup3 N h1 h2 h3) T hk xy lox loy hc nk hz ne hd hu fun tk' h' F' N' => ret tk' h' F' (off3 N')))
theorem cne_cd
   (Bl : Below A₀ base outer h₀) (F : Fr h₀ L s.heap m) (X : (hd.heap_39 w.params).In h₀) (N : News h₀ L s.heap news) (T : Top p loose mean mg mb h₀) (hk : cs.kind = .function)
   (h1 : (x, cdObj dx es n) ∈ news) (h2 : (dx, plObj [] 0) ∈ news) (h3 : (y, cdObj dy ez nz) ∈ news) (h4 : (dy, plObj [] 0) ∈ news) (xy : @Ne Nat x y) (lox : (x == sysModules) = false) (loy : (y == sysModules) = false)
   (hc : KV w up es c) (nk : NK c) (hz : KV w up ez e) (ne : NK e) (hd : dp + 60 < recursionLimit) (hu : un + 500 < cLine)
   (ret : ∀ tk' h', Fr h₀ L h' m → News h₀ L h' news → Q (.bool (!sameC c e)) { s with heap := h', toks := tk' }) :
   wpAny (model PySem.Challenge.rw_bf0001_01.row.prog w) (ktrTop dp un gd cn cs L a ccd cl outer) (compareOp .NotEq (.ref x) (.ref y)) Q E s :=
  cmp_ofNotEq (cmp_K (by show un < cLine; omega) F X (cd_inst N h1 h2) (cd_inst N h3 h4).type nf_self cf_ne fn_ne
    (ne_cd Bl F X (dup4 N h1 h2 h3 h4) T hk xy lox loy hc nk hz ne hd hu fun tk' h' F' N' => ret tk' h' F' (off4 N')))
end
local macro_rules | `(tactic| walk_at "compareOp NotEq ref ref") => `(tactic| (k_here; k_dflt ((first | (refine' cne_pd ?k1 ?k2 ?k3 ?k4 ?k5 ?k6 ?h1 ?h2 ?h3 ?xy ?lx ?ly ?c ?n ?z ?e ?kA ?kB ?_; (case k4 => k_asm); (case h3 => k_mem)) | (refine' cne_cd ?k1 ?k2 ?k3 ?k4 ?k5 ?k6 ?h1 ?h2 ?h3 ?h4 ?xy ?lx ?ly ?c ?n ?z ?e ?kA ?kB ?_; (case k4 => k_asm); (case h3 | h4 => k_mem))); (case k1 | k2 | k3 | k5 => k_asm); (case k6 => first | assumption | exact rfl); (case h1 | h2 => k_mem); (case xy => k_ne); (case lx | ly | c | n | z | e => assumption); (case kA => ktr_room); (case kB => ktr_units)); k_whole; intro tk' h' F' N'))

/-! ## canonsort_keys: what follows the map -/
noncomputable def ckScope (w : World) : Scope := fnScope ((hd.heap_39 w.params).lookup 35)
noncomputable def ckBody (w : World) : List Stmt := (fnBody ((hd.heap_39 w.params).lookup 35)).drop 1
noncomputable abbrev ckEnv (w : World) (L : Addr) : Env := envOfC (Str.ofString "canonsort_keys") (ckScope w) L 35 (.ref 34)
def numFrom : Nat → List Nm → C
  | _, [] => []
  | i, k :: r => (k, (i : Int)) :: numFrom (i + 1) r
theorem num_keys : ∀ (o : List Nm) (i : Nat), (numFrom i o).map (·.1) = o
  | [], _ => rfl
  | k :: o, i => by show k :: (numFrom (i + 1) o).map (·.1) = _; rw [num_keys o]
theorem NK.num {o : List Nm} (h : o.Nodup) : NK (numFrom 0 o) := by unfold NK; rw [num_keys]; exact h
theorem num_get : ∀ (o : List Nm) (i j : Nat) (p : Nm × Int), (numFrom i o)[j]? = some p → p.2 = ((i + j : Nat) : Int)
  | [], _, _, _, h => by simp [numFrom] at h
  | k :: o, i, 0, p, h => by simp [numFrom] at h; rw [← h]; simp
  | k :: o, i, j + 1, p, h => by
    have := num_get o (i + 1) j p (by simpa [numFrom] using h)
    rw [this]; congr 1; omega
theorem NumIs.num (o : List Nm) : NumIs (numFrom 0 o) := fun i p h => by have := num_get o 0 i p h; simpa using this
theorem look_num {k : Nm} : ∀ (o : List Nm) (i : Nat), look (numFrom i o) k = if k ∈ o then some ((i + o.idxOf k : Nat) : Int) else none
  | [], _ => rfl
  | a :: o, i => by
    show look ((a, (i : Int)) :: numFrom (i + 1) o) k = _
    rw [look_cons, look_num o (i + 1)]
    by_cases e : a = k
    · subst e; simp
    · have e' : k ≠ a := fun h => e h.symm
      have e2 : (a == k) = false := by simpa using e
      simp only [e, if_false, List.mem_cons, e', false_or, List.idxOf_cons, e2, cond_false]
      by_cases h : k ∈ o
      · simp only [h, if_true]; congr 2; omega
      · simp only [h, if_false]
theorem num_in (o : List Nm) : (fun k => (look (numFrom 0 o) k).isSome) = fun k => decide (k ∈ o) := funext fun k => by
  rw [look_num]; by_cases h : k ∈ o <;> simp [h]
theorem num_out (o : List Nm) : (fun k => !(look (numFrom 0 o) k).isSome) = fun k => decide (k ∉ o) := funext fun k => by
  rw [look_num]; by_cases h : k ∈ o <;> simp [h]
theorem canon_of {o ks l2 : List Nm} (ho : o.Nodup) (nd : ks.Nodup) (hp : l2.Perm (ks.filter fun k => (look (numFrom 0 o) k).isSome)) (hs : l2.Pairwise fun a b => (look (numFrom 0 o) a).getD 0 ≤ (look (numFrom 0 o) b).getD 0) :
    l2 ++ srt (ks.filter fun k => !(look (numFrom 0 o) k).isSome) = canon o ks := by
  rw [num_in] at hp
  unfold canon
  rw [num_out, head_unique ho nd hp (hs.imp_of_mem fun {a b} ha hb h => ?_)]
  have ia : a ∈ o := by have := hp.mem_iff.mp ha; simp at this; exact this.2
  have ib : b ∈ o := by have := hp.mem_iff.mp hb; simp at this; exact this.2
  rw [look_num, look_num, if_pos ia, if_pos ib] at h
  simpa [gIdx] using h
theorem filt_step {c : C} {i : Nat} {p : Nm × Int} (hp : c[i]? = some p) (P : Nm → Bool) : ((c.take (i + 1)).map (·.1)).filter P = ((c.take i).map (·.1)).filter P ++ [p.1].filter P := by
  rw [List.take_add_one, hp]; simp [List.map_append, List.filter_append]
theorem step_pos {c : C} {i : Nat} {k : Nm} {x : Int} {P : Nm → Bool} {zs : List Value} {t : Tok} (hp : c[i]? = some (k, x)) (hz : All2 NmIs zs (((c.take i).map (·.1)).filter P)) (h : P k = true) : All2 NmIs (zs ++ [.str (up k) t]) (((c.take (i + 1)).map (·.1)).filter P) := by
  rw [filt_step hp, List.filter_cons_of_pos h]; exact hz.snoc ⟨t, rfl⟩
theorem step_neg {c : C} {i : Nat} {k : Nm} {x : Int} {P : Nm → Bool} {zs : List Value} (hp : c[i]? = some (k, x)) (hz : All2 NmIs zs (((c.take i).map (·.1)).filter P)) (h : P k = false) : All2 NmIs zs (((c.take (i + 1)).map (·.1)).filter P) := by
  rw [filt_step hp, List.filter_cons_of_neg (by rw [h]; decide), List.filter_nil, List.append_nil]; exact hz
theorem filt_all {c : C} (P : Nm → Bool) : ((c.take c.length).map (·.1)).filter P = (c.map (·.1)).filter P := by rw [List.take_length]
local macro_rules | `(tactic| walk_at "exec Assign cons ListComp") => `(tactic| (refine unstop ?_))
local macro_rules | `(tactic| walk_at "eval Lambda") => `(tactic| (refine unstop ?_))
local macro_rules | `(tactic| walk_at "call builtin:sorted") => `(tactic| (refine unstop ?_))
local macro_rules | `(tactic| walk_at "binaryOp Add ref ref") => `(tactic| (refine unstop ?_))
local macro_rules | `(tactic| walk_at "SrcK") => `(tactic| (refine unstop ?_))
section
variable {w : World} {p : Program} {loose : List Str} {mean : ExcName → Option Value} {mg mb : Str → Option Value} {dp un : Nat} {gd : Option (List Code)} {cn : Str} {cs : Scope} {a L : Addr} {ccd : Value} {cl : List (Str × Addr)} {outer : List Env} {base : Heap} {s : Shared} {E : Value → Shared → Prop} {R : List (Addr × Obj)}
variable {x dx y dy v D : Addr} {es em : List DictEntry} {n nm : Nat} {c : C} {o : List Nm}
set_option pp.deepTerms false
set_option pp.maxSteps 3000
set_option pp.proofs false
theorem ck_tail {g' : Heap} {L' : Addr} {m₁ : Str → Option Value} {Q : Flow → Shared → Prop} {oc : Obj} {ps : Array Value}
   (Bl : Below (ktrTop dp un gd cn cs L a ccd cl outer) base (envX cn cs L a ccd cl :: outer) g') (F : Fr g' L' s.heap (fun z => if z = Str.ofString "keys" then some (.ref v) else m₁ z)) (X : (hd.heap_39 w.params).In g') (N : News g' L' s.heap ((D, plObj em nm) :: (L' + 1, oc) :: (32, tabObj ps) :: R)) (T : Top p loose mean mg mb g') (hk : cs.kind = .function)
   (hR1 : (v, keysObj x) ∈ R) (hR2 : (x, cdObj dx es n) ∈ R) (hC : CodeHd g' 34 32) (hT : TabSt (Str.ofString "canonsort_keys.<locals>.<lambda>") ⟨17, 28, 17, 54⟩ 32 ps R) (D32 : @Ne Nat D 32) (L32 : @Ne Nat (L' + 1) 32)
   (d1 : oc.data = .cell (some (.ref D))) (loD : (D == sysModules) = false)
   (hc : KV w up es c) (nk : NK c) (hm : KV w up em (numFrom 0 o)) (ho : o.Nodup) (hd : dp + 60 < recursionLimit) (hu : un + 500 < cLine)
   (ret : ∀ r kn ys ps' R1 h' m' tk', All2 NmIs ys (canon o (c.map (·.1))) → Hit (Str.ofString "canonsort_keys.<locals>.<lambda>") ⟨17, 28, 17, 54⟩ ps' R1 → (∀ p ∈ R, p ∈ R1) → Fr g' L' h' m' → News g' L' h' ((r, listOf ys.toArray kn) :: (32, tabObj ps') :: R1) → Q (.ret (.ref r)) { s with heap := h', toks := tk' }) :
   wpAny (model PySem.Challenge.rw_bf0001_01.row.prog w) ((ktrTop dp un gd cn cs L a ccd cl outer).deeper (ckEnv w L')) (execs (ckBody w) (ckEnv w L')) Q E s := by
  have nkm := NK.num ho
  generalize hcm : numFrom 0 o = cm at hm nkm
  unfold ckEnv
  conv in (ckBody w) => whnf
  conv in (occs := *) (ckScope w) => all_goals whnf
  revert X; k_fill; intro X
  k_steps
  unfold StopAt
  refine Assign_ListComp_K (F₀ := F) (by rfl) (by with_unfolding_all rfl) (by with_unfolding_all rfl) (by decide) (by rfl) (by decide) (by rfl) (by rfl) (by rfl) ?_
  k_steps
  unfold StopAt
  refine SrcK.view rfl F N (.tail _ (.tail _ (.tail _ hR1))) (.tail _ (.tail _ (.tail _ hR2))) rfl hc nk fun gg => ?_
  refine comp_indT (Inv := fun i zs news => news = (D, plObj em nm) :: (L' + 1, oc) :: (32, tabObj ps) :: R ∧ All2 NmIs zs (((c.take i).map (·.1)).filter fun k => (look cm k).isSome)) ?turn ?fin _ 0 [] _ (Nat.zero_add _) ⟨rfl, .nil⟩
  case turn =>
    rintro i zs news hi ⟨rfl, hz⟩ v1 I oI C oC D2 m2 h tk E' ⟨⟨pk, px⟩, t, hp, rfl⟩ hC hx F3 N3 off ne
    simp only [LCg.Off3] at off
    k_steps
    · rename_i tk9 a9
      refine LCg.CompEnd.intro (by assumption) (by assumption) ((D, plObj em nm) :: (L' + 1, oc) :: (32, tabObj ps) :: R) (by ktr_rel) ?off ?src ?r
      case off => exact off
      case src => exact .tail _ (.tail _ (.tail _ hR2))
      case r => exact ⟨rfl, step_pos hp hz a9⟩
    · rename_i tk9 a9
      refine LCg.CompEnd.intro (by assumption) (by assumption) ((D, plObj em nm) :: (L' + 1, oc) :: (32, tabObj ps) :: R) (by ktr_rel) ?off ?src ?r
      case off => exact off
      case src => exact .tail _ (.tail _ (.tail _ hR2))
      case r => exact ⟨rfl, step_neg hp hz a9⟩
  case fin =>
    rintro zs news ⟨rfl, hz⟩
    rw [filt_all] at hz
    k_steps
    unfold StopAt
    rename_i D1 h1 tk1 F1 N1 o1
    refine Assign_ListComp_K (F₀ := F1) (by rfl) (by with_unfolding_all rfl) (by with_unfolding_all rfl) (by decide) (by rfl) (by decide) (by rfl) (by rfl) (by rfl) ?_
    k_steps
    unfold StopAt
    refine SrcK.view rfl F1 N1 (.tail _ (.tail _ (.tail _ (.tail _ hR1)))) (.tail _ (.tail _ (.tail _ (.tail _ hR2)))) rfl hc nk fun gg2 => ?_
    refine comp_indT (Inv := fun i zt news => news = (D1, LCg.lst zs) :: (D, plObj em nm) :: (L' + 1, oc) :: (32, tabObj ps) :: R ∧ All2 NmIs zt (((c.take i).map (·.1)).filter fun k => !(look cm k).isSome)) ?turn2 ?fin2 _ 0 [] _ (Nat.zero_add _) ⟨rfl, .nil⟩
    case turn2 =>
      rintro i zt news hi ⟨rfl, hzt⟩ v1 I oI C oC D2 m2 h tk E' ⟨⟨pk, px⟩, t, hp, rfl⟩ hC hx F3 N3 off ne
      simp only [LCg.Off3] at off
      k_steps
      · rename_i tk9 a9
        refine LCg.CompEnd.intro (by assumption) (by assumption) ((D1, LCg.lst zs) :: (D, plObj em nm) :: (L' + 1, oc) :: (32, tabObj ps) :: R) (by ktr_rel) ?off ?src ?r
        case off => exact off
        case src => exact .tail _ (.tail _ (.tail _ (.tail _ hR2)))
        case r => exact ⟨rfl, step_neg hp hzt (congrArg Bool.not a9)⟩
      · rename_i tk9 a9
        refine LCg.CompEnd.intro (by assumption) (by assumption) ((D1, LCg.lst zs) :: (D, plObj em nm) :: (L' + 1, oc) :: (32, tabObj ps) :: R) (by ktr_rel) ?off ?src ?r
        case off => exact off
        case src => exact .tail _ (.tail _ (.tail _ (.tail _ hR2)))
        case r => exact ⟨rfl, step_pos hp hzt (congrArg Bool.not a9)⟩
    case fin2 =>
      rintro zt news ⟨rfl, hzt⟩
      rw [filt_all] at hzt
      k_steps
      unfold StopAt
      rename_i D2 h2 tk2 F2 N2 o2
      refine lam_eval (P := 32) (R := (D2, LCg.lst zt) :: (D1, LCg.lst zs) :: (D, plObj em nm) :: (L' + 1, oc) :: R) (qual := Str.ofString "canonsort_keys.<locals>.<lambda>") rfl rfl F2 (N2.perm (by ktr_rel)) (by assumption) (by assumption) rfl ?st rfl ?_
      case st =>
        refine hT.grow (fun p hp => .tail _ (.tail _ (.tail _ (.tail _ hp)))) fun o => List.forall_mem_cons.mpr ⟨Ne.symm o2.2.2.2.1, List.forall_mem_cons.mpr ⟨Ne.symm o1.2.2.1, List.forall_mem_cons.mpr ⟨D32, List.forall_mem_cons.mpr ⟨L32, o⟩⟩⟩⟩
      intro f c' oc1 vs t ctv h3 tk3 R' F3 N3 hoc hsub hd1 hv1
      generalize hko : kla_obj _ _ _ _ _ _ _ _ _ = ko at N3
      have m1 : (D1, LCg.lst zs) ∈ R' := hsub _ (.tail _ (.head _))
      have m2 : (D2, LCg.lst zt) ∈ R' := hsub _ (.head _)
      have m3 : (D, plObj em nm) ∈ R' := hsub _ (.tail _ (.tail _ (.head _)))
      have m4 : (L' + 1, oc) ∈ R' := hsub _ (.tail _ (.tail _ (.tail _ (.head _))))
      have hsubR : ∀ p ∈ R, p ∈ R' := fun p hp => hsub _ (.tail _ (.tail _ (.tail _ (.tail _ hp))))
      have lenF : ∀ P : Nm → Bool, ((c.map (·.1)).filter P).length ≤ 7 := fun P => Nat.le_trans (List.length_filter_le _ _) (by rw [List.length_map]; exact nk.len)
      k_steps
      unfold StopAt
      show wpAny _ _ (call (.builtin "sorted") [.ref D1] [(Str.ofString "key", .ref f)]) _ _ _
      refine so_keyed (g := fun k => (look cm k).getD 0) F3 N3 (.tail _ (.tail _ m1)) hz (Nat.lt_of_le_of_lt (lenF _) (by decide)) (ksk_s1 _ _) (fun x => ksk_l1 _ _) (fun x => ksk_t1 _ _) ?turn3 ?done3
      case turn3 =>
        intro k t3 hk3 h4 tk4 own F4 N4
        obtain ⟨y, hy⟩ : ∃ y, look cm k = some y := Option.isSome_iff_exists.mp (by simpa using (List.mem_filter.mp hk3).2)
        generalize hG : (_ :: _ :: R') ++ own = G at N4 ⊢
        have mf : (f, ko) ∈ G := by rw [← hG]; exact .head _
        have n3 : (D, plObj em nm) ∈ G := by rw [← hG]; exact List.mem_append_left _ (.tail _ (.tail _ m3))
        have n4 : (L' + 1, oc) ∈ G := by rw [← hG]; exact List.mem_append_left _ (.tail _ (.tail _ m4))
        have n5 : (c', oc1) ∈ G := by rw [← hG]; exact List.mem_append_left _ (.tail _ (.tail _ hoc))
        clear hG N3 F3 N2 F2 N1 F1 N F
        subst hko
        refine wpAny_call ?_
        k_dflt kla_enter
        k_steps
        rename News _ _ _ G => N5
        refine pd_get N5 n3 up_inj hm nkm hy fun u5 tk5 => ?_
        k_steps
        rw [hy, Option.getD_some]
        exact KskEnd.intro (by assumption) (by assumption) fun p hp => hp
      case done3 =>
        intro r3 kn3 ys3 l3 h4 tk4 hy3 hp3 hs3 lt3 F4 N4
        k_steps
        unfold StopAt
        have nd2 : ((c.map (·.1)).filter fun k => !(look cm k).isSome).Nodup := List.Pairwise.filter _ nk
        refine so_list F4 N4 (.tail _ (.tail _ (.tail _ m2))) hzt nd2 (Nat.lt_of_le_of_lt (lenF _) (by decide)) fun r4 kn4 ys4 h5 hy4 lt4 F5 N5 => ?_
        k_steps
        unfold StopAt
        refine add_names F5 N5 (.tail _ (.head _)) (.head _) hy3 hy4 ?len fun r5 kn5 ys5 h6 hy5 lt5 F6 N6 => ?_
        case len =>
          rw [hp3.length_eq]
          have h1 := lenF fun k => (look cm k).isSome
          have h2 : (srt ((c.map (·.1)).filter fun k => !(look cm k).isSome)).length ≤ 7 := List.length_filter_le _ allN
          omega
        k_steps
        refine ret r5 kn5 ys5 _ R' h6 _ _ (by subst hcm; rw [← canon_of ho nk hp3 hs3]; exact hy5) ⟨c', oc1, vs, t, rfl, hoc, hd1, hv1⟩ hsubR F6 (N6.perm (by ktr_rel))
end

/-! ## canonsort_keys -/
inductive OrdIn (R : List (Addr × Obj)) : Value → List Nm → Prop
  | none : OrdIn R .none []
  | list {q : Addr} {ys : List Value} {kn : Nat} {o : List Nm} : (q, listOf ys.toArray kn) ∈ R → All2 NmIs ys o → OrdIn R (.ref q) o
theorem nm_num {ys : List Value} {o : List Nm} (h : All2 NmIs ys o) : ∀ i, All2 NameIs ys (numFrom i o) := by
  induction h with
  | nil => intro i; exact .nil
  | cons h _ ih => intro i; exact .cons h (ih (i + 1))
theorem fr1 {h₀ h : Heap} {L : Addr} {m : Str → Option Value} {b : Value} (F : Fr h₀ L h m) (h1 : m (Str.ofString "keys") = some b) :
    Fr h₀ L h (fun z => if z = Str.ofString "keys" then some b else m z) := Fr.eqv F fun y => by
  by_cases q1 : y = Str.ofString "keys"
  · rw [if_pos q1, q1, h1]
  · rw [if_neg q1]
local macro_rules | `(tactic| walk_at "execs cons") => `(tactic| (k_here; (with_reducible show wpAny _ _ (execs (Stmt.Assign [PySem.Expr.Name (Str.ofString "head") _] _ _ :: _) _) _ _ _); refine unstop ?_))
section
variable {w : World} {p : Program} {loose : List Str} {mean : ExcName → Option Value} {mg mb : Str → Option Value} {dp un : Nat} {gd : Option (List Code)} {cn : Str} {cs : Scope} {a L : Addr} {ccd : Value} {cl : List (Str × Addr)} {outer : List Env} {A₀ : Around} {base h₀ : Heap} {m : Str → Option Value} {s : Shared} {Q E : Value → Shared → Prop} {R : List (Addr × Obj)}
variable {x dx y dy v : Addr} {es ez : List DictEntry} {n nz : Nat} {c e : C} {o : List Nm} {ps : Array Value} {ov : Value}
set_option pp.deepTerms false
set_option pp.maxSteps 3000
set_option pp.proofs false
theorem ck_none
   (Bl : Below A₀ base outer h₀) (F : Fr h₀ L s.heap m) (X : (hd.heap_39 w.params).In h₀) (N : News h₀ L s.heap ((32, tabObj ps) :: R)) (T : Top p loose mean mg mb h₀) (hk : cs.kind = .function)
   (hR1 : (v, keysObj x) ∈ R) (hR2 : (x, cdObj dx es n) ∈ R) (hC : CodeHd base 34 32) (hT : TabSt (Str.ofString "canonsort_keys.<locals>.<lambda>") ⟨17, 28, 17, 54⟩ 32 ps R)
   (hc : KV w up es c) (nk : NK c) (hd : dp + 80 < recursionLimit) (hu : un + 700 < cLine)
   (ret : ∀ r kn ys ps' R1 h' tk', All2 NmIs ys (canon [] (c.map (·.1))) → Hit (Str.ofString "canonsort_keys.<locals>.<lambda>") ⟨17, 28, 17, 54⟩ ps' R1 → (∀ p ∈ R, p ∈ R1) → Fr h₀ L h' m → News h₀ L h' ((r, listOf ys.toArray kn) :: (32, tabObj ps') :: R1) → Q (.ref r) { s with heap := h', toks := tk' }) :
   wpAny (model PySem.Challenge.rw_bf0001_01.row.prog w) (ktrTop dp un gd cn cs L a ccd cl outer) (call (.ref 35) [.ref v, .none]) Q E s := by
  revert X; k_fill; intro X
  refine wpAny_call ?_
  k_dflt ktr_enter
  k_steps
  rename_i l0 o1 d1 lE h1 F1 N1 l1 D es1 n1 h2 tk2 kv1 lo1 F2 N2 l2
  have r1 : ∀ p ∈ R, p.1 ≠ _ + 1 := fun p hp => Nat.ne_of_lt (Nat.lt_succ_of_lt (lt_of_all l0.2 p hp))
  k_steps
  unfold StopAt
  rename_i h3 o3 F3 N3 d3
  refine ck_tail (D := D) (o := []) (R := (lE, _) :: R) (L' := _) (by assumption) (fr1 F3 rfl) (by assumption) (N3.perm (by ktr_rel)) (by assumption) hk (.tail _ hR1) (.tail _ hR2) ?cc (hT.grow (fun p hp => .tail _ hp) fun o => List.forall_mem_cons.mpr ⟨?e1, o⟩) ?e2 ?e3 d3 lo1 hc nk kv1 .nil (by ktr_room) (by ktr_units) ?_
  case cc => exact CodeHd.keeps (by assumption) (Below.stays (by assumption))
  case e1 => exact neN (by omega)
  case e2 => exact neN (by omega)
  case e3 => exact neN (by omega)
  intro r kn ys ps' R1 h' m' tk' hy hH hs F9 N9
  k_steps
  exact ret r kn ys ps' R1 _ _ hy hH (fun p hp => hs p (.tail _ hp)) (by assumption) (by assumption)
local macro_rules | `(tactic| walk_at "truthy ref") => `(tactic| (refine unstop ?_))
theorem ck_list {q : Addr} {ys : List Value} {kn : Nat}
   (Bl : Below A₀ base outer h₀) (F : Fr h₀ L s.heap m) (X : (hd.heap_39 w.params).In h₀) (N : News h₀ L s.heap ((32, tabObj ps) :: R)) (T : Top p loose mean mg mb h₀) (hk : cs.kind = .function)
   (hR1 : (v, keysObj x) ∈ R) (hR2 : (x, cdObj dx es n) ∈ R) (hC : CodeHd base 34 32) (hT : TabSt (Str.ofString "canonsort_keys.<locals>.<lambda>") ⟨17, 28, 17, 54⟩ 32 ps R)
   (hq : (q, listOf ys.toArray kn) ∈ R) (hy : All2 NmIs ys o) (ho : o.Nodup) (hne : o ≠ [])
   (hc : KV w up es c) (nk : NK c) (hd : dp + 80 < recursionLimit) (hu : un + 700 < cLine)
   (ret : ∀ r kn ys ps' R1 h' tk', All2 NmIs ys (canon o (c.map (·.1))) → Hit (Str.ofString "canonsort_keys.<locals>.<lambda>") ⟨17, 28, 17, 54⟩ ps' R1 → (∀ p ∈ R, p ∈ R1) → Fr h₀ L h' m → News h₀ L h' ((r, listOf ys.toArray kn) :: (32, tabObj ps') :: R1) → Q (.ref r) { s with heap := h', toks := tk' }) :
   wpAny (model PySem.Challenge.rw_bf0001_01.row.prog w) (ktrTop dp un gd cn cs L a ccd cl outer) (call (.ref 35) [.ref v, .ref q]) Q E s := by
  have hz := nm_num hy 0
  have num := NumIs.num o
  have nkn := NK.num ho
  obtain ⟨y0, ys0, rfl⟩ : ∃ y0 ys0, ys = y0 :: ys0 := by
    cases hy with
    | nil => exact absurd rfl hne
    | cons _ _ => exact ⟨_, _, rfl⟩
  revert X; k_fill; intro X
  refine wpAny_call ?_
  k_dflt ktr_enter
  k_steps
  unfold StopAt
  rename (32 < _ ∧ _) => x1
  rename Fr _ _ _ _ => F1
  rename News _ _ _ _ => N1
  refine kgr_truthy N1 (.tail _ (.tail _ hq)) rfl rfl (by have := hy.length; have := nkn.len; rw [← List.length_map (f := (·.1)), num_keys] at this; rw [hy.length]; exact Nat.lt_of_le_of_lt this (by decide)) ?_
  rw [if_pos (show (!(y0 :: ys0).isEmpty) = true from rfl)]
  k_steps
  refine k_enum (Top.nolimit (by assumption)) F1 N1 (.tail _ (.tail _ hq)) hz num nkn fun D es1 n1 h2 tk2 kv1 lo1 l1 F2 N2 => ?_
  have r1 : ∀ p ∈ R, p.1 ≠ _ + 1 := fun p hp => Nat.ne_of_lt (Nat.lt_succ_of_lt (lt_of_all x1.2 p hp))
  k_lt l1
  k_steps
  unfold StopAt
  rename_i h3 o3 F3 N3 d3
  refine ck_tail (D := D) (o := o) (R := R) (L' := _) (by assumption) (fr1 F3 rfl) (by assumption) (N3.perm (by ktr_rel)) (by assumption) hk hR1 hR2 ?cc hT ?e2 ?e3 d3 lo1 hc nk kv1 ho (by ktr_room) (by ktr_units) ?_
  case cc => exact CodeHd.keeps (by assumption) (Below.stays (by assumption))
  case e2 => exact neN (by omega)
  case e3 => exact neN (by omega)
  intro r kn ys ps' R1 h' m' tk' hy hH hs F9 N9
  k_steps
  exact ret r kn ys ps' R1 _ _ hy hH hs (by assumption) (by assumption)
end

local macro_rules | `(tactic| walk_at "truthy ref") => `(tactic| (refine unstop ?_))
/-! ## canonsort_keys: an empty order; the three shapes as one -/
section
variable {w : World} {p : Program} {loose : List Str} {mean : ExcName → Option Value} {mg mb : Str → Option Value} {dp un : Nat} {gd : Option (List Code)} {cn : Str} {cs : Scope} {a L : Addr} {ccd : Value} {cl : List (Str × Addr)} {outer : List Env} {A₀ : Around} {base h₀ : Heap} {m : Str → Option Value} {s : Shared} {Q E : Value → Shared → Prop} {R : List (Addr × Obj)}
variable {x dx y dy v : Addr} {es ez : List DictEntry} {n nz : Nat} {c e : C} {o : List Nm} {ps : Array Value} {ov : Value}
set_option pp.deepTerms false
set_option pp.maxSteps 3000
set_option pp.proofs false
theorem ck_empty {q : Addr} {kn : Nat}
   (Bl : Below A₀ base outer h₀) (F : Fr h₀ L s.heap m) (X : (hd.heap_39 w.params).In h₀) (N : News h₀ L s.heap ((32, tabObj ps) :: R)) (T : Top p loose mean mg mb h₀) (hk : cs.kind = .function)
   (hR1 : (v, keysObj x) ∈ R) (hR2 : (x, cdObj dx es n) ∈ R) (hC : CodeHd base 34 32) (hT : TabSt (Str.ofString "canonsort_keys.<locals>.<lambda>") ⟨17, 28, 17, 54⟩ 32 ps R)
   (hq : (q, listOf (List.toArray []) kn) ∈ R)
   (hc : KV w up es c) (nk : NK c) (hd : dp + 80 < recursionLimit) (hu : un + 700 < cLine)
   (ret : ∀ r kn ys ps' R1 h' tk', All2 NmIs ys (canon [] (c.map (·.1))) → Hit (Str.ofString "canonsort_keys.<locals>.<lambda>") ⟨17, 28, 17, 54⟩ ps' R1 → (∀ p ∈ R, p ∈ R1) → Fr h₀ L h' m → News h₀ L h' ((r, listOf ys.toArray kn) :: (32, tabObj ps') :: R1) → Q (.ref r) { s with heap := h', toks := tk' }) :
   wpAny (model PySem.Challenge.rw_bf0001_01.row.prog w) (ktrTop dp un gd cn cs L a ccd cl outer) (call (.ref 35) [.ref v, .ref q]) Q E s := by
  revert X; k_fill; intro X
  refine wpAny_call ?_
  k_dflt ktr_enter
  k_steps
  unfold StopAt
  rename (32 < _ ∧ _) => l0
  rename Fr _ _ _ _ => F0
  rename News _ _ _ _ => N0
  refine kgr_truthy N0 (.tail _ (.tail _ hq)) rfl rfl (by decide) ?_
  rw [if_neg (show ¬ (!([] : List Value).isEmpty) = true by decide)]
  k_steps
  rename_i o1 d1 lE h1 F1 N1 l1 D es1 n1 h2 tk2 kv1 lo1 F2 N2 l2
  have r1 : ∀ p ∈ R, p.1 ≠ _ + 1 := fun p hp => Nat.ne_of_lt (Nat.lt_succ_of_lt (lt_of_all l0.2 p hp))
  k_steps
  unfold StopAt
  rename_i h3 o3 F3 N3 d3
  refine ck_tail (D := D) (o := []) (R := (lE, _) :: R) (L' := _) (by assumption) (fr1 F3 rfl) (by assumption) (N3.perm (by ktr_rel)) (by assumption) hk (.tail _ hR1) (.tail _ hR2) ?cc (hT.grow (fun p hp => .tail _ hp) fun o => List.forall_mem_cons.mpr ⟨?e1, o⟩) ?e2 ?e3 d3 lo1 hc nk kv1 .nil (by ktr_room) (by ktr_units) ?_
  case cc => exact CodeHd.keeps (by assumption) (Below.stays (by assumption))
  case e1 => exact neN (by omega)
  case e2 => exact neN (by omega)
  case e3 => exact neN (by omega)
  intro r kn ys ps' R1 h' m' tk' hy hH hs F9 N9
  k_steps
  exact ret r kn ys ps' R1 _ _ hy hH (fun p hp => hs p (.tail _ hp)) (by assumption) (by assumption)
theorem ck_spec
   (Bl : Below A₀ base outer h₀) (F : Fr h₀ L s.heap m) (X : (hd.heap_39 w.params).In h₀) (N : News h₀ L s.heap ((32, tabObj ps) :: R)) (T : Top p loose mean mg mb h₀) (hk : cs.kind = .function)
   (hR1 : (v, keysObj x) ∈ R) (hR2 : (x, cdObj dx es n) ∈ R) (hC : CodeHd base 34 32) (hT : TabSt (Str.ofString "canonsort_keys.<locals>.<lambda>") ⟨17, 28, 17, 54⟩ 32 ps R)
   (hO : OrdIn R ov o) (ho : o.Nodup) (hc : KV w up es c) (nk : NK c) (hd : dp + 80 < recursionLimit) (hu : un + 700 < cLine)
   (ret : ∀ r kn ys ps' R1 h' tk', All2 NmIs ys (canon o (c.map (·.1))) → Hit (Str.ofString "canonsort_keys.<locals>.<lambda>") ⟨17, 28, 17, 54⟩ ps' R1 → (∀ p ∈ R, p ∈ R1) → Fr h₀ L h' m → News h₀ L h' ((r, listOf ys.toArray kn) :: (32, tabObj ps') :: R1) → Q (.ref r) { s with heap := h', toks := tk' }) :
   wpAny (model PySem.Challenge.rw_bf0001_01.row.prog w) (ktrTop dp un gd cn cs L a ccd cl outer) (call (.ref 35) [.ref v, ov]) Q E s := by
  cases hO with
  | none => exact ck_none Bl F X N T hk hR1 hR2 hC hT hc nk hd hu ret
  | list hq hy =>
    cases hy with
    | nil => exact ck_empty Bl F X N T hk hR1 hR2 hC hT hq hc nk hd hu ret
    | cons h r => exact ck_list Bl F X N T hk hR1 hR2 hC hT hq (.cons h r) ho (by simp) hc nk hd hu ret
end

/-! ## canonsort_items -/
theorem fi_get {w : World} : fnIn (hd.heap_39 w.params) 65 = true := by kernel_rfl
theorem fn_get {w : World} : isFn (hd.heap_39 w.params) (.ref 65) = true := beq_iff_eq.mpr (ct_fn2 _ (by simp))
theorem keyV_up (k : Nm) (t : Tok) : KeyV (.str (up k) t) k := .s k 0 t
theorem news_filt {h₀ h : Heap} {L x : Addr} {o : Obj} {news : List (Addr × Obj)} {h₁ : Heap} (N : News h₀ L h₁ news) (hx : (x, o) ∈ news) (N' : ∀ p ∈ news, p.1 ≠ x → (h.get? p.1 = some p.2)) (hx' : h.get? x = some o) : News h₀ L h news := fun p hp => by
  by_cases e : p.1 = x
  · have h1 := (N p hp).1
    have h2 := (N _ hx).1
    rw [e] at h1
    have h3 : p.2 = o := Option.some.inj (h1.symm.trans h2)
    refine ⟨?_, (N p hp).2⟩
    rw [e, h3]; exact hx'
  · exact ⟨N' p hp e, (N p hp).2⟩
section
variable {w : World} {p : Program} {loose : List Str} {mean : ExcName → Option Value} {mg mb : Str → Option Value} {dp un : Nat} {gd : Option (List Code)} {cn : Str} {cs : Scope} {a L : Addr} {ccd : Value} {cl : List (Str × Addr)} {outer : List Env} {A₀ : Around} {base h₀ : Heap} {m : Str → Option Value} {s : Shared} {Q E : Value → Shared → Prop} {news R : List (Addr × Obj)}
variable {x dx y dy v : Addr} {es ez : List DictEntry} {n nz : Nat} {c e : C} {o : List Nm} {ps : Array Value} {ov : Value}
theorem getitem_mem {k : Nm} {kv : Value} {z : Int}
   (Bl : Below A₀ base outer h₀) (F : Fr h₀ L s.heap m) (X : (hd.heap_39 w.params).In h₀) (N : News h₀ L s.heap news) (T : Top p loose mean mg mb h₀) (hk : cs.kind = .function)
   (h1 : (x, cdObj dx es n) ∈ news) (h2 : (dx, plObj [] 0) ∈ news) (hne : dx ≠ x) (hv : KeyV kv k) (hc : KV w up es c) (nk : NK c) (hl : look c k = some z) (hd : dp + 40 < recursionLimit) (hu : un + 400 < cLine)
   (ret : ∀ u tk' h', Fr h₀ L h' m → News h₀ L h' news → Q (.int z u) { s with heap := h', toks := tk' }) :
   wpAny (model PySem.Challenge.rw_bf0001_01.row.prog w) (ktrTop dp un gd cn cs L a ccd cl outer) (call (.ref 65) [.ref x, kv]) Q E s := by
  have N1 : News h₀ L s.heap ((x, cdObj dx es n) :: (dx, plObj [] 0) :: news.filter fun p => decide (p.1 ≠ x)) := fun p hp => by
    rcases List.mem_cons.mp hp with rfl | hp
    · exact N _ h1
    · rcases List.mem_cons.mp hp with rfl | hp
      · exact N _ h2
      · exact N _ (List.mem_filter.mp hp).1
  refine getitem_spec Bl F X N1 T hk (fun p hp => ?_) hv hc nk hl hd hu fun u tk' h' F' N' => ret u tk' h' F' (news_filt N h1 (fun p hp e => (N' p (.tail _ (.tail _ (List.mem_filter.mpr ⟨hp, decide_eq_true e⟩)))).1) (N' _ (.head _)).1)
  rcases List.mem_cons.mp hp with rfl | hp
  · exact hne
  · simpa using (List.mem_filter.mp hp).2
theorem cd_sub {k : Nm} {t : Tok} {z : Int} {value slice : PySem.Expr}
   (Bl : Below A₀ base outer h₀) (F : Fr h₀ L s.heap m) (X : (hd.heap_39 w.params).In h₀) (N : News h₀ L s.heap news) (T : Top p loose mean mg mb h₀) (hk : cs.kind = .function)
   (h1 : (x, cdObj dx es n) ∈ news) (h2 : (dx, plObj [] 0) ∈ news) (hne : dx ≠ x) (hc : KV w up es c) (nk : NK c) (hl : look c k = some z) (hd : dp + 40 < recursionLimit) (hu : un + 401 < cLine)
   (ret : ∀ u tk' h', Fr h₀ L h' m → News h₀ L h' news → Q (.int z u) { s with heap := h', toks := tk' })
   (hs : subscripted slice true (.ref x) (.str (up k) t) = runValue (.builtin "lifetime.subscript" ⟨[.ref x, .str (up k) t], []⟩) := by with_unfolding_all rfl) :
   wpAny (model PySem.Challenge.rw_bf0001_01.row.prog w) (ktrTop dp un gd cn cs L a ccd cl outer) (subscriptTail value slice (.ref x) (.str (up k) t)) Q E s :=
  sub_K F X (cd_inst N h1 h2) cf_getitem fi_get fn_get (getitem_mem (un := un + 1) Bl F X N T hk h1 h2 hne (keyV_up k t) hc nk hl hd (by omega) ret) hs
end

/-! ## canonsort_items: the walk -/
theorem Hit.more {qual : Str} {pos : Pos} {ps : Array Value} {R R' : List (Addr × Obj)} (h : Hit qual pos ps R) (hs : ∀ p ∈ R, p ∈ R') : Hit qual pos ps R' := by
  obtain ⟨c', oc, vs, t, e, hm, hd, hv⟩ := h
  exact ⟨c', oc, vs, t, e, hs _ hm, hd, hv⟩
theorem canon_mem {o ks : List Nm} {k : Nm} (h : k ∈ canon o ks) : k ∈ ks := by
  unfold canon at h
  rcases List.mem_append.mp h with h | h
  · simpa using (List.mem_filter.mp h).2
  · unfold srt at h
    have := (List.mem_filter.mp h).2
    simp at this
    exact this.1
theorem look_in {c : C} {k : Nm} (h : k ∈ c.map (·.1)) : ∃ z, look c k = some z := Option.isSome_iff_exists.mp (by rw [look_some_iff]; exact decide_eq_true h)
theorem canon_len (o ks : List Nm) (ho : o.Nodup) : (canon o ks).length ≤ 14 := by
  unfold canon
  rw [List.length_append]
  have h1 : (o.filter fun k => decide (k ∈ ks)).length ≤ 7 := by
    have nk := NK.num ho
    have h := nk.len
    rw [← List.length_map (f := (·.1)), num_keys] at h
    exact Nat.le_trans (List.length_filter_le _ _) h
  have h2 : (srt (ks.filter fun k => decide (k ∉ o))).length ≤ 7 := List.length_filter_le _ allN
  omega
def canonC (o : List Nm) (c : C) : C := (canon o (c.map (·.1))).map fun k => (k, (look c k).getD 0)
local macro_rules | `(tactic| walk_at "call ref") => `(tactic| (k_here; (first | (with_reducible show wpAny _ _ (call (Value.ref 35) _ _) _ _ _) | (with_reducible show wpAny _ _ (call (Value.ref 41) _ _) _ _ _) | (with_reducible show wpAny _ _ (call (Value.ref 159) _ _) _ _ _) | (with_reducible show wpAny _ _ (call (Value.ref 166) _ _) _ _ _)); refine unstop ?_))
local macro_rules | `(tactic| walk_at "eval ListComp") => `(tactic| (refine unstop ?_))
local macro_rules | `(tactic| walk_at "subscriptTail Name") => `(tactic| (k_here; (with_reducible show wpAny _ _ (subscriptTail _ _ (Value.ref _) (Value.str _ _)) _ _ _); refine unstop ?_))
section
variable {w : World} {p : Program} {loose : List Str} {mean : ExcName → Option Value} {mg mb : Str → Option Value} {dp un : Nat} {gd : Option (List Code)} {cn : Str} {cs : Scope} {a L : Addr} {ccd : Value} {cl : List (Str × Addr)} {outer : List Env} {A₀ : Around} {base h₀ : Heap} {m : Str → Option Value} {s : Shared} {Q E : Value → Shared → Prop} {news R : List (Addr × Obj)}
variable {x dx y dy v : Addr} {es ez : List DictEntry} {n nz : Nat} {c e : C} {o : List Nm} {ps : Array Value} {ov : Value}
set_option pp.deepTerms false
set_option pp.maxSteps 3000
set_option pp.proofs false
theorem ci_spec
   (Bl : Below A₀ base outer h₀) (F : Fr h₀ L s.heap m) (X : (hd.heap_39 w.params).In h₀) (N : News h₀ L s.heap ((x, cdObj dx es n) :: (dx, plObj [] 0) :: (32, tabObj ps) :: R)) (T : Top p loose mean mg mb h₀) (hk : cs.kind = .function)
   (dxx : @Ne Nat dx x) (lox : (x == sysModules) = false) (x32 : @Ne Nat x 32) (dx32 : @Ne Nat dx 32) (hC : CodeHd base 34 32) (hT : TabSt (Str.ofString "canonsort_keys.<locals>.<lambda>") ⟨17, 28, 17, 54⟩ 32 ps R)
   (hO : OrdIn R ov o) (ho : o.Nodup) (hc : KV w up es c) (nk : NK c) (hd : dp + 120 < recursionLimit) (hu : un + 900 < cLine)
   (ret : ∀ r kn ys ps' own R1 h' tk', All2 (PairAt up own) ys (canonC o c) → Hit (Str.ofString "canonsort_keys.<locals>.<lambda>") ⟨17, 28, 17, 54⟩ ps' R1 → (∀ p ∈ R, p ∈ R1) → Fr h₀ L h' m → News h₀ L h' ((r, listOf ys.toArray kn) :: (x, cdObj dx es n) :: (dx, plObj [] 0) :: (32, tabObj ps') :: (own ++ R1)) → Q (.ref r) { s with heap := h', toks := tk' }) :
   wpAny (model PySem.Challenge.rw_bf0001_01.row.prog w) (ktrTop dp un gd cn cs L a ccd cl outer) (call (.ref 41) [.ref x, ov]) Q E s := by
  revert X; k_fill; intro X
  refine wpAny_call ?_
  k_dflt ktr_enter
  k_steps
  unfold StopAt
  rename (x < _ ∧ _) => l0
  rename Fr _ _ _ _ => F1
  refine LCg.ListComp_U (F₀ := F1) (by with_unfolding_all rfl) (by decide) (by rfl) (by decide) (by rfl) ?_
  k_steps
  unfold StopAt
  rename_i g1 L1 h1 tk1 FG B1 X1 T1 oc d1 N1 v h2 F2 N2 l2
  replace d1 : oc.data = .cell (some (.ref x)) := d1
  have x32' : ∀ {P : List (Addr × Obj)}, (∀ p ∈ P, p.1 ≠ 32) → ∀ p ∈ (v, keysObj x) :: (L1 + 1, oc) :: (x, cdObj dx es n) :: (dx, plObj [] 0) :: P, p.1 ≠ 32 := fun h => List.forall_mem_cons.mpr ⟨neN (by omega), List.forall_mem_cons.mpr ⟨neN (by omega), List.forall_mem_cons.mpr ⟨x32, List.forall_mem_cons.mpr ⟨dx32, h⟩⟩⟩⟩
  refine ck_spec (R := (v, keysObj x) :: (L1 + 1, oc) :: (x, cdObj dx es n) :: (dx, plObj [] 0) :: R) B1 F2 X1 (N2.perm (by ktr_rel)) T1 rfl (.head _) (.tail _ (.tail _ (.head _))) hC (hT.grow (fun p hp => .tail _ (.tail _ (.tail _ (.tail _ hp)))) x32') ?oi ho hc nk (by ktr_room) (by ktr_units) ?_
  case oi =>
    cases hO with
    | none => exact .none
    | list hq hy => exact .list (.tail _ (.tail _ (.tail _ (.tail _ hq)))) hy
  intro r kn ys ps' R1 h5 tk5 hy hH hs F5 N5
  have m1 := hs _ (.head _)
  have m2 := hs _ (.tail _ (.head _))
  have m3 := hs _ (.tail _ (.tail _ (.head _)))
  have m4 := hs _ (.tail _ (.tail _ (.tail _ (.head _))))
  have hsR : ∀ p ∈ R, p ∈ R1 := fun p hp => hs p (.tail _ (.tail _ (.tail _ (.tail _ hp))))
  have hlen : ys.length ≤ 14 := by rw [hy.length]; exact canon_len _ _ ho
  replace N5 := N5.perm (news' := (r, listOf ys.toArray kn) :: (x, cdObj dx es n) :: (dx, plObj [] 0) :: (32, tabObj ps') :: (L1 + 1, oc) :: R1) (by
    intro p hp
    simp only [List.mem_cons] at hp ⊢
    rcases hp with rfl | rfl | rfl | rfl | rfl | hp
    · exact .inl rfl
    · exact .inr (.inr m3)
    · exact .inr (.inr m4)
    · exact .inr (.inl rfl)
    · exact .inr (.inr m2)
    · exact .inr (.inr hp))
  refine LCg.CompSrc.ledger rfl F5 N5 (.head _) (by rw [List.size_toArray]; exact Nat.le_trans hlen (by decide)) fun gg => ?_
  rw [List.size_toArray]
  refine comp_ind (Inv := fun i zs news => ∃ own, news = (r, listOf ys.toArray kn) :: (x, cdObj dx es n) :: (dx, plObj [] 0) :: (32, tabObj ps') :: (L1 + 1, oc) :: (own ++ R1) ∧ All2 (PairAt up own) zs ((canonC o c).take i)) ?turn ?fin _ 0 [] _ (Nat.zero_add _) ⟨[], rfl, .nil⟩
  case turn =>
    rintro i zs news hi ⟨own, rfl, hz⟩ v9 I oI C oC D m2 h tk E' hv hC9 hx9 F4 N4 off ne
    obtain ⟨k, hp, t, rfl⟩ := All2.get hy i v9 (by simpa using hv)
    obtain ⟨z, hz9⟩ := look_in (canon_mem (List.mem_of_getElem? hp))
    generalize hG : own ++ R1 = R3 at *
    simp only [LCg.Off3] at off
    clear N5 F5 N2 F2 N1 F1 N F
    k_steps
    unfold StopAt
    have dd : @Ne Nat dx x := dxx
    refine cd_sub (dx := dx) (es := es) (n := n) (by assumption) F4 (by assumption) N4 (by assumption) rfl (.tail _ (.tail _ (.tail _ (.tail _ (.head _))))) (.tail _ (.tail _ (.tail _ (.tail _ (.tail _ (.head _)))))) dd hc nk hz9 (by ktr_room) (by ktr_units) fun u9 tk9 h9 F9 N9 => ?_
    clear F4 N4
    k_steps
    rename (I < _ ∧ _) => l9
    refine LCg.CompEnd.intro (by assumption) (by assumption) ((r, listOf ys.toArray kn) :: (x, cdObj dx es n) :: (dx, plObj [] 0) :: (32, tabObj ps') :: (L1 + 1, oc) :: (_, tupleOf #[.str (up k) t, .int z u9] 0) :: R3) (by ktr_rel) ?off ?src ?r
    case off => exact ⟨off.1, off.2.1, off.2.2.1, off.2.2.2.1, off.2.2.2.2.1, ⟨Nat.ne_of_gt l9.1, Nat.ne_of_gt l9.2.1, Nat.ne_of_gt l9.2.2.1⟩, off.2.2.2.2.2⟩
    case src => exact .inr ⟨_, .head _, rfl, _, rfl⟩
    case r =>
      refine ⟨(_, _) :: own, by subst hG; rfl, ?_⟩
      rw [List.take_add_one, show (canonC o c)[i]? = some (k, z) from by unfold canonC; rw [List.getElem?_map, hp]; show some (k, (look c k).getD 0) = _; rw [hz9]; rfl]
      exact (hz.mono fun y p ⟨q, t, u, e, a1⟩ => ⟨q, t, u, e, .tail _ a1⟩).snoc ⟨_, _, _, rfl, .head _⟩
  case fin =>
    rintro zs news ⟨own, rfl, hz⟩
    have hz1 : All2 (PairAt up own) zs (canonC o c) := by
      have e : (canonC o c).take ys.length = canonC o c := List.take_of_length_le (by unfold canonC; rw [List.length_map, hy.length]; exact Nat.le_refl _)
      rw [e] at hz
      exact hz
    k_steps
    exact ret _ _ zs ps' own ((L1 + 1, oc) :: R1) _ _ hz1 (hH.more fun p hp => .tail _ hp) (fun p hp => .tail _ (hsR p hp)) (by assumption) (News.perm (by assumption) (by
      intro p hp
      simp only [List.mem_cons, List.mem_append] at hp ⊢
      rcases hp with rfl | rfl | rfl | rfl | hp | rfl | hp
      · exact .inl rfl
      · exact .inr (.inr (.inl rfl))
      · exact .inr (.inr (.inr (.inl rfl)))
      · exact .inr (.inr (.inr (.inr (.inl rfl))))
      · exact .inr (.inr (.inr (.inr (.inr (.inr (.inl hp))))))
      · exact .inr (.inr (.inr (.inr (.inr (.inl rfl)))))
      · exact .inr (.inr (.inr (.inr (.inr (.inr (.inr hp))))))))
end

/-! ## sorted_keys, sorted_items -/
section
variable {w : World} {A : Around} {E : Value → Shared → Prop} {s : Shared} {h₀ : Heap} {L x dx : Addr} {m : Str → Option Value} {news : List (Addr × Obj)} {es : List DictEntry} {n : Nat}
theorem cg_ga : findIn (hd.heap_39 w.params) (.ref 169) "__getattribute__" = some (some (.builtin "dict.__getattribute__")) := by kernel_rfl
theorem cg_hook : findIn (hd.heap_39 w.params) (.ref 169) "__getattr__" = some none := by kernel_rfl
theorem cg_attr : findObj (hd.heap_39 w.params) 169 (some (plObj [] 0)) (Str.ofString "canonical_order") = some (.value .none) :=
  findObj_cls (by kernel_rfl) (by kernel_rfl) (by kernel_rfl) (by decide) (by decide +kernel) (by kernel_rfl)
theorem cd_order {expr : Bool} {Q : Value → Shared → Prop} (F : Fr h₀ L s.heap m) (X₀ : (hd.heap_39 w.params).In h₀) (N : News h₀ L s.heap news) (h1 : (x, cdObj dx es n) ∈ news) (h2 : (dx, plObj [] 0) ∈ news) (h : Q .none { s with toks := s.toks + 1 }) :
    wpAny (model PySem.Challenge.rw_bf0001_01.row.prog w) A (getAttr (.ref x) (Str.ofString "canonical_order") expr) Q E s := by
  have X := X₀.keeps F.keep
  have I := cd_inst N h1 h2
  have LD := cd_isDict F X₀ N h1 h2
  obtain ⟨hh, g, d, t, os⟩ := s
  have L0 := I.type (M := model PySem.Challenge.rw_bf0001_01.row.prog w)
  have L1 := looks_findIn (M := model PySem.Challenge.rw_bf0001_01.row.prog w) X cg_ga
  have L2 := looks_findIn (M := model PySem.Challenge.rw_bf0001_01.row.prog w) X cg_hook
  have L3 := looks_find (M := model PySem.Challenge.rw_bf0001_01.row.prog w) X I cg_attr
  unfold getAttr getAttrBy
  refine wpAny_bind (wpAny_mkText (wpAny_holding (wpAny_bind (L0.at (wpAny_bind (L1.at ?_))))))
  dsimp only
  rw [if_neg (by decide +kernel)]
  unfold getAttrByItsOwn hookBefore
  refine wpAny_bind ?_
  rw [if_pos (show onTheHeap (.ref 169) = true from rfl)]
  refine L2.at (wpAny_bind (wpAny_attempt (wpAny_holding ?_)))
  unfold callGetattribute
  rw [if_neg (by simp [onTheHeap])]
  unfold boundAndCalled
  rw [PySem.F.slot_dict_getattribute.bind]
  refine wpAny_bind (wpAny_pure ?_)
  show wpAny _ _ (call (.builtin "dict.__getattribute__") [.ref x, .str (Str.ofString "canonical_order") _]) _ _ _
  refine call_sub PySem.F.slot_dict_getattribute.plain PySem.F.entry_dict_ga (n := "__getattribute__") (by decide +kernel) (.inl (by decide +kernel)) (PySem.F.args_dict_getattribute_2 _ _) LD ?_
  unfold Builtin.«object.__getattribute__»
  refine wpAny_bind (wpAny_pure (wpAny_bind (wpAny_pure (wpAny_bind (L0.at (wpAny_bind (L3.at ?_)))))))
  exact wpAny_pure ⟨_, rfl, wpAny_pure h⟩
end
local macro_rules | `(tactic| walk_at "getAttr ref") => `(tactic| (k_here; (with_reducible show wpAny _ _ (getAttr (Value.ref _) (PySem.Str.ofString "canonical_order") _) _ _ _); k_dflt (refine' cd_order ?F ?X ?N ?h1 ?h2 ?_; (case F | X | N => k_asm); (case h1 | h2 => k_mem); k_whole)))
section
variable {w : World} {p : Program} {loose : List Str} {mean : ExcName → Option Value} {mg mb : Str → Option Value} {dp un : Nat} {gd : Option (List Code)} {cn : Str} {cs : Scope} {a L : Addr} {ccd : Value} {cl : List (Str × Addr)} {outer : List Env} {A₀ : Around} {base h₀ : Heap} {m : Str → Option Value} {s : Shared} {Q E : Value → Shared → Prop} {news R : List (Addr × Obj)}
variable {x dx y dy v : Addr} {es ez : List DictEntry} {n nz : Nat} {c e : C} {o : List Nm} {ps : Array Value} {ov : Value}
set_option pp.deepTerms false
set_option pp.maxSteps 3000
set_option pp.proofs false
theorem sk_spec
   (Bl : Below A₀ base outer h₀) (F : Fr h₀ L s.heap m) (X : (hd.heap_39 w.params).In h₀) (N : News h₀ L s.heap ((x, cdObj dx es n) :: (dx, plObj [] 0) :: (32, tabObj ps) :: R)) (T : Top p loose mean mg mb h₀) (hk : cs.kind = .function)
   (dxx : @Ne Nat dx x) (lox : (x == sysModules) = false) (x32 : @Ne Nat x 32) (dx32 : @Ne Nat dx 32) (hC : CodeHd base 34 32) (hT : TabSt (Str.ofString "canonsort_keys.<locals>.<lambda>") ⟨17, 28, 17, 54⟩ 32 ps R)
   (hc : KV w up es c) (nk : NK c) (hd : dp + 160 < recursionLimit) (hu : un + 1100 < cLine)
   (ret : ∀ r kn ys ps' R1 h' tk', All2 NmIs ys (canon [] (c.map (·.1))) → Hit (Str.ofString "canonsort_keys.<locals>.<lambda>") ⟨17, 28, 17, 54⟩ ps' R1 → (∀ p ∈ R, p ∈ R1) → Fr h₀ L h' m → News h₀ L h' ((r, listOf ys.toArray kn) :: (x, cdObj dx es n) :: (dx, plObj [] 0) :: (32, tabObj ps') :: R1) → Q (.ref r) { s with heap := h', toks := tk' }) :
   wpAny (model PySem.Challenge.rw_bf0001_01.row.prog w) (ktrTop dp un gd cn cs L a ccd cl outer) (call (.ref 159) [.ref x]) Q E s := by
  revert X; k_fill; intro X
  refine wpAny_call ?_
  k_dflt ktr_enter
  k_steps
  unfold StopAt
  rename_i g1 L1 h1 FG F1 N1 B1 X1 T1 v h2 F2 N2 l2
  refine ck_spec (R := (v, keysObj x) :: (x, cdObj dx es n) :: (dx, plObj [] 0) :: R) B1 F2 X1 (N2.perm (by ktr_rel)) T1 rfl (.head _) (.tail _ (.head _)) hC (hT.grow (fun p hp => .tail _ (.tail _ (.tail _ hp))) fun o => List.forall_mem_cons.mpr ⟨neN (by omega), List.forall_mem_cons.mpr ⟨x32, List.forall_mem_cons.mpr ⟨dx32, o⟩⟩⟩) .none .nil hc nk (by ktr_room) (by ktr_units) ?_
  intro r kn ys ps' R1 h5 tk5 hy hH hs F5 N5
  have m3 := hs _ (.tail _ (.head _))
  have m4 := hs _ (.tail _ (.tail _ (.head _)))
  have hsR : ∀ p ∈ R, p ∈ R1 := fun p hp => hs p (.tail _ (.tail _ (.tail _ hp)))
  clear N2 F2 N1 F1
  k_steps
  exact ret r kn ys ps' R1 _ _ hy hH hsR (by assumption) (News.perm (by assumption) (by
    intro p hp
    simp only [List.mem_cons] at hp ⊢
    rcases hp with rfl | rfl | rfl | rfl | hp
    · exact .inl rfl
    · exact .inr (.inr m3)
    · exact .inr (.inr m4)
    · exact .inr (.inl rfl)
    · exact .inr (.inr hp)))
theorem si_spec
   (Bl : Below A₀ base outer h₀) (F : Fr h₀ L s.heap m) (X : (hd.heap_39 w.params).In h₀) (N : News h₀ L s.heap ((x, cdObj dx es n) :: (dx, plObj [] 0) :: (32, tabObj ps) :: R)) (T : Top p loose mean mg mb h₀) (hk : cs.kind = .function)
   (dxx : @Ne Nat dx x) (lox : (x == sysModules) = false) (x32 : @Ne Nat x 32) (dx32 : @Ne Nat dx 32) (hC : CodeHd base 34 32) (hT : TabSt (Str.ofString "canonsort_keys.<locals>.<lambda>") ⟨17, 28, 17, 54⟩ 32 ps R)
   (hc : KV w up es c) (nk : NK c) (hd : dp + 160 < recursionLimit) (hu : un + 1100 < cLine)
   (ret : ∀ r kn ys ps' own R1 h' tk', All2 (PairAt up own) ys (canonC [] c) → Hit (Str.ofString "canonsort_keys.<locals>.<lambda>") ⟨17, 28, 17, 54⟩ ps' R1 → (∀ p ∈ R, p ∈ R1) → Fr h₀ L h' m → News h₀ L h' ((r, listOf ys.toArray kn) :: (x, cdObj dx es n) :: (dx, plObj [] 0) :: (32, tabObj ps') :: (own ++ R1)) → Q (.ref r) { s with heap := h', toks := tk' }) :
   wpAny (model PySem.Challenge.rw_bf0001_01.row.prog w) (ktrTop dp un gd cn cs L a ccd cl outer) (call (.ref 166) [.ref x]) Q E s := by
  revert X; k_fill; intro X
  refine wpAny_call ?_
  k_dflt ktr_enter
  k_steps
  unfold StopAt
  rename_i g1 L1 h1 FG F1 N1 B1 X1 T1
  refine ci_spec (R := R) B1 F1 X1 N1 T1 rfl dxx lox x32 dx32 hC hT .none .nil hc nk (by ktr_room) (by ktr_units) ?_
  intro r kn ys ps' own R1 h5 tk5 hy hH hs F5 N5
  clear N1 F1
  k_steps
  exact ret r kn ys ps' own R1 _ _ hy hH hs (by assumption) (by assumption)
end

/-! ## [(name, due[name]) for name in names] -/
local macro_rules | `(tactic| walk_at "eval Name") => `(tactic| (k_here; (with_reducible show wpAny _ _ (eval (PySem.Expr.Name (Str.ofString "due") _) (compEnvC _ _ _ _)) _ _ _); refine unstop ?_))
abbrev dueScope : Scope := { kind := .function, names := [(Str.ofString ".0", .local), (Str.ofString "name", .local), (Str.ofString "due", .free)], isGenerator := false, isCoroutine := false }
def lookC (l : List Nm) (c : C) : C := l.map fun k => (k, (look c k).getD 0)
section
variable {w : World} {A : Around} {s : Shared} {h₀ : Heap} {L : Addr} {m : Str → Option Value} {env : Env} {R : List (Addr × Obj)}
variable {r d cd : Addr} {ys : List Value} {kn : Nat} {l : List Nm} {ez : List DictEntry} {nz : Nat} {c : C} {oc : Obj} {p1 p2 p3 p4 p5 : Pos} {Fin : Shared → List Value → List (Addr × Obj) → Prop}
set_option pp.deepTerms false
set_option pp.maxSteps 3000
set_option pp.proofs false
theorem due_src (hkc : ∀ C, (compEnvC dueScope [(Str.ofString "due", cd)] C env).kindOf (Str.ofString "due") = some .cell) (hh : A.handled = none) (F : Fr h₀ L s.heap m) (X : (hd.heap_39 w.params).In h₀) (N : News h₀ L s.heap ((r, listOf ys.toArray kn) :: (d, plObj ez nz) :: (cd, oc) :: R)) (hoc : oc.data = .cell (some (.ref d))) (hy : All2 NmIs ys l) (hl : ys.length ≤ 14) (hin : ∀ k ∈ l, k ∈ c.map (·.1)) (hz : KV w up ez c) (nk : NK c)
   (ret : ∀ gg zs own, All2 (PairAt up own) zs (lookC l c) → Fin { s with heap := gg } zs ((r, listOf ys.toArray kn) :: (d, plObj ez nz) :: (cd, oc) :: (own ++ R))) :
   LCg.CompSrc PySem.Challenge.rw_bf0001_01.row.prog w A h₀ L m env (.Tuple [.Name (Str.ofString "name") p1, .Subscript (.Name (Str.ofString "due") p2) (.Name (Str.ofString "name") p3) p4] 0 p5) (Str.ofString "name") dueScope [(Str.ofString "due", cd)] Fin (.ref r) s := by
  revert X; k_fill; intro X
  refine LCg.CompSrc.ledger hh F N (.head _) (by rw [List.size_toArray]; exact Nat.le_trans hl (by decide)) fun gg => ?_
  rw [List.size_toArray]
  refine comp_ind (Inv := fun i zs news => ∃ own, news = (r, listOf ys.toArray kn) :: (d, plObj ez nz) :: (cd, oc) :: (own ++ R) ∧ All2 (PairAt up own) zs ((lookC l c).take i)) ?turn ?fin _ 0 [] _ (Nat.zero_add _) ⟨[], rfl, .nil⟩
  case turn =>
    rintro i zs news hi ⟨own, rfl, hz9⟩ v9 I oI C oC D m2 h tk E' hv hC9 hx9 F4 N4 off ne
    obtain ⟨k, hp, t, rfl⟩ := All2.get hy i v9 (by simpa using hv)
    obtain ⟨z, hk9⟩ := look_in (hin k (List.mem_of_getElem? hp))
    generalize hG : own ++ R = R3 at *
    simp only [LCg.Off3] at off
    clear N F
    unfold dueScope
    k_steps
    unfold StopAt
    refine lcf_cell N4 (by rfl) (.tail _ (.tail _ (.tail _ (.tail _ (.tail _ (.head _)))))) hoc ?_ (by rfl) (hkc C)
    k_steps
    unfold StopAt
    refine pd_get N4 (.tail _ (.tail _ (.tail _ (.tail _ (.head _))))) up_inj hz nk hk9 fun u9 tk9 => ?_
    k_steps
    rename (I < _ ∧ _) => l9
    refine LCg.CompEnd.intro (by assumption) (by assumption) ((r, listOf ys.toArray kn) :: (d, plObj ez nz) :: (cd, oc) :: (_, tupleOf #[.str (up k) t, .int z u9] 0) :: R3) (by ktr_rel) ?off ?src ?r
    case off => exact ⟨off.1, off.2.1, off.2.2.1, ⟨Nat.ne_of_gt l9.1, Nat.ne_of_gt l9.2.1, Nat.ne_of_gt l9.2.2.1⟩, off.2.2.2⟩
    case src => exact .inr ⟨_, .head _, rfl, _, rfl⟩
    case r =>
      refine ⟨(_, _) :: own, by subst hG; rfl, ?_⟩
      rw [List.take_add_one, show (lookC l c)[i]? = some (k, z) from by unfold lookC; rw [List.getElem?_map, hp]; show some (k, (look c k).getD 0) = _; rw [hk9]; rfl]
      exact (hz9.mono fun y p ⟨q, t, u, e, a1⟩ => ⟨q, t, u, e, .tail _ a1⟩).snoc ⟨_, _, _, rfl, .head _⟩
  case fin =>
    rintro zs news ⟨own, rfl, hz9⟩
    refine ret gg zs own ?_
    have e : (lookC l c).take ys.length = lookC l c := List.take_of_length_le (by unfold lookC; rw [List.length_map, hy.length]; exact Nat.le_refl _)
    rw [e] at hz9
    exact hz9
end
noncomputable def lawScope (w : World) : Scope := fnScope ((hd.heap_39 w.params).lookup 221)
noncomputable def lawBody (w : World) : List Stmt := fnBody ((hd.heap_39 w.params).lookup 221)
noncomputable abbrev lawEnv (w : World) (L fa : Addr) (ccd : Value) : Env := envOfC (Str.ofString "law") (lawScope w) L fa ccd

/-! ## law: the comparisons of dicts -/
local macro_rules | `(tactic| walk_at "execs cons") => `(tactic| (k_here; (with_reducible show wpAny _ _ (execs (Stmt.Assign [PySem.Expr.Name (Str.ofString "order") _] _ _ :: _) _) _ _ _); refine unstop ?_))
theorem fr4 {h₀ h : Heap} {L : Addr} {m : Str → Option Value} {a b c d : Value} (F : Fr h₀ L h m) (h1 : m (Str.ofString "second") = some a) (h2 : m (Str.ofString "other") = some b) (h3 : m (Str.ofString "told") = some c) (h4 : m (Str.ofString "bag") = some d) :
    Fr h₀ L h (fun z => if z = Str.ofString "second" then some a else if z = Str.ofString "other" then some b else if z = Str.ofString "told" then some c else if z = Str.ofString "bag" then some d else m z) := Fr.eqv F fun y => by
  by_cases q1 : y = Str.ofString "second"
  · rw [if_pos q1, q1, h1]
  · rw [if_neg q1]
    by_cases q2 : y = Str.ofString "other"
    · rw [if_pos q2, q2, h2]
    · rw [if_neg q2]
      by_cases q3 : y = Str.ofString "told"
      · rw [if_pos q3, q3, h3]
      · rw [if_neg q3]
        by_cases q4 : y = Str.ofString "bag"
        · rw [if_pos q4, q4, h4]
        · rw [if_neg q4]
theorem fr2 {h₀ h : Heap} {L : Addr} {m : Str → Option Value} {a b : Value} (F : Fr h₀ L h m) (h1 : m (Str.ofString "told") = some a) (h2 : m (Str.ofString "bag") = some b) :
    Fr h₀ L h (fun z => if z = Str.ofString "told" then some a else if z = Str.ofString "bag" then some b else m z) := Fr.eqv F fun y => by
  by_cases q1 : y = Str.ofString "told"
  · rw [if_pos q1, q1, h1]
  · rw [if_neg q1]
    by_cases q2 : y = Str.ofString "bag"
    · rw [if_pos q2, q2, h2]
    · rw [if_neg q2]
section
variable {w : World} {p : Program} {loose : List Str} {mean : ExcName → Option Value} {mg mb : Str → Option Value} {base g : Heap} {L fa : Addr} {ccd : Value} {m₁ : Str → Option Value} {s : Shared} {Q : Flow → Shared → Prop} {E : Value → Shared → Prop} {R : List (Addr × Obj)}
variable {x dx d x2 dx2 d2 b : Addr} {es ez es2 ez2 : List DictEntry} {n nz n2 nz2 : Nat} {c e : C} {oc1 oc2 : Obj} {B : Int} {tb : Tok}
set_option pp.deepTerms false
set_option pp.maxSteps 3000
set_option pp.proofs false
theorem law_B2
   (Bl : Below callerA base [] g) (F : Fr g L s.heap (fun z => if z = Str.ofString "second" then some (.ref d2) else if z = Str.ofString "other" then some (.ref x2) else if z = Str.ofString "told" then some (.ref x) else if z = Str.ofString "bag" then some (.ref b) else m₁ z)) (X : (hd.heap_39 w.params).In g)
   (N : News g L s.heap ((x2, cdObj dx2 es2 n2) :: (dx2, plObj [] 0) :: (d2, plObj ez2 nz2) :: (b, listOf #[.int B tb] 0) :: (x, cdObj dx es n) :: (dx, plObj [] 0) :: (d, plObj ez nz) :: (L + 1, oc1) :: (L + 1 + 1, oc2) :: R)) (T : Top p loose mean mg mb g)
   (h1 : oc1.data = .cell (some (.ref d))) (lox : (x == sysModules) = false) (lod : (d == sysModules) = false) (lox2 : (x2 == sysModules) = false) (lod2 : (d2 == sysModules) = false) (hc : KV w up es c) (hz : KV w up ez c) (nk : NK c) (hc2 : KV w up es2 e) (hz2 : KV w up ez2 e) (ne : NK e)
   (xd : @Ne Nat x d) (xx2 : @Ne Nat x x2) (xd2 : @Ne Nat x d2)
   (ret : ∀ h' (m' : Str → Option Value) tk', Fr g L h' (fun z => if z = Str.ofString "told" then some (.ref x) else if z = Str.ofString "bag" then some (.ref b) else m' z) →
      News g L h' ((x2, cdObj dx2 es2 n2) :: (dx2, plObj [] 0) :: (d2, plObj ez2 nz2) :: (b, listOf #[.int B tb] 0) :: (x, cdObj dx es n) :: (dx, plObj [] 0) :: (d, plObj ez nz) :: (L + 1, oc1) :: (L + 1 + 1, oc2) :: R) →
      wpAny (model PySem.Challenge.rw_bf0001_01.row.prog w) (callerA.deeper (lawEnv w L fa ccd)) (execs ((lawBody w).drop 7) (lawEnv w L fa ccd)) Q E { s with heap := h', toks := tk' }) :
   wpAny (model PySem.Challenge.rw_bf0001_01.row.prog w) (callerA.deeper (lawEnv w L fa ccd)) (execs ((lawBody w).drop 5) (lawEnv w L fa ccd)) Q E s := by
  unfold lawEnv at ret ⊢
  conv in (List.drop 5 (lawBody w)) => whnf
  conv in (occs := *) (lawScope w) => all_goals whnf
  revert X; k_fill; intro X
  have sy : sameC e c = sameC c e := sameC_symm nk ne
  have rf : sameC c c = true := sameC_refl nk
  k_steps
  all_goals first
    | (rename_i a9; exfalso; simp [sy, rf] at a9; done)
    | (unfold StopAt; exact ret _ _ _ (fr2 (by assumption) rfl rfl) (by assumption))
end

/-! ## law: the order and the keys -/
section
variable {prog : Program} {w : World} {A : Around} {E : Value → Shared → Prop} {s : Shared} {h₀ : Heap} {L : Addr} {m : Str → Option Value} {news : List (Addr × Obj)}
theorem slice_temp {value slice : PySem.Expr} {l : Addr} {items : Array Value} {vl vu : Value} {lo hi : Option Int} {Q : Value → Shared → Prop}
    (F : Fr h₀ L s.heap m) (N : News h₀ L s.heap news) (hl : s.heap.IsList l items) (pl : IsPart vl lo) (pu : IsPart vu hi)
    (h : ∀ D h', Fr h₀ L h' m → News h₀ L h' ((D, listOf (slicePick items lo hi none) 0) :: news) → (∀ p ∈ news, p.1 < D) → Q (.ref D) { s with heap := h' })
    (hs : subscripted slice false (.ref l) (.ref s.heap.objs.size) = operate [.ref s.heap.objs.size, .ref l] (getItem (.ref l) (.ref s.heap.objs.size))) (hsz : items.size ≤ sizeLine) :
    wpAny (model prog w) A (subscriptTail value slice (.ref l) (.ref s.heap.objs.size)) Q E { s with heap := s.heap.push { cls := .type "slice", data := .fields #[vl, vu, .none] } } := by
  have hT := Heap.IsList.typeIs (s := { s with heap := s.heap.push { cls := .type "slice", data := .fields #[vl, vu, .none] } }) (hl.push _)
  have hg : wpAny (model prog w) A (getItem (.ref l) (.ref s.heap.objs.size)) Q E { s with heap := s.heap.push { cls := .type "slice", data := .fields #[vl, vu, .none] } } := by
    refine wpAny_getItem_list_slice (hl.push _) (Heap.IsSliceOf.new ..) pl pu .none (by simp) ?_ hsz
    have N1 := News.push (F.push { cls := .type "slice", data := .fields #[vl, vu, .none] }) (N.grown fun _ _ e => Heap.get?_push_of_some _ e) { cls := .type "list", data := .seq (slicePick items lo hi none) }
    rw [Heap.size_push] at N1
    show Q (.ref (s.heap.push _).objs.size) _
    rw [Heap.size_push]
    exact h _ _ ((F.push _).push _) N1 fun p hp => Nat.lt_succ_of_lt (Heap.lt_size (N p hp).1)
  unfold subscriptTail
  refine wpAny_bind ?_
  rw [getitemInPython_of_ne hT.not_modules]
  refine wpAny_bind (wpAny_specialOf hT list_getitem_lookup ?_)
  have fin : wpAny (model prog w) A (subscripted slice false (.ref l) (.ref s.heap.objs.size)) (fun r s₃ => wpAny (model prog w) A (letTemporaryGo value (.ref l) r >>= fun _ => pure r) Q E s₃) E { s with heap := s.heap.push { cls := .type "slice", data := .fields #[vl, vu, .none] } } := by
    rw [hs]
    exact wpAny_operating (wpAny_mono hg (fun r s₃ h₃ => wpAny_bind (wpAny_letTemporaryGo (wpAny_pure h₃))) fun _ _ x => x)
  first
    | exact wpAny_pure (wpAny_bind fin)
    | exact wpAny_bind (wpAny_pure (wpAny_bind fin))
    | exact wpAny_bind fin
end
theorem slice3 (a b c : Value) (r : Int) (h0 : 0 ≤ r) (h4 : r < 4) : slicePick #[a, b, c] (some r) none none = ([a, b, c].drop r.toNat).toArray := by
  rw [kms_pick_eq]
  rcases (by omega : r = 0 ∨ r = 1 ∨ r = 2 ∨ r = 3) with rfl | rfl | rfl | rfl <;> rfl
theorem All2.drop {α β : Type} {R : α → β → Prop} {as : List α} {bs : List β} (h : All2 R as bs) : ∀ k, All2 R (as.drop k) (bs.drop k) := by
  induction h with
  | nil => intro k; rw [List.drop_nil, List.drop_nil]; exact .nil
  | cons h t ih =>
    intro k
    cases k with
    | zero => exact .cons h t
    | succ k => exact ih k
local macro_rules | `(tactic| walk_at "subscriptTail") => `(tactic| (k_here; (with_reducible show wpAny _ _ (subscriptTail _ (PySem.Expr.Slice _ _ _ _) (Value.ref _) (Value.ref _)) _ _ _); refine unstop ?_))
local macro_rules | `(tactic| walk_at "CompSrcT") => `(tactic| (refine unstop ?_))
local macro_rules | `(tactic| walk_at "compareOp NotIn") => `(tactic| (k_here; (with_reducible show wpAny _ _ (compareOp CmpOp.NotIn (Value.str _ _) (Value.ref _)) _ _ _); refine unstop ?_))
local macro_rules | `(tactic| walk_at "execs cons") => `(tactic| (k_here; (with_reducible show wpAny _ _ (execs (Stmt.If (PySem.Expr.BoolOp PySem.BoolOp.Or [PySem.Expr.Compare (PySem.Expr.Call (PySem.Expr.Name (Str.ofString "canonsort_keys") _) _ _ _) _ _ _, _] _) _ _ _ :: _) _) _ _ _); refine unstop ?_))
theorem filt_stepN {l : List Nm} {i : Nat} {k : Nm} (hp : l[i]? = some k) (P : Nm → Bool) : (l.take (i + 1)).filter P = (l.take i).filter P ++ [k].filter P := by
  rw [List.take_add_one, hp]; simp [List.filter_append]
theorem stepN_pos {l : List Nm} {i : Nat} {k : Nm} {P : Nm → Bool} {zs : List Value} {t : Tok} (hp : l[i]? = some k) (hz : All2 NmIs zs ((l.take i).filter P)) (h : P k = true) : All2 NmIs (zs ++ [.str (up k) t]) ((l.take (i + 1)).filter P) := by
  rw [filt_stepN hp, List.filter_cons_of_pos h]; exact hz.snoc ⟨t, rfl⟩
theorem stepN_neg {l : List Nm} {i : Nat} {k : Nm} {P : Nm → Bool} {zs : List Value} (hp : l[i]? = some k) (hz : All2 NmIs zs ((l.take i).filter P)) (h : P k = false) : All2 NmIs zs ((l.take (i + 1)).filter P) := by
  rw [filt_stepN hp, List.filter_cons_of_neg (by rw [h]; decide), List.filter_nil, List.append_nil]; exact hz
section
variable {w : World} {p : Program} {loose : List Str} {mean : ExcName → Option Value} {mg mb : Str → Option Value} {base g : Heap} {L fa : Addr} {ccd : Value} {m₁ : Str → Option Value} {s : Shared} {Q : Flow → Shared → Prop} {E : Value → Shared → Prop} {R : List (Addr × Obj)}
variable {x dx d ka oq b : Addr} {ys zs : List Value} {kn ko : Nat} {o : List Nm} {es ez : List DictEntry} {n nz : Nat} {c : C} {oc1 oc2 : Obj} {B : Int} {tb : Tok}
set_option pp.deepTerms false
set_option pp.maxSteps 3000
set_option pp.proofs false
theorem law_C
   (Bl : Below callerA base [] g) (F : Fr g L s.heap (fun z => if z = Str.ofString "told" then some (.ref x) else if z = Str.ofString "bag" then some (.ref b) else m₁ z)) (X : (hd.heap_39 w.params).In g)
   (N : News g L s.heap ((b, listOf #[.int B tb] 0) :: (d, plObj ez nz) :: (L + 1, oc1) :: (L + 1 + 1, oc2) :: R)) (T : Top p loose mean mg mb g)
   (h1 : oc1.data = .cell (some (.ref d))) (h2 : oc2.data = .cell none)
   (lod : (d == sysModules) = false) (hC : CodeHd base 34 32) (hz : KV w up ez c) (nk : NK c)
   (bR : ∀ p ∈ R, p.1 ≠ b) (bd : @Ne Nat b d) (bL : @LT.lt Nat _ (L + 1 + 1) b) (dL : @LT.lt Nat _ (L + 1 + 1) d) (LR : ∀ p ∈ R, p.1 ≠ L + 1 + 1)
   (ret : ∀ ka kn ys oq ko zs o oc2' B' t' h' (m' : Str → Option Value) tk', All2 NmIs ys (canon o (c.map (·.1))) → All2 NmIs zs o → o.Nodup → oc2'.data = .cell (some (.ref oq)) → (∀ p ∈ R, p.1 < ka) → (∀ p ∈ R, p.1 < oq) → Fr g L h' (fun z => if z = Str.ofString "keys" then some (.ref ka) else if z = Str.ofString "told" then some (.ref x) else m' z) →
      News g L h' ((ka, listOf ys.toArray kn) :: (oq, listOf zs.toArray ko) :: (b, listOf #[.int B' t'] 0) :: (d, plObj ez nz) :: (L + 1, oc1) :: (L + 1 + 1, oc2') :: R) →
      wpAny (model PySem.Challenge.rw_bf0001_01.row.prog w) (callerA.deeper (lawEnv w L fa ccd)) (execs ((lawBody w).drop 9) (lawEnv w L fa ccd)) Q E { s with heap := h', toks := tk' }) :
   wpAny (model PySem.Challenge.rw_bf0001_01.row.prog w) (callerA.deeper (lawEnv w L fa ccd)) (execs ((lawBody w).drop 7) (lawEnv w L fa ccd)) Q E s := by
  unfold lawEnv at ret ⊢
  conv in (List.drop 7 (lawBody w)) => whnf
  conv in (occs := *) (lawScope w) => all_goals whnf
  revert X; k_fill; intro X
  refine wpAny_execs_cons ?_
  k_steps
  unfold StopAt
  rename_i q h3 F3 N3 l3 r B2 t1 t2 tk4 h4 hr0 hr4 F4 N4
  refine slice_temp F4 N4 (News.isList N4 (.head _)) (.int _ _) .none (fun oq h5 F5 N5 l5 => ?_) (by with_unfolding_all rfl) (by show 3 ≤ sizeLine; decide)
  rw [slice3 _ _ _ _ hr0 hr4] at N5
  clear F3 N3 F4 N4
  have hq : All2 NmIs ([Value.str (Str.ofString "UID") s.toks, Value.str (Str.ofString "WORD") (s.toks + 1), Value.str (Str.ofString "X-A") (s.toks + 1 + 1)].drop r.toNat) ([(1 : Nm), 5, 2].drop r.toNat) := All2.drop (.cons ⟨_, rfl⟩ (.cons ⟨_, rfl⟩ (.cons ⟨_, rfl⟩ .nil))) _
  have ho : ([(1 : Nm), 5, 2].drop r.toNat).Nodup := List.Pairwise.sublist (List.drop_sublist _ _) (by decide)
  generalize [Value.str (Str.ofString "UID") s.toks, Value.str (Str.ofString "WORD") (s.toks + 1), Value.str (Str.ofString "X-A") (s.toks + 1 + 1)].drop r.toNat = zs at hq N5
  generalize [(1 : Nm), 5, 2].drop r.toNat = o at hq ho
  try dsimp only
  k_lt l5
  k_steps
  unfold StopAt
  rename_i h6 oc2' F6 N6 d6
  replace N6 := N6.perm (news' := (oq, listOf zs.toArray 0) :: (b, listOf #[.int B2 t1] 0) :: (d, plObj ez nz) :: (L + 1, oc1) :: (L + 1 + 1, oc2') :: R) (by ktr_rel)
  refine LCt.ListComp_T (F₀ := F6) (by with_unfolding_all rfl) (by decide) (by rfl) (by decide) (by rfl) ?_
  k_steps
  unfold StopAt
  have hlo : zs.length ≤ 7 := by
    have h := (NK.num ho).len
    rw [← List.length_map (f := (·.1)), num_keys] at h
    rw [hq.length]; exact h
  refine LCt.CompSrcT.ledger rfl F6 N6 (.head _) (by rw [List.size_toArray]; exact Nat.le_trans hlo (by decide)) fun gg => ?_
  rw [List.size_toArray]
  refine comp_indT (Inv := fun i z1 news => news = (oq, listOf zs.toArray 0) :: (b, listOf #[.int B2 t1] 0) :: (d, plObj ez nz) :: (L + 1, oc1) :: (L + 1 + 1, oc2') :: R ∧ All2 NmIs z1 ((o.take i).filter fun k => (look c k).isSome)) ?turn ?fin _ 0 [] _ (Nat.zero_add _) ⟨rfl, .nil⟩
  case turn =>
    rintro i z1 news hi ⟨rfl, hz1⟩ v1 I oI C oC D2 m2 h tk E' hv hC9 hx9 F7 N7 off ne
    obtain ⟨k, hp, t, rfl⟩ := All2.get hq i v1 (by simpa using hv)
    simp only [LCg.Off3] at off
    k_steps
    unfold StopAt
    refine lcf_cell N7 (by rfl) (.tail _ (.tail _ (.tail _ (.tail _ (.tail _ (.tail _ (.head _))))))) h1 ?_ (by rfl) (by with_unfolding_all rfl)
    k_steps
    · rename_i tk9 a9
      refine LCg.CompEnd.intro (by assumption) (by assumption) ((oq, listOf zs.toArray 0) :: (b, listOf #[.int B2 t1] 0) :: (d, plObj ez nz) :: (L + 1, oc1) :: (L + 1 + 1, oc2') :: R) (by ktr_rel) ?off ?src ?r
      case off => exact off
      case src => exact .inr ⟨_, .head _, rfl, _, rfl⟩
      case r => exact ⟨rfl, stepN_pos hp hz1 a9⟩
    · rename_i tk9 a9
      refine LCg.CompEnd.intro (by assumption) (by assumption) ((oq, listOf zs.toArray 0) :: (b, listOf #[.int B2 t1] 0) :: (d, plObj ez nz) :: (L + 1, oc1) :: (L + 1 + 1, oc2') :: R) (by ktr_rel) ?off ?src ?r
      case off => exact off
      case src => exact .inr ⟨_, .head _, rfl, _, rfl⟩
      case r => exact ⟨rfl, stepN_neg hp hz1 a9⟩
  case fin =>
    rintro z1 news ⟨rfl, hz1⟩
    rw [hq.length, List.take_length] at hz1
    k_steps
    unfold StopAt
    rename_i D8 h8 tk8 F8 N8 o8
    refine ListComp_K (F₀ := F8) (by with_unfolding_all rfl) (by decide) (by rfl) (by decide) (by rfl) ?_
    k_steps
    unfold StopAt
    refine SrcK.dict rfl F8 N8 (.tail _ (.tail _ (.tail _ (.head _)))) up_inj hz nk lod fun gg2 => ?_
    refine comp_indT (Inv := fun i zt news => news = (D8, LCg.lst z1) :: (oq, listOf zs.toArray 0) :: (b, listOf #[.int B2 t1] 0) :: (d, plObj ez nz) :: (L + 1, oc1) :: (L + 1 + 1, oc2') :: R ∧ All2 NmIs zt (((c.take i).map (·.1)).filter fun k => decide (k ∉ o))) ?turn2 ?fin2 _ 0 [] _ (Nat.zero_add _) ⟨rfl, .nil⟩
    case turn2 =>
      rintro i zt news hi ⟨rfl, hzt⟩ v1 I oI C oC D2 m2 h tk E' ⟨⟨pk, px⟩, t, hp, rfl⟩ hC9 hx9 F9 N9 off ne
      simp only [LCg.Off3] at off
      k_steps
      unfold StopAt
      refine notin_names N9 (.tail _ (.tail _ (.tail _ (.tail _ (.head _))))) hq (by ktr_units) ?_
      k_steps
      · rename_i a9
        refine LCg.CompEnd.intro (by assumption) (by assumption) ((D8, LCg.lst z1) :: (oq, listOf zs.toArray 0) :: (b, listOf #[.int B2 t1] 0) :: (d, plObj ez nz) :: (L + 1, oc1) :: (L + 1 + 1, oc2') :: R) (by ktr_rel) ?off ?src ?r
        case off => exact off
        case src => exact .tail _ (.tail _ (.tail _ (.head _)))
        case r => exact ⟨rfl, step_pos hp hzt (decide_eq_true a9)⟩
      · rename_i a9
        refine LCg.CompEnd.intro (by assumption) (by assumption) ((D8, LCg.lst z1) :: (oq, listOf zs.toArray 0) :: (b, listOf #[.int B2 t1] 0) :: (d, plObj ez nz) :: (L + 1, oc1) :: (L + 1 + 1, oc2') :: R) (by ktr_rel) ?off ?src ?r
        case off => exact off
        case src => exact .tail _ (.tail _ (.tail _ (.head _)))
        case r => exact ⟨rfl, step_neg hp hzt (decide_eq_false a9)⟩
    case fin2 =>
      rintro zt news ⟨rfl, hzt⟩
      rw [filt_all] at hzt
      k_steps
      unfold StopAt
      rename_i D10 h10 tk10 F10 N10 o10
      have nd2 : ((c.map (·.1)).filter fun k => decide (k ∉ o)).Nodup := List.Pairwise.filter _ nk
      have len2 : zt.length < 64 := by rw [hzt.length]; exact Nat.lt_of_le_of_lt (Nat.le_trans (List.length_filter_le _ _) (by rw [List.length_map]; exact nk.len)) (by decide)
      refine so_list F10 N10 (.head _) hzt nd2 (by rw [← hzt.length]; exact len2) fun r4 kn4 ys4 h11 hy4 lt4 F11 N11 => ?_
      k_steps
      unfold StopAt
      have l1 : (o.filter fun k => (look c k).isSome).length ≤ 7 := by rw [← hz1.length]; exact Nat.le_trans (by rw [hz1.length]; exact Nat.le_trans (List.length_filter_le _ _) (by rw [← hq.length]; exact hlo)) (Nat.le_refl _)
      have l2 : (srt ((c.map (·.1)).filter fun k => decide (k ∉ o))).length ≤ 7 := List.length_filter_le _ allN
      refine add_names F11 N11 (.tail _ (.tail _ (.head _))) (.head _) hz1 hy4 (by omega) fun r5 kn5 ys5 h12 hy5 lt5 F12 N12 => ?_
      have e5 : (o.filter fun k => (look c k).isSome) ++ srt ((c.map (·.1)).filter fun k => decide (k ∉ o)) = canon o (c.map (·.1)) := by
        unfold canon
        congr 1
        congr 1
        funext k
        exact look_some_iff
      rw [e5] at hy5
      k_steps
      unfold StopAt
      exact ret r5 kn5 ys5 oq 0 zs o oc2' B2 t1 _ _ _ hy5 hq ho d6 (fun p hp => lt5 p (by repeat (first | exact hp | apply List.Mem.tail))) (fun p hp => lt_of_all l5.2.2.2.2.2 p hp) (by assumption) (News.perm (by assumption) (by ktr_rel))
end

/-! ## law, its last statements -/
local macro_rules | `(tactic| walk_at "compareOp NotEq ref ref") => `(tactic| (refine unstop ?_))
local macro_rules | `(tactic| walk_at "compareOp Eq ref ref") => `(tactic| (refine unstop ?_))
section
variable {w : World} {p : Program} {loose : List Str} {mean : ExcName → Option Value} {mg mb : Str → Option Value} {base g : Heap} {L fa : Addr} {ccd : Value} {m₁ : Str → Option Value} {s : Shared} {Q : Flow → Shared → Prop} {E : Value → Shared → Prop} {R : List (Addr × Obj)}
variable {x dx d ka oq b : Addr} {ys zs : List Value} {kn ko : Nat} {o : List Nm} {es ez : List DictEntry} {n nz : Nat} {c : C} {oc1 oc2 : Obj}
set_option pp.deepTerms false
set_option pp.maxSteps 3000
set_option pp.proofs false
theorem law_D
   (Bl : Below callerA base [] g) (F : Fr g L s.heap (fun z => if z = Str.ofString "keys" then some (.ref ka) else if z = Str.ofString "told" then some (.ref x) else m₁ z)) (X : (hd.heap_39 w.params).In g)
   (N : News g L s.heap ((ka, listOf ys.toArray kn) :: (oq, listOf zs.toArray ko) :: (d, plObj ez nz) :: (L + 1, oc1) :: (L + 2, oc2) :: (x, cdObj dx es n) :: (dx, plObj [] 0) :: (32, tabObj #[]) :: R)) (T : Top p loose mean mg mb g)
   (h1 : oc1.data = .cell (some (.ref d))) (h2 : oc2.data = .cell (some (.ref oq)))
   (dxx : @Ne Nat dx x) (lox : (x == sysModules) = false) (lod : (d == sysModules) = false)
   (k32 : @Ne Nat ka 32) (o32 : @Ne Nat oq 32) (d32 : @Ne Nat d 32) (x32 : @Ne Nat x 32) (dx32 : @Ne Nat dx 32) (L32 : @LT.lt Nat _ 32 L) (r32 : ∀ p ∈ R, p.1 ≠ 32) (hC : CodeHd base 34 32)
   (hc : KV w up es c) (hz : KV w up ez c) (nk : NK c) (ho : o.Nodup) (hy : All2 NmIs ys (canon o (c.map (·.1)))) (hq : All2 NmIs zs o)
   (ret : ∀ h' m' tk' ps' R', Fr g L h' m' → News g L h' ((32, tabObj ps') :: R') → Q (.ret (.bool true)) { s with heap := h', toks := tk' }) :
   wpAny (model PySem.Challenge.rw_bf0001_01.row.prog w) (callerA.deeper (lawEnv w L fa ccd)) (execs ((lawBody w).drop 9) (lawEnv w L fa ccd)) Q E s := by
  unfold lawEnv
  conv in (List.drop 9 (lawBody w)) => whnf
  conv in (occs := *) (lawScope w) => all_goals whnf
  revert X; k_fill; intro X
  refine wpAny_execs_cons ?_
  k_steps
  unfold StopAt
  rename_i v h3 F3 N3 l3
  have keep0 : ∀ p ∈ (v, keysObj x) :: (ka, listOf ys.toArray kn) :: (oq, listOf zs.toArray ko) :: (d, plObj ez nz) :: (L + 1, oc1) :: (L + 2, oc2) :: (x, cdObj dx es n) :: (dx, plObj [] 0) :: R, p.1 ≠ 32 :=
    List.forall_mem_cons.mpr ⟨neN (by omega), List.forall_mem_cons.mpr ⟨k32, List.forall_mem_cons.mpr ⟨o32, List.forall_mem_cons.mpr ⟨d32, List.forall_mem_cons.mpr ⟨neN (by omega), List.forall_mem_cons.mpr ⟨neN (by omega), List.forall_mem_cons.mpr ⟨x32, List.forall_mem_cons.mpr ⟨dx32, r32⟩⟩⟩⟩⟩⟩⟩⟩
  generalize hR0 : (v, keysObj x) :: (ka, listOf ys.toArray kn) :: (oq, listOf zs.toArray ko) :: (d, plObj ez nz) :: (L + 1, oc1) :: (L + 2, oc2) :: (x, cdObj dx es n) :: (dx, plObj [] 0) :: R = R0 at keep0
  have mv : (v, keysObj x) ∈ R0 := by rw [← hR0]; exact .head _
  have mka : (ka, listOf ys.toArray kn) ∈ R0 := by rw [← hR0]; exact .tail _ (.head _)
  have mo : (oq, listOf zs.toArray ko) ∈ R0 := by rw [← hR0]; exact .tail _ (.tail _ (.head _))
  have md : (d, plObj ez nz) ∈ R0 := by rw [← hR0]; exact .tail _ (.tail _ (.tail _ (.head _)))
  have m1 : (L + 1, oc1) ∈ R0 := by rw [← hR0]; exact .tail _ (.tail _ (.tail _ (.tail _ (.head _))))
  have m2 : (L + 2, oc2) ∈ R0 := by rw [← hR0]; exact .tail _ (.tail _ (.tail _ (.tail _ (.tail _ (.head _)))))
  have mx : (x, cdObj dx es n) ∈ R0 := by rw [← hR0]; exact .tail _ (.tail _ (.tail _ (.tail _ (.tail _ (.tail _ (.head _))))))
  have mdx : (dx, plObj [] 0) ∈ R0 := by rw [← hR0]; exact .tail _ (.tail _ (.tail _ (.tail _ (.tail _ (.tail _ (.tail _ (.head _)))))))
  replace N3 := N3.perm (news' := (32, tabObj #[]) :: R0) (by rw [← hR0]; ktr_rel)
  clear F N
  refine ck_spec (R := R0) Bl F3 X N3 T rfl mv mx hC (.inl ⟨rfl, keep0⟩) (.list mo hq) ho hc nk (by ktr_room) (by ktr_units) ?_
  intro r kr yr ps1 R1 h4 tk4 hyr hH1 hs1 F4 N4
  clear F3 N3
  replace N4 := N4.perm (news' := (r, listOf yr.toArray kr) :: (ka, listOf ys.toArray kn) :: (oq, listOf zs.toArray ko) :: (d, plObj ez nz) :: (L + 1, oc1) :: (L + 2, oc2) :: (x, cdObj dx es n) :: (dx, plObj [] 0) :: (32, tabObj ps1) :: R1) (by
    intro p hp
    simp only [List.mem_cons] at hp ⊢
    rcases hp with rfl | rfl | rfl | rfl | rfl | rfl | rfl | rfl | rfl | hp
    · exact .inl rfl
    · exact .inr (.inr (hs1 _ mka))
    · exact .inr (.inr (hs1 _ mo))
    · exact .inr (.inr (hs1 _ md))
    · exact .inr (.inr (hs1 _ m1))
    · exact .inr (.inr (hs1 _ m2))
    · exact .inr (.inr (hs1 _ mx))
    · exact .inr (.inr (hs1 _ mdx))
    · exact .inr (.inl rfl)
    · exact .inr (.inr hp))
  k_steps
  unfold StopAt
  refine ne_names N4 (.head _) (.tail _ (.head _)) hyr hy (by ktr_units) rfl ?_
  k_steps
  unfold StopAt
  refine ci_spec (R := R1) (es := es) (n := n) (dx := dx) (ps := ps1) Bl F4 X (N4.perm (by ktr_rel)) T rfl dxx lox x32 dx32 hC (.inr hH1) (.list (hs1 _ mo) hq) ho hc nk (by ktr_room) (by ktr_units) ?_
  intro r2 kr2 yr2 ps2 own2 R2 h5 tk5 hyr2 hH2 hs2 F5 N5
  clear F4 N4
  have hs02 : ∀ p ∈ R0, p ∈ R2 := fun p hp => hs2 _ (hs1 _ hp)
  replace N5 := N5.perm (news' := (ka, listOf ys.toArray kn) :: (d, plObj ez nz) :: (L + 1, oc1) :: (r2, listOf yr2.toArray kr2) :: (x, cdObj dx es n) :: (dx, plObj [] 0) :: (32, tabObj ps2) :: (own2 ++ R2)) (by
    intro p hp
    have e : ∀ q, q ∈ R0 → q ∈ own2 ++ R2 := fun q hq => List.mem_append_right _ (hs02 q hq)
    simp only [List.mem_cons] at hp ⊢
    rcases hp with rfl | rfl | rfl | hp
    · exact .inr (.inr (.inr (.inr (e _ mka))))
    · exact .inr (.inr (.inr (.inr (e _ md))))
    · exact .inr (.inr (.inr (.inr (e _ m1))))
    · exact hp)
  k_steps
  unfold StopAt
  refine LCg.ListComp_U (F₀ := F5) (by with_unfolding_all rfl) (by decide) (by rfl) (by decide) (by rfl) ?_
  k_steps
  unfold StopAt
  have hlk : ∀ k ∈ canon o (c.map (·.1)), k ∈ c.map (·.1) := fun k hk => canon_mem hk
  refine due_src (c := c) (l := canon o (c.map (·.1))) (R := (r2, listOf yr2.toArray kr2) :: (x, cdObj dx es n) :: (dx, plObj [] 0) :: (32, tabObj ps2) :: (own2 ++ R2)) (by intro C; with_unfolding_all rfl) rfl F5 X N5 h1 hy (by rw [hy.length]; exact canon_len _ _ ho) hlk hz nk ?_
  intro gg zs3 own3 hz3
  k_steps
  unfold StopAt
  rename_i D6 h6 tk6 F6 N6 o6
  clear F5 N5
  refine ne_pairs (c := canonC o c) (e := canonC o c) N6 (.tail _ (.tail _ (.tail _ (.tail _ (List.mem_append_right _ (.head _)))))) (.head _) ?p1 ?p2 (by ktr_units) rfl ?_
  case p1 => exact hyr2.mono fun y p ⟨q, t, u, e, a1⟩ => ⟨q, t, u, e, .tail _ (.tail _ (.tail _ (.tail _ (List.mem_append_right _ (.tail _ (.tail _ (.tail _ (.tail _ (List.mem_append_left _ a1)))))))))⟩
  case p2 => exact hz3.mono fun y p ⟨q, t, u, e, a1⟩ => ⟨q, t, u, e, .tail _ (.tail _ (.tail _ (.tail _ (List.mem_append_left _ a1))))⟩
  replace N6 := N6.perm (news' := (d, plObj ez nz) :: (L + 1, oc1) :: (x, cdObj dx es n) :: (dx, plObj [] 0) :: (32, tabObj ps2) :: R2) (by
    intro p hp
    simp only [List.mem_cons, List.mem_append] at hp ⊢
    rcases hp with rfl | rfl | rfl | rfl | rfl | hp
    · simp
    · simp
    · simp
    · simp
    · simp
    · simp [hp])
  clear hz3 hyr2 hyr hH1 hs1
  k_steps
  unfold StopAt
  show wpAny _ _ (call (.ref 159) [.ref x]) _ _ _
  refine sk_spec (R := R2) (es := es) (n := n) (dx := dx) (ps := ps2) Bl F6 X (N6.perm (by ktr_rel)) T rfl dxx lox x32 dx32 hC (.inr hH2) hc nk (by ktr_room) (by ktr_units) ?_
  intro r3 kr3 yr3 ps3 R3 h7 tk7 hyr3 hH3 hs3 F7 N7
  have hs03 : ∀ p ∈ R0, p ∈ R3 := fun p hp => hs3 _ (hs02 _ hp)
  clear N6 F6
  replace N7 := N7.perm (news' := (r3, listOf yr3.toArray kr3) :: (d, plObj ez nz) :: (L + 1, oc1) :: (x, cdObj dx es n) :: (dx, plObj [] 0) :: (32, tabObj ps3) :: R3) (by
    intro p hp
    simp only [List.mem_cons] at hp ⊢
    rcases hp with rfl | rfl | rfl | rfl | rfl | rfl | hp
    · simp
    · exact .inr (.inr (.inr (.inr (hs03 _ md))))
    · exact .inr (.inr (.inr (.inr (hs03 _ m1))))
    · simp
    · simp
    · simp
    · simp [hp])
  k_steps
  unfold StopAt
  refine so_dict rfl F7 N7 (.tail _ (.head _)) hz nk lod ?_
  intro r4 kr4 yr4 h8 tk8 hyr4 l8 F8 N8
  clear F7 N7
  k_steps
  unfold StopAt
  rw [canon_nil] at hyr3
  refine eq_names N8 (.tail _ (.head _)) (.head _) hyr3 hyr4 (by ktr_units) rfl ?_
  replace N8 := N8.perm (news' := (d, plObj ez nz) :: (L + 1, oc1) :: (x, cdObj dx es n) :: (dx, plObj [] 0) :: (32, tabObj ps3) :: R3) (by ktr_rel)
  k_steps
  unfold StopAt
  show wpAny _ _ (call (.ref 166) [.ref x]) _ _ _
  refine si_spec (R := R3) (es := es) (n := n) (dx := dx) (ps := ps3) Bl F8 X (N8.perm (by ktr_rel)) T rfl dxx lox x32 dx32 hC (.inr hH3) hc nk (by ktr_room) (by ktr_units) ?_
  intro r5 kr5 yr5 ps5 own5 R5 h9 tk9 hyr5 hH5 hs5 F9 N9
  have hs05 : ∀ p ∈ R0, p ∈ R5 := fun p hp => hs5 _ (hs03 _ hp)
  clear N8 F8
  replace N9 := N9.perm (news' := (d, plObj ez nz) :: (L + 1, oc1) :: (r5, listOf yr5.toArray kr5) :: (x, cdObj dx es n) :: (dx, plObj [] 0) :: (32, tabObj ps5) :: (own5 ++ R5)) (by
    intro p hp
    simp only [List.mem_cons, List.mem_append] at hp ⊢
    rcases hp with rfl | rfl | rfl | rfl | rfl | rfl | hp
    · exact .inr (.inr (.inr (.inr (.inr (hs05 _ md)))))
    · exact .inr (.inr (.inr (.inr (.inr (hs05 _ m1)))))
    · simp
    · simp
    · simp
    · simp
    · simp [hp])
  k_steps
  unfold StopAt
  refine LCg.ListComp_U (F₀ := F9) (by with_unfolding_all rfl) (by decide) (by rfl) (by decide) (by rfl) ?_
  k_steps
  unfold StopAt
  refine so_dict rfl F9 N9 (.head _) hz nk lod ?_
  intro r6 kr6 yr6 h10 tk10 hyr6 l10 F10 N10
  clear F9 N9
  k_steps
  unfold StopAt
  have hin6 : ∀ k ∈ srt (c.map (·.1)), k ∈ c.map (·.1) := fun k hk => canon_mem (o := []) (by rw [canon_nil]; exact hk)
  refine due_src (c := c) (l := srt (c.map (·.1))) (R := (r5, listOf yr5.toArray kr5) :: (x, cdObj dx es n) :: (dx, plObj [] 0) :: (32, tabObj ps5) :: (own5 ++ R5)) (by intro C; with_unfolding_all rfl) rfl F10 X N10 h1 hyr6 (by rw [hyr6.length, ← canon_nil]; exact canon_len _ _ .nil) hin6 hz nk ?_
  intro gg7 zs7 own7 hz7
  k_steps
  unfold StopAt
  rename_i D11 h11 tk11 F11 N11 o11
  clear F10 N10
  refine eq_pairs (c := lookC (srt (c.map (·.1))) c) (e := lookC (srt (c.map (·.1))) c) N11 (.tail _ (.tail _ (.tail _ (.tail _ (List.mem_append_right _ (.head _)))))) (.head _) ?p3 ?p4 (by ktr_units) rfl ?_
  case p3 =>
    have e5 : canonC [] c = lookC (srt (c.map (·.1))) c := by unfold canonC lookC; rw [canon_nil]
    rw [← e5]
    exact hyr5.mono fun y p ⟨q, t, u, e, a1⟩ => ⟨q, t, u, e, .tail _ (.tail _ (.tail _ (.tail _ (List.mem_append_right _ (.tail _ (.tail _ (.tail _ (.tail _ (List.mem_append_left _ a1)))))))))⟩
  case p4 => exact hz7.mono fun y p ⟨q, t, u, e, a1⟩ => ⟨q, t, u, e, .tail _ (.tail _ (.tail _ (.tail _ (List.mem_append_left _ a1))))⟩
  k_steps
  exact ret _ _ _ ps5 R5 F11 (N11.perm (by
    intro p hp
    rcases List.mem_cons.mp hp with rfl | hp
    · exact .tail _ (.tail _ (.tail _ (.tail _ (List.mem_append_right _ (.tail _ (.tail _ (.tail _ (.head _))))))))
    · exact .tail _ (.tail _ (.tail _ (.tail _ (List.mem_append_right _ (.tail _ (.tail _ (.tail _ (.tail _ (List.mem_append_right _ hp)))))))))))
end

/-! ## law: the second pair and the comparisons of dicts -/
local macro_rules | `(tactic| walk_at "execs cons") => `(tactic| (k_here; (with_reducible show wpAny _ _ (execs (Stmt.If (PySem.Expr.BoolOp PySem.BoolOp.Or [_, _, _] _) _ _ _ :: Stmt.If _ _ _ _ :: _) _) _ _ _); refine unstop ?_))
section
variable {w : World} {p : Program} {loose : List Str} {mean : ExcName → Option Value} {mg mb : Str → Option Value} {base g : Heap} {L fa : Addr} {ccd : Value} {m₁ : Str → Option Value} {s : Shared} {Q : Flow → Shared → Prop} {E : Value → Shared → Prop} {R : List (Addr × Obj)}
variable {x dx d ka oq b : Addr} {ys zs : List Value} {kn ko : Nat} {o : List Nm} {es ez : List DictEntry} {n nz : Nat} {c : C} {oc1 oc2 : Obj} {B : Int} {tb : Tok}
set_option pp.deepTerms false
set_option pp.maxSteps 3000
set_option pp.proofs false
theorem law_B1
   (Bl : Below callerA base [] g) (F : Fr g L s.heap (fun z => if z = Str.ofString "told" then some (.ref x) else if z = Str.ofString "bag" then some (.ref b) else m₁ z)) (X : (hd.heap_39 w.params).In g)
   (N : News g L s.heap ((b, listOf #[.int B tb] 0) :: (x, cdObj dx es n) :: (dx, plObj [] 0) :: (d, plObj ez nz) :: (L + 1, oc1) :: (L + 1 + 1, oc2) :: R)) (T : Top p loose mean mg mb g)
   (h1 : oc1.data = .cell (some (.ref d))) (lox : (x == sysModules) = false) (lod : (d == sysModules) = false) (hc : KV w up es c) (hz : KV w up ez c) (nk : NK c)
   (bx : @Ne Nat b x) (bdx : @Ne Nat b dx) (bd : @Ne Nat b d) (bL : @LT.lt Nat _ (L + 1 + 1) b) (bR : ∀ p ∈ R, p.1 ≠ b) (xd : @Ne Nat x d) (xdx : @Ne Nat dx x)
   (ret : ∀ x2 dx2 es2 n2 d2 ez2 nz2 e B' t' h' (m' : Str → Option Value) tk', KV w up es2 e → KV w up ez2 e → NK e → (x2 == sysModules) = false → (d2 == sysModules) = false → @Ne Nat x x2 → @Ne Nat x d2 → Fr g L h' (fun z => if z = Str.ofString "second" then some (.ref d2) else if z = Str.ofString "other" then some (.ref x2) else if z = Str.ofString "told" then some (.ref x) else if z = Str.ofString "bag" then some (.ref b) else m' z) →
      News g L h' ((x2, cdObj dx2 es2 n2) :: (dx2, plObj [] 0) :: (d2, plObj ez2 nz2) :: (b, listOf #[.int B' t'] 0) :: (x, cdObj dx es n) :: (dx, plObj [] 0) :: (d, plObj ez nz) :: (L + 1, oc1) :: (L + 1 + 1, oc2) :: R) →
      wpAny (model PySem.Challenge.rw_bf0001_01.row.prog w) (callerA.deeper (lawEnv w L fa ccd)) (execs ((lawBody w).drop 5) (lawEnv w L fa ccd)) Q E { s with heap := h', toks := tk' }) :
   wpAny (model PySem.Challenge.rw_bf0001_01.row.prog w) (callerA.deeper (lawEnv w L fa ccd)) (execs ((lawBody w).drop 3) (lawEnv w L fa ccd)) Q E s := by
  unfold lawEnv at ret ⊢
  conv in (List.drop 3 (lawBody w)) => whnf
  conv in (occs := *) (lawScope w) => all_goals whnf
  revert X; k_fill; intro X
  k_steps
  unfold StopAt
  refine made_spec (b := b) Bl F X N T rfl ?hb (by ktr_room) (by ktr_units) ?_
  case hb => exact List.forall_mem_cons.mpr ⟨Ne.symm bx, List.forall_mem_cons.mpr ⟨Ne.symm bdx, List.forall_mem_cons.mpr ⟨Ne.symm bd, List.forall_mem_cons.mpr ⟨neN (by omega), List.forall_mem_cons.mpr ⟨neN (by omega), bR⟩⟩⟩⟩⟩
  intro tu x2 dx2 d2 es2 n2 ez2 nz2 e B2 t2 tk2 h2 kv2 kz2 ne2 lox2 lod2 bd2 ld2 l1 l2 l3 F2 N2
  k_lt ld2
  replace bd2 : @LT.lt Nat _ b d2 := bd2
  replace l1 : @LT.lt Nat _ d2 dx2 := l1
  replace l2 : @LT.lt Nat _ dx2 x2 := l2
  replace l3 : @LT.lt Nat _ x2 tu := l3
  k_steps
  · unfold StopAt
    rename_i h5 h4 h3 F3 N3 tk3 r B4 t3 t4 tk4 h6 hr0 hr1 F6 N6 e0
    clear F3 N3
    replace N6 := N6.perm (news' := (d, plObj ez nz) :: (L + 1, oc1) :: (b, listOf #[.int B4 t3] 0) :: (x, cdObj dx es n) :: (dx, plObj [] 0) :: (L + 1 + 1, oc2) :: R) (by ktr_rel)
    refine LCg.ListComp_U (F₀ := F6) (by with_unfolding_all rfl) (by decide) (by rfl) (by decide) (by rfl) ?_
    k_steps
    unfold StopAt
    refine so_dict rfl F6 N6 (.head _) hz nk lod ?_
    intro r6 kr6 yr6 h10 tk10 hyr6 l10 F10 N10
    clear F6 N6
    k_steps
    unfold StopAt
    have hin6 : ∀ k ∈ srt (c.map (·.1)), k ∈ c.map (·.1) := fun k hk => canon_mem (o := []) (by rw [canon_nil]; exact hk)
    refine due_src (c := c) (l := srt (c.map (·.1))) (R := (b, listOf #[.int B4 t3] 0) :: (x, cdObj dx es n) :: (dx, plObj [] 0) :: (L + 1 + 1, oc2) :: R) (by intro C; with_unfolding_all rfl) rfl F10 X N10 h1 hyr6 (by rw [hyr6.length, ← canon_nil]; exact canon_len _ _ .nil) hin6 hz nk ?_
    intro gg7 zs7 own7 hz7
    k_steps
    rename_i D11 h11 tk11 F11 N11 o11
    clear F10 N10
    generalize hlc : lookC (srt (c.map (·.1))) c = e3 at hz7
    refine k_dict_list (f := up) (c := e3) rfl (Top.nolimit T) up_inj F11 N11 (.head _) (hz7.mono fun y p ⟨q, t, u, e, a1⟩ => ⟨q, t, u, e, .tail _ (.tail _ (.tail _ (.tail _ (List.mem_append_left _ a1))))⟩) ?_
    intro S es3 n3 h12 tk12 kv3 lo3 ltS F12 N12
    have xS : @LT.lt Nat _ x S := ltS _ (.tail _ (.tail _ (.tail _ (.tail _ (List.mem_append_right _ (.tail _ (.head _)))))))
    clear F11 N11
    have ne3 : NK (puts [] e3) := NK.nil.puts e3
    generalize puts [] e3 = e4 at kv3 ne3
    replace N12 := N12.perm (news' := (S, plObj es3 n3) :: (b, listOf #[.int B4 t3] 0) :: (x, cdObj dx es n) :: (dx, plObj [] 0) :: (d, plObj ez nz) :: (L + 1, oc1) :: (L + 1 + 1, oc2) :: R) (by
      intro p hp
      simp only [List.mem_cons, List.mem_append] at hp ⊢
      rcases hp with rfl | rfl | rfl | rfl | rfl | rfl | rfl | hp <;> first | simp | simp [hp])
    k_steps
    unfold StopAt
    rename Fr _ _ _ _ => F13
    rename News _ _ _ _ => N13
    refine new_use (as := [.ref S]) (kws := []) (cm := e4) Bl F13 X N13 T rfl (fun x hx => .i1 (.dict 0 (.head _) (hx _ (.head _)) lo3 kv3 ne3)) (by ktr_room) (by ktr_units) ?_
    intro x3 dx3 es4 n4 tk14 h14 kv4 lo4 F14 N14 lt14 l14
    have xx3 : @LT.lt Nat _ x x3 := Nat.lt_trans (lt14 _ (.tail _ (.tail _ (.head _)))) l14
    clear F13 N13
    rw [puts_self ne3] at kv4
    k_steps
    unfold StopAt
    refine ret x3 dx3 es4 n4 S es3 n3 e4 B4 t3 _ _ _ kv4 kv3 ne3 lo4 lo3 (neN (Nat.ne_of_lt xx3)) (neN (Nat.ne_of_lt xS)) (fr4 (by assumption) rfl rfl rfl rfl) (News.perm (by assumption) (by ktr_rel))
  · unfold StopAt
    rename_i h5 h4 h3 F3 N3 tk3 r B4 t3 t4 tk4 h6 hr0 hr1 F6 N6 e0
    refine ret x2 dx2 es2 n2 d2 ez2 nz2 e B4 t3 _ _ _ kv2 kz2 ne2 lox2 lod2 (neN (by omega)) (neN (by omega)) (fr4 F6 rfl rfl rfl rfl) (N6.perm (by ktr_rel))
end

/-! ## law: the bag, the first pair, the loop of deeds -/
theorem range15 {r : Int} (h0 : 0 ≤ r) (h4 : r < 15) : Builtin.Range.small 0 r 1 = true ∧ Builtin.Range.rangeSize 0 r 1 = ((r.toNat : Nat) : Int) := by
  have h : ∀ k : Fin 15, Builtin.Range.small 0 ((k.val : Nat) : Int) 1 = true ∧ Builtin.Range.rangeSize 0 ((k.val : Nat) : Int) 1 = ((k.val : Nat) : Int) := by decide +kernel
  have e : ((r.toNat : Nat) : Int) = r := Int.toNat_of_nonneg h0
  have q := h ⟨r.toNat, by omega⟩
  dsimp only at q
  rw [e] at q
  rw [e]
  exact q
section
variable {prog : Program} {w : World} {A : Around} {E : Value → Shared → Prop} {s : Shared} {env : Env} {h₀ : Heap} {y : Str} {py : Pos} {body : List Stmt} {Q : Flow → Shared → Prop}
theorem loop_range {r : Addr} {a b : Int} {t u v : Tok} {n : Nat} {m₀ : Str → Option Value} {news : List (Addr × Obj)} (J : Nat → (Str → Option Value) → List (Addr × Obj) → Prop)
    (hh : A.handled = none) (F : Fr h₀ env.locals s.heap m₀) (N : News h₀ env.locals s.heap news) (hr : IsRange s.heap r a b 1 t u v) (hs : Builtin.Range.small a b 1 = true) (hn : Builtin.Range.rangeSize a b 1 = (n : Int)) (hj : J 0 m₀ news)
    (turn : ∀ i x t m₁ news₁ It (s₁ : Shared) oI, J i m₁ news₁ → (∀ p ∈ news₁, p.1 ≠ It) → (∀ p ∈ news, p.1 < It) → Fr h₀ env.locals s₁.heap m₁ → News h₀ env.locals s₁.heap ((It, oI) :: news₁) →
      wpAny (model prog w) A (assign (.Name y py) env (.int x t)) (fun _ s₃ => wpAny (model prog w) A (execs body env) (LoopPost h₀ env.locals (J (i + 1)) It oI (news₁.map (·.1)) s₁) E s₃) E s₁)
    (done : ∀ m₁ news₁ h tk, J n m₁ news₁ → Fr h₀ env.locals h m₁ → News h₀ env.locals h news₁ → Q .next { s with heap := h, toks := tk }) :
    wpAny (model prog w) A (pyIter (.ref r)) (fun it s₂ => LoopAtT prog w A h₀ env (.Name y py) body Q E it s₂) E s := by
  refine wpAny_pyIter_range hr hs ?_
  have W := Walks.range (prog := prog) (w := w) hh s.heap.objs.size a 1 n
  refine loop_walk J [] W ?_ (next_is_new F) (fun p hp => Nat.ne_of_lt (Heap.lt_size (N p hp).1)) (by show IsRangeIter _ _ _ _ _; rw [hn]; simpa using Heap.get?_push_size _ rfl) (fun i h st => ⟨_, st⟩) (F.push _) (fun p hp => ⟨Heap.get?_push_of_some _ (N p hp).1, (N p hp).2⟩)
    (fun i s' v Q' st hQ' => wpAny_pure hQ') hj ?_ (fun i m k hJ p hp => nomatch hp) ?_ done
  · intro hm
    exact absurd F.ns.lt ((List.mem_singleton.mp hm) ▸ Nat.lt_irrefl _)
  · intro b hb
    exact .inl (List.mem_singleton.mp hb)
  · intro i v m₁ news₁ s₁ oI hi hP hJ ha F₁ N₁
    obtain ⟨t, rfl⟩ := hP
    exact turn i _ t m₁ news₁ _ s₁ oI hJ ha (fun p hp => Heap.lt_size (N p hp).1) F₁ N₁
end
local macro_rules | `(tactic| walk_at "execs cons") => `(tactic| (k_here; (with_reducible show wpAny _ _ (execs (Stmt.Assign [PySem.Expr.Tuple [PySem.Expr.Name (Str.ofString "other") _, _] _ _] _ _ :: _) _) _ _ _); refine unstop ?_))
local macro_rules | `(tactic| walk_at "exec For") => `(tactic| (k_here; (with_reducible show wpAny _ _ (exec (Stmt.For (PySem.Expr.Name (Str.ofString "k") _) _ _ _ _) _) _ _ _); refine unstop ?_))
local macro_rules | `(tactic| walk_at "exec For Name Call cons nil") => `(tactic| (k_here; (with_reducible show wpAny _ _ (exec (Stmt.For (PySem.Expr.Name (Str.ofString "k") _) _ _ _ _) _) _ _ _); refine unstop ?_))
local macro_rules | `(tactic| walk_at "call ref") => `(tactic| (k_here; (with_reducible show wpAny _ _ (call (Value.ref 180) _ _) _ _ _); refine unstop ?_))
section
variable {w : World} {p : Program} {loose : List Str} {mean : ExcName → Option Value} {mg mb : Str → Option Value} {base g : Heap} {L fa : Addr} {ccd : Value} {m₁ : Str → Option Value} {s : Shared} {Q : Flow → Shared → Prop} {E : Value → Shared → Prop} {R : List (Addr × Obj)}
variable {oc1 oc2 : Obj} {sa : Addr} {vs : List Value} {ns : List Int}
set_option pp.deepTerms false
set_option pp.maxSteps 3000
set_option pp.proofs false
theorem law_A
   (Bl : Below callerA base [] g) (F : Fr g L s.heap (fun z => if z = Str.ofString "script" then some (.ref sa) else m₁ z)) (X : (hd.heap_39 w.params).In g)
   (N : News g L s.heap ((L + 1, oc1) :: (L + 1 + 1, oc2) :: (32, tabObj #[]) :: [])) (T : Top p loose mean mg mb g)
   (hc1 : oc1.data = .cell none) (hl : g.IsList sa vs.toArray) (hi : IntsAre vs ns) (hn : ns.length ≤ 63) (L32 : @LT.lt Nat _ 32 L) (hE : PassesOwn (model PySem.Challenge.rw_bf0001_01.row.prog w) (callerA.deeper (lawEnv w L fa ccd)) (lawEnv w L fa ccd) E)
   (ret : ∀ b x dx d es n ez nz c oc1' B t h' (m' : Str → Option Value) tk', KV w up es c → KV w up ez c → NK c → (x == sysModules) = false → (d == sysModules) = false → oc1'.data = .cell (some (.ref d)) →
      @LT.lt Nat _ (L + 1 + 1) b → @LT.lt Nat _ b d → @LT.lt Nat _ d dx → @LT.lt Nat _ dx x → Fr g L h' (fun z => if z = Str.ofString "told" then some (.ref x) else if z = Str.ofString "bag" then some (.ref b) else m' z) →
      News g L h' ((b, listOf #[.int B t] 0) :: (x, cdObj dx es n) :: (dx, plObj [] 0) :: (d, plObj ez nz) :: (L + 1, oc1') :: (L + 1 + 1, oc2) :: (32, tabObj #[]) :: []) →
      wpAny (model PySem.Challenge.rw_bf0001_01.row.prog w) (callerA.deeper (lawEnv w L fa ccd)) (execs ((lawBody w).drop 3) (lawEnv w L fa ccd)) Q E { s with heap := h', toks := tk' }) :
   wpAny (model PySem.Challenge.rw_bf0001_01.row.prog w) (callerA.deeper (lawEnv w L fa ccd)) (execs (lawBody w) (lawEnv w L fa ccd)) Q E s := by
  unfold lawEnv at ret hE ⊢
  conv in (lawBody w) => whnf
  conv in (occs := *) (lawScope w) => all_goals whnf
  revert X; k_fill; intro X
  k_steps
  unfold StopAt
  refine bag_spec Bl F X N T rfl hl hi hn (by ktr_room) (by ktr_units) ?_
  intro b B tb tk1 h1 lb F1 N1
  k_lt lb
  k_steps
  unfold StopAt
  rename Fr _ _ _ _ => F2
  rename News _ _ _ _ => N2
  refine made_spec (b := b) Bl F2 X N2 T rfl ?hb (by ktr_room) (by ktr_units) ?_
  case hb => exact List.forall_mem_cons.mpr ⟨neN (by first | exact Nat.ne_of_lt (by lcg_src) | exact Nat.ne_of_gt (by lcg_src) | omega), List.forall_mem_cons.mpr ⟨neN (by first | exact Nat.ne_of_lt (by lcg_src) | exact Nat.ne_of_gt (by lcg_src) | omega), List.forall_mem_cons.mpr ⟨neN (by first | exact Nat.ne_of_lt (by lcg_src) | exact Nat.ne_of_gt (by lcg_src) | omega), List.forall_mem_nil _⟩⟩⟩
  intro tu x dx d es n ez nz c B2 t2 tk2 h2 kv2 kz2 nk2 lox lod bd ld l1 l2 l3 F3 N3
  clear F2 N2
  k_lt ld
  replace bd : @LT.lt Nat _ b d := bd
  replace l1 : @LT.lt Nat _ d dx := l1
  replace l2 : @LT.lt Nat _ dx x := l2
  replace l3 : @LT.lt Nat _ x tu := l3
  have bdx : @LT.lt Nat _ b dx := Nat.lt_trans bd l1
  have bx : @LT.lt Nat _ b x := Nat.lt_trans bdx l2
  have dxx : @LT.lt Nat _ d x := Nat.lt_trans l1 l2
  have q1 : @LT.lt Nat _ (L + 1) dx := Nat.lt_trans ld.1 l1
  have q2 : @LT.lt Nat _ (L + 1 + 1) dx := Nat.lt_trans ld.2.1 l1
  have q3 : @LT.lt Nat _ 32 dx := Nat.lt_trans ld.2.2 l1
  have r1 : @LT.lt Nat _ (L + 1) x := Nat.lt_trans q1 l2
  have r2 : @LT.lt Nat _ (L + 1 + 1) x := Nat.lt_trans q2 l2
  have r3 : @LT.lt Nat _ 32 x := Nat.lt_trans q3 l2
  k_steps
  unfold StopAt
  refine For_invTF (by assumption) ?_ (by intro x; rfl) (by with_unfolding_all exact hE)
  k_steps
  rename_i h3 h4 h5 oc1' F4 N4 d4 r B5 t5 t6 tk6 h6 hr0 hr1 F6 N6 h7 tk7 ta tb tc hR F7 N7 kp
  clear F4 N4 F6 N6
  replace N7 := N7.perm (news' := (b, listOf #[.int B5 t5] 0) :: (x, cdObj dx es n) :: (dx, plObj [] 0) :: (d, plObj ez nz) :: (L + 1, oc1') :: (L + 1 + 1, oc2) :: (32, tabObj #[]) :: []) (by ktr_rel)
  refine loop_range (J := fun i m' l => ∃ es' n' ez' nz' c' B' t', l = (b, listOf #[.int B' t'] 0) :: (x, cdObj dx es' n') :: (dx, plObj [] 0) :: (d, plObj ez' nz') :: (L + 1, oc1') :: (L + 1 + 1, oc2) :: (32, tabObj #[]) :: [] ∧ KV w up es' c' ∧ KV w up ez' c' ∧ NK c' ∧ Two (Str.ofString "k") (Str.ofString "k") _ m') rfl F7 N7 hR (range15 hr0 hr1).1 (range15 hr0 hr1).2 ⟨es, n, ez, nz, c, B5, t5, rfl, kv2, kz2, nk2, Two.refl⟩ ?turn ?done
  case turn =>
    rintro i y ty m9 news9 It s9 oI ⟨es', n', ez', nz', c', B', t', rfl, kv', kz', nk', h2'⟩ off _ F8 N8
    rw [h2'.eq] at F8
    have o1 := off _ (.head _)
    have o2 := off _ (.tail _ (.head _))
    have o3 := off _ (.tail _ (.tail _ (.head _)))
    have o4 := off _ (.tail _ (.tail _ (.tail _ (.head _))))
    clear F7 N7
    k_steps
    unfold StopAt
    rename Fr _ _ _ _ => F9
    rename News _ _ _ _ => N9
    have o1' : @Ne Nat b It := o1
    have o2' : @Ne Nat x It := o2
    have o3' : @Ne Nat dx It := o3
    have o4' : @Ne Nat d It := o4
    refine deed_spec (b := b) (x := x) (dx := dx) (d := d) (rest := (It, oI) :: (L + 1, oc1') :: (L + 1 + 1, oc2) :: (32, tabObj #[]) :: []) Bl F9 X (N9.perm (by ktr_rel)) T rfl (neN (by first | exact Nat.ne_of_lt (by lcg_src) | exact Nat.ne_of_gt (by lcg_src) | omega)) (neN (by first | exact Nat.ne_of_lt (by lcg_src) | exact Nat.ne_of_gt (by lcg_src) | omega)) (neN (by first | exact Nat.ne_of_lt (by lcg_src) | exact Nat.ne_of_gt (by lcg_src) | omega)) (neN (by first | exact Nat.ne_of_lt (by lcg_src) | exact Nat.ne_of_gt (by lcg_src) | omega)) (neN (by first | exact Nat.ne_of_lt (by lcg_src) | exact Nat.ne_of_gt (by lcg_src) | omega)) (neN (by first | exact Nat.ne_of_lt (by lcg_src) | exact Nat.ne_of_gt (by lcg_src) | omega)) ?rb ?rx ?rdx ?rd lox lod kv' kz' nk' (by ktr_room) (by ktr_units) ?_
    case rb => exact List.forall_mem_cons.mpr ⟨Ne.symm o1, List.forall_mem_cons.mpr ⟨neN (by first | exact Nat.ne_of_lt (by lcg_src) | exact Nat.ne_of_gt (by lcg_src) | omega), List.forall_mem_cons.mpr ⟨neN (by first | exact Nat.ne_of_lt (by lcg_src) | exact Nat.ne_of_gt (by lcg_src) | omega), List.forall_mem_cons.mpr ⟨neN (by first | exact Nat.ne_of_lt (by lcg_src) | exact Nat.ne_of_gt (by lcg_src) | omega), List.forall_mem_nil _⟩⟩⟩⟩
    case rx => exact List.forall_mem_cons.mpr ⟨Ne.symm o2, List.forall_mem_cons.mpr ⟨neN (by first | exact Nat.ne_of_lt (by lcg_src) | exact Nat.ne_of_gt (by lcg_src) | omega), List.forall_mem_cons.mpr ⟨neN (by first | exact Nat.ne_of_lt (by lcg_src) | exact Nat.ne_of_gt (by lcg_src) | omega), List.forall_mem_cons.mpr ⟨neN (by first | exact Nat.ne_of_lt (by lcg_src) | exact Nat.ne_of_gt (by lcg_src) | omega), List.forall_mem_nil _⟩⟩⟩⟩
    case rdx => exact List.forall_mem_cons.mpr ⟨Ne.symm o3, List.forall_mem_cons.mpr ⟨neN (by first | exact Nat.ne_of_lt (by lcg_src) | exact Nat.ne_of_gt (by lcg_src) | omega), List.forall_mem_cons.mpr ⟨neN (by first | exact Nat.ne_of_lt (by lcg_src) | exact Nat.ne_of_gt (by lcg_src) | omega), List.forall_mem_cons.mpr ⟨neN (by first | exact Nat.ne_of_lt (by lcg_src) | exact Nat.ne_of_gt (by lcg_src) | omega), List.forall_mem_nil _⟩⟩⟩⟩
    case rd => exact List.forall_mem_cons.mpr ⟨Ne.symm o4, List.forall_mem_cons.mpr ⟨neN (by first | exact Nat.ne_of_lt (by lcg_src) | exact Nat.ne_of_gt (by lcg_src) | omega), List.forall_mem_cons.mpr ⟨neN (by first | exact Nat.ne_of_lt (by lcg_src) | exact Nat.ne_of_gt (by lcg_src) | omega), List.forall_mem_cons.mpr ⟨neN (by first | exact Nat.ne_of_lt (by lcg_src) | exact Nat.ne_of_gt (by lcg_src) | omega), List.forall_mem_nil _⟩⟩⟩⟩
    intro es6 n6 ez6 nz6 c6 B6 u6 tk10 h10 kv6 kz6 nk6 F10 N10
    clear F9 N9 F8 N8
    k_steps
    rename_i v1 h11 F11 N11 l11
    clear F10 N10
    refine k_list_items rfl F11 N11 (.head _) (.tail _ (.tail _ (.head _))) rfl kv6 nk6 ?_
    intro D1 kn1 ys1 own1 h12 tk12 hy1 lt1 lo1 F12 N12
    have xx1 : @LT.lt Nat _ x D1 := lt1 _ (.tail _ (.tail _ (.head _)))
    replace N12 := N12.perm (news' := (d, plObj ez6 nz6) :: (L + 1, oc1') :: (D1, listOf ys1.toArray kn1) :: (own1 ++ (b, listOf #[.int B6 u6] 0) :: (x, cdObj dx es6 n6) :: (dx, plObj [] 0) :: (d, plObj ez6 nz6) :: (It, oI) :: (L + 1, oc1') :: (L + 1 + 1, oc2) :: (32, tabObj #[]) :: []))
      (List.forall_mem_cons.mpr ⟨.tail _ (List.mem_append_right _ (by k_mem)), List.forall_mem_cons.mpr ⟨.tail _ (List.mem_append_right _ (by k_mem)), List.forall_mem_cons.mpr ⟨.head _, fun p hp => .tail _ ((List.mem_append.mp hp).elim (fun hp => List.mem_append_left _ hp) (fun hp => List.mem_append_right _ (.tail _ hp)))⟩⟩⟩)
    clear F11 N11
    k_steps
    rename_i v2 h13 F13 N13 l13
    clear F12 N12
    refine k_list_items rfl F13 N13 (.head _) (.tail _ (.head _)) rfl kz6 nk6 ?_
    intro D2 kn2 ys2 own2 h14 tk14 hy2 lt2 lo2 F14 N14
    clear F13 N13
    k_steps
    unfold StopAt
    refine ne_pairs (c := c6) (e := c6) N14 (.tail _ (List.mem_append_right _ (.tail _ (.tail _ (.tail _ (.head _)))))) (.head _) (hy1.mono fun y p ⟨q, t, u, e, a1⟩ => ⟨q, t, u, e, .tail _ (List.mem_append_right _ (.tail _ (.tail _ (.tail _ (.tail _ (List.mem_append_left _ a1))))))⟩) (hy2.mono fun y p ⟨q, t, u, e, a1⟩ => ⟨q, t, u, e, .tail _ (List.mem_append_left _ a1)⟩) (by ktr_units) rfl ?_
    replace N14 := N14.perm (news' := (It, oI) :: (b, listOf #[.int B6 u6] 0) :: (x, cdObj dx es6 n6) :: (dx, plObj [] 0) :: (d, plObj ez6 nz6) :: (L + 1, oc1') :: (L + 1 + 1, oc2) :: (32, tabObj #[]) :: [])
      (fun p hp => .tail _ (List.mem_append_right _ (.tail _ (.tail _ (.tail _ (.tail _ (List.mem_append_right _ ((by ktr_rel : ∀ p ∈ (It, oI) :: (b, listOf #[.int B6 u6] 0) :: (x, cdObj dx es6 n6) :: (dx, plObj [] 0) :: (d, plObj ez6 nz6) :: (L + 1, oc1') :: (L + 1 + 1, oc2) :: (32, tabObj #[]) :: [], p ∈ (b, listOf #[.int B6 u6] 0) :: (x, cdObj dx es6 n6) :: (dx, plObj [] 0) :: (d, plObj ez6 nz6) :: (It, oI) :: (L + 1, oc1') :: (L + 1 + 1, oc2) :: (32, tabObj #[]) :: []) p hp))))))))
    k_steps
    refine' LoopPost.intro ((b, listOf #[.int B6 u6] 0) :: (x, cdObj dx es6 n6) :: (dx, plObj [] 0) :: (d, plObj ez6 nz6) :: (L + 1, oc1') :: (L + 1 + 1, oc2) :: (32, tabObj #[]) :: []) ?F ?N ?s ?a ⟨_, _, _, _, _, _, _, rfl, kv6, kz6, nk6, ?two⟩
    case F => assumption
    case N => assumption
    case s => ktr_rel
    case a => rfl
    case two => intro z z1 z2; simp only [if_neg z1]
  case done =>
    rintro m9 news9 h8 tk8 ⟨es', n', ez', nz', c', B', t', rfl, kv', kz', nk', h2'⟩ F8 N8
    rw [h2'.eq] at F8
    k_steps
    unfold StopAt
    exact ret b x dx d es' n' ez' nz' c' oc1' B' t' _ _ _ kv' kz' nk' lox lod d4 lb.2.1 bd l1 l2 (fr2 F8 rfl rfl) N8
end

/-! ## law, joined -/
theorem fr1s {h₀ h : Heap} {L : Addr} {m : Str → Option Value} {a : Value} (F : Fr h₀ L h m) (h1 : m (Str.ofString "script") = some a) :
    Fr h₀ L h (fun z => if z = Str.ofString "script" then some a else m z) := Fr.eqv F fun y => by
  by_cases q1 : y = Str.ofString "script"
  · rw [if_pos q1, q1, h1]
  · rw [if_neg q1]
section
variable {w : World} {p : Program} {loose : List Str} {mean : ExcName → Option Value} {mg mb : Str → Option Value} {base g : Heap} {L fa : Addr} {ccd : Value} {m₁ : Str → Option Value} {s : Shared} {Q : Flow → Shared → Prop} {E : Value → Shared → Prop}
variable {oc1 oc2 : Obj} {sa : Addr} {vs : List Value} {ns : List Int}
theorem law_all
   (Bl : Below callerA base [] g) (F : Fr g L s.heap (fun z => if z = Str.ofString "script" then some (.ref sa) else m₁ z)) (X : (hd.heap_39 w.params).In g)
   (N : News g L s.heap ((L + 1, oc1) :: (L + 1 + 1, oc2) :: (32, tabObj #[]) :: [])) (T : Top p loose mean mg mb g) (hC : CodeHd base 34 32)
   (hc1 : oc1.data = .cell none) (hc2 : oc2.data = .cell none) (hl : g.IsList sa vs.toArray) (hi : IntsAre vs ns) (hn : ns.length ≤ 63) (L32 : @LT.lt Nat _ 32 L)
   (hE : PassesOwn (model PySem.Challenge.rw_bf0001_01.row.prog w) (callerA.deeper (lawEnv w L fa ccd)) (lawEnv w L fa ccd) E)
   (ret : ∀ h' m' tk' ps' R', Fr g L h' m' → News g L h' ((32, tabObj ps') :: R') → Q (.ret (.bool true)) { s with heap := h', toks := tk' }) :
   wpAny (model PySem.Challenge.rw_bf0001_01.row.prog w) (callerA.deeper (lawEnv w L fa ccd)) (execs (lawBody w) (lawEnv w L fa ccd)) Q E s := by
  refine law_A Bl F X N T hc1 hl hi hn L32 hE ?_
  intro b x dx d es n ez nz c oc1' B tb h1 m1 tk1 kv kz nk lox lod d1 bL bd ld lx F1 N1
  have bdx : @LT.lt Nat _ b dx := Nat.lt_trans bd ld
  have bx : @LT.lt Nat _ b x := Nat.lt_trans bdx lx
  have dx_ : @LT.lt Nat _ d x := Nat.lt_trans ld lx
  have b32 : @LT.lt Nat _ 32 b := Nat.lt_trans L32 (Nat.lt_trans (Nat.lt_succ_of_lt (Nat.lt_succ_self L)) bL)
  have d32 : @LT.lt Nat _ 32 d := Nat.lt_trans b32 bd
  have x32 : @LT.lt Nat _ 32 x := Nat.lt_trans b32 bx
  have dx32 : @LT.lt Nat _ 32 dx := Nat.lt_trans b32 bdx
  have xL : @LT.lt Nat _ (L + 1 + 1) x := Nat.lt_trans bL bx
  have dxL : @LT.lt Nat _ (L + 1 + 1) dx := Nat.lt_trans bL bdx
  have L2 : @LT.lt Nat _ 32 (L + 1 + 1) := Nat.lt_succ_of_lt (Nat.lt_succ_of_lt L32)
  refine law_B1 Bl F1 X N1 T d1 lox lod kv kz nk (neN (by first | exact Nat.ne_of_lt (by lcg_src) | exact Nat.ne_of_gt (by lcg_src) | omega)) (neN (by first | exact Nat.ne_of_lt (by lcg_src) | exact Nat.ne_of_gt (by lcg_src) | omega)) (neN (by first | exact Nat.ne_of_lt (by lcg_src) | exact Nat.ne_of_gt (by lcg_src) | omega)) bL (List.forall_mem_cons.mpr ⟨neN (by first | exact Nat.ne_of_lt (by lcg_src) | exact Nat.ne_of_gt (by lcg_src) | omega), List.forall_mem_nil _⟩) (neN (by first | exact Nat.ne_of_lt (by lcg_src) | exact Nat.ne_of_gt (by lcg_src) | omega)) (neN (by first | exact Nat.ne_of_lt (by lcg_src) | exact Nat.ne_of_gt (by lcg_src) | omega)) ?_
  intro x2 dx2 es2 n2 d2 ez2 nz2 e B2 t2 h2 m2 tk2 kv2 kz2 ne2 lox2 lod2 xx2 xd2 F2 N2
  refine law_B2 Bl F2 X N2 T d1 lox lod lox2 lod2 kv kz nk kv2 kz2 ne2 (neN (by first | exact Nat.ne_of_lt (by lcg_src) | exact Nat.ne_of_gt (by lcg_src) | omega)) xx2 xd2 ?_
  intro h3 m3 tk3 F3 N3
  refine law_C (R := (x, cdObj dx es n) :: (dx, plObj [] 0) :: (32, tabObj #[]) :: []) Bl F3 X (N3.perm (by ktr_rel)) T d1 hc2 lod hC kz nk
    (List.forall_mem_cons.mpr ⟨neN (by first | exact Nat.ne_of_lt (by lcg_src) | exact Nat.ne_of_gt (by lcg_src) | omega), List.forall_mem_cons.mpr ⟨neN (by first | exact Nat.ne_of_lt (by lcg_src) | exact Nat.ne_of_gt (by lcg_src) | omega), List.forall_mem_cons.mpr ⟨neN (by first | exact Nat.ne_of_lt (by lcg_src) | exact Nat.ne_of_gt (by lcg_src) | omega), List.forall_mem_nil _⟩⟩⟩) (neN (by first | exact Nat.ne_of_lt (by lcg_src) | exact Nat.ne_of_gt (by lcg_src) | omega)) bL (Nat.lt_trans bL bd)
    (List.forall_mem_cons.mpr ⟨neN (by first | exact Nat.ne_of_lt (by lcg_src) | exact Nat.ne_of_gt (by lcg_src) | omega), List.forall_mem_cons.mpr ⟨neN (by first | exact Nat.ne_of_lt (by lcg_src) | exact Nat.ne_of_gt (by lcg_src) | omega), List.forall_mem_cons.mpr ⟨neN (by first | exact Nat.ne_of_lt (by lcg_src) | exact Nat.ne_of_gt (by lcg_src) | omega), List.forall_mem_nil _⟩⟩⟩) ?_
  intro ka kn ys oq ko zs o oc2' B4 t4 h4 m4 tk4 hy hq ho d2' lk lq F4 N4
  have k32 : @LT.lt Nat _ 32 ka := lk _ (.tail _ (.tail _ (.head _)))
  have q32 : @LT.lt Nat _ 32 oq := lq _ (.tail _ (.tail _ (.head _)))
  exact law_D (R := []) Bl F4 X (N4.perm (by ktr_rel)) T d1 d2' (neN (by first | exact Nat.ne_of_lt (by lcg_src) | exact Nat.ne_of_gt (by lcg_src) | omega)) lox lod (neN (by first | exact Nat.ne_of_lt (by lcg_src) | exact Nat.ne_of_gt (by lcg_src) | omega)) (neN (by first | exact Nat.ne_of_lt (by lcg_src) | exact Nat.ne_of_gt (by lcg_src) | omega)) (neN (by first | exact Nat.ne_of_lt (by lcg_src) | exact Nat.ne_of_gt (by lcg_src) | omega)) (neN (by first | exact Nat.ne_of_lt (by lcg_src) | exact Nat.ne_of_gt (by lcg_src) | omega)) (neN (by first | exact Nat.ne_of_lt (by lcg_src) | exact Nat.ne_of_gt (by lcg_src) | omega)) L32 (List.forall_mem_nil _) hC kv kz nk ho hy hq
    fun h' m' tk' ps' R' F5 N5 => ret h' m' tk' ps' R' F5 N5
end

/-! ## the law ends and gives True -/
theorem law_holds : PySem.Challenge.rw_bf0001_01.Holds := hd (by
  k_go0
  rename Below callerA _ [] _ => Bl9
  rename Fr _ _ _ _ => F9
  rename News _ _ _ _ => N9
  rename (hd.heap_39 _).In (ghostOf _ _) => X9
  rename Top _ _ _ _ _ (ghostOf _ _) => T9
  rename IntsAre _ _ => I9
  rename (32 < _) => l9
  refine wpAny_noRaise ?_
  refine law_all Bl9 (fr1s F9 (by with_unfolding_all rfl)) X9 (N9.perm (by ktr_rel)) T9 codeHd ?c1 ?c2 lifted I9 ?len l9 PassesOwn.never ?ret
  case c1 => exact Eq.trans (by assumption) (by with_unfolding_all rfl)
  case c2 => exact Eq.trans (by assumption) (by with_unfolding_all rfl)
  case len => omega
  case ret =>
    intro h' m' tk' ps' R' F5 N5
    clear F9 N9
    k_steps)

end Mine
theorem PySem.Challenge.cw_bf0001_01_holds : PySem.Challenge.rw_bf0001_01.Holds := by
  exact Mine.law_holds
