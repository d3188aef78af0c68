import PyProof.Rows.All
import Wide.All
import OpenK.AllK
import Wide.FinOn
import PySem.Challenge.RW_ez0282_01
open PySem PySem.W PyProof.Rows
set_option Elab.async false
set_option maxRecDepth 100000
set_option maxHeartbeats 8000000
namespace Mine
open_top hd for PySem.Challenge.rw_ez0282_01
end Mine
section
open PySem PySem.W PySem.Calls PyProof.Rows PySem.Spec
set_option Elab.async false
set_option maxRecDepth 100000
set_option maxHeartbeats 4000000
namespace Mine
/-- one sign that a word may hold -/
def wordc (c : Int) : Bool := Txt.isalnum ⟨#[c.toNat]⟩ || !((⟨#[c.toNat]⟩ : Str) != Str.ofString "_")
def wordsF (x : Str) (i : Int) : Bool := decide (¬ (x.length : Int) < i) && (KStt.codes (Txt.slice x none (some i))).all wordc
theorem words_short {x : Str} {i : Int} (h : (x.length : Int) < i) : false = wordsF x i := by simp [wordsF, h]
theorem words_bad {x : Str} {i : Int} {pre post : List Int} {n : Nat} (e : KStt.codes (Txt.slice x none (some i)) = pre ++ (n : Int) :: post) (h1 : Txt.isalnum ⟨#[n]⟩ = false) (h2 : ((⟨#[n]⟩ : Str) != Str.ofString "_") = true) : false = wordsF x i := by
  have : wordc (n : Int) = false := by unfold wordc; simp only [Int.toNat_natCast, h1, h2]; rfl
  simp [wordsF, e, this]
theorem words_good {x : Str} {i : Int} (h : ¬ (x.length : Int) < i) (h1 : ∀ c ∈ KStt.codes (Txt.slice x none (some i)), wordc c = true) : true = wordsF x i := by
  have : (KStt.codes (Txt.slice x none (some i))).all wordc = true := List.all_eq_true.mpr h1
  rw [wordsF, this]; simp [h]
theorem word_snoc {P : Int → Prop} {pre : List Int} {n : Int} (h : ∀ c ∈ pre, P c) (hn : P n) : ∀ c ∈ pre ++ [n], P c := by
  intro c hc
  rcases List.mem_append.mp hc with hc | hc
  · exact h c hc
  · rw [List.mem_singleton.mp hc]; exact hn
theorem wordc_1 {n : Nat} (h : Txt.isalnum ⟨#[n]⟩ = true) : wordc (n : Int) = true := by simp [wordc, h]
theorem wordc_2 {n : Nat} (h : ((⟨#[n]⟩ : Str) != Str.ofString "_") = false) : wordc (n : Int) = true := by simp only [wordc, Int.toNat_natCast, h]; simp
theorem newsL {h₀ h : Heap} {L : Addr} {a b : List (Addr × Obj)} (N : News h₀ L h (a ++ b)) : News h₀ L h a := fun p hp => N p (List.mem_append_left _ hp)

section
variable {w : World} {loose : List Str} {mean : ExcName → Option Value} {mg mb : Str → Option Value} {dp un : Nat} {gd : Option (List Code)} {cn : Str} {cs : Scope} {a : Addr} {ccd : Value} {cl : List (Str × Addr)} {outer : List Env} {A₀ : Around} {base h₀ : Heap} {L : Addr} {m : Str → Option Value} {s : Shared} {Q E : Value → Shared → Prop} {news : List (Addr × Obj)}

local macro_rules | `(tactic| walk_at "exec For Name Subscript cons nil") => `(tactic| (k_here; (rename Fr _ _ _ _ => lF'); (with_unfolding_all refine' For_invVF lF' ?k1 ?k2 ?_; (case k1 => exact rfl); (case k2 => exact rfl); k_whole)))

theorem c_words {x : Str} {t t2 : Tok} {i : Int} (B : Below A₀ base outer h₀) (F : Fr h₀ L s.heap m) (X : (hd.heap_39 w.params).In h₀) (N : News h₀ L s.heap news) (T : Top hd.view_39 loose mean mg mb h₀) (hk : cs.kind = .function)
    (hp1 : 0 ≤ i) (hp2 : i ≤ 9) (hp3 : x.length ≤ 100) (hdp : dp + 1 < recursionLimit) (hu : un + 8 < cLine)
    (hret : ∀ (t : Tok) (h' : Heap) (tk' : Nat), Fr h₀ L h' m → News h₀ L h' news → Q (.bool (wordsF x i)) { s with heap := h', toks := tk' }) :
    wpAny (model PySem.Challenge.rw_ez0282_01.row.prog w) (ktrTop dp un gd cn cs L a ccd cl outer) (call (.ref 344) [.str x t, .int i t2]) Q E s := by
  k_with_none
  w_top off
  revert B F X N T hk hp1 hp2 hp3 hdp hu hret
  k_fill
  intro B F X N T hk hp1 hp2 hp3 hdp hu hret
  refine wpAny_call ?_
  k_dflt cell_enter
  k_with "pyIter str" => ((rename Fr _ _ _ _ => lF'); (rename News _ _ _ _ => lN'); (with_unfolding_all refine' KStt.kst_text (σ := Unit) (fun _ => _) (fun _ => []) (fun _ => True) [] (fun pre _ => ∀ c ∈ pre, wordc c = true) () (by rfl) lF' lN' True.intro (List.forall_mem_nil _) ?kp ?_ ?_); (case kp => exact List.forall_mem_nil _); (all_goals (try clear lF' lN')); (all_goals (intros; try k_fold)))
  k_steps
  all_goals first
    | (refine kst_end () (by assumption) (by assumption) (fun p hp => List.mem_append_left _ hp) (fun p hp => List.mem_append_right _ hp) rfl True.intro (List.forall_mem_nil _) (fun z h1 _ _ => if_neg h1) (word_snoc (by assumption) ?_)
       first | exact wordc_1 (by assumption) | exact wordc_2 (by assumption))
    | (refine cb_retB hret ?_ (by assumption) (by assumption)
       first | exact words_short (by assumption) | exact words_good (by assumption) (by assumption))
    | (refine cb_retB hret ?_ (by assumption) (newsL (by assumption))
       exact words_bad (by assumption) (by assumption) (by assumption))
end
end Mine
end
section
open PySem PySem.W PySem.Calls PyProof.Rows PySem.Spec
set_option Elab.async false
set_option maxRecDepth 100000
set_option maxHeartbeats 4000000
set_option linter.unusedVariables false
namespace Mine
def sumZ (l : List Int) : Int := l.foldl (fun v c => ((v.toNat ^^^ c.toNat : Nat) : Int)) 0
theorem xor_add (a b : Nat) : a + b = (a ^^^ b) + 2 * (a &&& b) := by
  induction a using Nat.strongRecOn generalizing b with
  | _ a ih =>
    by_cases ha : a = 0
    · subst ha; simp
    · have h := ih (a / 2) (by omega) (b / 2)
      have e1 : (a ^^^ b) / 2 = a / 2 ^^^ b / 2 := Nat.xor_div_two
      have e2 : (a &&& b) / 2 = a / 2 &&& b / 2 := Nat.and_div_two
      have e3 : (a ^^^ b) % 2 = ((a % 2) ^^^ (b % 2)) := by
        have := @Nat.xor_mod_two_pow a b 1
        simpa only [Nat.pow_one] using this
      have e4 : (a &&& b) % 2 = ((a % 2) &&& (b % 2)) := by
        have := @Nat.and_mod_two_pow a b 1
        simpa only [Nat.pow_one] using this
      rw [← e1, ← e2] at h
      rcases Nat.mod_two_eq_zero_or_one a with h1 | h1 <;> rcases Nat.mod_two_eq_zero_or_one b with h2 | h2
      · have f3 : (a ^^^ b) % 2 = 0 := by rw [e3, h1, h2]; rfl
        have f4 : (a &&& b) % 2 = 0 := by rw [e4, h1, h2]; rfl
        omega
      · have f3 : (a ^^^ b) % 2 = 1 := by rw [e3, h1, h2]; rfl
        have f4 : (a &&& b) % 2 = 0 := by rw [e4, h1, h2]; rfl
        omega
      · have f3 : (a ^^^ b) % 2 = 1 := by rw [e3, h1, h2]; rfl
        have f4 : (a &&& b) % 2 = 0 := by rw [e4, h1, h2]; rfl
        omega
      · have f3 : (a ^^^ b) % 2 = 0 := by rw [e3, h1, h2]; rfl
        have f4 : (a &&& b) % 2 = 1 := by rw [e4, h1, h2]; rfl
        omega
theorem sum_step {v : Int} {n : Nat} (h0 : 0 ≤ v) : v + (n : Int) - 2 * Builtin.bitAnd v (n : Int) = ((v.toNat ^^^ n : Nat) : Int) := by
  have hn : (0 : Int) ≤ (n : Int) := Int.natCast_nonneg n
  have e : Builtin.bitAnd v (n : Int) = ((v.toNat &&& n : Nat) : Int) := by
    simp [Builtin.bitAnd, h0, hn]
  rw [e]
  have := xor_add v.toNat n
  omega
theorem sumZ_snoc (l : List Int) (n : Nat) : sumZ (l ++ [(n : Int)]) = (((sumZ l).toNat ^^^ n : Nat) : Int) := by
  simp [sumZ, List.foldl_append]
theorem sum_turn {pre : List Int} {v : Int} {n : Nat} (h : v = sumZ pre) (h0 : 0 ≤ v) (h1 : v < 128) (hn : n < 128) : v + (n : Int) - 2 * Builtin.bitAnd v (n : Int) = sumZ (pre ++ [(n : Int)]) ∧ 0 ≤ v + (n : Int) - 2 * Builtin.bitAnd v (n : Int) ∧ v + (n : Int) - 2 * Builtin.bitAnd v (n : Int) < 128 := by
  rw [sumZ_snoc, sum_step h0, ← h]
  refine ⟨rfl, Int.natCast_nonneg _, ?_⟩
  have : v.toNat ^^^ n < 2 ^ 7 := Nat.xor_lt_two_pow (by omega) (by omega)
  omega
theorem code_lt {x : Str} {pre post : List Int} {n : Nat} (hp : ∀ c ∈ KStt.codes x, 0 ≤ c ∧ c < 128) (e : KStt.codes x = pre ++ (n : Int) :: post) : n < 128 := by
  have := hp n (by rw [e]; exact List.mem_append_right _ (.head _))
  omega
section
variable {w : World} {loose : List Str} {mean : ExcName → Option Value} {mg mb : Str → Option Value} {dp un : Nat} {gd : Option (List Code)} {cn : Str} {cs : Scope} {a : Addr} {ccd : Value} {cl : List (Str × Addr)} {outer : List Env} {A₀ : Around} {base h₀ : Heap} {L : Addr} {m : Str → Option Value} {s : Shared} {Q E : Value → Shared → Prop} {news : List (Addr × Obj)}

theorem c_sum {x : Str} {t : Tok} (B : Below A₀ base outer h₀) (F : Fr h₀ L s.heap m) (X : (hd.heap_39 w.params).In h₀) (N : News h₀ L s.heap news) (T : Top hd.view_39 loose mean mg mb h₀) (hk : cs.kind = .function)
    (hp3 : x.length ≤ 100) (hp : ∀ c ∈ KStt.codes x, 0 ≤ c ∧ c < 128) (hdp : dp + 1 < recursionLimit) (hu : un + 8 < cLine)
    (hret : ∀ (t : Tok) (h' : Heap) (tk' : Nat), Fr h₀ L h' m → News h₀ L h' news → Q (.int (sumZ (KStt.codes x)) t) { s with heap := h', toks := tk' }) :
    wpAny (model PySem.Challenge.rw_ez0282_01.row.prog w) (ktrTop dp un gd cn cs L a ccd cl outer) (call (.ref 323) [.str x t]) Q E s := by
  k_with_none
  w_top off
  revert B F X N T hk hp3 hp hdp hu hret
  k_fill
  intro B F X N T hk hp3 hp hdp hu hret
  refine wpAny_call ?_
  k_dflt cell_enter
  k_with "pyIter str" => k_state (fun pre v => v = sumZ pre ∧ 0 ≤ v ∧ v < 128) "value"
  k_steps
  all_goals first
    | (refine kst_end ⟨_, _⟩ (by assumption) (by assumption) (fun p hp => List.mem_append_left _ hp) (fun p hp => List.mem_append_right _ hp) rfl True.intro (List.forall_mem_cons.mpr ⟨rfl, List.forall_mem_nil _⟩) (fun z h1 h2 h3 => by
         have a1 : z ≠ Str.ofString "value" := h2 _ (.head _)
         have a2 : z ≠ Str.ofString "number" := by simpa using h3
         refine (if_neg a1).trans ((if_neg a2).trans ((if_neg h1).trans ((if_neg a1).trans (if_neg ?_))))
         rw [h3]; exact Bool.false_ne_true) (sum_turn (by assumption) (by assumption) (by assumption) (code_lt hp (by assumption))))
    | (refine cb_retI hret (by assumption) (by assumption) (by assumption))
end
end Mine
end
section
open PySem PySem.W PySem.Calls PyProof.Rows PySem.Spec
set_option Elab.async false
set_option maxRecDepth 100000
set_option maxHeartbeats 4000000
set_option linter.unusedVariables false
namespace Mine
section
variable {w : World} {loose : List Str} {mean : ExcName → Option Value} {mg mb : Str → Option Value} {dp un : Nat} {gd : Option (List Code)} {cn : Str} {cs : Scope} {a : Addr} {ccd : Value} {cl : List (Str × Addr)} {outer : List Env} {A₀ : Around} {base h₀ : Heap} {L : Addr} {m : Str → Option Value} {s : Shared} {Q E : Value → Shared → Prop} {news : List (Addr × Obj)}


def wordlikeF (x : Str) (i : Int) : Bool := decide ((x.length : Int) = i) && Txt.isalnum (Txt.replace x (Str.ofString "_") (Str.ofString "a"))
theorem wl_1 {x : Str} {i : Int} (e : (x.length : Int) = i) : Txt.isalnum (Txt.replace x (Str.ofString "_") (Str.ofString "a")) = wordlikeF x i := by
  simp [wordlikeF, e]
theorem wl_2 {x : Str} {i : Int} (e : (x.length : Int) ≠ i) : ((x.length : Int) == i) = wordlikeF x i := by
  simp [wordlikeF, e]
theorem c_wordlike {x : Str} {i : Int} {t t2 : Tok} (B : Below A₀ base outer h₀) (F : Fr h₀ L s.heap m) (X : (hd.heap_39 w.params).In h₀) (N : News h₀ L s.heap news) (T : Top hd.view_39 loose mean mg mb h₀) (hk : cs.kind = .function)
    (hp3 : x.length ≤ 100) (hdp : dp + 1 < recursionLimit) (hu : un + 8 < cLine)
    (hret : ∀ (t : Tok) (h' : Heap) (tk' : Nat), Fr h₀ L h' m → News h₀ L h' news → Q (.bool (wordlikeF x i)) { s with heap := h', toks := tk' }) :
    wpAny (model PySem.Challenge.rw_ez0282_01.row.prog w) (ktrTop dp un gd cn cs L a ccd cl outer) (call (.ref 98) [.str x t, .int i t2]) Q E s := by
  k_with_none
  w_top off
  revert B F X N T hk hp3 hdp hu hret
  k_fill
  intro B F X N T hk hp3 hdp hu hret
  refine wpAny_call ?_
  k_dflt cell_enter
  k_steps
  all_goals (refine cb_retB hret ?_ (by assumption) (by assumption); first | exact wl_1 (by assumption) | exact wl_2 (by assumption))
end
end Mine
end
section
open PySem PySem.W PySem.Calls PyProof.Rows PySem.Spec
set_option Elab.async false
set_option maxRecDepth 100000
set_option maxHeartbeats 4000000
set_option linter.unusedVariables false
namespace Mine
open PySem.F
theorem entry_map_iter : entryFor table "map.__iter__" = some Builtin.«dict_keyiterator.__iter__» :=
  entryFor_alias (id' := "dict_keyiterator.__iter__") (by kernel_rfl) (by first | rfl | decide +kernel | (unfold String.splitOn; simp +decide [String.splitOnAux])) (by decide +kernel) (by kernel_rfl)
theorem mro_map : mroOf (.type "map") = pure [.type "map", .type "object"] := by rw [mroOf_type]; kernel_rfl
theorem lookup_map_new : typeLookup (.type "map") "__new__" = pure (some (.builtin "map.__new__")) := by rw [typeLookup_type, builtinLookup_eq_fast]; kernel_rfl
theorem owner_map : Manifest.owners.lookup (String.ofList ['p', 'a', 'm'].reverse) = some Manifest.sig_map := by kernel_rfl
theorem slot_map_init : Slot "map" "__init__" "object.__init__" :=
  .of (owner := "object") (n := "__init__") (by rw [typeLookup_type, builtinLookup_eq_fast]; kernel_rfl) (by decide +kernel) (by decide +kernel) (by decide +kernel)
    (by first | exact .inl (by decide +kernel) | exact .inr (by decide +kernel)) (by rw [isSubtype_type]; kernel_rfl)
theorem slot_map_iter : Slot "map" "__iter__" "map.__iter__" :=
  .of (owner := "map") (n := "__iter__") (by rw [typeLookup_type, builtinLookup_eq_fast]; kernel_rfl) (by decide +kernel) (by decide +kernel) (by decide +kernel)
    (by first | exact .inl (by decide +kernel) | exact .inr (by decide +kernel)) (by rw [isSubtype_type]; kernel_rfl)
theorem args_map_iter_1 (a : Value) : argsOk "map.__iter__" ⟨[a], []⟩ := by
  unfold argsOk; rw [signature?_of (id := "map.__iter__") (n := ['_', '_', 'r', 'e', 't', 'i', '_', '_']) (o := ['p', 'a', 'm']) (by kernel_rfl) owner_map]; kernel_rfl
theorem slot_map_next : Slot "map" "__next__" "map.__next__" :=
  .of (owner := "map") (n := "__next__") (by rw [typeLookup_type, builtinLookup_eq_fast]; kernel_rfl) (by decide +kernel) (by decide +kernel) (by decide +kernel)
    (by first | exact .inl (by decide +kernel) | exact .inr (by decide +kernel)) (by rw [isSubtype_type]; kernel_rfl)
theorem entry_map_next : entryFor table "map.__next__" = some Builtin.«map.__next__» := entryFor_of_tree (by kernel_rfl)
theorem args_map_next_1 (a : Value) : argsOk "map.__next__" ⟨[a], []⟩ := by
  unfold argsOk; rw [signature?_of (id := "map.__next__") (n := ['_', '_', 't', 'x', 'e', 'n', '_', '_']) (o := ['p', 'a', 'm']) (by kernel_rfl) owner_map]; kernel_rfl
theorem called_map : TypeCalled "map" "map.__new__" "object.__init__" :=
  ⟨by decide +kernel, by decide +kernel, ⟨_, _, mro_map⟩, madeBy_type mro_map lookup_map_new (by decide +kernel), by decide +kernel, by rw [isSubtype_type]; kernel_rfl, slot_map_init⟩
theorem typeCall_map_2 (a b : Value) : checkTypeCall "map" ⟨[a, b], []⟩ = pure () := by kernel_rfl
theorem newCall_map_2 (a b : Value) : checkBuiltinCall "map.__new__" ⟨[.type "map", a, b], []⟩ = pure () := by kernel_rfl
theorem entry_map_new : entryFor table "map.__new__" = some Builtin.«map.__new__» := entryFor_of_tree (by kernel_rfl)
theorem sub_map : isSubtype (.type "map") (.type "map") = pure true := by rw [isSubtype_type]; kernel_rfl

abbrev mapH1 (h : Heap) (x : Str) (t : Tok) : Heap := h.push { cls := .type "str_ascii_iterator", data := .fields #[.str x t, .int 0 0] }
abbrev mapH2 (h : Heap) (x : Str) (t : Tok) : Heap := (mapH1 h x t).push { cls := .type "tuple", data := .seq #[.ref h.objs.size] }
abbrev mapH3 (h : Heap) (x : Str) (t : Tok) (f : Value) : Heap := (mapH2 h x t).push { cls := .type "map", data := .fields #[.ref (mapH1 h x t).objs.size, f] }

theorem meets_map_new (f : Value) (x : Str) (t : Tok) (hx : x.cps.all (· < 128) = true) :
    Meets (Builtin.«map.__new__» ⟨[.type "map", f, .str x t], []⟩) (fun _ R s =>
      R (.ok (.ret (.ref (mapH2 s.heap x t).objs.size))) { s with heap := mapH3 s.heap x t f }) :=
  .of_wp fun prog w A R s h => by
    obtain ⟨hp, g, d, tk, os⟩ := s
    have hsub := sub_map
    wp_walk using wpAny_pyIter_ascii hx
    exact ⟨_, rfl, h⟩
end Mine
end
section
open PySem PySem.W PySem.Calls PyProof.Rows PySem.Spec
set_option Elab.async false
set_option maxRecDepth 100000
set_option maxHeartbeats 4000000
set_option linter.unusedVariables false
namespace Mine
abbrev IsMap (h : Heap) (M T : Addr) (f : Value) : Prop := h.get? M = some { cls := .type "map", data := .fields #[.ref T, f] }
abbrev IsTup1 (h : Heap) (T I : Addr) : Prop := h.get? T = some { cls := .type "tuple", data := .seq #[.ref I] }
section
variable {prog : Program} {w : World} {A : Around} {E : Value → Shared → Prop} {s : Shared}
theorem call_map_str {x : Str} {t : Tok} {f : Value} {Q : Value → Shared → Prop} (hx : x.cps.all (· < 128) = true)
    (h : ∀ h', IsMap h' (s.heap.objs.size + 2) (s.heap.objs.size + 1) f → IsTup1 h' (s.heap.objs.size + 1) s.heap.objs.size → h'.IsStrIter s.heap.objs.size "str_ascii_iterator" x t 0 → h'.objs.size = s.heap.objs.size + 3 →
      (∀ c o, s.heap.get? c = some o → h'.get? c = some o) → Q (.ref (s.heap.objs.size + 2)) { s with heap := h' }) :
    wpAny (model prog w) A (call (.type "map") [f, .str x t]) Q E s := by
  refine callType_new called_map (by decide) (typeCall_map_2 _ _) (newCall_map_2 _ _) (fun obj => F.args_object_init_3 obj _ _) entry_map_new
    (meets_map_new f x t hx) ?_
  have z1 : (mapH1 s.heap x t).objs.size = s.heap.objs.size + 1 := Heap.size_push ..
  have z2 : (mapH2 s.heap x t).objs.size = s.heap.objs.size + 2 := by rw [Heap.size_push, z1]
  have z3 : (mapH3 s.heap x t f).objs.size = s.heap.objs.size + 3 := by rw [Heap.size_push, z2]
  have g3 : (mapH3 s.heap x t f).get? (mapH2 s.heap x t).objs.size = some _ := Heap.get?_push_size _ rfl
  have g2 : (mapH3 s.heap x t f).get? (mapH1 s.heap x t).objs.size = some _ := Heap.get?_push_of_some _ (Heap.get?_push_size _ rfl)
  have g1 : (mapH3 s.heap x t f).get? s.heap.objs.size = some _ := Heap.get?_push_of_some _ (Heap.get?_push_of_some _ (Heap.get?_push_size _ rfl))
  show _ ∧ _
  rw [z1, z2] at g3
  rw [z1] at g2
  rw [z2]
  exact ⟨⟨_, g3, rfl⟩, h _ g3 g2 ⟨_, g1, rfl, rfl⟩ z3 fun c o x =>
    Heap.get?_push_of_some _ (Heap.get?_push_of_some _ (Heap.get?_push_of_some _ x))⟩

theorem map_next_item {M T I : Addr} {x : Str} {t : Tok} {i c : Nat} {Q : Value → Shared → Prop} (hM : IsMap s.heap M T (.builtin "ord")) (hT : IsTup1 s.heap T I) (hI : s.heap.IsStrIter I "str_ascii_iterator" x t i)
    (hx : x.cps[i]? = some c) (hMI : M ≠ I) (hTI : T ≠ I)
    (hQ : ∀ h' tk u, IsMap h' M T (.builtin "ord") → IsTup1 h' T I → h'.IsStrIter I "str_ascii_iterator" x t (i + 1) → Heap.SameBut I s.heap h' → Q (.int c u) { s with heap := h', toks := tk }) :
    wpAny (model prog w) A (Builtin.«map.__next__» ⟨[.ref M], []⟩) (fun fin s' => ∃ v, fin = .done (.ret v) ∧ Q v s') E s := by
  show wpAny _ _ (field (.ref M) 0 >>= _) _ _ _
  refine wpAny_bind (wpAny_field hM rfl (x := .ref T) rfl ?_)
  refine wpAny_bind (wpAny_seqItems hT rfl ?_)
  dsimp only
  simp only [List.forIn_toArray, List.forIn_cons, List.forIn_nil]
  refine wpAny_bind (wpAny_bind (wpAny_bind (wpAny_holding (wpAny_nextOf_ascii_item hI hx fun h₁ hI₁ hs₁ => wpAny_pure ?_))))
  have hM₁ : IsMap h₁ M T (.builtin "ord") := hs₁.extBut _ _ hMI hM
  have hT₁ : IsTup1 h₁ T I := hs₁.extBut _ _ hTI hT
  refine wpAny_pure ?_
  refine wpAny_bind (wpAny_field hM₁ rfl (x := .builtin "ord") rfl ?_)
  refine wpAny_bind (wpAny_holding (P.ord_of_char ?_))
  exact wpAny_bind (wpAny_letGo (wpAny_pure ⟨_, rfl, hQ h₁ _ _ hM₁ hT₁ hI₁ hs₁⟩))

theorem map_next_end {M T I : Addr} {x : Str} {t : Tok} {i : Nat} {Q : Fin → Shared → Prop} (hh : A.handled = none) (hM : IsMap s.heap M T (.builtin "ord")) (hT : IsTup1 s.heap T I) (hI : s.heap.IsStrIter I "str_ascii_iterator" x t i)
    (hx : x.cps[i]? = none)
    (hE : ∀ h' e, Heap.ExtBut I s.heap h' → (∃ o, h'.get? e = some o ∧ o.cls = .type "StopIteration") → E (.ref e) { s with heap := h' }) :
    wpAny (model prog w) A (Builtin.«map.__next__» ⟨[.ref M], []⟩) Q E s := by
  show wpAny _ _ (field (.ref M) 0 >>= _) _ _ _
  refine wpAny_bind (wpAny_field hM rfl (x := .ref T) rfl ?_)
  refine wpAny_bind (wpAny_seqItems hT rfl ?_)
  dsimp only
  simp only [List.forIn_toArray, List.forIn_cons, List.forIn_nil]
  exact wpAny_bind (wpAny_bind (wpAny_bind (wpAny_holding (wpAny_nextOf_ascii_end hh hI hx fun h₁ e hs₁ he => hE h₁ e hs₁ he))))

theorem pyNext_map_item {M T I : Addr} {x : Str} {t : Tok} {i c : Nat} {Q : Option Value → Shared → Prop} (hM : IsMap s.heap M T (.builtin "ord")) (hT : IsTup1 s.heap T I) (hI : s.heap.IsStrIter I "str_ascii_iterator" x t i)
    (hx : x.cps[i]? = some c) (hMI : M ≠ I) (hTI : T ≠ I)
    (hQ : ∀ h' tk u, IsMap h' M T (.builtin "ord") → IsTup1 h' T I → h'.IsStrIter I "str_ascii_iterator" x t (i + 1) → Heap.SameBut I s.heap h' → Q (some (.int c u)) { s with heap := h', toks := tk }) :
    wpAny (model prog w) A (pyNext (.ref M)) Q E s := by
  have hT' : s.TypeIs (.ref M) "map" := ⟨_, hM, rfl⟩
  unfold pyNext
  exact wpAny_bind (wpAny_attempt (wpAny_callSpecial?_slot (name := Str.ofString "__next__") hT' slot_map_next
    (wpAny_call_entry slot_map_next hT' entry_map_next
      (map_next_item hM hT hI hx hMI hTI fun h' tk u a1 a2 a3 a4 => wpAny_pure (hQ h' tk u a1 a2 a3 a4)) (args_map_next_1 _))))

theorem pyNext_map_end {M T I : Addr} {x : Str} {t : Tok} {i : Nat} {Q : Option Value → Shared → Prop} (hh : A.handled = none) (hM : IsMap s.heap M T (.builtin "ord")) (hT : IsTup1 s.heap T I) (hI : s.heap.IsStrIter I "str_ascii_iterator" x t i)
    (hx : x.cps[i]? = none) (hQ : ∀ h', Heap.ExtBut I s.heap h' → Q none { s with heap := h' }) :
    wpAny (model prog w) A (pyNext (.ref M)) Q E s := by
  have hT' : s.TypeIs (.ref M) "map" := ⟨_, hM, rfl⟩
  unfold pyNext
  refine wpAny_bind (wpAny_attempt (wpAny_callSpecial?_slot (name := Str.ofString "__next__") hT' slot_map_next
    (wpAny_call_entry slot_map_next hT' entry_map_next (map_next_end hh hM hT hI hx fun h' e hk he => ?_) (args_map_next_1 _))))
  obtain ⟨o, ho, hc⟩ := he
  refine wpAny_bind (wpAny_isInstance (T := "StopIteration") (b := true) ⟨o, ho, hc⟩ isSubtype_stop ?_)
  exact wpAny_pure (hQ _ hk)

theorem pyIter_map {M T : Addr} {f : Value} {Q : Value → Shared → Prop} (hM : IsMap s.heap M T f) (h : Q (.ref M) s) : wpAny (model prog w) A (pyIter (.ref M)) Q E s := by
  have hT : s.TypeIs (.ref M) "map" := ⟨_, hM, rfl⟩
  refine wpAny_pyIter_slot hT slot_map_iter (wpAny_call_entry slot_map_iter hT entry_map_iter ?_ (args_map_iter_1 _))
  show wpAny _ _ (ret (.ref M)) _ _ s
  exact wpAny_pure ⟨_, rfl, "map", _, hT, slot_map_next.lookup, h⟩

theorem entry_reduce : entryFor table "_functools.reduce" = some Builtin.«_functools.reduce» := entryFor_of_tree (by kernel_rfl)
theorem entry_reduce_loop : entryFor table "_functools.reduce.loop" = some Builtin.«_functools.reduce.loop» := entryFor_of_tree (by kernel_rfl)
theorem entry_oxor : entryFor table "_operator.xor" = some Builtin.«_operator.xor» := entryFor_of_tree (by kernel_rfl)
theorem kind_oxor : builtinKind "_operator.xor" = none := by decide +kernel
theorem plain_oxor : plainId "_operator.xor" = true := by decide +kernel
theorem args_oxor (a b : Value) : argsOk "_operator.xor" ⟨[a, b], []⟩ := by unfold argsOk; kernel_rfl
theorem plain_reduce : plainId "_functools.reduce" = true := by decide +kernel
theorem plain_reduce_loop : plainId "_functools.reduce.loop" = true := by decide +kernel
theorem kind_reduce : builtinKind "_functools.reduce" = none := by decide +kernel
theorem args_reduce (a b c : Value) : argsOk "_functools.reduce" ⟨[a, b, c], []⟩ := by unfold argsOk; kernel_rfl

theorem or_add (a b : Nat) : a ||| b = (a ^^^ b) + (a &&& b) := by
  induction a using Nat.strongRecOn generalizing b with
  | _ a ih =>
    by_cases ha : a = 0
    · subst ha; simp
    · have h := ih (a / 2) (by omega) (b / 2)
      have e1 : (a ^^^ b) / 2 = a / 2 ^^^ b / 2 := Nat.xor_div_two
      have e2 : (a &&& b) / 2 = a / 2 &&& b / 2 := Nat.and_div_two
      have e5 : (a ||| b) / 2 = a / 2 ||| b / 2 := Nat.or_div_two
      have e3 : (a ^^^ b) % 2 = ((a % 2) ^^^ (b % 2)) := by
        have := @Nat.xor_mod_two_pow a b 1
        simpa only [Nat.pow_one] using this
      have e4 : (a &&& b) % 2 = ((a % 2) &&& (b % 2)) := by
        have := @Nat.and_mod_two_pow a b 1
        simpa only [Nat.pow_one] using this
      have e6 : (a ||| b) % 2 = ((a % 2) ||| (b % 2)) := by
        have := @Nat.or_mod_two_pow a b 1
        simpa only [Nat.pow_one] using this
      rw [← e1, ← e2, ← e5] at h
      rcases Nat.mod_two_eq_zero_or_one a with h1 | h1 <;> rcases Nat.mod_two_eq_zero_or_one b with h2 | h2
      · have f3 : (a ^^^ b) % 2 = 0 := by rw [e3, h1, h2]; rfl
        have f4 : (a &&& b) % 2 = 0 := by rw [e4, h1, h2]; rfl
        have f5 : (a ||| b) % 2 = 0 := by rw [e6, h1, h2]; rfl
        omega
      · have f3 : (a ^^^ b) % 2 = 1 := by rw [e3, h1, h2]; rfl
        have f4 : (a &&& b) % 2 = 0 := by rw [e4, h1, h2]; rfl
        have f5 : (a ||| b) % 2 = 1 := by rw [e6, h1, h2]; rfl
        omega
      · have f3 : (a ^^^ b) % 2 = 1 := by rw [e3, h1, h2]; rfl
        have f4 : (a &&& b) % 2 = 0 := by rw [e4, h1, h2]; rfl
        have f5 : (a ||| b) % 2 = 1 := by rw [e6, h1, h2]; rfl
        omega
      · have f3 : (a ^^^ b) % 2 = 0 := by rw [e3, h1, h2]; rfl
        have f4 : (a &&& b) % 2 = 1 := by rw [e4, h1, h2]; rfl
        have f5 : (a ||| b) % 2 = 1 := by rw [e6, h1, h2]; rfl
        omega

theorem bitXor_nat {a b : Int} (ha : 0 ≤ a) (hb : 0 ≤ b) : Builtin.bitXor a b = ((a.toNat ^^^ b.toNat : Nat) : Int) := by
  have e : Builtin.bitAnd a b = ((a.toNat &&& b.toNat : Nat) : Int) := by simp [Builtin.bitAnd, ha, hb]
  have n1 : ¬ (0 ≤ Builtin.bitNot a) := by unfold Builtin.bitNot; omega
  have n2 : ¬ (0 ≤ Builtin.bitNot b) := by unfold Builtin.bitNot; omega
  have b1 : Builtin.bitNot (Builtin.bitNot a) = a := by unfold Builtin.bitNot; omega
  have b2 : Builtin.bitNot (Builtin.bitNot b) = b := by unfold Builtin.bitNot; omega
  have f : Builtin.bitOr a b = ((a.toNat ||| b.toNat : Nat) : Int) := by
    unfold Builtin.bitOr Builtin.bitAnd
    simp only [n1, n2, decide_false, b1, b2]
    unfold Builtin.bitNot; omega
  unfold Builtin.bitXor
  rw [e, f]
  have := or_add a.toNat b.toNat
  omega

theorem call_oxor {a b : Int} {t u : Tok} {Q : Value → Shared → Prop} (h : ∀ k v, Q (.int (Builtin.bitXor a b) v) { s with toks := k }) :
    wpAny (model prog w) A (call (.builtin "_operator.xor") [.int a t, .int b u]) Q E s := by
  refine Calls.call_function_entry kind_oxor plain_oxor entry_oxor (args_oxor _ _) ?_
  show wpAny _ _ (binaryOp .BitXor (.int a t) (.int b u) >>= _) _ _ _
  exact wpAny_bind (xor_int (wpAny_pure ⟨_, rfl, h _ _⟩))

structure RdApart (I T M P O : Addr) : Prop where
  MI : M ≠ I
  TI : T ≠ I
  PI : P ≠ I
  OI : O ≠ I
  MP : M ≠ P
  TP : T ≠ P
  IP : I ≠ P
  OP : O ≠ P

def xorFrom (x : Str) (i : Nat) (v : Int) : Int := (x.cps.toList.drop i).foldl (fun (v : Int) (c : Nat) => Builtin.bitXor v (c : Int)) v

theorem reduce_loop {x : Str} {t : Tok} {I T M P O : Addr} {tail : List Value} (D : RdApart I T M P O) {R : Result → Shared → Prop} : ∀ (n i : Nat) (v : Int) (u : Tok) (s : Shared) (p q : Value) (A : Around), A.handled = none → x.cps.size = i + n →
    IsMap s.heap M T (.builtin "ord") → IsTup1 s.heap T I → s.heap.IsStrIter I "str_ascii_iterator" x t i → IsPair s.heap P p q → s.heap.get? O = some { cls := .type "tuple", data := .seq (Value.builtin "_operator.xor" :: tail).toArray } →
    (∀ h' tk u', (∀ b o, b ≠ I → b ≠ P → s.heap.get? b = some o → h'.get? b = some o) → R (.ok (.ret (.int (xorFrom x i v) u'))) { s with heap := h', toks := tk }) →
    codeAny (model prog w) A (.builtin "_functools.reduce.loop" ⟨[.ref P, .ref M, .ref O, .int v u], []⟩) R s := by
  intro n
  induction n with
  | zero =>
    intro i v u s p q A hh hn hM hT hI hP hO hR
    refine codeAny_builtin entry_reduce_loop ?_
    rw [Around.under_plainId plain_reduce_loop]
    show wpAny _ _ (seqItems? (.ref O) >>= _) _ _ _
    refine wpAny_bind (wpAny_seqItems hO rfl ?_)
    refine wpAny_bind (pyNext_map_end hh hM hT hI (by rw [Array.getElem?_eq_none]; omega) fun h' hk => ?_)
    refine wpAny_pure ?_
    have e : xorFrom x i v = v := by unfold xorFrom; rw [List.drop_eq_nil_of_le (by rw [Array.length_toList]; omega)]; rfl
    have := hR h' s.toks u fun b o b1 b2 e => hk b o b1 e
    rw [e] at this
    exact this
  | succ n ih =>
    intro i v u s p q A hh hn hM hT hI hP hO hR
    have hi : i < x.cps.size := by omega
    refine codeAny_builtin entry_reduce_loop ?_
    rw [Around.under_plainId plain_reduce_loop]
    show wpAny _ _ (seqItems? (.ref O) >>= _) _ _ _
    refine wpAny_bind (wpAny_seqItems hO rfl ?_)
    refine wpAny_bind (pyNext_map_item hM hT hI (Array.getElem?_eq_getElem hi) D.MI D.TI fun h₁ tk₁ u₁ hM₁ hT₁ hI₁ hs₁ => ?_)
    have hP₁ : IsPair h₁ P p q := hs₁.extBut _ _ D.PI hP
    have hO₁ := hs₁.extBut _ _ D.OI hO
    refine wpAny_bind (wpAny_seqItems hP₁ rfl ?_)
    refine wpAny_bind (wpAny_updateSeq_pair hP₁ fun h₂ hP₂ hs₂ => ?_)
    refine wpAny_bind (wpAny_letGo ?_)
    replace hP₂ : IsPair h₂ P (.int v u) q := hP₂
    refine wpAny_bind (wpAny_updateSeq_pair hP₂ fun h₃ hP₃ hs₃ => ?_)
    refine wpAny_bind (wpAny_letGo ?_)
    replace hP₃ : IsPair h₃ P (.int v u) (.int _ u₁) := hP₃
    refine wpAny_bind (call_oxor fun k v' => ?_)
    refine wpAny_pure ⟨plainId_quiet plain_reduce_loop _, ?_⟩
    have up : ∀ b o, b ≠ I → b ≠ P → s.heap.get? b = some o → h₃.get? b = some o := fun b o b1 b2 e => hs₃.extBut _ _ b2 (hs₂.extBut _ _ b2 (hs₁.extBut _ _ b1 e))
    refine ih (i + 1) _ _ _ _ _ A hh (by omega) (hs₃.extBut _ _ D.MP (hs₂.extBut _ _ D.MP hM₁)) (hs₃.extBut _ _ D.TP (hs₂.extBut _ _ D.TP hT₁)) ((hI₁.extBut hs₂.extBut D.IP).extBut hs₃.extBut D.IP) hP₃ (hs₃.extBut _ _ D.OP (hs₂.extBut _ _ D.OP hO₁)) ?_
    intro h' tk u' hk
    have e : xorFrom x i v = xorFrom x (i + 1) (Builtin.bitXor v (x.cps[i] : Int)) := by
      unfold xorFrom
      rw [List.drop_eq_getElem_cons (by rw [Array.length_toList]; exact hi)]
      rfl
    rw [← e]
    exact hR h' tk u' fun b o b1 b2 e => hk b o b1 b2 (up b o b1 b2 e)

theorem call_reduce {x : Str} {t u : Tok} {I T M : Addr} {Q : Value → Shared → Prop} (hh : A.handled = none) (hM : IsMap s.heap M T (.builtin "ord")) (hT : IsTup1 s.heap T I) (hI : s.heap.IsStrIter I "str_ascii_iterator" x t 0) (hMI : M ≠ I) (hTI : T ≠ I)
    (h : ∀ h' tk u', (∀ b o, b ≠ I → s.heap.get? b = some o → h'.get? b = some o) → Q (.int (xorFrom x 0 0) u') { s with heap := h', toks := tk }) :
    wpAny (model prog w) A (call (.builtin "_functools.reduce") [.builtin "_operator.xor", .ref M, .int 0 u]) Q E s := by
  refine wpAny_call (codeAny_call_builtin plain_reduce entry_reduce ?_)
  have ck : checkBuiltinCall "_functools.reduce" ⟨[.builtin "_operator.xor", .ref M, .int 0 u], []⟩ = pure () := by kernel_rfl
  rw [ck]
  refine wpAny_pure ?_
  show wpAny _ _ ((pyIter (.ref M)).tryCatch _ >>= _) _ _ _
  refine wpAny_bind (wpAny_tryCatch (pyIter_map hM ?_))
  refine wpAny_bind (wpAny_holding (wpAny_newTuple ?_))
  refine wpAny_bind (wpAny_holding (wpAny_newTuple ?_))
  refine wpAny_pure ⟨plainId_quiet plain_reduce_loop _, ?_⟩
  have lt : ∀ {b o}, s.heap.get? b = some o → b < s.heap.objs.size := fun e => Heap.lt_size e
  obtain ⟨oI, hoI, hI'⟩ := id hI
  have lM := lt hM
  have lT := lt hT
  have lI := lt hoI
  have sz : (s.heap.push { cls := .type "tuple", data := .seq #[rawInt 0, rawInt 0] }).objs.size = s.heap.objs.size + 1 := Heap.size_push ..
  have up : ∀ b o, s.heap.get? b = some o → ((s.heap.push { cls := .type "tuple", data := .seq #[rawInt 0, rawInt 0] }).push { cls := .type "tuple", data := .seq #[.builtin "_operator.xor", .ref M, .int 0 u] }).get? b = some o :=
    fun b o e => Heap.get?_push_of_some _ (Heap.get?_push_of_some _ e)
  refine reduce_loop (T := T) (I := I) (M := M) (x := x) (t := t) (tail := [.ref M, .int 0 u]) ⟨hMI, hTI, ?_, ?_, ?_, ?_, ?_, ?_⟩ x.cps.size 0 0 u _ (rawInt 0) (rawInt 0) A hh (by omega)
    (up _ _ hM) (up _ _ hT) ⟨oI, up _ _ hoI, hI'⟩ (Heap.get?_push_of_some _ (Heap.get?_push_size _ rfl)) (Heap.get?_push_size _ rfl) fun h' tk u' hk => h h' tk u' fun b o b1 e => hk b o b1 ?_ (up b o e)
  · exact Nat.ne_of_gt lI
  · show (s.heap.push _).objs.size ≠ I; rw [sz]; exact Nat.ne_of_gt (Nat.lt_succ_of_lt lI)
  · exact Nat.ne_of_lt lM
  · exact Nat.ne_of_lt lT
  · exact Nat.ne_of_lt lI
  · show (s.heap.push _).objs.size ≠ s.heap.objs.size; rw [sz]; exact Nat.succ_ne_self _
  · exact Nat.ne_of_lt (lt e)
end
end Mine
end
section
open PySem PySem.W PySem.Calls PyProof.Rows PySem.Spec
set_option Elab.async false
set_option maxRecDepth 100000
set_option maxHeartbeats 4000000
set_option linter.unusedVariables false
namespace Mine
section
variable {w : World} {loose : List Str} {mean : ExcName → Option Value} {mg mb : Str → Option Value} {dp un : Nat} {gd : Option (List Code)} {cn : Str} {cs : Scope} {a : Addr} {ccd : Value} {cl : List (Str × Addr)} {outer : List Env} {A₀ : Around} {base h₀ : Heap} {L : Addr} {m : Str → Option Value} {s : Shared} {Q E : Value → Shared → Prop} {news : List (Addr × Obj)}



theorem fr_keeps {h' : Heap} {h : Heap} (F : Fr h₀ L h m) (hk : ∀ c o, h.get? c = some o → h'.get? c = some o) : Fr h₀ L h' m :=
  ⟨F.ns.keeps hk, fun b o e => hk b o (F.keep b o e), F.above⟩
theorem news_keeps {h' : Heap} {h : Heap} (N : News h₀ L h news) (hk : ∀ c o, h.get? c = some o → h'.get? c = some o) : News h₀ L h' news :=
  fun p hp => ⟨hk _ _ (N p hp).1, (N p hp).2⟩
theorem keeps_3 {h h1 h2 : Heap} (k1 : ∀ c o, h.get? c = some o → h1.get? c = some o) (k2 : ∀ b o, b ≠ h.objs.size → h1.get? b = some o → h2.get? b = some o) : ∀ c o, h.get? c = some o → h2.get? c = some o :=
  fun c o e => k2 c o (Nat.ne_of_lt (Heap.lt_size e)) (k1 c o e)
theorem all_ascii {x : Str} (hp : ∀ c ∈ KStt.codes x, 0 ≤ c ∧ c < 128) : x.cps.all (· < 128) = true := by
  rw [← Array.all_toList, List.all_eq_true]
  intro c hc
  have := hp (c : Int) (List.mem_map.mpr ⟨c, hc, rfl⟩)
  exact decide_eq_true (by omega)
theorem xorFrom_sum {x : Str} : xorFrom x 0 0 = sumZ (KStt.codes x) := by
  unfold xorFrom sumZ KStt.codes
  rw [List.drop_zero, List.foldl_map]
  have : ∀ (l : List Nat) (v : Int), 0 ≤ v → l.foldl (fun (v : Int) (c : Nat) => Builtin.bitXor v (c : Int)) v = l.foldl (fun (v : Int) (c : Nat) => ((v.toNat ^^^ ((c : Int)).toNat : Nat) : Int)) v := by
    intro l
    induction l with
    | nil => intro v _; rfl
    | cons c r ih =>
      intro v hv
      rw [List.foldl_cons, List.foldl_cons, bitXor_nat hv (Int.natCast_nonneg c)]
      exact ih _ (Int.natCast_nonneg _)
  exact this _ 0 (Int.le_refl 0)

local macro_rules | `(tactic| walk_at "call type:map") => `(tactic| (refine call_map_str (all_ascii (by assumption)) fun h' hM' hT' hI' hz' hk' => ?_))
theorem c_checksum {x : Str} {t : Tok} (B : Below A₀ base outer h₀) (F : Fr h₀ L s.heap m) (X : (hd.heap_39 w.params).In h₀) (N : News h₀ L s.heap news) (T : Top hd.view_39 loose mean mg mb h₀) (hk : cs.kind = .function)
    (hp3 : x.length ≤ 100) (hp : ∀ c ∈ KStt.codes x, 0 ≤ c ∧ c < 128) (hdp : dp + 1 < recursionLimit) (hu : un + 8 < cLine)
    (hret : ∀ (t : Tok) (h' : Heap) (tk' : Nat), Fr h₀ L h' m → News h₀ L h' news → Q (.int (sumZ (KStt.codes x)) t) { s with heap := h', toks := tk' }) :
    wpAny (model PySem.Challenge.rw_ez0282_01.row.prog w) (ktrTop dp un gd cn cs L a ccd cl outer) (call (.ref 113) [.str x t]) Q E s := by
  k_with_none
  w_top off
  revert B F X N T hk hp3 hp hdp hu hret
  k_fill
  intro B F X N T hk hp3 hp hdp hu hret
  refine wpAny_call ?_
  k_dflt cell_enter
  k_steps
  (rename IsMap _ _ _ _ => hM'); (rename IsTup1 _ _ _ => hT'); (rename Heap.IsStrIter _ _ _ _ _ _ => hI')
  (rename ∀ c o, Heap.get? _ c = some o → Heap.get? _ c = some o => hk')
  (refine call_reduce (by rfl) hM' hT' hI' (Nat.ne_of_gt (Nat.lt_add_of_pos_right (by decide))) (Nat.succ_ne_self _) fun h2' tk2' u2' hk2' => ?_)
  (rename Fr _ _ _ _ => F'); (rename News _ _ _ _ => N')
  replace F' := fr_keeps F' (keeps_3 hk' hk2')
  replace N' := news_keeps N' (keeps_3 hk' hk2')
  clear hk' hk2' hM' hT' hI'
  k_steps
  exact cb_retI hret xorFrom_sum (by assumption) (by assumption)
end
end Mine
end
section
open PySem PySem.W PySem.Calls PyProof.Rows PySem.Spec
set_option Elab.async false
set_option maxRecDepth 100000
set_option maxHeartbeats 4000000
set_option linter.unusedVariables false
namespace Mine
theorem execs_take {env : Env} : ∀ (n : Nat) (l : List Stmt), execs l env = (execs (l.take n) env >>= fun f => match f with | .next => execs (l.drop n) env | f => pure f)
  | 0, l => by rw [List.take_zero, List.drop_zero, execs_nil]; rfl
  | n + 1, [] => by rw [List.take_nil, List.drop_nil, execs_nil]; rfl
  | n + 1, st :: r => by
    rw [List.take_succ_cons, List.drop_succ_cons, execs_cons, execs_cons, bind_assoc]
    refine congrArg _ (funext fun f => ?_)
    cases f with
    | next => exact execs_take n r
    | _ => rfl
def Hid (P : Prop) : Prop := P
theorem Hid.mk {P : Prop} (h : P) : Hid P := h
theorem Hid.out {P : Prop} (h : Hid P) : P := h
theorem cut_execs {M : Model} {A : Around} {E : Value → Shared → Prop} {Q : Flow → Shared → Prop} {s : Shared} {env : Env} {l : List Stmt} (n : Nat) (Mid : Shared → Prop)
    (h1 : wpAny M A (execs (l.take n) env) (fun fl s' => match fl with | .next => Mid s' | f => Q f s') E s) (h2 : ∀ s', Mid s' → wpAny M A (execs (l.drop n) env) Q E s') : wpAny M A (execs l env) Q E s := by
  rw [execs_take n l]
  refine wpAny_bind (wpAny_mono h1 (fun f s' h => ?_) fun _ _ h => h)
  cases f with
  | next => exact h2 s' h
  | _ => exact wpAny_pure h
theorem if_cut {M : Model} {A : Around} {E : Value → Shared → Prop} {Q : Flow → Shared → Prop} {s : Shared} {env : Env} {test : Expr} {body orelse : List Stmt} {pos : Pos} (Mt : Bool → Shared → Prop)
    (h1 : wpAny M A (isTrue test env (eval test env)) Mt E s) (h2 : ∀ s', Mt true s' → wpAny M A (execs body env) Q E s') (h3 : ∀ s', Mt false s' → wpAny M A (execs orelse env) Q E s') :
    wpAny M A (exec (.If test body orelse pos) env) Q E s := by
  refine wpAny_If (wpAny_mono h1 (fun b s' h => ?_) fun _ _ h => h)
  cases b with
  | true => exact h2 s' h
  | false => exact h3 s' h
def over (bs : List (Str × Value)) (m : Str → Option Value) : Str → Option Value := fun y => (bs.lookup y).or (m y)
theorem over_eq {m : Str → Option Value} : ∀ {bs : List (Str × Value)}, (∀ p ∈ bs, m p.1 = some p.2) → over bs m = m
  | [], _ => rfl
  | p :: r, h => by
    funext y
    have ih := congrFun (over_eq (bs := r) fun q hq => h q (.tail _ hq)) y
    unfold over at ih ⊢
    rw [List.lookup_cons]
    cases e : (y == p.1) with
    | false => exact ih
    | true =>
      have : y = p.1 := beq_iff_eq.mp e
      rw [this]
      exact (h p (.head _)).symm
/-- what stands between two blocks of one frame -/
def MidP (s : Shared) (g : Heap) (L' : Addr) (bs : List (Str × Value)) (news : List (Addr × Obj)) (s' : Shared) : Prop :=
  ∃ h' tk m', s' = { s with heap := h', toks := tk } ∧ Fr g L' h' m' ∧ (∀ p ∈ bs, m' p.1 = some p.2) ∧ News g L' h' news
theorem MidP.out {s : Shared} {g : Heap} {L' : Addr} {bs : List (Str × Value)} {news : List (Addr × Obj)} {s' : Shared} (h : MidP s g L' bs news s') :
    ∃ h' tk m', s' = { s with heap := h', toks := tk } ∧ Fr g L' h' (over bs m') ∧ News g L' h' news :=
  let ⟨h', tk, m', e, F, hb, N⟩ := h; ⟨h', tk, m', e, (over_eq hb).symm ▸ F, N⟩
end Mine
end
section
open PySem PySem.W PySem.Calls PyProof.Rows PySem.Spec
open Builtin Builtin.Str PySem.StrLaws
set_option Elab.async false
set_option maxRecDepth 100000
set_option maxHeartbeats 4000000
set_option linter.unusedVariables false
namespace Mine
/-- a text's signs -/
def tl (x : Str) : List Nat := x.cps.toList
theorem tl_mk (l : List Nat) : tl ⟨l.toArray⟩ = l := rfl
theorem mk_tl (x : Str) : (⟨(tl x).toArray⟩ : Str) = x := by unfold tl; simp
theorem tl_len (x : Str) : (tl x).length = x.length := by simp [tl, Str.length]
theorem codes_tl (x : Str) : KStt.codes x = (tl x).map fun (c : Nat) => (c : Int) := rfl
theorem tl_append (x y : Str) : tl (x ++ y) = tl x ++ tl y := by unfold tl; rw [Str.cps_append, Array.toList_append]
theorem tl_inj {x y : Str} (h : tl x = tl y) : x = y := Str.ext' (Array.toList_inj.mp h)

theorem idx_lo {i : Int} (h : 0 ≤ i) (u : Option Int) (n : Nat) : strSliceIndices (some i) u 1 n = strSliceIndices (some (min i n)) u 1 n := by
  have a : ¬ (i < 0) := by omega
  have b : ¬ (min i (n : Int) < 0) := by omega
  have e : max (0 : Int) (min i n) = max 0 (min (min i n) n) := by omega
  simp [strSliceIndices, a, b, e]
theorem idx_hi {j : Int} (h : 0 ≤ j) (l : Option Int) (n : Nat) : strSliceIndices l (some j) 1 n = strSliceIndices l (some (min j n)) 1 n := by
  have a : ¬ (j < 0) := by omega
  have b : ¬ (min j (n : Int) < 0) := by omega
  have e : max (0 : Int) (min j n) = max 0 (min (min j n) n) := by omega
  simp [strSliceIndices, a, b, e]
theorem slice_mid (x : Str) {i j : Nat} (h : i ≤ j) : tl (Txt.slice x (some (i : Int)) (some (j : Int))) = ((tl x).drop i).take (j - i) := by
  have e : Txt.slice x (some (i : Int)) (some (j : Int)) = sliceText x (some ((min i x.length : Nat) : Int)) (some ((min j x.length : Nat) : Int)) := by
    unfold Txt.slice sliceText
    rw [idx_lo (Int.natCast_nonneg i), idx_hi (Int.natCast_nonneg j)]
    have e1 : min (i : Int) (x.length : Int) = ((min i x.length : Nat) : Int) := by omega
    have e2 : min (j : Int) (x.length : Int) = ((min j x.length : Nat) : Int) := by omega
    rw [e1, e2]
  rw [e, sliceText_nat x (by omega) (by omega)]
  show (List.drop (min i x.length) (tl x)).take _ = _
  have hl := tl_len x
  by_cases h1 : i ≤ x.length
  · rw [Nat.min_eq_left h1]
    by_cases h2 : j ≤ x.length
    · rw [Nat.min_eq_left h2]
    · rw [Nat.min_eq_right (by omega), List.take_of_length_le (by rw [List.length_drop, hl]; exact Nat.le_refl _), List.take_of_length_le (by rw [List.length_drop, hl]; omega)]
  · rw [Nat.min_eq_right (by omega), List.drop_of_length_le (by omega), List.drop_of_length_le (by omega)]
    simp
theorem slice_to (x : Str) (j : Nat) : tl (Txt.slice x none (some (j : Int))) = (tl x).take j := by
  have e : Txt.slice x none (some (j : Int)) = Txt.slice x (some ((0 : Nat) : Int)) (some (j : Int)) := by unfold Txt.slice; rw [sliceIdx_none_lo]; rfl
  rw [e, slice_mid x (Nat.zero_le j)]
  simp
theorem slice_from (x : Str) (i : Nat) : tl (Txt.slice x (some (i : Int)) none) = (tl x).drop i := by
  have e : Txt.slice x (some (i : Int)) none = Txt.slice x (some (i : Int)) (some ((x.length + i : Nat) : Int)) := by
    unfold Txt.slice; rw [sliceIdx_none_hi, idx_hi (Int.natCast_nonneg (x.length + i))]
    have e1 : min ((x.length + i : Nat) : Int) (x.length : Int) = (x.length : Int) := by omega
    rw [e1]
  rw [e, slice_mid x (by omega)]
  exact List.take_of_length_le (by rw [List.length_drop, tl_len]; omega)

def okc (c : Int) : Bool := (decide (48 ≤ c) && decide (c ≤ 57)) || (decide (65 ≤ c) && decide (c ≤ 90)) || (decide (97 ≤ c) && decide (c ≤ 122)) || ([9, 10, 13, 32, 36, 42, 44, 45, 46, 95] : List Int).contains c
/-- a text of the law's own signs, not too long -/
def Okay (n : Nat) (x : Str) : Prop := x.length ≤ n ∧ ∀ c ∈ KStt.codes x, okc c = true
theorem okc_lt {c : Int} (h : okc c = true) : 0 ≤ c ∧ c < 128 := by
  simp only [okc, Bool.or_eq_true, Bool.and_eq_true, decide_eq_true_eq, List.contains_cons, List.contains_nil, Bool.or_false, beq_iff_eq] at h
  omega
theorem Okay.lt {n : Nat} {x : Str} (h : Okay n x) : ∀ c ∈ KStt.codes x, 0 ≤ c ∧ c < 128 := fun c hc => okc_lt (h.2 c hc)
theorem Okay.ascii {n : Nat} {x : Str} (h : Okay n x) : ∀ c ∈ x.cps.toList, c < 128 := fun c hc => by
  have := h.lt (c : Int) (List.mem_map.mpr ⟨c, hc, rfl⟩)
  omega
theorem Okay.le {n k : Nat} {x : Str} (h : Okay n x) (hk : n ≤ k) : Okay k x := ⟨Nat.le_trans h.1 hk, h.2⟩
theorem okay_of {n : Nat} {x : Str} (h : (decide (x.length ≤ n) && (KStt.codes x).all okc) = true) : Okay n x :=
  ⟨of_decide_eq_true (Bool.and_eq_true_iff.mp h).1, List.all_eq_true.mp (Bool.and_eq_true_iff.mp h).2⟩
theorem Okay.append {a b : Nat} {x y : Str} (hx : Okay a x) (hy : Okay b y) : Okay (a + b) (x ++ y) := by
  refine ⟨by rw [← tl_len, tl_append, List.length_append, tl_len, tl_len]; exact Nat.add_le_add hx.1 hy.1, fun c hc => ?_⟩
  rw [codes_tl, tl_append, List.map_append] at hc
  rcases List.mem_append.mp hc with hc | hc
  · exact hx.2 c hc
  · exact hy.2 c hc
theorem Okay.sub {n : Nat} {x y : Str} (h : Okay n x) (hs : (tl y).Sublist (tl x)) : Okay n y := by
  refine ⟨by rw [← tl_len]; exact Nat.le_trans hs.length_le (by rw [tl_len]; exact h.1), fun c hc => ?_⟩
  rw [codes_tl] at hc
  obtain ⟨k, hk, rfl⟩ := List.mem_map.mp hc
  exact h.2 _ (List.mem_map.mpr ⟨k, hs.subset hk, rfl⟩)
theorem Okay.slice_to {n : Nat} {x : Str} (h : Okay n x) (j : Nat) : Okay n (Txt.slice x none (some (j : Int))) := h.sub (by rw [Mine.slice_to]; exact List.take_sublist _ _)
theorem Okay.slice_from {n : Nat} {x : Str} (h : Okay n x) (j : Nat) : Okay n (Txt.slice x (some (j : Int)) none) := h.sub (by rw [Mine.slice_from]; exact List.drop_sublist _ _)
theorem okc_lo1 : ∀ c : Nat, c < 128 → okc (c : Int) = true → okc (lo1 c : Int) = true := by decide +kernel
theorem Okay.lower {n : Nat} {x : Str} (h : Okay n x) : Okay n (Txt.lower x) := by
  rw [lower_ascii h.ascii]
  refine ⟨by have := h.1; simpa [Str.length] using this, fun c hc => ?_⟩
  rw [codes_tl] at hc
  obtain ⟨k, hk, rfl⟩ := List.mem_map.mp hc
  have e : tl ⟨x.cps.map lo1⟩ = (tl x).map lo1 := by simp [tl]
  rw [e] at hk
  obtain ⟨j, hj, rfl⟩ := List.mem_map.mp hk
  exact okc_lo1 j (h.ascii j hj) (h.2 _ (List.mem_map.mpr ⟨j, hj, rfl⟩))
theorem digit_okay : ∀ i : Nat, i < 16 → (decide ((Txt.item (Str.ofString "0123456789ABCDEF") (i : Int)).length ≤ 1) && (KStt.codes (Txt.item (Str.ofString "0123456789ABCDEF") (i : Int))).all okc) = true := by decide +kernel
theorem Okay.digit {i : Int} (h0 : 0 ≤ i) (h1 : i < 16) : Okay 1 (Txt.item (Str.ofString "0123456789ABCDEF") i) := by
  obtain ⟨k, rfl⟩ := Int.eq_ofNat_of_zero_le h0
  exact okay_of (digit_okay k (by omega))
theorem Okay.digits {t : Int} (h0 : 0 ≤ t) (h1 : t < 256) : Okay 2 (Txt.item (Str.ofString "0123456789ABCDEF") (t.fdiv 16) ++ Txt.item (Str.ofString "0123456789ABCDEF") (t.fmod 16)) := by
  have e1 := Int.fdiv_eq_ediv_of_nonneg t (show (0 : Int) ≤ 16 by decide)
  have e2 := Int.fmod_eq_emod_of_nonneg t (show (0 : Int) ≤ 16 by decide)
  rw [e1, e2]
  exact (Okay.digit (by omega) (by omega)).append (Okay.digit (by omega) (by omega))
end Mine
end
section
open PySem PySem.W PySem.Calls PyProof.Rows PySem.Spec
set_option Elab.async false
set_option maxRecDepth 100000
set_option maxHeartbeats 4000000
set_option linter.unusedVariables false
namespace Mine
section
variable {w : World} {loose : List Str} {mean : ExcName → Option Value} {mg mb : Str → Option Value} {dp un : Nat} {gd : Option (List Code)} {cn : Str} {cs : Scope} {a : Addr} {ccd : Value} {cl : List (Str × Addr)} {outer : List Env} {A₀ : Around} {base h₀ : Heap} {L : Addr} {m : Str → Option Value} {s : Shared} {Q E : Value → Shared → Prop} {news : List (Addr × Obj)}




def Texts (len k : Nat) (vs : List Value) : Prop := vs.length = len ∧ ∀ v ∈ vs, ∃ y u, v = Value.str y u ∧ Okay k y

theorem c_behind (B : Below A₀ base outer h₀) (F : Fr h₀ L s.heap m) (X : (hd.heap_39 w.params).In h₀) (N : News h₀ L s.heap news) (T : Top hd.view_39 loose mean mg mb h₀) (hk : cs.kind = .function)
    (hdp : dp + 2 < recursionLimit) (hu : un + 16 < cLine)
    (hret : ∀ (l : Addr) (vs : List Value) (n : Nat) (h' : Heap) (tk' : Nat), Texts 10 3 vs → Fr h₀ L h' m → News h₀ L h' ((l, listOf vs.toArray n) :: news) → Q (.ref l) { s with heap := h', toks := tk' }) :
    wpAny (model PySem.Challenge.rw_ez0282_01.row.prog w) (ktrTop dp un gd cn cs L a ccd cl outer) (call (.ref 309) []) Q E s := by
  k_with_none
  w_top off
  revert B F X N T hk hdp hu hret
  k_fill
  intro B F X N T hk hdp hu hret
  refine wpAny_call ?_
  k_dflt cell_enter
  k_steps
  refine hret _ _ _ _ _ ⟨rfl, ?_⟩ (by assumption) (by assumption)
  repeat' (first | exact List.forall_mem_nil _ | refine List.forall_mem_cons.mpr ⟨⟨_, _, rfl, okay_of (by decide +kernel)⟩, ?_⟩)

theorem c_openings (B : Below A₀ base outer h₀) (F : Fr h₀ L s.heap m) (X : (hd.heap_39 w.params).In h₀) (N : News h₀ L s.heap news) (T : Top hd.view_39 loose mean mg mb h₀) (hk : cs.kind = .function)
    (hdp : dp + 2 < recursionLimit) (hu : un + 16 < cLine)
    (hret : ∀ (l : Addr) (vs : List Value) (n : Nat) (h' : Heap) (tk' : Nat), Texts 6 3 vs → Fr h₀ L h' m → News h₀ L h' ((l, listOf vs.toArray n) :: news) → Q (.ref l) { s with heap := h', toks := tk' }) :
    wpAny (model PySem.Challenge.rw_ez0282_01.row.prog w) (ktrTop dp un gd cn cs L a ccd cl outer) (call (.ref 288) []) Q E s := by
  k_with_none
  w_top off
  revert B F X N T hk hdp hu hret
  k_fill
  intro B F X N T hk hdp hu hret
  refine wpAny_call ?_
  k_dflt cell_enter
  k_steps
  refine hret _ _ _ _ _ ⟨rfl, ?_⟩ (by assumption) (by assumption)
  repeat' (first | exact List.forall_mem_nil _ | refine List.forall_mem_cons.mpr ⟨⟨_, _, rfl, okay_of (by decide +kernel)⟩, ?_⟩)

theorem c_heads (B : Below A₀ base outer h₀) (F : Fr h₀ L s.heap m) (X : (hd.heap_39 w.params).In h₀) (N : News h₀ L s.heap news) (T : Top hd.view_39 loose mean mg mb h₀) (hk : cs.kind = .function)
    (hdp : dp + 2 < recursionLimit) (hu : un + 16 < cLine)
    (hret : ∀ (l : Addr) (vs : List Value) (n : Nat) (h' : Heap) (tk' : Nat), Texts 13 9 vs → Fr h₀ L h' m → News h₀ L h' ((l, listOf vs.toArray n) :: news) → Q (.ref l) { s with heap := h', toks := tk' }) :
    wpAny (model PySem.Challenge.rw_ez0282_01.row.prog w) (ktrTop dp un gd cn cs L a ccd cl outer) (call (.ref 295) []) Q E s := by
  k_with_none
  w_top off
  revert B F X N T hk hdp hu hret
  k_fill
  intro B F X N T hk hdp hu hret
  refine wpAny_call ?_
  k_dflt cell_enter
  k_steps
  refine hret _ _ _ _ _ ⟨rfl, ?_⟩ (by assumption) (by assumption)
  repeat' (first | exact List.forall_mem_nil _ | refine List.forall_mem_cons.mpr ⟨⟨_, _, rfl, okay_of (by decide +kernel)⟩, ?_⟩)

theorem c_signs (B : Below A₀ base outer h₀) (F : Fr h₀ L s.heap m) (X : (hd.heap_39 w.params).In h₀) (N : News h₀ L s.heap news) (T : Top hd.view_39 loose mean mg mb h₀) (hk : cs.kind = .function)
    (hdp : dp + 2 < recursionLimit) (hu : un + 16 < cLine)
    (hret : ∀ (l : Addr) (vs : List Value) (n : Nat) (h' : Heap) (tk' : Nat), Texts 14 1 vs → Fr h₀ L h' m → News h₀ L h' ((l, listOf vs.toArray n) :: news) → Q (.ref l) { s with heap := h', toks := tk' }) :
    wpAny (model PySem.Challenge.rw_ez0282_01.row.prog w) (ktrTop dp un gd cn cs L a ccd cl outer) (call (.ref 302) []) Q E s := by
  k_with_none
  w_top off
  revert B F X N T hk hdp hu hret
  k_fill
  intro B F X N T hk hdp hu hret
  refine wpAny_call ?_
  k_dflt cell_enter
  k_steps
  refine hret _ _ _ _ _ ⟨rfl, ?_⟩ (by assumption) (by assumption)
  repeat' (first | exact List.forall_mem_nil _ | refine List.forall_mem_cons.mpr ⟨⟨_, _, rfl, okay_of (by decide +kernel)⟩, ?_⟩)

theorem item_texts {prog : Program} {A : Around} {value slice : PySem.Expr} {l : Addr} {vs : List Value} {n len k : Nat} {i : Int} {u : Tok} (N : News h₀ L s.heap ((l, listOf vs.toArray n) :: news)) (ht : Texts len k vs) (h0 : 0 ≤ i) (h1 : i < (len : Int)) (hlen : len < 64)
    (h : ∀ y t, Okay k y → Q (.str y t) s)
    (hs : subscripted slice false (.ref l) (.int i u) = operate [.ref l, .int i u] (getItem (.ref l) (.int i u)) := by with_unfolding_all rfl) :
    wpAny (model prog w) A (subscriptTail value slice (.ref l) (.int i u)) Q E s := by
  have hl : s.heap.IsList l vs.toArray := News.isList N (.head _)
  have hi : i.toNat < vs.length := by rw [ht.1]; omega
  obtain ⟨y, t, e, hy⟩ := ht.2 vs[i.toNat] (List.getElem_mem hi)
  exact tail_any hl.typeIs slot_list_getitem.lookup (wpAny_getItem_list hl h0 (by omega) (x := .str y t) (by simp [hi, e]) (h y t hy)) hs
end
end Mine
end
section
open PySem PySem.W PySem.Calls PyProof.Rows PySem.Spec
set_option Elab.async false
set_option maxRecDepth 100000
set_option maxHeartbeats 4000000
set_option linter.unusedVariables false
namespace Mine
section
variable {w : World} {loose : List Str} {mean : ExcName → Option Value} {mg mb : Str → Option Value} {dp un : Nat} {gd : Option (List Code)} {cn : Str} {cs : Scope} {a : Addr} {ccd : Value} {cl : List (Str × Addr)} {outer : List Env} {A₀ : Around} {base h₀ : Heap} {L : Addr} {m : Str → Option Value} {s : Shared} {Q E : Value → Shared → Prop} {news : List (Addr × Obj)}



theorem tot_0 {k : Int} : 0 ≤ Int.fmod k 256 ∧ Int.fmod k 256 < 256 := ⟨Int.fmod_nonneg_of_pos k (by decide), Int.fmod_lt_of_pos k (by decide)⟩
theorem sum_lt : ∀ l : List Int, (∀ c ∈ l, 0 ≤ c ∧ c < 128) → 0 ≤ sumZ l ∧ sumZ l < 128 := by
  have all : ∀ (l : List Int) (v : Int), (∀ c ∈ l, 0 ≤ c ∧ c < 128) → 0 ≤ v → v < 128 → 0 ≤ l.foldl (fun v c => ((v.toNat ^^^ c.toNat : Nat) : Int)) v ∧ l.foldl (fun v c => ((v.toNat ^^^ c.toNat : Nat) : Int)) v < 128 := by
    intro l
    induction l with
    | nil => intro v _ h0 h1; exact ⟨h0, h1⟩
    | cons c r ih =>
      intro v h h0 h1
      have hc := h c (.head _)
      have : v.toNat ^^^ c.toNat < 2 ^ 7 := Nat.xor_lt_two_pow (by omega) (by omega)
      exact ih _ (fun d hd => h d (.tail _ hd)) (Int.natCast_nonneg _) (show ((v.toNat ^^^ c.toNat : Nat) : Int) < 128 by omega)
  exact fun l h => all l 0 h (Int.le_refl 0) (by decide)
theorem okay_empty : Okay 12 (Str.ofString "") := okay_of (by decide +kernel)
theorem okay_G : Okay 1 (Str.ofString "G") := okay_of (by decide +kernel)
theorem okay_star : Okay 1 (Str.ofString "*") := okay_of (by decide +kernel)
theorem Okay.to1 {n : Nat} {x : Str} (h : Okay n x) : Okay n (Txt.slice x none (some (1 : Int))) := h.slice_to 1
theorem Okay.from1 {n : Nat} {x : Str} (h : Okay n x) : Okay n (Txt.slice x (some (1 : Int)) none) := h.slice_from 1
theorem okay_crlf : Okay 12 (Str.ofString "\r\n") := okay_of (by decide +kernel)
local macro_rules | `(tactic| walk_at "call ref") => `(tactic| (k_here; k_dflt (refine' c_sum ?k1 ?k2 ?k3 ?k4 ?k5 ?kK ?hl ?hp ?hd ?hu ?_; (case k1 => k_asm); (case k2 => k_asm); (case k3 => k_asm); (case k4 => k_asm); (case k5 => k_asm); (case kK => first | exact rfl | assumption); (case hl => assumption); (case hp => assumption); (case hd => ktr_room); (case hu => ktr_units); k_whole; intro t9 h9 tk9 F9 N9; (try dsimp only); (try k_fold))))

local macro_rules | `(tactic| walk_at "call ref") => `(tactic| (k_here; k_dflt (refine' c_behind ?k1 ?k2 ?k3 ?k4 ?k5 ?kK ?hd ?hu ?_; (case k1 => k_asm); (case k2 => k_asm); (case k3 => k_asm); (case k4 => k_asm); (case k5 => k_asm); (case kK => first | exact rfl | assumption); (case hd => ktr_room); (case hu => ktr_units); k_whole; intro l9 vs9 n9 h9 tk9 ht9 F9 N9; (try dsimp only); (try k_fold))))
local macro_rules | `(tactic| walk_at "subscriptTail") => `(tactic| ((with_reducible show wpAny _ _ (subscriptTail _ _ (Value.ref _) (Value.int _ _)) _ _ _); (rename Texts _ _ _ => ht'); (rename News _ _ _ _ => N'); k_dflt (refine' item_texts N' ht' ?a ?b ?c ?_; (case a => omega); (case b => omega); (case c => decide); k_whole); intro y' t' hy'; (have hl' := And.left hy'); clear ht'))
theorem newsT {h₀ h : Heap} {L : Addr} {x : Addr × Obj} {a : List (Addr × Obj)} (N : News h₀ L h (x :: a)) : News h₀ L h a := fun p hp => N p (.tail _ hp)
theorem c_ending {pick more : Int} {body : Str} {t1 t2 t3 : Tok} (B : Below A₀ base outer h₀) (F : Fr h₀ L s.heap m) (X : (hd.heap_39 w.params).In h₀) (N : News h₀ L s.heap news) (T : Top hd.view_39 loose mean mg mb h₀) (hk : cs.kind = .function)
    (hp0 : 0 ≤ pick) (hp9 : pick ≤ 9) (hp3 : body.length ≤ 100) (hp : ∀ c ∈ KStt.codes body, 0 ≤ c ∧ c < 128) (hdp : dp + 5 < recursionLimit) (hu : un + 40 < cLine)
    (hret : ∀ (y : Str) (t : Tok) (h' : Heap) (tk' : Nat), Okay 12 y → Fr h₀ L h' m → News h₀ L h' news → Q (.str y t) { s with heap := h', toks := tk' }) :
    wpAny (model PySem.Challenge.rw_ez0282_01.row.prog w) (ktrTop dp un gd cn cs L a ccd cl outer) (call (.ref 330) [.int pick t1, .int more t2, .str body t3]) Q E s := by
  k_with_none
  w_top off
  revert B F X N T hk hp0 hp9 hp3 hp hdp hu hret
  k_fill
  intro B F X N T hk hp0 hp9 hp3 hp hdp hu hret
  refine wpAny_call ?_
  k_dflt cell_enter
  rename_i g1 L1 h1 FG1 F1 N1 B1 X1 T1 
  refine cut_execs 4 (fun s' => Hid (∃ total tt, MidP s g1 L1 [(Str.ofString "pick", .int pick t1), (Str.ofString "total", .int total tt)] news s' ∧ 0 ≤ total ∧ total < 256)) ?_ ?_
  · simp only [List.take_succ_cons, List.take_zero]
    k_steps
    k_steps
    all_goals first
      | exact hret _ _ _ _ (by first | exact okay_empty | exact okay_crlf) (by assumption) (by assumption)
      | (refine Hid.mk ⟨_, _, ⟨_, _, _, rfl, by assumption, List.forall_mem_cons.mpr ⟨rfl, List.forall_mem_cons.mpr ⟨rfl, List.forall_mem_nil _⟩⟩, by assumption⟩, ?_⟩
         first | exact tot_0 | exact ⟨(sum_lt _ hp).1, by have := (sum_lt _ hp).2; omega⟩)
  · intro s' hM
    obtain ⟨total, tt, hM, ht0, ht1⟩ := hM.out
    obtain ⟨h2, tk2, m2, rfl, F2, N2⟩ := hM.out
    simp only [List.drop_succ_cons, List.drop_zero]
    clear F1 N1
    refine cut_execs 1 (fun s' => Hid (∃ y ty, MidP s g1 L1 [(Str.ofString "pick", .int pick t1), (Str.ofString "digits", .str y ty)] news s' ∧ Okay 2 y)) ?_ ?_
    · simp only [List.take_succ_cons, List.take_zero]
      k_steps
      k_steps
      all_goals exact Hid.mk ⟨_, _, ⟨_, _, _, rfl, by assumption, List.forall_mem_cons.mpr ⟨rfl, List.forall_mem_cons.mpr ⟨rfl, List.forall_mem_nil _⟩⟩, by assumption⟩, Okay.digits ht0 ht1⟩
    · intro s' hM
      obtain ⟨y, ty, hM, hy⟩ := hM.out
      obtain ⟨h3, tk3, m3, rfl, F3, N3⟩ := hM.out
      simp only [List.drop_succ_cons, List.drop_zero]
      clear F2 N2
      have hy2 := hy.1
      refine cut_execs 3 (fun s' => Hid (∃ y ty, MidP s g1 L1 [(Str.ofString "pick", .int pick t1), (Str.ofString "digits", .str y ty)] news s' ∧ Okay 3 y)) ?_ ?_
      · simp only [List.take_succ_cons, List.take_zero]
        k_steps
        k_steps
        all_goals (refine Hid.mk ⟨_, _, ⟨_, _, _, rfl, by assumption, List.forall_mem_cons.mpr ⟨rfl, List.forall_mem_cons.mpr ⟨rfl, List.forall_mem_nil _⟩⟩, by assumption⟩, ?_⟩)
        all_goals first | with_reducible refine Okay.append (a := 1) (b := 2) okay_G (Okay.from1 ?_) | with_reducible refine Okay.le (n := 2) ?_ (by decide)
        all_goals (repeat' (first | with_reducible exact hy | with_reducible refine Okay.lower ?_ | with_reducible refine Okay.to1 ?_))
      · intro s' hM
        obtain ⟨z, tz, hM, hz⟩ := hM.out
        obtain ⟨h4, tk4, m4, rfl, F4, N4⟩ := hM.out
        simp only [List.drop_succ_cons, List.drop_zero]
        clear F3 N3
        have hz2 := hz.1
        k_steps
        exact hret _ _ _ _ (((okay_star.append hz).append (by assumption)).le (by decide)) (by assumption) (newsT (by assumption))
end
end Mine
end
section
open PySem PySem.W PySem.Calls PyProof.Rows PySem.Spec
set_option Elab.async false
set_option maxRecDepth 100000
set_option maxHeartbeats 4000000
set_option linter.unusedVariables false
namespace Mine
section
variable {w : World} {loose : List Str} {mean : ExcName → Option Value} {mg mb : Str → Option Value} {dp un : Nat} {gd : Option (List Code)} {cn : Str} {cs : Scope} {a : Addr} {ccd : Value} {cl : List (Str × Addr)} {outer : List Env} {A₀ : Around} {base h₀ : Heap} {L : Addr} {m : Str → Option Value} {s : Shared} {Q E : Value → Shared → Prop} {news : List (Addr × Obj)}



local macro_rules | `(tactic| walk_at "call ref") => `(tactic| (k_here; k_dflt (refine' c_openings ?k1 ?k2 ?k3 ?k4 ?k5 ?kK ?hd ?hu ?_; (case k1 => k_asm); (case k2 => k_asm); (case k3 => k_asm); (case k4 => k_asm); (case k5 => k_asm); (case kK => first | exact rfl | assumption); (case hd => ktr_room); (case hu => ktr_units); k_whole; intro l9 vs9 n9 h9 tk9 ht9 F9 N9; (try dsimp only); (try k_fold))))
local macro_rules | `(tactic| walk_at "call ref") => `(tactic| (k_here; k_dflt (refine' c_heads ?k1 ?k2 ?k3 ?k4 ?k5 ?kK ?hd ?hu ?_; (case k1 => k_asm); (case k2 => k_asm); (case k3 => k_asm); (case k4 => k_asm); (case k5 => k_asm); (case kK => first | exact rfl | assumption); (case hd => ktr_room); (case hu => ktr_units); k_whole; intro l9 vs9 n9 h9 tk9 ht9 F9 N9; (try dsimp only); (try k_fold))))
local macro_rules | `(tactic| walk_at "call ref") => `(tactic| (k_here; k_dflt (refine' c_signs ?k1 ?k2 ?k3 ?k4 ?k5 ?kK ?hd ?hu ?_; (case k1 => k_asm); (case k2 => k_asm); (case k3 => k_asm); (case k4 => k_asm); (case k5 => k_asm); (case kK => first | exact rfl | assumption); (case hd => ktr_room); (case hu => ktr_units); k_whole; intro l9 vs9 n9 h9 tk9 ht9 F9 N9; (try dsimp only); (try k_fold))))
local macro_rules | `(tactic| walk_at "subscriptTail") => `(tactic| ((with_reducible show wpAny _ _ (subscriptTail _ _ (Value.ref _) (Value.int _ _)) _ _ _); (rename Texts _ _ _ => ht'); (rename News _ _ _ _ => N'); k_dflt (refine' item_texts N' ht' ?a ?b ?c ?_; (case a => l_fact); (case b => l_fact); (case c => decide); k_whole); intro y' t' hy'; (have hl' := And.left hy'); clear ht'))

local macro_rules | `(tactic| walk_at "call ref") => `(tactic| (k_here; k_dflt (refine' c_ending ?k1 ?k2 ?k3 ?k4 ?k5 ?kK ?p0 ?p9 ?p3 ?pc ?hd ?hu ?_; (case k1 => k_asm); (case k2 => k_asm); (case k3 => k_asm); (case k4 => k_asm); (case k5 => k_asm); (case kK => first | exact rfl | assumption); (case p0 => exact Int.fmod_nonneg_of_pos _ (by decide)); (case p9 => exact Int.lt_add_one_iff.mp (Int.fmod_lt_of_pos _ (by decide))); (case p3 => omega); (case pc => exact Okay.lt (by assumption)); (case hd => ktr_room); (case hu => ktr_units); k_whole; intro y9 t9 h9 tk9 hy9 F9 N9; (have hl9 := And.left hy9); (try dsimp only); (try k_fold))))
theorem okay_gpwpl : Okay 9 (Str.ofString "GPWPL,") := okay_of (by decide +kernel)
theorem line_start {b : Str} (h : Okay 9 b) : Okay (9 + ([] : List Int).length) b ∧ b.length ≤ 9 + ([] : List Int).length := ⟨h, h.1⟩
theorem line_turn {b y : Str} {pre : List Int} {n : Int} (h : Okay (9 + pre.length) b) (hy : Okay 1 y) : Okay (9 + (pre ++ [n]).length) (b ++ y) ∧ (b ++ y).length ≤ 9 + (pre ++ [n]).length := by
  have h3 := h.append hy
  have e : 9 + (pre ++ [n]).length = 9 + pre.length + 1 := by simp; omega
  rw [e]
  exact ⟨h3, h3.1⟩
theorem line_end {op b y : Str} {k : Nat} (h1 : Okay 3 op) (h2 : Okay (9 + k) b) (h3 : Okay 12 y) (hk : k ≤ 12) : Okay 64 (op ++ b ++ y) := ((h1.append h2).append h3).le (by omega)
theorem c_line {r : Addr} {vs : List Value} {ns : List Int} {n : Nat} (B : Below A₀ base outer h₀) (F : Fr h₀ L s.heap m) (X : (hd.heap_39 w.params).In h₀) (N : News h₀ L s.heap ((r, listOf vs.toArray n) :: news)) (T : Top hd.view_39 loose mean mg mb h₀) (hk : cs.kind = .function)
    (hi : IntsAre vs ns) (hn : ns.length ≤ 12) (hdp : dp + 8 < recursionLimit) (hu : un + 60 < cLine)
    (hret : ∀ (y : Str) (t : Tok) (h' : Heap) (tk' : Nat), Okay 64 y → Fr h₀ L h' m → News h₀ L h' ((r, listOf vs.toArray n) :: news) → Q (.str y t) { s with heap := h', toks := tk' }) :
    wpAny (model PySem.Challenge.rw_ez0282_01.row.prog w) (ktrTop dp un gd cn cs L a ccd cl outer) (call (.ref 337) [.ref r]) Q E s := by
  k_with_none
  w_top off
  revert B F X N T hk hi hn hdp hu hret
  k_fill
  intro B F X N T hk hi hn hdp hu hret
  refine wpAny_call ?_
  k_dflt cell_enter
  rename_i g1 L1 h1 FG1 F1 N1 B1 X1 T1 
  refine cut_execs 1 (fun s' => Hid (∃ y ty, MidP s g1 L1 [(Str.ofString "row", .ref r), (Str.ofString "opening", .str y ty)] ((r, listOf vs.toArray n) :: news) s' ∧ Okay 3 y)) ?_ ?_
  · simp only [List.take_succ_cons, List.take_zero]
    k_steps
    all_goals (refine Hid.mk ⟨_, _, ⟨_, _, _, rfl, by assumption, List.forall_mem_cons.mpr ⟨rfl, List.forall_mem_cons.mpr ⟨rfl, List.forall_mem_nil _⟩⟩, by first | assumption | exact newsT (by assumption)⟩, ?_⟩)
    all_goals first | assumption | exact okay_of (by decide +kernel) 
  · intro s' hM
    obtain ⟨op, top, hM, hop⟩ := hM.out
    obtain ⟨h2, tk2, m2, rfl, F2, N2⟩ := hM.out
    simp only [List.drop_succ_cons, List.drop_zero]
    clear F1 N1
    refine cut_execs 1 (fun s' => Hid (∃ y ty, MidP s g1 L1 [(Str.ofString "row", .ref r), (Str.ofString "opening", .str op top), (Str.ofString "body", .str y ty)] ((r, listOf vs.toArray n) :: news) s' ∧ Okay 9 y)) ?_ ?_
    · simp only [List.take_succ_cons, List.take_zero]
      k_steps
      all_goals (refine Hid.mk ⟨_, _, ⟨_, _, _, rfl, by assumption, List.forall_mem_cons.mpr ⟨rfl, List.forall_mem_cons.mpr ⟨rfl, List.forall_mem_cons.mpr ⟨rfl, List.forall_mem_nil _⟩⟩⟩, by first | assumption | exact newsT (by assumption)⟩, ?_⟩)
      all_goals first | assumption | exact okay_gpwpl
    · intro s' hM
      obtain ⟨bd, tbd, hM, hbd⟩ := hM.out
      obtain ⟨h3, tk3, m3, rfl, F3, N3⟩ := hM.out
      simp only [List.drop_succ_cons, List.drop_zero]
      clear F2 N2
      refine cut_execs 1 (fun s' => Hid (∃ p tp, MidP s g1 L1 [(Str.ofString "row", .ref r), (Str.ofString "opening", .str op top), (Str.ofString "body", .str bd tbd), (Str.ofString "pick", .int p tp)] ((r, listOf vs.toArray n) :: news) s')) ?_ ?_
      · simp only [List.take_succ_cons, List.take_zero]
        k_steps
        all_goals exact Hid.mk ⟨_, _, ⟨_, _, _, rfl, by assumption, List.forall_mem_cons.mpr ⟨rfl, List.forall_mem_cons.mpr ⟨rfl, List.forall_mem_cons.mpr ⟨rfl, List.forall_mem_cons.mpr ⟨rfl, List.forall_mem_nil _⟩⟩⟩⟩, by first | assumption | exact newsT (by assumption)⟩⟩
      · intro s' hM
        obtain ⟨pk, tpk, hM⟩ := hM.out
        obtain ⟨h4, tk4, m4, rfl, F4, N4⟩ := hM.out
        simp only [List.drop_succ_cons, List.drop_zero]
        clear F3 N3
        have hop1 := hop.1
        k_with "state" => first | exact line_start (by assumption) | exact line_turn (by assumption) (by assumption)
        k_with "pyIter ref" => k_state (fun pre b => Okay (9 + pre.length) b ∧ b.length ≤ 9 + pre.length) "body"
        k_steps
        exact hret _ _ _ _ (line_end (k := (List.drop 3 ns).length) hop (by assumption) (by assumption) (by rw [List.length_drop]; omega)) (by assumption) (newsT (by assumption))
end
end Mine
end
section
open PySem PySem.W PySem.Calls PyProof.Rows PySem.Spec
set_option Elab.async false
set_option maxRecDepth 100000
set_option maxHeartbeats 4000000
set_option linter.unusedVariables false
namespace Mine
/-! the plain reading: a line's signs, what is due -/
def isBl (c : Nat) : Bool := c == 32 || c == 9 || c == 13 || c == 10
def openL (l : List Nat) : List Nat := match l.dropWhile isBl with
  | [] => []
  | c :: r => if c = 36 then r else c :: r
def bodyL (l : List Nat) : List Nat := (openL l).takeWhile (· != 42)
def starL (l : List Nat) : List Nat := (openL l).dropWhile (· != 42)
def hexOk (c : Nat) : Bool := (decide (48 ≤ c) && decide (c ≤ 57)) || (decide (65 ≤ c) && decide (c ≤ 70)) || (decide (97 ≤ c) && decide (c ≤ 102))
def hexV (c : Nat) : Nat := if c ≤ 57 then c - 48 else if c ≤ 70 then c - 55 else c - 87
def tailOk : List Nat → Bool
  | a :: b :: r => hexOk a && hexOk b && r.all isBl
  | _ => false
def tailV : List Nat → Nat
  | a :: b :: _ => 16 * hexV a + hexV b
  | _ => 0
def wordsL (b : List Nat) (n : Nat) : Bool := decide (n ≤ b.length) && (b.take n).all fun c => wordc (c : Int)
def sizeL (b : List Nat) : Option Nat :=
  if (b.take 1 == [80] || b.take 1 == [112]) && wordsL (b.drop 1) 3 then some 4
  else if wordsL b 4 && ((b.drop 4).take 2 == [81, 44] || (b.drop 4).take 2 == [113, 44]) && wordsL (b.drop 6) 3 then some 9
  else if wordsL b 5 && (b.drop 5).take 1 == [44] then some 6
  else none
def sumL (b : List Nat) : Int := sumZ (b.map fun (c : Nat) => (c : Int))
def partsL : List Nat → List (List Nat)
  | [] => [[]]
  | c :: r => if c = 44 then [] :: partsL r else match partsL r with
    | h :: t => (c :: h) :: t
    | [] => [[c]]
def dS (s : String) : Dat := .str (Str.ofString s)
def dL (l : List Nat) : Dat := .str ⟨l.toArray⟩
def noS : Dat := .list [dS "no sentence"]
def sumR : Dat := .list [dS "sum"]
def kindR : Dat := .list [dS "kind"]
def kindOk (k : List Nat) (hasW : Bool) : Bool := k == [84, 88, 84] || (hasW && k == [87, 80, 76])
/-- the end, once the size and the sum are settled -/
def restD (b : List Nat) (z : Nat) (hasW : Bool) : Dat :=
  let head := (b.take z).map up1
  let parts := Dat.list ((partsL (b.drop z)).map dL)
  if z = 4 then .list [dS "maker", dL (head.drop 1), parts]
  else if z = 6 then (if kindOk ((head.drop 2).take 3) hasW then .list [dS "talker", dL ((head.drop 2).take 3), dL (head.take 2), dL ((head.drop 2).take 3), parts] else kindR)
  else if b.drop z = [] then .list [dS "question", dL (head.take 2), dL ((head.drop 2).take 2), dL (head.drop 6), .list []] else noS
def sumGood (l : List Nat) (strict : Bool) : Bool := match starL l with
  | [] => !strict
  | _ :: t => decide ((tailV t : Int) = sumL (bodyL l))
def starOk (l : List Nat) : Bool := match starL l with
  | [] => true
  | _ :: t => tailOk t
def dueD (l : List Nat) (strict hasW : Bool) : Dat :=
  if starOk l = false then noS else
  match sizeL (bodyL l) with
  | none => noS
  | some z => if sumGood l strict = false then sumR else restD (bodyL l) z hasW

theorem partsL_ne (l : List Nat) : partsL l ≠ [] := by
  cases l with
  | nil => simp [partsL]
  | cons c r =>
    unfold partsL
    split
    · simp
    · split <;> simp
theorem partsL_snoc_comma (l : List Nat) : partsL (l ++ [44]) = partsL l ++ [[]] := by
  induction l with
  | nil => simp [partsL]
  | cons c r ih =>
    rw [List.cons_append]
    unfold partsL
    by_cases h : c = 44
    · simp [h, ih]
    · simp only [h, if_false, ih]
      cases e : partsL r with
      | nil => exact absurd e (partsL_ne r)
      | cons a t => simp
theorem partsL_snoc {l : List Nat} {c : Nat} (hc : c ≠ 44) : ∀ {ps : List (List Nat)} {q : List Nat}, partsL l = ps ++ [q] → partsL (l ++ [c]) = ps ++ [q ++ [c]] := by
  induction l with
  | nil =>
    intro ps q h
    have : ps = [] ∧ q = [] := by
      cases ps with
      | nil => simpa [partsL] using h.symm
      | cons a r => simp [partsL] at h
    obtain ⟨rfl, rfl⟩ := this
    simp [partsL, hc]
  | cons d r ih =>
    intro ps q h
    rw [List.cons_append]
    by_cases hd : d = 44
    · simp only [partsL, hd, if_true] at h ⊢
      cases ps with
      | nil =>
        have h' : partsL r = [] := by simpa using congrArg List.tail h
        exact absurd h' (partsL_ne r)
      | cons a t =>
        simp only [List.cons_append, List.cons.injEq] at h ⊢
        exact ⟨h.1, ih h.2⟩
    · simp only [partsL, hd, if_false] at h ⊢
      cases e : partsL r with
      | nil => exact absurd e (partsL_ne r)
      | cons a t =>
        rw [e] at h
        simp only at h
        cases ps with
        | nil =>
          simp only [List.nil_append, List.cons.injEq] at h
          obtain ⟨rfl, rfl⟩ := h
          have := ih (ps := []) (q := a) e
          rw [this]
          simp
        | cons b u =>
          simp only [List.cons_append, List.cons.injEq] at h
          obtain ⟨rfl, rfl⟩ := h
          have := ih (ps := a :: u) (q := q) e
          rw [this]
          simp
end Mine
end
section
open PySem PySem.W PySem.Calls PyProof.Rows PySem.Spec
set_option Elab.async false
set_option maxRecDepth 100000
set_option maxHeartbeats 4000000
set_option linter.unusedVariables false
namespace Mine
section
variable {w : World} {loose : List Str} {mean : ExcName → Option Value} {mg mb : Str → Option Value} {dp un : Nat} {gd : Option (List Code)} {cn : Str} {cs : Scope} {a : Addr} {ccd : Value} {cl : List (Str × Addr)} {outer : List Env} {A₀ : Around} {base h₀ : Heap} {L : Addr} {m : Str → Option Value} {s : Shared} {Q E : Value → Shared → Prop} {news : List (Addr × Obj)}




def blanksD : List Dat := [dS " ", dS "\t", dS "\r", dS "\n"]
theorem c_blanks (B : Below A₀ base outer h₀) (F : Fr h₀ L s.heap m) (X : (hd.heap_39 w.params).In h₀) (N : News h₀ L s.heap news) (T : Top hd.view_39 loose mean mg mb h₀) (hk : cs.kind = .function)
    (hdp : dp + 2 < recursionLimit) (hu : un + 16 < cLine)
    (hret : ∀ (l : Addr) (vs : List Value) (n : Nat) (h' : Heap) (tk' : Nat), DatAll [] vs blanksD → Fr h₀ L h' m → News h₀ L h' ((l, listOf vs.toArray n) :: news) → Q (.ref l) { s with heap := h', toks := tk' }) :
    wpAny (model PySem.Challenge.rw_ez0282_01.row.prog w) (ktrTop dp un gd cn cs L a ccd cl outer) (call (.ref 316) []) Q E s := by
  k_with_none
  w_top off
  revert B F X N T hk hdp hu hret
  k_fill
  intro B F X N T hk hdp hu hret
  refine wpAny_call ?_
  k_dflt cell_enter
  k_steps
  exact hret _ _ _ _ _ (.cons (.str _ _) (.cons (.str _ _) (.cons (.str _ _) (.cons (.str _ _) .nil)))) (by assumption) (by assumption)

theorem blank_mem {c : Nat} : (Dat.str ⟨#[c]⟩ ∈ blanksD) ↔ isBl c = true := by
  have e : ∀ k : Nat, (Dat.str ⟨#[c]⟩ = Dat.str ⟨#[k]⟩) ↔ c = k := by
    intro k
    rw [Dat.str.injEq, Str.mk.injEq]
    simp
  have l1 : Str.ofString " " = ⟨#[32]⟩ := by decide +kernel
  have l2 : Str.ofString "\t" = ⟨#[9]⟩ := by decide +kernel
  have l3 : Str.ofString "\r" = ⟨#[13]⟩ := by decide +kernel
  have l4 : Str.ofString "\n" = ⟨#[10]⟩ := by decide +kernel
  simp only [blanksD, dS, List.mem_cons, List.not_mem_nil, or_false, l1, l2, l3, l4, e, isBl, Bool.or_eq_true, beq_iff_eq, or_assoc]
theorem blanks_ok : ∀ d ∈ blanksD, kqdOk 8 d = true := by
  have : blanksD.all (kqdOk 8) = true := by decide +kernel
  exact List.all_eq_true.mp this
theorem decide_any {p : Prop} {i : Decidable p} {b : Bool} (h : p ↔ b = true) : @decide p i = b := by
  rw [Bool.eq_iff_iff, decide_eq_true_eq]; exact h
theorem in_blanks {prog : Program} {A : Around} {l : Addr} {vs : List Value} {n c : Nat} {u : Tok} (N : News h₀ L s.heap ((l, listOf vs.toArray n) :: news)) (hb : DatAll [] vs blanksD) (hc : c < 128) (hu : A.units + 64 < cLine)
    (h : Q (.bool (isBl c)) s) : wpAny (model prog w) A (compareOp .In (.str ⟨#[c]⟩ u) (.ref l)) Q E s := by
  refine kqd_isIn N (.head _) rfl rfl hb (fun _ hp => nomatch hp) (DatIn.str (news := []) _ u) (fun _ hp => nomatch hp) blanks_ok ?_ hu ?_
  · show PyData.strOk ⟨#[c]⟩ = true
    simp [PyData.strOk]; omega
  · rw [decide_any blank_mem]; exact h
theorem notIn_blanks {prog : Program} {A : Around} {l : Addr} {vs : List Value} {n c : Nat} {u : Tok} (N : News h₀ L s.heap ((l, listOf vs.toArray n) :: news)) (hb : DatAll [] vs blanksD) (hc : c < 128) (hu : A.units + 64 < cLine)
    (h : Q (.bool (!isBl c)) s) : wpAny (model prog w) A (compareOp .NotIn (.str ⟨#[c]⟩ u) (.ref l)) Q E s := by
  refine kqd_notIn N (.head _) rfl rfl hb (fun _ hp => nomatch hp) (DatIn.str (news := []) _ u) (fun _ hp => nomatch hp) blanks_ok ?_ hu ?_
  · show PyData.strOk ⟨#[c]⟩ = true
    simp [PyData.strOk]; omega
  · rw [decide_any blank_mem]; exact h
theorem in_blanks_item {prog : Program} {A : Around} {l : Addr} {vs : List Value} {n : Nat} {x : Str} {i : Int} {u : Tok} {k : Nat} (N : News h₀ L s.heap ((l, listOf vs.toArray n) :: news)) (hb : DatAll [] vs blanksD) (hx : Okay k x) (hu : A.units + 64 < cLine)
    (h : Q (.bool (isBl ((Txt.charAt x i).getD 0))) s) : wpAny (model prog w) A (compareOp .In (.str (Txt.item x i) u) (.ref l)) Q E s := by
  refine in_blanks N hb ?_ hu h
  cases e : Txt.charAt x i with
  | none => decide
  | some c =>
    obtain ⟨j, hj, hc⟩ := Option.bind_eq_some_iff.mp e
    exact hx.ascii c (Array.mem_toList_iff.mpr (Array.mem_of_getElem? hc))
theorem charAt_nat {x : Str} {p : Nat} (h : p < (tl x).length) : (Txt.charAt x (p : Int)).getD 0 = (tl x)[p] := by
  have h1 : p < x.cps.size := by rw [tl_len] at h; exact h
  have e : Txt.charAt x (p : Int) = some x.cps[p] := by
    refine StrLaws.at_nonneg (Int.natCast_nonneg p) ?_
    rw [Int.toNat_natCast]
    exact Array.getElem?_eq_getElem h1
  rw [e]
  simp [tl]
end
end Mine
end
section
open PySem PySem.W PySem.Calls PyProof.Rows PySem.Spec
open Builtin Builtin.Str PySem.StrLaws
set_option Elab.async false
set_option maxRecDepth 100000
set_option maxHeartbeats 4000000
set_option linter.unusedVariables false
namespace Mine
theorem tl_upper {x : Str} (h : ∀ c ∈ x.cps.toList, c < 128) : tl (Txt.upper x) = (tl x).map up1 := by
  rw [upper_ascii h]; simp [tl]
theorem at_one {x : Str} {c i : Nat} : At x ⟨#[c]⟩ x.length i ↔ (tl x)[i]? = some c := subAt_one x c i
theorem tw_first {c : Nat} : ∀ {l : List Nat} {i : Nat}, l[i]? = some c → (∀ k, k < i → l[k]? ≠ some c) → (l.takeWhile (· != c)).length = i
  | [], i, h, _ => by simp at h
  | d :: r, 0, h, _ => by
    have : d = c := by simpa using h
    simp [this]
  | d :: r, i + 1, h, hn => by
    have hd : d ≠ c := by have := hn 0 (Nat.succ_pos i); simpa using this
    have := tw_first (l := r) (i := i) (by simpa using h) (fun k hk => by have := hn (k + 1) (Nat.succ_lt_succ hk); simpa using this)
    rw [List.takeWhile_cons, if_pos (by simpa using hd), List.length_cons, this]
theorem tw_all {c : Nat} : ∀ {l : List Nat}, (∀ i : Nat, l[i]? ≠ some c) → l.takeWhile (· != c) = l ∧ l.dropWhile (· != c) = []
  | [], _ => ⟨rfl, rfl⟩
  | d :: r, h => by
    have hd : d ≠ c := by have := h 0; simpa using this
    obtain ⟨h1, h2⟩ := tw_all (l := r) fun i => by have := h (i + 1); simpa using this
    have hd' : (d != c) = true := by simpa using hd
    exact ⟨by rw [List.takeWhile_cons, if_pos hd', h1], by rw [List.dropWhile_cons, if_pos hd', h2]⟩
theorem dw_at {f : Nat → Bool} : ∀ l : List Nat, l.dropWhile f = l.drop (l.takeWhile f).length
  | [] => rfl
  | c :: r => by
    rw [List.dropWhile_cons, List.takeWhile_cons]
    split
    · rw [List.length_cons, List.drop_succ_cons]; exact dw_at r
    · rfl
theorem dw_head {c : Nat} {l : List Nat} {i : Nat} (h : l[i]? = some c) (hn : ∀ k, k < i → l[k]? ≠ some c) : l.dropWhile (· != c) = c :: l.drop (i + 1) := by
  rw [dw_at, tw_first h hn]
  obtain ⟨hi, e⟩ := List.getElem?_eq_some_iff.mp h
  rw [List.drop_eq_getElem_cons hi, e]
/-- where a sign stands first -/
theorem occ_one (x : Str) (c : Nat) : (occurrences x ⟨#[c]⟩ 0 x.length 1 = [] ∧ (tl x).takeWhile (· != c) = tl x ∧ (tl x).dropWhile (· != c) = []) ∨
    ∃ r, occurrences x ⟨#[c]⟩ 0 x.length 1 = ((tl x).takeWhile (· != c)).length :: r ∧ (tl x).dropWhile (· != c) = c :: (tl x).drop (((tl x).takeWhile (· != c)).length + 1) := by
  rcases occ_head x ⟨#[c]⟩ 1 (Nat.le_refl 1) with ⟨h0, hn⟩ | ⟨i, r, h0, hi, hn⟩
  · exact .inl ⟨h0, tw_all fun i e => hn i (at_one.mpr e)⟩
  · have h1 := at_one.mp hi
    have h2 : ∀ k, k < i → (tl x)[k]? ≠ some c := fun k hk e => hn k hk (at_one.mpr e)
    have e := tw_first h1 h2
    exact .inr ⟨r, by rw [e]; exact h0, by rw [e]; exact dw_head h1 h2⟩
theorem find_one (x : Str) (c : Nat) : Txt.find x ⟨#[c]⟩ = if (tl x).dropWhile (· != c) = [] then -1 else (((tl x).takeWhile (· != c)).length : Int) := by
  unfold Txt.find
  rcases occ_one x c with ⟨h0, h1, h2⟩ | ⟨r, h0, h2⟩
  · rw [h0, h2, if_pos rfl]
  · rw [h0, h2, if_neg (by simp)]
theorem tl_sub (x : Str) (i j : Nat) : tl (strSub x i j) = ((tl x).drop i).take (j - i) := strSub_toList x i j
theorem tw_take {l a b : List Nat} (h : l = a ++ b) : l.take a.length = a := by rw [h]; exact List.take_left
theorem part_one (x : Str) (c : Nat) : tl (Txt.partition x ⟨#[c]⟩).1 = (tl x).takeWhile (· != c) ∧ (tl (Txt.partition x ⟨#[c]⟩).2.1 = if (tl x).dropWhile (· != c) = [] then [] else [c]) ∧ tl (Txt.partition x ⟨#[c]⟩).2.2 = ((tl x).dropWhile (· != c)).drop 1 := by
  unfold Txt.partition
  rcases occ_one x c with ⟨h0, h1, h2⟩ | ⟨r, h0, h2⟩
  · rw [h0, h1, h2, if_pos rfl]; exact ⟨rfl, rfl, rfl⟩
  · rw [h0, h2, if_neg (by simp)]
    refine ⟨?_, rfl, ?_⟩
    · rw [tl_sub, List.drop_zero, Nat.sub_zero]
      have := (List.takeWhile_append_dropWhile (p := (· != c)) (l := tl x))
      exact tw_take this.symm
    · rw [tl_sub]
      show _ = (tl x).drop _
      refine List.take_of_length_le ?_
      rw [List.length_drop, tl_len]
      exact Nat.le_refl _
theorem tl_join (c : Nat) : ∀ (ps : List Str), tl (Str.join ⟨#[c]⟩ ps) = match ps with | [] => [] | [p] => tl p | p :: q :: r => tl p ++ c :: tl (Str.join ⟨#[c]⟩ (q :: r))
  | [] => rfl
  | [p] => rfl
  | p :: q :: r => by
    show tl (p ++ ⟨#[c]⟩ ++ Str.join ⟨#[c]⟩ (q :: r)) = _
    rw [tl_append, tl_append]
    show (tl p ++ [c]) ++ _ = _
    simp
theorem partsL_free : ∀ {l : List Nat}, 44 ∉ l → partsL l = [l]
  | [], _ => rfl
  | c :: r, h => by
    have hc : c ≠ 44 := fun e => h (e ▸ .head _)
    have := partsL_free (l := r) fun e => h (.tail _ e)
    simp [partsL, hc, this]
theorem partsL_cut : ∀ {l : List Nat} (r : List Nat), 44 ∉ l → partsL (l ++ 44 :: r) = l :: partsL r
  | [], r, _ => by simp [partsL]
  | c :: t, r, h => by
    have hc : c ≠ 44 := fun e => h (e ▸ .head _)
    have := partsL_cut (l := t) r fun e => h (.tail _ e)
    simp [partsL, hc, this]
theorem partsL_join : ∀ (ps : List Str), ps ≠ [] → (∀ p ∈ ps, 44 ∉ tl p) → partsL (tl (Str.join ⟨#[44]⟩ ps)) = ps.map tl
  | [], h, _ => absurd rfl h
  | [p], _, h => by rw [tl_join]; exact partsL_free (h p (.head _))
  | p :: q :: r, _, h => by
    rw [tl_join]
    show partsL (tl p ++ 44 :: _) = _
    rw [partsL_cut _ (h p (.head _)), partsL_join (q :: r) (by simp) fun a ha => h a (.tail _ ha)]
    rfl
theorem split_ne (x : Str) : Txt.split x ⟨#[44]⟩ ≠ [] := by
  intro e
  have h := join_split x ⟨#[44]⟩
  rw [e] at h
  have hx : x.length = 0 := by rw [← h]; rfl
  unfold Txt.split at e
  have h1 : (⟨#[44]⟩ : Str).length = 1 := rfl
  rw [hx, h1] at e
  simp at e
theorem split_parts (x : Str) : (Txt.split x ⟨#[44]⟩).map tl = partsL (tl x) := by
  rw [← partsL_join _ (split_ne x) (fun p hp => split_free x 44 p hp), join_split]
theorem map_free (c a : Nat) : ∀ l : List Nat, c ∉ l → l = l.map fun k => if k = c then a else k
  | [], _ => rfl
  | d :: r, hn => by
    have hd : ¬ d = c := fun e => hn (by rw [e]; exact .head _)
    rw [List.map_cons, if_neg hd, ← map_free c a r fun e => hn (.tail _ e)]
theorem map_join (c a : Nat) : ∀ (ps : List Str), (∀ p ∈ ps, c ∉ tl p) → tl (Str.join ⟨#[a]⟩ ps) = (tl (Str.join ⟨#[c]⟩ ps)).map fun k => if k = c then a else k
  | [], _ => rfl
  | [p], h => by
    rw [tl_join, tl_join]
    exact map_free c a _ (h p (.head _))
  | p :: q :: r, h => by
    rw [tl_join, tl_join]
    show tl p ++ a :: _ = (tl p ++ c :: _).map _
    rw [List.map_append, List.map_cons, if_pos rfl, ← map_join c a (q :: r) fun s hs => h s (.tail _ hs), ← map_free c a _ (h p (.head _))]
theorem tl_replace (x : Str) (c a : Nat) : tl (Txt.replace x ⟨#[c]⟩ ⟨#[a]⟩) = (tl x).map fun k => if k = c then a else k := by
  rw [replace_one, map_join c a _ (fun p hp => split_free x c p hp), join_split]
theorem us_cps : Str.ofString "_" = ⟨#[95]⟩ := by decide +kernel
theorem a_cps : Str.ofString "a" = ⟨#[97]⟩ := by decide +kernel
theorem wordc_nat (k : Nat) : wordc (k : Int) = (Unicode.isAlnum k || k == 95) := by
  unfold wordc
  rw [us_cps]
  have e1 : Txt.isalnum ⟨#[k]⟩ = Unicode.isAlnum k := by simp [Txt.isalnum, Str.length]
  have e2 : (!((⟨#[k]⟩ : Str) != ⟨#[95]⟩)) = (k == 95) := by
    rw [Bool.eq_iff_iff]; simp
  simp only [Int.toNat_natCast, e1, e2]
theorem alnum_97 : Unicode.isAlnum 97 = true := by decide +kernel
theorem replace_words (x : Str) : Txt.isalnum (Txt.replace x (Str.ofString "_") (Str.ofString "a")) = (!(tl x).isEmpty && (tl x).all fun k => wordc (k : Int)) := by
  rw [us_cps, a_cps]
  have h := tl_replace x 95 97
  generalize Txt.replace x ⟨#[95]⟩ ⟨#[97]⟩ = y at h
  unfold Txt.isalnum
  have e1 : decide (y.length > 0) = !(tl x).isEmpty := by
    rw [← tl_len, h, List.length_map]
    cases tl x <;> simp
  have e2 : y.cps.all Unicode.isAlnum = (tl x).all fun k => wordc (k : Int) := by
    rw [← Array.all_toList]
    show (tl y).all _ = _
    rw [h, List.all_map]
    refine List.all_congr rfl fun k => ?_
    show Unicode.isAlnum (if k = 95 then 97 else k) = _
    rw [wordc_nat]
    split
    · rename_i e; rw [e, alnum_97]; rfl
    · rename_i e; rw [beq_eq_false_iff_ne.mpr e, Bool.or_false]
  rw [e1, e2]
/-- the program's test of a word, and the law's -/
theorem wordlike_L (x : Str) (i j : Nat) (h : i < j) : wordlikeF (Txt.slice x (some (i : Int)) (some (j : Int))) ((j - i : Nat) : Int) = wordsL ((tl x).drop i) (j - i) := by
  unfold wordlikeF wordsL
  rw [replace_words, slice_mid x (Nat.le_of_lt h), ← tl_len, slice_mid x (Nat.le_of_lt h)]
  by_cases hl : j - i ≤ ((tl x).drop i).length
  · have e1 : (((tl x).drop i).take (j - i)).length = j - i := by rw [List.length_take]; omega
    have e2 : ¬ ((((tl x).drop i).take (j - i)).isEmpty = true) := by
      rw [List.isEmpty_iff]; intro e; rw [e] at e1; simp at e1; omega
    rw [e1, decide_eq_true hl, Bool.eq_false_iff.mpr e2]
    simp
  · have e1 : (((tl x).drop i).take (j - i)).length ≠ j - i := by rw [List.length_take]; omega
    have e3 : ¬ ((((((tl x).drop i).take (j - i)).length : Nat) : Int) = ((j - i : Nat) : Int)) := by omega
    simp only [decide_eq_false e3, decide_eq_false hl, Bool.false_and]
theorem wordlike_L0 (x : Str) (j : Nat) (h : 0 < j) : wordlikeF (Txt.slice x none (some (j : Int))) (j : Int) = wordsL (tl x) j := by
  have e : Txt.slice x none (some (j : Int)) = Txt.slice x (some ((0 : Nat) : Int)) (some (j : Int)) := by unfold Txt.slice; rw [sliceIdx_none_lo]; rfl
  have := wordlike_L x 0 j h
  rw [e]
  simpa using this
theorem words_L (x : Str) (j : Nat) : wordsF x (j : Int) = wordsL (tl x) j := by
  unfold wordsF wordsL
  rw [codes_tl, slice_to, List.all_map, tl_len]
  congr 1
  rw [decide_eq_decide]
  omega
end Mine
end
section
open PySem PySem.W PySem.Calls PyProof.Rows PySem.Spec
set_option Elab.async false
set_option maxRecDepth 100000
set_option maxHeartbeats 4000000
set_option linter.unusedVariables false
namespace Mine
theorem tw_go {f : Nat → Bool} : ∀ {l : List Nat} {p : Nat}, p ≤ (l.takeWhile f).length → (h : p < l.length) → f l[p] = true → p + 1 ≤ (l.takeWhile f).length
  | [], _, _, h, _ => absurd h (Nat.not_lt_zero _)
  | c :: r, 0, _, _, hf => by
    have : f c = true := hf
    rw [List.takeWhile_cons, if_pos this]; simp
  | c :: r, p + 1, hp, h, hf => by
    rw [List.takeWhile_cons] at hp ⊢
    split
    · rename_i hc
      rw [if_pos hc] at hp
      have := tw_go (l := r) (p := p) (by simpa using hp) (by simpa using h) hf
      simpa using this
    · rename_i hc
      rw [if_neg hc] at hp
      exact absurd hp (by simp)
theorem tw_no {f : Nat → Bool} : ∀ {l : List Nat} {p : Nat}, p ≤ (l.takeWhile f).length → (h : p < l.length) → f l[p] = false → p = (l.takeWhile f).length
  | [], _, _, h, _ => absurd h (Nat.not_lt_zero _)
  | c :: r, 0, _, _, hf => by
    have : ¬ f c = true := by have : f c = false := hf; rw [this]; exact Bool.false_ne_true
    rw [List.takeWhile_cons, if_neg this]; rfl
  | c :: r, p + 1, hp, h, hf => by
    rw [List.takeWhile_cons] at hp ⊢
    split
    · rename_i hc
      rw [if_pos hc] at hp
      have := tw_no (l := r) (p := p) (by simpa using hp) (by simpa using h) hf
      simpa using this
    · rename_i hc
      rw [if_neg hc] at hp
      exact absurd hp (by simp)
theorem tw_step {x : Str} {p : Nat} (hp : p ≤ ((tl x).takeWhile isBl).length) (h : (p : Int) < (x.length : Int)) (hf : isBl ((Txt.charAt x (p : Int)).getD 0) = true) : p + 1 ≤ ((tl x).takeWhile isBl).length := by
  have h1 : p < (tl x).length := by rw [tl_len]; omega
  rw [charAt_nat h1] at hf
  exact tw_go hp h1 hf
theorem tw_stop {x : Str} {p : Nat} (hp : p ≤ ((tl x).takeWhile isBl).length) (h : (p : Int) < (x.length : Int)) (hf : isBl ((Txt.charAt x (p : Int)).getD 0) = false) : p = ((tl x).takeWhile isBl).length := by
  have h1 : p < (tl x).length := by rw [tl_len]; omega
  rw [charAt_nat h1] at hf
  exact tw_no hp h1 hf
theorem tw_end {x : Str} {p : Nat} (hp : p ≤ ((tl x).takeWhile isBl).length) (h : ¬ (p : Int) < (x.length : Int)) : p = ((tl x).takeWhile isBl).length := by
  have h1 : (tl x).length = x.length := tl_len x
  have h2 : ((tl x).takeWhile isBl).length ≤ (tl x).length := (List.takeWhile_sublist _).length_le
  omega
theorem tw_less {x : Str} {p : Nat} (h : (p : Int) < (x.length : Int)) : (tl x).length - (p + 1) < (tl x).length - p := by
  have h1 : (tl x).length = x.length := tl_len x
  omega
theorem tw_val {p q : Nat} {t : Tok} (h : p = q) : some (Value.int (p : Int) t) = some (Value.int (q : Int) t) := by rw [h]
theorem dw_drop {f : Nat → Bool} : ∀ l : List Nat, l.dropWhile f = l.drop (l.takeWhile f).length
  | [] => rfl
  | c :: r => by
    rw [List.dropWhile_cons, List.takeWhile_cons]
    split
    · rw [List.length_cons, List.drop_succ_cons]; exact dw_drop r
    · rfl
theorem tl_beq {x y : Str} : (x == y) = (tl x == tl y) := by
  rw [Bool.eq_iff_iff, beq_iff_eq, beq_iff_eq]
  exact ⟨fun h => h ▸ rfl, tl_inj⟩
theorem tl_dollar : tl (Str.ofString "$") = [36] := by decide +kernel
theorem open_yes {x : Str} (h : (Txt.slice x (some ((((tl x).takeWhile isBl).length : Nat) : Int)) (some ((((tl x).takeWhile isBl).length : Nat) + 1 : Int)) == Str.ofString "$") = true) :
    tl (Txt.slice x (some ((((tl x).takeWhile isBl).length : Nat) + 1 : Int)) none) = openL (tl x) := by
  generalize hp : ((tl x).takeWhile isBl).length = p at h ⊢
  have e : ((p : Int) + 1) = ((p + 1 : Nat) : Int) := by omega
  rw [e] at h ⊢
  rw [tl_beq, slice_mid x (Nat.le_succ p), tl_dollar, beq_iff_eq] at h
  rw [slice_from]
  unfold openL
  rw [dw_drop, hp]
  cases hd : (tl x).drop p with
  | nil => rw [hd] at h; simp at h
  | cons c r =>
    rw [hd] at h
    have hc : c = 36 := by simpa [show p + 1 - p = 1 by omega] using h
    have hr : (tl x).drop (p + 1) = r := by rw [← List.drop_drop, hd]; rfl
    simp [hc, hr]
theorem open_no {x : Str} (h : (Txt.slice x (some ((((tl x).takeWhile isBl).length : Nat) : Int)) (some ((((tl x).takeWhile isBl).length : Nat) + 1 : Int)) == Str.ofString "$") = false) :
    tl (Txt.slice x (some ((((tl x).takeWhile isBl).length : Nat) : Int)) none) = openL (tl x) := by
  generalize hp : ((tl x).takeWhile isBl).length = p at h ⊢
  have e : ((p : Int) + 1) = ((p + 1 : Nat) : Int) := by omega
  rw [e] at h
  rw [tl_beq, slice_mid x (Nat.le_succ p), tl_dollar] at h
  rw [slice_from]
  unfold openL
  rw [dw_drop, hp]
  cases hd : (tl x).drop p with
  | nil => rfl
  | cons c r =>
    rw [hd] at h
    have hc : ¬ c = 36 := by simpa [show p + 1 - p = 1 by omega] using h
    simp [hc]
theorem openL_sub (l : List Nat) : (openL l).Sublist l := by
  have h := (List.dropWhile_sublist isBl (l := l))
  unfold openL
  cases e : l.dropWhile isBl with
  | nil => exact List.nil_sublist _
  | cons c r =>
    rw [e] at h
    dsimp only
    split
    · exact (List.sublist_cons_self c r).trans h
    · exact h
theorem star_cps : Str.ofString "*" = ⟨#[42]⟩ := by decide +kernel
def starI (l : List Nat) : Int := if starL l = [] then -1 else ((bodyL l).length : Int)
theorem find_star {bd x : Str} (h : tl bd = openL (tl x)) : Txt.find bd (Str.ofString "*") = starI (tl x) := by
  rw [star_cps, find_one, h]; rfl
theorem star_none {bd x : Str} (h : tl bd = openL (tl x)) (hs : starL (tl x) = []) : tl bd = bodyL (tl x) := by
  unfold starL at hs
  have := List.takeWhile_append_dropWhile (p := (· != 42)) (l := openL (tl x))
  rw [hs, List.append_nil] at this
  rw [h]; exact this.symm
theorem star_le {x : Str} : (starL (tl x)).length ≤ x.length := by
  rw [← tl_len]
  exact Nat.le_trans (List.dropWhile_sublist _).length_le (openL_sub _).length_le
theorem body_le {x : Str} : (bodyL (tl x)).length ≤ x.length := by
  rw [← tl_len]
  exact Nat.le_trans (List.takeWhile_sublist _).length_le (openL_sub _).length_le
theorem body_cut {bd x : Str} (h : tl bd = openL (tl x)) : tl (Txt.slice bd none (some ((bodyL (tl x)).length : Int))) = bodyL (tl x) := by
  rw [slice_to, h]
  exact tw_take (List.takeWhile_append_dropWhile (p := (· != 42)) (l := openL (tl x))).symm
theorem tail_cut {bd x : Str} (h : tl bd = openL (tl x)) : tl (Txt.slice bd (some (((bodyL (tl x)).length : Int) + 1)) none) = (starL (tl x)).drop 1 := by
  have e : (((bodyL (tl x)).length : Int) + 1) = (((bodyL (tl x)).length + 1 : Nat) : Int) := by omega
  rw [e, slice_from, h]
  unfold starL bodyL
  rw [dw_at, List.drop_drop]
theorem star_sub (l : List Nat) : (starL l).Sublist l := (List.dropWhile_sublist _).trans (openL_sub l)
theorem body_sub (l : List Nat) : (bodyL l).Sublist l := (List.takeWhile_sublist _).trans (openL_sub l)
theorem star_bad {l : List Nat} {s w : Bool} (hst : ¬ starL l = []) (h : tailOk ((starL l).drop 1) = false) : dueD l s w = noS := by
  have : starOk l = false := by
    unfold starOk
    cases e : starL l with
    | nil => exact absurd e hst
    | cons c t => rw [e] at h; exact h
  unfold dueD
  rw [this, if_pos rfl]
theorem DIG_cps : Str.ofString "0123456789ABCDEF" = ⟨#[48, 49, 50, 51, 52, 53, 54, 55, 56, 57, 65, 66, 67, 68, 69, 70]⟩ := by decide +kernel
theorem hex_up : ∀ c : Nat, c < 128 → decide (up1 c ∈ [48, 49, 50, 51, 52, 53, 54, 55, 56, 57, 65, 66, 67, 68, 69, 70]) = hexOk c := by decide +kernel
theorem item_nat {x : Str} {p : Nat} (h : p < (tl x).length) : Txt.item x (p : Int) = ⟨#[(tl x)[p]]⟩ := by
  show (⟨#[(Txt.charAt x (p : Int)).getD 0]⟩ : Str) = _
  rw [charAt_nat h]
theorem upper_one {c : Nat} (h : c < 128) : Txt.upper ⟨#[c]⟩ = ⟨#[up1 c]⟩ := by
  rw [upper_ascii (x := ⟨#[c]⟩) (by intro k hk; simp at hk; omega)]; simp
theorem dig_at {x : Str} {p : Nat} (h : p < (tl x).length) (hA : ∀ c ∈ x.cps.toList, c < 128) :
    (Builtin.Str.occurrences (Str.ofString "0123456789ABCDEF") (Txt.upper (Txt.item x (p : Int))) 0 (Str.ofString "0123456789ABCDEF").length 1).isEmpty = !hexOk ((tl x)[p]) := by
  have hc := hA _ (List.getElem_mem (l := tl x) h)
  rw [item_nat h, upper_one hc, ← hex_up _ hc]
  have := StrLaws.found_one (Str.ofString "0123456789ABCDEF") (up1 (tl x)[p])
  rw [← Bool.not_not (b := (Builtin.Str.occurrences _ _ _ _ _).isEmpty), this, DIG_cps]
theorem tail_short {tt : Str} (h : (tt.length : Int) < 2) : tailOk (tl tt) = false := by
  have hl := tl_len tt
  match e : tl tt with
  | [] => rfl
  | [a] => rfl
  | a :: b :: r => rw [e] at hl; simp at hl; omega
theorem tail_two {tt : Str} (h : ¬ (tt.length : Int) < 2) : ∃ a b r, tl tt = a :: b :: r := by
  have hl := tl_len tt
  match e : tl tt with
  | [] => rw [e] at hl; simp at hl; omega
  | [a] => rw [e] at hl; simp at hl; omega
  | a :: b :: r => exact ⟨a, b, r, rfl⟩
theorem dig_0 {tt : Str} {a b : Nat} {r : List Nat} (e : tl tt = a :: b :: r) (hA : ∀ c ∈ tt.cps.toList, c < 128) :
    (Builtin.Str.occurrences (Str.ofString "0123456789ABCDEF") (Txt.upper (Txt.item tt (0 : Int))) 0 (Str.ofString "0123456789ABCDEF").length 1).isEmpty = !hexOk a := by
  have h : 0 < (tl tt).length := by rw [e]; simp
  have h2 := dig_at h hA
  have e2 : (tl tt)[0] = a := by simp only [e, List.getElem_cons_zero]
  rw [e2] at h2
  exact h2
theorem dig_1 {tt : Str} {a b : Nat} {r : List Nat} (e : tl tt = a :: b :: r) (hA : ∀ c ∈ tt.cps.toList, c < 128) :
    (Builtin.Str.occurrences (Str.ofString "0123456789ABCDEF") (Txt.upper (Txt.item tt (1 : Int))) 0 (Str.ofString "0123456789ABCDEF").length 1).isEmpty = !hexOk b := by
  have h : 1 < (tl tt).length := by rw [e]; simp
  have h2 := dig_at h hA
  have e2 : (tl tt)[1] = b := by simp only [e, List.getElem_cons_zero, List.getElem_cons_succ]
  rw [e2] at h2
  exact h2
theorem tail_no0 {tt : Str} (hA : ∀ c ∈ tt.cps.toList, c < 128) (h : ¬ (tt.length : Int) < 2) (h0 : (Builtin.Str.occurrences (Str.ofString "0123456789ABCDEF") (Txt.upper (Txt.item tt (0 : Int))) 0 (Str.ofString "0123456789ABCDEF").length 1).isEmpty = true) : tailOk (tl tt) = false := by
  obtain ⟨a, b, r, e⟩ := tail_two h
  rw [dig_0 e hA] at h0
  rw [e]
  have : hexOk a = false := by simpa using h0
  simp [tailOk, this]
theorem tail_no1 {tt : Str} (hA : ∀ c ∈ tt.cps.toList, c < 128) (h : ¬ (tt.length : Int) < 2) (h1 : (Builtin.Str.occurrences (Str.ofString "0123456789ABCDEF") (Txt.upper (Txt.item tt (1 : Int))) 0 (Str.ofString "0123456789ABCDEF").length 1).isEmpty = true) : tailOk (tl tt) = false := by
  obtain ⟨a, b, r, e⟩ := tail_two h
  rw [dig_1 e hA] at h1
  rw [e]
  have : hexOk b = false := by simpa using h1
  simp [tailOk, this]
theorem tail_yes {tt : Str} (hA : ∀ c ∈ tt.cps.toList, c < 128) (h : ¬ (tt.length : Int) < 2) (h0 : (Builtin.Str.occurrences (Str.ofString "0123456789ABCDEF") (Txt.upper (Txt.item tt (0 : Int))) 0 (Str.ofString "0123456789ABCDEF").length 1).isEmpty = false)
    (h1 : (Builtin.Str.occurrences (Str.ofString "0123456789ABCDEF") (Txt.upper (Txt.item tt (1 : Int))) 0 (Str.ofString "0123456789ABCDEF").length 1).isEmpty = false) : ∃ a b r, tl tt = a :: b :: r ∧ hexOk a = true ∧ hexOk b = true := by
  obtain ⟨a, b, r, e⟩ := tail_two h
  rw [dig_0 e hA] at h0
  rw [dig_1 e hA] at h1
  exact ⟨a, b, r, e, by simpa using h0, by simpa using h1⟩
theorem allLt_out {d : Addr} : ∀ {l : List (Addr × Obj)}, AllLt d l → ∀ p ∈ l, p.1 < d
  | [], _, _, hp => nomatch hp
  | q :: r, h, p, hp => by
    rcases List.mem_cons.mp hp with rfl | hp
    · exact h.1
    · exact allLt_out h.2 p hp
theorem codes_from2 {tt : Str} {a b : Nat} {r : List Nat} (e1 : tl tt = a :: b :: r) : KStt.codes (Txt.slice tt (some (2 : Int)) none) = r.map fun (c : Nat) => (c : Int) := by
  have e : tl (Txt.slice tt (some (2 : Int)) none) = (tl tt).drop 2 := slice_from tt 2
  rw [codes_tl, e, e1]; rfl
theorem tail_bad {tt : Str} {a b n : Nat} {r : List Nat} {pre post : List Int} (e1 : tl tt = a :: b :: r) (ec : KStt.codes (Txt.slice tt (some (2 : Int)) none) = pre ++ (n : Int) :: post) (h : isBl n = false) : tailOk (tl tt) = false := by
  rw [codes_from2 e1] at ec
  have hm : (n : Int) ∈ r.map fun (c : Nat) => (c : Int) := by rw [ec]; exact List.mem_append_right _ (.head _)
  obtain ⟨k, hk, e⟩ := List.mem_map.mp hm
  have : k = n := by omega
  subst this
  have : r.all isBl = false := by
    rw [← Bool.not_eq_true, List.all_eq_true]
    intro hall
    rw [hall k hk] at h; cases h
  rw [e1]
  simp [tailOk, this]
theorem tail_all {tt : Str} {a b : Nat} {r : List Nat} (e1 : tl tt = a :: b :: r) (e2 : hexOk a = true) (e3 : hexOk b = true) (h : ∀ c ∈ KStt.codes (Txt.slice tt (some (2 : Int)) none), isBl c.toNat = true) : tailOk (tl tt) = true := by
  rw [codes_from2 e1] at h
  have : r.all isBl = true := by
    rw [List.all_eq_true]
    intro k hk
    exact h (k : Int) (List.mem_map.mpr ⟨k, hk, rfl⟩)
  rw [e1]
  simp [tailOk, this, e2, e3]
theorem bl_snoc {pre : List Int} {n : Nat} (h : ∀ c ∈ pre, isBl c.toNat = true) (hn : isBl n = true) : ∀ c ∈ pre ++ [(n : Int)], isBl c.toNat = true := word_snoc (P := fun c => isBl c.toNat = true) h hn
theorem hex_find : ∀ c : Nat, c < 128 → hexOk c = true → (if ([48, 49, 50, 51, 52, 53, 54, 55, 56, 57, 65, 66, 67, 68, 69, 70] : List Nat).dropWhile (· != up1 c) = [] then (-1 : Int) else (((([48, 49, 50, 51, 52, 53, 54, 55, 56, 57, 65, 66, 67, 68, 69, 70] : List Nat).takeWhile (· != up1 c)).length : Nat) : Int)) = (hexV c : Int) := by decide +kernel
theorem find_dig {c : Nat} (hc : c < 128) (h : hexOk c = true) : Txt.find (Str.ofString "0123456789ABCDEF") (Txt.upper ⟨#[c]⟩) = (hexV c : Int) := by
  rw [upper_one hc, DIG_cps, find_one]
  exact hex_find c hc h
theorem item_0 {tt : Str} {a b : Nat} {r : List Nat} (e : tl tt = a :: b :: r) : Txt.item tt (0 : Int) = ⟨#[a]⟩ := by
  have h : 0 < (tl tt).length := by rw [e]; simp
  have h2 := item_nat h
  have e2 : (tl tt)[0] = a := by simp only [e, List.getElem_cons_zero]
  rw [e2] at h2
  exact h2
theorem item_1 {tt : Str} {a b : Nat} {r : List Nat} (e : tl tt = a :: b :: r) : Txt.item tt (1 : Int) = ⟨#[b]⟩ := by
  have h : 1 < (tl tt).length := by rw [e]; simp
  have h2 := item_nat h
  have e2 : (tl tt)[1] = b := by simp only [e, List.getElem_cons_zero, List.getElem_cons_succ]
  rw [e2] at h2
  exact h2
theorem find_sum {tt : Str} {a b : Nat} {r : List Nat} (e : tl tt = a :: b :: r) (hA : ∀ c ∈ tt.cps.toList, c < 128) (ha : hexOk a = true) (hb : hexOk b = true) :
    16 * Txt.find (Str.ofString "0123456789ABCDEF") (Txt.upper (Txt.item tt (0 : Int))) + Txt.find (Str.ofString "0123456789ABCDEF") (Txt.upper (Txt.item tt (1 : Int))) = ((tailV (tl tt) : Nat) : Int) := by
  have ha' : a < 128 := hA a (by show a ∈ tl tt; rw [e]; exact .head _)
  have hb' : b < 128 := hA b (by show b ∈ tl tt; rw [e]; exact .tail _ (.head _))
  rw [item_0 e, item_1 e, find_dig ha' ha, find_dig hb' hb, e]
  show 16 * (hexV a : Int) + (hexV b : Int) = ((16 * hexV a + hexV b : Nat) : Int)
  omega
def c1L (b : List Nat) : Bool := (b.take 1 == [80] || b.take 1 == [112]) && wordsL (b.drop 1) 3
def c2L (b : List Nat) : Bool := wordsL b 4 && ((b.drop 4).take 2 == [81, 44] || (b.drop 4).take 2 == [113, 44]) && wordsL (b.drop 6) 3
def c3L (b : List Nat) : Bool := wordsL b 5 && (b.drop 5).take 1 == [44]
theorem sizeL_eq (b : List Nat) : sizeL b = if c1L b then some 4 else if c2L b then some 9 else if c3L b then some 6 else none := rfl
theorem due_none {l : List Nat} {s w : Bool} (h : sizeL (bodyL l) = none) : dueD l s w = noS := by
  unfold dueD
  rw [h]
  split <;> rfl
theorem beq_tl {s : String} {l : List Nat} (h : tl (Str.ofString s) = l) (y : Str) : (Str.ofString s == y) = (tl y == l) := by
  rw [tl_beq, h, Bool.eq_iff_iff, beq_iff_eq, beq_iff_eq]
  exact eq_comm
theorem any_P (y : Str) : ([Str.ofString "P", Str.ofString "p"].any fun x => x == y) = (tl y == [80] || tl y == [112]) := by
  simp only [List.any_cons, List.any_nil, Bool.or_false]
  rw [beq_tl (show tl (Str.ofString "P") = [80] by decide +kernel), beq_tl (show tl (Str.ofString "p") = [112] by decide +kernel)]
theorem any_Q (y : Str) : ([Str.ofString "Q,", Str.ofString "q,"].any fun x => x == y) = (tl y == [81, 44] || tl y == [113, 44]) := by
  simp only [List.any_cons, List.any_nil, Bool.or_false]
  rw [beq_tl (show tl (Str.ofString "Q,") = [81, 44] by decide +kernel), beq_tl (show tl (Str.ofString "q,") = [113, 44] by decide +kernel)]
theorem c1_any (bd : Str) : ([Str.ofString "P", Str.ofString "p"].any fun x => x == Txt.slice bd none (some (1 : Int))) = ((tl bd).take 1 == [80] || (tl bd).take 1 == [112]) := by
  have e : tl (Txt.slice bd none (some (1 : Int))) = (tl bd).take 1 := slice_to bd 1
  rw [any_P, e]
theorem c1_w (bd : Str) : wordsF (Txt.slice bd (some (1 : Int)) none) (3 : Int) = wordsL ((tl bd).drop 1) 3 := by
  have e : tl (Txt.slice bd (some (1 : Int)) none) = (tl bd).drop 1 := slice_from bd 1
  have := words_L (Txt.slice bd (some (1 : Int)) none) 3
  rw [e] at this
  exact this
theorem c1_t {bd : Str} (h1 : ([Str.ofString "P", Str.ofString "p"].any fun x => x == Txt.slice bd none (some (1 : Int))) = true) (h2 : wordsF (Txt.slice bd (some (1 : Int)) none) (3 : Int) = true) : true = c1L (tl bd) := by
  rw [c1_any] at h1; rw [c1_w] at h2; rw [c1L, h1, h2]; rfl
theorem c1_f2 {bd : Str} (h2 : wordsF (Txt.slice bd (some (1 : Int)) none) (3 : Int) = false) : false = c1L (tl bd) := by
  rw [c1_w] at h2; rw [c1L, h2, Bool.and_false]
theorem c1_f1 {bd : Str} (h1 : ([Str.ofString "P", Str.ofString "p"].any fun x => x == Txt.slice bd none (some (1 : Int))) = false) : false = c1L (tl bd) := by
  rw [c1_any] at h1; rw [c1L, h1, Bool.false_and]
theorem c2_any (bd : Str) : ([Str.ofString "Q,", Str.ofString "q,"].any fun x => x == Txt.slice bd (some (4 : Int)) (some (6 : Int))) = (((tl bd).drop 4).take 2 == [81, 44] || ((tl bd).drop 4).take 2 == [113, 44]) := by
  have e : tl (Txt.slice bd (some (4 : Int)) (some (6 : Int))) = ((tl bd).drop 4).take (6 - 4) := slice_mid bd (by decide)
  rw [any_Q, e]
theorem c2_w (bd : Str) : wordsF (Txt.slice bd (some (6 : Int)) none) (3 : Int) = wordsL ((tl bd).drop 6) 3 := by
  have e : tl (Txt.slice bd (some (6 : Int)) none) = (tl bd).drop 6 := slice_from bd 6
  have := words_L (Txt.slice bd (some (6 : Int)) none) 3
  rw [e] at this
  exact this
theorem c2_w0 (bd : Str) : wordsF bd (4 : Int) = wordsL (tl bd) 4 := words_L bd 4
theorem c3_w0 (bd : Str) : wordsF bd (5 : Int) = wordsL (tl bd) 5 := words_L bd 5
theorem c2_t {bd : Str} (h0 : wordsF bd (4 : Int) = true) (h1 : ([Str.ofString "Q,", Str.ofString "q,"].any fun x => x == Txt.slice bd (some (4 : Int)) (some (6 : Int))) = true) (h2 : wordsF (Txt.slice bd (some (6 : Int)) none) (3 : Int) = true) : true = c2L (tl bd) := by
  rw [c2_any] at h1; rw [c2_w] at h2; rw [c2_w0] at h0; rw [c2L, h0, h1, h2]; rfl
theorem c2_f0 {bd : Str} (h0 : wordsF bd (4 : Int) = false) : false = c2L (tl bd) := by
  rw [c2_w0] at h0; rw [c2L, h0, Bool.false_and, Bool.false_and]
theorem c2_f1 {bd : Str} (h1 : ([Str.ofString "Q,", Str.ofString "q,"].any fun x => x == Txt.slice bd (some (4 : Int)) (some (6 : Int))) = false) : false = c2L (tl bd) := by
  rw [c2_any] at h1; rw [c2L, h1, Bool.and_false, Bool.false_and]
theorem c2_f2 {bd : Str} (h2 : wordsF (Txt.slice bd (some (6 : Int)) none) (3 : Int) = false) : false = c2L (tl bd) := by
  rw [c2_w] at h2; rw [c2L, h2, Bool.and_false]
theorem c3_eq (bd : Str) : (Txt.slice bd (some (5 : Int)) (some (6 : Int)) == Str.ofString ",") = (((tl bd).drop 5).take 1 == [44]) := by
  have e : tl (Txt.slice bd (some (5 : Int)) (some (6 : Int))) = ((tl bd).drop 5).take (6 - 5) := slice_mid bd (by decide)
  rw [tl_beq, e, show tl (Str.ofString ",") = [44] by decide +kernel]
theorem c3_t {bd : Str} (h0 : wordsF bd (5 : Int) = true) (h1 : (Txt.slice bd (some (5 : Int)) (some (6 : Int)) == Str.ofString ",") = true) : true = c3L (tl bd) := by
  rw [c3_w0] at h0; rw [c3_eq] at h1; rw [c3L, h0, h1]; rfl
theorem c3_f0 {bd : Str} (h0 : wordsF bd (5 : Int) = false) : false = c3L (tl bd) := by
  rw [c3_w0] at h0; rw [c3L, h0, Bool.false_and]
theorem c3_f1 {bd : Str} (h1 : (Txt.slice bd (some (5 : Int)) (some (6 : Int)) == Str.ofString ",") = false) : false = c3L (tl bd) := by
  rw [c3_eq] at h1; rw [c3L, h1, Bool.and_false]
def TotOf (v : Value) (t : List Nat) : Prop := (v = .none ∧ t = []) ∨ (∃ u, ¬ t = [] ∧ tailOk (t.drop 1) = true ∧ v = .int (tailV (t.drop 1) : Nat) u)
theorem TotOf.ok {v : Value} {l : List Nat} (h : TotOf v (starL l)) : starOk l = true := by
  unfold starOk
  rcases h with ⟨_, h⟩ | ⟨u, h1, h2, _⟩
  · rw [h]
  · cases e : starL l with
    | nil => rfl
    | cons c t => rw [e] at h2; exact h2
theorem due_sum {l : List Nat} {z : Nat} {s w : Bool} (h1 : starOk l = true) (h2 : sizeL (bodyL l) = some z) (h3 : sumGood l s = false) : dueD l s w = sumR := by
  unfold dueD
  rw [h1, h2, h3]; rfl
theorem due_rest {l : List Nat} {z : Nat} {s w : Bool} (h1 : starOk l = true) (h2 : sizeL (bodyL l) = some z) (h3 : sumGood l s = true) : dueD l s w = restD (bodyL l) z w := by
  unfold dueD
  rw [h1, h2, h3]; rfl
theorem sum_none {l : List Nat} {s : Bool} (h : starL l = []) : sumGood l s = !s := by unfold sumGood; rw [h]
theorem sum_some {l : List Nat} {s : Bool} (h : ¬ starL l = []) : sumGood l s = decide ((tailV ((starL l).drop 1) : Int) = sumL (bodyL l)) := by
  unfold sumGood
  cases e : starL l with
  | nil => exact absurd e h
  | cons c t => rfl
theorem sumL_codes {bd : Str} {l : List Nat} (h : tl bd = l) : sumZ (KStt.codes bd) = sumL l := by rw [codes_tl, h]; rfl
theorem sizeL_cases {b : List Nat} {z : Nat} (h : sizeL b = some z) : z = 4 ∨ z = 9 ∨ z = 6 := by
  rw [sizeL_eq] at h
  split at h
  · cases h; exact .inl rfl
  · split at h
    · cases h; exact .inr (.inl rfl)
    · split at h
      · cases h; exact .inr (.inr rfl)
      · cases h
theorem dL_of {x : Str} {l : List Nat} (h : tl x = l) : dL l = Dat.str x := by unfold dL; rw [← h, mk_tl]
theorem rest_maker {bd hd : Str} {b : List Nat} {w : Bool} (hb : tl bd = b) (hhd : tl hd = ((tl bd).take 4).map up1) :
    restD b 4 w = .list [.str (Str.ofString "maker"), .str (Txt.slice hd (some (1 : Int)) none), .list ((partsL ((tl bd).drop 4)).map dL)] := by
  have e1 : tl (Txt.slice hd (some (1 : Int)) none) = (tl hd).drop 1 := slice_from hd 1
  unfold restD
  rw [if_pos rfl, ← hb, ← hhd, dL_of e1]
  rfl
theorem rest_kind {bd hd : Str} {b : List Nat} {w : Bool} (hb : tl bd = b) (hhd : tl hd = ((tl bd).take 6).map up1) (hk : kindOk (tl (Txt.slice hd (some (2 : Int)) (some (5 : Int)))) w = false) :
    restD b 6 w = .list [dS "kind"] := by
  have e1 : tl (Txt.slice hd (some (2 : Int)) (some (5 : Int))) = ((tl hd).drop 2).take 3 := slice_mid hd (i := 2) (j := 5) (by decide)
  rw [e1] at hk
  unfold restD
  rw [if_neg (by decide), if_pos rfl, ← hb, ← hhd, hk, if_neg Bool.false_ne_true]
  rfl
theorem rest_talker {bd hd : Str} {b : List Nat} {w : Bool} (hb : tl bd = b) (hhd : tl hd = ((tl bd).take 6).map up1) (hk : kindOk (tl (Txt.slice hd (some (2 : Int)) (some (5 : Int)))) w = true) :
    restD b 6 w = .list [.str (Str.ofString "talker"), .str (Txt.slice hd (some (2 : Int)) (some (5 : Int))), .str (Txt.slice hd none (some (2 : Int))), .str (Txt.slice hd (some (2 : Int)) (some (5 : Int))), .list ((partsL ((tl bd).drop 6)).map dL)] := by
  have e1 : tl (Txt.slice hd (some (2 : Int)) (some (5 : Int))) = ((tl hd).drop 2).take 3 := slice_mid hd (i := 2) (j := 5) (by decide)
  have e2 : tl (Txt.slice hd none (some (2 : Int))) = (tl hd).take 2 := slice_to hd 2
  rw [e1] at hk
  unfold restD
  rw [if_neg (by decide), if_pos rfl, ← hb, ← hhd, hk, if_pos rfl, dL_of e1, dL_of e2]
  rfl
theorem rest_question {bd hd : Str} {b : List Nat} {w : Bool} (hb : tl bd = b) (hhd : tl hd = ((tl bd).take 9).map up1) (hk : (tl bd).drop 9 = []) :
    restD b 9 w = .list [.str (Str.ofString "question"), .str (Txt.slice hd none (some (2 : Int))), .str (Txt.slice hd (some (2 : Int)) (some (4 : Int))), .str (Txt.slice hd (some (6 : Int)) none), .list []] := by
  have e1 : tl (Txt.slice hd (some (2 : Int)) (some (4 : Int))) = ((tl hd).drop 2).take 2 := slice_mid hd (i := 2) (j := 4) (by decide)
  have e2 : tl (Txt.slice hd none (some (2 : Int))) = (tl hd).take 2 := slice_to hd 2
  have e3 : tl (Txt.slice hd (some (6 : Int)) none) = (tl hd).drop 6 := slice_from hd 6
  unfold restD
  rw [if_neg (by decide), if_neg (by decide), ← hb, if_pos hk, ← hhd, dL_of e1, dL_of e2, dL_of e3]
  rfl
theorem rest_no {bd : Str} {b : List Nat} {w : Bool} (hb : tl bd = b) (hk : ¬ (tl bd).drop 9 = []) : restD b 9 w = noS := by
  unfold restD
  rw [if_neg (by decide), if_neg (by decide), ← hb, if_neg hk]
end Mine
end
section
open PySem PySem.W PySem.Calls PyProof.Rows PySem.Spec
set_option Elab.async false
set_option maxRecDepth 100000
set_option maxHeartbeats 4000000
set_option linter.unusedVariables false
namespace Mine
section
variable {prog : Program} {w : World} {A : Around} {E : Value → Shared → Prop} {s : Shared} {h₀ : Heap} {L D : Addr} {m : Str → Option Value} {news : List (Addr × Obj)}
/-- no other made thing lies there -/
def NeD (D : Addr) (rest : List (Addr × Obj)) : Prop := ∀ p ∈ rest, p.1 ≠ D
/-- the last item of a made list turned -/
theorem setLast_N {us : List Value} {u v : Value} {n : Nat} {t : Tok} {Q : Unit → Shared → Prop} (F : Fr h₀ L s.heap m) (N : News h₀ L s.heap ((D, listOf (us ++ [u]).toArray n) :: news)) (hD : NeD D news)
    (h : ∀ h', Fr h₀ L h' m → News h₀ L h' ((D, listOf (us ++ [v]).toArray n) :: news) → Q () { s with heap := h' }) :
    wpAny (model prog w) A (setItem (.ref D) (.int (-1) t) v) Q E s := by
  have z := N _ (.head _)
  have e : ((-1 : Int) + ((us ++ [u]).toArray.size : Int)).toNat = us.length := by
    rw [List.size_toArray, List.length_append]; simp; omega
  refine ki_setBack z.1 (by decide) (by simp; omega) (by decide) (h _ (F.change (Heap.SameBut.update ..) z.2.1 z.2.2) ?_)
  rw [e]
  refine ki_turn (pre := []) _ N (fun _ hp => nomatch hp) hD ?_ ?_
  · apply Array.toList_inj.mp
    simp
  · simp
theorem append_N {us : List Value} {v : Value} {n : Nat} {Q : Value → Shared → Prop} (F : Fr h₀ L s.heap m) (N : News h₀ L s.heap ((D, listOf us.toArray n) :: news)) (hD : NeD D news) (hz : us.length ≤ 1000)
    (h : ∀ h', Fr h₀ L h' m → News h₀ L h' ((D, listOf (us ++ [v]).toArray (n + 1)) :: news) → Q .none { s with heap := h' }) :
    wpAny (model prog w) A (call (.builtin "list.append") [.ref D, v]) Q E s := by
  have e : us.toArray.push v = (us ++ [v]).toArray := by simp
  refine append_K F N (Upd.head hD) (fun h' F' N' => h h' F' (e ▸ N')) (hsz := ?_)
  rw [List.size_toArray, sizeLine_eq]
  omega
theorem getLast_N {us : List Value} {u : Value} {n : Nat} {t : Tok} {value slice : PySem.Expr} {Q : Value → Shared → Prop} (N : News h₀ L s.heap ((D, listOf (us ++ [u]).toArray n) :: news)) (h : Q u s)
    (hs : subscripted slice false (.ref D) (.int (-1) t) = operate [.ref D, .int (-1) t] (getItem (.ref D) (.int (-1) t)) := by with_unfolding_all rfl) :
    wpAny (model prog w) A (subscriptTail value slice (.ref D) (.int (-1) t)) Q E s := by
  have hl : s.heap.IsList D (us ++ [u]).toArray := News.isList N (.head _)
  have e : ((-1 : Int) + ((us ++ [u]).toArray.size : Int)).toNat = us.length := by
    rw [List.size_toArray, List.length_append]; simp; omega
  exact tail_any hl.typeIs slot_list_getitem.lookup (wpAny_getItem_list_neg hl (by decide) (by simp; omega) (by decide) (x := u) (by rw [e]; simp) h) hs

theorem parts_start : DatAll [] ([] : List Value) (([] : List (List Nat)).map dL) ∧ partsL (([] : List Int).map Int.toNat) = [] ++ [tl (Str.ofString "")] := ⟨.nil, by decide +kernel⟩
theorem parts_comma {us : List Value} {q : Str} {tq : Tok} {pre : List Int} {k : Nat} {ps : List (List Nat)} (hda : DatAll [] us (ps.map dL)) (hps : partsL (pre.map Int.toNat) = ps ++ [tl q]) (hk : ((⟨#[k]⟩ : Str) == Str.ofString ",") = true) :
    DatAll [] (us ++ [.str q tq]) ((ps ++ [tl q]).map dL) ∧ partsL ((pre ++ [(k : Int)]).map Int.toNat) = (ps ++ [tl q]) ++ [tl (Str.ofString "")] := by
  refine ⟨?_, ?_⟩
  · rw [List.map_append]
    refine hda.append (.cons ?_ .nil)
    unfold dL
    rw [mk_tl]
    exact .str _ _
  · have e : k = 44 := by
      have h : (⟨#[k]⟩ : Str) = Str.ofString "," := beq_iff_eq.mp hk
      rw [show Str.ofString "," = ⟨#[44]⟩ by decide +kernel] at h
      simpa using congrArg Str.cps h
    rw [List.map_append, e, List.map_cons, List.map_nil, show ((44 : Nat) : Int).toNat = 44 from rfl, partsL_snoc_comma, hps]
    rfl
theorem parts_sign {q : Str} {pre : List Int} {k : Nat} {ps : List (List Nat)} (hps : partsL (pre.map Int.toNat) = ps ++ [tl q]) (hk : ((⟨#[k]⟩ : Str) == Str.ofString ",") = false) :
    partsL ((pre ++ [(k : Int)]).map Int.toNat) = ps ++ [tl (q ++ ⟨#[k]⟩)] := by
  have e : k ≠ 44 := by
    intro e
    rw [e, show Str.ofString "," = ⟨#[44]⟩ by decide +kernel] at hk
    simp at hk
  rw [List.map_append, List.map_cons, List.map_nil, Int.toNat_natCast, partsL_snoc e hps, tl_append]
  rfl

theorem sub_led {x y : Addr × Obj} {a b : List (Addr × Obj)} : ∀ p ∈ x :: y :: a, p ∈ x :: y :: (a ++ b) := by
  intro p hp
  rcases List.mem_cons.mp hp with rfl | hp
  · exact .head _
  · rcases List.mem_cons.mp hp with rfl | hp
    · exact .tail _ (.head _)
    · exact .tail _ (.tail _ (List.mem_append_left _ hp))
theorem sub_own {x y : Addr × Obj} {a b : List (Addr × Obj)} : ∀ p ∈ b, p ∈ x :: y :: (a ++ b) := fun _ hp => .tail _ (.tail _ (List.mem_append_right _ hp))
theorem codes_toNat (x : Str) : (KStt.codes x).map Int.toNat = tl x := by
  rw [codes_tl, List.map_map]
  exact (List.map_congr_left (g := _root_.id) fun c _ => Int.toNat_natCast c).trans (List.map_id _)
theorem len_snoc {α β : Type} {us : List α} {v : α} {pre : List β} {k : β} (h : us.length ≤ pre.length) : (us ++ [v]).length ≤ (pre ++ [k]).length := by
  rw [List.length_append, List.length_append]; simpa using h
theorem len_le_snoc {α β : Type} {us : List α} {pre : List β} {k : β} (h : us.length ≤ pre.length) : us.length ≤ (pre ++ [k]).length := by
  rw [List.length_append]; exact Nat.le_trans h (Nat.le_add_right _ _)
theorem len_str_snoc {q : Str} {n : Nat} {pre : List Int} {k : Int} (h : q.length ≤ pre.length) : (q ++ ⟨#[n]⟩).length ≤ (pre ++ [k]).length := by
  rw [← tl_len, tl_append, List.length_append, List.length_append, tl_len]; exact Nat.add_le_add h (Nat.le_refl 1)
theorem len_nil_snoc {l : List Int} : (Str.ofString "").length ≤ l.length := by
  rw [show (Str.ofString "").length = 0 by decide +kernel]; exact Nat.zero_le _
theorem parts_done {us : List Value} {q : Str} {tq : Tok} {bd : Str} {z : Nat} {ps : List (List Nat)} (hda : DatAll [] us (ps.map dL)) (hps : partsL ((KStt.codes (Txt.slice bd (some (z : Int)) none)).map Int.toNat) = ps ++ [tl q]) :
    DatAll [] (us ++ [.str q tq]) ((partsL ((tl bd).drop z)).map dL) := by
  rw [codes_toNat, slice_from] at hps
  rw [hps, List.map_append]
  refine hda.append (.cons ?_ .nil)
  unfold dL
  rw [mk_tl]
  exact .str _ _

def Asc (x : Str) : Prop := ∀ c ∈ tl x, c < 128
theorem Asc.sub {x y : Str} (h : Asc x) (hs : (tl y).Sublist (tl x)) : Asc y := fun c hc => h c (hs.subset hc)
theorem Asc.ok {x : Str} (h : Asc x) : PyData.strOk x = true := by
  unfold PyData.strOk
  rw [← Array.all_toList, List.all_eq_true]
  exact fun c hc => decide_eq_true (Nat.lt_trans (h c hc) (by decide))
theorem up1_lt : ∀ c : Nat, c < 128 → up1 c < 128 := by decide +kernel
def knownD (hasW : Bool) : List Dat := if hasW then [dS "WPL", dS "TXT"] else [dS "TXT"]
theorem known_mem {y : Str} {hasW : Bool} : Dat.str y ∈ knownD hasW ↔ kindOk (tl y) hasW = true := by
  have e : ∀ {z : String} {l : List Nat}, tl (Str.ofString z) = l → ((Dat.str y = dS z) ↔ tl y = l) := by
    intro z l h
    unfold dS
    rw [Dat.str.injEq, ← h]
    exact ⟨fun e => e ▸ rfl, tl_inj⟩
  have eW := e (show tl (Str.ofString "WPL") = [87, 80, 76] by decide +kernel)
  have eT := e (show tl (Str.ofString "TXT") = [84, 88, 84] by decide +kernel)
  unfold knownD kindOk
  cases hasW with
  | true => simp only [if_true, List.mem_cons, List.not_mem_nil, or_false, eW, eT, Bool.true_and, Bool.or_eq_true, beq_iff_eq]; exact or_comm
  | false => simp only [Bool.false_eq_true, if_false, List.mem_cons, List.not_mem_nil, or_false, eT, Bool.false_and, Bool.or_false, beq_iff_eq]
theorem known_ok (hasW : Bool) : ∀ d ∈ knownD hasW, kqdOk 8 d = true := by
  have h1 : (knownD true).all (kqdOk 8) = true := by decide +kernel
  have h2 : (knownD false).all (kqdOk 8) = true := by decide +kernel
  cases hasW
  · exact List.all_eq_true.mp h2
  · exact List.all_eq_true.mp h1
theorem in_known {kl : Addr} {kvs : List Value} {kn : Nat} {hasW : Bool} {y : Str} {u : Tok} {Q : Value → Shared → Prop} (N : News h₀ L s.heap news) (hm : (kl, listOf kvs.toArray kn) ∈ news) (hk : DatAll [] kvs (knownD hasW)) (hy : Asc y) (hu : A.units + 64 < cLine)
    (h : Q (.bool (kindOk (tl y) hasW)) s) : wpAny (model prog w) A (compareOp .In (.str y u) (.ref kl)) Q E s := by
  refine kqd_isIn N hm rfl rfl hk (fun _ hp => nomatch hp) (DatIn.str (news := []) _ u) (fun _ hp => nomatch hp) (known_ok hasW) hy.ok hu ?_
  rw [decide_any known_mem]; exact h
theorem partsL_mem : ∀ {l p : List Nat}, p ∈ partsL l → ∀ c ∈ p, c ∈ l
  | [], p, hp, c, hc => by
    rw [partsL, List.mem_singleton] at hp
    rw [hp] at hc; exact nomatch hc
  | d :: r, p, hp, c, hc => by
    unfold partsL at hp
    split at hp
    · rcases List.mem_cons.mp hp with rfl | hp
      · exact nomatch hc
      · exact .tail _ (partsL_mem hp c hc)
    · cases e : partsL r with
      | nil => exact absurd e (partsL_ne r)
      | cons a t =>
        rw [e] at hp
        rcases List.mem_cons.mp hp with rfl | hp
        · rcases List.mem_cons.mp hc with rfl | hc
          · exact .head _
          · exact .tail _ (partsL_mem (l := r) (by rw [e]; exact .head _) c hc)
        · exact .tail _ (partsL_mem (l := r) (by rw [e]; exact .tail _ hp) c hc)
theorem parts_ok {l : List Nat} (h : ∀ c ∈ l, c < 128) : ∀ d ∈ (partsL l).map dL, kqdOk 8 d = true := by
  intro d hd
  obtain ⟨p, hp, rfl⟩ := List.mem_map.mp hd
  have : Asc ⟨p.toArray⟩ := fun c hc => h c (partsL_mem hp c hc)
  exact this.ok
theorem partsL_nil {l : List Nat} : (partsL l).map dL = [dS ""] ↔ l = [] := by
  have e0 : dS "" = dL [] := by
    unfold dS dL
    rw [Dat.str.injEq]
    decide +kernel
  constructor
  · intro h
    rw [e0] at h
    cases l with
    | nil => rfl
    | cons c r =>
      unfold partsL at h
      split at h
      · simp only [List.map_cons, List.cons.injEq, List.map_eq_nil_iff] at h
        exact absurd h.2 (partsL_ne r)
      · split at h
        · simp only [List.map_cons, List.cons.injEq] at h
          have := h.1
          unfold dL at this
          rw [Dat.str.injEq, Str.mk.injEq] at this
          simp at this
        · simp only [List.map_cons, List.cons.injEq] at h
          have := h.1
          unfold dL at this
          rw [Dat.str.injEq, Str.mk.injEq] at this
          simp at this
  · intro h
    rw [h, e0]; rfl
theorem eq_parts {D l : Addr} {vs : List Value} {n n2 : Nat} {t : Tok} {ls : List Nat} {Q : Value → Shared → Prop} (N : News h₀ L s.heap ((l, listOf #[Value.str (Str.ofString "") t] n2) :: (D, listOf vs.toArray n) :: news)) (hda : DatAll [] vs ((partsL ls).map dL)) (hl : ∀ c ∈ ls, c < 128) (hu : A.units + 64 < cLine)
    (h : Q (.bool (decide (ls = []))) s) : wpAny (model prog w) A (compareOp .Eq (.ref D) (.ref l)) Q E s := by
  refine kqd_eq (xs := vs) (ys := [Value.str (Str.ofString "") t]) N (.tail _ (.head _)) rfl rfl hda (fun _ hp => nomatch hp) (.head _) rfl rfl (DatAll.cons (news := []) (.str _ t) .nil) (fun _ hp => nomatch hp) (parts_ok hl) ?_ hu ?_
  · intro d hd
    rw [List.mem_singleton.mp hd]
    decide +kernel
  · have hp : ((partsL ls).map dL = [Dat.str (Str.ofString "")]) ↔ decide (ls = []) = true := by rw [decide_eq_true_eq]; exact partsL_nil
    rw [decide_any hp]; exact h

theorem own_one {x : Addr × Obj} {r : List (Addr × Obj)} : ∀ p ∈ [x], p ∈ x :: r := fun p hp => by rw [List.mem_singleton.mp hp]; exact .head _
theorem lt_one {D : Addr} {o : Obj} {l : List (Addr × Obj)} (h : AllLt D l) : ∀ q ∈ l, ∀ p ∈ [(D, o)], q.1 < p.1 := fun q hq p hp => by
  rw [List.mem_singleton.mp hp]
  exact (show ∀ {d : Addr} {l : List (Addr × Obj)}, AllLt d l → ∀ p ∈ l, p.1 < d from fun {d l} => by
    induction l with
    | nil => intro _ _ hp; exact nomatch hp
    | cons q r ih =>
      intro h p hp
      rcases List.mem_cons.mp hp with rfl | hp
      · exact h.1
      · exact ih h.2 p hp) h q hq
end
end Mine
end
section
open PySem PySem.W PySem.Calls PyProof.Rows PySem.Spec
set_option Elab.async false
set_option maxRecDepth 100000
set_option maxHeartbeats 40000000
set_option linter.unusedVariables false
namespace Mine
section
variable {w : World} {loose : List Str} {mean : ExcName → Option Value} {mg mb : Str → Option Value} {dp un : Nat} {gd : Option (List Code)} {cn : Str} {cs : Scope} {a : Addr} {ccd : Value} {cl : List (Str × Addr)} {outer : List Env} {A₀ : Around} {base h₀ : Heap} {L : Addr} {m : Str → Option Value} {s : Shared} {Q E : Value → Shared → Prop} {news : List (Addr × Obj)}





local macro_rules | `(tactic| walk_at "call ref") => `(tactic| (k_here; k_dflt (refine' c_blanks ?k1 ?k2 ?k3 ?k4 ?k5 ?kK ?hd ?hu ?_; (case k1 => k_asm); (case k2 => k_asm); (case k3 => k_asm); (case k4 => k_asm); (case k5 => k_asm); (case kK => first | exact rfl | assumption); (case hd => ktr_room); (case hu => ktr_units); k_whole; intro l9 vs9 n9 h9 tk9 hb9 F9 N9; (try dsimp only); (try k_fold))))

local macro_rules | `(tactic| walk_at "compareOp In str ref") => `(tactic| ((with_reducible show wpAny _ _ (compareOp CmpOp.In (Value.str (Txt.item _ _) _) (Value.ref _)) _ _ _); (rename DatAll [] _ blanksD => hb'); (rename News _ _ _ _ => N'); k_dflt (refine' in_blanks_item N' hb' ?a ?b ?_; (case a => assumption); (case b => ktr_units); k_whole); clear hb'; (try dsimp only)))
local macro_rules | `(tactic| walk_at "compareOp NotIn str ref") => `(tactic| ((with_reducible show wpAny _ _ (compareOp CmpOp.NotIn (Value.str _ _) (Value.ref _)) _ _ _); (rename DatAll [] _ blanksD => hb'); (rename News _ _ _ _ => N'); k_dflt (refine' notIn_blanks N' hb' ?a ?b ?_; (case a => exact code_lt (Okay.lt (by assumption)) (by assumption)); (case b => ktr_units); k_whole); clear hb'; (try dsimp only)))
local macro_rules | `(tactic| walk_at "exec For Name Subscript cons nil") => `(tactic| (k_here; (rename Fr _ _ _ _ => lF'); (with_unfolding_all refine' For_invVF lF' ?k1 ?k2 ?_; (case k1 => exact rfl); (case k2 => exact rfl); k_whole)))

local macro_rules | `(tactic| walk_at "call ref") => `(tactic| (k_here; k_dflt (refine' c_words ?k1 ?k2 ?k3 ?k4 ?k5 ?kK ?p1 ?p2 ?p3 ?hd ?hu ?_; (case k1 => k_asm); (case k2 => k_asm); (case k3 => k_asm); (case k4 => k_asm); (case k5 => k_asm); (case kK => first | exact rfl | assumption); (case p1 => decide); (case p2 => decide); (case p3 => omega); (case hd => ktr_room); (case hu => ktr_units); k_whole; intro t9 h9 tk9 F9 N9; (try dsimp only); (try k_fold))))

local macro_rules | `(tactic| walk_at "call ref") => `(tactic| (k_here; k_dflt (refine' c_sum ?k1 ?k2 ?k3 ?k4 ?k5 ?kK ?hl ?hp ?hd ?hu ?_; (case k1 => k_asm); (case k2 => k_asm); (case k3 => k_asm); (case k4 => k_asm); (case k5 => k_asm); (case kK => first | exact rfl | assumption); (case hl => omega); (case hp => exact Okay.lt (by assumption)); (case hd => ktr_room); (case hu => ktr_units); k_whole; intro t9 h9 tk9 F9 N9; (try dsimp only); (try k_fold))))

local macro_rules | `(tactic| walk_at "call builtin:list.append") => `(tactic| ((rename News _ _ _ _ => N'); (rename Fr _ _ _ _ => F'); (rename NeD _ _ => hD'); k_dflt (refine' append_N F' N' hD' ?z ?_; (case z => (simp only [List.length_append, List.length_cons, List.length_nil]; omega)); k_whole); intro h' F' N'; (try k_sweep)))
local macro_rules | `(tactic| walk_at "setItem ref int str") => `(tactic| ((rename News _ _ _ _ => N'); (rename Fr _ _ _ _ => F'); (rename NeD _ _ => hD'); k_dflt (refine' setLast_N F' N' hD' ?_; k_whole); intro h' F' N'; (try k_sweep)))
local macro_rules | `(tactic| walk_at "subscriptTail Name UnaryOp ref int") => `(tactic| ((rename News _ _ _ _ => N'); k_dflt (refine' getLast_N N' ?_; k_whole)))

local macro_rules | `(tactic| walk_at "compareOp In str ref") => `(tactic| ((with_reducible show wpAny _ _ (compareOp CmpOp.In (Value.str (Txt.slice _ _ _) _) (Value.ref _)) _ _ _); (rename News _ _ _ _ => N'); (rename Asc _ => hA'); k_dflt (refine' in_known N' ?m (hasW := _) (by assumption) hA' ?b ?_; (case m => exact .tail _ (.head _)); (case b => ktr_units); k_whole); (try dsimp only)))
local macro_rules | `(tactic| walk_at "compareOp Eq ref ref") => `(tactic| ((with_reducible show wpAny _ _ (compareOp CmpOp.Eq (Value.ref _) (Value.ref _)) _ _ _); (rename News _ _ _ _ => N'); k_dflt (refine' eq_parts N' (by assumption) (by assumption) ?b ?_; (case b => ktr_units); k_whole); (try dsimp only)))

theorem c_due {x : Str} {strict hasW : Bool} {t : Tok} {kl : Addr} {kvs : List Value} {kn : Nat} (B : Below A₀ base outer h₀) (F : Fr h₀ L s.heap m) (X : (hd.heap_39 w.params).In h₀) (N : News h₀ L s.heap ((kl, listOf kvs.toArray kn) :: news)) (T : Top hd.view_39 loose mean mg mb h₀) (hk : cs.kind = .function)
    (hx : Okay 64 x) (hkn : DatAll [] kvs (knownD hasW)) (hdp : dp + 8 < recursionLimit) (hu : un + 200 < cLine)
    (hret : ∀ (l : Addr) (own : List (Addr × Obj)) (h' : Heap) (tk' : Nat), DatIn own (.ref l) (dueD (tl x) strict hasW) → (∀ q ∈ news, ∀ p ∈ own, q.1 < p.1) → Fr h₀ L h' m → News h₀ L h' (own ++ (kl, listOf kvs.toArray kn) :: news) → Q (.ref l) { s with heap := h', toks := tk' }) :
    wpAny (model PySem.Challenge.rw_ez0282_01.row.prog w) (ktrTop dp un gd cn cs L a ccd cl outer) (call (.ref 351) [.str x t, .bool strict, .ref kl]) Q E s := by
  k_with_none
  w_top off
  revert B F X N T hk hx hkn hdp hu hret
  k_fill
  intro B F X N T hk hx hkn hdp hu hret
  refine wpAny_call ?_
  k_dflt cell_enter
  rename_i g1 L1 h1 FG1 F1 N1 B1 X1 T1 
  have hx1 := hx.1
  have ret1 : ∀ (w : String) (l : Addr) (t : Tok) (n : Nat) (h' : Heap) (tk' : Nat) (rest : List (Addr × Obj)), dueD (tl x) strict hasW = .list [dS w] → Fr h₀ L h' m → News h₀ L h' ((l, listOf #[.str (Str.ofString w) t] n) :: rest) → AllLt l rest → (∀ p ∈ (kl, listOf kvs.toArray kn) :: news, p ∈ rest) → Q (.ref l) { s with heap := h', toks := tk' } :=
    fun w l t n h' tk' rest e F N l1 hs => hret l [(l, listOf #[.str (Str.ofString w) t] n)] h' tk' (e ▸ DatIn.list (vs := [.str (Str.ofString w) t]) (.head _) (.cons (.str _ _) .nil)) (fun q hq p hp => by rw [List.mem_singleton.mp hp]; exact allLt_out l1 q (hs q (.tail _ hq))) F
      (fun p hp => by
        rcases List.mem_cons.mp hp with rfl | hp
        · exact N _ (.head _)
        · exact N _ (.tail _ (hs p hp)))
  have retG : ∀ (l : Addr) (vs : List Value) (n : Nat) (ds : List Dat) (h' : Heap) (tk' : Nat) (own1 rest : List (Addr × Obj)), dueD (tl x) strict hasW = .list ds → Fr h₀ L h' m → News h₀ L h' ((l, listOf vs.toArray n) :: rest) → AllLt l rest → DatAll own1 vs ds → (∀ p ∈ own1, p ∈ rest) → (∀ q ∈ news, ∀ p ∈ own1, q.1 < p.1) → (∀ p ∈ (kl, listOf kvs.toArray kn) :: news, p ∈ rest) → Q (.ref l) { s with heap := h', toks := tk' } :=
    fun l vs n ds h' tk' own1 rest e F N l1 hd h1 h2 hs => hret l ((l, listOf vs.toArray n) :: own1) h' tk' (e ▸ DatIn.list (.head _) (hd.mono fun p hp => .tail _ hp))
      (fun q hq p hp => by
        rcases List.mem_cons.mp hp with rfl | hp
        · exact allLt_out l1 q (hs q (.tail _ hq))
        · exact h2 q hq p hp) F
      (fun p hp => by
        rcases List.mem_append.mp hp with hp | hp
        · rcases List.mem_cons.mp hp with rfl | hp
          · exact N _ (.head _)
          · exact N _ (.tail _ (h1 p hp))
        · exact N _ (.tail _ (hs p hp)))
  refine cut_execs 1 (fun s' => Hid (∃ tp, MidP s g1 L1 [(Str.ofString "line", .str x t), (Str.ofString "strict", .bool strict), (Str.ofString "known", .ref kl), (Str.ofString "place", .int 0 tp)] ((kl, listOf kvs.toArray kn) :: news) s')) ?_ ?_
  · simp only [List.take_succ_cons, List.take_zero]
    k_steps
    all_goals exact Hid.mk ⟨_, _, _, _, rfl, by first | with_reducible assumption | assumption, List.forall_mem_cons.mpr ⟨rfl, List.forall_mem_cons.mpr ⟨rfl, List.forall_mem_cons.mpr ⟨rfl, List.forall_mem_cons.mpr ⟨rfl, List.forall_mem_nil _⟩⟩⟩⟩, by first | with_reducible assumption | assumption⟩
  intro s' hM
  obtain ⟨tp, hM⟩ := hM.out
  obtain ⟨h2, tk2, m2, rfl, F2, N2⟩ := hM.out
  clear F1 N1 hM
  simp only [List.drop_succ_cons, List.drop_zero]
  refine cut_execs 1 (fun s' => Hid (∃ tp, MidP s g1 L1 [(Str.ofString "line", .str x t), (Str.ofString "strict", .bool strict), (Str.ofString "known", .ref kl), (Str.ofString "place", .int (((tl x).takeWhile isBl).length : Nat) tp)] ((kl, listOf kvs.toArray kn) :: news) s')) ?_ ?_
  · simp only [List.take_succ_cons, List.take_zero]
    refine wpAny_execs_cons ?_
    refine ksw_while (σ := Nat × Tok) (fun _ => (kl, listOf kvs.toArray kn) :: news) (fun c => [(Str.ofString "place", .int (c.1 : Int) c.2)]) (fun _ => True) [] (fun c => c.1 ≤ ((tl x).takeWhile isBl).length) (fun c => (tl x).length - c.1) (0, tp) F2 N2 True.intro (List.forall_mem_cons.mpr ⟨rfl, List.forall_mem_nil _⟩) (Nat.zero_le _) ?_
    rintro ⟨p, tp'⟩ u h3 tk3 - hp F3 N3
    clear F2 N2
    dsimp only at hp F3 N3 ⊢
    k_steps
    all_goals first
      | (refine ksw_end (p + 1, _) (by first | with_reducible assumption | assumption) (by first | with_reducible assumption | assumption) (fun q hq => List.mem_cons_of_mem _ hq) True.intro (List.forall_mem_cons.mpr ⟨rfl, List.forall_mem_nil _⟩) (fun z h1 _ => (if_neg (h1 _ (.head _))).trans (if_neg (h1 _ (.head _)))) (tw_step hp (by first | with_reducible assumption | assumption) (by first | with_reducible assumption | assumption)) (tw_less (by first | with_reducible assumption | assumption)))
      | (refine Hid.mk ⟨tp', _, _, _, rfl, by first | with_reducible assumption | assumption, List.forall_mem_cons.mpr ⟨rfl, List.forall_mem_cons.mpr ⟨rfl, List.forall_mem_cons.mpr ⟨rfl, List.forall_mem_cons.mpr ⟨?_, List.forall_mem_nil _⟩⟩⟩⟩, by first | assumption | exact newsT (by first | with_reducible assumption | assumption)⟩
         first | exact tw_val (tw_stop hp (by first | with_reducible assumption | assumption) (by first | with_reducible assumption | assumption)) | exact tw_val (tw_end hp (by first | with_reducible assumption | assumption)))
  intro s' hM
  obtain ⟨tp2, hM⟩ := hM.out
  obtain ⟨h3, tk3, m3, rfl, F3, N3⟩ := hM.out
  clear F2 N2 hM
  simp only [List.drop_succ_cons, List.drop_zero]
  have hpl : ((tl x).takeWhile isBl).length ≤ x.length := by rw [← tl_len]; exact (List.takeWhile_sublist _).length_le
  refine cut_execs 2 (fun s' => Hid (∃ bd tb, MidP s g1 L1 [(Str.ofString "strict", .bool strict), (Str.ofString "known", .ref kl), (Str.ofString "body", .str bd tb)] ((kl, listOf kvs.toArray kn) :: news) s' ∧ tl bd = openL (tl x))) ?_ ?_
  · simp only [List.take_succ_cons, List.take_zero]
    k_steps
    all_goals (refine Hid.mk ⟨_, _, ⟨_, _, _, rfl, by first | with_reducible assumption | assumption, List.forall_mem_cons.mpr ⟨rfl, List.forall_mem_cons.mpr ⟨rfl, List.forall_mem_cons.mpr ⟨rfl, List.forall_mem_nil _⟩⟩⟩, by first | with_reducible assumption | assumption⟩, ?_⟩)
    · exact open_yes (by first | with_reducible assumption | assumption)
    · exact open_no (by first | with_reducible assumption | assumption)
  intro s' hM
  obtain ⟨bd, tb, hM, hbd⟩ := hM.out
  obtain ⟨h4, tk4, m4, rfl, F4, N4⟩ := hM.out
  clear F3 N3 hM
  simp only [List.drop_succ_cons, List.drop_zero]
  have hok : Okay 64 bd := hx.sub (by rw [hbd]; exact openL_sub _)
  have hbl := hok.1
  refine cut_execs 2 (fun s' => Hid (∃ ts, MidP s g1 L1 [(Str.ofString "strict", .bool strict), (Str.ofString "known", .ref kl), (Str.ofString "body", .str bd tb), (Str.ofString "total", .none), (Str.ofString "star", .int (starI (tl x)) ts)] ((kl, listOf kvs.toArray kn) :: news) s')) ?_ ?_
  · simp only [List.take_succ_cons, List.take_zero]
    rw [← find_star hbd]
    k_steps
    all_goals exact Hid.mk ⟨_, _, _, _, rfl, by first | with_reducible assumption | assumption, List.forall_mem_cons.mpr ⟨rfl, List.forall_mem_cons.mpr ⟨rfl, List.forall_mem_cons.mpr ⟨rfl, List.forall_mem_cons.mpr ⟨rfl, List.forall_mem_cons.mpr ⟨rfl, List.forall_mem_nil _⟩⟩⟩⟩⟩, by first | with_reducible assumption | assumption⟩
  intro s' hM
  obtain ⟨ts, hM⟩ := hM.out
  obtain ⟨h5, tk5, m5, rfl, F5, N5⟩ := hM.out
  clear F4 N4 hM
  simp only [List.drop_succ_cons, List.drop_zero]
  refine cut_execs 1 (fun s' => Hid (∃ bd2 tb2 tv, MidP s g1 L1 [(Str.ofString "strict", .bool strict), (Str.ofString "known", .ref kl), (Str.ofString "body", .str bd2 tb2), (Str.ofString "total", tv)] ((kl, listOf kvs.toArray kn) :: news) s' ∧ tl bd2 = bodyL (tl x) ∧ TotOf tv (starL (tl x)))) ?_ ?_
  · simp only [List.take_succ_cons, List.take_zero]
    refine wpAny_execs_cons ?_
    by_cases hst : starL (tl x) = []
    · have hsi : starI (tl x) = -1 := if_pos hst
      rw [hsi] at F5
      k_steps
      all_goals exact Hid.mk ⟨_, _, _, ⟨_, _, _, rfl, by first | with_reducible assumption | assumption, List.forall_mem_cons.mpr ⟨rfl, List.forall_mem_cons.mpr ⟨rfl, List.forall_mem_cons.mpr ⟨rfl, List.forall_mem_cons.mpr ⟨rfl, List.forall_mem_nil _⟩⟩⟩⟩, by first | with_reducible assumption | assumption⟩, star_none hbd hst, .inl ⟨rfl, hst⟩⟩
    have hsi : starI (tl x) = ((bodyL (tl x)).length : Int) := if_neg hst
    rw [hsi] at F5
    refine if_cut (fun b s' => Hid (b = true ∧ MidP s g1 L1 [(Str.ofString "strict", .bool strict), (Str.ofString "known", .ref kl), (Str.ofString "body", .str bd tb), (Str.ofString "total", .none), (Str.ofString "star", .int ((bodyL (tl x)).length : Int) ts)] ((kl, listOf kvs.toArray kn) :: news) s')) ?_ ?_ ?_
    · k_steps
      all_goals exact Hid.mk ⟨decide_eq_true (Int.natCast_nonneg _), _, _, _, rfl, by first | with_reducible assumption | assumption, List.forall_mem_cons.mpr ⟨rfl, List.forall_mem_cons.mpr ⟨rfl, List.forall_mem_cons.mpr ⟨rfl, List.forall_mem_cons.mpr ⟨rfl, List.forall_mem_cons.mpr ⟨rfl, List.forall_mem_nil _⟩⟩⟩⟩⟩, by first | with_reducible assumption | assumption⟩
    · intro s' hM
      obtain ⟨-, hM⟩ := hM.out
      obtain ⟨h6, tk6, m6, rfl, F6, N6⟩ := hM.out
      clear F5 N5 hM
      refine cut_execs 2 (fun s' => Hid (∃ bd2 tb2 tt ttt, MidP s g1 L1 [(Str.ofString "strict", .bool strict), (Str.ofString "known", .ref kl), (Str.ofString "body", .str bd2 tb2), (Str.ofString "total", .none), (Str.ofString "tail", .str tt ttt)] ((kl, listOf kvs.toArray kn) :: news) s' ∧ tl bd2 = bodyL (tl x) ∧ tl tt = (starL (tl x)).drop 1)) ?_ ?_
      · simp only [List.take_succ_cons, List.take_zero]
        k_steps
        all_goals exact Hid.mk ⟨_, _, _, _, ⟨_, _, _, rfl, by first | with_reducible assumption | assumption, List.forall_mem_cons.mpr ⟨rfl, List.forall_mem_cons.mpr ⟨rfl, List.forall_mem_cons.mpr ⟨rfl, List.forall_mem_cons.mpr ⟨rfl, List.forall_mem_cons.mpr ⟨rfl, List.forall_mem_nil _⟩⟩⟩⟩⟩, by first | with_reducible assumption | assumption⟩, body_cut hbd, tail_cut hbd⟩
      · intro s' hM
        obtain ⟨bd2, tb2, tt, ttt, hM, hb2, htt⟩ := hM.out
        obtain ⟨h7, tk7, m7, rfl, F7, N7⟩ := hM.out
        clear F6 N6 hM
        simp only [List.drop_succ_cons, List.drop_zero]
        have htok : Okay 64 tt := hx.sub (by rw [htt]; exact (List.drop_sublist _ _).trans (star_sub _))
        have htl : tt.length ≤ 64 := by
          rw [← tl_len, htt]; have := hx.1; have := @star_le x; simp only [List.length_drop]; omega
        refine cut_execs 1 (fun s' => Hid (∃ a b r, MidP s g1 L1 [(Str.ofString "strict", .bool strict), (Str.ofString "known", .ref kl), (Str.ofString "body", .str bd2 tb2), (Str.ofString "total", .none), (Str.ofString "tail", .str tt ttt)] ((kl, listOf kvs.toArray kn) :: news) s' ∧ tl tt = a :: b :: r ∧ hexOk a = true ∧ hexOk b = true)) ?_ ?_
        · simp only [List.take_succ_cons, List.take_zero]
          k_steps
          k_steps
          all_goals first
            | (refine ret1 _ _ _ _ _ _ _ (star_bad hst ?_) (by first | with_reducible assumption | assumption) (by first | with_reducible assumption | assumption) (by first | with_reducible assumption | assumption) (fun _ h => h)
               rw [← htt]
               first | exact tail_short (by first | with_reducible assumption | assumption) | exact tail_no0 htok.ascii (by first | with_reducible assumption | assumption) (by first | with_reducible assumption | assumption) | exact tail_no1 htok.ascii (by first | with_reducible assumption | assumption) (by first | with_reducible assumption | assumption))
            | (obtain ⟨a, b, r, e1, e2, e3⟩ := tail_yes htok.ascii (by first | with_reducible assumption | assumption) (by first | with_reducible assumption | assumption) (by first | with_reducible assumption | assumption)
               exact Hid.mk ⟨a, b, r, ⟨_, _, _, rfl, by first | with_reducible assumption | assumption, List.forall_mem_cons.mpr ⟨rfl, List.forall_mem_cons.mpr ⟨rfl, List.forall_mem_cons.mpr ⟨rfl, List.forall_mem_cons.mpr ⟨rfl, List.forall_mem_cons.mpr ⟨rfl, List.forall_mem_nil _⟩⟩⟩⟩⟩, by first | with_reducible assumption | assumption⟩, e1, e2, e3⟩)
        intro s' hM
        obtain ⟨ha, hb, hr, hM, e1, e2, e3⟩ := hM.out
        obtain ⟨h8, tk8, m8, rfl, F8, N8⟩ := hM.out
        clear F7 N7 hM
        simp only [List.drop_succ_cons, List.drop_zero]
        refine cut_execs 1 (fun s' => Hid (MidP s g1 L1 [(Str.ofString "strict", .bool strict), (Str.ofString "known", .ref kl), (Str.ofString "body", .str bd2 tb2), (Str.ofString "tail", .str tt ttt)] ((kl, listOf kvs.toArray kn) :: news) s' ∧ tailOk (tl tt) = true)) ?_ ?_
        · simp only [List.take_succ_cons, List.take_zero]
          have hts : Okay 64 (Txt.slice tt (some (2 : Int)) none) := htok.slice_from 2
          k_with "pyIter str" => ((rename Fr _ _ _ _ => lF'); (rename News _ _ _ _ => lN'); (with_unfolding_all refine' KStt.kst_text (σ := Unit) (fun _ => _) (fun _ => []) (fun _ => True) [] (fun pre _ => ∀ c ∈ pre, isBl c.toNat = true) () (by rfl) lF' lN' True.intro (List.forall_mem_nil _) ?kp ?_ ?_); (case kp => exact List.forall_mem_nil _); (all_goals (try clear lF' lN')); (all_goals intros))
          k_steps
          all_goals (try dsimp only)
          all_goals first
            | exact kst_end () (by first | with_reducible assumption | assumption) (by first | with_reducible assumption | assumption) (fun p hp => List.mem_cons_of_mem _ (List.mem_append_left _ hp)) (fun p hp => List.mem_cons_of_mem _ (List.mem_append_right _ hp)) rfl True.intro (List.forall_mem_nil _) (fun z h1 _ _ => if_neg h1) (bl_snoc (by first | with_reducible assumption | assumption) (by first | with_reducible assumption | assumption))
            | exact ret1 _ _ _ _ _ _ _ (star_bad hst (by rw [← htt]; exact tail_bad e1 (by first | with_reducible assumption | assumption) (by first | with_reducible assumption | assumption))) (by first | with_reducible assumption | assumption) (by first | with_reducible assumption | assumption) (by first | with_reducible assumption | assumption) (fun p hp => List.mem_cons_of_mem _ (List.mem_append_left _ hp))
            | exact Hid.mk ⟨⟨_, _, _, rfl, by first | with_reducible assumption | assumption, List.forall_mem_cons.mpr ⟨rfl, List.forall_mem_cons.mpr ⟨rfl, List.forall_mem_cons.mpr ⟨rfl, List.forall_mem_cons.mpr ⟨rfl, List.forall_mem_nil _⟩⟩⟩⟩, by first | with_reducible assumption | assumption⟩, tail_all e1 e2 e3 (by first | with_reducible assumption | assumption)⟩
        intro s' hM
        obtain ⟨hM, hgood⟩ := hM.out
        obtain ⟨h9, tk9, m9, rfl, F9, N9⟩ := hM.out
        clear F8 N8 hM
        simp only [List.drop_succ_cons, List.drop_zero]
        have htl2 : 2 ≤ tt.length := by rw [← tl_len, e1]; simp
        · k_steps
          all_goals (try dsimp only)
          · exact absurd (by first | with_reducible assumption | assumption) (show ¬ _ = true by rw [dig_0 e1 htok.ascii, e2]; exact Bool.false_ne_true)
          · exact absurd (by first | with_reducible assumption | assumption) (show ¬ _ = true by rw [dig_1 e1 htok.ascii, e3]; exact Bool.false_ne_true)
          · exact Hid.mk ⟨_, _, _, ⟨_, _, _, rfl, by first | with_reducible assumption | assumption, List.forall_mem_cons.mpr ⟨rfl, List.forall_mem_cons.mpr ⟨rfl, List.forall_mem_cons.mpr ⟨rfl, List.forall_mem_cons.mpr ⟨rfl, List.forall_mem_nil _⟩⟩⟩⟩, by first | with_reducible assumption | assumption⟩, hb2, .inr ⟨_, hst, by rw [← htt]; exact hgood, by rw [find_sum e1 htok.ascii e2 e3, htt]⟩⟩
    · intro s' hM
      exact absurd hM.out.1 Bool.false_ne_true
  intro s' hM
  obtain ⟨bd2, tb2, tv, hM, hb2, htv⟩ := hM.out
  obtain ⟨h6, tk6, m6, rfl, F6, N6⟩ := hM.out
  clear F5 N5 hM
  simp only [List.drop_succ_cons, List.drop_zero]
  have hb2ok : Okay 64 bd2 := hx.sub (by rw [hb2]; exact body_sub _)
  have hb2l := hb2ok.1
  refine cut_execs 1 (fun s' => Hid (∃ z tz, MidP s g1 L1 [(Str.ofString "strict", .bool strict), (Str.ofString "known", .ref kl), (Str.ofString "body", .str bd2 tb2), (Str.ofString "total", tv), (Str.ofString "size", .int (z : Nat) tz)] ((kl, listOf kvs.toArray kn) :: news) s' ∧ sizeL (tl bd2) = some z)) ?_ ?_
  · simp only [List.take_succ_cons, List.take_zero]
    refine wpAny_execs_cons ?_
    refine if_cut (fun b s' => Hid (b = c1L (tl bd2) ∧ MidP s g1 L1 [(Str.ofString "strict", .bool strict), (Str.ofString "known", .ref kl), (Str.ofString "body", .str bd2 tb2), (Str.ofString "total", tv)] ((kl, listOf kvs.toArray kn) :: news) s')) ?_ ?_ ?_
    · k_steps
      all_goals (try dsimp only)
      all_goals (refine Hid.mk ⟨?_, ⟨_, _, _, rfl, by first | with_reducible assumption | assumption, List.forall_mem_cons.mpr ⟨rfl, List.forall_mem_cons.mpr ⟨rfl, List.forall_mem_cons.mpr ⟨rfl, List.forall_mem_cons.mpr ⟨rfl, List.forall_mem_nil _⟩⟩⟩⟩, by first | assumption | exact newsT (by first | with_reducible assumption | assumption)⟩⟩)
      all_goals first | exact c1_t (by with_reducible assumption) (by with_reducible assumption) | exact c1_f2 (by with_reducible assumption) | exact c1_f1 (by with_reducible assumption)
    · intro s' hM
      obtain ⟨hc1, hM⟩ := hM.out
      obtain ⟨h7, tk7, m7, rfl, F7, N7⟩ := hM.out
      clear F6 N6 hM
      k_steps
      all_goals (try dsimp only)
      exact Hid.mk ⟨4, _, ⟨_, _, _, rfl, by first | with_reducible assumption | assumption, List.forall_mem_cons.mpr ⟨rfl, List.forall_mem_cons.mpr ⟨rfl, List.forall_mem_cons.mpr ⟨rfl, List.forall_mem_cons.mpr ⟨rfl, List.forall_mem_cons.mpr ⟨rfl, List.forall_mem_nil _⟩⟩⟩⟩⟩, by first | with_reducible assumption | assumption⟩, by rw [sizeL_eq, ← hc1]; rfl⟩
    · intro s' hM
      obtain ⟨hc1, hM⟩ := hM.out
      obtain ⟨h7, tk7, m7, rfl, F7, N7⟩ := hM.out
      clear F6 N6 hM
      refine wpAny_execs_cons ?_
      refine if_cut (fun b s' => Hid (b = c2L (tl bd2) ∧ MidP s g1 L1 [(Str.ofString "strict", .bool strict), (Str.ofString "known", .ref kl), (Str.ofString "body", .str bd2 tb2), (Str.ofString "total", tv)] ((kl, listOf kvs.toArray kn) :: news) s')) ?_ ?_ ?_
      · k_steps
        all_goals (try dsimp only)
        all_goals (refine Hid.mk ⟨?_, ⟨_, _, _, rfl, by first | with_reducible assumption | assumption, List.forall_mem_cons.mpr ⟨rfl, List.forall_mem_cons.mpr ⟨rfl, List.forall_mem_cons.mpr ⟨rfl, List.forall_mem_cons.mpr ⟨rfl, List.forall_mem_nil _⟩⟩⟩⟩, by first | assumption | exact newsT (by first | with_reducible assumption | assumption)⟩⟩)
        all_goals first | exact c2_t (by with_reducible assumption) (by with_reducible assumption) (by with_reducible assumption) | exact c2_f2 (by with_reducible assumption) | exact c2_f1 (by with_reducible assumption) | exact c2_f0 (by with_reducible assumption)
      · intro s' hM
        obtain ⟨hc2, hM⟩ := hM.out
        obtain ⟨h8, tk8, m8, rfl, F8, N8⟩ := hM.out
        clear F7 N7 hM
        k_steps
        all_goals (try dsimp only)
        exact Hid.mk ⟨9, _, ⟨_, _, _, rfl, by first | with_reducible assumption | assumption, List.forall_mem_cons.mpr ⟨rfl, List.forall_mem_cons.mpr ⟨rfl, List.forall_mem_cons.mpr ⟨rfl, List.forall_mem_cons.mpr ⟨rfl, List.forall_mem_cons.mpr ⟨rfl, List.forall_mem_nil _⟩⟩⟩⟩⟩, by first | with_reducible assumption | assumption⟩, by rw [sizeL_eq, ← hc1, ← hc2]; rfl⟩
      · intro s' hM
        obtain ⟨hc2, hM⟩ := hM.out
        obtain ⟨h8, tk8, m8, rfl, F8, N8⟩ := hM.out
        clear F7 N7 hM
        refine wpAny_execs_cons ?_
        refine if_cut (fun b s' => Hid (b = c3L (tl bd2) ∧ MidP s g1 L1 [(Str.ofString "strict", .bool strict), (Str.ofString "known", .ref kl), (Str.ofString "body", .str bd2 tb2), (Str.ofString "total", tv)] ((kl, listOf kvs.toArray kn) :: news) s')) ?_ ?_ ?_
        · k_steps
          all_goals (try dsimp only)
          all_goals (refine Hid.mk ⟨?_, ⟨_, _, _, rfl, by first | with_reducible assumption | assumption, List.forall_mem_cons.mpr ⟨rfl, List.forall_mem_cons.mpr ⟨rfl, List.forall_mem_cons.mpr ⟨rfl, List.forall_mem_cons.mpr ⟨rfl, List.forall_mem_nil _⟩⟩⟩⟩, by first | assumption | exact newsT (by first | with_reducible assumption | assumption)⟩⟩)
          all_goals first | exact c3_t (by with_reducible assumption) (by with_reducible assumption) | exact c3_f1 (by with_reducible assumption) | exact c3_f0 (by with_reducible assumption)
        · intro s' hM
          obtain ⟨hc3, hM⟩ := hM.out
          obtain ⟨h9, tk9, m9, rfl, F9, N9⟩ := hM.out
          clear F8 N8 hM
          k_steps
          all_goals (try dsimp only)
          exact Hid.mk ⟨6, _, ⟨_, _, _, rfl, by first | with_reducible assumption | assumption, List.forall_mem_cons.mpr ⟨rfl, List.forall_mem_cons.mpr ⟨rfl, List.forall_mem_cons.mpr ⟨rfl, List.forall_mem_cons.mpr ⟨rfl, List.forall_mem_cons.mpr ⟨rfl, List.forall_mem_nil _⟩⟩⟩⟩⟩, by first | with_reducible assumption | assumption⟩, by rw [sizeL_eq, ← hc1, ← hc2, ← hc3]; rfl⟩
        · intro s' hM
          obtain ⟨hc3, hM⟩ := hM.out
          obtain ⟨h9, tk9, m9, rfl, F9, N9⟩ := hM.out
          clear F8 N8 hM
          k_steps
          k_steps
          exact ret1 _ _ _ _ _ _ _ (due_none (by rw [← hb2, sizeL_eq, ← hc1, ← hc2, ← hc3]; rfl)) (by first | with_reducible assumption | assumption) (by first | with_reducible assumption | assumption) (by first | with_reducible assumption | assumption) (fun _ h => h)
  intro s' hM
  obtain ⟨z, tz, hM, hz⟩ := hM.out
  obtain ⟨h7, tk7, m7, rfl, F7, N7⟩ := hM.out
  clear F6 N6 hM
  simp only [List.drop_succ_cons, List.drop_zero]
  have hz2 : sizeL (bodyL (tl x)) = some z := by rw [← hb2]; exact hz
  refine cut_execs 1 (fun s' => Hid (MidP s g1 L1 [(Str.ofString "known", .ref kl), (Str.ofString "body", .str bd2 tb2), (Str.ofString "size", .int (z : Nat) tz)] ((kl, listOf kvs.toArray kn) :: news) s' ∧ sumGood (tl x) strict = true)) ?_ ?_
  · simp only [List.take_succ_cons, List.take_zero]
    have htv2 := htv
    rcases htv2 with ⟨rfl, hs0⟩ | ⟨u, hs1, hs2, rfl⟩
    · cases strict
      · k_steps
        all_goals (try dsimp only)
        exact Hid.mk ⟨⟨_, _, _, rfl, by first | with_reducible assumption | assumption, List.forall_mem_cons.mpr ⟨rfl, List.forall_mem_cons.mpr ⟨rfl, List.forall_mem_cons.mpr ⟨rfl, List.forall_mem_nil _⟩⟩⟩, by first | with_reducible assumption | assumption⟩, by rw [sum_none hs0]; rfl⟩
      · k_steps
        k_steps
        exact ret1 _ _ _ _ _ _ _ (due_sum htv.ok hz2 (by rw [sum_none hs0]; rfl)) (by first | with_reducible assumption | assumption) (by first | with_reducible assumption | assumption) (by first | with_reducible assumption | assumption) (fun _ h => h)
    · k_steps
      k_steps
      all_goals (try dsimp only)
      · exact ret1 _ _ _ _ _ _ _ (due_sum htv.ok hz2 (by rw [sum_some hs1, ← sumL_codes hb2]; exact decide_eq_false (by first | with_reducible assumption | assumption))) (by first | with_reducible assumption | assumption) (by first | with_reducible assumption | assumption) (by first | with_reducible assumption | assumption) (fun _ h => h)
      · exact Hid.mk ⟨⟨_, _, _, rfl, by first | with_reducible assumption | assumption, List.forall_mem_cons.mpr ⟨rfl, List.forall_mem_cons.mpr ⟨rfl, List.forall_mem_cons.mpr ⟨rfl, List.forall_mem_nil _⟩⟩⟩, by first | with_reducible assumption | assumption⟩, by rw [sum_some hs1, ← sumL_codes hb2]; exact decide_eq_true (by first | with_reducible assumption | assumption)⟩
  intro s' hM
  obtain ⟨hM, hsg⟩ := hM.out
  obtain ⟨h8, tk8, m8, rfl, F8, N8⟩ := hM.out
  clear F7 N7 hM
  simp only [List.drop_succ_cons, List.drop_zero]
  have hdue := due_rest (w := hasW) htv.ok hz2 hsg
  refine cut_execs 2 (fun s' => Hid (∃ hd th D tD n, MidP s g1 L1 [(Str.ofString "known", .ref kl), (Str.ofString "body", .str bd2 tb2), (Str.ofString "size", .int (z : Nat) tz), (Str.ofString "head", .str hd th), (Str.ofString "parts", .ref D)] ((D, listOf [Value.str (Str.ofString "") tD].toArray n) :: (kl, listOf kvs.toArray kn) :: news) s' ∧ tl hd = ((tl bd2).take z).map up1 ∧ AllLt D ((kl, listOf kvs.toArray kn) :: news))) ?_ ?_
  · simp only [List.take_succ_cons, List.take_zero]
    k_steps
    all_goals (try dsimp only)
    exact Hid.mk ⟨_, _, _, _, _, ⟨_, _, _, rfl, by first | with_reducible assumption | assumption, List.forall_mem_cons.mpr ⟨rfl, List.forall_mem_cons.mpr ⟨rfl, List.forall_mem_cons.mpr ⟨rfl, List.forall_mem_cons.mpr ⟨rfl, List.forall_mem_cons.mpr ⟨rfl, List.forall_mem_nil _⟩⟩⟩⟩⟩, by first | with_reducible assumption | assumption⟩, by rw [tl_upper (hb2ok.slice_to z).ascii, slice_to], by first | with_reducible assumption | assumption⟩
  intro s' hM
  obtain ⟨hd, th, D, tD, n, hM, hhd, hD⟩ := hM.out
  obtain ⟨h9, tk9, m9, rfl, F9, N9⟩ := hM.out
  clear F8 N8 hM
  simp only [List.drop_succ_cons, List.drop_zero]
  have hbz : Okay 64 (Txt.slice bd2 (some (z : Int)) none) := hb2ok.slice_from z
  have hbzl := hbz.1
  refine cut_execs 1 (fun s' => Hid (∃ vs n, MidP s g1 L1 [(Str.ofString "known", .ref kl), (Str.ofString "size", .int (z : Nat) tz), (Str.ofString "head", .str hd th), (Str.ofString "parts", .ref D)] ((D, listOf vs.toArray n) :: (kl, listOf kvs.toArray kn) :: news) s' ∧ DatAll [] vs ((partsL ((tl bd2).drop z)).map dL))) ?_ ?_
  · simp only [List.take_succ_cons, List.take_zero]
    k_with "pyIter str" => (refine Hid.out ?_)
    k_steps
    refine Hid.mk ?_
    (rename Fr _ _ _ _ => lF'); (rename News _ _ _ _ => lN')
    with_unfolding_all refine' KStt.kst_text (σ := List Value × Str × Tok × Nat) (fun c => (D, listOf (c.1 ++ [Value.str c.2.1 c.2.2.1]).toArray c.2.2.2) :: (kl, listOf kvs.toArray kn) :: news) (fun _ => []) (fun _ => True) [] (fun pre c => ∃ ps, DatAll [] c.1 (ps.map dL) ∧ partsL (pre.map Int.toNat) = ps ++ [tl c.2.1] ∧ c.1.length ≤ pre.length ∧ c.2.1.length ≤ pre.length) ([], Str.ofString "", tD, n) (by rfl) lF' lN' True.intro (List.forall_mem_nil _) ?kp ?_ ?_
    case kp => exact ⟨[], parts_start.1, parts_start.2, Nat.zero_le _, Nat.zero_le _⟩
    · clear lF' lN'
      rintro ⟨us, q, tq, n'⟩ pre post k tk0 u h10 tkk own hcodes hoff - ⟨ps, hda, hps, hul, hql⟩ F10 N10
      dsimp only at hda hps hul hql F10 N10 ⊢
      have hne : NeD D ((kl, listOf kvs.toArray kn) :: (news ++ own)) := by
        intro p hp
        rcases List.mem_cons.mp hp with rfl | hp
        · exact Nat.ne_of_lt hD.1
        · rcases List.mem_append.mp hp with hp | hp
          · exact Nat.ne_of_lt (allLt_out hD.2 p hp)
          · exact hoff p hp D (.head _)
      have hpl : pre.length < 64 := by
        have := congrArg List.length hcodes
        rw [KStt.codes_length, List.length_append, List.length_cons] at this
        omega
      simp only [List.cons_append, List.nil_append] at N10
      k_steps
      all_goals (try dsimp only)
      · exact kst_end (us ++ [Value.str q tq], Str.ofString "", _, _) (by first | with_reducible assumption | assumption) (by first | with_reducible assumption | assumption) sub_led sub_own rfl True.intro (List.forall_mem_nil _) (fun z h1 _ _ => if_neg h1) ⟨ps ++ [tl q], (parts_comma (tq := tq) hda hps (by first | with_reducible assumption | assumption)).1, (parts_comma (tq := tq) hda hps (by first | with_reducible assumption | assumption)).2, len_snoc hul, len_nil_snoc⟩
      · exact kst_end (us, q ++ ⟨#[k]⟩, _, _) (by first | with_reducible assumption | assumption) (by first | with_reducible assumption | assumption) sub_led sub_own rfl True.intro (List.forall_mem_nil _) (fun z h1 _ _ => if_neg h1) ⟨ps, hda, parts_sign hps (by first | with_reducible assumption | assumption), len_le_snoc hul, len_str_snoc hql⟩
    · clear lF' lN'
      rintro ⟨us, q, tq, n'⟩ u h10 tkk - ⟨ps, hda, hps, hul, hql⟩ F10 N10
      k_steps
      all_goals (try dsimp only)
      exact Hid.mk ⟨us ++ [Value.str q tq], n', ⟨_, _, _, rfl, F10, List.forall_mem_cons.mpr ⟨rfl, List.forall_mem_cons.mpr ⟨rfl, List.forall_mem_cons.mpr ⟨rfl, List.forall_mem_cons.mpr ⟨rfl, List.forall_mem_nil _⟩⟩⟩⟩, N10⟩, parts_done hda hps⟩
  intro s' hM
  obtain ⟨pv, pn, hM, hpv⟩ := hM.out
  obtain ⟨h10, tk10, m10, rfl, F10, N10⟩ := hM.out
  clear F9 N9 hM
  simp only [List.drop_succ_cons, List.drop_zero]
  have hhdl : hd.length ≤ 64 := by
    rw [← tl_len, hhd, List.length_map, List.length_take, tl_len]; omega
  have hA0 : Asc hd := fun c hc => by
    rw [hhd] at hc
    obtain ⟨k, hk, rfl⟩ := List.mem_map.mp hc
    exact up1_lt k (hb2ok.ascii k (List.mem_of_mem_take hk))
  have hls : ∀ c ∈ (tl bd2).drop z, c < 128 := fun c hc => hb2ok.ascii c (List.mem_of_mem_drop hc)
  have hpvD : DatAll [(D, listOf pv.toArray pn)] pv ((partsL ((tl bd2).drop z)).map dL) := DatAll.mono (news := []) (fun _ hp => nomatch hp) hpv
  have hzc := sizeL_cases hz
  rcases hzc with rfl | rfl | rfl
  · k_steps
    all_goals (try dsimp only)
    exact retG _ _ _ _ _ _ [(D, listOf pv.toArray pn)] _ (hdue.trans (rest_maker hb2 hhd)) (by first | with_reducible assumption | assumption) (by first | with_reducible assumption | assumption) (by first | with_reducible assumption | assumption) (.cons (.str _ _) (.cons (.str _ _) (.cons (.list (.head _) hpvD) .nil))) own_one (lt_one hD.2) (fun _ hp => .tail _ hp)
  · k_steps
    all_goals (try dsimp only)
    · exact retG _ _ _ _ _ _ _ _ (hdue.trans (rest_question hb2 hhd (by first | with_reducible assumption | assumption))) (by first | with_reducible assumption | assumption) (by first | with_reducible assumption | assumption) (by first | with_reducible assumption | assumption) (.cons (.str _ _) (.cons (.str _ _) (.cons (.str _ _) (.cons (.str _ _) (.cons (.list (vs := []) (.head _) .nil) .nil))))) own_one (lt_one (by assumption : _ ∧ _ ∧ _ ∧ AllLt _ news).2.2.2) (fun _ hp => .tail _ (.tail _ (.tail _ hp)))
    · exact ret1 _ _ _ _ _ _ _ (hdue.trans (rest_no hb2 (by first | with_reducible assumption | assumption))) (by first | with_reducible assumption | assumption) (by first | with_reducible assumption | assumption) (by first | with_reducible assumption | assumption) (fun _ hp => .tail _ (.tail _ hp))
  · have hA1 : Asc (Txt.slice hd (some (2 : Int)) (some (5 : Int))) := hA0.sub (by rw [show tl (Txt.slice hd (some (2 : Int)) (some (5 : Int))) = ((tl hd).drop 2).take (5 - 2) from slice_mid hd (by decide)]; exact (List.take_sublist _ _).trans (List.drop_sublist _ _))
    k_steps
    all_goals (try dsimp only)
    · exact retG _ _ _ _ _ _ [(D, listOf pv.toArray pn)] _ (hdue.trans (rest_talker hb2 hhd (by first | with_reducible assumption | assumption))) (by first | with_reducible assumption | assumption) (by first | with_reducible assumption | assumption) (by first | with_reducible assumption | assumption) (.cons (.str _ _) (.cons (.str _ _) (.cons (.str _ _) (.cons (.str _ _) (.cons (.list (.head _) hpvD) .nil))))) own_one (lt_one hD.2) (fun _ hp => .tail _ hp)
    · exact ret1 _ _ _ _ _ _ _ (hdue.trans (rest_kind hb2 hhd (by first | with_reducible assumption | assumption))) (by first | with_reducible assumption | assumption) (by first | with_reducible assumption | assumption) (by first | with_reducible assumption | assumption) (fun _ hp => .tail _ hp)
end
end Mine
end
section
open PySem PySem.W PySem.Calls PyProof.Rows PySem.Spec
set_option Elab.async false
set_option maxRecDepth 100000
set_option maxHeartbeats 2000000
set_option linter.unusedVariables false
namespace Mine
theorem slot_wd_get : Slot "wrapper_descriptor" "__get__" "wrapper_descriptor.__get__" := .of (owner := "wrapper_descriptor") (n := "__get__") (by rw [typeLookup_type, builtinLookup_eq_fast]; kernel_rfl) (by decide +kernel) (by decide +kernel) (by decide +kernel)
  (by decide +kernel) (by rw [isSubtype_type]; kernel_rfl) (by decide +kernel)
theorem entry_wd_get : entryFor table "wrapper_descriptor.__get__" = some Builtin.«wrapper_descriptor.__get__» := entryFor_of_tree (by kernel_rfl)
theorem args_wd_get (a b c : Value) : argsOk "wrapper_descriptor.__get__" ⟨[a, b, c], []⟩ := by unfold argsOk; kernel_rfl
section
variable {prog : Program} {w : World} {A : Around} {E : Value → Shared → Prop} {h : Heap} {g : Array GenState} {d : Drawn} {t : Nat} {os : OsState}
theorem wd_get {x C : Addr} {ox : Obj} {Q : PySem.Fin → Shared → Prop} (hx : h.get? x = some ox) (hc : ox.cls = .ref C) (hs : Looks (model prog w) h (isSubtype (.ref C) (.type "ValueError")) true)
    (hq : Q (.done (.ret (.ref h.objs.size))) ⟨h.push { cls := .type "method-wrapper", data := .fields #[.builtin "ValueError.__init__", .ref x] }, g, d, t, os⟩) :
    wpAny (model prog w) A (Builtin.«wrapper_descriptor.__get__» ⟨[.builtin "ValueError.__init__", .ref x, .ref C], []⟩) Q E ⟨h, g, d, t, os⟩ := by
  unfold Builtin.«wrapper_descriptor.__get__»
  repeat (first
    | (with_reducible refine Looks.at hs ?_)
    | (with_reducible refine wpAny_loadPart_at hx ?_; rw [hc])
    | wp_step
    | dsimp only)
  have hn : ".".intercalate ("ValueError.__init__".cutAt '.').dropLast = "ValueError" := by decide +kernel
  rw [hn]
  repeat (first
    | (with_reducible refine Looks.at hs ?_)
    | wp_step
    | dsimp only)
  all_goals exact hq

theorem super_look {so x C : Addr} {name : Str} {ox : Obj} {l₀ r : List Value} {K : Frag} {tk : Tok} {Q : PySem.Fin → Shared → Prop}
    (hso : h.get? so = some { cls := .type "super", dict := none, data := .fields #[.ref 64, .ref x, .ref C], slots := #[] }) (hno : Looks (model prog w) h (opaqueClassAbove (.ref C)) none)
    (hC : Looks (model prog w) h (mroOf (.ref C)) l₀) (hl : (l₀.dropWhile (· != .ref 64)).drop 1 = .type "ValueError" :: r) (X : K.In h)
    (hx : h.get? x = some ox) (hc : ox.cls = .ref C) (hs : Looks (model prog w) h (isSubtype (.ref C) (.type "ValueError")) true) (hxC : x ≠ C)
    (hn : (name == ("__class__" : Str)) = false) (hown : ownIn K name (.type "ValueError") = some (some (.builtin "ValueError.__init__")))
    (hq : Q (.done (.ret (.ref h.objs.size))) ⟨h.push { cls := .type "method-wrapper", data := .fields #[.builtin "ValueError.__init__", .ref x] }, g, d, t, os⟩) :
    wpAny (model prog w) A (Builtin.«super.__getattribute__» ⟨[.ref so, .str name tk], []⟩) Q E ⟨h, g, d, t, os⟩ := by
  have hlk := slot_wd_get.lookup
  have hne : (Value.ref x == Value.ref C) = false := by simp [hxC]
  have hf : alongIn K name (.type "ValueError" :: r) = some (some (.builtin "ValueError.__init__")) := by
    simp only [alongIn, hown]
  have hTf : (⟨h, g, d, t, os⟩ : Shared).TypeIs (.builtin "ValueError.__init__") "wrapper_descriptor" := by
    show typeOf (.builtin "ValueError.__init__") = pure (.type "wrapper_descriptor")
    kernel_rfl
  have hdt : ({ cls := .type "super", dict := none, data := .fields #[.ref 64, .ref x, .ref C], slots := #[] } : Obj).data = .fields #[.ref 64, .ref x, .ref C] := rfl
  have f0 : (#[.ref 64, .ref x, .ref C] : Array Value)[0]? = some (.ref 64) := rfl
  have f1 : (#[.ref 64, .ref x, .ref C] : Array Value)[1]? = some (.ref x) := rfl
  have f2 : (#[.ref 64, .ref x, .ref C] : Array Value)[2]? = some (.ref C) := rfl
  unfold Builtin.«super.__getattribute__»
  iterate 22 (first
    | (with_reducible refine wpAny_field hso hdt f0 ?_) | (with_reducible refine wpAny_field hso hdt f1 ?_) | (with_reducible refine wpAny_field hso hdt f2 ?_)
    | (with_reducible refine ks_wpAny_notOpaque hno ?_)
    | (with_reducible refine Looks.at hC ?_; rw [hl])
    | (refine ks_forIn_along X (fun _ _ => rfl) rfl ?_ hf)
    | (with_reducible refine wpAny_typeOf hTf ?_)
    | (with_reducible refine wpAny_call_entry slot_wd_get hTf entry_wd_get ?_ (args_wd_get _ _ _))
    | (with_reducible refine wd_get hx hc hs ?_)
    | (with_reducible refine ⟨_, rfl, ?_⟩)
    | (simp only [hn, hne, Bool.or_false, Bool.false_eq_true, if_false])
    | wp_step
    | dsimp only)
  refine wpAny_bind ?_
  refine ks_forIn_along X (fun _ _ => rfl) rfl ?_ hf
  refine wpAny_bind (wpAny_typeOf hTf ?_)
  refine wpAny_bind (wpAny_of_eq hlk ?_)
  refine wpAny_bind (wpAny_holding (wpAny_call_entry slot_wd_get hTf entry_wd_get (wd_get hx hc hs ⟨_, rfl, ?_⟩) (args_wd_get _ _ _)))
  repeat wp_step
  all_goals exact hq

theorem gm_init {so x C : Addr} {ox : Obj} {l₀ r : List Value} {K : Frag} {pl : Sem Bool} {Q : Value × List Value → Shared → Prop}
    (hso : h.get? so = some { cls := .type "super", dict := none, data := .fields #[.ref 64, .ref x, .ref C], slots := #[] }) (hno : Looks (model prog w) h (opaqueClassAbove (.ref C)) none)
    (hC : Looks (model prog w) h (mroOf (.ref C)) l₀) (hl : (l₀.dropWhile (· != .ref 64)).drop 1 = .type "ValueError" :: r) (X : K.In h)
    (hx : h.get? x = some ox) (hc : ox.cls = .ref C) (hs : Looks (model prog w) h (isSubtype (.ref C) (.type "ValueError")) true) (hxC : x ≠ C)
    (hq : Q (.ref h.objs.size, []) ⟨h.push { cls := .type "method-wrapper", data := .fields #[.builtin "ValueError.__init__", .ref x] }, g, d, t + 1, os⟩) :
    wpAny (model prog w) A (getMethod (.ref so) (Str.ofString "__init__") pl) Q E ⟨h, g, d, t, os⟩ := by
  have hlk := F.ks_slot_super_ga.lookup
  have hcan := F.ks_canon_super_ga
  have hT : ∀ t', (⟨h, g, d, t', os⟩ : Shared).TypeIs (.ref so) "super" := fun _ => ⟨_, hso, rfl⟩
  unfold getMethod
  refine wpAny_bind (wpAny_specialOf (hT _) hlk ?_)
  show wpAny _ _ (if (Manifest.canonical "super.__getattribute__" != "object.__getattribute__") = true then _ else _) _ _ _
  rw [if_pos hcan]
  unfold getAttr getAttrBy
  refine wpAny_bind (wpAny_bind (wpAny_mkText (wpAny_holding (wpAny_bind (wpAny_typeOf (hT _) (wpAny_bind (wpAny_of_eq hlk ?_)))))))
  show wpAny _ _ (getAttrByItsOwn (.ref so) (.str (Str.ofString "__init__") t) (.type "super") (.builtin "super.__getattribute__") true false) _ _ _
  unfold getAttrByItsOwn hookBefore callGetattribute boundAndCalled
  refine wpAny_bind (wpAny_of_eq (show (if onTheHeap (.type "super") then typeLookup (.type "super") "__getattr__" else pure none) = pure none from rfl) ?_)
  refine wpAny_bind (wpAny_attempt (wpAny_holding ?_))
  show wpAny _ _ (bindSpecial (.builtin "super.__getattribute__") (.ref so) >>= _) _ _ _
  refine wpAny_bind (wpAny_of_eq (F.ks_slot_super_ga.bind _) ?_)
  refine wpAny_mono (Q := fun v s' => v = .ref h.objs.size ∧ s' = ⟨h.push { cls := .type "method-wrapper", data := .fields #[.builtin "ValueError.__init__", .ref x] }, g, d, t + 1, os⟩) (E := fun _ _ => False)
    (wpAny_call_entry F.ks_slot_super_ga (hT _) F.ks_entry_super_ga (super_look hso hno hC hl X hx hc hs hxC (by decide +kernel) (by kernel_rfl) ⟨_, rfl, rfl, rfl⟩) (F.ks_gaArgs_super _ _)) (fun v s' hv => ?_) fun _ _ z => z.elim
  obtain ⟨rfl, rfl⟩ := hv
  exact wpAny_pure (wpAny_pure hq)

theorem mw_call {nm q : Str} {N : Addr} {bs bm : List Value} {hdct : Bool} {sn : List Str} {sub : List Value} {ab : Bool} {col : Option Bool} {dd : Option Addr} {k0 k1 k2 k3 k5 : Option Value} {newId : String} {mw x C u : Addr} {tp : Addr} {Q : Value → Shared → Prop}
    (hC : h.get? C = some (excClassObj nm q C N bs bm hdct sn sub ab col dd k0 k1 k2 k3 k5 newId))
    (hm : h.get? mw = some { cls := .type "method-wrapper", dict := none, data := .fields #[.builtin "ValueError.__init__", .ref x], slots := #[] })
    (hx : h.get? x = some { cls := .ref C, data := .fields #[.ref tp, .none, .none, .none, .bool false, .none] })
    (hs : Looks (model prog w) h (isSubtype (.ref C) (.type "ValueError")) true)
    (hq : ∀ h', (∀ b o, b ≠ x → h.get? b = some o → h'.get? b = some o) → h'.get? x = some { cls := .ref C, data := .fields #[.ref h.objs.size, .none, .none, .none, .bool false, .none] } → h'.get? h.objs.size = some { cls := .type "tuple", data := .seq #[.ref u] } → Q .none ⟨h', g, d, t, os⟩) :
    wpAny (model prog w) A (call (.ref mw) [.ref u]) Q E ⟨h, g, d, t, os⟩ := by
  have F := PySem.F.excBase_ValueError
  have hshort := F.noStar
  refine wpAny_call (codeAny_of_tree ?_)
  show wpAny _ A.in1 (callAny (.ref mw) _) _ _ _
  unfold callAny
  refine wpAny_bind (wpAny_load hm ?_)
  dsimp only
  rw [if_pos (by decide)]
  show wpAny _ _ (if (Value.type "method-wrapper" != Value.type "method") = true then _ else _) _ _ _
  rw [if_pos (by decide)]
  unfold checkBoundCall
  simp only [F.initRow, F.initKind]
  rw [if_pos (by decide)]
  refine wpAny_bind ?_
  unfold Bind.checkArgs
  repeat (first | (with_reducible refine wpAny_loadPart_at hx ?_; dsimp only) | with_reducible refine wpAny_loadPart_at hC ?_ | (with_reducible refine Looks.at hs ?_) | wp_step)
  refine ⟨plainId_quiet F.init.plain _, codeAny_builtin F.initEntry ?_⟩
  rw [Around.under_plainId F.init.plain _]
  unfold Builtin.«BaseException.__init__»
  wp_walk
  have hlt := Heap.lt_size hx
  refine hq _ (fun b o hb e => ?_) ?_ ?_
  · rw [Heap.get?_update_other _ _ (Ne.symm hb)]
    exact Heap.get?_push_of_some _ e
  · rw [Heap.get?_update_self _ (Heap.get?_push_of_some _ hx) rfl]
    rfl
  · rw [Heap.get?_update_other _ _ (Nat.ne_of_lt hlt)]
    exact Heap.get?_push_at rfl rfl

theorem callWith_mw {pos : Pos} {u x : Addr} {env : Env} {e : Expr} {rest : List Expr} {Q : Value → Shared → Prop} {s : Shared}
    (h : wpAny (model prog w) A (spliced (backTo pos (starEach (e :: rest) env))) (fun vs s₁ => s₁.heap.get? u = some { cls := .type "method-wrapper", dict := none, data := .fields #[.builtin "ValueError.__init__", .ref x], slots := #[] } ∧ wpAny (model prog w) A (call (.ref u) vs) Q E s₁) E s)
    (he : starEach (e :: rest) env = (false, eval e env) :: starEach rest env := by rfl) (hplain : (backTo pos (starEach rest env)).any (·.1) = false := by rfl) :
    wpAny (model prog w) A (callWith pos (.ref u) [] (backTo pos (starEach (e :: rest) env)) []) Q E s := by
  rw [he] at h ⊢
  have hst : ((backTo pos ((false, eval e env) :: starEach rest env)).any (fun x => x.fst)) = false := by
    show (false || (backTo pos (starEach rest env)).any (·.1)) = false
    rw [hplain]; rfl
  unfold callWith
  refine wpAny_bind (wpAny_holding (Calls.evalArgs_plain (wpAny_mono h (fun vs s₁ h₁ => ?_) fun _ _ x => x)))
  refine wpAny_bind (wpAny_standAt ?_)
  obtain ⟨ho, hcall⟩ := h₁
  simp only [hst, List.any_nil, Bool.or_false]
  refine wpAny_bind (m := keeperOf (.ref u)) ?_
  unfold keeperOf
  refine wpAny_bind (wpAny_load ho ?_)
  simp only [show (Value.type "method-wrapper" != Value.type "method") = true by decide, show (Value.type "method-wrapper" == Value.type "builtin_function_or_method" || Value.type "method-wrapper" == Value.type "method-wrapper") = true by decide, if_true]
  refine wpAny_pure ?_
  exact wpAny_bind (wpAny_mono hcall (fun r s₂ hr => wpAny_bind (wpAny_holding (wpAny_point (wpAny_pure hr)))) fun _ _ x => x)
end
end Mine
end
section
open PySem PySem.W PySem.Calls PyProof.Rows PySem.Spec
set_option Elab.async false
set_option maxRecDepth 100000
set_option maxHeartbeats 2000000
set_option linter.unusedVariables false
namespace Mine
section
variable {prog : Program} {w : World} {A : Around} {E : Value → Shared → Prop} {h : Heap} {g : Array GenState} {d : Drawn} {t : Nat} {os : OsState}
variable {nm q : Str} {C N : Addr} {bs bm bmB : List Value} {hdct : Bool} {sn : List Str} {sub : List Value} {ab : Bool} {col : Option Bool} {dd : Option Addr} {k0 k1 k2 k3 k5 : Option Value} {B newId initId : String} {K : Frag}

/-- a new exception object of an own class whose __init__ is an own def, wherever among its bases that def lies -/
theorem exc_made (F : ExcBaseFacts B newId initId bmB) {rest : List Value} {fI : Addr} {Q : Fin → Shared → Prop} (X : K.In h)
    (hC : h.get? C = some (excClassObj nm q C N bs bm hdct sn sub ab col dd k0 k1 k2 k3 k5 newId))
    (hB : bm.contains (.type B) = true) (hA : bm.contains (.type "AttributeError") = false) (hN : bm.contains (.type "NameError") = false)
    (hl : findIn K (.ref C) "__init__" = some (some (.ref fI))) (ht : typeIn K (.ref fI) = some (.type "function"))
    (hq : ∀ h' e, Heap.MadeExcOf h h' e (.ref C) rest → h.objs.size ≤ h'.objs.size →
      wpAny (model prog w) A (call (.ref fI) (.ref e :: rest)) (fun r s' => r = .none ∧ Q (.done (.ret (.ref e))) s') E ⟨h', g, d, t, os⟩) (hrest : rest.length ≤ sizeLine := by size_fits) :
    wpAny (model prog w) A (Builtin.«type.__call__» ⟨.ref C :: rest, []⟩) Q E ⟨h, g, d, t, os⟩ := by
  have hcB : (Value.ref C :: bm).contains (.type B) = true := by rw [List.contains_cons, hB, Bool.or_true]
  have hcA : (Value.ref C :: bm).contains (.type "AttributeError") = false := by rw [List.contains_cons, hA]; rfl
  have hcN : (Value.ref C :: bm).contains (.type "NameError") = false := by rw [List.contains_cons, hN]; rfl
  have hcC : (Value.ref C :: bm).contains (.ref C) = true := by simp
  have hstar := F.noStar
  have hends := F.ends
  repeat (first | with_reducible refine wpAny_loadPart_at hC ?_ | with_reducible refine wpAny_madeBy_exc hC ?_ | wp_step)
  refine codeAny_call_builtin_code (Code.quiet_builtin _ F.quiet) ?_
  simp only [checkBuiltinCall, F.newKind, F.newSplit, F.newRow]
  repeat (first | refine wpAny_loadPart_at hC ?_ | (refine wpAny_isSubtype_exc hC ?_; rw [hcB]) | refine wpAny_staticBase_exc hC ?_ | refine wpAny_madeBy_exc hC ?_ | simp only [bne_self_eq_false, Bool.false_eq_true, if_false] | wp_step)
  refine codeAny_builtinAt F.entry ?_
  unfold Builtin.«BaseException.__new__»
  refine PySem.wpAt_bind ?_
  show PySem.wpAt _ _ _ (stack >>= _) _ _ _
  refine PySem.wpAt_bind (PySem.wpAt_stack fun p below => PySem.wpAt_of_wpAny ?_)
  wp_walk
  refine PySem.wpAt_of_wpAny ?_
  rw [F.owner]
  repeat (first | with_reducible refine wpAny_madeHere_exc F.canon hC ?_ | with_reducible refine wpAny_loadPart_at hC ?_ | (with_reducible refine wpAny_isSubtype_exc hC ?_; first | rw [hcB] | rw [hcA] | rw [hcN]) | wp_step)
  have k : ∀ b o, h.get? b = some o → ((h.push { cls := .type "tuple", data := .seq rest.toArray }).push { cls := .ref C, data := .fields #[.ref h.objs.size, .none, .none, .none, .bool false, .none] }).get? b = some o :=
    fun b o e => Heap.get?_push_of_some _ (Heap.get?_push_of_some _ e)
  have hC₁ := k _ _ hC
  have X₁ := X.keeps k
  have hget : ((h.push { cls := .type "tuple", data := .seq rest.toArray }).push
      { cls := .ref C, data := .fields #[.ref h.objs.size, .none, .none, .none, .bool false, .none] }).get? (h.objs.size + 1) = some
      { cls := .ref C, data := .fields #[.ref h.objs.size, .none, .none, .none, .bool false, .none] } := by heap_get
  show wpAny _ _ _ _ _ ⟨(h.push { cls := .type "tuple", data := .seq rest.toArray }).push { cls := .ref C, data := .fields #[.ref h.objs.size, .none, .none, .none, .bool false, .none] }, g, d, t, os⟩
  show wpAny _ _ (isSubtype (.ref C) (.ref C)) _ _ _
  repeat (first | with_reducible refine wpAny_loadPart_at hget ?_ | (with_reducible refine wpAny_isSubtype_exc hC₁ ?_; rw [hcC]) | wp_step)
  show wpAny _ _ (typeLookup (.ref C) _) _ _ _
  refine Looks.at (looks_findIn X₁ hl) ?_
  refine wpAny_holding (wpAny_bind ?_)
  unfold bindSpecial
  refine wpAny_bind (Looks.at (looks_typeIn X₁ ht) ?_)
  rw [if_pos (by decide)]
  simp only [Heap.size_push]
  refine wpAny_pure (wpAny_bind (wpAny_mono (hq _ (h.objs.size + 1) ⟨k, Heap.get?_none_of_le (Nat.le_succ _), h.objs.size, hget, Heap.get?_none_of_le (Nat.le_refl _), ?_⟩ (by simp only [Heap.size_push]; omega)) (fun r s' hr => ?_) fun _ _ x => x))
  · exact Heap.get?_push_of_some _ (Heap.get?_push_at rfl rfl)
  · obtain ⟨rfl, hQ⟩ := hr
    wp_walk
    exact hQ

theorem exc_called (F : ExcBaseFacts B newId initId bmB) {rest : List Value} {fI : Addr} {Q : Value → Shared → Prop} (X : K.In h)
    (hC : h.get? C = some (excClassObj nm q C N bs bm hdct sn sub ab col dd k0 k1 k2 k3 k5 newId))
    (hB : bm.contains (.type B) = true) (hA : bm.contains (.type "AttributeError") = false) (hN : bm.contains (.type "NameError") = false)
    (hl : findIn K (.ref C) "__init__" = some (some (.ref fI))) (ht : typeIn K (.ref fI) = some (.type "function"))
    (hq : ∀ h' e, Heap.MadeExcOf h h' e (.ref C) rest → h.objs.size ≤ h'.objs.size →
      wpAny (model prog w) (A.under (.builtin "type.__call__" ⟨.ref C :: rest, []⟩)) (call (.ref fI) (.ref e :: rest)) (fun r s' => r = .none ∧ Q (.ref e) s') E ⟨h', g, d, t, os⟩) (hrest : rest.length ≤ sizeLine := by size_fits) :
    wpAny (model prog w) A (call (.ref C) rest) Q E ⟨h, g, d, t, os⟩ := by
  have f1 := tc_lookup
  have f2 := tc_bind (.ref C)
  have hT : (⟨h, g, d, t, os⟩ : Shared).TypeIs (.ref C) "type" := ⟨_, hC, rfl⟩
  refine wpAny_call (codeAny_of_tree ?_)
  show wpAny _ _ (callAny (.ref C) _) _ _ _
  repeat (any_goals (first | assumption | with_reducible refine wpAny_loadPart_at hC ?_ | wp_step))
  refine ⟨rfl, ?_⟩
  refine codeAny_call_builtin_at (Code.quiet_builtin _ (by decide +kernel)) entry_typeCall (wpAny_check_type_call_sub hC (exc_made (hrest := hrest) F X hC hB hA hN hl ht fun h' e hm hz => ?_))
  exact hq h' e hm hz
end

section
variable {prog : Program} {w : World} {A : Around} {s : Shared} {K : Frag} {f cc : Addr} {args : Args} {binds : List (Str × Value)} {R : Result → Shared → Prop} {name qual : Str} {params : Arguments} {body : List Stmt} {scope : Scope} {dV kV doc pm cdv ct oc : Value} {an od : Option Addr} {osl : Array (Option Value)}
theorem code_in (X : K.In s.heap) (hl : s.heap.NoLimit) (ho : K.lookup f = some ⟨oc, od, .func (ksFn name qual params body scope dV kV doc pm an cdv ct cc), osl⟩) (hcd : codeIn K cdv qual = true) (hroom : A.depth < recursionLimit)
    (hbind : BindsTo s (ksFn name qual params body scope dV kV doc pm an cdv ct cc) args binds) (hloc : ∀ y ∈ binds, scope.names.lookup y.1 = some .local)
    (h : ∀ h₁, h₁.Ns s.heap.objs.size (fun y => binds.reverse.lookup y) → (∀ b o, s.heap.get? b = some o → h₁.get? b = some o) →
      wpAny (model prog w) (A.deeper (ksEnv qual scope s.heap.objs.size f cdv cc)) (execs body (ksEnv qual scope s.heap.objs.size f cdv cc)) (fun fl s' => R (.ok (.ret (match fl with | .ret v => v | _ => .none))) s')
        (fun e s' => wpAny (model prog w) (A.deeper (ksEnv qual scope s.heap.objs.size f cdv cc)) (leaving (ksEnv qual scope s.heap.objs.size f cdv cc) e) (fun _ s'' => R (.error e) s'') (fun e' s'' => R (.error e') s'') s')
        { s with heap := h₁, toks := s.toks + binds.length })
    (hco : scope.isCoroutine = false) (hgen : scope.isGenerator = false) (hk : scope.kind = .function) (hcell : ∀ x ∈ scope.names, x.2 ≠ .cell) : codeAny (model prog w) A (.call (.ref f) args) R s :=
  codeAny_call_def (fd := ksFn name qual params body scope dV kV doc pm an cdv ct cc) (body := body) (binds := binds) hroom (X _ _ ho) rfl hl (codeRec_of X hcd) rfl hbind hcell hloc h hco hgen hk
end
section
variable {w : World} {loose : List Str} {mean : ExcName → Option Value} {mg mb : Str → Option Value} {A : Around} {Q E : Value → Shared → Prop} {s : Shared} {h : Heap} {e C : Addr} {rest : List Value} {v1 v2 : Value}
local macro_rules | `(tactic| walk_at "eval Name") => `(tactic| ((with_reducible show wpAny _ _ (eval (Expr.Name (PySem.Str.ofString "super") _) _) _ _ _); k_dflt (refine' nameX_B ?F ?X ?T ?e ?v ?n ?_ ?a ?b; (case F => k_asm); (case X => k_asm); (case T => k_asm); (case a => rfl); (case b => rfl); (case e => k_is); (case v => first | boot_fast | boot_by_name | kernel_rfl); (case n => decide); k_whole)))
theorem c_init {nm q : Str} {N : Addr} {bs bm r : List Value} {hdct : Bool} {sn : List Str} {sub : List Value} {ab : Bool} {col : Option Bool} {dd : Option Addr} {k0 k1 k2 k3 k5 : Option Value} {newId : String} {cdD : ClassData}
    (X : (hd.heap_39 w.params).In h) (T : Top hd.view_39 loose mean mg mb h) (M : Heap.MadeExcOf h s.heap e (.ref C) rest) (L1 : h.objs.size ≤ s.heap.objs.size) (hroom : A.depth < recursionLimit)
    (hC : h.get? C = some (excClassObj nm q C N bs bm hdct sn sub ab col dd k0 k1 k2 k3 k5 newId))
    (hcl : clsIn (hd.heap_39 w.params) 64 = some cdD) (hs1 : mroIn (hd.heap_39 w.params) C (.ref 64) = some true) (hs2 : mroIn (hd.heap_39 w.params) C (.type "ValueError") = some true)
    (hl : ((Value.ref C :: bm).dropWhile (· != .ref 64)).drop 1 = .type "ValueError" :: r)
    (hret : ∀ h' u tk', Heap.MadeExcOf h h' e (.ref C) [.ref u] → Q .none { s with heap := h', toks := tk' }) :
    wpAny (model PySem.Challenge.rw_ez0282_01.row.prog w) A (call (.ref 61) [.ref e, v1, v2]) Q E s := by
  revert X T M L1 hroom hC hcl hs1 hs2 hl hret
  k_fill
  intro X T M L1 hroom hC hcl hs1 hs2 hl hret
  have Xs := X.keeps M.keeps
  obtain ⟨tp, he, htn, htp⟩ := M.there
  refine wpAny_call ?_
  k_dflt (refine' code_in Xs (T.nolimit.keeps M.keeps) ?k6 ?k7 hroom ?k9 ?kB ?kN ?c2 ?c3 ?c4 ?c5; (case k6 => k_is); (case k7 => k_is); (case k9 => first | exact binds_K (by k_in) rfl (by k_is) rfl rfl rfl | exact BindsTo.of_eq rfl); (case kB => exact locs rfl); (case c2 => exact rfl); (case c3 => exact rfl); (case c4 => exact rfl); (case c5 => decide))
  intro h₁ hns hk₁
  have L0 : e < s.heap.objs.size := Heap.lt_size he
  have F1 : Fr h s.heap.objs.size h₁ _ := ⟨hns, fun b o q => hk₁ _ _ (M.keeps _ _ q), L1⟩
  have N1 : News h s.heap.objs.size h₁ [(e, { cls := .ref C, data := .fields #[.ref tp, .none, .none, .none, .bool false, .none] })] := fun p hp => by
    rw [List.mem_singleton.mp hp]
    exact ⟨hk₁ _ _ he, Nat.ne_of_lt L0, M.new⟩
  clear hns hk₁ Xs htp he
  have hne : e ≠ C := fun z => by have := M.new; rw [z, hC] at this; cases this
  dsimp only
  k_steps
  have X1 := X.keeps F1.keep
  obtain ⟨oD, hD, hDt⟩ : ∃ oD, h₁.get? 64 = some oD ∧ oD.data = .cls cdD := by
    unfold clsIn at hcl
    split at hcl
    · rename_i c d cd' sl ho
      cases hcl
      exact ⟨_, X1 _ _ ho, rfl⟩
    · cases hcl
  refine ks_wpAny_call_super hD hDt (N1 _ (.head _)).1 rfl (fun c z => by cases z) (looks_mroIn X1 hs1) (fun h2 hso k2 => ?_)
  have hC2 := k2 _ _ (F1.keep _ _ hC)
  have X2 := X1.keeps k2
  obtain ⟨F2, N2, l2⟩ := ks_newsPush (s := ⟨h₁, s.gens, s.drawn, s.toks, s.os⟩) F1 N1 rfl hso k2
  refine gm_init (N2 _ (.head _)).1 (looks_opaque X2 (by k_is)) (l₀ := .ref C :: bm) (fun A Q E s' k q => ?_) hl X2 (N2 _ (.tail _ (.head _))).1 rfl (looks_mroIn X2 hs2) hne ?_
  · obtain ⟨hp, g, d, tk, os⟩ := s'
    exact wpAny_mroOf_exc (k _ _ hC2) q
  obtain ⟨F3, N3, l3⟩ := ks_newsPush (s := ⟨h2, s.gens, s.drawn, s.toks, s.os⟩) (o := { cls := .type "method-wrapper", data := .fields #[.builtin "ValueError.__init__", .ref e] }) F2 N2 rfl (Heap.get?_push_at rfl rfl) (fun b o e => Heap.get?_push_of_some _ e)
  clear F1 N1 F2 N2 hso hD
  dsimp only
  refine callWith_mw (x := e) ?_
  k_steps
  · rename News _ _ _ _ => N4
    exact (N4 _ (.tail _ (.head _))).1
  rename_i u h4 F4 N4 l4
  refine mw_call (F4.keep _ _ hC) (N4 _ (.tail _ (.head _))).1 (N4 _ (.tail _ (.tail _ (.tail _ (.head _))))).1 (looks_mroIn (X.keeps F4.keep) hs2) (fun h5 kp hx5 ht5 => ?_)
  k_steps
  all_goals (try dsimp only)
  refine hret h5 u _ ⟨fun b o q => kp b o (fun z => by have := M.new; rw [← z, q] at this; cases this) (F4.keep b o q), M.new, _, hx5, ?_, ht5⟩
  cases z : h.get? h4.objs.size with
  | none => rfl
  | some o => exact absurd (Heap.lt_size (F4.keep _ _ z)) (Nat.lt_irrefl _)

/-- a value that a raise of the own class C takes -/
def RaisableC (C : Addr) (oC : Obj) (E : Value → Shared → Prop) (v : Value) (s₁ : Shared) : Prop :=
  ∃ e t, v = .ref e ∧ s₁.heap.get? C = some oC ∧ s₁.heap.get? e = some { cls := .ref C, data := .fields #[.ref t, .none, .none, .none, .bool false, .none] } ∧ E (.ref e) s₁

theorem Raise_own {M : Model} {env : Env} {nm q : Str} {N : Addr} {bs bm : List Value} {hdct : Bool} {sn : List Str} {sub : List Value} {ab : Bool} {col : Option Bool} {dd : Option Addr} {k0 k1 k2 k3 k5 : Option Value} {newId : String} {K : Frag} {h₀ : Heap} {x : Expr} {pos : Pos} {Q : Flow → Shared → Prop}
    (_X : K.In h₀) (hK : K.lookup C = some (excClassObj nm q C N bs bm hdct sn sub ab col dd k0 k1 k2 k3 k5 newId)) (hb : bm.contains (.type "BaseException") = true) (hh : A.handled = none)
    (h : wpAny M A (eval x env) (RaisableC C (excClassObj nm q C N bs bm hdct sn sub ab col dd k0 k1 k2 k3 k5 newId) E) E s) : wpAny M A (exec (.Raise (some x) none pos) env) Q E s := by
  show wpAny M A (do standAt pos; raiseStmt env (some (do let v ← eval x env; standAt pos; pure v)) none) Q E s
  exact wpAny_bind (wpAny_standAt (wpAny_raiseStmt_made_sub hb hh (wpAny_bind (wpAny_mono h (fun v s₁ h₁ => wpAny_bind (wpAny_standAt (wpAny_pure h₁))) fun _ _ x => x))))

theorem c_exc {nm q : Str} {N : Addr} {bs bm r : List Value} {hdct : Bool} {sn : List Str} {sub : List Value} {ab : Bool} {col : Option Bool} {dd : Option Addr} {k0 k1 k2 k3 k5 : Option Value} {newId : String} {cdD : ClassData} {h₀ : Heap} {L : Addr} {m : Str → Option Value} {Q₀ : Value → Shared → Prop}
    (F : Fr h₀ L s.heap m) (X : (hd.heap_39 w.params).In h₀) (T : Top hd.view_39 loose mean mg mb h₀)
    (hK : (hd.heap_39 w.params).lookup C = some (excClassObj nm q C N bs bm hdct sn sub ab col dd k0 k1 k2 k3 k5 newId))
    (hn : newId = "ValueError.__new__")
    (hB : bm.contains (.type "ValueError") = true) (hA : bm.contains (.type "AttributeError") = false) (hN : bm.contains (.type "NameError") = false)
    (hf : findIn (hd.heap_39 w.params) (.ref C) "__init__" = some (some (.ref 61))) (ht : typeIn (hd.heap_39 w.params) (.ref 61) = some (.type "function"))
    (hcl : clsIn (hd.heap_39 w.params) 64 = some cdD) (hs1 : mroIn (hd.heap_39 w.params) C (.ref 64) = some true) (hs2 : mroIn (hd.heap_39 w.params) C (.type "ValueError") = some true)
    (hl : ((Value.ref C :: bm).dropWhile (· != .ref 64)).drop 1 = .type "ValueError" :: r) (hroom : A.depth + 1 < recursionLimit)
    (hret : ∀ h' e u tk', Heap.MadeExcOf s.heap h' e (.ref C) [.ref u] → E (.ref e) { s with heap := h', toks := tk' }) :
    wpAny (model PySem.Challenge.rw_ez0282_01.row.prog w) A (call (.ref C) [v1, v2]) (RaisableC C (excClassObj nm q C N bs bm hdct sn sub ab col dd k0 k1 k2 k3 k5 newId) E) Q₀ s := by
  obtain ⟨hh, g, d, tk, os⟩ := s
  have Xs := X.keeps F.keep
  have hC := Xs _ _ hK
  subst hn
  refine exc_called PySem.F.excBase_ValueError Xs hC hB hA hN hf ht (fun h' e M hz => ?_)
  refine c_init (h := hh) Xs (T.keeps F.keep) M hz hroom hC hcl hs1 hs2 hl (fun h2 u tk2 M2 => ⟨rfl, ?_⟩)
  obtain ⟨t, he, _, _⟩ := M2.there
  exact ⟨e, t, rfl, M2.keeps _ _ hC, he, hret h2 e u tk2 M2⟩
end
end Mine
end
section
open PySem PySem.W PySem.Calls PyProof.Rows PySem.Spec
open Builtin Builtin.Str PySem.StrLaws
set_option Elab.async false
set_option maxRecDepth 100000
set_option maxHeartbeats 4000000
set_option linter.unusedVariables false
namespace Mine
theorem space_nat : ∀ c : Nat, c < 128 → okc (c : Int) = true → Unicode.isSpace c = isBl c := by decide +kernel
theorem tw_mem {f : Nat → Bool} {c : Nat} : ∀ {l : List Nat}, c ∈ l.takeWhile f → f c = true
  | [], h => by cases h
  | a :: r, h => by
    rw [List.takeWhile_cons] at h
    split at h
    · rename_i ha
      rcases List.mem_cons.mp h with rfl | h
      · exact ha
      · exact tw_mem h
    · cases h
theorem tw_congr {f g : Nat → Bool} : ∀ {l : List Nat}, (∀ c ∈ l, f c = g c) → l.takeWhile f = l.takeWhile g
  | [], _ => rfl
  | c :: r, h => by
    rw [List.takeWhile_cons, List.takeWhile_cons, h c (.head _), tw_congr fun k hk => h k (.tail _ hk)]
theorem okay_space {n : Nat} {x : Str} (hx : Okay n x) : ∀ c ∈ tl x, Unicode.isSpace c = isBl c := fun c hc =>
  space_nat c (hx.ascii c hc) (hx.2 _ (List.mem_map.mpr ⟨c, hc, rfl⟩))
theorem tl_lstrip {n : Nat} {x : Str} (hx : Okay n x) : tl (Txt.lstrip x) = (tl x).dropWhile isBl := by
  unfold Txt.lstrip
  rw [PyProof.Rows.stripBy_eq, tl_sub]
  have e1 : stripLo Unicode.isSpace true x = ((tl x).takeWhile isBl).length := by
    unfold stripLo
    rw [if_pos rfl]
    exact congrArg List.length (tw_congr (okay_space hx))
  rw [e1, dw_drop]
  exact List.take_of_length_le (by rw [List.length_drop, tl_len]; exact Nat.le_refl _)
theorem tl_stripBy (goes : Nat → Bool) (y : Str) : tl (Txt.stripBy goes true true y) = [] ↔ (tl y).all goes = true := by
  rw [PyProof.Rows.stripBy_eq, tl_sub]
  have e1 : stripLo goes true y = ((tl y).takeWhile goes).length := rfl
  have e2 : stripHi goes true y (stripLo goes true y) = y.length - (((tl y).drop ((tl y).takeWhile goes).length).reverse.takeWhile goes).length := rfl
  rw [e2, e1, ← dw_drop]
  have hl : ((tl y).dropWhile goes).length = y.length - ((tl y).takeWhile goes).length := by rw [dw_drop, List.length_drop, tl_len]
  cases hd : (tl y).dropWhile goes with
  | nil =>
    refine ⟨fun _ => ?_, fun _ => by simp⟩
    rw [List.all_eq_true]
    have h := List.takeWhile_append_dropWhile (p := goes) (l := tl y)
    rw [hd, List.append_nil] at h
    intro c hc
    rw [← h] at hc
    exact tw_mem hc
  | cons c r =>
    have hc : goes c = false := by
      have := List.head?_dropWhile_not goes (tl y)
      rw [hd] at this
      simpa using this
    refine ⟨fun h => ?_, fun h => ?_⟩
    · exfalso
      rw [hd] at hl
      have hR : ((c :: r).reverse.takeWhile goes).length < (c :: r).length := by
        have h1 : ((c :: r).reverse.takeWhile goes).length ≤ (c :: r).reverse.length := (List.takeWhile_sublist _).length_le
        rw [List.length_reverse] at h1
        rcases Nat.lt_or_eq_of_le h1 with h2 | h2
        · exact h2
        · exfalso
          have h3 : (c :: r).reverse.takeWhile goes = (c :: r).reverse := (List.takeWhile_sublist _).eq_of_length (by rw [h2, List.length_reverse])
          have h4 : c ∈ (c :: r).reverse.takeWhile goes := by rw [h3]; simp
          rw [tw_mem h4] at hc
          cases hc
      have h5 := congrArg List.length h
      rw [List.length_take, List.length_nil] at h5
      omega
    · exfalso
      have : c ∈ tl y := by
        have := List.dropWhile_sublist (p := goes) (l := tl y)
        rw [hd] at this
        exact this.subset (.head _)
      rw [List.all_eq_true.mp h c this] at hc
      cases hc
theorem HEX_cps : Str.ofString "0123456789ABCDEFabcdef" = ⟨#[48, 49, 50, 51, 52, 53, 54, 55, 56, 57, 65, 66, 67, 68, 69, 70, 97, 98, 99, 100, 101, 102]⟩ := by decide +kernel
theorem hex_goes (c : Nat) : (Str.ofString "0123456789ABCDEFabcdef").cps.contains c = hexOk c := by
  rw [HEX_cps]
  by_cases h : c < 128
  · exact (show ∀ c : Nat, c < 128 → (#[48, 49, 50, 51, 52, 53, 54, 55, 56, 57, 65, 66, 67, 68, 69, 70, 97, 98, 99, 100, 101, 102] : Array Nat).contains c = hexOk c by decide +kernel) c h
  · have h1 : hexOk c = false := by
      simp only [hexOk, Bool.or_eq_false_iff, Bool.and_eq_false_iff, decide_eq_false_iff_not]
      omega
    rw [h1]
    simp
    omega
theorem strip_hex (y : Str) : tl (Txt.stripChars y (Str.ofString "0123456789ABCDEFabcdef")) = [] ↔ (tl y).all hexOk = true := by
  unfold Txt.stripChars
  rw [tl_stripBy]
  have e : ((Str.ofString "0123456789ABCDEFabcdef").cps.contains) = hexOk := funext hex_goes
  rw [e]
theorem strip_bl {n : Nat} {y : Str} (hy : Okay n y) : tl (Txt.strip y) = [] ↔ (tl y).all isBl = true := by
  unfold Txt.strip
  rw [tl_stripBy, List.all_eq_true, List.all_eq_true]
  exact ⟨fun h c hc => (okay_space hy c hc) ▸ h c hc, fun h c hc => (okay_space hy c hc).symm ▸ h c hc⟩
/-- the first two statements of parse -/
theorem first_yes {n : Nat} {x : Str} (hx : Okay n x) (h : (Txt.slice (Txt.partition (Txt.lstrip x) (Str.ofString "*")).1 none (some (1 : Int)) == Str.ofString "$") = true) :
    tl (Txt.slice (Txt.partition (Txt.lstrip x) (Str.ofString "*")).1 (some (1 : Int)) none) = bodyL (tl x) ∧
    tl (Txt.partition (Txt.lstrip x) (Str.ofString "*")).2.1 = (if starL (tl x) = [] then [] else [42]) ∧ tl (Txt.partition (Txt.lstrip x) (Str.ofString "*")).2.2 = (starL (tl x)).drop 1 := by
  obtain ⟨p1, p2, p3⟩ := part_one (Txt.lstrip x) 42
  rw [star_cps] at h ⊢
  have h1 : (tl (Txt.partition (Txt.lstrip x) ⟨#[42]⟩).1).take 1 = [36] := by
    rw [tl_beq, beq_iff_eq, show (1 : Int) = ((1 : Nat) : Int) from rfl, slice_to, tl_dollar] at h
    exact h
  rw [show (1 : Int) = ((1 : Nat) : Int) from rfl, slice_from, p2, p3]
  rw [p1] at h1 ⊢
  rw [tl_lstrip hx] at h1 ⊢
  unfold bodyL starL openL
  cases hd : (tl x).dropWhile isBl with
  | nil => rw [hd] at h1; simp at h1
  | cons c r =>
    rw [hd] at h1
    have hc : c = 36 := by
      rw [List.takeWhile_cons] at h1
      split at h1
      · simpa using h1
      · simp at h1
    subst hc
    simp
theorem first_no {n : Nat} {x : Str} (hx : Okay n x) (h : (Txt.slice (Txt.partition (Txt.lstrip x) (Str.ofString "*")).1 none (some (1 : Int)) == Str.ofString "$") = false) :
    tl (Txt.partition (Txt.lstrip x) (Str.ofString "*")).1 = bodyL (tl x) ∧
    tl (Txt.partition (Txt.lstrip x) (Str.ofString "*")).2.1 = (if starL (tl x) = [] then [] else [42]) ∧ tl (Txt.partition (Txt.lstrip x) (Str.ofString "*")).2.2 = (starL (tl x)).drop 1 := by
  obtain ⟨p1, p2, p3⟩ := part_one (Txt.lstrip x) 42
  rw [star_cps] at h ⊢
  have h1 : (tl (Txt.partition (Txt.lstrip x) ⟨#[42]⟩).1).take 1 ≠ [36] := by
    rw [tl_beq, beq_eq_false_iff_ne, show (1 : Int) = ((1 : Nat) : Int) from rfl, slice_to, tl_dollar] at h
    exact h
  rw [p2, p3]
  rw [p1] at h1 ⊢
  rw [tl_lstrip hx] at h1 ⊢
  unfold bodyL starL openL
  cases hd : (tl x).dropWhile isBl with
  | nil => simp
  | cons c r =>
    rw [hd] at h1
    have hc : c ≠ 36 := by
      rintro rfl
      simp at h1
    simp only [if_neg hc]
    simp
theorem wl1 (bd : Str) : wordlikeF (Txt.slice bd (some (1 : Int)) (some (4 : Int))) (3 : Int) = wordsF (Txt.slice bd (some (1 : Int)) none) (3 : Int) := (wordlike_L bd 1 4 (by decide)).trans (c1_w bd).symm
theorem wl2 (bd : Str) : wordlikeF (Txt.slice bd (some (6 : Int)) (some (9 : Int))) (3 : Int) = wordsF (Txt.slice bd (some (6 : Int)) none) (3 : Int) := (wordlike_L bd 6 9 (by decide)).trans (c2_w bd).symm
theorem wl3 (bd : Str) : wordlikeF (Txt.slice bd none (some (4 : Int))) (4 : Int) = wordsF bd (4 : Int) := (wordlike_L0 bd 4 (by decide)).trans (c2_w0 bd).symm
theorem wl4 (bd : Str) : wordlikeF (Txt.slice bd none (some (5 : Int))) (5 : Int) = wordsF bd (5 : Int) := (wordlike_L0 bd 5 (by decide)).trans (c3_w0 bd).symm
theorem len0 {y : Str} : ((y.length : Nat) : Int) = 0 ↔ tl y = [] := by
  rw [← tl_len, ← List.length_eq_zero_iff]; omega
theorem size_no {b : List Nat} {k : Bool} (h : (((sizeL b).getD 0 : Nat) : Int) = 0) : true = !((sizeL b).isSome && k) := by
  cases hz : sizeL b with
  | none => rfl
  | some z =>
    rw [hz] at h
    rcases sizeL_cases hz with rfl | rfl | rfl <;> cases h
theorem size_is {b : List Nat} (h : (((sizeL b).getD 0 : Nat) : Int) ≠ 0) : (sizeL b).isSome = true := by
  cases hz : sizeL b with
  | none => rw [hz] at h; exact absurd rfl h
  | some z => rfl
theorem starOk_of {l : List Nat} (h : ¬ starL l = []) : starOk l = tailOk ((starL l).drop 1) := by
  unfold starOk
  cases hs : starL l with
  | nil => exact absurd hs h
  | cons c t => rfl
theorem star_is {l : List Nat} {st : Str} (hst : tl st = (if starL l = [] then [] else [42])) (h : ((st.length : Nat) : Int) ≠ 0) : ¬ starL l = [] := by
  intro h1
  rw [if_pos h1] at hst
  exact h (len0.mpr hst)
theorem star_not {l : List Nat} {st : Str} {b : List Nat} (hst : tl st = (if starL l = [] then [] else [42])) (hz : (((sizeL b).getD 0 : Nat) : Int) ≠ 0) (h : ((st.length : Nat) : Int) = 0) : false = !((sizeL b).isSome && starOk l) := by
  have h1 : starL l = [] := by
    by_cases h1 : starL l = []
    · exact h1
    · rw [if_neg h1] at hst
      have := len0.mp h
      rw [hst] at this
      cases this
  rw [size_is hz]
  unfold starOk
  rw [h1]
  rfl
theorem raise_of {l b : List Nat} {st ta : Str} (hst : tl st = (if starL l = [] then [] else [42])) (hta : tl ta = (starL l).drop 1) (h : ((st.length : Nat) : Int) ≠ 0) (ht : tailOk (tl ta) = false) : true = !((sizeL b).isSome && starOk l) := by
  rw [starOk_of (star_is hst h), ← hta, ht, Bool.and_false]; rfl
theorem pass_of {l b : List Nat} {st ta : Str} (hst : tl st = (if starL l = [] then [] else [42])) (hta : tl ta = (starL l).drop 1) (hz : (((sizeL b).getD 0 : Nat) : Int) ≠ 0) (h : ((st.length : Nat) : Int) ≠ 0) (ht : tailOk (tl ta) = true) : false = !((sizeL b).isSome && starOk l) := by
  rw [starOk_of (star_is hst h), ← hta, ht, size_is hz]; rfl
theorem tail_cs {ta : Str} (h : (1 : Int) < ((ta.length : Nat) : Int)) : ∃ a b r, tl ta = a :: b :: r := tail_two (by omega)
theorem tail_s {ta : Str} (h : ¬ (1 : Int) < ((ta.length : Nat) : Int)) : tailOk (tl ta) = false := tail_short (by omega)
theorem sl2 {ta : Str} {a b : Nat} {r : List Nat} (e : tl ta = a :: b :: r) : tl (Txt.slice ta none (some (2 : Int))) = [a, b] := by
  rw [show (2 : Int) = ((2 : Nat) : Int) from rfl, slice_to, e]; rfl
theorem sl2r {ta : Str} {a b : Nat} {r : List Nat} (e : tl ta = a :: b :: r) : tl (Txt.slice ta (some (2 : Int)) none) = r := by
  rw [show (2 : Int) = ((2 : Nat) : Int) from rfl, slice_from, e]; rfl
theorem tail_h {ta : Str} (h : (1 : Int) < ((ta.length : Nat) : Int)) (h2 : ((Txt.stripChars (Txt.slice ta none (some (2 : Int))) (Str.ofString "0123456789ABCDEFabcdef")).length : Int) ≠ 0) : tailOk (tl ta) = false := by
  obtain ⟨a, b, r, e⟩ := tail_cs h
  have h3 : ¬ ((tl (Txt.slice ta none (some (2 : Int)))).all hexOk = true) := fun z => h2 (len0.mpr ((strip_hex _).mpr z))
  rw [sl2 e] at h3
  rw [e]
  simp only [List.all_cons, List.all_nil, Bool.and_true] at h3
  simp only [tailOk]
  rw [Bool.not_eq_true] at h3
  rw [h3, Bool.false_and]
theorem tail_b {n : Nat} {ta : Str} (ht : Okay n ta) (h : (1 : Int) < ((ta.length : Nat) : Int)) (h2 : ((Txt.strip (Txt.slice ta (some (2 : Int)) none)).length : Int) ≠ 0) : tailOk (tl ta) = false := by
  obtain ⟨a, b, r, e⟩ := tail_cs h
  have h3 : ¬ ((tl (Txt.slice ta (some (2 : Int)) none)).all isBl = true) := fun z => h2 (len0.mpr ((strip_bl (ht.slice_from 2)).mpr z))
  rw [sl2r e] at h3
  rw [e]
  simp only [tailOk]
  rw [Bool.not_eq_true] at h3
  rw [h3, Bool.and_false]
theorem tail_g {n : Nat} {ta : Str} (ht : Okay n ta) (h : (1 : Int) < ((ta.length : Nat) : Int)) (h1 : ((Txt.stripChars (Txt.slice ta none (some (2 : Int))) (Str.ofString "0123456789ABCDEFabcdef")).length : Int) = 0)
    (h2 : ((Txt.strip (Txt.slice ta (some (2 : Int)) none)).length : Int) = 0) : tailOk (tl ta) = true := by
  obtain ⟨a, b, r, e⟩ := tail_cs h
  have h3 := (strip_hex _).mp (len0.mp h1)
  have h4 : (tl (Txt.slice ta (some (2 : Int)) none)).all isBl = true := (strip_bl (ht.slice_from 2)).mp (len0.mp h2)
  rw [sl2 e] at h3
  rw [sl2r e] at h4
  rw [e]
  simp only [List.all_cons, List.all_nil, Bool.and_true] at h3
  simp only [tailOk]
  rw [h3, h4]; rfl
theorem due_raise {l : List Nat} {s w : Bool} (h : true = !((sizeL (bodyL l)).isSome && starOk l)) : dueD l s w = .list [dS "no sentence"] := by
  unfold dueD
  cases h1 : starOk l with
  | false => rfl
  | true =>
    rw [h1, Bool.and_true] at h
    cases h2 : sizeL (bodyL l) with
    | none => rfl
    | some z => rw [h2] at h; cases h
theorem due_goes {l : List Nat} (h : false = !((sizeL (bodyL l)).isSome && starOk l)) : starOk l = true ∧ ∃ z, sizeL (bodyL l) = some z := by
  cases h1 : starOk l with
  | false => rw [h1, Bool.and_false] at h; cases h
  | true =>
    cases h2 : sizeL (bodyL l) with
    | none => rw [h2] at h; cases h
    | some z => exact ⟨rfl, z, rfl⟩
theorem newsX {h₀ h : Heap} {L : Addr} {a b : Addr × Obj} {l : List (Addr × Obj)} (N : News h₀ L h (a :: b :: l)) : News h₀ L h (a :: l) := fun p hp => by
  rcases List.mem_cons.mp hp with rfl | hp
  · exact N _ (.head _)
  · exact N _ (.tail _ (.tail _ hp))
theorem comma_cps : Str.ofString "," = ⟨#[44]⟩ := by decide +kernel
theorem dat_strs : ∀ (l : List (Str × Tok)), DatAll [] (strValues l) (((l.map fun x => x.1).map tl).map dL)
  | [] => .nil
  | (y, t) :: r => by
    have h : dL (tl y) = Dat.str y := dL_of rfl
    show DatAll [] (.str y t :: strValues r) (dL (tl y) :: ((r.map fun x => x.1).map tl).map dL)
    rw [h]
    exact .cons (.str _ _) (dat_strs r)
theorem dat_split {l : List (Str × Tok)} {D : Str} {b : List Nat} (h : (l.map fun x => x.1) = Txt.split D (Str.ofString ",")) (hD : tl D = b) : DatAll [] (strValues l) ((partsL b).map dL) := by
  have := dat_strs l
  rw [h, comma_cps, split_parts, hD] at this
  exact this
theorem words_len {b : List Nat} {n : Nat} (h : wordsL b n = true) : n ≤ b.length := by
  unfold wordsL at h
  simp only [Bool.and_eq_true, decide_eq_true_eq] at h
  exact h.1
theorem size_len {b : List Nat} {z : Nat} (h : sizeL b = some z) : z ≤ b.length := by
  rw [sizeL_eq] at h
  split at h
  · rename_i h1
    cases h
    unfold c1L at h1
    simp only [Bool.and_eq_true] at h1
    have := words_len h1.2
    rw [List.length_drop] at this
    omega
  · split at h
    · rename_i h1
      cases h
      unfold c2L at h1
      simp only [Bool.and_eq_true] at h1
      have := words_len h1.2
      rw [List.length_drop] at this
      omega
    · split at h
      · rename_i h1
        cases h
        unfold c3L at h1
        simp only [Bool.and_eq_true, beq_iff_eq] at h1
        have := congrArg List.length h1.2
        rw [List.length_take, List.length_drop] at this
        simp only [List.length_cons, List.length_nil] at this
        omega
      · cases h
end Mine
end
section
open PySem PySem.W PySem.Calls PyProof.Rows PySem.Spec
set_option Elab.async false
set_option maxRecDepth 100000
set_option maxHeartbeats 4000000
set_option linter.unusedVariables false
namespace Mine
theorem s5_eq (S : Str) : (Txt.slice S (some (5 : Int)) none == Str.ofString ",") = ((tl S).drop 5 == [44]) := by
  rw [tl_beq, show (5 : Int) = ((5 : Nat) : Int) from rfl, slice_from, comma_cps]; rfl
theorem s46_eq (S : Str) : (Txt.slice S (some (4 : Int)) (some (6 : Int)) == Str.ofString "Q,") = (((tl S).drop 4).take 2 == [81, 44]) := by
  rw [tl_beq, show tl (Txt.slice S (some (4 : Int)) (some (6 : Int))) = ((tl S).drop 4).take (6 - 4) from slice_mid S (by decide), show tl (Str.ofString "Q,") = [81, 44] by decide +kernel]
theorem szS {S : Str} {b : List Nat} {z : Nat} (hS : tl S = (b.take z).map up1) (hz : z ≤ b.length) : S.length = z := by
  rw [← tl_len, hS, List.length_map, List.length_take]; omega
theorem s5_no {S : Str} {b : List Nat} {z : Nat} (hS : tl S = (b.take z).map up1) (hz : z ≤ b.length) (h : z ≠ 6) : (Txt.slice S (some (5 : Int)) none == Str.ofString ",") = false := by
  rw [s5_eq, beq_eq_false_iff_ne]
  intro e
  have := congrArg List.length e
  rw [List.length_drop, tl_len, szS hS hz] at this
  simp only [List.length_cons, List.length_nil] at this
  omega
theorem s46_no {S : Str} {b : List Nat} (hS : tl S = (b.take 4).map up1) (hz : 4 ≤ b.length) : (Txt.slice S (some (4 : Int)) (some (6 : Int)) == Str.ofString "Q,") = false := by
  rw [s46_eq, beq_eq_false_iff_ne]
  intro e
  have := congrArg List.length e
  rw [List.length_take, List.length_drop, tl_len, szS hS hz] at this
  simp at this
theorem s5_yes {S : Str} {b : List Nat} (hS : tl S = (b.take 6).map up1) (h : sizeL b = some 6) : (Txt.slice S (some (5 : Int)) none == Str.ofString ",") = true := by
  rw [s5_eq, hS, beq_iff_eq, ← List.map_drop, List.drop_take]
  rw [sizeL_eq] at h
  split at h
  · cases h
  · split at h
    · cases h
    · split at h
      · rename_i h3
        unfold c3L at h3
        simp only [Bool.and_eq_true, beq_iff_eq] at h3
        rw [show 6 - 5 = 1 from rfl, h3.2]
        decide
      · cases h
theorem s46_yes {S : Str} {b : List Nat} (hS : tl S = (b.take 9).map up1) (h : sizeL b = some 9) : (Txt.slice S (some (4 : Int)) (some (6 : Int)) == Str.ofString "Q,") = true := by
  rw [s46_eq, hS, beq_iff_eq, ← List.map_drop, ← List.map_take, List.drop_take, List.take_take]
  rw [sizeL_eq] at h
  split at h
  · cases h
  · split at h
    · rename_i h3
      unfold c2L at h3
      simp only [Bool.and_eq_true, Bool.or_eq_true, beq_iff_eq] at h3
      rw [show min 2 (9 - 4) = 2 from rfl]
      rcases h3.1.2 with e | e <;> rw [e] <;> decide
    · split at h <;> cases h
end Mine
end
section
open PySem PySem.W PySem.Calls PyProof.Rows PySem.NumText
set_option Elab.async false
set_option maxRecDepth 100000
set_option maxHeartbeats 4000000
set_option linter.unusedVariables false
namespace Mine
def hexL : List Nat := [48, 49, 50, 51, 52, 53, 54, 55, 56, 57, 65, 66, 67, 68, 69, 70, 97, 98, 99, 100, 101, 102]
theorem hexL_mem {c : Nat} (h : hexOk c = true) : c ∈ hexL := by
  by_cases hc : c < 128
  · exact (show ∀ c : Nat, c < 128 → hexOk c = true → c ∈ hexL by decide +kernel) c hc h
  · exfalso
    simp only [hexOk, Bool.or_eq_true, Bool.and_eq_true, decide_eq_true_eq] at h
    omega
theorem hex_parts : ∀ a ∈ hexL, ∀ b ∈ hexL, (NumText.sign ([a, b].dropWhile blank)).1 = false ∧ (based 16 (NumText.sign ([a, b].dropWhile blank)).2).1 = 16 ∧ (based 16 (NumText.sign ([a, b].dropWhile blank)).2).2.1 = false ∧
    digits? 16 (((based 16 (NumText.sign ([a, b].dropWhile blank)).2).2.2.reverse.dropWhile blank).reverse) = some #[hexV a, hexV b] := by decide +kernel
theorem read_hex {a b : Nat} (ha : hexOk a = true) (hb : hexOk b = true) : (int_private% "readNumeral") 0 16 [a, b] = (int_private% "Numeral.value") ((16 * hexV a + hexV b : Nat) : Int) := by
  obtain ⟨h1, h2, h3, h4⟩ := hex_parts a (hexL_mem ha) b (hexL_mem hb)
  rw [readNumeral_eq, h1, h3]
  rw [h2, h4]
  have e : (0 * 16 + hexV a) * 16 + hexV b = 16 * hexV a + hexV b := by omega
  show (int_private% "Numeral.value") (((0 * 16 + hexV a) * 16 + hexV b : Nat) : Int) = _
  rw [e]
theorem wp_hex {M : Model} {A : Around} {E : Value → Shared → Prop} {s : Shared} {Q : Value → Shared → Prop} {v : Value} {text : List Nat} {n : Int}
    (hs : (text.takeWhile (· != 0)).length ≤ 640) (hr : (int_private% "readNumeral") 0 16 (text.takeWhile (· != 0)) = (int_private% "Numeral.value") n)
    (ha : ((text.takeWhile (· != 0)).length == text.length) = true) (h : Q (.int n s.toks) { s with toks := s.toks + 1 }) :
    wpAny M A ((int_private% "intFromText") v text 16) Q E s := by
  obtain ⟨hp, g, d, tk, os⟩ := s
  repeat (any_goals (first
    | assumption
    | (with_reducible refine wpAny_ite_true (decide_eq_true hs) ?_)
    | (with_reducible refine wpAny_ite_true (decide_eq_true ha) ?_)
    | wp_step))
  all_goals (try rw [hr])
  all_goals (try dsimp only)
  repeat (any_goals (first
    | assumption
    | (with_reducible refine wpAny_ite_true (decide_eq_true hs) ?_)
    | (with_reducible refine wpAny_ite_true (decide_eq_true ha) ?_)
    | wp_step))
theorem gives_hex {a b : Nat} {u u2 : Tok} (ha : hexOk a = true) (hb : hexOk b = true) : Gives (Builtin.«int.__new__» ⟨[.type "int", .str ⟨#[a, b]⟩ u, .int 16 u2], []⟩) (.int ((16 * hexV a + hexV b : Nat) : Int)) :=
  .of_wp fun M A E s Q h => by
    obtain ⟨hp, g, d, tk, os⟩ := s
    have f1 := F.conv_sub_int
    have f2 := F.madeHere_int
    have f6 : typeOf (.str ⟨#[a, b]⟩ u) = pure (.type "str") := rfl
    have lo : ∀ c, hexOk c = true → c < 128 ∧ (c != 0) = true := fun c hc => (show ∀ c ∈ hexL, c < 128 ∧ (c != 0) = true by decide +kernel) c (hexL_mem hc)
    have e0 : (#[a, b] : Array Nat).all (· < 128) = true := by
      rw [Array.all_eq_true_iff_forall_mem]
      intro c hc
      have : c = a ∨ c = b := by simpa using hc
      rcases this with rfl | rfl
      · exact decide_eq_true (lo _ ha).1
      · exact decide_eq_true (lo _ hb).1
    have e1 : [a, b].takeWhile (· != 0) = [a, b] := by simp [(lo a ha).2, (lo b hb).2]
    have hk := W.KIN.Hid.mk (And.intro (show ([a, b].takeWhile (· != 0)).length ≤ 640 by rw [e1]; exact Nat.le_of_ble_eq_true rfl) (And.intro (show (int_private% "readNumeral") 0 16 ([a, b].takeWhile (· != 0)) = (int_private% "Numeral.value") ((16 * hexV a + hexV b : Nat) : Int) by rw [e1]; exact read_hex ha hb) (show (([a, b].takeWhile (· != 0)).length == [a, b].length) = true by rw [e1]; rfl)))
    clear e1
    repeat (any_goals (first
      | assumption
      | ((with_reducible show wpAny _ _ ((int_private% "intFromText") _ _ _) _ _ _); refine wp_hex hk.out.1 hk.out.2.1 hk.out.2.2 ?_)
      | (with_reducible refine wpAny_ite_true e0 ?_)
      | (simp only [e0, if_true])
      | wp_step))
    all_goals first | exact ⟨_, rfl, h⟩ | trace_state
namespace FI
theorem typeCall_int_2 (a b : Value) : checkTypeCall "int" ⟨[a, b], []⟩ = pure () := by kernel_rfl
theorem newCall_int_2 (a b : Value) : checkBuiltinCall "int.__new__" ⟨[.type "int", a, b], []⟩ = pure () := by kernel_rfl
theorem args_init_3 (o a b : Value) : argsOk "object.__init__" ⟨[o, a, b], []⟩ := by unfold argsOk; kernel_rfl
end FI
section
variable {prog : Program} {w : World} {A : Around} {E : Value → Shared → Prop} {s : Shared} {Q : Value → Shared → Prop}
theorem call_hex {C : Str} {l : List Nat} {u u2 : Tok} (hC : tl C = l.take 2) (ht : tailOk l = true) (h : Q (.int (tailV l : Int) s.toks) { s with toks := s.toks + 1 }) :
    wpAny (model prog w) A (call (.type "int") [.str C u, .int 16 u2]) Q E s := by
  match l, ht, hC, h with
  | a :: b :: r, ht, hC, h =>
    simp only [tailOk, Bool.and_eq_true] at ht
    have e : C = ⟨#[a, b]⟩ := tl_inj hC
    subst e
    exact callType_new F.called_int F.newNe_int (FI.typeCall_int_2 _ _) (FI.newCall_int_2 _ _) (fun obj => FI.args_init_3 obj _ _) F.entry_int_new (gives_hex ht.1.1 ht.1.2).meets (show (Made.int ((16 * hexV a + hexV b : Nat) : Int)).post _ s from ⟨rfl, h⟩)
  | [], ht, _, _ => exact Bool.noConfusion ht
  | [_], ht, _, _ => exact Bool.noConfusion ht
end
end Mine
end
section
open PySem PySem.W PySem.Calls PyProof.Rows
open Builtin Builtin.Str
set_option Elab.async false
set_option maxRecDepth 100000
set_option maxHeartbeats 4000000
set_option linter.unusedVariables false
namespace Mine
def PX : Percent := { zero := true, width := some 2, type := 88 }
def txX (n : Nat) : List Nat := percentInt PX (decide ((n : Int) < 0)) ((Nat.toDigits 16 n).map Char.toNat)
theorem txX_all : ∀ n : Nat, n < 256 → (percentInt PX false ((Nat.toDigits 16 n).map Char.toNat)).length ≤ 2 ∧ ((percentField PX true (percentInt PX false ((Nat.toDigits 16 n).map Char.toNat))).all fun l => decide (l.length ≤ 2)) = true := by decide +kernel
theorem txX_len {n : Nat} (h : n < 256) : (txX n).length ≤ 2 ∧ ∀ laid, percentField PX true (txX n) = some laid → laid.length ≤ 2 := by
  have e : txX n = percentInt PX false ((Nat.toDigits 16 n).map Char.toNat) := by
    unfold txX
    rw [decide_eq_false (by omega)]
  rw [e]
  refine ⟨(txX_all n h).1, fun laid hl => ?_⟩
  have := (txX_all n h).2
  rw [hl] at this
  exact of_decide_eq_true this
theorem after_len {M : Model} {A : Around} {E : Value → Shared → Prop} {s : Shared} {l : List Nat} {p : List Value} {r : List Nat} {f : Nat → List Value × Writer × List Nat → Sem (ForInStep (List Value × Writer × List Nat))} {Q : List Value × Writer × List Nat → Shared → Prop}
    {w : Writer} {T : PySem.Str} {N : Nat} {o : Option Value} {z : List Nat} (g : KPc.Good w T N) (hz : z.length ≤ 2) (ho : o = none) (h : ∀ T' w', KPc.Good w' T' (N + 2) → wpAny M A (forIn l (p, w', r) f) Q E s) : wpAny M A (forIn l (p, w.add ⟨z.toArray⟩ o, r) f) Q E s :=
  KPc.after_str (y := ⟨z.toArray⟩) g (by simpa [Str.length] using hz) (KPc.obj_none ho) fun w' g' => h _ w' g'
section
variable {prog : Program} {w : World} {A : Around} {E : Value → Shared → Prop} {s : Shared} {t : Tok} {Q : Value → Shared → Prop} {b L : Addr} {n1 n2 : Int} {u1 u2 : Tok} {h₀ : Heap} {news : List (Addr × Obj)}
theorem pct_two (N : News h₀ L s.heap news) (hb : (b, ({ cls := .type "tuple", data := .seq #[.int n1 u1, .int n2 u2] 0 } : Obj)) ∈ news) (h1 : 0 ≤ n1) (h2 : n1 < 256) (h3 : 0 ≤ n2) (h4 : n2 < 256)
    (h : ∀ T t' k, Q (.str T t') { s with toks := k }) : wpAny (model prog w) A (binaryOp .Mod (.str (Str.ofString "checksum does not match: %02X != %02X") t) (.ref b)) Q E s := by
  obtain ⟨n1, rfl⟩ := Int.eq_ofNat_of_zero_le h1
  obtain ⟨n2, rfl⟩ := Int.eq_ofNat_of_zero_le h3
  have ht : IsTup s.heap b #[.int n1 u1, .int n2 u2] := N.isTup hb
  obtain ⟨kptO, kptG, kptC, kptN, kptD⟩ := ht
  have hT : s.TypeIs (.ref b) "tuple" := ⟨kptO, kptG, kptC⟩
  refine KPt.bin_left (T := "str") (U := "tuple") (op := .Mod) (by decide) (typeIs_str s _ t) hT F.fills_str_mod KPt.fills_tuple F.slot_str_mod ?_
  refine wpAny_call_entry F.slot_str_mod (typeIs_str s _ t) F.entry_str_mod ?_ (F.args_str_mod_2 _ _)
  rw [show Str.ofString "checksum does not match: %02X != %02X" = ⟨#[99, 104, 101, 99, 107, 115, 117, 109, 32, 100, 111, 101, 115, 32, 110, 111, 116, 32, 109, 97, 116, 99, 104, 58, 32, 37, 48, 50, 88, 32, 33, 61, 32, 37, 48, 50, 88]⟩ by decide +kernel]
  rw [KPt.entry_is_r]
  unfold Builtin.Str.percentFormat
  refine wpAny_bind (wpAny_isInstance (T := "tuple") ⟨kptO, kptG, kptC⟩ KPt.sub_tt ?_)
  refine wpAny_bind (KPt.asStr_ref kptG kptD ?_)
  refine wpAny_bind (KPt.fills_ref ⟨kptO, kptG, kptC⟩ ?_)
  intro _
  kpc_if
  refine wpAny_bind (wpAny_seqItems kptG kptD ?_)
  refine wpAny_bind (wpAny_pure ?_)
  refine wpAny_bind ?_
  rw [KPc.range_list]
  refine KPc.start ?_
  intro _ _
  refine KPc.turn ?_; kpc_check; (repeat kpc_if)
  refine wpAny_pure ?_; kpt_piece
  refine KPc.turn ?_; kpc_check; (repeat kpc_if)
  refine wpAny_bind ?_; refine wpAny_holding ?_; (repeat kpc_if)
  refine wpAny_bind (wpAny_of_eq (a := _) rfl ?_)
  (repeat kpc_if)
  refine wpAny_bind ?_
  (repeat kpc_if)
  refine wpAny_pure ?_
  refine wpAny_pure ?_
  dsimp only
  split
  · rename_i hq1
    refine wpAny_pure ?_
    refine after_len (z := txX n1) (by kpc_g) (txX_len (by omega)).1 (by first | rfl | exact ite_self _) ?_
    intro T1 w1 g1
    refine KPc.turn ?_; kpc_check; (repeat kpc_if)
    refine wpAny_pure ?_; refine KPc.after_add (y := Str.ofString " != ") g1 (by dsimp only; decide +kernel) (KPc.obj_none (by dsimp only; exact if_neg (by decide +kernel))) ?_; intro _ _
    refine KPc.turn ?_; kpc_check; (repeat kpc_if)
    refine wpAny_bind ?_; refine wpAny_holding ?_; (repeat kpc_if)
    refine wpAny_bind (wpAny_of_eq (a := _) rfl ?_)
    (repeat kpc_if)
    refine wpAny_bind ?_
    (repeat kpc_if)
    refine wpAny_pure ?_
    refine wpAny_pure ?_
    dsimp only
    split
    · rename_i hq2
      refine wpAny_pure ?_
      refine after_len (z := txX n2) (by kpc_g) (txX_len (by omega)).1 (by first | rfl | exact ite_self _) ?_
      intro T2 w2 g2
      refine KPc.turn ?_; kpc_check; (repeat kpc_if)
      refine wpAny_pure ?_; kpc_if
      refine KPc.finish_ok g2 (by decide +kernel) rfl ?_
      intro t9 k9
      exact ⟨_, rfl, nofun, h _ _ _⟩
    · rename_i hq2
      refine wpAny_pure ?_
      refine after_len (by kpc_g) ((txX_len (n := n2) (by omega)).2 _ hq2) (by first | rfl | exact ite_self _) ?_
      intro T2 w2 g2
      refine KPc.turn ?_; kpc_check; (repeat kpc_if)
      refine wpAny_pure ?_; kpc_if
      refine KPc.finish_ok g2 (by decide +kernel) rfl ?_
      intro t9 k9
      exact ⟨_, rfl, nofun, h _ _ _⟩
  · rename_i hq1
    refine wpAny_pure ?_
    refine after_len (by kpc_g) ((txX_len (n := n1) (by omega)).2 _ hq1) (by first | rfl | exact ite_self _) ?_
    intro T1 w1 g1
    refine KPc.turn ?_; kpc_check; (repeat kpc_if)
    refine wpAny_pure ?_; refine KPc.after_add (y := Str.ofString " != ") g1 (by dsimp only; decide +kernel) (KPc.obj_none (by dsimp only; exact if_neg (by decide +kernel))) ?_; intro _ _
    refine KPc.turn ?_; kpc_check; (repeat kpc_if)
    refine wpAny_bind ?_; refine wpAny_holding ?_; (repeat kpc_if)
    refine wpAny_bind (wpAny_of_eq (a := _) rfl ?_)
    (repeat kpc_if)
    refine wpAny_bind ?_
    (repeat kpc_if)
    refine wpAny_pure ?_
    refine wpAny_pure ?_
    dsimp only
    split
    · rename_i hq2
      refine wpAny_pure ?_
      refine after_len (z := txX n2) (by kpc_g) (txX_len (by omega)).1 (by first | rfl | exact ite_self _) ?_
      intro T2 w2 g2
      refine KPc.turn ?_; kpc_check; (repeat kpc_if)
      refine wpAny_pure ?_; kpc_if
      refine KPc.finish_ok g2 (by decide +kernel) rfl ?_
      intro t9 k9
      exact ⟨_, rfl, nofun, h _ _ _⟩
    · rename_i hq2
      refine wpAny_pure ?_
      refine after_len (by kpc_g) ((txX_len (n := n2) (by omega)).2 _ hq2) (by first | rfl | exact ite_self _) ?_
      intro T2 w2 g2
      refine KPc.turn ?_; kpc_check; (repeat kpc_if)
      refine wpAny_pure ?_; kpc_if
      refine KPc.finish_ok g2 (by decide +kernel) rfl ?_
      intro t9 k9
      exact ⟨_, rfl, nofun, h _ _ _⟩
end
end Mine
end
section
open PySem PySem.W PySem.Calls PyProof.Rows PySem.Spec
set_option Elab.async false
set_option maxRecDepth 100000
set_option maxHeartbeats 2000000
set_option linter.unusedVariables false
namespace Mine
section
variable {prog : Program} {w : World} {A : Around} {E : Value → Shared → Prop} {s : Shared} {d L : Addr} {o : Obj} {kvs : List (Str × Value)} {y : Str} {t : Tok} {h₀ : Heap} {news : List (Addr × Obj)}
theorem get_any {Q : Value → Shared → Prop} (N : News h₀ L s.heap news) (hm : (d, o) ∈ news) (hd : o.IsDictOf (PySem.strKind prog w) kvs) (hsm : (d == sysModules) = false)
    (h : Q ((valueAt kvs y).getD .none) { s with toks := s.toks + 1 }) : wpAny (model prog w) A (call (.builtin "dict.get") [.ref d, .str y t]) Q E s := by
  have hD : s.heap.DictOf (PySem.strKind prog w) d kvs := Heap.dictOf_iff.mpr ⟨o, (N _ hm).1, hd⟩
  exact call_meetsIn PySem.F.slot_dict_get hD.typeIs PySem.F.entry_dict_get (PySem.F.args_dict_get_2 _ _) (meets_dict_get (PySem.strKind prog w) d (k := y) (by simp [PySem.strKind, Value.isStrOf]) hsm) ⟨_, hD.mapOf, h⟩
theorem get_dflt {Q : Value → Shared → Prop} {v : Value} (N : News h₀ L s.heap news) (hm : (d, o) ∈ news) (hd : o.IsDictOf (PySem.strKind prog w) kvs) (hsm : (d == sysModules) = false)
    (h : Q ((valueAt kvs y).getD v) { s with toks := s.toks + 1 }) : wpAny (model prog w) A (call (.builtin "dict.get") [.ref d, .str y t, v]) Q E s := by
  have hD : s.heap.DictOf (PySem.strKind prog w) d kvs := Heap.dictOf_iff.mpr ⟨o, (N _ hm).1, hd⟩
  exact call_meetsIn PySem.F.slot_dict_get hD.typeIs PySem.F.entry_dict_get (PySem.F.args_dict_get_3 _ _ _) (meets_dict_get_default (PySem.strKind prog w) d (k := y) (by simp [PySem.strKind, Value.isStrOf]) hsm v) ⟨_, hD.mapOf, h⟩
end
section
variable {M : Model} {A : Around} {E : Value → Shared → Prop} {s : Shared} {K : Frag} {a : Addr} {Q : Bool → Shared → Prop}
theorem truthy_cls (X : K.In s.heap) (h1 : specialIn K (.ref a) "__bool__" = some none) (h2 : specialIn K (.ref a) "__len__" = some none) (h : Q true s) : wpAny M A (truthy (.ref a)) Q E s := by
  unfold truthy callSpecial?
  refine wpAny_bind (wpAny_bind (Looks.here (looks_specialIn X h1) ?_))
  refine wpAny_pure ?_
  refine wpAny_bind (Looks.here (looks_specialIn X h2) ?_)
  exact wpAny_pure h
end
theorem partsL_len : ∀ l : List Nat, (partsL l).length ≤ l.length + 1
  | [] => Nat.le_refl _
  | c :: r => by
    have h := partsL_len r
    simp only [partsL]
    split
    · simp only [List.length_cons]; omega
    · cases hp : partsL r with
      | nil => simp only [List.length_cons, List.length_nil]; omega
      | cons a t => rw [hp] at h; simp only [List.length_cons] at h ⊢; omega
theorem datAll_len {news : List (Addr × Obj)} : ∀ {vs : List Value} {ds : List Dat}, DatAll news vs ds → vs.length = ds.length
  | _, _, .nil => rfl
  | _, _, .cons _ h => congrArg Nat.succ (datAll_len h)
end Mine
end
section
open PySem PySem.W PySem.Calls PyProof.Rows
open Builtin Builtin.Str
set_option Elab.async false
set_option maxRecDepth 100000
set_option maxHeartbeats 4000000
set_option linter.unusedVariables false
namespace Mine
section
variable {prog : Program} {w : World} {A : Around} {E : Value → Shared → Prop} {s : Shared} {t u : Tok} {Q : Value → Shared → Prop} {S : PySem.Str}
theorem repr_under {b : Nat} {Q : Value → Shared → Prop} (h : Q (.str (reprText S) s.toks) { s with toks := s.toks + 1 }) (hx : (reprText S).length ≤ sizeLine) : wpAny (model prog w) A (pyReprObjUnder b (.str S u)) Q E s := by
  unfold pyReprObjUnder pyReprObjBy
  simp only [cRoomFor, show ([Value.str S u].any Value.onHeap) = false from rfl, Bool.false_eq_true, if_false, pure_bind]
  refine wpAny_bind (wpAny_specialOf (name := Str.ofString "__repr__") (typeIs_str s S u) F.slot_str_repr.toG.lookup ?_)
  refine wpAny_bind (wpAny_callSpecialIfBoundBy?_slotG (name := Str.ofString "__repr__") (typeIs_str s S u) F.slot_str_repr.toG ?_)
  refine call_gives F.slot_str_repr (typeIs_str s S u) F.entry_str_repr (F.args_str_repr_1 _) (gives_str_repr S u) ⟨hx, ?_⟩
  exact wpAny_bind (wpAny_isInstance (T := "str") (b := true) rfl isSubtype_str_str (wpAny_pure h))
theorem reprS_len (hl : S.length ≤ 64) (hA : ∀ c ∈ S.cps.toList, c < 128) : (reprText S).length ≤ 642 :=
  Nat.le_trans (StrLaws.reprText_len S fun c hc => Nat.lt_of_lt_of_le (hA c hc) (by decide)) (by omega)
theorem pct_r (hl : S.length ≤ 64) (hA : ∀ c ∈ S.cps.toList, c < 128)
    (h : ∀ T t' k, Q (.str T t') { s with toks := k }) : wpAny (model prog w) A (binaryOp .Mod (.str (Str.ofString "could not parse sentence type: %r") t) (.str S u)) Q E s := by
  have hr := reprS_len hl hA
  have hz : (reprText S).length ≤ sizeLine := by rw [sizeLine_eq]; omega
  refine binaryOp_meets (T := "str") (op := .Mod) (typeIs_str s _ t) (typeIs_str s S u) F.fills_str_mod F.slot_str_mod F.entry_str_mod (F.args_str_mod_2 _ _) (S := fun _ R s => ∀ T t' k, R (.ok (.ret (.str T t'))) { s with toks := k }) ?_ (fun T t' k => ⟨(fun e => nomatch e), h T t' k⟩)
  refine Meets.of_wp fun prog w A _ s hS => ?_
  rw [show Str.ofString "could not parse sentence type: %r" = ⟨#[99, 111, 117, 108, 100, 32, 110, 111, 116, 32, 112, 97, 114, 115, 101, 32, 115, 101, 110, 116, 101, 110, 99, 101, 32, 116, 121, 112, 101, 58, 32, 37, 114]⟩ by decide +kernel]
  rw [KPc.entry_is_s]
  unfold Builtin.Str.percentFormat
  refine wpAny_bind (wpAny_isInstance (typeIs_str _ _ _) F.sub_str_tuple ?_)
  refine wpAny_bind (wpAny_of_eq (a := some _) rfl ?_)
  refine wpAny_bind (KPc.wp_fills_str ?_)
  intro _
  kpc_if
  refine wpAny_bind (wpAny_pure ?_)
  refine wpAny_bind ?_
  rw [KPc.range_list]
  refine KPc.start ?_
  intro _ _
  refine KPc.turn ?_; kpc_check; (repeat kpc_if)
  refine wpAny_pure ?_; kpc_piece
  refine KPc.turn ?_; kpc_check; (repeat kpc_if)
  refine wpAny_bind ?_; refine wpAny_holding ?_; (repeat kpc_if)
  refine wpAny_bind ?_
  (repeat kpc_if)
  refine repr_under ?_ hz
  refine wpAny_bind (wpAny_of_eq (a := some _) rfl ?_)
  refine wpAny_pure ?_
  refine wpAny_pure ?_
  refine KPc.after_str (K := 642) (by kpc_g) hr (by kpc_obj) ?_
  intro T1 g1
  refine KPc.turn ?_; kpc_check; (repeat kpc_if)
  refine wpAny_pure ?_; kpc_if
  refine KPc.finish_ok g1 (by decide +kernel) rfl ?_
  intro t9 k9
  exact ⟨_, rfl, hS _ _ _⟩
end
def kindsOf (hasW : Bool) : List (PySem.Str × Value) := if hasW then [(PySem.Str.ofString "WPL", .ref 279), (PySem.Str.ofString "TXT", .ref 261)] else [(PySem.Str.ofString "TXT", .ref 261)]
def KindIs (y : PySem.Str) (hasW : Bool) (v : Value) : Prop := (valueAt (kindsOf hasW) y).getD .none = v
theorem tl_WPL : tl (PySem.Str.ofString "WPL") = [87, 80, 76] := by decide +kernel
theorem tl_TXT : tl (PySem.Str.ofString "TXT") = [84, 88, 84] := by decide +kernel
theorem kind_cases (y : PySem.Str) (hasW : Bool) : (KindIs y hasW (.ref 279) ∧ hasW = true ∧ y = PySem.Str.ofString "WPL") ∨ (KindIs y hasW (.ref 261) ∧ y = PySem.Str.ofString "TXT") ∨ (KindIs y hasW .none ∧ kindOk (tl y) hasW = false) := by
  have hne : ¬ PySem.Str.ofString "WPL" = PySem.Str.ofString "TXT" := by decide +kernel
  by_cases h1 : y = PySem.Str.ofString "TXT"
  · refine .inr (.inl ⟨?_, h1⟩)
    subst h1
    cases hasW
    · simp [KindIs, kindsOf, valueAt]
    · simp [KindIs, kindsOf, valueAt, hne]
  · have e1 : (tl y == [84, 88, 84]) = false := by
      rw [← tl_TXT]; exact beq_eq_false_iff_ne.mpr fun e => h1 (tl_inj e)
    by_cases h2 : y = PySem.Str.ofString "WPL"
    · cases hasW
      · refine .inr (.inr ⟨?_, ?_⟩)
        · simp [KindIs, kindsOf, valueAt, Ne.symm h1]
        · simp [kindOk, e1]
      · refine .inl ⟨?_, rfl, h2⟩
        subst h2
        simp [KindIs, kindsOf, valueAt]
    · have e2 : (tl y == [87, 80, 76]) = false := by
        rw [← tl_WPL]; exact beq_eq_false_iff_ne.mpr fun e => h2 (tl_inj e)
      refine .inr (.inr ⟨?_, by simp [kindOk, e1, e2]⟩)
      cases hasW
      · simp [KindIs, kindsOf, valueAt, Ne.symm h1]
      · simp [KindIs, kindsOf, valueAt, Ne.symm h1, Ne.symm h2]
theorem rest_talkerK {bd hd k : PySem.Str} {b : List Nat} {w : Bool} (hb : tl bd = b) (hhd : tl hd = ((tl bd).take 6).map up1) (hy : Txt.slice hd (some (2 : Int)) (some (5 : Int)) = k) (hk : kindOk (tl k) w = true) :
    restD b 6 w = .list [dS "talker", .str k, .str (Txt.slice hd none (some (2 : Int))), .str (Txt.slice hd (some (2 : Int)) (some (5 : Int))), .list ((partsL ((tl bd).drop 6)).map dL)] := by
  subst hy
  exact rest_talker hb hhd hk
theorem kind_four {y : PySem.Str} {hasW : Bool} (h : y.length = 4) : valueAt (kindsOf hasW) y = none := by
  have h1 : ¬ PySem.Str.ofString "TXT" = y := fun e => by
    have := congrArg (fun z => (tl z).length) e
    simp only [tl_TXT, tl_len, h] at this
    exact absurd this (by decide)
  have h2 : ¬ PySem.Str.ofString "WPL" = y := fun e => by
    have := congrArg (fun z => (tl z).length) e
    simp only [tl_WPL, tl_len, h] at this
    exact absurd this (by decide)
  cases hasW
  · simp [kindsOf, valueAt, h1]
  · simp [kindsOf, valueAt, h1, h2]
end Mine
end
section
open PySem PySem.W PySem.Calls PyProof.Rows PySem.Spec
open Builtin
set_option Elab.async false
set_option maxRecDepth 100000
set_option maxHeartbeats 2000000
set_option linter.unusedVariables false
namespace Mine
/-! isinstance and attribute reads of an object whose class has an own `__getattr__` -/
section
variable {prog : Program} {w : World} {A : Around} {E : Value → Shared → Prop} {s : Shared} {K : Frag} {x C D : Addr} {ox : Obj} {od : Obj} {odo : Option Obj} {name : Str} {hook : Value}
theorem hook_binds {g a : Value} {tk : Tok} {P : Value → Shared → Prop} (X : K.In s.heap) (I : InstAt s.heap x ox D odo) (hf : findObj K D odo name = some (.bind g a)) (hk : findIn K (.ref D) "__getattr__" = some (some hook))
    (h : wpAny (model prog w) A (call g [a, .ref x, .ref D]) P (fun _ _ => False) s) :
    wpAny (model prog w) A (Builtin.«proto.getattr_hooked» ⟨[.ref x, .str name tk], []⟩) (fun fin s' => match fin with | .done (.ret v) => P v s' | _ => False) E s := by
  obtain ⟨hh, gg, dr, t, os⟩ := s
  have kind := I.type (M := model prog w)
  have found := looks_find (M := model prog w) X I hf
  have hooked := looks_findIn (M := model prog w) X hk
  refine wpAny_bind (wpAny_pure (wpAny_bind (kind.at (wpAny_bind (found.at (wpAny_bind (hooked.at ?_)))))))
  show wpAny _ _ (Builtin.ObjectAttr.bindOrHook _ _ _ _ _ _) _ _ _
  unfold Builtin.ObjectAttr.bindOrHook
  refine wpAny_bind (wpAny_attempt (wpAny_holding ?_))
  show wpAny _ _ (holding [a] (call g [a, .ref x, .ref D]) >>= ret) _ _ _
  exact wpAny_bind (wpAny_holding (wpAny_mono h (fun v s' z => wpAny_pure (wpAny_pure z)) fun _ _ z => z.elim))

theorem class_read {Q : Option Value → Shared → Prop} (hga : findIn K (.ref D) "__getattribute__" = some (some (.builtin "object.__getattribute__"))) (hk : findIn K (.ref D) "__getattr__" = some (some hook)) (hdct : hasDictIn K D = true)
    (ha : findIn K (.ref D) "__class__" = some (some (.builtin "object.__class__"))) (hn : specialIn K (.builtin "object.__class__") "__get__" = some (some (.builtin "getset_descriptor.__get__"))) (htk : takesIn K (.builtin "object.__class__") = some true)
    (hm : mroIn K D (.type "object") = some true) (X : K.In s.heap) (I : InstAt s.heap x ox D (some od)) (h : Q (some (.ref D)) { s with toks := s.toks + 1 }) : wpAny (model prog w) A (getAttr? (.ref x) "__class__") Q E s := by
  have hf : findObj K D (some od) "__class__" = some (.bind (.builtin "getset_descriptor.__get__") (.builtin "object.__class__")) := findObj_data (by obtain ⟨cd, hc, _⟩ := any_some hdct; rw [hc]; rfl) ha hn htk
  exact kin_open X I hga (hook_binds (s := { s with toks := s.toks + 1 }) X I hf hk
    (wpAny_call (class_get (s := { s with toks := s.toks + 1 }) (ox := ox) (od := some od) X I hm (handed_on rfl h))))

/-- an object of class D is not of class C: any way of reading its `__class__` will do -/
theorem not_of {c : Value} {Q : Value → Shared → Prop} {S : Shared → Prop} (hdct : hasDictIn K D = true)
    (hrd : ∀ {prog : Program} {w : World} {A : Around} {E : Value → Shared → Prop} {s : Shared} {P : Option Value → Shared → Prop}, K.In s.heap → InstAt s.heap x ox D (some od) → P (some (.ref D)) { s with toks := s.toks + 1 } → wpAny (model prog w) A (getAttr? (.ref x) "__class__") P E s)
    (X : K.In s.heap) (I : InstAt s.heap x ox D (some od)) (hty : ∀ (M : Model) h', K.In h' → Looks M h' (typeOf c) (.type "type")) (his : ∀ (M : Model) h', K.In h' → Looks M h' (isType c) true)
    (hne : (Value.ref D == c) = false) (hsub : ∀ (M : Model) h', K.In h' → Looks M h' (isSubtype (.ref D) c) false) (h : Q (.bool false) { s with toks := s.toks + 1 }) : wpAny (model prog w) A (call (.builtin "isinstance") [.ref x, c]) Q E s := by
  refine call_isinstance (S := fun _ R s => (K.In s.heap ∧ InstAt s.heap x ox D (some od)) ∧ R (.ok (.ret (.bool false))) { s with toks := s.toks + 1 })
    (fun prog' w' A' R' s' hs => isinstance_outer ?_ (by intro q; cases q)) ⟨⟨X, I⟩, h⟩
  obtain ⟨⟨X, I⟩, hs⟩ := hs
  obtain ⟨cdD, hcD, _⟩ := any_some hdct
  have hisD : Looks (model prog' w') s'.heap (isType (.ref D)) true := by
    unfold clsIn at hcD
    split at hcD
    · rename_i c' d' cd' sl' ho
      intro A' Q' E' s' k q
      unfold isType loadHead
      exact wpAny_bind (wpAny_loadPart (k _ _ (X _ _ ho)) (wpAny_pure q))
    · cases hcD
  obtain ⟨h0, g, d, tt, os⟩ := s'
  have kind := I.type (M := model prog' w')
  have sub := hsub (model prog' w') h0 X
  have LI : Looks (model prog' w') h0 (isInstance (.ref x) c) false := kind.andThen sub
  unfold Builtin.«isinstance.nested»
  refine wpAny_bind (kind.at ?_)
  rw [if_neg (fun q => by rw [hne] at q; exact Bool.noConfusion q)]
  refine wpAny_bind ((hty _ _ X).at ?_)
  rw [if_pos (by decide)]
  k_delta "plainIsInstance"
  refine wpAny_bind (wpAny_bind ((his _ _ X).at ?_))
  simp only [Bool.not_true, Bool.false_eq_true, if_false]
  refine wpAny_bind (LI.at ?_)
  simp only [Bool.false_eq_true, if_false]
  refine wpAny_bind (hrd X I ?_)
  refine wpAny_bind (hisD.at ?_)
  simp only [Bool.not_true, Bool.false_eq_true, if_false]
  refine wpAny_bind (wpAny_rule ?_)
  refine sub.at ?_
  first
    | exact wpAny_pure hs
    | exact wpAny_pure (wpAny_pure hs)
    | exact wpAny_bind (wpAny_pure (wpAny_pure hs))

theorem is_not {Q : Value → Shared → Prop} (X : K.In s.heap) (I : InstAt s.heap x ox D (some od)) (e : kin_not K D C = true) (hga : findIn K (.ref D) "__getattribute__" = some (some (.builtin "object.__getattribute__"))) (hk : findIn K (.ref D) "__getattr__" = some (some hook)) (hdct : hasDictIn K D = true)
    (ha : findIn K (.ref D) "__class__" = some (some (.builtin "object.__class__"))) (hn : specialIn K (.builtin "object.__class__") "__get__" = some (some (.builtin "getset_descriptor.__get__"))) (htk : takesIn K (.builtin "object.__class__") = some true)
    (hm : mroIn K D (.type "object") = some true) (h : Q (.bool false) { s with toks := s.toks + 1 }) : wpAny (model prog w) A (call (.builtin "isinstance") [.ref x, .ref C]) Q E s := by
  unfold kin_not at e
  rw [Bool.and_eq_true, Bool.and_eq_true, Bool.and_eq_true] at e
  obtain ⟨⟨⟨e0, e1⟩, e2⟩, e3⟩ := e
  refine not_of (S := fun _ => True) hdct (fun X I h => class_read hga hk hdct ha hn htk hm X I h) X I (fun _ h' X' => looks_typeIn X' (beq_iff_eq.mp e2)) (fun _ h' X' => ?_) ?_ (fun _ h' X' => looks_subIn X' (beq_iff_eq.mp e3)) h
  · unfold clsIn at e1
    split at e1
    · rename_i c' d' cd' sl' ho
      intro A' Q' E' s' k q
      unfold isType loadHead
      exact wpAny_bind (wpAny_loadPart (k _ _ (X' _ _ ho)) (wpAny_pure q))
    · cases e1
  · exact Bool.eq_false_iff.mpr fun q => of_decide_eq_true e0 (Value.ref.inj (beq_iff_eq.mp q))

theorem own_read {h₀ : Heap} {L : Addr} {m : Str → Option Value} {es : List DictEntry} {n : Nat} {v : Value} {attr : Option Value} {expr : Bool} {Q : Value → Shared → Prop} (F : Fr h₀ L s.heap m) (X₀ : K.In h₀) (I : InstAt s.heap x ox C (some (dictOf es n)))
    (hga : findIn K (.ref C) "__getattribute__" = some (some (.builtin "object.__getattribute__"))) (hh : hasDictIn K C = true) (ha : findIn K (.ref C) name = some attr) (hn : noGet K attr = true) (hl : getL name es = some (some v)) (hv : handedIn v = true) (h : Q v { s with toks := s.toks + 1 }) :
    wpAny (model prog w) A (getAttr (.ref x) name expr) Q E s :=
  get_value (X₀.keeps F.keep) I hga (findObj_own hh ha hn hl) hv h
end
end Mine
end
section
open PySem PySem.W PySem.Calls PyProof.Rows PySem.Spec
set_option Elab.async false
set_option maxRecDepth 100000
set_option maxHeartbeats 40000000
set_option linter.unusedVariables false
namespace Mine
section
variable {w : World} {loose : List Str} {mean : ExcName → Option Value} {mg mb : Str → Option Value} {dp un : Nat} {gd : Option (List Code)} {cn : Str} {cs : Scope} {a : Addr} {ccd : Value} {cl : List (Str × Addr)} {outer : List Env} {A₀ : Around} {base h₀ : Heap} {L : Addr} {m : Str → Option Value} {s : Shared} {Q E : Value → Shared → Prop} {news : List (Addr × Obj)}





theorem in_known_W {prog : Program} {A : Around} {kl : Addr} {kvs : List Value} {kn : Nat} {hasW : Bool} {u : Tok} {Q : Value → Shared → Prop} (N : News h₀ L s.heap news) (hm : (kl, listOf kvs.toArray kn) ∈ news) (hk : DatAll [] kvs (knownD hasW)) (hu : A.units + 64 < cLine)
    (h : Q (.bool hasW) s) : wpAny (model prog w) A (compareOp .In (.str (Str.ofString "WPL") u) (.ref kl)) Q E s := by
  have hA : Asc (Str.ofString "WPL") := by
    have : (tl (Str.ofString "WPL")).all (fun c => decide (c < 128)) = true := by decide +kernel
    exact fun c hc => of_decide_eq_true (List.all_eq_true.mp this c hc)
  refine in_known N hm hk hA hu ?_
  have e : kindOk (tl (Str.ofString "WPL")) hasW = hasW := by
    rw [show tl (Str.ofString "WPL") = [87, 80, 76] by decide +kernel]
    cases hasW <;> decide
  rw [e]; exact h
local macro_rules | `(tactic| walk_at "compareOp In str ref") => `(tactic| ((with_reducible show wpAny _ _ (compareOp CmpOp.In (Value.str (PySem.Str.ofString "WPL") _) (Value.ref _)) _ _ _); (rename News _ _ _ _ => N'); k_dflt (refine' in_known_W N' ?m (hasW := _) (by assumption) ?b ?_; (case m => exact .head _); (case b => ktr_units); k_whole); (try dsimp only)))
local macro_rules | `(tactic| walk_at "execs cons") => `(tactic| ((with_reducible show wpAny _ _ (execs (Stmt.Assign [Expr.Tuple [Expr.Name (PySem.Str.ofString "nmea_str") _, _, _] _ _] _ _ :: _) _) _ _ _); refine Hid.out ?_))
local macro_rules | `(tactic| walk_at "exec Raise some none") => `(tactic| ((with_reducible show wpAny _ _ (exec (Stmt.Raise (some (Expr.Call (Expr.Name (PySem.Str.ofString "ParseError") _) _ _ _)) none _) _) _ _ _); k_dflt (refine' Raise_own (C := 64) ?X ?hK ?hb ?hh ?_; (case X => k_asm); (case hK => k_is); (case hb => decide +kernel); (case hh => exact rfl))))
local macro_rules | `(tactic| walk_at "call ref") => `(tactic| ((with_reducible show wpAny _ _ (call (Value.ref 64) [_, _]) _ _ _); k_dflt (refine' c_exc ?F ?X ?T ?hK ?hn ?hB ?hA ?hN ?hf ?ht ?hcl ?hs1 ?hs2 ?hl ?hroom ?_; (case F => k_asm); (case X => k_asm); (case T => k_asm); (case hK => k_is); (case hn => rfl); (case hB => decide +kernel); (case hA => decide +kernel); (case hN => decide +kernel); (case hf => k_is); (case ht => k_is); (case hcl => k_is); (case hs1 => k_is); (case hs2 => k_is); (case hl => rfl); (case hroom => first | k_room | decide +kernel | ktr_room); intro hE eE uE tkE ME; (try dsimp only); (try k_fold))))
local macro_rules | `(tactic| walk_at "exec Raise some none") => `(tactic| ((with_reducible show wpAny _ _ (exec (Stmt.Raise (some (Expr.Call (Expr.Name (PySem.Str.ofString "SentenceTypeError") _) _ _ _)) none _) _) _ _ _); k_dflt (refine' Raise_own (C := 77) ?X ?hK ?hb ?hh ?_; (case X => k_asm); (case hK => k_is); (case hb => decide +kernel); (case hh => exact rfl))))
local macro_rules | `(tactic| walk_at "call ref") => `(tactic| ((with_reducible show wpAny _ _ (call (Value.ref 77) [_, _]) _ _ _); k_dflt (refine' c_exc ?F ?X ?T ?hK ?hn ?hB ?hA ?hN ?hf ?ht ?hcl ?hs1 ?hs2 ?hl ?hroom ?_; (case F => k_asm); (case X => k_asm); (case T => k_asm); (case hK => k_is); (case hn => rfl); (case hB => decide +kernel); (case hA => decide +kernel); (case hN => decide +kernel); (case hf => k_is); (case ht => k_is); (case hcl => k_is); (case hs1 => k_is); (case hs2 => k_is); (case hl => rfl); (case hroom => first | k_room | decide +kernel | ktr_room); intro hE eE uE tkE ME; (try dsimp only); (try k_fold))))
local macro_rules | `(tactic| walk_at "exec Raise some none") => `(tactic| ((with_reducible show wpAny _ _ (exec (Stmt.Raise (some (Expr.Call (Expr.Name (PySem.Str.ofString "ChecksumError") _) _ _ _)) none _) _) _ _ _); k_dflt (refine' Raise_own (C := 89) ?X ?hK ?hb ?hh ?_; (case X => k_asm); (case hK => k_is); (case hb => decide +kernel); (case hh => exact rfl))))
local macro_rules | `(tactic| walk_at "call ref") => `(tactic| ((with_reducible show wpAny _ _ (call (Value.ref 89) [_, _]) _ _ _); k_dflt (refine' c_exc ?F ?X ?T ?hK ?hn ?hB ?hA ?hN ?hf ?ht ?hcl ?hs1 ?hs2 ?hl ?hroom ?_; (case F => k_asm); (case X => k_asm); (case T => k_asm); (case hK => k_is); (case hn => rfl); (case hB => decide +kernel); (case hA => decide +kernel); (case hN => decide +kernel); (case hf => k_is); (case ht => k_is); (case hcl => k_is); (case hs1 => k_is); (case hs2 => k_is); (case hl => rfl); (case hroom => first | k_room | decide +kernel | ktr_room); intro hE eE uE tkE ME; (try dsimp only); (try k_fold))))
local macro_rules | `(tactic| walk_at "call ref") => `(tactic| ((with_reducible show wpAny _ _ (call (Value.ref 98) _) _ _ _); k_dflt (refine' c_wordlike ?k1 ?k2 ?k3 ?k4 ?k5 ?kK ?hp ?hd ?hu ?_; (case k1 => k_asm); (case k2 => k_asm); (case k3 => k_asm); (case k4 => k_asm); (case k5 => k_asm); (case kK => first | exact rfl | assumption); (case hp => omega); (case hd => first | decide +kernel | ktr_room); (case hu => first | decide +kernel | ktr_units); k_whole; intro t9 h9 tk9 F9 N9; (try dsimp only); (try k_fold))))
local macro_rules | `(tactic| walk_at "execs cons") => `(tactic| ((with_reducible show wpAny _ _ (execs (Stmt.Assign [Expr.Tuple [Expr.Name (PySem.Str.ofString "sentence_type") _, _, _] _ _] _ _ :: _) _) _ _ _); refine Hid.out ?_))
local macro_rules | `(tactic| walk_at "call type:int") => `(tactic| ((with_reducible show wpAny _ _ (call (Value.type "int") [Value.str _ _, Value.int 16 _]) _ _ _); (rename tailOk _ = true => hT'); k_dflt (refine' call_hex (by assumption) hT' ?_; k_whole); (try dsimp only)))
local macro_rules | `(tactic| walk_at "call ref") => `(tactic| ((with_reducible show wpAny _ _ (call (Value.ref 113) _) _ _ _); k_dflt (refine' c_checksum ?k1 ?k2 ?k3 ?k4 ?k5 ?kK ?hp ?hq ?hd ?hu ?_; (case k1 => k_asm); (case k2 => k_asm); (case k3 => k_asm); (case k4 => k_asm); (case k5 => k_asm); (case kK => first | exact rfl | assumption); (case hp => omega); (case hq => exact Okay.lt (by assumption)); (case hd => first | decide +kernel | ktr_room); (case hu => first | decide +kernel | ktr_units); k_whole; intro t9 h9 tk9 F9 N9; (try dsimp only); (try k_fold))))
theorem sumZ_byte {l : List Int} (h : ∀ c ∈ l, 0 ≤ c ∧ c < 128) : 0 ≤ sumZ l ∧ sumZ l < 256 := ⟨(sum_lt l h).1, by have := (sum_lt l h).2; omega⟩
theorem tailV_lt {l : List Nat} (h : tailOk l = true) : (tailV l : Int) < 256 := by
  match l, h with
  | a :: b :: r, h =>
    simp only [tailOk, Bool.and_eq_true] at h
    have k : ∀ c, hexOk c = true → hexV c < 16 := fun c hc => (show ∀ c ∈ hexL, hexV c < 16 by decide +kernel) c (hexL_mem hc)
    have h1 := k a h.1.1
    have h2 := k b h.1.2
    show ((16 * hexV a + hexV b : Nat) : Int) < 256
    omega
  | [], h => exact Bool.noConfusion h
  | [_], h => exact Bool.noConfusion h
local macro_rules | `(tactic| walk_at "binaryOp Mod str ref") => `(tactic| ((with_reducible show wpAny _ _ (binaryOp Operator.Mod (Value.str _ _) (Value.ref _)) _ _ _); (rename tailOk _ = true => hT'); (rename Okay 64 _ ∧ True => hN'); (rename News _ _ _ _ => N'); k_dflt (refine' pct_two N' ?hb ?p1 ?p2 ?p3 ?p4 ?_; (case hb => exact .head _); (case p1 => exact Int.natCast_nonneg _); (case p2 => exact tailV_lt hT'); (case p3 => exact (sumZ_byte hN'.1.lt).1); (case p4 => exact (sumZ_byte hN'.1.lt).2); k_whole); intro _ _ _; (try dsimp only)))
theorem isList_N {h₀ h : Heap} {L P : Addr} {vs : List Value} {n : Nat} {news : List (Addr × Obj)} (N : News h₀ L h news) (hm : (P, listOf vs.toArray n) ∈ news) : h.IsList P vs.toArray := ⟨_, (N _ hm).1, rfl, n, rfl⟩
theorem size_N {vs : List Value} (h : vs.length ≤ 66) : vs.toArray.size ≤ sizeLine := by rw [sizeLine_eq]; simp; omega
theorem get_kind {prog : Program} {A : Around} {d : Addr} {o : Obj} {y : Str} {t : Tok} {hasW : Bool} {v : Value} {Q : Value → Shared → Prop} (N : News h₀ L s.heap news) (hm : (d, o) ∈ news) (hd : o.IsDictOf (PySem.strKind prog w) (kindsOf hasW)) (hsm : (d == sysModules) = false)
    (hv : KindIs y hasW v) (h : Q v { s with toks := s.toks + 1 }) : wpAny (model prog w) A (call (.builtin "dict.get") [.ref d, .str y t]) Q E s := get_any N hm hd hsm (by unfold KindIs at hv; rw [hv]; exact h)
local macro_rules | `(tactic| walk_at "call builtin:dict.get") => `(tactic| ((with_reducible show wpAny _ _ (call (Value.builtin "dict.get") [Value.ref _, Value.str _ _]) _ _ _); (rename KindIs _ _ _ => hv'); (rename News _ _ _ _ => N'); (rename Obj.IsDictOf _ _ _ => hd'); k_dflt (refine' get_kind N' ?m hd' (by assumption) hv' ?_; (case m => k_mem); k_whole); (try dsimp only)))
local macro_rules | `(tactic| walk_at "truthy ref") => `(tactic| ((with_reducible show wpAny _ _ (truthy (Value.ref _)) _ _ _); (rename Fr _ _ _ _ => lF'); k_dflt (refine' truthy_cls (K := hd.heap_39 _) ?X ?h1 ?h2 ?_; (case X => exact Frag.In.keeps (by k_asm) lF'.keep); (case h1 => k_is); (case h2 => k_is); k_whole); (try dsimp only)))
local macro_rules | `(tactic| walk_at "call type:list") => `(tactic| ((with_reducible show wpAny _ _ (call (Value.type "list") [Value.ref _]) _ _ _); (rename Fr _ _ _ _ => F'); (rename News _ _ _ _ => N'); (rename List.length _ ≤ 66 => hl'); k_dflt (refine' list_copyK F' N' ?hl ?_ ?hz; (case hl => exact isList_N N' (by k_mem)); (case hz => exact size_N hl'); k_whole); intro D' c' h' F' N' l1; (try k_lt l1); (try k_sweep)))
local macro_rules | `(tactic| walk_at "call builtin:isinstance") => `(tactic| ((with_reducible show wpAny _ _ (call _ [Value.ref _, Value.ref _]) _ _ _); k_dflt (refine' is_not ?k1 ?k2 ?k3 ?k4 ?kh ?k5 ?k6 ?k7 ?k8 ?k9 ?_; (case k1 => k_in); (case k2 => k_inst); (case k3 => kin_no); (case k4 => k_is); (case kh => k_is); (case k5 => k_is); (case k6 => k_is); (case k7 => k_is); (case k8 => k_is); (case k9 => k_is); k_whole)))
local macro_rules | `(tactic| walk_at "getAttr ref") => `(tactic| (k_dflt (refine' own_read ?k1 ?k2 ?k3 ?k4 ?k5 ?k6 ?k7 ?k8 ?k9 ?_; (case k1 => k_asm); (case k2 => k_asm); (case k3 => k_inst); (case k4 => k_is); (case k5 => k_is); (case k6 => k_is); (case k7 => k_is); (case k8 => k_get); (case k9 => k_handed); k_whole)))
local macro_rules | `(tactic| walk_at "binaryOp Mod str str") => `(tactic| ((with_reducible show wpAny _ _ (binaryOp Operator.Mod (Value.str (PySem.Str.ofString "could not parse sentence type: %r") _) (Value.str _ _)) _ _ _); k_dflt (refine' pct_r ?hl ?hA ?_; (case hl => omega); (case hA => assumption); k_whole); intro _ _ _; (try dsimp only)))
theorem get_none {prog : Program} {A : Around} {d : Addr} {o : Obj} {y : Str} {t : Tok} {hasW : Bool} {v : Value} {Q : Value → Shared → Prop} (N : News h₀ L s.heap news) (hm : (d, o) ∈ news) (hd : o.IsDictOf (PySem.strKind prog w) (kindsOf hasW)) (hsm : (d == sysModules) = false)
    (hv : valueAt (kindsOf hasW) y = none) (h : Q v { s with toks := s.toks + 1 }) : wpAny (model prog w) A (call (.builtin "dict.get") [.ref d, .str y t, v]) Q E s := get_dflt N hm hd hsm (by rw [hv]; exact h)
local macro_rules | `(tactic| walk_at "call builtin:dict.get") => `(tactic| ((with_reducible show wpAny _ _ (call (Value.builtin "dict.get") [Value.ref _, Value.str _ _, _]) _ _ _); (rename PySem.valueAt _ _ = none => hv'); (rename News _ _ _ _ => N'); (rename Obj.IsDictOf _ _ _ => hd'); k_dflt (refine' get_none N' ?m hd' (by assumption) hv' ?_; (case m => k_mem); k_whole); (try dsimp only)))
theorem c_told {x : Str} {strict hasW : Bool} {t : Tok} {kl : Addr} {kvs : List Value} {kn : Nat} (B : Below A₀ base [] h₀) (F : Fr h₀ L s.heap m) (X : (hd.heap_39 w.params).In h₀) (N : News h₀ L s.heap ((kl, listOf kvs.toArray kn) :: news)) (T : Top hd.view_39 loose mean mg mb h₀) (hk : cs.kind = .function) (XB : (hd.heap_39 w.params).In base) (TB : Top hd.view_39 loose mean mg mb base)
    (hx : Okay 64 x) (hkn : DatAll [] kvs (knownD hasW))
    (hret : ∀ (l : Addr) (own : List (Addr × Obj)) (h' : Heap) (tk' : Nat), DatIn own (.ref l) (dueD (tl x) strict hasW) → (∀ q ∈ news, ∀ p ∈ own, q.1 < p.1) → Fr h₀ L h' m → News h₀ L h' (own ++ (kl, listOf kvs.toArray kn) :: news) → Q (.ref l) { s with heap := h', toks := tk' }) :
    wpAny (model PySem.Challenge.rw_ez0282_01.row.prog w) (ktrTop 302 7 gd cn cs L a ccd [] []) (call (.ref 358) [.str x t, .bool strict, .ref kl]) Q E s := by
  k_with_none
  w_top off
  revert B F X N T hk XB TB hx hkn hret
  k_fill
  intro B F X N T hk XB TB hx hkn hret
  refine wpAny_call ?_
  k_dflt (refine' code_defS0 (cn := cn) (cs := cs) (L := L) (a := a) (ccd := ccd) ?k1 ?k2 ?k3 ?k4 ?k5 ?kA ?k6 ?k7 ?k8 ?k9 ?kB ?_ ?cK ?c2 ?c3 ?c4 ?c5; (case kA => exact rfl); (case k2 => k_asm); (case k1 => k_asm); (case k3 => k_asm); (case k4 => k_asm); (case k5 => k_asm); (case k6 => k_is); (case k7 => k_is); (case k8 => first | k_room | ktr_room); (case k9 => first | exact binds_K (by k_in) rfl (by k_is) rfl rfl rfl | exact BindsTo.of_eq rfl); (case kB => exact locs rfl); (case cK => exact hk); (case c2 => exact rfl); (case c3 => exact rfl); (case c4 => exact rfl); (case c5 => decide); k_whole; intro g1 L1 h1 FG1 F1 N1 B1 X1 T1 D1; (try dsimp only); (try k_lift B1); (try k_fold))
  have hx1 := hx.1
  have ret1 : ∀ (w : String) (l : Addr) (t : Tok) (n : Nat) (h' : Heap) (tk' : Nat) (rest : List (Addr × Obj)), dueD (tl x) strict hasW = .list [dS w] → Fr h₀ L h' m → News h₀ L h' ((l, listOf #[.str (Str.ofString w) t] n) :: rest) → AllLt l rest → (∀ p ∈ (kl, listOf kvs.toArray kn) :: news, p ∈ rest) → Q (.ref l) { s with heap := h', toks := tk' } :=
    fun w l t n h' tk' rest e F N l1 hs => hret l [(l, listOf #[.str (Str.ofString w) t] n)] h' tk' (e ▸ DatIn.list (vs := [.str (Str.ofString w) t]) (.head _) (.cons (.str _ _) .nil)) (fun q hq p hp => by rw [List.mem_singleton.mp hp]; exact allLt_out l1 q (hs q (.tail _ hq))) F
      (fun p hp => by
        rcases List.mem_cons.mp hp with rfl | hp
        · exact N _ (.head _)
        · exact N _ (.tail _ (hs p hp)))
  have retG : ∀ (l : Addr) (vs : List Value) (n : Nat) (ds : List Dat) (h' : Heap) (tk' : Nat) (own1 rest : List (Addr × Obj)), dueD (tl x) strict hasW = .list ds → Fr h₀ L h' m → News h₀ L h' ((l, listOf vs.toArray n) :: rest) → AllLt l rest → DatAll own1 vs ds → (∀ p ∈ own1, p ∈ rest) → (∀ q ∈ news, ∀ p ∈ own1, q.1 < p.1) → (∀ p ∈ (kl, listOf kvs.toArray kn) :: news, p ∈ rest) → Q (.ref l) { s with heap := h', toks := tk' } :=
    fun l vs n ds h' tk' own1 rest e F N l1 hd h1 h2 hs => hret l ((l, listOf vs.toArray n) :: own1) h' tk' (e ▸ DatIn.list (.head _) (hd.mono fun p hp => .tail _ hp))
      (fun q hq p hp => by
        rcases List.mem_cons.mp hp with rfl | hp
        · exact allLt_out l1 q (hs q (.tail _ hq))
        · exact h2 q hq p hp) F
      (fun p hp => by
        rcases List.mem_append.mp hp with hp | hp
        · rcases List.mem_cons.mp hp with rfl | hp
          · exact N _ (.head _)
          · exact N _ (.tail _ (h1 p hp))
        · exact N _ (.tail _ (hs p hp)))
  refine cut_execs 1 (fun s' => Hid (∃ d o, MidP s g1 L1 [(Str.ofString "line", .str x t), (Str.ofString "strict", .bool strict), (Str.ofString "kinds", .ref d)] ((d, o) :: (kl, listOf kvs.toArray kn) :: news) s' ∧ (d == sysModules) = false ∧ o.IsDictOf (PySem.strKind PySem.Challenge.rw_ez0282_01.row.prog w) (kindsOf hasW) ∧ AllLt d ((kl, listOf kvs.toArray kn) :: news))) ?_ ?_
  · simp only [List.take_succ_cons, List.take_zero]
    cases hasW
    · k_steps
      all_goals (try dsimp only)
      all_goals exact Hid.mk ⟨_, _, ⟨_, _, _, rfl, by assumption, List.forall_mem_cons.mpr ⟨rfl, List.forall_mem_cons.mpr ⟨rfl, List.forall_mem_cons.mpr ⟨rfl, List.forall_mem_nil _⟩⟩⟩, by assumption⟩, by assumption, by assumption, by assumption⟩
    · k_steps
      all_goals (try dsimp only)
      all_goals exact Hid.mk ⟨_, _, ⟨_, _, _, rfl, by assumption, List.forall_mem_cons.mpr ⟨rfl, List.forall_mem_cons.mpr ⟨rfl, List.forall_mem_cons.mpr ⟨rfl, List.forall_mem_nil _⟩⟩⟩, by assumption⟩, by assumption, by assumption, by assumption⟩
  intro s' hM
  obtain ⟨d, o, hM, hsm, hdict, hdl⟩ := hM.out
  obtain ⟨h2, tk2, m2, rfl, F2, N2⟩ := hM.out
  clear F1 N1 hM
  simp only [List.drop_succ_cons, List.drop_zero]
  k_steps
  refine Hid.mk ?_
  rename_i qk1 ek1 g2 L2 h3 FG2 F3 N3 B2 X2 T2 D2
  clear hM F2 N2
  refine cut_execs 2 (fun s' => Hid (∃ nm tn st ts ta tt, MidP s g2 L2 [(Str.ofString "line", .str x t), (Str.ofString "kinds", .ref d), (Str.ofString "check", .bool strict), (Str.ofString "nmea_str", .str nm tn), (Str.ofString "star", .str st ts), (Str.ofString "tail", .str ta tt)] ((d, o) :: (kl, listOf kvs.toArray kn) :: news) s' ∧ tl nm = bodyL (tl x) ∧ tl st = (if starL (tl x) = [] then [] else [42]) ∧ tl ta = (starL (tl x)).drop 1)) ?_ ?_
  · simp only [List.take_succ_cons, List.take_zero]
    refine wpAny_execs_cons ?_
    k_steps
    all_goals (try dsimp only)
    · exact Hid.mk ⟨_, _, _, _, _, _, ⟨_, _, _, rfl, by assumption, List.forall_mem_cons.mpr ⟨rfl, List.forall_mem_cons.mpr ⟨rfl, List.forall_mem_cons.mpr ⟨rfl, List.forall_mem_cons.mpr ⟨rfl, List.forall_mem_cons.mpr ⟨rfl, List.forall_mem_cons.mpr ⟨rfl, List.forall_mem_nil _⟩⟩⟩⟩⟩⟩, newsT (by assumption)⟩, first_yes hx (by assumption)⟩
    · exact Hid.mk ⟨_, _, _, _, _, _, ⟨_, _, _, rfl, by assumption, List.forall_mem_cons.mpr ⟨rfl, List.forall_mem_cons.mpr ⟨rfl, List.forall_mem_cons.mpr ⟨rfl, List.forall_mem_cons.mpr ⟨rfl, List.forall_mem_cons.mpr ⟨rfl, List.forall_mem_cons.mpr ⟨rfl, List.forall_mem_nil _⟩⟩⟩⟩⟩⟩, newsT (by assumption)⟩, first_no hx (by assumption)⟩
  intro s' hM
  obtain ⟨nm, tn, st, ts, ta, tt, hM, hnm, hst, hta⟩ := hM.out
  obtain ⟨h4, tk4, m4, rfl, F4, N4⟩ := hM.out
  clear F3 N3 hM
  simp only [List.drop_succ_cons, List.drop_zero]
  have hnk : Okay 64 nm := hx.sub (by rw [hnm]; exact body_sub _)
  have hnl := hnk.1
  have htk : Okay 64 ta := hx.sub (by rw [hta]; exact (List.drop_sublist _ _).trans (star_sub _))
  have htl := htk.1
  have hsl : st.length ≤ 64 := by rw [← tl_len, hst]; split <;> decide
  refine cut_execs 2 (fun s' => Hid (∃ tz, MidP s g2 L2 [(Str.ofString "line", .str x t), (Str.ofString "kinds", .ref d), (Str.ofString "check", .bool strict), (Str.ofString "nmea_str", .str nm tn), (Str.ofString "star", .str st ts), (Str.ofString "tail", .str ta tt), (Str.ofString "size", .int ((sizeL (bodyL (tl x))).getD 0 : Nat) tz)] ((d, o) :: (kl, listOf kvs.toArray kn) :: news) s')) ?_ ?_
  · simp only [List.take_succ_cons, List.take_zero]
    have hnb := congrArg sizeL hnm
    rw [← hnm]
    refine cut_execs 1 (fun s' => Hid (∃ tz0, MidP s g2 L2 [(Str.ofString "line", .str x t), (Str.ofString "kinds", .ref d), (Str.ofString "check", .bool strict), (Str.ofString "nmea_str", .str nm tn), (Str.ofString "star", .str st ts), (Str.ofString "tail", .str ta tt), (Str.ofString "size", .int 0 tz0)] ((d, o) :: (kl, listOf kvs.toArray kn) :: news) s')) ?_ ?_
    · simp only [List.take_succ_cons, List.take_zero]
      k_steps
      all_goals (try dsimp only)
      exact Hid.mk ⟨_, _, _, _, rfl, by assumption, List.forall_mem_cons.mpr ⟨rfl, List.forall_mem_cons.mpr ⟨rfl, List.forall_mem_cons.mpr ⟨rfl, List.forall_mem_cons.mpr ⟨rfl, List.forall_mem_cons.mpr ⟨rfl, List.forall_mem_cons.mpr ⟨rfl, List.forall_mem_cons.mpr ⟨rfl, List.forall_mem_nil _⟩⟩⟩⟩⟩⟩⟩, by assumption⟩
    intro s' hM
    obtain ⟨tz0, hM⟩ := hM.out
    obtain ⟨i0, tki0, mi0, rfl, FI0, NI0⟩ := hM.out
    clear F4 N4 hM
    simp only [List.drop_succ_cons, List.drop_zero]
    refine wpAny_execs_cons ?_
    refine if_cut (fun b s' => Hid (b = c1L (tl nm) ∧ MidP s g2 L2 [(Str.ofString "line", .str x t), (Str.ofString "kinds", .ref d), (Str.ofString "check", .bool strict), (Str.ofString "nmea_str", .str nm tn), (Str.ofString "star", .str st ts), (Str.ofString "tail", .str ta tt), (Str.ofString "size", .int 0 tz0)] ((d, o) :: (kl, listOf kvs.toArray kn) :: news) s')) ?_ ?_ ?_
    · k_steps
      all_goals (try dsimp only)
      all_goals (refine Hid.mk ⟨?_, ⟨_, _, _, rfl, by assumption, List.forall_mem_cons.mpr ⟨rfl, List.forall_mem_cons.mpr ⟨rfl, List.forall_mem_cons.mpr ⟨rfl, List.forall_mem_cons.mpr ⟨rfl, List.forall_mem_cons.mpr ⟨rfl, List.forall_mem_cons.mpr ⟨rfl, List.forall_mem_cons.mpr ⟨rfl, List.forall_mem_nil _⟩⟩⟩⟩⟩⟩⟩, by first | assumption | exact newsT (by assumption)⟩⟩)
      all_goals first | exact c1_t (by with_reducible assumption) (by rw [← wl1]; with_reducible assumption) | exact c1_f2 (by rw [← wl1]; with_reducible assumption) | exact c1_f1 (by with_reducible assumption)
    · intro s' hM
      obtain ⟨hc1, hM⟩ := hM.out
      obtain ⟨i1, tki1, mi1, rfl, FI1, NI1⟩ := hM.out
      clear FI0 NI0 hM
      rw [show (sizeL (tl nm)) = some 4 by rw [sizeL_eq, ← hc1]; rfl]
      k_steps
      all_goals (try dsimp only)
      all_goals exact Hid.mk ⟨_, _, _, _, rfl, by assumption, List.forall_mem_cons.mpr ⟨rfl, List.forall_mem_cons.mpr ⟨rfl, List.forall_mem_cons.mpr ⟨rfl, List.forall_mem_cons.mpr ⟨rfl, List.forall_mem_cons.mpr ⟨rfl, List.forall_mem_cons.mpr ⟨rfl, List.forall_mem_cons.mpr ⟨rfl, List.forall_mem_nil _⟩⟩⟩⟩⟩⟩⟩, by assumption⟩
    · intro s' hM
      obtain ⟨hc1, hM⟩ := hM.out
      obtain ⟨i1, tki1, mi1, rfl, FI1, NI1⟩ := hM.out
      clear FI0 NI0 hM
      refine wpAny_execs_cons ?_
      refine if_cut (fun b s' => Hid (b = c2L (tl nm) ∧ MidP s g2 L2 [(Str.ofString "line", .str x t), (Str.ofString "kinds", .ref d), (Str.ofString "check", .bool strict), (Str.ofString "nmea_str", .str nm tn), (Str.ofString "star", .str st ts), (Str.ofString "tail", .str ta tt), (Str.ofString "size", .int 0 tz0)] ((d, o) :: (kl, listOf kvs.toArray kn) :: news) s')) ?_ ?_ ?_
      · k_steps
        all_goals (try dsimp only)
        all_goals (refine Hid.mk ⟨?_, ⟨_, _, _, rfl, by assumption, List.forall_mem_cons.mpr ⟨rfl, List.forall_mem_cons.mpr ⟨rfl, List.forall_mem_cons.mpr ⟨rfl, List.forall_mem_cons.mpr ⟨rfl, List.forall_mem_cons.mpr ⟨rfl, List.forall_mem_cons.mpr ⟨rfl, List.forall_mem_cons.mpr ⟨rfl, List.forall_mem_nil _⟩⟩⟩⟩⟩⟩⟩, by first | assumption | exact newsT (by assumption)⟩⟩)
        all_goals first | exact c2_t (by rw [← wl3]; with_reducible assumption) (by with_reducible assumption) (by rw [← wl2]; with_reducible assumption) | exact c2_f2 (by rw [← wl2]; with_reducible assumption) | exact c2_f1 (by with_reducible assumption) | exact c2_f0 (by rw [← wl3]; with_reducible assumption)
      · intro s' hM
        obtain ⟨hc2, hM⟩ := hM.out
        obtain ⟨i2, tki2, mi2, rfl, FI2, NI2⟩ := hM.out
        clear FI1 NI1 hM
        rw [show (sizeL (tl nm)) = some 9 by rw [sizeL_eq, ← hc1, ← hc2]; rfl]
        k_steps
        all_goals (try dsimp only)
        all_goals exact Hid.mk ⟨_, _, _, _, rfl, by assumption, List.forall_mem_cons.mpr ⟨rfl, List.forall_mem_cons.mpr ⟨rfl, List.forall_mem_cons.mpr ⟨rfl, List.forall_mem_cons.mpr ⟨rfl, List.forall_mem_cons.mpr ⟨rfl, List.forall_mem_cons.mpr ⟨rfl, List.forall_mem_cons.mpr ⟨rfl, List.forall_mem_nil _⟩⟩⟩⟩⟩⟩⟩, by assumption⟩
      · intro s' hM
        obtain ⟨hc2, hM⟩ := hM.out
        obtain ⟨i2, tki2, mi2, rfl, FI2, NI2⟩ := hM.out
        clear FI1 NI1 hM
        refine wpAny_execs_cons ?_
        refine if_cut (fun b s' => Hid (b = c3L (tl nm) ∧ MidP s g2 L2 [(Str.ofString "line", .str x t), (Str.ofString "kinds", .ref d), (Str.ofString "check", .bool strict), (Str.ofString "nmea_str", .str nm tn), (Str.ofString "star", .str st ts), (Str.ofString "tail", .str ta tt), (Str.ofString "size", .int 0 tz0)] ((d, o) :: (kl, listOf kvs.toArray kn) :: news) s')) ?_ ?_ ?_
        · k_steps
          all_goals (try dsimp only)
          all_goals (refine Hid.mk ⟨?_, ⟨_, _, _, rfl, by assumption, List.forall_mem_cons.mpr ⟨rfl, List.forall_mem_cons.mpr ⟨rfl, List.forall_mem_cons.mpr ⟨rfl, List.forall_mem_cons.mpr ⟨rfl, List.forall_mem_cons.mpr ⟨rfl, List.forall_mem_cons.mpr ⟨rfl, List.forall_mem_cons.mpr ⟨rfl, List.forall_mem_nil _⟩⟩⟩⟩⟩⟩⟩, by first | assumption | exact newsT (by assumption)⟩⟩)
          all_goals first | exact c3_t (by rw [← wl4]; with_reducible assumption) (by with_reducible assumption) | exact c3_f1 (by with_reducible assumption) | exact c3_f0 (by rw [← wl4]; with_reducible assumption)
        · intro s' hM
          obtain ⟨hc3, hM⟩ := hM.out
          obtain ⟨i3, tki3, mi3, rfl, FI3, NI3⟩ := hM.out
          clear FI2 NI2 hM
          rw [show (sizeL (tl nm)) = some 6 by rw [sizeL_eq, ← hc1, ← hc2, ← hc3]; rfl]
          k_steps
          all_goals (try dsimp only)
          all_goals exact Hid.mk ⟨_, _, _, _, rfl, by assumption, List.forall_mem_cons.mpr ⟨rfl, List.forall_mem_cons.mpr ⟨rfl, List.forall_mem_cons.mpr ⟨rfl, List.forall_mem_cons.mpr ⟨rfl, List.forall_mem_cons.mpr ⟨rfl, List.forall_mem_cons.mpr ⟨rfl, List.forall_mem_cons.mpr ⟨rfl, List.forall_mem_nil _⟩⟩⟩⟩⟩⟩⟩, by assumption⟩
        · intro s' hM
          obtain ⟨hc3, hM⟩ := hM.out
          obtain ⟨i3, tki3, mi3, rfl, FI3, NI3⟩ := hM.out
          clear FI2 NI2 hM
          rw [show (sizeL (tl nm)) = none by rw [sizeL_eq, ← hc1, ← hc2, ← hc3]; rfl]
          k_steps
          all_goals (try dsimp only)
          all_goals exact Hid.mk ⟨_, _, _, _, rfl, by assumption, List.forall_mem_cons.mpr ⟨rfl, List.forall_mem_cons.mpr ⟨rfl, List.forall_mem_cons.mpr ⟨rfl, List.forall_mem_cons.mpr ⟨rfl, List.forall_mem_cons.mpr ⟨rfl, List.forall_mem_cons.mpr ⟨rfl, List.forall_mem_cons.mpr ⟨rfl, List.forall_mem_nil _⟩⟩⟩⟩⟩⟩⟩, by assumption⟩
  intro s' hM
  obtain ⟨tz, hM⟩ := hM.out
  obtain ⟨h5, tk5, m5, rfl, F5, N5⟩ := hM.out
  clear F4 N4 hM
  simp only [List.drop_succ_cons, List.drop_zero]
  refine wpAny_execs_cons ?_
  refine if_cut (fun b s' => Hid (b = (!((sizeL (bodyL (tl x))).isSome && starOk (tl x))) ∧ MidP s g2 L2 [(Str.ofString "line", .str x t), (Str.ofString "kinds", .ref d), (Str.ofString "check", .bool strict), (Str.ofString "nmea_str", .str nm tn), (Str.ofString "tail", .str ta tt), (Str.ofString "size", .int ((sizeL (bodyL (tl x))).getD 0 : Nat) tz)] ((d, o) :: (kl, listOf kvs.toArray kn) :: news) s')) ?_ ?_ ?_
  · k_steps
    all_goals (try dsimp only)
    all_goals (refine Hid.mk ⟨?_, ⟨_, _, _, rfl, by assumption, List.forall_mem_cons.mpr ⟨rfl, List.forall_mem_cons.mpr ⟨rfl, List.forall_mem_cons.mpr ⟨rfl, List.forall_mem_cons.mpr ⟨rfl, List.forall_mem_cons.mpr ⟨rfl, List.forall_mem_cons.mpr ⟨rfl, List.forall_mem_nil _⟩⟩⟩⟩⟩⟩, by assumption⟩⟩)
    · exact size_no (by with_reducible assumption)
    · exact raise_of hst hta (by with_reducible assumption) (tail_h (by with_reducible assumption) (by with_reducible assumption))
    · exact raise_of hst hta (by with_reducible assumption) (tail_b htk (by with_reducible assumption) (by with_reducible assumption))
    · exact pass_of hst hta (by with_reducible assumption) (by with_reducible assumption) (tail_g htk (by with_reducible assumption) (by with_reducible assumption) (by with_reducible assumption))
    · exact raise_of hst hta (by with_reducible assumption) (tail_s (by with_reducible assumption))
    · exact star_not hst (by with_reducible assumption) (by with_reducible assumption)
  · intro s' hM
    obtain ⟨hb, hM⟩ := hM.out
    obtain ⟨h6, tk6, m6, rfl, F6, N6⟩ := hM.out
    clear F5 N5 hM
    refine wpAny_execs_cons ?_
    k_steps
    exact ret1 _ _ _ _ _ _ _ (due_raise hb) (by assumption) (by assumption) (by assumption) (fun _ hp => .tail _ hp)
  intro s' hM
  obtain ⟨hb, hM⟩ := hM.out
  obtain ⟨h6, tk6, m6, rfl, F6, N6⟩ := hM.out
  clear F5 N5 hM
  obtain ⟨hso, z, hz⟩ := due_goes hb
  rw [hz] at F6
  simp only [Option.getD_some] at F6
  have hzb : z ≤ 9 := by rcases sizeL_cases hz with rfl | rfl | rfl <;> decide
  k_steps
  refine Hid.mk ?_
  refine cut_execs 2 (fun s' => Hid (∃ S tS D tD C tC P vs n, MidP s g2 L2 [(Str.ofString "line", .str x t), (Str.ofString "kinds", .ref d), (Str.ofString "check", .bool strict), (Str.ofString "nmea_str", .str nm tn), (Str.ofString "sentence_type", .str S tS), (Str.ofString "data_str", .str D tD), (Str.ofString "checksum", .str C tC), (Str.ofString "data", .ref P)] ((P, listOf vs.toArray n) :: (d, o) :: (kl, listOf kvs.toArray kn) :: news) s' ∧ tl S = ((tl nm).take z).map up1 ∧ tl D = (tl nm).drop z ∧ tl C = (tl ta).take 2 ∧ DatAll [] vs ((partsL ((tl nm).drop z)).map dL))) ?_ ?_
  · simp only [List.take_succ_cons, List.take_zero]
    refine wpAny_execs_cons ?_
    k_steps
    all_goals (try dsimp only)
    exact Hid.mk ⟨_, _, _, _, _, _, _, _, 0, ⟨_, _, _, rfl, by assumption, List.forall_mem_cons.mpr ⟨rfl, List.forall_mem_cons.mpr ⟨rfl, List.forall_mem_cons.mpr ⟨rfl, List.forall_mem_cons.mpr ⟨rfl, List.forall_mem_cons.mpr ⟨rfl, List.forall_mem_cons.mpr ⟨rfl, List.forall_mem_cons.mpr ⟨rfl, List.forall_mem_cons.mpr ⟨rfl, List.forall_mem_nil _⟩⟩⟩⟩⟩⟩⟩⟩, newsX (by assumption)⟩, by rw [tl_upper (hnk.slice_to z).ascii, slice_to], slice_from _ _, slice_to _ 2, dat_split (by assumption) (slice_from _ _)⟩
  intro s' hM
  obtain ⟨S, tS, D, tD, C, tC, P, vs, n, hM, hS, hD, hC, hvs⟩ := hM.out
  obtain ⟨h7, tk7, m7, rfl, F7, N7⟩ := hM.out
  clear F6 N6 hM
  simp only [List.drop_succ_cons, List.drop_zero]
  have hSl : S.length ≤ 9 := by rw [← tl_len, hS, List.length_map, List.length_take]; omega
  have hDk : Okay 64 D := hnk.sub (by rw [hD]; exact List.drop_sublist _ _)
  have hDl := hDk.1
  have hCk : Okay 64 C := htk.sub (by rw [hC]; exact List.take_sublist _ _)
  have hCl : C.length ≤ 2 := by rw [← tl_len, hC, List.length_take]; omega
  refine cut_execs 1 (fun s' => Hid (MidP s g2 L2 [(Str.ofString "line", .str x t), (Str.ofString "kinds", .ref d), (Str.ofString "sentence_type", .str S tS), (Str.ofString "data_str", .str D tD), (Str.ofString "data", .ref P)] ((P, listOf vs.toArray n) :: (d, o) :: (kl, listOf kvs.toArray kn) :: news) s' ∧ sumGood (tl x) strict = true)) ?_ ?_
  · simp only [List.take_succ_cons, List.take_zero]
    by_cases hs1 : starL (tl x) = []
    · have hC0 : (C.length : Int) = 0 := by rw [len0, hC, hta, hs1]; rfl
      cases strict
      · k_steps
        all_goals (try dsimp only)
        all_goals first
          | exact absurd hC0 (by assumption)
          | exact Hid.mk ⟨⟨_, _, _, rfl, by assumption, List.forall_mem_cons.mpr ⟨rfl, List.forall_mem_cons.mpr ⟨rfl, List.forall_mem_cons.mpr ⟨rfl, List.forall_mem_cons.mpr ⟨rfl, List.forall_mem_cons.mpr ⟨rfl, List.forall_mem_nil _⟩⟩⟩⟩⟩, by assumption⟩, by rw [sum_none hs1]; rfl⟩
      · k_steps
        all_goals first
          | exact absurd hC0 (by assumption)
          | exact ret1 _ _ _ _ _ _ _ (due_sum hso hz (by rw [sum_none hs1]; rfl)) (by assumption) (by assumption) (by assumption) (fun _ h => .tail _ (.tail _ h))
    · have hT : tailOk (tl ta) = true := by rw [hta, ← starOk_of hs1]; exact hso
      have hnb : Okay 64 nm ∧ True := ⟨hnk, trivial⟩
      have hC0 : (C.length : Int) ≠ 0 := fun z => by
        have := len0.mp z
        rw [hC] at this
        cases h : tl ta with
        | nil => rw [h] at hT; cases hT
        | cons a r => rw [h] at this; cases this
      k_steps
      all_goals (try dsimp only)
      all_goals (try exact absurd (by assumption) hC0)
      · k_steps
        exact ret1 _ _ _ _ _ _ _ (due_sum hso hz (by rw [sum_some hs1, ← sumL_codes hnm, ← hta]; exact decide_eq_false (by assumption))) (by assumption) (by assumption) (by assumption) (fun _ h => .tail _ (.tail _ (.tail _ h)))
      · exact Hid.mk ⟨⟨_, _, _, rfl, by assumption, List.forall_mem_cons.mpr ⟨rfl, List.forall_mem_cons.mpr ⟨rfl, List.forall_mem_cons.mpr ⟨rfl, List.forall_mem_cons.mpr ⟨rfl, List.forall_mem_cons.mpr ⟨rfl, List.forall_mem_nil _⟩⟩⟩⟩⟩, by assumption⟩, by rw [sum_some hs1, ← sumL_codes hnm, ← hta]; exact decide_eq_true (by assumption)⟩
  intro s' hM
  obtain ⟨hM, hsg⟩ := hM.out
  obtain ⟨h8, tk8, m8, rfl, F8, N8⟩ := hM.out
  clear F7 N7 hM
  simp only [List.drop_succ_cons, List.drop_zero]
  have hdue := due_rest (w := hasW) hso hz hsg
  have hzl := size_len hz
  have hvl : vs.length ≤ 66 := by rw [hvs.length, List.length_map]; exact Nat.le_trans (partsL_len _) (by rw [List.length_drop, tl_len]; omega)
  rcases sizeL_cases hz with rfl | rfl | rfl
  · have e5 := s5_no hS (by rw [hnm]; exact hzl) (by decide)
    have e46 := s46_no hS (by rw [hnm]; exact hzl)
    have eL : (S.length : Int) = 4 := by rw [szS hS (by rw [hnm]; exact hzl)]; rfl
    have hnoK := kind_four (y := S) (hasW := hasW) (by omega)
    have hvsM : ∀ c, DatAll [c] vs ((partsL ((tl nm).drop 4)).map dL) := fun c => DatAll.mono (news := []) (fun _ hp => nomatch hp) hvs
    refine wpAny_execs_cons ?_
    refine if_cut (fun b s' => Hid (b = false ∧ MidP s g2 L2 [(Str.ofString "line", .str x t), (Str.ofString "kinds", .ref d), (Str.ofString "sentence_type", .str S tS), (Str.ofString "data_str", .str D tD), (Str.ofString "data", .ref P)] ((P, listOf vs.toArray n) :: (d, o) :: (kl, listOf kvs.toArray kn) :: news) s')) ?_ ?_ ?_
    · k_steps
      all_goals (try dsimp only)
      all_goals first
        | exact Hid.mk ⟨e5, _, _, _, rfl, by assumption, List.forall_mem_cons.mpr ⟨rfl, List.forall_mem_cons.mpr ⟨rfl, List.forall_mem_cons.mpr ⟨rfl, List.forall_mem_cons.mpr ⟨rfl, List.forall_mem_cons.mpr ⟨rfl, List.forall_mem_nil _⟩⟩⟩⟩⟩, by assumption⟩
        | exact Bool.noConfusion (e5.symm.trans (by assumption))
    · intro s' hM
      exact absurd hM.out.1 (by decide)
    · intro s' hM
      obtain ⟨-, hM⟩ := hM.out
      obtain ⟨h9, tk9, m9, rfl, F9, N9⟩ := hM.out
      clear F8 N8 hM
      refine wpAny_execs_nil ?_
      dsimp only
      refine wpAny_execs_cons ?_
      refine if_cut (fun b s' => Hid (b = false ∧ MidP s g2 L2 [(Str.ofString "line", .str x t), (Str.ofString "kinds", .ref d), (Str.ofString "sentence_type", .str S tS), (Str.ofString "data_str", .str D tD), (Str.ofString "data", .ref P)] ((P, listOf vs.toArray n) :: (d, o) :: (kl, listOf kvs.toArray kn) :: news) s')) ?_ ?_ ?_
      · k_steps
        all_goals (try dsimp only)
        all_goals first
          | exact Hid.mk ⟨rfl, _, _, _, rfl, by assumption, List.forall_mem_cons.mpr ⟨rfl, List.forall_mem_cons.mpr ⟨rfl, List.forall_mem_cons.mpr ⟨rfl, List.forall_mem_cons.mpr ⟨rfl, List.forall_mem_cons.mpr ⟨rfl, List.forall_mem_nil _⟩⟩⟩⟩⟩, by assumption⟩
          | exact Bool.noConfusion (e46.symm.trans (by assumption))
      · intro s' hM
        exact absurd hM.out.1 (by decide)
      · intro s' hM
        obtain ⟨-, hM⟩ := hM.out
        obtain ⟨h10, tk10, m10, rfl, F10, N10⟩ := hM.out
        clear F9 N9 hM
        refine wpAny_execs_nil ?_
        dsimp only
        refine wpAny_execs_cons ?_
        refine if_cut (fun b s' => Hid (b = true ∧ MidP s g2 L2 [(Str.ofString "line", .str x t), (Str.ofString "kinds", .ref d), (Str.ofString "sentence_type", .str S tS), (Str.ofString "data_str", .str D tD), (Str.ofString "data", .ref P)] ((P, listOf vs.toArray n) :: (d, o) :: (kl, listOf kvs.toArray kn) :: news) s')) ?_ ?_ ?_
        · k_steps
          all_goals (try dsimp only)
          all_goals first
            | exact Hid.mk ⟨rfl, _, _, _, rfl, by assumption, List.forall_mem_cons.mpr ⟨rfl, List.forall_mem_cons.mpr ⟨rfl, List.forall_mem_cons.mpr ⟨rfl, List.forall_mem_cons.mpr ⟨rfl, List.forall_mem_cons.mpr ⟨rfl, List.forall_mem_nil _⟩⟩⟩⟩⟩, by assumption⟩
            | exact Hid.mk ⟨decide_eq_true eL, _, _, _, rfl, by assumption, List.forall_mem_cons.mpr ⟨rfl, List.forall_mem_cons.mpr ⟨rfl, List.forall_mem_cons.mpr ⟨rfl, List.forall_mem_cons.mpr ⟨rfl, List.forall_mem_cons.mpr ⟨rfl, List.forall_mem_nil _⟩⟩⟩⟩⟩, by assumption⟩
            | exact absurd eL (by assumption)
        · intro s' hM
          obtain ⟨-, hM⟩ := hM.out
          obtain ⟨h11, tk11, m11, rfl, F11, N11⟩ := hM.out
          clear F10 N10 hM
          k_steps
          all_goals (try dsimp only)
          exact retG _ _ _ _ _ _ _ _ (hdue.trans (rest_maker hnm hS)) (by assumption) (by assumption) (by assumption) (.cons (.str _ _) (.cons (.str _ _) (.cons (.list (vs := vs) (.head _) (hvsM _)) .nil))) own_one (lt_one (by assumption : _ ∧ _ ∧ _ ∧ _ ∧ _ ∧ AllLt _ news).2.2.2.2.2) (fun _ hp => .tail _ (.tail _ (.tail _ (.tail _ (.tail _ hp)))))
        · intro s' hM
          exact absurd hM.out.1 (by decide)
  · have e5 := s5_no hS (by rw [hnm]; exact hzl) (by decide)
    have e46 := s46_yes hS (by rw [hnm]; exact hz)
    have eL : (S.length : Int) = 9 := by rw [szS hS (by rw [hnm]; exact hzl)]; rfl
    have eL4 : ¬ (S.length : Int) = 4 := by omega
    have hSA : ∀ c ∈ S.cps.toList, c < 128 := fun c hc => by
      have hc : c ∈ tl S := hc
      rw [hS] at hc
      obtain ⟨k, hk, rfl⟩ := List.mem_map.mp hc
      exact up1_lt k (hnk.ascii k (List.mem_of_mem_take hk))
    refine wpAny_execs_cons ?_
    refine if_cut (fun b s' => Hid (b = false ∧ MidP s g2 L2 [(Str.ofString "line", .str x t), (Str.ofString "kinds", .ref d), (Str.ofString "sentence_type", .str S tS), (Str.ofString "data_str", .str D tD), (Str.ofString "data", .ref P)] ((P, listOf vs.toArray n) :: (d, o) :: (kl, listOf kvs.toArray kn) :: news) s')) ?_ ?_ ?_
    · k_steps
      all_goals (try dsimp only)
      all_goals first
        | exact Hid.mk ⟨e5, _, _, _, rfl, by assumption, List.forall_mem_cons.mpr ⟨rfl, List.forall_mem_cons.mpr ⟨rfl, List.forall_mem_cons.mpr ⟨rfl, List.forall_mem_cons.mpr ⟨rfl, List.forall_mem_cons.mpr ⟨rfl, List.forall_mem_nil _⟩⟩⟩⟩⟩, by assumption⟩
        | exact Bool.noConfusion (e5.symm.trans (by assumption))
    · intro s' hM
      exact absurd hM.out.1 (by decide)
    · intro s' hM
      obtain ⟨-, hM⟩ := hM.out
      obtain ⟨h9, tk9, m9, rfl, F9, N9⟩ := hM.out
      clear F8 N8 hM
      refine wpAny_execs_nil ?_
      dsimp only
      refine wpAny_execs_cons ?_
      refine if_cut (fun b s' => Hid (b = decide ((D.length : Int) = 0) ∧ MidP s g2 L2 [(Str.ofString "line", .str x t), (Str.ofString "kinds", .ref d), (Str.ofString "sentence_type", .str S tS), (Str.ofString "data_str", .str D tD), (Str.ofString "data", .ref P)] ((P, listOf vs.toArray n) :: (d, o) :: (kl, listOf kvs.toArray kn) :: news) s')) ?_ ?_ ?_
      · k_steps
        all_goals (try dsimp only)
        all_goals first
          | exact Hid.mk ⟨(decide_eq_false (by assumption)).symm, _, _, _, rfl, by assumption, List.forall_mem_cons.mpr ⟨rfl, List.forall_mem_cons.mpr ⟨rfl, List.forall_mem_cons.mpr ⟨rfl, List.forall_mem_cons.mpr ⟨rfl, List.forall_mem_cons.mpr ⟨rfl, List.forall_mem_nil _⟩⟩⟩⟩⟩, by assumption⟩
          | exact Hid.mk ⟨(decide_eq_true (by assumption)).symm, _, _, _, rfl, by assumption, List.forall_mem_cons.mpr ⟨rfl, List.forall_mem_cons.mpr ⟨rfl, List.forall_mem_cons.mpr ⟨rfl, List.forall_mem_cons.mpr ⟨rfl, List.forall_mem_cons.mpr ⟨rfl, List.forall_mem_nil _⟩⟩⟩⟩⟩, by assumption⟩
          | exact absurd eL (by assumption)
          | exact Bool.noConfusion (e46.symm.trans (by assumption))
      · intro s' hM
        obtain ⟨hb, hM⟩ := hM.out
        have hD0 : (D.length : Int) = 0 := of_decide_eq_true hb.symm
        obtain ⟨h10, tk10, m10, rfl, F10, N10⟩ := hM.out
        clear F9 N9 hM
        k_steps
        all_goals (try dsimp only)
        exact retG _ _ _ _ _ _ _ _ (hdue.trans (rest_question hnm hS (by rw [← hD]; exact len0.mp hD0))) (by assumption) (by assumption) (by assumption) (.cons (.str _ _) (.cons (.str _ _) (.cons (.str _ _) (.cons (.str _ _) (.cons (.list (vs := []) (.head _) .nil) .nil))))) own_one (lt_one (by assumption : _ ∧ _ ∧ _ ∧ _ ∧ _ ∧ _ ∧ AllLt _ news).2.2.2.2.2.2) (fun _ hp => .tail _ (.tail _ (.tail _ (.tail _ (.tail _ (.tail _ hp))))))
      · intro s' hM
        obtain ⟨hb, hM⟩ := hM.out
        have hD0 : ¬ (D.length : Int) = 0 := of_decide_eq_false hb.symm
        obtain ⟨h10, tk10, m10, rfl, F10, N10⟩ := hM.out
        clear F9 N9 hM
        refine wpAny_execs_nil ?_
        dsimp only
        refine wpAny_execs_cons ?_
        refine if_cut (fun b s' => Hid (b = false ∧ MidP s g2 L2 [(Str.ofString "line", .str x t), (Str.ofString "sentence_type", .str S tS)] ((P, listOf vs.toArray n) :: (d, o) :: (kl, listOf kvs.toArray kn) :: news) s')) ?_ ?_ ?_
        · k_steps
          all_goals (try dsimp only)
          all_goals first
            | exact absurd (by assumption) eL4
            | exact Hid.mk ⟨rfl, _, _, _, rfl, by assumption, List.forall_mem_cons.mpr ⟨rfl, List.forall_mem_cons.mpr ⟨rfl, List.forall_mem_nil _⟩⟩, by assumption⟩
            | exact Hid.mk ⟨decide_eq_false eL4, _, _, _, rfl, by assumption, List.forall_mem_cons.mpr ⟨rfl, List.forall_mem_cons.mpr ⟨rfl, List.forall_mem_nil _⟩⟩, by assumption⟩
        · intro s' hM
          exact absurd hM.out.1 (by decide)
        intro s' hM
        obtain ⟨-, hM⟩ := hM.out
        obtain ⟨h11, tk11, m11, rfl, F11, N11⟩ := hM.out
        clear F10 N10 hM
        k_steps
        all_goals (try dsimp only)
        exact ret1 _ _ _ _ _ _ _ (hdue.trans (rest_no hnm (fun e => hD0 (len0.mpr (hD.trans e))))) (by assumption) (by assumption) (by assumption) (fun _ h => .tail _ (.tail _ h))
  · have e5 := s5_yes hS (by rw [hnm]; exact hz)
    refine wpAny_execs_cons ?_
    refine if_cut (fun b s' => Hid (b = true ∧ MidP s g2 L2 [(Str.ofString "line", .str x t), (Str.ofString "kinds", .ref d), (Str.ofString "sentence_type", .str S tS), (Str.ofString "data_str", .str D tD), (Str.ofString "data", .ref P)] ((P, listOf vs.toArray n) :: (d, o) :: (kl, listOf kvs.toArray kn) :: news) s')) ?_ ?_ ?_
    · k_steps
      all_goals (try dsimp only)
      all_goals first
        | exact Hid.mk ⟨e5, _, _, _, rfl, by assumption, List.forall_mem_cons.mpr ⟨rfl, List.forall_mem_cons.mpr ⟨rfl, List.forall_mem_cons.mpr ⟨rfl, List.forall_mem_cons.mpr ⟨rfl, List.forall_mem_cons.mpr ⟨rfl, List.forall_mem_nil _⟩⟩⟩⟩⟩, by assumption⟩
        | exact Bool.noConfusion (e5.symm.trans (by assumption))
    · intro s' hM
      obtain ⟨-, hM⟩ := hM.out
      obtain ⟨h9, tk9, m9, rfl, F9, N9⟩ := hM.out
      clear F8 N8 hM
      rcases kind_cases (Txt.slice S (some (2 : Int)) (some (5 : Int))) hasW with ⟨hK, hW, hy⟩ | ⟨hK, hy⟩ | ⟨hK, hk0⟩
      · have hvsM : ∀ c, DatAll [c] vs ((partsL ((tl nm).drop 6)).map dL) := fun c => DatAll.mono (news := []) (fun _ hp => nomatch hp) hvs
        k_steps
        all_goals (try dsimp only)
        exact retG _ _ _ _ _ _ _ _ (hdue.trans (rest_talkerK hnm hS hy (by rw [tl_WPL, hW]; rfl))) (by assumption) (by assumption) (by assumption) (.cons (.str _ _) (.cons (.str _ _) (.cons (.str _ _) (.cons (.str _ _) (.cons (.list (vs := vs) (.head _) (hvsM _)) .nil))))) own_one (lt_one (by assumption : _ ∧ _ ∧ _ ∧ _ ∧ _ ∧ _ ∧ AllLt _ news).2.2.2.2.2.2) (fun _ hp => .tail _ (.tail _ (.tail _ (.tail _ (.tail _ (.tail _ hp))))))
      · have hvsM : ∀ c, DatAll [c] vs ((partsL ((tl nm).drop 6)).map dL) := fun c => DatAll.mono (news := []) (fun _ hp => nomatch hp) hvs
        k_steps
        all_goals (try dsimp only)
        exact retG _ _ _ _ _ _ _ _ (hdue.trans (rest_talkerK hnm hS hy (by rw [tl_TXT]; rfl))) (by assumption) (by assumption) (by assumption) (.cons (.str _ _) (.cons (.str _ _) (.cons (.str _ _) (.cons (.str _ _) (.cons (.list (vs := vs) (.head _) (hvsM _)) .nil))))) own_one (lt_one (by assumption : _ ∧ _ ∧ _ ∧ _ ∧ _ ∧ _ ∧ AllLt _ news).2.2.2.2.2.2) (fun _ hp => .tail _ (.tail _ (.tail _ (.tail _ (.tail _ (.tail _ hp))))))
      · k_steps
        all_goals (try dsimp only)
        exact ret1 _ _ _ _ _ _ _ (hdue.trans (rest_kind hnm hS hk0)) (by assumption) (by assumption) (by assumption) (fun _ h => .tail _ (.tail _ (.tail _ h)))
    · intro s' hM
      exact absurd hM.out.1 (by decide)
end
end Mine
end
section
open PySem PySem.W PySem.Calls PyProof.Rows PySem.Spec
set_option Elab.async false
set_option maxRecDepth 100000
set_option maxHeartbeats 4000000
set_option linter.unusedVariables false
namespace Mine
theorem str_ok {l : List Nat} {n : Nat} (h : ∀ c ∈ l, c < 128) : kqdOk n (dL l) = true := by
  have : Asc ⟨l.toArray⟩ := fun c hc => h c hc
  cases n <;> exact this.ok
theorem parts_okN {l : List Nat} {n : Nat} (h : ∀ c ∈ l, c < 128) : kqdOk (n + 1) (.list ((partsL l).map dL)) = true := by
  show List.all _ _ = true
  rw [List.all_eq_true]
  intro d hd
  obtain ⟨p, hp, rfl⟩ := List.mem_map.mp hd
  exact str_ok fun c hc => h c (partsL_mem hp c hc)
theorem rest_ok {b : List Nat} {z : Nat} {w : Bool} (h : ∀ c ∈ b, c < 128) : kqdOk 8 (restD b z w) = true := by
  have hh : ∀ c ∈ (b.take z).map up1, c < 128 := fun c hc => by
    obtain ⟨k, hk, rfl⟩ := List.mem_map.mp hc
    exact up1_lt k (h k (List.mem_of_mem_take hk))
  have hp : kqdOk 7 (.list ((partsL (b.drop z)).map dL)) = true := parts_okN fun c hc => h c (List.mem_of_mem_drop hc)
  have s1 : ∀ n, kqdOk 7 (dL (((b.take z).map up1).drop n)) = true := fun n => str_ok fun c hc => hh c (List.mem_of_mem_drop hc)
  have s2 : ∀ n, kqdOk 7 (dL (((b.take z).map up1).take n)) = true := fun n => str_ok fun c hc => hh c (List.mem_of_mem_take hc)
  have s3 : ∀ n k, kqdOk 7 (dL ((((b.take z).map up1).drop n).take k)) = true := fun n k => str_ok fun c hc => hh c (List.mem_of_mem_drop (List.mem_of_mem_take hc))
  have t1 : kqdOk 7 (dS "maker") = true := by decide +kernel
  have t2 : kqdOk 7 (dS "talker") = true := by decide +kernel
  have t3 : kqdOk 7 (dS "question") = true := by decide +kernel
  have t4 : kqdOk 8 kindR = true := by decide +kernel
  have t5 : kqdOk 8 noS = true := by decide +kernel
  have t6 : kqdOk 7 (.list []) = true := by decide +kernel
  have l8 : ∀ ds : List Dat, ds.all (kqdOk 7) = true → kqdOk 8 (.list ds) = true := fun _ h => h
  unfold restD
  dsimp only
  split
  · refine l8 _ ?_
    simp only [List.all_cons, List.all_nil, t1, s1, hp, Bool.and_self]
  · split
    · split
      · refine l8 _ ?_
        simp only [List.all_cons, List.all_nil, t2, s2, s3, hp, Bool.and_self]
      · exact t4
    · split
      · refine l8 _ ?_
        simp only [List.all_cons, List.all_nil, t3, s1, s2, s3, t6, Bool.and_self]
      · exact t5
theorem due_ok {l : List Nat} {s w : Bool} (h : ∀ c ∈ l, c < 128) : kqdOk 8 (dueD l s w) = true := by
  have t5 : kqdOk 8 noS = true := by decide +kernel
  have t6 : kqdOk 8 sumR = true := by decide +kernel
  unfold dueD
  split
  · exact t5
  · split
    · exact t5
    · split
      · exact t6
      · exact rest_ok fun c hc => h c ((body_sub l).subset hc)
theorem news_sub {h₀ h : Heap} {L : Addr} {l l' : List (Addr × Obj)} (N : News h₀ L h l) (hs : ∀ p ∈ l', p ∈ l) : News h₀ L h l' := fun p hp => N p (hs p hp)
def offD (D : Addr) (l : List (Addr × Obj)) : List (Addr × Obj) := l.filter fun p => decide (p.1 ≠ D)
theorem mem_off {D : Addr} {l : List (Addr × Obj)} {p : Addr × Obj} : p ∈ offD D l ↔ p ∈ l ∧ p.1 ≠ D := by
  unfold offD
  rw [List.mem_filter, decide_eq_true_eq]
section
variable {prog : Program} {w : World} {A : Around} {E : Value → Shared → Prop} {s : Shared} {h₀ : Heap} {L D : Addr} {m : Str → Option Value} {news : List (Addr × Obj)}
theorem append_at {us : List Value} {v : Value} {n : Nat} {Q : Value → Shared → Prop} (F : Fr h₀ L s.heap m) (N : News h₀ L s.heap news) (hm : (D, listOf us.toArray n) ∈ news) (hz : us.length ≤ 1000)
    (h : ∀ h', Fr h₀ L h' m → News h₀ L h' ((D, listOf (us ++ [v]).toArray (n + 1)) :: offD D news) → Q .none { s with heap := h' }) :
    wpAny (model prog w) A (call (.builtin "list.append") [.ref D, v]) Q E s :=
  append_N F (news_sub N fun p hp => by
    rcases List.mem_cons.mp hp with rfl | hp
    · exact hm
    · exact (mem_off.mp hp).1) (fun p hp => (mem_off.mp hp).2) hz h
end
section
variable {prog : Program} {w : World} {A : Around} {E : Value → Shared → Prop} {s : Shared} {h₀ : Heap} {env : Env} {target : PySem.Expr} {body : List Stmt} {Q : Flow → Shared → Prop}
/-- a loop over written values, by what holds between the turns -/
theorem items_inv {I : Addr} {keep : List (Addr × Obj)} {n : Nat} {vs : List Value} (Inv : Nat → (Str → Option Value) → List (Addr × Obj) → Prop)
    (step : ∀ j v m news h tk o, j < n → v ∈ vs → Inv j m news → o.cls = .type "tuple_iterator" → Fr h₀ env.locals h m → News h₀ env.locals h ((I, o) :: news) →
      wpAny (model prog w) A (assign target env v) (fun _ s₂ => wpAny (model prog w) A (execs body env) (UnrPostW h₀ env.locals { s with heap := h, toks := tk } [(I, o)] (fun m' n' => SubL keep n' ∧ Inv (j + 1) m' n') Q) E s₂) E { s with heap := h, toks := tk })
    (fin : ∀ m news h tk, Inv n m news → Fr h₀ env.locals h m → News h₀ env.locals h news → Q .next { s with heap := h, toks := tk }) :
    ∀ (l : List Value) (i : Nat) (m : Str → Option Value) (news : List (Addr × Obj)), i + l.length = n → (∀ v ∈ l, v ∈ vs) →
      Inv i m news → ItemsRest prog w A E h₀ env target body Q s [(I, "tuple_iterator")] keep (l.map .val) m news
  | [], i, m, news, e, _, h0 => ItemsRest.zero fun h tk F N => fin m news h tk ((show i = n from e) ▸ h0) F N
  | v :: r, i, m, news, e, hv, h0 => by
    have e : i + (r.length + 1) = n := e
    refine ItemsRest.val (fun h tk F => AllObj.cons fun o ho => AllObj.nil fun N => ?_)
    refine wpAny_mono (step i v m news h tk o (by omega) (hv v (.head _)) h0 ho F N) (fun _ s₂ hs => ?_) fun _ _ e => e
    refine wpAny_mono hs (fun f s₃ hf => ?_) fun _ _ e => e
    have go : ∀ {s₃}, UnrEndW h₀ env.locals { s with heap := h, toks := tk } [(I, o)] (fun m' n' => SubL keep n' ∧ Inv (i + 1) m' n') s₃ → UnrEndW h₀ env.locals { s with heap := h, toks := tk } [(I, o)] (fun m' n' => SubL keep n' ∧ ItemsRest prog w A E h₀ env target body Q s [(I, "tuple_iterator")] keep (r.map .val) m' n') s₃ :=
      fun ⟨h', tk', m', n', e', F', N', a, b, c⟩ => ⟨h', tk', m', n', e', F', N', a, b, items_inv Inv step fin r (i + 1) m' n' (by omega) (fun x hx => hv x (.tail _ hx)) c⟩
    cases f with
    | ret v => exact hf
    | brk => exact hf
    | next => exact go hf
    | cont => exact go hf
/-- the two lists of the law, and what else the call has made (own: what the lists hold; R: what an outer loop keeps) -/
structure Two (bs : List (Str × Value)) (as : List Addr) (I du to : Addr) (c : Nat) (m : Str → Option Value) (dv tv : List Value) (own : List (Addr × Obj)) : Prop where
  names : ∀ p ∈ bs, m p.1 = some p.2
  data : ∃ ds, DatAll own dv ds ∧ DatAll own tv ds ∧ (∀ d ∈ ds, kqdOk 8 d = true) ∧ ds.length ≤ c
  off : ∀ p ∈ own, p.1 ≠ du ∧ p.1 ≠ to ∧ p.1 ≠ I ∧ ∀ a ∈ as, p.1 ≠ a
def TwoInv (bs : List (Str × Value)) (as : List Addr) (R : List (Addr × Obj)) (T : Addr) (lo : Obj) (I du to : Addr) (c k : Nat) (i : Nat) (m : Str → Option Value) (news : List (Addr × Obj)) : Prop :=
  ∃ dv tv n1 n2 own, news = (T, lo) :: (du, listOf dv.toArray n1) :: (to, listOf tv.toArray n2) :: (R ++ own) ∧ Two bs as I du to (c + k * i) m dv tv own
theorem two_loop {bs : List (Str × Value)} {as : List Addr} {R : List (Addr × Obj)} {T du to : Addr} {lo : Obj} {vs dv tv : List Value} {n n1 n2 c k : Nat} {m : Str → Option Value} {own : List (Addr × Obj)}
    (hh : A.handled = none) (F : Fr h₀ env.locals s.heap m) (N : News h₀ env.locals s.heap ((T, lo) :: (du, listOf dv.toArray n1) :: (to, listOf tv.toArray n2) :: (R ++ own))) (hc : lo.cls = .type "tuple") (hd : lo.data = .seq vs.toArray n)
    (h0 : ∀ I, (∀ p ∈ own, p.1 ≠ I) → Two bs as I du to c m dv tv own)
    (step : ∀ (lo : Obj) I j v m h tk o dv tv n1 n2 own, j < vs.length → v ∈ vs → du ≠ I → to ≠ I → T ≠ I → (∀ q ∈ R, q.1 ≠ I) → Two bs as I du to (c + k * j) m dv tv own → o.cls = .type "tuple_iterator" → Fr h₀ env.locals h m →
      News h₀ env.locals h ((I, o) :: (T, lo) :: (du, listOf dv.toArray n1) :: (to, listOf tv.toArray n2) :: (R ++ own)) →
      wpAny (model prog w) A (assign target env v) (fun _ s₂ => wpAny (model prog w) A (execs body env) (UnrPostW h₀ env.locals { s with heap := h, toks := tk } [(I, o)] (fun m' n' => SubL [(T, lo)] n' ∧ TwoInv bs as R T lo I du to c k (j + 1) m' n') Q) E s₂) E { s with heap := h, toks := tk })
    (fin : ∀ (lo : Obj) I m h tk dv tv n1 n2 own, Two bs as I du to (c + k * vs.length) m dv tv own → Fr h₀ env.locals h m → News h₀ env.locals h ((T, lo) :: (du, listOf dv.toArray n1) :: (to, listOf tv.toArray n2) :: (R ++ own)) → Q .next { s with heap := h, toks := tk }) :
    wpAny (model prog w) A (pyIter (.ref T)) (fun it s₂ => TurnsAt prog w A h₀ env target body Q E it s₂) E s := by
  refine iter_tupTurns hh F N (.head _) hc hd fun I hI => ?_
  refine items_inv (n := vs.length) (vs := vs) (TwoInv bs as R T lo I du to c k) ?_ ?_ vs 0 m _ (Nat.zero_add _) (fun _ h => h) ⟨dv, tv, n1, n2, own, rfl, h0 I fun p hp => Nat.ne_of_lt (hI p (.tail _ (.tail _ (.tail _ (List.mem_append_right _ hp)))))⟩
  · rintro j v m news h tk o hj hv ⟨dv', tv', n1', n2', own', rfl, hi⟩ ho F' N'
    exact step lo I j v m h tk o dv' tv' n1' n2' own' hj hv (Nat.ne_of_lt (hI (du, _) (.tail _ (.head _)))) (Nat.ne_of_lt (hI (to, _) (.tail _ (.tail _ (.head _))))) (Nat.ne_of_lt (hI (T, _) (.head _)))
      (fun q hq => Nat.ne_of_lt (hI q (.tail _ (.tail _ (.tail _ (List.mem_append_left _ hq)))))) hi ho F' N'
  · rintro m news h tk ⟨dv', tv', n1', n2', own', rfl, hi⟩ F' N'
    exact fin lo I m h tk dv' tv' n1' n2' own' hi F' N'
theorem two_end {bs : List (Str × Value)} {as : List Addr} {R : List (Addr × Obj)} {T I du to L : Addr} {lo o : Obj} {dv tv : List Value} {n1 n2 c k j tk : Nat} {m' : Str → Option Value} {own all : List (Addr × Obj)} {s₁ : Shared} {h' : Heap}
    (F : Fr h₀ L h' m') (N : News h₀ L h' all) (hs : ∀ p ∈ (I, o) :: (T, lo) :: (du, listOf dv.toArray n1) :: (to, listOf tv.toArray n2) :: (R ++ own), p ∈ all)
    (h1 : du ≠ I) (h2 : to ≠ I) (h3 : T ≠ I) (h4 : ∀ q ∈ R, q.1 ≠ I) (hT : Two bs as I du to (c + k * (j + 1)) m' dv tv own) : UnrEndW h₀ L s₁ [(I, o)] (fun m' n' => SubL [(T, lo)] n' ∧ TwoInv bs as R T lo I du to c k (j + 1) m' n') { s₁ with heap := h', toks := tk } := by
  refine ⟨h', tk, m', (T, lo) :: (du, listOf dv.toArray n1) :: (to, listOf tv.toArray n2) :: (R ++ own), rfl, F, news_sub N fun p hp => hs p hp, ?_, ⟨.head _, trivial⟩, dv, tv, n1, n2, own, rfl, hT⟩
  intro p hp q hq
  rw [List.mem_singleton.mp hq]
  rcases List.mem_cons.mp hp with rfl | hp
  · exact h3
  · rcases List.mem_cons.mp hp with rfl | hp
    · exact h1
    · rcases List.mem_cons.mp hp with rfl | hp
      · exact h2
      · rcases List.mem_append.mp hp with hp | hp
        · exact h4 p hp
        · exact (hT.off p hp).2.2.1
theorem eq_two {L : Addr} {bs : List (Str × Value)} {as : List Addr} {news own : List (Addr × Obj)} {I du to : Addr} {dv tv : List Value} {n1 n2 c : Nat} {m : Str → Option Value} {Q : Value → Shared → Prop} (N : News h₀ L s.heap news)
    (h1 : (to, listOf tv.toArray n2) ∈ news) (h2 : (du, listOf dv.toArray n1) ∈ news) (hT : Two bs as I du to c m dv tv own) (hs : ∀ p ∈ own, p ∈ news) (hu : A.units + 64 < cLine) (h : Q (.bool true) s) :
    wpAny (model prog w) A (compareOp .Eq (.ref to) (.ref du)) Q E s := by
  obtain ⟨ds, hd, ht, hok, -⟩ := hT.data
  refine kqd_eq N h1 rfl rfl ht hs h2 rfl rfl hd hs hok hok hu ?_
  rw [decide_any (b := true) ⟨fun _ => rfl, fun _ => rfl⟩]
  exact h
/-- the two lists, one datum longer each -/
theorem Two.snoc {bs : List (Str × Value)} {as : List Addr} {I du to : Addr} {c c' : Nat} {m m' : Str → Option Value} {dv tv : List Value} {own own' : List (Addr × Obj)} {v v' : Value} {d : Dat} (hT : Two bs as I du to c m dv tv own)
    (hn : ∀ p ∈ bs, m' p.1 = some p.2) (hs : ∀ p ∈ own, p ∈ own') (hv : DatIn own' v d) (hv' : DatIn own' v' d) (hd : kqdOk 8 d = true) (hoff : ∀ p ∈ own', p.1 ≠ du ∧ p.1 ≠ to ∧ p.1 ≠ I ∧ ∀ a ∈ as, p.1 ≠ a) (hc : c + 1 ≤ c') : Two bs as I du to c' m' (dv ++ [v]) (tv ++ [v']) own' := by
  obtain ⟨ds, h1, h2, hok, hl⟩ := hT.data
  refine ⟨hn, ⟨ds ++ [d], (h1.mono hs).append (.cons hv .nil), (h2.mono hs).append (.cons hv' .nil), ?_, by rw [List.length_append]; exact Nat.le_trans (Nat.succ_le_succ hl) hc⟩, hoff⟩
  intro e he
  rcases List.mem_append.mp he with he | he
  · exact hok e he
  · rw [List.mem_singleton.mp he]; exact hd
/-- the same lists at another place -/
theorem Two.keep {bs bs' : List (Str × Value)} {as as' : List Addr} {I I' du to : Addr} {c c' : Nat} {m m' : Str → Option Value} {dv tv : List Value} {own : List (Addr × Obj)} (hT : Two bs as I du to c m dv tv own)
    (hn : ∀ p ∈ bs', m' p.1 = some p.2) (h : c ≤ c') (ho : ∀ p ∈ own, p.1 ≠ I' ∧ ∀ a ∈ as', p.1 ≠ a) : Two bs' as' I' du to c' m' dv tv own :=
  let ⟨ds, h1, h2, hok, hl⟩ := hT.data
  ⟨hn, ⟨ds, h1, h2, hok, Nat.le_trans hl h⟩, fun p hp => ⟨(hT.off p hp).1, (hT.off p hp).2.1, ho p hp⟩⟩
theorem Two.len {bs : List (Str × Value)} {as : List Addr} {I du to : Addr} {c : Nat} {m : Str → Option Value} {dv tv : List Value} {own : List (Addr × Obj)} (hT : Two bs as I du to c m dv tv own) (h : c ≤ 1000) : dv.length ≤ 1000 ∧ tv.length ≤ 1000 := by
  obtain ⟨ds, h1, h2, -, hl⟩ := hT.data
  rw [h1.length, h2.length]
  omega
theorem led1 {α : Type} {t d o r i u : α} {l : List α} : ∀ p ∈ t :: d :: o :: i :: u :: l, p ∈ t :: r :: i :: u :: d :: o :: l := by
  intro p hp
  simp only [List.mem_cons] at hp ⊢
  rcases hp with h | h | h | h | h | h <;> simp only [h, true_or, or_true]
theorem led2 {α : Type} {t d o i u : α} {l : List α} : ∀ p ∈ i :: u :: d :: o :: ([] ++ l), p ∈ t :: d :: o :: i :: u :: l := by
  intro p hp
  simp only [List.nil_append, List.mem_cons] at hp ⊢
  rcases hp with h | h | h | h | h <;> simp only [h, true_or, or_true]
theorem led3 {own1 own : List (Addr × Obj)} {kl du to I2 T2 I T1 : Addr} {a x x0 b c d e f : Obj} (hk : kl ≠ du) (ht : to ≠ du) (hI2 : I2 ≠ du) (hT2 : T2 ≠ du) (hI : I ≠ du) (hT1 : T1 ≠ du) (ho1 : ∀ p ∈ own1, p.1 ≠ du) (ho : ∀ p ∈ own, p.1 ≠ du) :
    ∀ p ∈ (kl, a) :: (du, x) :: (to, b) :: (I2, c) :: (T2, d) :: (I, e) :: (T1, f) :: (own1 ++ own), p ∈ (du, x) :: offD du (own1 ++ (kl, a) :: (I2, c) :: (T2, d) :: (du, x0) :: (to, b) :: (I, e) :: (T1, f) :: own) := by
  intro p hp
  rw [List.mem_cons, mem_off, List.mem_append]
  simp only [List.mem_cons, List.mem_append] at hp ⊢
  rcases hp with h | h | h | h | h | h | h | h | h
  · subst h; exact .inr ⟨.inr (.inl rfl), hk⟩
  · exact .inl h
  · subst h; exact .inr ⟨.inr (.inr (.inr (.inr (.inr (.inl rfl))))), ht⟩
  · subst h; exact .inr ⟨.inr (.inr (.inl rfl)), hI2⟩
  · subst h; exact .inr ⟨.inr (.inr (.inr (.inl rfl))), hT2⟩
  · subst h; exact .inr ⟨.inr (.inr (.inr (.inr (.inr (.inr (.inl rfl)))))), hI⟩
  · subst h; exact .inr ⟨.inr (.inr (.inr (.inr (.inr (.inr (.inr (.inl rfl))))))), hT1⟩
  · exact .inr ⟨.inl h, ho1 p h⟩
  · exact .inr ⟨.inr (.inr (.inr (.inr (.inr (.inr (.inr (.inr h))))))), ho p h⟩
theorem led4 {own1 own : List (Addr × Obj)} {kl du to I2 T2 I T1 : Addr} {a x y b c d e f : Obj} (ht : du ≠ to) (hI2 : I2 ≠ to) (hT2 : T2 ≠ to) (hI : I ≠ to) (hT1 : T1 ≠ to) (ho1 : ∀ p ∈ own1, p.1 ≠ to) (ho : ∀ p ∈ own, p.1 ≠ to) :
    ∀ p ∈ (to, y) :: (du, x) :: (I2, c) :: (T2, d) :: (I, e) :: (T1, f) :: (own1 ++ own), p ∈ (to, y) :: offD to (own1 ++ (kl, a) :: (du, x) :: (to, b) :: (I2, c) :: (T2, d) :: (I, e) :: (T1, f) :: own) := by
  intro p hp
  rw [List.mem_cons, mem_off, List.mem_append]
  simp only [List.mem_cons, List.mem_append] at hp ⊢
  rcases hp with h | h | h | h | h | h | h | h
  · exact .inl h
  · subst h; exact .inr ⟨.inr (.inr (.inl rfl)), ht⟩
  · subst h; exact .inr ⟨.inr (.inr (.inr (.inr (.inl rfl)))), hI2⟩
  · subst h; exact .inr ⟨.inr (.inr (.inr (.inr (.inr (.inl rfl))))), hT2⟩
  · subst h; exact .inr ⟨.inr (.inr (.inr (.inr (.inr (.inr (.inl rfl)))))), hI⟩
  · subst h; exact .inr ⟨.inr (.inr (.inr (.inr (.inr (.inr (.inr (.inl rfl))))))), hT1⟩
  · exact .inr ⟨.inl h, ho1 p h⟩
  · exact .inr ⟨.inr (.inr (.inr (.inr (.inr (.inr (.inr (.inr h))))))), ho p h⟩
theorem led5 {α : Type} {t d i u j v : α} {l : List α} : ∀ p ∈ i :: u :: d :: t :: ([j, v] ++ l), p ∈ t :: d :: i :: u :: j :: v :: l := by
  intro p hp
  simp only [List.cons_append, List.nil_append, List.mem_cons] at hp ⊢
  rcases hp with h | h | h | h | h | h | h <;> simp only [h, true_or, or_true]
theorem off_of {news own : List (Addr × Obj)} (h : ∀ q ∈ news, ∀ p ∈ own, q.1 < p.1) {a : Addr} {o : Obj} (hm : (a, o) ∈ news) : ∀ p ∈ own, p.1 ≠ a := fun p hp => Ne.symm (Nat.ne_of_lt (h _ hm p hp))
end
end Mine
end
section
open PySem PySem.W PySem.Calls PyProof.Rows PySem.Spec
set_option Elab.async false
set_option maxRecDepth 100000
set_option linter.unusedVariables false
namespace Mine
local macro_rules | `(tactic| walk_at "pyIter ref") => `(tactic| (refine Hid.out ?_))
local macro_rules | `(tactic| walk_at "UnrEndW") => `(tactic| (refine Hid.out ?_))
local macro_rules | `(tactic| walk_at "execs cons") => `(tactic| ((with_reducible show wpAny _ _ (execs (Stmt.If (Expr.BoolOp BoolOp.Or _ _) _ _ _ :: _) _) _ _ _); refine Hid.out ?_))
local macro_rules | `(tactic| walk_at "execs cons") => `(tactic| ((with_reducible show wpAny _ _ (execs (Stmt.Assign [Expr.Name (PySem.Str.ofString "known") _] _ _ :: _) _) _ _ _); refine Hid.out ?_))
local macro_rules | `(tactic| walk_at "compareOp Eq ref") => `(tactic| ((with_reducible show wpAny _ _ (compareOp CmpOp.Eq (Value.ref _) (Value.ref _)) _ _ _); (rename News _ _ _ _ => N'); (rename Two _ _ _ _ _ _ _ _ _ _ => T'); k_dflt (refine' eq_two N' ?a ?b T' ?c ?u ?_; (case a => k_mem); (case b => k_mem); (case c => exact fun _ hp => .tail _ (.tail _ (.tail _ hp))); (case u => first | decide +kernel | ktr_units); k_whole); (try dsimp only)))
local macro_rules | `(tactic| walk_at "call ref") => `(tactic| ((with_reducible show wpAny _ _ (call (Value.ref 337) _) _ _ _); k_dflt (refine' c_line ?k1 ?k2 ?k3 ?k4 ?k5 ?kK ?hi ?hn ?hd ?hu ?_; (case k1 => assumption); (case k2 => k_asm); (case k3 => k_asm); (case k4 => k_asm); (case k5 => k_asm); (case kK => exact rfl); (case hi => assumption); (case hn => assumption); (case hd => decide +kernel); (case hu => decide +kernel); k_whole); intro _ _ _ _ hy' F' N'; (try dsimp only)))
local macro_rules | `(tactic| walk_at "call ref") => `(tactic| ((with_reducible show wpAny _ _ (call (Value.ref 351) _) _ _ _); k_dflt (refine' c_due ?k1 ?k2 ?k3 ?k4 ?k5 ?kK ?hx ?hkn ?hd ?hu ?_; (case k1 => assumption); (case k2 => k_asm); (case k3 => k_asm); (case k4 => k_asm); (case k5 => k_asm); (case kK => exact rfl); (case hx => assumption); (case hkn => assumption); (case hd => decide +kernel); (case hu => decide +kernel); k_whole); intro _ _ _ _ _ _ F' N'; (try dsimp only)))
local macro_rules | `(tactic| walk_at "call ref") => `(tactic| ((with_reducible show wpAny _ _ (call (Value.ref 358) _) _ _ _); k_dflt (refine' c_told ?k1 ?k2 ?k3 ?k4 ?k5 ?kK ?kX ?kT ?hx ?hkn ?_; (case k1 => assumption); (case k2 => k_asm); (case k3 => k_asm); (case k4 => k_asm); (case k5 => k_asm); (case kK => exact rfl); (case kX => k_asm); (case kT => k_asm); (case hx => assumption); (case hkn => assumption); k_whole); intro _ _ _ _ _ _ F' N'; (try dsimp only)))
local macro_rules | `(tactic| walk_at "call builtin:list.append") => `(tactic| ((with_reducible show wpAny _ _ (call (Value.builtin "list.append") [Value.ref _, Value.ref _]) _ _ _); (rename Fr _ _ _ _ => F'); (rename News _ _ _ _ => N'); k_dflt (refine' append_at F' N' ?m ?z ?_; (case m => exact List.mem_append_right _ (by k_mem)); (case z => assumption); k_whole); intro _ F' N'; (try dsimp only)))
set_option maxHeartbeats 16000000 in
theorem law_thm : PySem.Challenge.rw_ez0282_01.Holds := Mine.hd (by
  k_with_none
  w_top off
  k_go0
  all_goals (try k_fold)
  rename World => w
  rename Shared => s1
  k_steps
  refine Hid.mk ?_
  rename_i ns hs hlay0 hL1 hr1 hl2 w4 w3 sc vs0 w0 hLs ra w1x r0 hI hr0 hlen hcond K0 hD h1x to h4 l14 h3 tk3 du h2 l12 h1 T1 hx F0 N0 l10
  have B0 : Below callerA s1.heap [] s1.heap := K0
  rename Frag.In _ _ => X0
  rename Top _ _ _ _ _ _ => T0
  k_dflt (refine two_loop (bs := [(Str.ofString "script", .ref sc), (Str.ofString "told", .ref to), (Str.ofString "due", .ref du)]) (as := []) (R := []) (c := 0) (k := 2) (vs := [.int 0 _, .int 12 _, .int 24 _, .int 36 _, .int 48 _]) (dv := []) (tv := []) (own := []) rfl F0 N0 rfl rfl ?_ ?_ ?_)
  · intro I hI
    exact ⟨List.forall_mem_cons.mpr ⟨rfl, List.forall_mem_cons.mpr ⟨rfl, List.forall_mem_cons.mpr ⟨rfl, List.forall_mem_nil _⟩⟩⟩, ⟨[], .nil, .nil, List.forall_mem_nil _, Nat.le_refl _⟩, List.forall_mem_nil _⟩
  · intro lo I j v m h tk o dv tv n1 n2 own hj hv hdI htI hTI hRI hT ho F1 N1
    have F2 : Fr s1.heap s1.heap.objs.size h (over [(Str.ofString "script", .ref sc), (Str.ofString "told", .ref to), (Str.ofString "due", .ref du)] m) := by rw [over_eq hT.names]; exact F1
    have N2 : News s1.heap s1.heap.objs.size h ((I, o) :: (T1, lo) :: (du, listOf dv.toArray n1) :: (to, listOf tv.toArray n2) :: own) := N1
    clear F0 N0 F1 N1
    obtain ⟨kk, tkk, rfl, hk0, hk1⟩ : ∃ kk tkk, v = .int kk tkk ∧ 0 ≤ kk ∧ kk ≤ 48 := by
      simp only [List.mem_cons, List.not_mem_nil, or_false] at hv
      rcases hv with rfl | rfl | rfl | rfl | rfl <;> exact ⟨_, _, rfl, by decide, by decide⟩
    k_steps
    refine Hid.mk ?_
    (rename Fr _ _ _ _ => Fa); (rename News _ _ _ _ => Na)
    refine wpAny_execs_cons ?_
    refine if_cut (fun b s' => Hid (MidP s1 s1.heap s1.heap.objs.size [(Str.ofString "script", .ref sc), (Str.ofString "told", .ref to), (Str.ofString "due", .ref du), (Str.ofString "k", .int kk tkk)] ((I, o) :: (T1, lo) :: (du, listOf dv.toArray n1) :: (to, listOf tv.toArray n2) :: own) s')) ?_ ?_ ?_
    · k_steps
      all_goals (try dsimp only)
      all_goals exact Hid.mk ⟨_, _, _, rfl, by assumption, List.forall_mem_cons.mpr ⟨rfl, List.forall_mem_cons.mpr ⟨rfl, List.forall_mem_cons.mpr ⟨rfl, List.forall_mem_cons.mpr ⟨rfl, List.forall_mem_nil _⟩⟩⟩⟩, by assumption⟩
    · intro s' hM
      obtain ⟨h3, tk3, m3, rfl, F3, N3⟩ := hM.out.out
      clear Fa Na hM
      refine cut_execs 1 (fun s' => Hid (∃ r rv rn rns, MidP s1 s1.heap s1.heap.objs.size [(Str.ofString "script", .ref sc), (Str.ofString "told", .ref to), (Str.ofString "due", .ref du), (Str.ofString "row", .ref r)] ((r, listOf rv.toArray rn) :: (I, o) :: (T1, lo) :: (du, listOf dv.toArray n1) :: (to, listOf tv.toArray n2) :: own) s' ∧ IntsAre rv rns ∧ rns.length ≤ 12 ∧ I < r ∧ T1 < r ∧ du < r ∧ to < r ∧ AllLt r own)) ?_ ?_
      · simp only [List.take_succ_cons, List.take_zero]
        k_steps
        dsimp only
        exact Hid.mk ⟨_, _, _, _, ⟨_, _, _, rfl, by assumption, List.forall_mem_cons.mpr ⟨rfl, List.forall_mem_cons.mpr ⟨rfl, List.forall_mem_cons.mpr ⟨rfl, List.forall_mem_cons.mpr ⟨rfl, List.forall_mem_nil _⟩⟩⟩⟩, by assumption⟩, by assumption, by rw [List.length_take]; omega, by assumption⟩
      intro s' hM
      obtain ⟨r, rv, rn, rns, hM, hri, hrl, hrI, hrT, hrd, hrt, hro⟩ := hM.out
      obtain ⟨h5, tk5, m5, rfl, F5, N5⟩ := hM.out
      clear F3 N3 hM
      simp only [List.drop_succ_cons, List.drop_zero]
      refine cut_execs 1 (fun s' => Hid (∃ y ty, MidP s1 s1.heap s1.heap.objs.size [(Str.ofString "script", .ref sc), (Str.ofString "told", .ref to), (Str.ofString "due", .ref du), (Str.ofString "row", .ref r), (Str.ofString "line", .str y ty)] ((r, listOf rv.toArray rn) :: (I, o) :: (T1, lo) :: (du, listOf dv.toArray n1) :: (to, listOf tv.toArray n2) :: own) s' ∧ Okay 64 y)) ?_ ?_
      · simp only [List.take_succ_cons, List.take_zero]
        k_steps
        dsimp only
        exact Hid.mk ⟨_, _, ⟨_, _, _, rfl, by assumption, List.forall_mem_cons.mpr ⟨rfl, List.forall_mem_cons.mpr ⟨rfl, List.forall_mem_cons.mpr ⟨rfl, List.forall_mem_cons.mpr ⟨rfl, List.forall_mem_cons.mpr ⟨rfl, List.forall_mem_nil _⟩⟩⟩⟩⟩, by assumption⟩, by assumption⟩
      intro s' hM
      obtain ⟨y, ty, hM, hy⟩ := hM.out
      obtain ⟨h6, tk6, m6, rfl, F6, N6⟩ := hM.out
      clear F5 N5 hM
      simp only [List.drop_succ_cons, List.drop_zero]
      refine cut_execs 1 (fun s' => Hid (∃ lb, MidP s1 s1.heap s1.heap.objs.size [(Str.ofString "script", .ref sc), (Str.ofString "told", .ref to), (Str.ofString "due", .ref du), (Str.ofString "line", .str y ty), (Str.ofString "lean", .bool lb)] ((r, listOf rv.toArray rn) :: (I, o) :: (T1, lo) :: (du, listOf dv.toArray n1) :: (to, listOf tv.toArray n2) :: own) s')) ?_ ?_
      · simp only [List.take_succ_cons, List.take_zero]
        k_steps
        all_goals (try dsimp only)
        all_goals exact Hid.mk ⟨_, _, _, _, rfl, by assumption, List.forall_mem_cons.mpr ⟨rfl, List.forall_mem_cons.mpr ⟨rfl, List.forall_mem_cons.mpr ⟨rfl, List.forall_mem_cons.mpr ⟨rfl, List.forall_mem_cons.mpr ⟨rfl, List.forall_mem_nil _⟩⟩⟩⟩⟩, by assumption⟩
      intro s' hM
      obtain ⟨lb, hM⟩ := hM.out
      obtain ⟨h7, tk7, m7, rfl, F7, N7⟩ := hM.out
      clear F6 N6 hM
      simp only [List.drop_succ_cons, List.drop_zero]
      k_steps
      refine Hid.mk ?_
      rename_i T2 hx2 Fb Nb l2
      k_dflt (refine two_loop (bs := [(Str.ofString "script", .ref sc), (Str.ofString "told", .ref to), (Str.ofString "due", .ref du), (Str.ofString "line", .str y ty), (Str.ofString "lean", .bool lb)]) (as := [I]) (R := [(I, o), (T1, lo)]) (c := 0 + 2 * j) (k := 1) (vs := [.bool false, .bool true]) (dv := dv) (tv := tv) (own := own) rfl Fb (news_sub Nb led1) rfl rfl ?_ ?_ ?_)
      · intro I2 hI2
        exact hT.keep (List.forall_mem_cons.mpr ⟨rfl, List.forall_mem_cons.mpr ⟨rfl, List.forall_mem_cons.mpr ⟨rfl, List.forall_mem_cons.mpr ⟨rfl, List.forall_mem_cons.mpr ⟨rfl, List.forall_mem_nil _⟩⟩⟩⟩⟩) (Nat.le_refl _) (fun p hp => ⟨hI2 p hp, List.forall_mem_cons.mpr ⟨(hT.off p hp).2.2.1, List.forall_mem_nil _⟩⟩)
      · intro lo2 I2 j2 v m h tk o2 dv2 tv2 n12 n22 own2 hj2 hv2 hdI2 htI2 hTI2 hRI2 hT2 ho2 Fc Nc
        have Fd : Fr s1.heap s1.heap.objs.size h (over [(Str.ofString "script", .ref sc), (Str.ofString "told", .ref to), (Str.ofString "due", .ref du), (Str.ofString "line", .str y ty), (Str.ofString "lean", .bool lb)] m) := by rw [over_eq hT2.names]; exact Fc
        have Nd : News s1.heap s1.heap.objs.size h ((I2, o2) :: (T2, lo2) :: (du, listOf dv2.toArray n12) :: (to, listOf tv2.toArray n22) :: (I, o) :: (T1, lo) :: own2) := Nc
        clear Fb Nb Fc Nc
        obtain ⟨b, rfl⟩ : ∃ b, v = .bool b := by
          simp only [List.mem_cons, List.not_mem_nil, or_false] at hv2
          rcases hv2 with rfl | rfl <;> exact ⟨_, rfl⟩
        k_steps
        refine Hid.mk ?_
        (rename Fr _ _ _ _ => Fa); (rename News _ _ _ _ => Na)
        have hI2n : ∀ q ∈ [(I, o), (T1, lo)], q.1 ≠ I2 := hRI2
        have hl2 := hT2.len (by have h1 : j < 5 := hj; have h2 : j2 < 2 := hj2; omega)
        have hdl := hl2.1
        have htl := hl2.2
        refine cut_execs 1 (fun s' => Hid (∃ kl kvs kn, MidP s1 s1.heap s1.heap.objs.size [(Str.ofString "script", .ref sc), (Str.ofString "told", .ref to), (Str.ofString "due", .ref du), (Str.ofString "line", .str y ty), (Str.ofString "lean", .bool lb), (Str.ofString "strict", .bool b), (Str.ofString "known", .ref kl)] ((kl, listOf kvs.toArray kn) :: (I2, o2) :: (T2, lo2) :: (du, listOf dv2.toArray n12) :: (to, listOf tv2.toArray n22) :: (I, o) :: (T1, lo) :: own2) s' ∧ DatAll [] kvs (knownD (!(lb && b))) ∧ du < kl ∧ to < kl)) ?_ ?_
        · simp only [List.take_succ_cons, List.take_zero]
          clear hT2
          refine wpAny_execs_cons ?_
          cases lb <;> cases b
          · k_steps
            (try dsimp only)
            exact Hid.mk ⟨_, _, _, ⟨_, _, _, rfl, by assumption, List.forall_mem_cons.mpr ⟨rfl, List.forall_mem_cons.mpr ⟨rfl, List.forall_mem_cons.mpr ⟨rfl, List.forall_mem_cons.mpr ⟨rfl, List.forall_mem_cons.mpr ⟨rfl, List.forall_mem_cons.mpr ⟨rfl, List.forall_mem_cons.mpr ⟨rfl, List.forall_mem_nil _⟩⟩⟩⟩⟩⟩⟩, by assumption⟩, .cons (.str _ _) (.cons (.str _ _) .nil), (by assumption : _ ∧ _ ∧ du < _ ∧ to < _ ∧ _).2.2.1, (by assumption : _ ∧ _ ∧ du < _ ∧ to < _ ∧ _).2.2.2.1⟩
          · k_steps
            (try dsimp only)
            exact Hid.mk ⟨_, _, _, ⟨_, _, _, rfl, by assumption, List.forall_mem_cons.mpr ⟨rfl, List.forall_mem_cons.mpr ⟨rfl, List.forall_mem_cons.mpr ⟨rfl, List.forall_mem_cons.mpr ⟨rfl, List.forall_mem_cons.mpr ⟨rfl, List.forall_mem_cons.mpr ⟨rfl, List.forall_mem_cons.mpr ⟨rfl, List.forall_mem_nil _⟩⟩⟩⟩⟩⟩⟩, by assumption⟩, .cons (.str _ _) (.cons (.str _ _) .nil), (by assumption : _ ∧ _ ∧ du < _ ∧ to < _ ∧ _).2.2.1, (by assumption : _ ∧ _ ∧ du < _ ∧ to < _ ∧ _).2.2.2.1⟩
          · k_steps
            (try dsimp only)
            exact Hid.mk ⟨_, _, _, ⟨_, _, _, rfl, by assumption, List.forall_mem_cons.mpr ⟨rfl, List.forall_mem_cons.mpr ⟨rfl, List.forall_mem_cons.mpr ⟨rfl, List.forall_mem_cons.mpr ⟨rfl, List.forall_mem_cons.mpr ⟨rfl, List.forall_mem_cons.mpr ⟨rfl, List.forall_mem_cons.mpr ⟨rfl, List.forall_mem_nil _⟩⟩⟩⟩⟩⟩⟩, by assumption⟩, .cons (.str _ _) (.cons (.str _ _) .nil), (by assumption : _ ∧ _ ∧ du < _ ∧ to < _ ∧ _).2.2.1, (by assumption : _ ∧ _ ∧ du < _ ∧ to < _ ∧ _).2.2.2.1⟩
          · k_steps
            (try dsimp only)
            exact Hid.mk ⟨_, _, _, ⟨_, _, _, rfl, by assumption, List.forall_mem_cons.mpr ⟨rfl, List.forall_mem_cons.mpr ⟨rfl, List.forall_mem_cons.mpr ⟨rfl, List.forall_mem_cons.mpr ⟨rfl, List.forall_mem_cons.mpr ⟨rfl, List.forall_mem_cons.mpr ⟨rfl, List.forall_mem_cons.mpr ⟨rfl, List.forall_mem_nil _⟩⟩⟩⟩⟩⟩⟩, by assumption⟩, .cons (.str _ _) .nil, (by assumption : _ ∧ _ ∧ du < _ ∧ to < _ ∧ _).2.2.1, (by assumption : _ ∧ _ ∧ du < _ ∧ to < _ ∧ _).2.2.2.1⟩
        intro s' hM
        obtain ⟨kl, kvs, kn, hM, hkv, hkd, hkt⟩ := hM.out
        obtain ⟨h8, tk8, m8, rfl, F8, N8⟩ := hM.out
        clear Fa Na hM
        simp only [List.drop_succ_cons, List.drop_zero]
        refine cut_execs 1 (fun s' => Hid (∃ (l : Addr) (own1 : List (Addr × Obj)) (n' : Nat), MidP s1 s1.heap s1.heap.objs.size [(Str.ofString "script", .ref sc), (Str.ofString "told", .ref to), (Str.ofString "due", .ref du), (Str.ofString "line", .str y ty), (Str.ofString "lean", .bool lb), (Str.ofString "strict", .bool b), (Str.ofString "known", .ref kl)] ((kl, listOf kvs.toArray kn) :: (du, listOf (dv2 ++ [Value.ref l]).toArray n') :: (to, listOf tv2.toArray n22) :: (I2, o2) :: (T2, lo2) :: (I, o) :: (T1, lo) :: (own1 ++ own2)) s' ∧ DatIn own1 (.ref l) (dueD (tl y) b (!(lb && b))) ∧ (∀ p ∈ own1, p.1 ≠ du ∧ p.1 ≠ to ∧ p.1 ≠ I2 ∧ p.1 ≠ I))) ?_ ?_
        · simp only [List.take_succ_cons, List.take_zero]
          k_steps
          all_goals (try dsimp only)
          rename_i l own1 hx1 tx1 hDI hLt Fx Nx hz1 Fz Nz
          exact Hid.mk ⟨l, own1, _, ⟨_, _, _, rfl, Fz, List.forall_mem_cons.mpr ⟨rfl, List.forall_mem_cons.mpr ⟨rfl, List.forall_mem_cons.mpr ⟨rfl, List.forall_mem_cons.mpr ⟨rfl, List.forall_mem_cons.mpr ⟨rfl, List.forall_mem_cons.mpr ⟨rfl, List.forall_mem_cons.mpr ⟨rfl, List.forall_mem_nil _⟩⟩⟩⟩⟩⟩⟩, news_sub Nz (led3 (Nat.ne_of_gt hkd) (Nat.ne_of_lt l12) (Ne.symm hdI2) (Nat.ne_of_gt l2.2.2.2.1) (Ne.symm hdI) (Nat.ne_of_gt l10.1) (off_of hLt (.tail _ (.tail _ (.head _)))) (fun p hp => (hT2.off p hp).1))⟩, hDI, fun p hp => ⟨off_of hLt (.tail _ (.tail _ (.head _))) p hp, off_of hLt (.tail _ (.tail _ (.tail _ (.head _)))) p hp, off_of hLt (.head _) p hp, off_of hLt (.tail _ (.tail _ (.tail _ (.tail _ (.head _))))) p hp⟩⟩
        intro s' hM
        obtain ⟨l, own1, n', hM, hin1, hoff1⟩ := hM.out
        obtain ⟨h9, tk9, m9, rfl, F9, N9⟩ := hM.out
        clear F8 N8 hM
        simp only [List.drop_succ_cons, List.drop_zero]
        refine cut_execs 1 (fun s' => Hid (∃ (l' : Addr) (own3 : List (Addr × Obj)) (n'' : Nat), MidP s1 s1.heap s1.heap.objs.size [(Str.ofString "script", .ref sc), (Str.ofString "told", .ref to), (Str.ofString "due", .ref du), (Str.ofString "line", .str y ty), (Str.ofString "lean", .bool lb)] ((to, listOf (tv2 ++ [Value.ref l']).toArray n'') :: (du, listOf (dv2 ++ [Value.ref l]).toArray n') :: (I2, o2) :: (T2, lo2) :: (I, o) :: (T1, lo) :: (own3 ++ (own1 ++ own2))) s' ∧ DatIn own3 (.ref l') (dueD (tl y) b (!(lb && b))) ∧ (∀ p ∈ own3, p.1 ≠ du ∧ p.1 ≠ to ∧ p.1 ≠ I2 ∧ p.1 ≠ I))) ?_ ?_
        · simp only [List.take_succ_cons, List.take_zero]
          k_steps
          all_goals (try dsimp only)
          rename_i l' own3 hx1 tx1 hDI hLt Fx Nx hz1 Fz Nz
          exact Hid.mk ⟨l', own3, _, ⟨_, _, _, rfl, Fz, List.forall_mem_cons.mpr ⟨rfl, List.forall_mem_cons.mpr ⟨rfl, List.forall_mem_cons.mpr ⟨rfl, List.forall_mem_cons.mpr ⟨rfl, List.forall_mem_cons.mpr ⟨rfl, List.forall_mem_nil _⟩⟩⟩⟩⟩, news_sub Nz (led4 (Nat.ne_of_gt l12) (Ne.symm htI2) (Nat.ne_of_gt l2.2.2.2.2.1) (Ne.symm htI) (Nat.ne_of_gt l10.2) (off_of hLt (.tail _ (.head _))) (fun p hp => (List.mem_append.mp hp).elim (fun hp => (hoff1 p hp).2.1) (fun hp => (hT2.off p hp).2.1)))⟩, hDI, fun p hp => ⟨off_of hLt (.head _) p hp, off_of hLt (.tail _ (.head _)) p hp, off_of hLt (.tail _ (.tail _ (.head _))) p hp, off_of hLt (.tail _ (.tail _ (.tail _ (.tail _ (.head _))))) p hp⟩⟩
        intro s' hM
        obtain ⟨l', own3, n'', hM, hin3, hoff3⟩ := hM.out
        obtain ⟨h10, tk10, m10, rfl, F10, N10⟩ := hM.out
        clear F9 N9 hM
        simp only [List.drop_succ_cons, List.drop_zero]
        k_steps
        refine Hid.mk ?_
        exact two_end F10 N10 led5 hdI2 htI2 hTI2 hRI2 (hT2.snoc (own' := own3 ++ (own1 ++ own2)) (List.forall_mem_cons.mpr ⟨rfl, List.forall_mem_cons.mpr ⟨rfl, List.forall_mem_cons.mpr ⟨rfl, List.forall_mem_cons.mpr ⟨rfl, List.forall_mem_cons.mpr ⟨rfl, List.forall_mem_nil _⟩⟩⟩⟩⟩) (fun p hp => List.mem_append_right _ (List.mem_append_right _ hp)) (hin1.mono fun p hp => List.mem_append_right _ (List.mem_append_left _ hp)) (hin3.mono fun p hp => List.mem_append_left _ hp) (due_ok fun c hc => hy.ascii c hc) (fun p hp => by
          rcases List.mem_append.mp hp with hp | hp
          · exact ⟨(hoff3 p hp).1, (hoff3 p hp).2.1, (hoff3 p hp).2.2.1, List.forall_mem_cons.mpr ⟨(hoff3 p hp).2.2.2, List.forall_mem_nil _⟩⟩
          · rcases List.mem_append.mp hp with hp | hp
            · exact ⟨(hoff1 p hp).1, (hoff1 p hp).2.1, (hoff1 p hp).2.2.1, List.forall_mem_cons.mpr ⟨(hoff1 p hp).2.2.2, List.forall_mem_nil _⟩⟩
            · exact hT2.off p hp) (by omega))
      · intro lo2 I2 m h tk dv2 tv2 n12 n22 own2 hT2 Fc Nc
        have Fd : Fr s1.heap s1.heap.objs.size h (over [(Str.ofString "script", .ref sc), (Str.ofString "told", .ref to), (Str.ofString "due", .ref du), (Str.ofString "line", .str y ty), (Str.ofString "lean", .bool lb)] m) := by rw [over_eq hT2.names]; exact Fc
        have Nd : News s1.heap s1.heap.objs.size h ((T2, lo2) :: (du, listOf dv2.toArray n12) :: (to, listOf tv2.toArray n22) :: (I, o) :: (T1, lo) :: own2) := Nc
        clear Fb Nb Fc Nc
        k_steps
        refine Hid.mk ?_
        exact two_end Fd Nd led2 hdI htI hTI (List.forall_mem_nil _) (hT2.keep (List.forall_mem_cons.mpr ⟨rfl, List.forall_mem_cons.mpr ⟨rfl, List.forall_mem_cons.mpr ⟨rfl, List.forall_mem_nil _⟩⟩⟩) (by show 0 + 2 * j + 1 * 2 ≤ 0 + 2 * (j + 1); omega) (fun p hp => ⟨(hT2.off p hp).2.2.2 I (.head _), List.forall_mem_nil _⟩))
    · intro s' hM
      obtain ⟨h3, tk3, m3, rfl, F3, N3⟩ := hM.out.out
      clear Fa Na hM
      k_steps
      refine Hid.mk ?_
      exact two_end F3 N3 (fun p hp => hp) hdI htI hTI (List.forall_mem_nil _) (hT.keep (List.forall_mem_cons.mpr ⟨rfl, List.forall_mem_cons.mpr ⟨rfl, List.forall_mem_cons.mpr ⟨rfl, List.forall_mem_nil _⟩⟩⟩) (by omega) (fun p hp => ⟨(hT.off p hp).2.2.1, List.forall_mem_nil _⟩))
  · intro lo I m h tk dv tv n1 n2 own hT F1 N1
    have F2 : Fr s1.heap s1.heap.objs.size h (over [(Str.ofString "script", .ref sc), (Str.ofString "told", .ref to), (Str.ofString "due", .ref du)] m) := by rw [over_eq hT.names]; exact F1
    have N2 : News s1.heap s1.heap.objs.size h ((T1, lo) :: (du, listOf dv.toArray n1) :: (to, listOf tv.toArray n2) :: own) := N1
    clear F0 N0 F1 N1
    k_steps)
end Mine
end
theorem PySem.Challenge.cw_ez0282_01_holds : PySem.Challenge.rw_ez0282_01.Holds :=
  Mine.law_thm
